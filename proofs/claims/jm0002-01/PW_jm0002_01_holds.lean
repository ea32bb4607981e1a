import PyProof.Rows.All
import Wide.All
import OpenK.AllK
import Wide.FinOn
import Lean
import PySem.Challenge.RW_jm0002_01
open PySem PySem.W PyProof.Rows PySem.Calls PySem.SeqAt
set_option Elab.async false
set_option maxRecDepth 100000
set_option maxHeartbeats 0
set_option compiler.extract_closed false
set_option genSizeOf false
set_option genSizeOfSpec false
set_option genInjectivity false
set_option linter.unusedVariables false
set_option tactic.hygienic false
set_option genCtorIdx false
set_option bootstrap.genMatcherCode false
set_option backward.match.sparseCases false
namespace Mine
noncomputable def jX:List Int->List Int->List Int
 | [],m=>m
 | a::l,[]=>a::l
 | a::l,b::m=>(a+b)::jX l m
noncomputable def j8(k:Int)(l:List Int):List Int:=l.map (k* ·)
noncomputable def FC:Nat->List Int
 | 0=>[1]
 | i+1=>0::FC i
noncomputable def gF(ρ:Nat->Int):Nat->List Int->Int
 | _,[]=>0
 | j,a::l=>a*ρ j+gF ρ (j+1) l
section
variable {ρ:Nat->Int}
theorem iw:∀(l m:List Int) (j:Nat),gF ρ j (jX l m)=gF ρ j l+gF ρ j m:=by
 intro l
 induction l with
 | nil=>exactλm j=>(Int.zero_add _).symm
 | cons a l ih=>
  intro m j
  cases m with
  | nil=>exact(Int.add_zero _).symm
  | cons b m=>
   show(a+b)*ρ j+gF ρ (j+1) (jX l m)=(a*ρ j+gF ρ (j+1) l)+(b*ρ j+gF ρ (j+1) m)
   rw[ih,Int.add_mul,Int.add_assoc,Int.add_assoc,Int.add_left_comm (b*ρ j)]
theorem mQ(k:Int):∀(l:List Int) (j:Nat),gF ρ j (j8 k l)=k*gF ρ j l:=by
 intro l
 induction l with
 | nil=>exactλj=>(Int.mul_zero k).symm
 | cons a l ih=>
  intro j
  show k*a*ρ j+gF ρ (j+1) (j8 k l)=k*(a*ρ j+gF ρ (j+1) l)
  rw[ih,Int.mul_add,Int.mul_assoc]
theorem xB:∀(i j:Nat),gF ρ j (FC i)=ρ (j+i):=by
 intro i
 induction i with
 | zero=>
  intro j
  show 1*ρ j+0=_;rw[Int.one_mul,Int.add_zero,Nat.add_zero]
 | succ i ih=>
  intro j
  show 0*ρ j+gF ρ (j+1) (FC i)=_;rw[Int.zero_mul,Int.zero_add,ih,Nat.add_right_comm];rfl
end
noncomputable def dN(r:Nat->Nat)(k o:Nat):Nat:=match o with
 | 0=>k/128
 | 1=>k/512
 | 2=>k/536870912
 | 3=>r (r (k/8))
 | _=>r (k/8192)
noncomputable def rN:Nat->Nat->Nat
 | 0,k=>k
 | f+1,k=>dN (rN f) k (k%8)
noncomputable def sN(ns:List Nat)(v r:Nat->Nat)(k o:Nat):Nat:=match o with
 | 0=>ns.getD (k/8%16) 0
 | 1=>k/8%64
 | 2=>k/8%67108864
 | 3=>v (k/8)+v (r (k/8))
 | 4=>k/8%1024*v (k/8192)
 | _=>v (k/8192)*(k/8%1024)
noncomputable def vN(ns:List Nat):Nat->Nat->Nat
 | 0,_=>0
 | f+1,k=>sN ns (vN ns f) (rN f) k (k%8)
noncomputable def sL(l:Nat->List Int)(r:Nat->Nat)(k o:Nat):List Int:=match o with
 | 0=>FC (2*(k/8%16)+1)
 | 1=>[((k/8%64:Nat):Int)]
 | 2=>[((k/8%67108864:Nat):Int)]
 | 3=>jX (l (k/8)) (l (r (k/8)))
 | _=>j8 ((k/8%1024:Nat):Int) (l (k/8192))
noncomputable def lN:Nat->Nat->List Int
 | 0,_=>[]
 | f+1,k=>sL (lN f) (rN f) k (k%8)
noncomputable def dI(r:Nat->Nat)(k o:Nat):Nat:=match o with
 | 0=>k/128
 | 1=>rN 9 (k/8)
 | 2=>k/536870912
 | 3=>r (r (k/8))
 | 4=>r (k/8192)
 | 5=>r (k/8192)
 | 6=>r (r (k/8))
 | _=>r (k/8)
noncomputable def rI:Nat->Nat->Nat
 | 0,k=>k
 | f+1,k=>dI (rI f) k (k%8)
noncomputable def sI(ns:List Nat)(is:List Int)(v:Nat->Int)(r:Nat->Nat)(k o:Nat):Int:=match o with
 | 0=>is.getD (k/8%16) 0
 | 1=>(vN ns 9 (k/8):Int)
 | 2=>((k/8%67108864:Nat):Int)
 | 3=>v (k/8)+v (r (k/8))
 | 4=>((k/8%1024:Nat):Int)*v (k/8192)
 | 5=>v (k/8192)*((k/8%1024:Nat):Int)
 | 6=>v (k/8)-v (r (k/8))
 | _=> -v (k/8)
noncomputable def vI(ns:List Nat)(is:List Int):Nat->Nat->Int
 | 0,_=>0
 | f+1,k=>sI ns is (vI ns is f) (rI f) k (k%8)
noncomputable def sM(l:Nat->List Int)(r:Nat->Nat)(k o:Nat):List Int:=match o with
 | 0=>FC (2*(k/8%16)+2)
 | 1=>lN 9 (k/8)
 | 2=>[((k/8%67108864:Nat):Int)]
 | 3=>jX (l (k/8)) (l (r (k/8)))
 | 4=>j8 ((k/8%1024:Nat):Int) (l (k/8192))
 | 5=>j8 ((k/8%1024:Nat):Int) (l (k/8192))
 | 6=>jX (l (k/8)) (j8 (-1) (l (r (k/8))))
 | _=>j8 (-1) (l (k/8))
noncomputable def lI:Nat->Nat->List Int
 | 0,_=>[]
 | f+1,k=>sM (lI f) (rI f) k (k%8)
noncomputable def rho(ns:List Nat)(is:List Int)(j:Nat):Int:=if j=0 then 1 else if j%2=1 then((ns.getD (j/2) 0:Nat):Int)else is.getD (j/2-1) 0
section
variable {ns:List Nat}{is:List Int}
theorem HH(i:Nat):rho ns is (0+(2*i+1))=((ns.getD i 0:Nat):Int):=by
 unfold rho
 rw[Nat.zero_add,if_neg (Nat.succ_ne_zero (2*i)),if_pos (Nat.mul_add_mod 2 i 1),Nat.mul_add_div (by decide) i 1];rfl
theorem F4(i:Nat):rho ns is (0+(2*i+2))=is.getD i 0:=by
 unfold rho
 rw[Nat.zero_add,if_neg (Nat.succ_ne_zero (2*i+1)),if_neg (by rw[Nat.mul_add_mod];decide),Nat.mul_add_div (by decide) i 2];rfl
theorem iq(a:Int):gF (rho ns is) 0 [a]=a:=by show a*1+0=a;rw[Int.mul_one,Int.add_zero]
def Is(ns:List Nat)(is:List Int)(l:List Int)(x:Int):Prop:=gF (rho ns is) 0 l=x
theorem Is.add{l m:List Int}{x y:Int}(p:Is ns is l x)(q:Is ns is m y):Is ns is (jX l m) (x+y):=by unfold Is;rw[iw,p,q]
theorem Is.mul{l:List Int}{x:Int}(m:Int)(p:Is ns is l x):Is ns is (j8 m l) (m*x):=by unfold Is;rw[mQ,p]
theorem iO(f:Nat):∀k,Is ns is (lN f k) (vN ns f k):=by
 induction f with
 | zero=>exactλk=>rfl
 | succ f ih=>
  intro k
  show Is ns is (sL (lN f) (rN f) k (k%8)) (sN ns (vN ns f) (rN f) k (k%8):Nat)
  generalize k%8=o
  match o with
  | 0=>exact(xB _ 0).trans (HH _)
  | 1=>exact iq _
  | 2=>exact iq _
  | 3=>exact Eq.trans ((ih _).add (ih _)) (Int.natCast_add ..).symm
  | 4=>exact Eq.trans ((ih _).mul _) (Int.natCast_mul ..).symm
  | _+5=>exact Eq.trans ((ih _).mul _) ((Int.mul_comm ..).trans (Int.natCast_mul ..).symm)
theorem lF(f:Nat):∀k,Is ns is (lI f k) (vI ns is f k):=by
 induction f with
 | zero=>exactλk=>rfl
 | succ f ih=>
  intro k
  show Is ns is (sM (lI f) (rI f) k (k%8)) (sI ns is (vI ns is f) (rI f) k (k%8))
  generalize k%8=o
  match o with
  | 0=>exact(xB _ 0).trans (F4 _)
  | 1=>exact iO 9 (k/8)
  | 2=>exact iq _
  | 3=>exact(ih _).add (ih _)
  | 4=>exact(ih _).mul _
  | 5=>exact Eq.trans ((ih _).mul _) (Int.mul_comm ..)
  | 6=>exact Eq.trans ((ih _).add ((ih _).mul (-1))) (by rw[Int.neg_one_mul];rfl)
  | _+7=>exact Eq.trans ((ih _).mul (-1)) (Int.neg_one_mul _)
end
noncomputable def uu:Nat->List Int->Bool
 | _,[]=>true
 | j,a::l=>(bif (decide (j=0)||decide (j%2=1))then decide (0<=a)else decide (a=0))&&uu (j+1) l
def gB(p:Prop)(c:Bool):Prop:=Bool.rec (motive:=λq0=>Prop) True p c
def gS(c:Bool)(ns:List Nat)(is:List Int)(r:Nat->Prop)(k o:Nat):Prop:=match o with
 | 0=>gB (vN ns 9 (k/8)<=vN ns 9 (rN 9 (k/8))) c
 | 1=>gB (vI ns is 9 (k/8)<=vI ns is 9 (rI 9 (k/8))) c
 | 2=>gB False c
 | 4=>vN ns 9 (k/16384)<=vN ns 9 (rN 9 (k/16384))->r (rN 9 (rN 9 (k/16384)))
 | 5=>vI ns is 9 (k/16384)<=vI ns is 9 (rI 9 (k/16384))->r (rI 9 (rI 9 (k/16384)))
 | 6=>vN ns 9 (k/16384)=vN ns 9 (rN 9 (k/16384))->r (rN 9 (rN 9 (k/16384)))
 | 7=>vI ns is 9 (k/16384)=vI ns is 9 (rI 9 (k/16384))->r (rI 9 (rI 9 (k/16384)))
 | _=>True
def Fx(c:Bool)(ns:List Nat)(is:List Int):Nat->Nat->Prop
 | 0,_=>True
 | f+1,k=>gS c ns is (Fx c ns is f) k (k%8)
noncomputable def jY(k:Int)(x y acc:List Int):List Int:=jX acc (j8 k (jX x (j8 (-1) y)))
noncomputable def cS(r:Nat->List Int->Bool)(k:Nat)(acc:List Int)(o:Nat):Bool:=match o with
 | 0=>uu 0 (jY 1 (lN 9 (rN 9 (k/8))) (lN 9 (k/8)) acc)
 | 1=>uu 0 (jY 1 (lI 9 (rI 9 (k/8))) (lI 9 (k/8)) acc)
 | 2=>uu 0 (jX acc [-1])
 | 4=>r (rN 9 (rN 9 (k/16384))) (jY (-(k/8%2048:Nat)) (lN 9 (rN 9 (k/16384))) (lN 9 (k/16384)) acc)
 | 5=>r (rI 9 (rI 9 (k/16384))) (jY (-(k/8%2048:Nat)) (lI 9 (rI 9 (k/16384))) (lI 9 (k/16384)) acc)
 | 6=>r (rN 9 (rN 9 (k/16384))) (jY ((k/8%2048:Nat)-1024) (lN 9 (rN 9 (k/16384))) (lN 9 (k/16384)) acc)
 | 7=>r (rI 9 (rI 9 (k/16384))) (jY ((k/8%2048:Nat)-1024) (lI 9 (rI 9 (k/16384))) (lI 9 (k/16384)) acc)
 | _=>true
noncomputable def Gf:Nat->Nat->List Int->Bool
 | 0,_,_=>true
 | f+1,k,acc=>cS (Gf f) k acc (k%8)
section
variable {ns:List Nat}{is:List Int}
theorem m8:∀(l:List Int) (j:Nat),uu j l=true->0<=gF (rho ns is) j l:=by
 intro l
 induction l with
 | nil=>exactλq0 q1=>Int.le_refl 0
 | cons a l ih=>
  intro j h
  have h:((bif (decide (j=0)||decide (j%2=1))then decide (0<=a)else decide (a=0))&&uu (j+1) l)=true:=h
  obtain⟨h1,h2⟩:=Bool.and_eq_true_iff.mp h
  refine Int.add_nonneg ?_ (ih _ h2)
  cases e:(decide (j=0)||decide (j%2=1))with
  | false=>rw[e]at h1;rw[of_decide_eq_true h1,Int.zero_mul];exact Int.le_refl 0
  | true=>
   rw[e]at h1
   refine Int.mul_nonneg (of_decide_eq_true h1) ?_
   unfold rho
   rcases Bool.or_eq_true_iff.mp e with e|e
   ·rw[if_pos (of_decide_eq_true e)];decide
   ·rw[if_neg (by have:=of_decide_eq_true e;omega),if_pos (of_decide_eq_true e)];exact Int.natCast_nonneg _
theorem iG(k:Int)(x y acc:List Int):gF (rho ns is) 0 (jY k x y acc)=gF (rho ns is) 0 acc+k*(gF (rho ns is) 0 x-gF (rho ns is) 0 y):=by
 unfold jY
 rw[iw,mQ,iw,mQ]
 congr 2;omega
theorem GB(f:Nat):∀(k:Nat) (acc:List Int),Gf f k acc=true->gF (rho ns is) 0 acc<=0->Fx true ns is f k:=by
 induction f with
 | zero=>exactλq0 q1 q2 q3=>trivial
 | succ f ih=>
  intro k acc h q
  have h:cS (Gf f) k acc (k%8)=true:=h
  show gS true ns is (Fx true ns is f) k (k%8)
  generalize k%8=o at h ⊢
  have le:∀{x y:List Int} {a b:Int} {m:Nat},gF (rho ns is) 0 x=a->gF (rho ns is) 0 y=b->a<=b->gF (rho ns is) 0 (jY (-(m:Int)) y x acc)<=0:=λ{x y a b m} ex ey z=>by
   rw[iG,ex,ey]
   have:0<=(m:Int)*(b-a):=Int.mul_nonneg (Int.natCast_nonneg _) (Int.sub_nonneg_of_le z)
   rw[Int.neg_mul];omega
  have eq:∀{x y:List Int} {a b m:Int},gF (rho ns is) 0 x=a->gF (rho ns is) 0 y=b->a=b->gF (rho ns is) 0 (jY m y x acc)<=0:=λ{x y a b m} ex ey z=>by
   rw[iG,ex,ey,z,Int.sub_self,Int.mul_zero,Int.add_zero];exact q
  match o with
  | 0=>
   have:=m8 (ns:=ns) (is:=is) _ 0 h
   rw[iG,iO,iO]at this
   exact Int.ofNat_le.mp (by omega)
  | 1=>
   have:=m8 (ns:=ns) (is:=is) _ 0 h
   rw[iG,lF,lF]at this
   show vI ns is 9 (k/8)<=_
   omega
  | 2=>
   have:=m8 (ns:=ns) (is:=is) _ 0 h
   rw[iw,iq]at this
   show False
   omega
  | 3=>trivial
  | 4=>exactλz=>ih _ _ h (le (iO ..) (iO ..) (Int.ofNat_le.mpr z))
  | 5=>exactλz=>ih _ _ h (le (lF ..) (lF ..) z)
  | 6=>exactλz=>ih _ _ h (eq (iO ..) (iO ..) (congrArg Nat.cast z))
  | 7=>exactλz=>ih _ _ h (eq (lF ..) (lF ..) z)
  | _+8=>trivial
end
theorem jm(a b:Int)(h:decide (0<b)=true):0<=a%b:=Int.emod_nonneg a (Int.ne_of_gt (of_decide_eq_true h))
theorem gH(a b:Int)(h:decide (0<b)=true):a%b<b:=Int.emod_lt_of_pos a (of_decide_eq_true h)
theorem Kk(a b:Int):b*(a/b)+a%b=a:=Int.mul_ediv_add_emod a b
theorem N2(a b:Nat)(h:Nat.blt 0 b=true):a%b<b:=Nat.mod_lt a (Nat.blt_eq.mp h)
theorem cV(x:Int)(h:0<=x):(x.toNat:Int)=x:=Int.toNat_of_nonneg h
def Lx(x a:Int):Nat->Prop
 | 0=>x=a
 | n+1=>x=a\/Lx x (a+1) n
theorem Ge{x:Int}:∀(n:Nat) (a:Int),a<=x->x<=a+n->Lx x a n:=by
 intro n
 induction n with
 | zero=>exactλa h k=>Int.le_antisymm (Int.add_zero a▸k) h
 | succ n ih=>exactλa h k=>(Int.lt_or_eq_of_le h).symm.imp Eq.symm λh=>ih (a+1) h (by rw[Int.add_assoc,Int.add_comm 1];exact k)
def Lj(x a:Nat):Nat->Prop
 | 0=>x=a
 | n+1=>x=a\/Lj x (a+1) n
theorem Nn{x:Nat}:∀(n a:Nat),a<=x->x<=a+n->Lj x a n:=by
 intro n
 induction n with
 | zero=>exactλa h k=>Nat.le_antisymm k h
 | succ n ih=>exactλa h k=>(Nat.lt_or_eq_of_le h).symm.imp Eq.symm λh=>ih (a+1) h (by rw[Nat.add_assoc,Nat.add_comm 1];exact k)
theorem F9{ns:List Nat}{is:List Int}(f:Nat):∀k:Nat,Fx false ns is f k:=by
 induction f with
 | zero=>exactλq0=>trivial
 | succ f ih=>
  intro k
  show gS false ns is (Fx false ns is f) k (k%8)
  generalize k%8=o
  match o with
  | 0=>trivial
  | 1=>trivial
  | 2=>trivial
  | 3=>trivial
  | 4=>exactλq0=>ih _
  | 5=>exactλq0=>ih _
  | 6=>exactλq0=>ih _
  | 7=>exactλq0=>ih _
  | _+8=>trivial
def zw(ns:List Nat)(is:List Int)(k:Nat):Prop:=Fx (Gf 20 k []) ns is 20 k
theorem nl(ns:List Nat)(is:List Int)(k:Nat):zw ns is k:=by
 unfold zw
 cases h:Gf 20 k []with
 | false=>exact F9 20 k
 | true=>exact GB 20 k [] h (Int.le_refl 0)
theorem uA{a:Nat}(k:Nat):zw [a] [] k:=nl ..
theorem uB{a b:Nat}(k:Nat):zw [a,b] [] k:=nl ..
theorem uC{a b c:Nat}(k:Nat):zw [a,b,c] [] k:=nl ..
theorem uD{a b c d:Nat}(k:Nat):zw [a,b,c,d] [] k:=nl ..
theorem uE{a b c d e:Nat}(k:Nat):zw [a,b,c,d,e] [] k:=nl ..
theorem uI{x:Int}(k:Nat):zw [] [x] k:=nl ..
theorem uJ{x y:Int}(k:Nat):zw [] [x,y] k:=nl ..
theorem uK{a:Nat}{x:Int}(k:Nat):zw [a] [x] k:=nl ..
end Mine
namespace Mine
universe u
theorem bp{P:Prop}(k:∀G:Prop,(P->G)->G):P:=k P id
section
variable {α:Sort u}{e:Expr}
theorem call_of(h:e.ctorIdx=16):∃f as ks p,e=.Call f as ks p:=Expr.Call.elim (motive_1:=λe=>∃f as ks p,e=.Call f as ks p) e h λf as ks p=>⟨f,as,ks,p,rfl⟩
theorem Al(h:e.ctorIdx=23):∃x p,e=.Name x p:=Expr.Name.elim (motive_1:=λe=>∃x p,e=.Name x p) e h λx p=>⟨x,p,rfl⟩
noncomputable def rP(e:Expr)(p:Expr->List Expr->List Keyword->α)(q:α):α:=if h:e.ctorIdx=16 then Expr.Call.elim (motive_1:=λq0=>α) e h λf as ks q0=>p f as ks else q
noncomputable def nameQ(e:Expr)(p:Str->α)(q:α):α:=if h:e.ctorIdx=23 then Expr.Name.elim (motive_1:=λq0=>α) e h λx q0=>p x else q
theorem rE{p:Expr->List Expr->List Keyword->Prop}{q:Prop}(k:rP e p q):(∃f as ks pos,e=.Call f as ks pos/\p f as ks)\/q:=by
 by_cases h:e.ctorIdx=16
 ·obtain⟨f,as,ks,pos,rfl⟩:=call_of h
  exact .inl ⟨f,as,ks,pos,rfl,k⟩
 ·exact .inr ((dif_neg h).mp k)
theorem lU{p:Str->Prop}{q:Prop}(k:nameQ e p q):(∃x pos,e=.Name x pos/\p x)\/q:=by
 by_cases h:e.ctorIdx=23
 ·obtain⟨x,pos,rfl⟩:=Al h
  exact .inl ⟨x,pos,rfl,k⟩
 ·exact .inr ((dif_neg h).mp k)
end
theorem sn{α:Type}{x:Option α}{o:α}{C:Prop}(e:x=some o)(n:x=none):C:=nomatch n.symm.trans e
theorem dG{α:Type}{x:Option α}{o:α}(e:x=some o):x≠none:=λn=>sn e n
theorem g8{α:Type}{x y:Option α}(k:∀o,x=some o->y≠none)(e:y=none):x=none:=by
 cases x with
 | none=>rfl
 | some o=>exact absurd e (k o rfl)
theorem aM{α:Type}{x:Option α}{o o':α}(e:x=some o)(e':x=some o'):o=o':=Option.some.inj (e.symm.trans e')
structure nM(o o':Obj):Prop where
 c:o'.cls=o.cls
 z:o'.dict=o.dict
 d:o'.data=o.data
theorem nM.rfl'{o:Obj}:nM o o:=⟨rfl,rfl,rfl⟩
theorem nM.trans{a b c:Obj}(x:nM a b)(y:nM b c):nM a c:=⟨y.1.trans x.1,y.2.trans x.2,y.3.trans x.3⟩
def dF(fs:List Addr)(a:Addr)(o o':Obj):Prop:=o'=o\/(a∈fs/\nM o o')
theorem dF.rfl'{fs:List Addr}{a:Addr}{o:Obj}:dF fs a o o:=.inl rfl
theorem dF.like{fs:List Addr}{a:Addr}{o o':Obj}(x:dF fs a o o'):nM o o':=x.elim (λe=>e▸ .rfl') And.right
theorem dF.trans{fs:List Addr}{a:Addr}{o p q:Obj}(x:dF fs a o p)(y:dF fs a p q):dF fs a o q:=x.elim (λe=>e▸y) λx=>.inr ⟨x.1,x.2.trans y.like⟩
theorem dF.eq{fs:List Addr}{a:Addr}{o o':Obj}(n:a∉fs)(x:dF fs a o o'):o'=o:=x.elim id λx=>absurd x.1 n
noncomputable abbrev PH:=Addr->Option Obj
noncomputable def bh(all:List Env):List Addr:=all.filterMap (·.frame)
set_option genCtorIdx true in
inductive Ty where
 | int|bool|str|bytes|ba|list|dict|tuple|range|enumerate|super|typeErr|other
noncomputable def Ty.name:Ty->String
 |.int=>"int" |.bool=>"bool" |.str=>"str" |.bytes=>"bytes" |.ba=>"bytearray" |.list=>"list" |.dict=>"dict" |.tuple=>"tuple" |.range=>"range" |.enumerate=>"enumerate"
 |.super=>"super" |.typeErr=>"TypeError" |.other=>"object"
set_option genCtorIdx true in
inductive Bi where
 | len|isinstance|all|min|max|sorted|encode|decode|toBytes|fromBytes|append|baAppend|baExtend|pop
noncomputable def Bi.id:Bi->String
 |.len=>"len" |.isinstance=>"isinstance" |.all=>"all" |.min=>"min" |.max=>"max" |.sorted=>"sorted" |.encode=>"str.encode" |.decode=>"bytes.decode" |.toBytes=>"int.to_bytes"
 |.fromBytes=>"int.from_bytes" |.append=>"list.append" |.baAppend=>"bytearray.append" |.baExtend=>"bytearray.extend" |.pop=>"list.pop"
set_option genCtorIdx true in
inductive AV where
 | none|bool (b:Bool)|int (i:Int)|str (s:Str)|oc (k:Bool) (b:List UInt8)
 | list (l:List AV)|tuple (l:List AV)|dict (l:List (Str×AV))
 | inst (C:Addr) (fs:List (Str×AV))
 | ref (a:Addr)|ty (n:Ty)|bi (id:Bi)|tab (D:List (Int×Str))
inductive zO(i:Int)(v:Value):Prop
 | mk (t:Tok) (e:v=.int i t)
inductive IM(s:Str)(v:Value):Prop
 | mk (t:Tok) (e:v=.str s t)
inductive Hr(b:List UInt8)(v:Value):Prop
 | mk (x:Array UInt8) (t:Tok) (e:v=.bytes x t) (h:x.toList=b)
inductive BO(I:PH)(b:List UInt8)(v:Value):Prop
 | mk (a:Addr) (o:Obj) (x:Array UInt8) (e:v=.ref a) (i:I a=some o) (c:o.cls=.type "bytearray") (d:o.data=.bytearray x 0) (t:x.toList=b)
def Fy(I:PH)(k:Bool)(b:List UInt8)(v:Value):Prop:=match k with
 | true=>BO I b v
 | false=>Hr b v
inductive oz(I:PH)(L:List Value->Prop)(v:Value):Prop
 | mk (a:Addr) (o:Obj) (x:Array Value) (n:Nat) (e:v=.ref a) (i:I a=some o) (c:o.cls=.type "list") (d:o.data=.seq x n) (r:L x.toList)
inductive yn(I:PH)(L:List Value->Prop)(v:Value):Prop
 | mk (a:Addr) (x:Array Value) (e:v=.ref a) (i:I a=some {cls:=.type "tuple",data:=.seq x}) (r:L x.toList)
inductive nG(I:PH)(ks:List Str)(L:List DictEntry->Prop)(v:Value):Prop
 | mk (a:Addr) (o:Obj) (x:Array DictEntry) (n:Nat) (e:v=.ref a) (i:I a=some o) (c:o.ExactDict) (z:o.dict=none) (d:o.data=.dict x n) (r:L x.toList) (nd:ks.Nodup) (m:(a==sysModules)=false)
inductive oV(I:PH)(C:Addr)(L:List DictEntry->Prop)(v:Value):Prop
 | mk (a d:Addr) (o od:Obj) (x:Array DictEntry) (n:Nat) (e:v=.ref a) (i:I a=some o) (c:o.cls=.ref C) (z:o.dict=some d) (p:o.data=.plain)
   (i2:I d=some od) (c2:od.cls=.type "dict") (z2:od.dict=none) (d2:od.data=.dict x n) (r:L x.toList)
inductive uU(I:PH)(D:List (Int×Str))(v:Value):Prop
 | mk (a:Addr) (h₀:Heap) (e:v=.ref a) (k:KTD.Keyed h₀ a (D.map λp=>(p.1,PyData.str p.2))) (i:∀b o,h₀.get? b=some o->I b=some o)
inductive bP{α:Type}(p:α->Prop)(q:List α->Prop)(vs:List α):Prop
 | mk (v:α) (r:List α) (e:vs=v::r) (h:p v) (t:q r)
inductive fB(P:Params)(k:Str)(p:Value->Prop)(e:DictEntry):Prop
 | mk (t:Tok) (y:e.key=.str k t) (z:e.hash=PyData.keyHash P k) (h:p e.val)
mutual
def rep(P:Params)(I:PH):AV->Value->Prop
 |.none=>λv=>v=.none
 |.bool b=>λv=>v=.bool b
 |.int i=>zO i
 |.str s=>IM s
 |.oc k b=>Fy I k b
 |.list l=>oz I (a0 P I l)
 |.tuple l=>yn I (a0 P I l)
 |.dict l=>nG I (l.map (·.1)) (cH P I l)
 |.inst C l=>oV I C (cH P I l)
 |.ref a=>λv=>v=.ref a
 |.ty n=>λv=>v=.type n.name
 |.bi n=>λv=>v=.builtin n.id
 |.tab D=>uU I D
def a0(P:Params)(I:PH):List AV->List Value->Prop
 | []=>λvs=>vs=[]
 | a::r=>bP (rep P I a) (a0 P I r)
def cH(P:Params)(I:PH):List (Str×AV)->List DictEntry->Prop
 | []=>λes=>es=[]
 | (k,a)::r=>bP (fB P k (rep P I a)) (cH P I r)
end
def bb(I J:PH):Prop:=∀a o,I a=some o->J a=some o
theorem bb.refl(I:PH):bb I I:=λq0 q1 h=>h
theorem bb.trans{I J K:PH}(x:bb I J)(y:bb J K):bb I K:=λa o h=>y a o (x a o h)
section
variable {P:Params}{I J:PH}
theorem Fy.mono{k b v}(hI:bb I J)(h:Fy I k b v):Fy J k b v:=by
 cases k with
 | true=>cases h with|mk a o x e i c d t=>exact⟨a,o,x,e,hI _ _ i,c,d,t⟩
 | false=>exact h
theorem oz.mono{L M v}(hI:bb I J)(k:∀vs,L vs->M vs)(h:oz I L v):oz J M v:=by
 cases h with|mk a o x n e i c d r=>exact⟨a,o,x,n,e,hI _ _ i,c,d,k _ r⟩
theorem yn.mono{L M v}(hI:bb I J)(k:∀vs,L vs->M vs)(h:yn I L v):yn J M v:=by
 cases h with|mk a x e i r=>exact⟨a,x,e,hI _ _ i,k _ r⟩
theorem nG.mono{ks L M v}(hI:bb I J)(k:∀vs,L vs->M vs)(h:nG I ks L v):nG J ks M v:=by
 cases h with|mk a o x n e i c z d r nd m=>exact⟨a,o,x,n,e,hI _ _ i,c,z,d,k _ r,nd,m⟩
theorem oV.mono{C L M v}(hI:bb I J)(k:∀vs,L vs->M vs)(h:oV I C L v):oV J C M v:=by
 cases h with|mk a d o od x n e i c z p i2 c2 z2 d2 r=>exact⟨a,d,o,od,x,n,e,hI _ _ i,c,z,p,hI _ _ i2,c2,z2,d2,k _ r⟩
theorem uU.mono{D v}(hI:bb I J)(h:uU I D v):uU J D v:=by
 cases h with|mk a h₀ e k i=>exact⟨a,h₀,e,k,λb o z=>hI _ _ (i b o z)⟩
theorem bP.mono{α:Type}{p p':α->Prop}{q q':List α->Prop}{vs:List α}(k:∀v,p v->p' v)(l:∀v,q v->q' v)(h:bP p q vs):bP p' q' vs:=by
 cases h with|mk v r e a b=>exact⟨v,r,e,k _ a,l _ b⟩
theorem fB.mono{x p p' e}(k:∀v,p v->p' v)(h:fB P x p e):fB P x p' e:=by
 cases h with|mk t y z a=>exact⟨t,y,z,k _ a⟩
mutual
theorem bY(hI:bb I J):∀(a:AV) {v:Value},rep P I a v->rep P J a v
 |.none,_=>id
 |.bool _,_=>id
 |.int _,_=>id
 |.str _,_=>id
 |.oc _ _,_=>Fy.mono hI
 |.list l,_=>oz.mono hI λq0=>bg hI l
 |.tuple l,_=>yn.mono hI λq0=>bg hI l
 |.dict l,_=>nG.mono hI λq0=>bu hI l
 |.inst _ l,_=>oV.mono hI λq0=>bu hI l
 |.ref _,_=>id
 |.ty _,_=>id
 |.bi _,_=>id
 |.tab _,_=>uU.mono hI
theorem bg(hI:bb I J):∀(l:List AV) {vs:List Value},a0 P I l vs->a0 P J l vs
 | [],_=>id
 | a::r,_=>bP.mono (λq0=>bY hI a) λq0=>bg hI r
theorem bu(hI:bb I J):∀(l:List (Str×AV)) {es:List DictEntry},cH P I l es->cH P J l es
 | [],_=>id
 | (_,a)::r,_=>bP.mono (λq0=>fB.mono λq0=>bY hI a) λq0=>bu hI r
end
theorem bP.len{α:Type}{p:α->Prop}{q:List α->Prop}{n:Nat}{vs:List α}(k:∀r,q r->r.length=n)(h:bP p q vs):vs.length=n+1:=by
 cases h with|mk v r e a b=>exact(congrArg List.length e).trans (congrArg Nat.succ (k _ b))
theorem ak{l:List AV}:∀{vs:List Value},a0 P I l vs->vs.length=l.length:=by
 induction l with
 | nil=>exactλh=>congrArg List.length h
 | cons a r ih=>exactλh=>bP.len (λq0=>ih) h
theorem nL{l:List (Str×AV)}:∀{vs:List DictEntry},cH P I l vs->vs.length=l.length:=by
 induction l with
 | nil=>exactλh=>congrArg List.length h
 | cons a r ih=>exactλh=>bP.len (λq0=>ih) h
inductive I3(P:Params)(I:PH)(vs:List Value)(i:Nat)(a:AV):Prop
 | mk (v:Value) (e:vs[i]? =some v) (r:rep P I a v)
theorem iU{l:List AV}:∀{vs:List Value},a0 P I l vs->∀(i:Nat) (a:AV),l[i]? =some a->I3 P I vs i a:=by
 induction l with
 | nil=>exactλq0 i a e=>nomatch e
 | cons b r ih=>
  intro vs h i a e
  cases h with|mk v w e1 h1 h2=>
  subst e1
  cases i with
  | zero=>cases e;exact⟨v,rfl,h1⟩
  | succ i=>cases ih h2 i a e with|mk u e2 r2=>exact⟨u,e2,r2⟩
theorem bP.app{α:Type}{p:α->Prop}{q q':List α->Prop}{vs ws:List α}(k:∀r,q r->q' (r++ws))(h:bP p q vs):bP p q' (vs++ws):=by
 cases h with|mk v r e a b=>exact⟨v,r++ws,congrArg (· ++ws) e,a,k _ b⟩
theorem eg{l l':List AV}{ws:List Value}(h':a0 P I l' ws):∀{vs:List Value},a0 P I l vs->a0 P I (l++l') (vs++ws):=by
 induction l with
 | nil=>exactλh=>h.symm▸h'
 | cons a r ih=>exactλh=>bP.app (λq0=>ih) h
end
inductive Op where
 | v (a:AV)|oct|drw|slf (C:Addr)|loc (k:Nat)|gone
structure Sh where
 oct:Option (List UInt8):=none
 drw:Option (List Int):=none
 slf:Option (List (Str×AV)):=none
inductive LO where
 | list (l:List AV)|dict (l:List (Str×AV))|ba (b:List UInt8)
structure St where
 sh:Sh
 loc:List LO
structure Sl where
 oct:Option Addr
 drw:Option Addr
 slf:Option Addr
noncomputable def Sl.as(s:Sl):List Addr:=s.oct.toList++(s.drw.toList++s.slf.toList)
theorem Sl.mem{s:Sl}{a:Addr}:a∈s.as↔s.oct=some a\/s.drw=some a\/s.slf=some a:=by simp[Sl.as]
inductive Et(a?:Option Addr)(v:Value):Prop
 | mk (a:Addr) (e:a?=some a) (r:v=.ref a)
inductive qA(I:PH)(d?:Option Addr)(C:Addr)(v:Value):Prop
 | mk (a d:Addr) (o:Obj) (s:d?=some d) (e:v=.ref a) (i:I a=some o) (c:o.cls=.ref C) (z:o.dict=some d) (p:o.data=.plain)
def opr(P:Params)(sl:Sl)(I:PH)(loc:List Addr):Op->Value->Prop
 |.v a=>rep P I a
 |.oct=>Et sl.oct
 |.drw=>Et sl.drw
 |.slf C=>qA I sl.slf C
 |.loc k=>Et loc[k]?
 |.gone=>λq0=>True
theorem qA.mono{I J:PH}{d C v}(hI:bb I J)(h:qA I d C v):qA J d C v:=by
 cases h with|mk a d o s e i c z p=>exact⟨a,d,o,s,e,hI _ _ i,c,z,p⟩
theorem Et.mono{x y:Option Addr}{v}(k:∀a,x=some a->y=some a)(h:Et x v):Et y v:=by
 cases h with|mk a e r=>exact⟨a,k a e,r⟩
theorem Aj{α:Type}{l l':List α}{k:Nat}{a:α}(p:l <+:l')(e:l[k]? =some a):l'[k]? =some a:=by
 obtain⟨m,rfl⟩:=p
 obtain⟨h,_⟩:=List.getElem?_eq_some_iff.mp e
 exact(List.getElem?_append_left h).trans e
theorem pK{P:Params}{sl:Sl}{I J:PH}{loc loc':List Addr}(le:bb I J)(p:loc <+:loc'){op:Op}{v:Value}(h:opr P sl I loc op v):opr P sl J loc' op v:=by
 cases op with
 | v a=>exact bY le a h
 | slf C=>exact qA.mono le h
 | loc k=>exact Et.mono (λq0=>Aj p) h
 | _=>exact h
noncomputable abbrev aa:=List (Str×Op)
noncomputable def aG:aa->Str->Option Op
 | [],_=>none
 | p::r,x=>bif Fast.sEq p.1 x then some p.2 else aG r x
inductive cm(h:Heap)(a:Addr)(L:List Value->Prop):Prop
 | mk (o:Obj) (x:Array Value) (n:Nat) (e:h.get? a=some o) (c:o.cls=.type "list") (z:o.dict=none) (s:o.slots= #[]) (d:o.data=.seq x n) (r:L x.toList)
inductive fA(h:Heap)(a:Addr)(ks:List Str)(L:List DictEntry->Prop):Prop
 | mk (o:Obj) (x:Array DictEntry) (n:Nat) (e:h.get? a=some o) (c:o.ExactDict) (z:o.dict=none) (d:o.data=.dict x n) (r:L x.toList) (nd:ks.Nodup) (m:(a==sysModules)=false)
inductive bU(h:Heap)(a:Addr)(b:List UInt8):Prop
 | mk (o:Obj) (x:Array UInt8) (e:h.get? a=some o) (c:o.cls=.type "bytearray") (z:o.dict=none) (d:o.data=.bytearray x 0) (t:x.toList=b)
def cy(P:Params)(I:PH)(h:Heap)(a:Addr):LO->Prop
 |.list l=>cm h a (a0 P I l)
 |.dict l=>fA h a (l.map (·.1)) (cH P I l)
 |.ba b=>bU h a b
def gQ(ns:List Int)(vs:List Value):Prop:=IntsAre vs ns
inductive om(o:Option Addr)(p:Addr->Prop):Prop
 | mk (a:Addr) (e:o=some a) (r:p a)
theorem om.mono{o:Option Addr}{p q:Addr->Prop}(k:∀a,o=some a->p a->q a)(h:om o p):om o q:=by
 cases h with|mk a e r=>exact⟨a,e,k a e r⟩
structure d7(P:Params)(sl:Sl)(sh:Sh)(I:PH)(h:Heap):Prop where
 oct:∀b,sh.oct=some b->om sl.oct λa=>bU h a b
 drw:∀b,sh.drw=some b->om sl.drw λa=>cm h a (gQ b)
 slf:∀b,sh.slf=some b->om sl.slf λa=>fA h a (b.map (·.1)) (cH P I b)
theorem cm.mono{h h':Heap}{a:Addr}{L M}(g:∀o,h.get? a=some o->h'.get? a=some o)(k:∀vs,L vs->M vs)(q:cm h a L):cm h' a M:=by
 cases q with|mk o x n e c z s d r=>exact⟨o,x,n,g o e,c,z,s,d,k _ r⟩
theorem fA.mono{h h':Heap}{a:Addr}{ks L M}(g:∀o,h.get? a=some o->h'.get? a=some o)(k:∀vs,L vs->M vs)(q:fA h a ks L):fA h' a ks M:=by
 cases q with|mk o x n e c z d r nd m=>exact⟨o,x,n,g o e,c,z,d,k _ r,nd,m⟩
theorem bU.mono{h h':Heap}{a:Addr}{b}(g:∀o,h.get? a=some o->h'.get? a=some o)(q:bU h a b):bU h' a b:=by
 cases q with|mk o x e c z d t=>exact⟨o,x,g o e,c,z,d,t⟩
theorem cy.mono{P:Params}{I J:PH}{h h':Heap}{a:Addr}{lo:LO}(hI:bb I J)(g:∀o,h.get? a=some o->h'.get? a=some o)(q:cy P I h a lo):cy P J h' a lo:=by
 cases lo with
 | list l=>exact cm.mono g (λq0=>bg hI l) q
 | dict l=>exact fA.mono g (λq0=>bu hI l) q
 | ba b=>exact bU.mono g q
theorem d7.mono{P:Params}{sl:Sl}{sh:Sh}{I J:PH}{h h':Heap}(hI:bb I J)(g:∀a∈sl.as,∀o,h.get? a=some o->h'.get? a=some o)(q:d7 P sl sh I h):d7 P sl sh J h':=
 ⟨λb e=>(q.oct b e).mono λa m=>bU.mono (g a (Sl.mem.mpr (.inl m))),λb e=>(q.drw b e).mono λa m=>cm.mono (g a (Sl.mem.mpr (.inr (.inl m)))) λq0=>id,
  λb e=>(q.slf b e).mono λa m=>fA.mono (g a (Sl.mem.mpr (.inr (.inr m)))) λq0=>bu hI b⟩
def Grows(h h':Heap):Prop:=∀a o,h.get? a=some o->h'.get? a=some o
theorem Grows.push(h:Heap)(o:Obj):Grows h (h.push o):=λq0 q1 e=>Heap.get?_push_of_some _ e
theorem Grows.refl(h:Heap):Grows h h:=λq0 q1 e=>e
theorem Grows.trans{a b c:Heap}(x:Grows a b)(y:Grows b c):Grows a c:=λd o e=>y d o (x d o e)
theorem Grows.none{h h':Heap}(g:Grows h h'){a:Addr}(e:h'.get? a=none):h.get? a=none:=g8 (λo q=>dG (g a o q)) e
theorem ax(h:Heap):h.get? h.objs.size=none:=Heap.get?_none_of_le (Nat.le_refl _)
inductive gd(fs xs:List Addr)(h':Heap)(a:Addr)(o:Obj):Prop
 | mk (o':Obj) (e:h'.get? a=some o') (l:a∉xs->dF fs a o o')
theorem zA{h h':Heap}{a:Addr}{m:Str->Option Value}{fs xs:List Addr}(k:∀o,h.get? a=some o->gd fs xs h' a o)(n:a∉xs)(N:h.Ns a m):h'.Ns a m:=by
 obtain⟨o,es,ep,e1,e2,e3,e4⟩:=N
 cases k o e1 with|mk o' e' l=>exact⟨o',es,ep,e',(l n).like.d.trans e2,e3,e4⟩
theorem gy{h h':Heap}{a:Addr}{v:Option Value}{fs xs:List Addr}(k:∀o,h.get? a=some o->gd fs xs h' a o)(n:a∉xs)(N:h.IsCell a v):h'.IsCell a v:=by
 obtain⟨o,e1,e2⟩:=N
 cases k o e1 with|mk o' e' l=>exact⟨o',e',(l n).like.d.trans e2⟩
theorem e9{h:Heap}{a:Addr}{m:Str->Option Value}(n:h.Ns a m):∃o,h.get? a=some o:=by
 obtain⟨o,_,_,e,_⟩:=n;exact⟨o,e⟩
theorem lE{h:Heap}{a:Addr}{v:Option Value}(n:h.IsCell a v):∃o,h.get? a=some o:=by
 obtain⟨o,e,_⟩:=n;exact⟨o,e⟩
theorem bf{H0 h h':Heap}:∀{l:List Env},(∀a∈bh l,∀o,h.get? a=some o->(∀vs,o.data≠.fields vs)->∃o',h'.get? a=some o'/\∀vs,o'.data≠.fields vs)->h.FunFrames H0 l->h'.FunFrames H0 l:=by
 intro l
 induction l with
 | nil=>exactλq0 q1=>trivial
 | cons e r ih=>
  intro k q
  obtain⟨x1,⟨L,o,f1,f2,f3,f4⟩,x3⟩:=q
  have hm:bh (e::r)=L::bh r:=List.filterMap_cons_some f1
  rw[hm]at k
  obtain⟨o',e',k3⟩:=k L (.head _) o f3 f4
  exact⟨x1,⟨L,o',f1,f2,e',k3⟩,ih (λa m=>k a (.tail _ m)) x3⟩
noncomputable def pI(I:PH)(a:Addr)(o:Obj):PH:=λb=>if b=a then some o else I b
section
variable {I:PH}{a:Addr}{o:Obj}
theorem eF(I:PH)(a:Addr)(o:Obj):pI I a o a=some o:=if_pos rfl
theorem i8(I:PH){b:Addr}(o:Obj)(n:b≠a):pI I a o b=I b:=if_neg n
theorem bC(n:I a=none):bb I (pI I a o):=λb q0 e=>(if_neg λ(q:b=a)=>sn e (q.symm▸n)).trans e
theorem dU{b:Addr}{ob:Obj}(C:Addr->Obj->Prop)(q:pI I a o b=some ob)(x:C a o)(y:I b=some ob->C b ob):C b ob:=by
 by_cases w:b=a
 ·subst w;exact aM (eF I b o) q▸x
 ·exact y ((i8 I o w).symm.trans q)
theorem mO{b:Addr}{l:List Addr}(x:a∉l)(m:b∈l)(n:I b=none):pI I a o b=none:=(i8 I o λ(q:b=a)=>x (q▸m)).trans n
end
end Mine
namespace Mine
set_option backward.match.sparseCases true
noncomputable def heldBy:{f:Value->Code×Pos->Bool // ∀(M:Model) (Γ:Ctx) (p:Pos) (s:Shared) (v:Value) (Q:Bool->Pos->Shared->Prop) (E:Value->Pos->Shared->Prop),Q (List.any ((Γ.code,p)::Γ.below) (f v)) p s->Sem.wp M Γ (PySem.Builtin.Bytes.exported v) Q E p s}:=
 ⟨_,λq0 q1 q2 q3 q4 q5 q6 h=>h⟩
def zv(c:Code):Prop:=∀v p,heldBy.1 v (c,p)=false
def iQ(l:List (Code×Pos)):Prop:=∀x∈l,zv x.1
def a6{α:Type}(b:Bool)(M:Model)(A:Around)(t:Sem α)(Q:α->Shared->Prop)(E:Value->Shared->Prop)(s:Shared):Prop:=
 ∀(Γ:Ctx) (p:Pos),Γ.In A->(b=true->zv Γ.code/\iQ Γ.below)->Sem.wp M Γ t (λa q0 s'=>Q a s') (λe q0 s'=>E e s') p s
def aC(b:Bool)(M:Model)(A:Around)(c:Code)(R:Result->Shared->Prop)(s:Shared):Prop:=
 ∀(Γ:Ctx) (p:Pos),Γ.code=c->Γ.Below A->(b=true->iQ Γ.below)->wpCode M Γ R p s
section
variable {α β:Type}{b:Bool}{M:Model}{A:Around}{E:Value->Shared->Prop}{s:Shared}
theorem a6.of{t:Sem α}{Q:α->Shared->Prop}(h:wpAny M A t Q E s):a6 b M A t Q E s:=λΓ p i q0=>h Γ p i
theorem aC.of{c:Code}{R:Result->Shared->Prop}(h:codeAny M A c R s):aC b M A c R s:=λΓ p e i q0=>h Γ p e i
theorem a6.any{t:Sem α}{Q:α->Shared->Prop}(h:a6 false M A t Q E s):wpAny M A t Q E s:=λΓ p i=>h Γ p i nofun
theorem aC.any{c:Code}{R:Result->Shared->Prop}(h:aC false M A c R s):codeAny M A c R s:=λΓ p e i=>h Γ p e i nofun
theorem aC.weak{c:Code}{R:Result->Shared->Prop}(h:aC false M A c R s):aC b M A c R s:=.of h.any
theorem ai{a:α}{Q:α->Shared->Prop}(h:Q a s):a6 b M A (pure a) Q E s:=.of (wpAny_pure h)
theorem aI{t:Sem α}{Q Q':α->Shared->Prop}{E':Value->Shared->Prop}(h:a6 b M A t Q E s)(hQ:∀a s,Q a s->Q' a s)(hE:∀e s,E e s->E' e s):a6 b M A t Q' E' s:=
 λΓ p i k=>Sem.wp_mono M Γ t (λa q0 s=>hQ a s) (λe q0 s=>hE e s) p s (h Γ p i k)
theorem ab{m:Sem α}{f:α->Sem β}{Q:β->Shared->Prop}(h:a6 b M A m (λa s'=>a6 b M A (f a) Q E s') E s):a6 b M A (m >>= f) Q E s:=λΓ p i k=>by
 rw[Sem.wp_bind']
 exact Sem.wp_mono M Γ m (λa p' s' z=>z Γ p' i k) (λq0 q1 q2 z=>z) p s (h Γ p i k)
theorem au{vs:List Value}{m:Sem α}{Q:α->Shared->Prop}(h:a6 b M A m Q E s):a6 b M A (holding vs m) Q E s:=λΓ p i k=>by
 rw[Sem.wp_holding];exact h Γ p i k
theorem a3{m:Sem α}{k:Value->Sem Unit}{Q:α->Shared->Prop}(h:a6 b M A m Q (λe s'=>a6 b M A (k e) (λq0 s''=>E e s'') E s') s):a6 b M A (m.onRaise k) Q E s:=λΓ p i z=>by
 rw[Sem.wp_onRaise]
 exact Sem.wp_mono M Γ m (λq0 q1 q2 w=>w) (λe p' s' w=>w Γ p' i z) p s (h Γ p i z)
theorem oq{m:Sem α}{Q:Except Value α->Shared->Prop}(h:a6 b M A m (λa=>Q (.ok a)) (λe=>Q (.error e)) s):a6 b M A m.attempt Q E s:=λΓ p i z=>by
 rw[Sem.wp_attempt];exact h Γ p i z
theorem aQ{pos:Pos}{Q:Unit->Shared->Prop}(h:Q () s):a6 b M A (standAt pos) Q E s:=.of (wpAny_standAt h)
theorem cK{Q:Unit->Shared->Prop}(h:Q () s):a6 b M A point Q E s:=.of (wpAny_point h)
theorem jM{c:Code}{R R':Result->Shared->Prop}(h:aC b M A c R s)(k:∀r s,R r s->R' r s):aC b M A c R' s:=λΓ p e i z=>wpCode_mono k (h Γ p e i z)
theorem sS{c:Code}{Q:Flow->Shared->Prop}(h:aC b M A c (λr s'=>match r with|.ok f=>Q f s'|.error e=>E e s') s):a6 b M A (run c) Q E s:=λΓ p i z=>by
 rw[Sem.wp_run]
 refine h _ p rfl (i.enter c none p (by intro x;cases x)) λe x m=>?_
 rcases List.mem_cons.mp m with m|m
 ·exact m▸(z e).1
 ·exact(z e).2 x m
theorem mS{c:Code}{Q:Value->Shared->Prop}(h:aC b M A c (λr s'=>match r with|.ok (.ret v)=>Q v s'|.ok _=>False|.error e=>E e s') s):a6 b M A (runValue c) Q E s:=λΓ p i z=>by
 rw[Sem.wp_runValue]
 refine h _ p rfl (i.enter c none p (by intro x;cases x)) λe x m=>?_
 rcases List.mem_cons.mp m with m|m
 ·exact m▸(z e).1
 ·exact(z e).2 x m
theorem bT{f:Value}{pos:List Value}{kw:List (Str×Value)}{Q:Value->Shared->Prop}(h:aC b M A (.call f ⟨pos,kw⟩) (λr s'=>match r with|.ok (.ret v)=>Q v s'|.ok _=>False|.error e=>E e s') s):
  a6 b M A (call f pos kw) Q E s:=mS h
theorem aK{c:Code}{R:Result->Shared->Prop}(o:b=true->zv c)
  (h:a6 b M (A.under c) (M.den c) (λfin s'=>match fin with|.done f=>R (.ok f) s'|.again c'=>c'.quiet=true/\aC b M A c' R s') (λe s'=>R (.error e) s') s):aC b M A c R s:=λΓ p e i z=>by
 rw[wpCode_iff_wp,e]
 refine Sem.wp_mono M Γ _ (λfin p' s' w=>?_) (λq0 q1 q2 w=>w) p s (h Γ p (e▸i.in) λq=>⟨e▸o q,z q⟩)
 cases fin with
 | done f=>exact w
 | again c'=>exact⟨w.1,w.2 (Γ.goto c') p' rfl (i.goto c') z⟩
def gZ{α:Type}(b:Bool)(M:Model)(A:Around)(c:Code)(t:Sem α)(Q:α->Shared->Prop)(E:Value->Shared->Prop)(s:Shared):Prop:=
 ∀(Γ:Ctx) (p:Pos),Γ.code=c->Γ.In A->(b=true->zv Γ.code/\iQ Γ.below)->Sem.wp M Γ t (λa q0 s'=>Q a s') (λe q0 s'=>E e s') p s
theorem a6.at{c:Code}{t:Sem α}{Q:α->Shared->Prop}(h:a6 b M A t Q E s):gZ b M A c t Q E s:=λΓ p q0 i k=>h Γ p i k
theorem tT{c:Code}{t:Sem α}{Q Q':α->Shared->Prop}{E':Value->Shared->Prop}(h:gZ b M A c t Q E s)(hQ:∀a s,Q a s->Q' a s)(hE:∀e s,E e s->E' e s):gZ b M A c t Q' E' s:=
 λΓ p e i k=>Sem.wp_mono M Γ t (λa q0 s=>hQ a s) (λe q0 s=>hE e s) p s (h Γ p e i k)
theorem eR{c:Code}{m:Sem α}{f:α->Sem β}{Q:β->Shared->Prop}(h:gZ b M A c m (λa s'=>gZ b M A c (f a) Q E s') E s):gZ b M A c (m >>= f) Q E s:=λΓ p e i k=>by
 rw[Sem.wp_bind']
 exact Sem.wp_mono M Γ m (λa p' s' z=>z Γ p' e i k) (λq0 q1 q2 z=>z) p s (h Γ p e i k)
theorem lZ{c:Code}{m:Sem α}{k:Value->Sem Unit}{Q:α->Shared->Prop}(h:gZ b M A c m Q (λe s'=>a6 b M A (k e) (λq0 s''=>E e s'') E s') s):gZ b M A c (m.onRaise k) Q E s:=λΓ p e i z=>by
 rw[Sem.wp_onRaise]
 exact Sem.wp_mono M Γ m (λq0 q1 q2 w=>w) (λe p' s' w=>w Γ p' i z) p s (h Γ p e i z)
theorem jt{c:Code}{R:Result->Shared->Prop}(o:b=true->zv c)
  (h:gZ b M (A.under c) c (M.den c) (λfin s'=>match fin with|.done f=>R (.ok f) s'|.again c'=>c'.quiet=true/\aC b M A c' R s') (λe s'=>R (.error e) s') s):aC b M A c R s:=λΓ p e i z=>by
 rw[wpCode_iff_wp,e]
 refine Sem.wp_mono M Γ _ (λfin p' s' w=>?_) (λq0 q1 q2 w=>w) p s (h Γ p e (e▸i.in) λq=>⟨e▸o q,z q⟩)
 cases fin with
 | done f=>exact w
 | again c'=>exact⟨w.1,w.2 (Γ.goto c') p' rfl (i.goto c') z⟩
theorem eC{vs keep:List Value}{Q:Unit->Shared->Prop}(h:Q () s):a6 b M A (release vs keep) Q E s:=.of (wpAny_release h)
theorem gk{v:Value}{Q:Bool->Shared->Prop}(h:Q false s):a6 true M A (PySem.Builtin.Bytes.exported v) Q E s:=λΓ p q0 z=>by
 obtain⟨z1,z2⟩:=z rfl
 refine heldBy.2 M Γ p s v _ _ ?_
 rw[List.any_eq_false.mpr λx m=>?_]
 ·exact h
 ·refine ne_true_of_eq_false ?_
  rcases List.mem_cons.mp m with m|m
  ·exact m▸z1 v p
  ·exact z2 x m v x.2
end
section
variable {b:Bool}{prog:Program}{w:World}{A:Around}{R:Result->Shared->Prop}{s:Shared}
theorem qO{body:List Stmt}{env:Env}
  (h:gZ b (model prog w) (A.deeper env) (.func body env) (execs body env) (λf s'=>R (.ok (.ret (match f with|.ret v=>v|_=>.none))) s')
   (λe s'=>wpAny (model prog w) (A.deeper env) (leaving env e) (λq0 s''=>R (.error e) s'') (λe' s''=>R (.error e') s'') s') s):aC b (model prog w) A (.func body env) R s:=by
 refine jt (λq0 q1 q2=>rfl) ?_
 show gZ b _ (A.deeper env) _ (point >>=λq0=>(execs body env).onRaise (leaving env) >>=λx=>match x with|.ret v=>ret v|_=>ret .none) _ _ s
 refine eR (a6.at (cK (eR (lZ (tT h (λf s' z=>?_) λe s' z=>aI (a6.of z) (λq0 q1 y=>y) λq0 q1 y=>y)))))
 cases f<;>exact a6.at (ai z)
theorem qw{a:Addr}{args:Args}{o:Obj}{fd:FuncData}{body:List Stmt}(room:A.depth<recursionLimit)(ho:s.heap.get? a=some o)(hd:o.data=.func fd)(hco:fd.scope.isCoroutine=false)(hgen:fd.scope.isGenerator=false)
  (hbody:fd.body=.stmts body) (hcd:s.heap.CodeRec fd.code fd.qualname)
  (h:wpAny (model prog w) A.in1 (bindArgs fd args) (λbinds s₁=>wpAny (model prog w) A.in1 (newFunctionEnv fd.scope fd.globals fd.closure binds (fd.qualname++".<locals>.") (some a) fd.code none fd.builtins)
   (λenv s₂=>s₂.heap.NoLimit/\aC b (model prog w) A (.func body env) R s₂) (λe s'=>R (.error e) s') s₁) (λe s'=>R (.error e) s') s):aC b (model prog w) A (.call (.ref a) args) R s:=by
 refine aK (λq0 q1 q2=>rfl) (.of ?_)
 obtain⟨c,oc,vs,tq,hc,hoc,hdc,hq⟩:=hcd
 show wpAny _ A.in1 (callAny (.ref a) args) _ _ s
 delta callAny
 dsimp only
 refine wpAny_bind (wpAny_load ho ?_)
 rw[hd]
 dsimp only[callFunction]
 rw[hco,hgen,hbody,hc]
 dsimp only
 rw[hc]at h
 refine wpAny_bind (m:=field (.ref c) 1) (wpAny_field hoc hdc hq (wpAny_bind (wpAny_pure (wpAny_bind (wpAny_mono h (λbinds s₁ h₁=>?_) λq0 q1 z=>z)))))
 refine wpAny_bind (wpAny_mono h₁ (λenv s₂ h₂=>?_) λq0 q1 z=>z)
 exact wpAny_bind (wpAny_enterFrame h₂.1 room (wpAny_pure ⟨rfl,h₂.2⟩))
end
end Mine
namespace Mine
structure Cx where
 clean:Bool
 prog:Program
 w:World
 s0:Shared
 H0:Heap
 K:Frag
 mg:Str->Option Value
 mb:Str->Option Value
 kin:K.In H0
 g:H0.Ns mainGlobals mg
 b:H0.Ns builtinsNs mb
 nolimit:H0.NoLimit
 builtins:∀x:Str,x≠ "__name__" ->mb x=bootBuiltins x
noncomputable abbrev Cx.P(c:Cx):Params:=c.w.params
noncomputable abbrev Cx.M(c:Cx):Model:=model c.prog c.w
noncomputable abbrev Cx.soft(c:Cx):Cx:={c with clean:=false}
noncomputable def Cx.mk'(c:Cx)(h:Heap)(tk:Nat):Shared:={c.s0 with heap:=h,toks:=tk}
structure gu(A:Around)(n:Nat)(all:List Env):Prop where
 handled:A.handled=none
 depth:A.depth+n+1<recursionLimit
 units:A.units+16*(n+1)<cLine
 frames:A.frames=some all
noncomputable def Op.noloc:Op->Bool
 |.loc _=>false
 | _=>true
def oprs(P:Params)(sl:Sl)(I:PH)(loc:List Addr):List Op->List Value->Prop
 | []=>λvs=>vs=[]
 | o::r=>bP (opr P sl I loc o) (oprs P sl I loc r)
inductive MS(k:Str)(p:Value->Prop)(x:Str×Value):Prop
 | mk (v:Value) (e:x=(k,v)) (h:p v)
def A7(P:Params)(sl:Sl)(I:PH)(loc:List Addr):List (Str×Op)->List (Str×Value)->Prop
 | []=>λvs=>vs=[]
 | o::r=>bP (MS o.1 (opr P sl I loc o.2)) (A7 P sl I loc r)
inductive I1(h0 h:Heap)(e:Value):Prop
 | mk (a:Addr) (oe:Obj) (vs:Array Value) (r:e=.ref a) (n:h0.get? a=none) (g:h.get? a=some oe) (c:oe.cls=.type "TypeError") (d:oe.data=.fields vs) (x:vs[1]? =some .none)
inductive AU(h0 h:Heap)(e:Value):Prop
 | mk (a:Addr) (oe:Obj) (vs:Array Value) (T:Addr) (oT:Obj) (ts:Array Value) (r:e=.ref a) (n:h0.get? a=none) (g:h.get? a=some oe) (c:oe.cls=.type "TypeError") (d:oe.data=.fields vs) (x:vs[1]? =some (.ref T))
  (n2:h0.get? T=none) (ne:T≠a) (g2:h.get? T=some oT) (d2:oT.data=.fields ts) (x2:ts[3]? =some .none)
def pP(h0 h:Heap)(e:Value):Prop:=I1 h0 h e\/AU h0 h e
theorem pP.back{h0 h1 h:Heap}{e:Value}(k:∀a,h1.get? a=none->h0.get? a=none)(q:pP h1 h e):pP h0 h e:=by
 cases q with
 | inl q=>cases q with|mk a oe vs r n g c d x=>exact .inl ⟨a,oe,vs,r,k _ n,g,c,d,x⟩
 | inr q=>cases q with|mk a oe vs T oT ts r n g c d x n2 ne g2 d2 x2=>exact .inr ⟨a,oe,vs,T,oT,ts,r,k _ n,g,c,d,x,k _ n2,ne,g2,d2,x2⟩
structure fH(P:Params)(H0:Heap)(all:List Env)(sl:Sl)(sh:Sh)(I:PH)(h:Heap):Prop where
 base:∀a o,H0.get? a=some o->I a=some o
 imm:∀a o,I a=some o->h.get? a=some o
 nof:∀a o,I a=some o->H0.get? a=some o\/∀vs,o.data≠.fields vs
 nodup:sl.as.Nodup
 apart:∀a∈sl.as,I a=none
 sh:d7 P sl sh I h
 live:∀a∈sl.as,∃o,h.get? a=some o
 frames:h.FunFrames H0 all
 fapart:∀a∈bh all,a∉sl.as
 fI:∀a∈bh all,I a=none
structure tR(all:List Env)(sl:Sl)(I:PH)(h:Heap)(J:PH)(h':Heap):Prop where
 le:bb I J
 new:∀a o,J a=some o->I a=some o\/h.get? a=none
 kept:∀a o,h.get? a=some o->gd (bh all) sl.as h' a o
inductive tm(c:Cx)(all:List Env)(sl:Sl)(I:PH)(h:Heap)(Q:AV->Sh->Prop)(X:Sh->Prop):Result->Shared->Prop
 | ok {v:Value} {J:PH} {av:AV} {sh:Sh} {h':Heap} {tk:Nat} (t:tR all sl I h J h') (k:fH c.P c.H0 all sl sh J h') (r:rep c.P J av v) (q:Q av sh):tm c all sl I h Q X (.ok (.ret v)) (c.mk' h' tk)
 | ex {e:Value} {J:PH} {sh:Sh} {h':Heap} {tk:Nat} (t:tR all sl I h J h') (k:fH c.P c.H0 all sl sh J h') (x:AU h h' e) (q:X sh):tm c all sl I h Q X (.error e) (c.mk' h' tk)
structure ae(c:Cx)(n:Nat)(f:Addr)(args:List Op)(kw:List (Str×Op))(sh:Sh)(Q:AV->Sh->Prop)(X:Sh->Prop):Prop where
 run:∀(A:Around) (all:List Env) (sl:Sl) (I:PH) (h:Heap) (tk:Nat) (vals:List Value) (kvals:List (Str×Value)) (R:Result->Shared->Prop),gu A n all->fH c.P c.H0 all sl sh I h->oprs c.P sl I [] args vals->A7 c.P sl I [] kw kvals->
  (∀r s',tm c all sl I h Q X r s'->R r s')->aC c.clean c.M A (.call (.ref f) ⟨vals,kvals⟩) R (c.mk' h tk)
structure Fr where
 c:Cx
 n:Nat
 all:List Env
 sc:Scope
 cl:List (Str×Addr)
 A:Around
 env:Env
 L:Addr
 cells:List (Str×Addr)
 sl:Sl
noncomputable def Fr.own(g:Fr):List Addr:=g.L::g.cells.map (·.2)
noncomputable def Fr.xs(g:Fr)(loc:List Addr):List Addr:=g.own++(loc++g.sl.as)
structure Ei(g:Fr):Prop where
 a:gu g.A g.n g.all
 scope:g.env.scope=g.sc
 fn:g.sc.kind=.function
 L:g.env.locals=g.L
 ecells:g.env.cells=g.cells++g.cl
 globals:g.env.globals=mainGlobals
 bl:g.env.builtins=builtinsNs
 cell:∀x∈g.sc.names,x.2=.cell->(g.cells.lookup x.1).isSome=true
def cC(g:Fr):Prop:=∃outer,g.all=g.env::outer
structure W where
 I:PH
 loc:List Addr
 S:St
 h:Heap
 tk:Nat
abbrev bB(g:Fr)(w:W)(op:Op)(v:Value):Prop:=opr g.c.P g.sl w.I w.loc op v
abbrev bN(g:Fr)(w:W)(op:List Op)(v:List Value):Prop:=oprs g.c.P g.sl w.I w.loc op v
noncomputable abbrev Fr.at(g:Fr)(w:W):Shared:=g.c.mk' w.h w.tk
inductive tE(g:Fr)(w:W)(m:Str->Option Value)(k:Option NameKind)(x:Str)(op:Op):Prop
 | loc (e:k=some .local) (v:Value) (e1:m x=some v) (r:bB g w op v)
 | cel (e:k=some .cell\/k=some .free) (c:Addr) (v:Value) (e1:g.cells.lookup x=some c) (e2:w.h.IsCell c (some v)) (r:bB g w op v)
inductive dh(g:Fr)(ρ:aa)(w:W):Prop
 | mk (m:Str->Option Value) (N:w.h.Ns g.L m) (C:∀c∈g.cells,∃v,w.h.IsCell c.2 v) (V:∀x op,aG ρ x=some op->tE g w m (g.sc.names.lookup x) x op)
structure Ok(g:Fr)(ρ:aa)(w:W):Prop where
 fr:Ei g
 base:∀a o,g.c.H0.get? a=some o->w.I a=some o
 imm:∀a o,w.I a=some o->w.h.get? a=some o
 nof:∀a o,w.I a=some o->g.c.H0.get? a=some o\/∀vs,o.data≠.fields vs
 nodup:(g.xs w.loc).Nodup
 apart:∀a∈g.xs w.loc,w.I a=none
 vars:dh g ρ w
 loc:∀(k:Nat) (a:Addr) (lo:LO),w.loc[k]? =some a->w.S.loc[k]? =some lo->cy g.c.P w.I w.h a lo
 len:w.S.loc.length=w.loc.length
 sh:d7 g.c.P g.sl w.S.sh w.I w.h
 live:∀a∈g.xs w.loc,∃o,w.h.get? a=some o
 frames:w.h.FunFrames g.c.H0 g.all
 fapart:∀a∈bh g.all,a=g.L\/a∉g.xs w.loc
 fI:∀a∈bh g.all,w.I a=none
structure jU(g:Fr)(ow:List Addr)(w w':W):Prop where
 le:bb w.I w'.I
 new:∀a o,w'.I a=some o->w.I a=some o\/w.h.get? a=none\/a∈w.loc
 kept:∀a o,w.h.get? a=some o->gd (bh g.all) (ow++(w.loc++g.sl.as)) w'.h a o
 locnew:∀a∈w'.loc,a∈w.loc\/w.h.get? a=none
section
variable {g:Fr}{ρ ρ':aa}{w w1 w2 w':W}{a:Addr}
theorem Fr.mem{loc:List Addr}:a∈g.xs loc↔a∈g.own\/a∈loc\/a∈g.sl.as:=List.mem_append.trans (or_congr Iff.rfl List.mem_append)
theorem Fr.mo{loc:List Addr}(m:a∈g.own):a∈g.xs loc:=List.mem_append_left _ m
theorem Fr.ml{loc:List Addr}(m:a∈loc):a∈g.xs loc:=List.mem_append_right _ (List.mem_append_left _ m)
theorem Fr.ms{loc:List Addr}(m:a∈g.sl.as):a∈g.xs loc:=List.mem_append_right _ (List.mem_append_right _ m)
theorem jU.no{ow:List Addr}(t:jU g ow w w')(e:w'.h.get? a=none):w.h.get? a=none:=
 g8 (λo q=>by cases t.kept a o q with|mk o' e' l=>exact dG e') e
theorem jU.old{ow:List Addr}(t:jU g ow w w')(m:a∈ow++(w'.loc++g.sl.as)):a∈ow++(w.loc++g.sl.as)\/w.h.get? a=none:=
 (List.mem_append.mp m).elim (λm=>.inl (List.mem_append_left _ m)) λm=>(List.mem_append.mp m).elim (λm=>(t.locnew a m).imp_left λm=>List.mem_append_right _ (List.mem_append_left _ m)) λm=>.inl (List.mem_append_right _ (List.mem_append_right _ m))
theorem jU.weak{ow:List Addr}(t:jU g [] w w'):jU g ow w w':=⟨t.le,t.new,λa o e=>by
 cases t.kept a o e with|mk o' e' l=>exact⟨o',e',λn=>l λm=>n (List.mem_append_right _ m)⟩,t.locnew⟩
theorem jU.trans{ow:List Addr}(x:jU g ow w w1)(y:jU g ow w1 w2):jU g ow w w2 where
 le:=x.le.trans y.le
 new:=λa o e=>(y.new a o e).elim (x.new a o) λe=>.inr (e.elim (λe=>.inl (x.no e)) λe=>(x.locnew a e).symm)
 kept:=λa o e=>by
  cases x.kept a o e with|mk o1 e1 k1=>
  cases y.kept a o1 e1 with|mk o2 e2 k2=>
  exact⟨o2,e2,λn=>(k1 n).trans (k2 λm=>(x.old m).elim n λm=>sn e m)⟩
 locnew:=λa m=>(y.locnew a m).elim (x.locnew a) λm=>.inr (x.no m)
theorem jU.grows{ow:List Addr}{h':Heap}{tk:Nat}{S:St}(e:Grows w.h h'):jU g ow w ⟨w.I,w.loc,S,h',tk⟩:=⟨.refl _,λq0 q1 e=>.inl e,λa o q=>⟨o,e a o q,λq0=>.rfl'⟩,λq0=>.inl⟩
theorem jU.refl{ow:List Addr}:jU g ow w w:=.grows (.refl _)
structure Nx(g:Fr)(ρ:aa)(w w':W):Prop where
 t:jU g [] w w'
 p:w.loc <+:w'.loc
 k:Ok g ρ w'
structure Nt(g:Fr)(ρ:aa)(w w':W):Prop where
 t:jU g g.own w w'
 k:Ok g ρ w'
theorem Nx.nt(n:Nx g ρ w w'):Nt g ρ w w':=⟨n.t.weak,n.k⟩
theorem Nx.trans(x:Nx g ρ w w1)(y:Nx g ρ w1 w2):Nx g ρ w w2:=⟨x.t.trans y.t,x.p.trans y.p,y.k⟩
theorem Nx.refl(k:Ok g ρ w):Nx g ρ w w:=⟨.refl,List.prefix_refl _,k⟩
theorem Nx.opr{op:Op}{v:Value}(n:Nx g ρ w w')(r:bB g w op v):bB g w' op v:=pK n.t.le n.p r
theorem As{P:Params}{sl:Sl}{I J:PH}{loc loc':List Addr}(le:bb I J)(p:loc <+:loc'){op:List Op}:∀{v:List Value},oprs P sl I loc op v->oprs P sl J loc' op v:=by
 induction op with
 | nil=>exactλh=>h
 | cons o r ih=>exactλh=>bP.mono (λq0=>pK le p) (λq0=>ih) h
theorem Nx.oprs{op:List Op}{v:List Value}(n:Nx g ρ w w')(r:bN g w op v):bN g w' op v:=As n.t.le n.p r
def TE{α:Type}(g:Fr)(ρ:aa)(w:W)(t:Sem α)(R:α->W->Prop)(X:aa->St->Prop):Prop:=
 ∀(Q:α->Shared->Prop) (E:Value->Shared->Prop),(∀a w',Nx g ρ w w'->R a w'->Q a (g.at w'))->(∀e w',Nx g ρ w w'->pP w.h w'.h e->X ρ w'.S->E e (g.at w'))->a6 g.c.clean g.c.M g.A t Q E (g.at w)
def TS{α:Type}(g:Fr)(w:W)(t:Sem α)(R:α->aa->W->Prop)(X:aa->St->Prop):Prop:=
 ∀(Q:α->Shared->Prop) (E:Value->Shared->Prop),(∀a ρ w',Nt g ρ w w'->R a ρ w'->Q a (g.at w'))->(∀e ρ w',Nt g ρ w w'->pP w.h w'.h e->X ρ w'.S->E e (g.at w'))->a6 g.c.clean g.c.M g.A t Q E (g.at w)
inductive HR(g:Fr)(Q:Op->St->Prop)(v:Value)(w:W):Prop
 | mk (op:Op) (r:bB g w op v) (q:Q op w.S)
abbrev ET(g:Fr)(ρ:aa)(w:W)(t:Sem Value)(Q:Op->St->Prop)(X:aa->St->Prop):Prop:=TE g ρ w t (HR g Q) X
abbrev BT(g:Fr)(ρ:aa)(w:W)(t:Sem Bool)(K:Bool->St->Prop)(X:aa->St->Prop):Prop:=TE g ρ w t (λb w=>K b w.S) X
variable {α β:Type}{t:Sem α}{f:α->Sem β}{R R1:α->W->Prop}{R':β->W->Prop}{X:aa->St->Prop}{RS:α->aa->W->Prop}{RS':β->aa->W->Prop}
theorem TE.bind(x:TE g ρ w t R X)(y:∀a w1,Nx g ρ w w1->R a w1->TE g ρ w1 (f a) R' X):TE g ρ w (t >>= f) R' X:=λQ E q z=>
 ab (x _ _ (λa w1 n r=>y a w1 n r Q E (λb w2 n2=>q b w2 (n.trans n2)) λe w2 n2 x2=>z e w2 (n.trans n2) (x2.back λq0=>n.t.no)) z)
theorem TE.mono(x:TE g ρ w t R X)(y:∀a w1,Nx g ρ w w1->R a w1->R1 a w1):TE g ρ w t R1 X:=λQ E q z=>x Q E (λa w1 n r=>q a w1 n (y a w1 n r)) z
theorem TE.pure{a:α}(k:Ok g ρ w)(r:R a w):TE g ρ w (pure a) R X:=λQ E q z=>ai (q a w (.refl k) r)
theorem TE.stand{p:Pos}(x:TE g ρ w t R X):TE g ρ w (standAt p >>=λq0=>t) R X:=λQ E q z=>ab (aQ (x Q E q z))
theorem TE.hold{vs:List Value}(x:TE g ρ w t R X):TE g ρ w (holding vs t) R X:=λQ E q z=>au (x Q E q z)
theorem TE.rel{vs keep:List Value}(x:TE g ρ w t R X):TE g ρ w (release vs keep >>=λq0=>t) R X:=λQ E q z=>ab (eC (x Q E q z))
theorem TE.operate{vs:List Value}{m:Sem Value}{R:Value->W->Prop}(x:TE g ρ w m R X):TE g ρ w (operate vs m) R X:=λQ E q z=>
 ab (au (x _ _ (λa w1 n r=>ab (eC (ai (q a w1 n r)))) z))
theorem TE.of(h:∀Q E,(∀a w',Nx g ρ w w'->R a w'->Q a (g.at w'))->wpAny g.c.M g.A t Q E (g.at w)):TE g ρ w t R X:=λQ E q q0=>.of (h Q E q)
theorem TS.bind(x:TS g w t RS X)(y:∀a ρ w1,Nt g ρ w w1->RS a ρ w1->TS g w1 (f a) RS' X):TS g w (t >>= f) RS' X:=λQ E q z=>
 ab (x _ _ (λa ρ w1 n r=>y a ρ w1 n r Q E (λb ρ w2 n2=>q b ρ w2 ⟨n.t.trans n2.t,n2.k⟩) λe ρ w2 n2 x2=>z e ρ w2 ⟨n.t.trans n2.t,n2.k⟩ (x2.back λq0=>n.t.no)) z)
theorem TE.bindS(x:TE g ρ w t R X)(y:∀a w1,Nx g ρ w w1->R a w1->TS g w1 (f a) RS' X):TS g w (t >>= f) RS' X:=λQ E q z=>
 ab (x _ _ (λa w1 n r=>y a w1 n r Q E (λb ρ w2 n2=>q b ρ w2 ⟨n.nt.t.trans n2.t,n2.k⟩) λe ρ w2 n2 x2=>z e ρ w2 ⟨n.nt.t.trans n2.t,n2.k⟩ (x2.back λq0=>n.t.no)) λe w1 n=>z e ρ w1 n.nt)
theorem TS.pure{a:α}(k:Ok g ρ w)(r:RS a ρ w):TS g w (pure a) RS X:=λQ E q z=>ai (q a ρ w ⟨.refl,k⟩ r)
theorem TS.stand{p:Pos}(x:TS g w t RS X):TS g w (standAt p >>=λq0=>t) RS X:=λQ E q z=>ab (aQ (x Q E q z))
theorem tE.mono{m m':Str->Option Value}{k x op}(hm:∀v,m x=some v->m' x=some v)(ho:∀v,bB g w op v->bB g w' op v)(hk:∀a v,g.cells.lookup x=some a->w.h.IsCell a v->w'.h.IsCell a v)(q:tE g w m k x op):tE g w' m' k x op:=by
 cases q with
 | loc e v e1 r=>exact .loc e v (hm v e1) (ho _ r)
 | cel e c v e1 e2 r=>exact .cel e c v e1 (hk _ _ e1 e2) (ho _ r)
theorem lookup_mem{x:Str}{c:Addr}{l:List (Str×Addr)}:l.lookup x=some c->c∈l.map (·.2):=by
 induction l with
 | nil=>exact nofun
 | cons p r ih=>
  intro q
  rw[List.lookup_cons]at q
  cases w:x==p.1 with
  | true=>rw[w]at q;cases q;exact .head _
  | false=>rw[w]at q;exact .tail _ (ih q)
theorem dh.mono{fs xs:List Addr}(le:bb w.I w'.I)(p:w.loc <+:w'.loc)(k:∀a o,a∈g.own->w.h.get? a=some o->gd fs xs w'.h a o)(n:∀a∈g.own,a∉xs)(V:dh g ρ w):dh g ρ w':=by
 cases V with|mk m N C V=>
 have ce:∀{a v},a∈g.cells.map (·.2)->w.h.IsCell a v->w'.h.IsCell a v:=λm=>gy (λo=>k _ o (.tail _ m)) (n _ (.tail _ m))
 exact⟨m,zA (λo=>k _ o (.head _)) (n _ (.head _)) N,λc hm=>(C c hm).imp λq0=>ce (List.mem_map_of_mem hm),λx op e=>(V x op e).mono (λq0=>id) (λq0=>pK le p) λq0 q1 e1=>ce (lookup_mem e1)⟩
theorem Ok.keep0(k:Ok g ρ w)(a:Addr)(o:Obj)(e:g.c.H0.get? a=some o):w.h.get? a=some o:=k.imm a o (k.base a o e)
theorem Ok.kin(k:Ok g ρ w):g.c.K.In w.h:=g.c.kin.keeps k.keep0
theorem Ok.new_xs(k:Ok g ρ w)(n:w.h.get? a=none):a∉g.xs w.loc:=λm=>(k.live a m).elim λq0 e=>sn e n
theorem Ok.new_I(k:Ok g ρ w)(n:w.h.get? a=none):w.I a=none:=g8 (λo q=>dG (k.imm a o q)) n
theorem Ok.new_f(k:Ok g ρ w)(n:w.h.get? a=none):a∉bh g.all:=λm=>(Heap.FunFrames.mem k.frames m).2.elim λq0 e=>sn e.1 n
theorem Ok.own_l(k:Ok g ρ w)(m:a∈g.own):a∉w.loc++g.sl.as:=λq=>(List.nodup_append.mp k.nodup).2.2 a m a q rfl
theorem Ok.loc_s(k:Ok g ρ w)(m:a∈w.loc):a∉g.sl.as:=λq=>(List.nodup_append.mp (List.nodup_append.mp k.nodup).2.1).2.2 a m a q rfl
theorem Ok.not_s(k:Ok g ρ w)(m:a∈g.own\/a∈w.loc):a∉g.sl.as:=m.elim (λm q=>k.own_l m (List.mem_append_right _ q)) k.loc_s
theorem Ok.f_s(k:Ok g ρ w)(m:a∈bh g.all):a∉g.sl.as:=(k.fapart a m).elim (λe=>e▸k.not_s (.inl (.head _))) λn q=>n (Fr.ms q)
theorem Ok.loc_f(k:Ok g ρ w)(m:a∈w.loc):a∉bh g.all:=λq=>(k.fapart a q).elim (λe=>k.own_l (e▸ .head _) (List.mem_append_left _ m)) λn=>n (Fr.ml m)
theorem Ok.toC(k:Ok g ρ w):fH g.c.P g.c.H0 g.all g.sl w.S.sh w.I w.h:=
 ⟨k.base,k.imm,k.nof,(List.nodup_append.mp (List.nodup_append.mp k.nodup).2.1).2.1,λa m=>k.apart a (Fr.ms m),k.sh,λa m=>k.live a (Fr.ms m),k.frames,λq0=>k.f_s,k.fI⟩
theorem Ok.grows{h':Heap}(tk:Nat)(k:Ok g ρ w)(e:Grows w.h h'):Ok g ρ ⟨w.I,w.loc,w.S,h',tk⟩:=
 ⟨k.fr,k.base,λa o q=>e a o (k.imm a o q),k.nof,k.nodup,k.apart,k.vars.mono (w:=w) (w':=⟨w.I,w.loc,w.S,h',tk⟩) (fs:=[]) (xs:=[]) (.refl _) (List.prefix_refl _) (λa o q0 q=>⟨o,e a o q,λq0=>.rfl'⟩) (λq0 q1=>nofun),
  λi a lo e1 e2=>(k.loc i a lo e1 e2).mono (.refl _) (e a),k.len,k.sh.mono (.refl _) λa q0=>e a,λa m=>(k.live a m).imp (e a),bf (λL q0 o q f=>⟨o,e L o q,f⟩) k.frames,k.fapart,k.fI⟩
theorem Nx.grows{h':Heap}{tk:Nat}(k:Ok g ρ w)(e:Grows w.h h'):Nx g ρ w ⟨w.I,w.loc,w.S,h',tk⟩:=⟨.grows e,List.prefix_refl _,k.grows tk e⟩
theorem Ok.freeze{o:Obj}(k:Ok g ρ w)(e:w.h.get? a=some o)(n:w.I a=none)(x:a∉g.xs w.loc)(f:∀vs,o.data≠.fields vs)(ff:a∉bh g.all):Ok g ρ {w with I:=pI w.I a o}:=
 ⟨k.fr,λb ob q=>bC n _ _ (k.base b ob q),λb ob q=>dU (λb ob=>w.h.get? b=some ob) q e (k.imm b ob),λb ob q=>dU (λb ob=>g.c.H0.get? b=some ob\/∀vs,ob.data≠.fields vs) q (.inr f) (k.nof b ob),
  k.nodup,λb m=>mO x m (k.apart b m),k.vars.mono (w:=w) (w':={w with I:=pI w.I a o}) (fs:=[]) (xs:=[]) (bC n) (List.prefix_refl _) (λq0 o q1 e=>⟨o,e,λq0=>.rfl'⟩) (λq0 q1=>nofun),λi b lo e1 e2=>(k.loc i b lo e1 e2).mono (bC n) λq0=>id,k.len,
  k.sh.mono (bC n) λq0 q1 q2=>id,k.live,k.frames,k.fapart,λb m=>mO ff m (k.fI b m)⟩
theorem Nx.born{h':Heap}{tk:Nat}{o:Obj}(k:Ok g ρ w)(n:w.h.get? a=none)(e:Grows w.h h')(i:h'.get? a=some o)(f:∀vs,o.data≠.fields vs):Nx g ρ w ⟨pI w.I a o,w.loc,w.S,h',tk⟩:=
 ⟨⟨bC (k.new_I n),λb ob q=>dU (λb ob=>w.I b=some ob\/w.h.get? b=none\/b∈w.loc) q (.inr (.inl n)) .inl,λb ob q=>⟨ob,e b ob q,λq0=>.rfl'⟩,λq0=>.inl⟩,List.prefix_refl _,(k.grows tk e).freeze i (k.new_I n) (k.new_xs n) f (k.new_f n)⟩
theorem Nx.back{J:PH}{sh:Sh}{h':Heap}{tk:Nat}(k:Ok g ρ w)(t:tR g.all g.sl w.I w.h J h')(c:fH g.c.P g.c.H0 g.all g.sl sh J h'):Nx g ρ w ⟨J,w.loc,{w.S with sh:=sh},h',tk⟩:=by
 have nx:∀a,a∈g.xs w.loc->J a=none:=λa m=>Option.eq_none_iff_forall_ne_some.mpr λo z=>(t.new a o z).elim (λq=>sn q (k.apart a m)) λq=>(k.live a m).elim λq0 e=>sn e q
 refine⟨⟨t.le,λa o e=>(t.new a o e).imp_right .inl,λa o e=>?_,λq0=>.inl⟩,List.prefix_refl _,⟨k.fr,c.base,c.imm,c.nof,k.nodup,nx,?_,λi a lo e1 e2=>?_,k.len,c.sh,λa m=>?_,c.frames,k.fapart,c.fI⟩⟩
 ·cases t.kept a o e with|mk o' e' l=>exact⟨o',e',λn=>l λz=>n (show a∈w.loc++g.sl.as from List.mem_append_right _ z)⟩
 ·exact k.vars.mono t.le (List.prefix_refl _) (λa o q0=>t.kept a o) λa m=>k.not_s (.inl m)
 ·have m:=List.mem_of_getElem? e1
  refine(k.loc i a lo e1 e2).mono t.le λo e=>?_
  cases t.kept a o e with|mk o' e' l=>exact(l (k.loc_s m)).eq (k.loc_f m)▸e'
 ·obtain⟨o,e⟩:=k.live a m
  cases t.kept a o e with|mk o' e' l=>exact⟨o',e'⟩
theorem TE.call{n:Nat}{fn:Addr}{args:List Op}{kw:List (Str×Op)}{vals:List Value}{kvals:List (Str×Value)}{Q:Op->St->Prop}(k:Ok g ρ w)(a:gu g.A n g.all)
  (x:oprs g.c.P g.sl w.I [] args vals) (y:A7 g.c.P g.sl w.I [] kw kvals) (q:ae g.c n fn args kw w.S.sh (λav sh=>Q (.v av) {w.S with sh:=sh}) (λsh=>X ρ {w.S with sh:=sh})):
  ET g ρ w (PySem.call (.ref fn) vals kvals) Q X:=λQ' E q' z=>by
 refine bT (q.run g.A g.all g.sl w.I w.h w.tk vals kvals _ a k.toC x y λr s' i=>?_)
 cases i with
 | ok t c r q=>exact q' _ _ (.back k t c) ⟨.v _,r,q⟩
 | ex t c x q=>exact z _ _ (.back k t c) (.inr x) q
end
section
variable {g:Fr}{ρ ρ':aa}{w w1 w2 w':W}{a:Addr}{x y:Str}{Q:Op->St->Prop}{X:aa->St->Prop}{v:Value}{op:Op}{h':Heap}{tk:Nat}{S':St}
theorem aJ{h:Heap}(sb:Heap.SameBut a h h'){b:Addr}(n:b≠a)(o:Obj)(e:h.get? b=some o):h'.get? b=some o:=(sb.2 b n).trans e
theorem jU.but{ow:List Addr}(m:a∈ow++(w.loc++g.sl.as))(sb:Heap.SameBut a w.h h')(ex:∃o,h'.get? a=some o):jU g ow w ⟨w.I,w.loc,S',h',tk⟩:=⟨.refl _,λq0 q1=>.inl,λb o e=>by
 by_cases q:b=a
 ·exact ex.elim λo' e'=>⟨o',q▸e',λn=>absurd m (q▸n)⟩
 ·exact⟨o,aJ sb q o e,λq0=>.rfl'⟩,λq0=>.inl⟩
theorem Nt.but(k:Ok g ρ w)(m:a∈g.xs w.loc)(sb:Heap.SameBut a w.h h')(ex:∃o,h'.get? a=some o)(nf:a∈bh g.all->∃o,h'.get? a=some o/\∀vs,o.data≠.fields vs)(V:dh g ρ' ⟨w.I,w.loc,S',h',tk⟩)
  (L:∀(i:Nat) (b:Addr) (lo:LO),w.loc[i]? =some b->S'.loc[i]? =some lo->cy g.c.P w.I h' b lo) (len:S'.loc.length=w.S.loc.length) (sh:d7 g.c.P g.sl S'.sh w.I h'):Nt g ρ' w ⟨w.I,w.loc,S',h',tk⟩:=by
 have old:=λb o (n:b≠a)=>aJ sb n o
 refine⟨jU.but m sb ex,k.fr,k.base,λb o e=>old b o (λq=>sn e (q▸k.apart a m)) (k.imm b o e),k.nof,k.nodup,k.apart,V,L,len.trans k.len,sh,λb mb=>?_,bf (λb mb o e f=>?_) k.frames,k.fapart,k.fI⟩
 all_goals by_cases q:b=a
 ·exact q▸ex
 ·exact(k.live b mb).imp λo=>old b o q
 ·exact q▸nf (q▸mb)
 ·exact⟨o,old b o q e,f⟩
theorem Nt.own(k:Ok g ρ w)(m:a∈g.own)(sb:Heap.SameBut a w.h h')(ex:∃o,h'.get? a=some o)(V:dh g ρ' ⟨w.I,w.loc,w.S,h',tk⟩):Nt g ρ' w ⟨w.I,w.loc,w.S,h',tk⟩:=by
 have n:=k.own_l m
 refine .but k (Fr.mo m) sb ex (λmf=>?_) V (λi b lo e1 e2=>(k.loc i b lo e1 e2).mono (.refl _) (aJ sb λq=>n (q▸List.mem_append_left _ (List.mem_of_getElem? e1)))) rfl
  (k.sh.mono (.refl _) λb mb=>aJ sb λq=>n (q▸List.mem_append_right _ mb))
 have e:a=g.L:=(k.fapart a mf).elim id λz=>absurd (Fr.mo m) z
 refine bp λGG1 hG1=>?_
 cases V with|mk m N C V=>
 obtain⟨o,es,ep,e1,e2,_⟩:=N
 refine hG1 ?_
 exact⟨o,e▸e1,λvs z=>nomatch e2.symm.trans z⟩
theorem Nx.turn(k:Ok g ρ w)(m:a∈w.loc\/a∈g.sl.as)(sb:Heap.SameBut a w.h h')(ex:∃o,h'.get? a=some o)
  (L:∀(i:Nat) (b:Addr) (lo:LO),w.loc[i]? =some b->S'.loc[i]? =some lo->(b≠a/\w.S.loc[i]? =some lo)\/cy g.c.P w.I h' b lo) (len:S'.loc.length=w.S.loc.length)
  (sh:(a∉g.sl.as/\S'.sh=w.S.sh)\/d7 g.c.P g.sl S'.sh w.I h'):Nx g ρ w ⟨w.I,w.loc,S',h',tk⟩:=by
 have mx:a∈w.loc++g.sl.as:=List.mem_append.mpr m
 have n:=Nt.but (tk:=tk) k (List.mem_append_right _ mx) sb ex (λmf=>absurd mf (m.elim k.loc_f λm q=>k.f_s q m)) (k.vars.mono (w:=w) (w':=⟨w.I,w.loc,S',h',tk⟩) (fs:=[]) (xs:=[a]) (.refl _) (List.prefix_refl _)
   (λb o q0 e=>?_) λb mb z=>k.own_l mb (List.mem_singleton.mp z▸mx)) (λi b lo e1 e2=>(L i b lo e1 e2).elim (λhh=>hh.casesOn λq e=>(k.loc i b lo e1 e).mono (.refl _) (aJ sb q)) id) len
  (sh.elim (λz=>z.2▸k.sh.mono (.refl _) λb mb=>aJ sb λq=>z.1 (q▸mb)) id)
 ·exact⟨jU.but mx sb ex,List.prefix_refl _,n.k⟩
 ·by_cases q:b=a
  ·exact ex.elim λo' e'=>⟨o',q▸e',λz=>absurd (q▸List.mem_singleton_self _) z⟩
  ·exact⟨o,aJ sb q o e,λq0=>.rfl'⟩
theorem ET.pure(k:Ok g ρ w)(r:bB g w op v)(q:Q op w.S):ET g ρ w (pure v) Q X:=TE.pure k ⟨op,r,q⟩
theorem Ok.kind(k:Ok g ρ w):g.env.scope.kind=.function:=k.fr.scope▸k.fr.fn
theorem Ok.kindOf{n}(k:Ok g ρ w)(q:g.sc.names.lookup x=n):g.env.kindOf x=n:=by unfold Env.kindOf;rw[k.fr.scope,q]
theorem fE{x:Str}{a:Addr}{l l':List (Str×Addr)}:l.lookup x=some a->(l++l').lookup x=some a:=by
 induction l with
 | nil=>exact nofun
 | cons p r ih=>
  rw[List.cons_append,List.lookup_cons,List.lookup_cons]
  cases x==p.1 with
  | true=>exact id
  | false=>exact ih
theorem TE.name(k:Ok g ρ w)(n:g.sc.names.lookup x=some .local\/g.sc.names.lookup x=some .cell)(hv:aG ρ x=some op)(q:Q op w.S):ET g ρ w (loadName g.env x) Q X:=.of λQ' E z=>by
 cases k.vars with|mk m N C V=>
 cases V x op hv with
 | loc e v e1 r=>exact wpAny_loadName_local (m:=m) k.kind (k.kindOf e) (k.fr.L▸N) e1 (z v w (.refl k) ⟨op,r,q⟩)
 | cel e a v e1 e2 r=>
  refine wpAny_loadName_cell k.kind (k.kindOf (n.elim (λn=>?_) id)) (by rw[k.fr.ecells];exact fE e1) e2 (z v w (.refl k) ⟨op,r,q⟩)
  rw[n]at e;exact e.elim nofun nofun
inductive iZ(c:Cx)(x:Str)(a:AV):Prop
 | mk (v:Value) (hv:c.mg x=some v\/(c.mg x=none/\c.mb x=some v)) (r:∀I,(∀b o,c.H0.get? b=some o->I b=some o)->rep c.P I a v)
theorem TE.glob{a:AV}(k:Ok g ρ w)(n:g.sc.names.lookup x=some .globalImplicit)(i:iZ g.c x a)(q:Q (.v a) w.S):ET g ρ w (loadName g.env x) Q X:=.of λQ' E z=>by
 cases i with|mk v hv r=>
 rw[loadName_read k.kind (k.kindOf n)]
 have G:w.h.Ns g.env.globals g.c.mg:=k.fr.globals▸g.c.g.keeps k.keep0
 have fin:=z v w (.refl k) ⟨.v a,r w.I k.base,q⟩
 exact hv.elim (λhv=>loadGlobal_global G hv fin) λhv=>loadGlobal_builtin G hv.1 (k.fr.bl▸g.c.b.keeps k.keep0) hv.2 fin
theorem aN:aG ((x,op)::ρ) y=if x=y then some op else aG ρ y:=by
 show(bif Fast.sEq x y then some op else aG ρ y)=_
 by_cases q:x=y
 ·rw[if_pos q,Fast.sEq_iff.mpr q];rfl
 ·rw[if_neg q,Bool.eq_false_iff.mpr λw=>q (Fast.sEq_iff.mp w)];rfl
theorem nU{y:Str}{b:Addr}{l:List (Str×Addr)}:l.lookup y=some b->∃z,(z,b)∈l:=by
 induction l with
 | nil=>exact nofun
 | cons p r ih=>
  rw[List.lookup_cons]
  cases y==p.1 with
  | true=>exactλq=>Option.some.inj q▸⟨p.1,.head _⟩
  | false=>exactλq=>(ih q).imp λq0=>.tail _
theorem jy{x y:Str}{d:Addr}{l:List (Str×Addr)}(nd:(l.map (·.2)).Nodup):l.lookup x=some d->l.lookup y=some d->x=y:=by
 induction l with
 | nil=>exact nofun
 | cons p r ih=>
  have nd:=List.nodup_cons.mp nd
  rw[List.lookup_cons,List.lookup_cons]
  cases w1:x==p.1<;>cases w2:y==p.1<;>intro q1 q2
  ·exact ih nd.2 q1 q2
  ·cases q2;exact absurd (lookup_mem q1) nd.1
  ·cases q1;exact absurd (lookup_mem q2) nd.1
  ·exact(beq_iff_eq.mp w1).trans (beq_iff_eq.mp w2).symm
theorem Ok.own_nd(k:Ok g ρ w):g.own.Nodup:=(List.nodup_append.mp k.nodup).1
theorem Ok.cell_ne(k:Ok g ρ w)(m:a∈g.cells.map (·.2)):a≠g.L:=λq=>(List.nodup_cons.mp k.own_nd).1 (q▸m)
inductive JJ(g:Fr)(x:Str)(ρ:aa)(w:W):Unit->aa->W->Prop
 | mk (h:Heap) (tk:Nat) (sb:g.sc.names.lookup x=some .local->Heap.SameBut g.L w.h h):JJ g x ρ w () ρ ⟨w.I,w.loc,w.S,h,tk⟩
theorem TS.store(k:Ok g ρ w)(n:g.sc.names.lookup x=some .local\/g.sc.names.lookup x=some .cell)(r:bB g w op v):TS g w (storeName g.env x v) (JJ g x ((x,op)::ρ) w) X:=λQ' E z q0=>by
 cases k.vars with|mk m N C V=>
 rcases n with n|n
 ·refine .of <| wpAny_storeName_local (m:=m) (k.kindOf n) (k.fr.L▸N) (λh' hn hs=>z _ _ _ ?_ (.mk h' (w.tk+1) λq0=>k.fr.L▸hs)) (by rw[k.kind];rfl)
  rw[k.fr.L]at hn hs
  have ce:∀{a v},a∈g.cells.map (·.2)->w.h.IsCell a v->h'.IsCell a v:=λm q=>q.sameBut hs (k.cell_ne m)
  refine .own k (.head _) hs (e9 hn) ⟨_,hn,λd hd=>(C d hd).imp λq0=>ce (List.mem_map_of_mem hd),λy o q=>?_⟩
  rw[aN]at q
  by_cases z:x=y
  ·subst z;rw[if_pos rfl]at q;cases q;exact .loc n v (if_pos rfl) r
  ·rw[if_neg z]at q
   exact tE.mono (w:=w) (λu e=>(if_neg (Ne.symm z)).trans e) (λq0=>id) (λq0 q1 e1=>ce (lookup_mem e1)) (V y o q)
 ·obtain⟨b,hb⟩:=Option.isSome_iff_exists.mp (k.fr.cell _ (PySem.mem_of_lookup_some n) rfl)
  obtain⟨z0,hz0⟩:=nU hb
  obtain⟨w0,hw0⟩:=C _ hz0
  have mb:=lookup_mem hb
  refine .of <| wpAny_storeName_cell k.kind (k.kindOf n) (by rw[k.fr.ecells];exact fE hb) hw0 (λh' hn hs=>z _ _ _ ?_ (.mk h' w.tk λe=>nomatch n.symm.trans e))
  refine .own k (.tail _ mb) hs (lE hn) ⟨m,N.sameBut hs (k.cell_ne mb).symm,λd hd=>?_,λy o q=>?_⟩
  ·by_cases z:d.2=b
   ·exact⟨some v,z▸hn⟩
   ·exact(C d hd).imp λq0 hw=>hw.sameBut hs z
  ·rw[aN]at q
   by_cases z:x=y
   ·subst z;rw[if_pos rfl]at q;cases q;exact .cel (.inl n) b v hb hn r
   ·rw[if_neg z]at q
    exact tE.mono (w:=w) (λu e=>e) (λq0=>id) (λa' q0 e1 e2=>e2.sameBut hs λ(q:a'=b)=>z (jy (List.nodup_cons.mp k.own_nd).2 hb (q▸e1))) (V y o q)
end
end Mine
namespace Mine
set_option backward.match.sparseCases true
theorem kP{c:Cx}{A:Around}{env:Env}{outer:List Env}{L:Addr}{h0 h:Heap}{tk:Nat}{e:Value}{Q:Unit->Shared->Prop}{E:Value->Shared->Prop}(x:pP h0 h e)(hold:∀a,h.get? a=none->h0.get? a=none)
  (hfr:A.frames=some (env::outer)) (hl:h.FunFrames c.H0 (env::outer)) (hf:env.frame=some L)
  (hQ:∀h',AU h0 h' e->(∀b o,h.get? b=some o->(h0.get? b≠none\/∀vs,o.data≠.fields vs)->gd (bh (env::outer)) [] h' b o)->Q () (c.mk' h' tk)):
  wpAny c.M A (leaving env e) Q E (c.mk' h tk):=by
 let isF:Addr->Prop:=λa=>h0.get? a=none/\∃o vs,h.get? a=some o/\o.data=.fields vs
 let bad:List Addr:=bh (env::outer)++(List.range h.objs.size).filter λa=>@decide (isF a) (Classical.propDecidable _)
 let base:=hideAll h bad
 have inb:∀{b o vs},h.get? b=some o->o.data=.fields vs->h0.get? b=none->b∈bad:=λ{b o vs} e1 e3 e2=>
  List.mem_append_right _ (List.mem_filter.mpr ⟨List.mem_range.mpr (Heap.lt_size e1),@decide_eq_true _ (Classical.propDecidable _) ⟨e2,o,vs,e1,e3⟩⟩)
 have nb:∀{b o},h.get? b=some o->(h0.get? b≠none\/∀vs,o.data≠.fields vs)->b∉bh (env::outer)->b∉bad:=λ{b o} e0 e1 e2 m=>by
  rcases List.mem_append.mp m with m|m
  ·exact e2 m
  ·refine bp λGG1 hG1=>?_
   obtain⟨w1,o',vs,w2,w3⟩:=@of_decide_eq_true _ (Classical.propDecidable _) (List.mem_filter.mp m).2
   refine hG1 ?_
   exact e1.elim (λe1=>e1 w1) λe1=>e1 vs (aM e0 w2▸w3)
 have hkb:base.StaysIn h:=λb o e=>of_hideAll _ e
 have hl':h.FunFrames base (env::outer):=funFrames_hide hl λn hn a ha=>List.mem_append_left _ (List.mem_filterMap.mpr ⟨n,hn,ha⟩)
 have fin:∀a cls,e=.ref a->cls=.type "TypeError" ->h0.get? a=none->∀h',Heap.Left base (env::outer) a cls h h'->Q () (c.mk' h' tk):=by
  intro a cls he hcls ha h' hL
  refine bp λGG2 hG2=>?_
  obtain⟨k1,k2,⟨oe,vs,T,oT,ts,t1,t2,t3,t4,t5,t6,t7,t8,t9⟩,k4⟩:=hL
  refine hG2 ?_
  refine hQ h' ⟨a,oe,vs,T,oT,ts,he,ha,t1,t2.trans hcls,t3,t4,Classical.byContradiction λw=>?_,t6,t7,t8,t9⟩ (λb o e1 e2=>?_)
  ·refine bp λGG3 hG3=>?_
   obtain⟨o1,ho1⟩:=Option.ne_none_iff_exists'.mp λz=>w (hold T z)
   obtain⟨_,o',ho',nf⟩:=Heap.FunFrames.mem k2 (Classical.byContradiction λz=>sn (hideAll_get bad ho1 (nb ho1 (.inl w) z)) t5)
   refine hG3 ?_
   exact nf _ (aM t7 ho'▸t8)
  ·by_cases q:b∈bh (env::outer)
   ·refine bp λGG4 hG4=>?_
    obtain⟨_,o',ho',nf⟩:=Heap.FunFrames.mem hl' q
    obtain⟨sl,e3⟩:=k4 b o e1 (aM e1 ho'▸nf)
    refine hG4 ?_
    exact⟨_,e3,λq0=>.inr ⟨q,rfl,rfl,rfl⟩⟩
   ·exact⟨o,k1 b o (hideAll_get _ e1 (nb e1 e2 q)),λq0=>.rfl'⟩
 rcases x with⟨a,oe,vs,rfl,ha,h1,h2,h3,h4⟩|⟨a,oe,vs,T,oT,ts,rfl,ha,h1,h2,h3,h4,h5,h6,h7,h8,h9⟩
 ·exact wpAny_leaving_first (s:=c.mk' h tk) hfr hl' hf h1 hkb (hideAll_none _ (inb h1 h3 ha)) h3 h4 λh' hL=>fin a oe.cls rfl h2 ha h' hL
 ·exact wpAny_leaving_next (s:=c.mk' h tk) (cls:=.type "TypeError") hfr hl' hf ⟨oe,vs,T,oT,ts,h1,h2,h3,h4,hideAll_none _ (inb h7 h8 h5),h6,h7,h8,h9⟩ hkb (hideAll_none _ (inb h1 h3 ha)) λh' hL=>fin a _ rfl rfl ha h' hL
structure FnAt(c:Cx)(f:Addr)(fd:FuncData)(ps:List Str)(body:List Stmt)(sc:Scope)(cl:List (Str×Addr)):Prop where
 obj:∃o,c.H0.get? f=some o/\o.data=.func fd
 body:fd.body=.stmts body
 scope:fd.scope=sc
 globals:fd.globals=mainGlobals
 bl:fd.builtins=builtinsNs
 closure:fd.closure=cl
 code:c.H0.CodeRec fd.code fd.qualname
 fn:sc.kind=.function
 gen:sc.isGenerator=false
 co:sc.isCoroutine=false
inductive Fo where
 | next|brk|cont|ret (o:Op)
inductive Ia(p:Value->Prop)(f:Flow):Prop
 | mk (v:Value) (e:f=.ret v) (r:p v)
def xk(g:Fr)(w:W):Fo->Flow->Prop
 |.next=>λf=>f=.next
 |.brk=>λf=>f=.brk
 |.cont=>λf=>f=.cont
 |.ret o=>Ia (bB g w o)
inductive HQ(g:Fr)(Q:Fo->aa->St->Prop)(f:Flow)(ρ:aa)(w:W):Prop
 | mk (fo:Fo) (r:xk g w fo f) (q:Q fo ρ w.S)
abbrev ST(g:Fr)(w:W)(t:Sem Flow)(Q:Fo->aa->St->Prop)(X:aa->St->Prop):Prop:=TS g w t (HQ g Q) X
def GK(Q:AV->Sh->Prop)(sh:Sh):Option LO->Prop
 | some (.list l)=>Q (.list l) sh
 | some (.dict l)=>Q (.dict l) sh
 | some (.ba l)=>Q (.oc true l) sh
 | none=>False
def vK(Q:AV->Sh->Prop)(S:St):Op->Prop
 |.v a=>Q a S.sh
 |.loc k=>GK Q S.sh S.loc[k]?
 | _=>False
def dk(Q:AV->Sh->Prop)(f:Fo)(_:aa)(S:St):Prop:=match f with
 |.next=>Q .none S.sh
 |.ret o=>vK Q S o
 | _=>False
def gi(P:Params)(sl:Sl)(I:PH):List (Str×Value)->aa->Prop
 | []=>λr=>r=[]
 | b::bs=>bP (λo=>o.1=b.1/\opr P sl I [] o.2 b.2) (gi P sl I bs)
inductive Fi(c:Cx)(fd:FuncData)(sl:Sl)(I:PH)(a:Args)(ρ:aa):Prop
 | mk (binds:List (Str×Value)) (b:∀s:Shared,(∀a o,c.H0.get? a=some o->s.heap.get? a=some o)->BindsTo s fd a binds) (r:gi c.P sl I binds ρ)
def Binds(c:Cx)(fd:FuncData)(args:List Op)(kw:List (Str×Op))(ρ:aa):Prop:=
 ∀sl I vals kvals,oprs c.P sl I [] args vals->A7 c.P sl I [] kw kvals->(∀a o,c.H0.get? a=some o->I a=some o)->Fi c fd sl I ⟨vals,kvals⟩ ρ
section
variable {P:Params}{sl:Sl}{I:PH}{x:Str}{v:Value}{bs:List (Str×Value)}
theorem fy:∀{r:aa},gi P sl I bs r->bs.map (·.1)=r.map (·.1):=by
 induction bs with
 | nil=>exactλh=>h▸rfl
 | cons b bs ih=>
  intro r h
  cases h with|mk o r' e h1 h2=>
  subst e
  exact congr (congrArg List.cons h1.1.symm) (ih h2)
inductive NY(P:Params)(sl:Sl)(I:PH)(bs:List (Str×Value))(x:Str)(op:Op):Prop
 | mk (v:Value) (m:(x,v)∈bs) (r:opr P sl I [] op v)
theorem hJ{op:Op}:∀{r:aa},gi P sl I bs r->aG r x=some op->NY P sl I bs x op:=by
 induction bs with
 | nil=>intro r h q;subst h;cases q
 | cons b bs ih=>
  intro r h q
  cases h with|mk o r' e h1 h2=>
  obtain⟨y,o⟩:=o
  obtain⟨e1,h1⟩:=h1
  dsimp only at e1
  subst e e1
  rw[aN]at q
  by_cases z:b.1=x
  ·rw[if_pos z]at q;cases q;exact⟨b.2,z▸ .head _,h1⟩
  ·rw[if_neg z]at q
   cases ih h2 q with|mk v m r=>exact⟨v,.tail _ m,r⟩
variable {k:Str->Option NameKind}
theorem qe:∀{m:Str->Option Value},x∉bs.map (·.1)->bindL k bs m x=m x:=by
 induction bs with
 | nil=>exactλq0=>rfl
 | cons b r ih=>
  intro m h
  have h:=not_or.mp (λz=>h (List.mem_cons.mpr z))
  unfold bindL
  rw[ih h.2]
  split
  ·exact if_neg h.1
  ·rfl
theorem pT:∀{m:Str->Option Value},x∉bs.map (·.1)->bindC k bs m x=m x:=by
 induction bs with
 | nil=>exactλq0=>rfl
 | cons b r ih=>
  intro m h
  have h:=not_or.mp (λz=>h (List.mem_cons.mpr z))
  unfold bindC
  rw[ih h.2]
  split
  ·rfl
  ·exact if_neg h.1
theorem uc(hk:k x=some .local):∀{m:Str->Option Value},(bs.map (·.1)).Nodup->(x,v)∈bs->bindL k bs m x=some v:=by
 induction bs with
 | nil=>exactλq0=>nofun
 | cons b r ih=>
  intro m nd mem
  have nd:=List.nodup_cons.mp nd
  unfold bindL
  rcases List.mem_cons.mp mem with e|mem
  ·cases e;rw[qe nd.1,if_pos hk];exact if_pos rfl
  ·exact ih nd.2 mem
theorem uh(hk:k x≠some .local):∀{m:Str->Option Value},(bs.map (·.1)).Nodup->(x,v)∈bs->bindC k bs m x=some v:=by
 induction bs with
 | nil=>exactλq0=>nofun
 | cons b r ih=>
  intro m nd mem
  have nd:=List.nodup_cons.mp nd
  unfold bindC
  rcases List.mem_cons.mp mem with e|mem
  ·cases e;rw[pT nd.1,if_neg hk];exact if_pos rfl
  ·exact ih nd.2 mem
end
section
variable {c:Cx}{all:List Env}{sl:Sl}{I:PH}{h hc:Heap}{sh:Sh}{a:Addr}{o:Obj}
theorem fH.freeze(k:fH c.P c.H0 all sl sh I h)(e:h.get? a=some o)(n:I a=none)(x:a∉sl.as)(f:∀vs,o.data≠.fields vs)(ff:a∉bh all):fH c.P c.H0 all sl sh (pI I a o) h:=
 ⟨λb ob q=>bC n _ _ (k.base b ob q),λb ob q=>dU (λb ob=>h.get? b=some ob) q e (k.imm b ob),λb ob q=>dU (λb ob=>c.H0.get? b=some ob\/∀vs,ob.data≠.fields vs) q (.inr f) (k.nof b ob),
  k.nodup,λb m=>mO x m (k.apart b m),k.sh.mono (bC n) λq0 q1 q2=>id,k.live,k.frames,k.fapart,λb m=>mO ff m (k.fI b m)⟩
structure Ent(g:Fr)(all:List Env)(I:PH)(h hc:Heap):Prop where
 keep:Grows h hc
 fr:g.env.frame=some g.L
 all:g.all=g.env::all
 own:∀a∈g.own,h.get? a=none
variable {g:Fr}{tk:Nat}{w':W}{ρ ρ':aa}
theorem Ent.fs(E:Ent g all I h hc):bh g.all=g.L::bh all:=by rw[E.all];exact List.filterMap_cons_some E.fr
theorem Ent.like(E:Ent g all I h hc){o' o1:Obj}(e:h.get? a=some o1)(z:dF (bh g.all) a o o'):dF (bh all) a o o':=z.imp_right λhh=>hh.casesOn λm z=>⟨by
 rw[E.fs]at m
 exact(List.mem_cons.mp m).elim (λm=>sn e (m▸E.own _ (.head _))) id,z⟩
theorem Ent.xs(E:Ent g all I h hc)(e:h.get? a=some o)(n:a∉g.sl.as):a∉g.xs []:=λm=>(List.mem_append.mp m).elim (λm=>sn e (E.own a m)) n
theorem Ent.trc(E:Ent g all I h hc){S:St}(t:jU g g.own ⟨I,[],S,hc,tk⟩ w'){h2:Heap}(kept:∀a o,h.get? a=some o->gd (bh all) g.sl.as h2 a o):tR all g.sl I h w'.I h2:=
 ⟨t.le,λa o e=>(t.new a o e).imp_right λe=>e.elim E.keep.none nofun,kept⟩
theorem Ent.sub(E:Ent g all I h hc)(m:a∈bh all):a∈bh g.all:=E.fs▸ .tail _ m
theorem Ent.ok(E:Ent g all I h hc){S:St}{Q:AV->Sh->Prop}{X:Sh->Prop}{fo:Fo}{fl:Flow}(n:Nt g ρ' ⟨I,[],S,hc,tk⟩ w')(f:xk g w' fo fl)(q:dk Q fo ρ' w'.S):
  tm g.c all g.sl I h Q X (.ok (.ret (match(generalizing:=false) fl with|.ret v=>v|_=>.none))) (g.at w'):=by
 have T:tR all g.sl I h w'.I w'.h:=E.trc n.t λa o e=>by
  cases n.t.kept a o (E.keep a o e)with|mk o' e' l=>exact⟨o',e',λz=>E.like e (l (E.xs e z))⟩
 have C:fH g.c.P g.c.H0 all g.sl w'.S.sh w'.I w'.h:={n.k.toC with frames:=(E.all▸n.k.frames:Heap.FunFrames _ _ (g.env::all)).2.2,fapart:=λa m=>n.k.f_s (E.sub m),fI:=λa m=>n.k.fI a (E.sub m)}
 cases fo with
 | next=>cases f;exact .ok (av:=.none) T C rfl q
 | brk=>exact q.elim
 | cont=>exact q.elim
 | ret op=>
  cases f with|mk v e r=>
  subst e
  cases op with
  | v a=>exact .ok T C r q
  | oct=>exact q.elim
  | drw=>exact q.elim
  | slf C=>exact q.elim
  | gone=>exact q.elim
  | loc k=>
   cases r with|mk a ha e=>
   subst e
   have q:GK Q w'.S.sh w'.S.loc[k]? :=q
   cases hS:w'.S.loc[k]? with
   | none=>rw[hS]at q;exact q.elim
   | some lo=>
    have ma:a∈w'.loc:=List.mem_of_getElem? ha
    have nI:=n.k.apart a (Fr.ml ma)
    have fr:h.get? a=none:=(n.t.locnew a ma).elim nofun E.keep.none
    have L:=n.k.loc k a lo ha hS
    have go:∀(o:Obj) (av:AV),w'.h.get? a=some o->(∀vs,o.data≠.fields vs)->(∀J,bb w'.I J->J a=some o->rep g.c.P J av (.ref a))->Q av w'.S.sh->tm g.c all g.sl I h Q X (.ok (.ret (.ref a))) (g.at w'):=λo av e nfd r q=>
     .ok ⟨T.le.trans (bC nI),λb ob z=>dU (λb ob=>I b=some ob\/h.get? b=none) z (.inr fr) (T.new b ob),T.kept⟩ (C.freeze e nI (n.k.loc_s ma) nfd λz=>n.k.loc_f ma (E.sub z)) (r _ (bC nI) (eF ..)) q
    rw[hS]at q
    cases lo with
    | list l=>cases L with|mk o x n e c z s d r=>exact go o (.list l) e (λvs z=>nomatch d.symm.trans z) (λJ le i=>⟨a,o,x,n,rfl,i,c,d,bg le l r⟩) q
    | dict l=>cases L with|mk o x n e c z d r nd m=>exact go o (.dict l) e (λvs z=>nomatch d.symm.trans z) (λJ le i=>⟨a,o,x,n,rfl,i,c,z,d,bu le l r,nd,m⟩) q
    | ba l=>cases L with|mk o x e c z d t=>exact go o (.oc true l) e (λvs z=>nomatch d.symm.trans z) (λJ le i=>⟨a,o,x,rfl,i,c,d,t⟩) q
theorem Ent.begin(E:Ent g all I h hc)(s:fH g.c.P g.c.H0 all g.sl sh I h)(f:Ei g)(nd:g.own.Nodup)(ex:∀a∈g.own,∃o,hc.get? a=some o)(V:dh g ρ ⟨I,[],⟨sh,[]⟩,hc,tk⟩):Ok g ρ ⟨I,[],⟨sh,[]⟩,hc,tk⟩:=by
 have old:∀a∈g.sl.as,h.get? a≠none:=λa m q=>(s.live a m).elim λq0 e=>sn e q
 have nI:∀a∈g.own,I a=none:=λa m=>g8 (λo q=>dG (s.imm a o q)) (E.own a m)
 have xs:∀{a},a∈g.xs []->a∈g.own\/a∈g.sl.as:=List.mem_append.mp
 have fsm:∀{a},a∈bh g.all->a=g.L\/a∈bh all:=λm=>List.mem_cons.mp (E.fs▸m)
 refine⟨f,s.base,λa o q=>E.keep a o (s.imm a o q),s.nof,List.nodup_append.mpr ⟨nd,s.nodup,λa ma b mb q=>old b mb (q▸E.own a ma)⟩,λa m=>(xs m).elim (nI a) (s.apart a),V,nofun,rfl,s.sh.mono (.refl _) λa q0=>E.keep a,
  λa m=>(xs m).elim (ex a) λm=>(s.live a m).imp (E.keep a),?_,λa m=>(fsm m).imp_right λm z=>(xs z).elim (λz=>(Heap.FunFrames.mem s.frames m).2.elim λq0 e=>sn e.1 (E.own a z)) (s.fapart a m),λa m=>(fsm m).elim (λe=>e▸nI _ (.head _)) (s.fI a)⟩
 cases V with|mk m N C V=>
 obtain⟨o,es,ep,e1,e2,_⟩:=N
 rw[E.all]
 exact⟨by rw[f.scope,f.fn];decide,⟨g.L,o,E.fr,g8 (λo' w=>dG (s.imm _ _ (s.base _ _ w))) (E.own _ (.head _)),e1,λvs z=>nomatch e2.symm.trans z⟩,bf (λL q0 o e f=>⟨o,E.keep L o e,f⟩) s.frames⟩
def Iu(g:Fr)(code:Code)(w:W)(t:Sem Flow)(Q:Fo->aa->St->Prop)(X:aa->St->Prop):Prop:=
 ∀(R:Flow->Shared->Prop) (E:Value->Shared->Prop),(∀a ρ w',Nt g ρ w w'->HQ g Q a ρ w'->R a (g.at w'))->(∀e ρ w',Nt g ρ w w'->pP w.h w'.h e->X ρ w'.S->E e (g.at w'))->gZ g.c.clean g.c.M g.A code t R E (g.at w)
def kJ(c:Cx)(n:Nat)(f:Addr)(cd:Value)(body:List Stmt)(sc:Scope)(cl:List (Str×Addr))(ρ:aa)(sh:Sh)(Q:AV->Sh->Prop)(X:Sh->Prop):Prop:=
 ∀(g:Fr) (I:PH) (h:Heap) (tk:Nat),g.c=c->g.n=n->g.sc=sc->g.cl=cl->g.env.func=some f->g.env.code=cd->(∀x a,cl.lookup x=some a->g.env.cells.lookup x=some a)->cC g->Ok g ρ ⟨I,[],⟨sh,[]⟩,h,tk⟩->
  Iu g (.func body g.env) ⟨I,[],⟨sh,[]⟩,h,tk⟩ (execs body g.env) (dk Q) (λq0 S=>X S.sh)
theorem Ent.run{A:Around}{Q:AV->Sh->Prop}{X:Sh->Prop}{body:List Stmt}{R:Result->Shared->Prop}(E:Ent g all I h hc)(s:fH g.c.P g.c.H0 all g.sl sh I h)(k:Ok g ρ ⟨I,[],⟨sh,[]⟩,hc,tk⟩)(eA:A.deeper g.env=g.A)
  (B:Iu g (.func body g.env) ⟨I,[],⟨sh,[]⟩,hc,tk⟩ (execs body g.env) (dk Q) (λq0 S=>X S.sh)) (hR:∀r s',tm g.c all g.sl I h Q X r s'->R r s'):aC g.c.clean g.c.M A (.func body g.env) R (g.c.mk' hc tk):=by
 have fr:g.A.frames=some (g.env::all):=E.all▸k.fr.a.frames
 refine qO (eA▸B _ _ (λfl ρ' w' n r=>?_) λe ρ' w' n x q=>?_)
 ·cases r with|mk fo r q=>exact hR _ _ (E.ok n r q)
 ·refine kP (A:=g.A) (Q:=λq0 s=>R (.error e) s) (x.back λq0=>E.keep.none) (λa q=>E.keep.none (n.t.no q)) fr (E.all▸n.k.frames) E.fr λh2 x2 k1=>hR _ _ ?_
  rw[<-E.all]at k1
  have kept:∀a o,h.get? a=some o->gd (bh all) g.sl.as h2 a o:=λa o q=>by
   cases n.t.kept a o (E.keep a o q)with|mk o1 e1 l1=>
   cases k1 a o1 e1 (.inl (dG q))with|mk o2 e2 l2=>
   exact⟨o2,e2,λz=>E.like q ((l1 (E.xs q z)).trans (l2 nofun))⟩
  have same:∀{a o},w'.h.get? a=some o->(h.get? a≠none\/∀vs,o.data≠.fields vs)->a∉bh g.all->h2.get? a=some o:=λq z nf=>by
   cases k1 _ _ q z with|mk o2 e2 l2=>exact(l2 nofun).eq nf▸e2
  exact .ex (E.trc n.t kept) ⟨n.k.base,λa o q=>same (n.k.imm a o q) ((n.k.nof a o q).imp_left λz=>dG (s.imm _ _ (s.base a o z))) λz=>sn q (n.k.fI a z),n.k.nof,s.nodup,λa m=>n.k.apart a (Fr.ms m),
   n.k.sh.mono (.refl _) λa m o q=>same q (.inl λz=>(s.live a m).elim λq0 e=>sn e z) λz=>n.k.f_s z m,
   λa m=>(s.live a m).elim λo e=>by cases kept a o e with|mk o' e' l=>exact⟨o',e'⟩,
   bf (λL m o w nf=>by cases k1 L o w (.inr nf)with|mk o2 e2 l2=>exact⟨o2,e2,λvs z=>nf vs ((l2 nofun).like.d▸z)⟩) (E.all▸n.k.frames:Heap.FunFrames _ _ (g.env::all)).2.2,
   s.fapart,λa m=>n.k.fI a (E.sub m)⟩ x2 q
end
end Mine
namespace Mine
section
variable {P:Params}{sl:Sl}{I:PH}
theorem fk{x:Str}{names:List (Str×NameKind)}:∀{n:Nat} {acc:List (Str×Addr)},((acc.lookup x).isSome=true\/(x,NameKind.cell)∈names)->((cellsFrom n names acc).lookup x).isSome=true:=by
 induction names with
 | nil=>exactλh=>h.elim id nofun
 | cons p r ih=>
  intro n acc h
  obtain⟨y,k⟩:=p
  unfold cellsFrom
  by_cases q:(k== .cell)=true
  ·rw[if_pos q]
   refine ih ?_
   rw[List.lookup_cons]
   cases w:x==y with
   | true=>exact .inl rfl
   | false=>exact h.imp id λh=>(List.mem_cons.mp h).elim (λe=>by cases e;rw[beq_self_eq_true]at w;cases w) id
  ·rw[if_neg q]
   exact ih (h.imp id λh=>(List.mem_cons.mp h).elim (λe=>by cases e;exact absurd rfl q) id)
theorem cL{α:Type}{x:Str}{v:α}{l:List (Str×α)}:(l.map (·.1)).Nodup->(x,v)∈l->l.lookup x=some v:=by
 induction l with
 | nil=>exactλq0=>nofun
 | cons p r ih=>
  intro nd m
  have nd:=List.nodup_cons.mp nd
  rw[List.lookup_cons]
  rcases List.mem_cons.mp m with m|m
  ·cases m;rw[beq_self_eq_true]
  ·rw[beq_eq_false_iff_ne.mpr λ(z:x=p.1)=>nd.1 (by show p.1∈_;rw[<-z];exact List.mem_map_of_mem (f:=(·.1)) m)]
   exact ih nd.2 m
end
section
variable {c:Cx}{f:Addr}{fd:FuncData}{ps:List Str}{body:List Stmt}{sc:Scope}{cl:List (Str×Addr)}{args:List Op}{kw:List (Str×Op)}{ρ:aa}{sh:Sh}{Q:AV->Sh->Prop}{X:Sh->Prop}{n:Nat}
theorem gu.deep{A:Around}{all:List Env}{env:Env}(a:gu A (n+1) all):gu (A.deeper env) n (env::all):=
 ⟨a.handled,by have:=a.depth;show A.depth+1+n+1<_;exact uC 0x401209100900db608024120910c036c00c this,by have:=a.units;show A.units+3+_<_;exact uC 0x100482443042064036c10048241221b042006c00c this,Around.frames_deeper a.frames⟩
theorem FnAt.call{A:Around}{vals:List Value}{kvals:List (Str×Value)}{R:Result->Shared->Prop}{h:Heap}{tk:Nat}{binds:List (Str×Value)}(F:FnAt c f fd ps body sc cl)(room:A.depth<recursionLimit)(k0:∀a o,c.H0.get? a=some o->h.get? a=some o)
  (hb:BindsTo (c.mk' h tk) fd ⟨vals,kvals⟩ binds) (x:wpAny c.M A.in1 (newFunctionEnv sc mainGlobals cl binds (fd.qualname++".<locals>.") (some f) fd.code none builtinsNs)
   (λenv s₂=>s₂.heap.NoLimit/\aC c.clean c.M A (.func body env) R s₂) (λe s'=>R (.error e) s') (c.mk' h tk)):aC c.clean c.M A (.call (.ref f) ⟨vals,kvals⟩) R (c.mk' h tk):=by
 obtain⟨fo,hfo,hfd⟩:=F.obj
 refine qw (s:=c.mk' h tk) room (k0 _ _ hfo) hfd (F.scope▸F.co) (F.scope▸F.gen) F.body (F.code.keeps k0) (hb _ _ _ _ ?_)
 rw[F.scope,F.globals,F.closure,F.bl]
 exact x
theorem lD{binds:List (Str×Value)}{p:Str->Bool}(nms:binds.map (·.1)=ρ.map (·.1))(k:(ρ.all λy=>p y.1)=true):∀x∈binds,p x.1=true:=λx hx=>by
 have m:x.1∈ρ.map (·.1):=nms▸List.mem_map_of_mem hx
 obtain⟨y,hy,e⟩:=List.mem_map.mp m
 exact e▸List.all_eq_true.mp k y hy
noncomputable def GT(c:Cx)(n:Nat)(all:List Env)(sc:Scope)(cl:List (Str×Addr))(A:Around)(env:Env)(L:Addr)(cells:List (Str×Addr))(sl:Sl):Fr:=⟨c,n,env::all,sc,cl,A.deeper env,env,L,cells,sl⟩
theorem g7(F:FnAt c f fd ps body sc [])(hb:Binds c fd args kw ρ)(nd:(ρ.map (·.1)).Nodup)
  (kinds:(ρ.all λy=>sc.names.lookup y.1==some .local||sc.names.lookup y.1==some .cell)=true) (cnd:((cellsFrom 0 sc.names []).map (·.1)).Nodup) (B:kJ c n f fd.code body sc [] ρ sh Q X):
  ae c (n+1) f args kw sh Q X:=⟨λA all sl I h tk vals kvals R a s ha hk hR=>by
 cases hb sl I vals kvals ha hk s.base with|mk binds hbind br=>
 have k0:∀a o,c.H0.get? a=some o->h.get? a=some o:=λa o e=>s.imm a o (s.base a o e)
 have nms:=fy br
 have ndb:(binds.map (·.1)).Nodup:=nms▸nd
 have kb:=lD (p:=λy=>sc.names.lookup y==some .local||sc.names.lookup y==some .cell) nms kinds
 refine F.call (by have:=a.depth;exact uC 0x100480608024120910c036c00c this) k0 (hbind _ k0) (wpAny_newFunctionEnv_cells F.fn (kindsX (List.all_eq_true.mpr kb) _) λenv he s' x=>?_)
 subst he
 obtain⟨hc,tkc,rfl,keep⟩:=x.done
 let cs:=cellsFrom (h.objs.size+1) sc.names []
 have ndc:(cs.map (·.1)).Nodup:=cellsFrom_names sc.names 0 (h.objs.size+1) [] [] rfl▸cnd
 have cell:=λ(p:Str×Addr) (hp:p∈cs)=>x.cell p.1 p.2 (cL ndc (v:=p.2) hp)
 have mem:∀y,sc.names.lookup y=some .cell->∃b,cs.lookup y=some b:=λy k=>Option.isSome_iff_exists.mp (fk (.inr (PySem.mem_of_lookup_some k)))
 refine⟨(c.nolimit.keeps k0).keeps keep,?_⟩
 let g:=GT c n all sc [] A (newEnv sc h.objs.size mainGlobals cs (fd.qualname++".<locals>.") (some f) fd.code none builtinsNs) h.objs.size cs sl
 have E:Ent g all I h hc:=⟨keep,rfl,rfl,λb hb=>(List.mem_cons.mp hb).elim (λe=>e▸ax h) λhb=>by
  obtain⟨p,hp,rfl⟩:=List.mem_map.mp hb
  exact Heap.get?_none_of_le (Nat.le_of_lt (x.above p.1 p.2 hp))⟩
 have k:Ok g ρ ⟨I,[],⟨sh,[]⟩,hc,tkc⟩:=by
  refine E.begin s ⟨a.deep,rfl,F.fn,rfl,(List.append_nil _).symm,rfl,rfl,λy hy hk=>fk (.inr (by rw[<-hk];exact hy))⟩ ?_ ?_ ⟨_,x.toInCall.ns,λp hp=>⟨_,cell p hp⟩,λy op q=>?_⟩
  ·refine List.nodup_cons.mpr ⟨λm=>?_,List.pairwise_map.mpr x.apart⟩
   obtain⟨p,hp,e⟩:=List.mem_map.mp m
   exact Nat.lt_irrefl _ (e▸x.above p.1 p.2 hp)
  ·refineλb hb=>(List.mem_cons.mp hb).elim (λe=>e▸e9 x.toInCall.ns) λhb=>?_
   obtain⟨p,hp,rfl⟩:=List.mem_map.mp hb
   exact lE (cell p hp)
  ·cases hJ br q with|mk v m r=>
   rcases Bool.or_eq_true_iff.mp (kb _ m)with k|k
   ·have k:=beq_iff_eq.mp k
    exact .loc k v (uc k ndb m) r
   ·have k:sc.names.lookup y=some .cell:=beq_iff_eq.mp k
    obtain⟨b,hb⟩:=mem y k
    refine .cel (.inl k) b v hb ?_ r
    have e:=x.cell y b hb
    rwa [uh (show sc.names.lookup y≠some .local from k▸nofun) ndb m]at e
 exact E.run (g:=g) s k rfl (B g I hc tkc rfl rfl rfl rfl rfl rfl nofun ⟨_,rfl⟩ k) hR⟩
theorem ki(F:FnAt c f fd ps body sc cl)(hb:Binds c fd args kw ρ)(nd:(ρ.map (·.1)).Nodup)
  (kinds:(ρ.all λy=>sc.names.lookup y.1==some .local)=true) (hcell:(sc.names.all λx=>x.2 != .cell)=true) (B:kJ c n f fd.code body sc cl ρ sh Q X):
  ae c (n+1) f args kw sh Q X:=⟨λA all sl I h tk vals kvals R a s ha hk hR=>by
 cases hb sl I vals kvals ha hk s.base with|mk binds hbind br=>
 have k0:∀a o,c.H0.get? a=some o->h.get? a=some o:=λa o e=>s.imm a o (s.base a o e)
 have nms:=fy br
 have ndb:(binds.map (·.1)).Nodup:=nms▸nd
 have kb:=λx hx=>beq_iff_eq.mp (lD (p:=λy=>sc.names.lookup y==some .local) nms kinds x hx)
 have nc:∀x∈sc.names,x.2≠.cell:=λx hx=>bne_iff_ne.mp (List.all_eq_true.mp hcell x hx)
 refine F.call (by have:=a.depth;exact uC 0x100480608024120910c036c00c this) k0 (hbind _ k0) (wpAny_newFunctionEnv (λx hx=>nc x hx) kb (λhc ns sb=>?_) F.fn)
 have keep:Grows h hc:=λb o e=>sb.extBut b o (Nat.ne_of_lt (Heap.lt_size e)) (Heap.get?_push_of_some _ e)
 refine⟨(c.nolimit.keeps k0).keeps keep,?_⟩
 let g:=GT c n all sc cl A (newEnv sc h.objs.size mainGlobals cl (fd.qualname++".<locals>.") (some f) fd.code none builtinsNs) h.objs.size [] sl
 have E:Ent g all I h hc:=⟨keep,rfl,rfl,λb hb=>(List.mem_singleton.mp hb)▸ax h⟩
 have k:Ok g ρ ⟨I,[],⟨sh,[]⟩,hc,tk+binds.length⟩:=by
  refine E.begin s ⟨a.deep,rfl,F.fn,rfl,rfl,rfl,rfl,λx hx hk=>absurd hk (nc x hx)⟩ (List.nodup_cons.mpr ⟨nofun,List.nodup_nil⟩) (λb hb=>(List.mem_singleton.mp hb)▸e9 ns) ⟨_,ns,nofun,λy op q=>?_⟩
  cases hJ br q with|mk v m r=>
  exact .loc (kb _ m) v (cL (by rw[List.map_reverse];exact List.pairwise_reverse.mpr (List.Pairwise.imp Ne.symm ndb)) (List.mem_reverse.mpr m)) r
 exact E.run (g:=g) s k rfl (B g I hc _ rfl rfl rfl rfl rfl rfl (λq0 q1=>id) ⟨_,rfl⟩ k) hR⟩
end
def pv(b:Bool)(p q:Prop):Prop:=match b with|true=>p|false=>q
theorem aD{b:Bool}{p q:Prop}(x:b=true->p)(y:b=false->q):pv b p q:=by cases b;exact y rfl;exact x rfl
def Gd(b:Bool)(p:Prop):Prop:=match b with|true=>p|false=>False
theorem Gd.i{b:Bool}{p:Prop}(e:b=true)(h:p):Gd b p:=by cases e;exact h
theorem Gd.e{b:Bool}{p:Prop}(h:Gd b p):b=true:=by cases b;exact h.elim;rfl
theorem Gd.p{b:Bool}{p:Prop}(h:Gd b p):p:=by cases b;exact h.elim;exact h
theorem Gd.d{q p:Prop}[Decidable q](h:Gd (decide q) p):q:=of_decide_eq_true h.e
def aP{α:Type}(o:Option α)(P:α->Prop):Prop:=match o with|some a=>P a|none=>False
inductive Il{α:Type}(o:Option α)(P:α->Prop):Prop
 | mk (a:α) (e:o=some a) (h:P a)
theorem ay{α:Type}{o:Option α}{P:α->Prop}(h:aP o P):Il o P:=by
 cases o with
 | none=>exact h.elim
 | some a=>exact⟨a,rfl,h⟩
noncomputable def dc:List (Str×NameKind)->Str->Option NameKind
 | [],_=>none
 | p::r,x=>bif Fast.sEq p.1 x then some p.2 else dc r x
theorem dO(k x:Str):Fast.sEq k x=(k==x):=by
 rw[Bool.eq_iff_iff,Fast.sEq_iff,beq_iff_eq]
theorem cR(l:List (Str×NameKind))(x:Str):dc l x=l.lookup x:=by
 induction l with
 | nil=>rfl
 | cons p r ih=>
  show(bif Fast.sEq p.1 x then some p.2 else dc r x)=_
  rw[List.lookup_cons,ih,dO,Bool.beq_comm]
  cases x==p.1<;>rfl
inductive CA where
 | meth (f:Addr)|prop (f:Addr)|stat (f:Addr)|val (a:AV)|field
structure aB where
 gl:Str->Option AV
 cat:Addr->Str->Option CA
 ini:Addr->Option Addr
 keep:Addr->Bool
set_option genCtorIdx true in
inductive Wh where
 | loc|glob|no
noncomputable def jr:Option NameKind->Wh
 | some .local=>.loc
 | some .cell=>.loc
 | some .globalImplicit=>.glob
 | _=>.no
theorem uV{k:Option NameKind}(e:jr k=.loc):k=some .local\/k=some .cell:=by
 cases k with
 | none=>cases e
 | some k=>cases k<;>first|exact .inl rfl|exact .inr rfl|cases e
theorem so{k:Option NameKind}(e:jr k=.glob):k=some .globalImplicit:=by
 cases k with
 | none=>cases e
 | some k=>cases k<;>first|rfl|cases e
noncomputable def gM(x:Str):Bool:=!Fast.sEq x (Str.ofString "__debug__")
theorem fN{x:Str}(e:gM x=true):(x==("__debug__" :Str))=false:=by
 rw[<-dO];exact Bool.not_eq_eq_eq_not.mp e
def FF(T:aB)(x:Str)(ρ:aa)(S:St)(Q:Op->St->Prop)(k:Wh):Prop:=match k with
 |.loc=>aP (aG ρ x) λop=>Q op S
 |.glob=>aP (T.gl x) λa=>Q (.v a) S
 |.no=>False
def nameP(T:aB)(sc:Scope)(x:Str)(ρ:aa)(S:St)(Q:Op->St->Prop):Prop:=Gd (gM x) (FF T x ρ S Q (jr (dc sc.names x)))
noncomputable def fX{α:Type}:List (Nat×Str×α)->Str->Option α
 | [],_=>none
 | p::r,x=>bif Nat.beq p.1 (Fast.code x.cps.toList)then(bif Fast.sEq p.2.1 x then some p.2.2 else fX r x)else fX r x
theorem kE{α:Type}{x:Str}{a:α}{l:List (Nat×Str×α)}:fX l x=some a->∃n,(n,x,a)∈l:=by
 induction l with
 | nil=>exact nofun
 | cons p r ih=>
  have rest:fX r x=some a->∃n,(n,x,a)∈p::r:=λq=>(ih q).imp λq0=>.tail _
  show(bif Nat.beq p.1 (Fast.code x.cps.toList)then(bif Fast.sEq p.2.1 x then some p.2.2 else fX r x)else fX r x)=some a->_
  cases Nat.beq p.1 (Fast.code x.cps.toList)with
  | false=>exact rest
  | true=>
   cases g:Fast.sEq p.2.1 x with
   | false=>exact rest
   | true=>exactλq=>⟨p.1,Option.some.inj q▸Fast.sEq_iff.mp g▸ .head _⟩
def Fn(k:Wh)(p:Prop):Prop:=match k with
 |.loc=>p
 | _=>False
def aU(sc:Scope)(x:Str)(p:Prop):Prop:=Fn (jr (dc sc.names x)) p
theorem yS{sc:Scope}{x:Str}{p:Prop}(h:aU sc x p):(sc.names.lookup x=some .local\/sc.names.lookup x=some .cell)/\p:=by
 unfold aU at h
 rw[cR]at h
 cases e:jr (sc.names.lookup x)with
 | loc=>rw[e]at h;exact⟨uV e,h⟩
 | glob=>rw[e]at h;exact h.elim
 | no=>rw[e]at h;exact h.elim
section
variable {g:Fr}{ρ ρ':aa}{w w':W}{Q:Op->St->Prop}{X:aa->St->Prop}{T:aB}{K:Bool->St->Prop}
theorem ET.grow{t:Sem Value}(op:Op)(k:Ok g ρ w)(x:∀(Q:Value->Shared->Prop) (E:Value->Shared->Prop),(∀v h' tk,Grows w.h h'->bB g w op v->Q v (g.c.mk' h' tk))->wpAny g.c.M g.A t Q E (g.at w))(q:Q op w.S):ET g ρ w t Q X:=
 .of λQ' E z=>x _ _ λv h' tk e r=>z v ⟨w.I,w.loc,w.S,h',tk⟩ (.grows k e) ⟨op,r,q⟩
theorem ET.new{t:Sem Value}(av:AV)(k:Ok g ρ w)(x:∀(Q:Value->Shared->Prop) (E:Value->Shared->Prop),(∀a o h' tk,Grows w.h h'->w.h.get? a=none->h'.get? a=some o->(∀vs,o.data≠.fields vs)->(∀J,bb w.I J->J a=some o->rep g.c.P J av (.ref a))->Q (.ref a) (g.c.mk' h' tk))->wpAny g.c.M g.A t Q E (g.at w))
  (q:Q (.v av) w.S):ET g ρ w t Q X:=.of λQ' E z=>x _ _ λa o h' tk e n i f r=>z _ _ (.born (tk:=tk) k n e i f) ⟨.v av,r _ (bC (k.new_I n)) (eF ..),q⟩
def u6(k:Const)(S:St)(Q:Op->St->Prop):Prop:=match k with
 |.none=>Q (.v .none) S
 |.bool b=>Q (.v (.bool b)) S
 |.int i=>Q (.v (.int i)) S
 |.str s=>Q (.v (.str s)) S
 |.bytes b=>Q (.v (.oc false b)) S
 | _=>False
theorem kY{c:Const}{i:Nat}{p:Pos}(k:Ok g ρ w)(q:u6 c w.S Q):ET g ρ w (eval (.Constant c i p) g.env) Q X:=by
 show ET g ρ w (constValue g.env c) Q X
 cases c with
 | none=>exact .pure k (op:=.v .none) rfl q
 | bool b=>exact .pure k (op:=.v (.bool b)) rfl q
 | int i=>exact .grow (.v (.int i)) k (λQ E q=>λq0 q1 q2=>q _ w.h _ (.refl _) ⟨_,rfl⟩) q
 | str s=>exact .grow (.v (.str s)) k (λQ E q=>λq0 q1 q2=>q _ w.h _ (.refl _) ⟨_,rfl⟩) q
 | bytes b=>exact .grow (.v (.oc false b)) k (λQ E q=>λq0 q1 q2=>q _ w.h _ (.refl _) ⟨_,_,rfl,rfl⟩) q
 | _=>exact q.elim
def qS(c:Cx)(T:aB):Prop:=∀x a,T.gl x=some a->iZ c x a
theorem i9{x:Str}(i:qS g.c T)(k:Ok g ρ w)(q:nameP T g.sc x ρ w.S Q):ET g ρ w (loadName g.env x) Q X:=by
 have q:=q.p
 rw[cR]at q
 cases e:jr (g.sc.names.lookup x)with
 | loc=>rw[e]at q;cases ay q with|mk op h q=>exact .name k (uV e) h q
 | glob=>rw[e]at q;cases ay q with|mk a h q=>exact .glob k (so e) (i _ _ h) q
 | no=>rw[e]at q;exact q.elim
end
def small(i:Int):Prop:=i.natAbs<2^62
def fc(a:Op)(K:AV->Prop):Prop:=match a with
 |.v a=>K a
 | _=>False
def eL(a:AV)(K:Int->Prop):Prop:=match a with
 |.int i=>K i
 | _=>False
def ur(a:AV)(K:Str->Prop):Prop:=match a with
 |.str i=>K i
 | _=>False
def tD(a:AV)(K:Bool->Prop):Prop:=match a with
 |.bool i=>K i
 | _=>False
def yu(a:AV)(K:Bool->List UInt8->Prop):Prop:=match a with
 |.oc k i=>K k i
 | _=>False
def EB(a:AV)(K:List AV->Prop):Prop:=match a with
 |.list i=>K i
 | _=>False
def da(a:Op)(K:Int->Prop):Prop:=fc a λa=>eL a K
def toS(a:Op)(K:Str->Prop):Prop:=fc a λa=>ur a K
def Gy(a:Op)(K:List UInt8->Prop):Prop:=fc a λa=>yu a λk i=>Gd (!k) (K i)
def B9(a:Op)(K:List AV->Prop):Prop:=fc a λa=>EB a K
def G2(a b:Op)(S:St)(Q:Op->St->Prop):Prop:=fc a λx=>match x with
 |.int x=>da b λy=>Q (.v (.int (x+y))) S
 |.str x=>toS b λy=>x.length+y.length<=16777216/\Q (.v (.str (x++y))) S
 |.oc k x=>Gd (!k) <| Gy b λy=>x.length+y.length<=16777216/\Q (.v (.oc false (x++y))) S
 |.list x=>B9 b λy=>x.length+y.length<=16777216/\Q (.v (.list (x++y))) S
 | _=>False
def Ho(a b:Op)(S:St)(Q:Op->St->Prop):Prop:=fc a λx=>match x with
 |.int x=>da b λy=>small x/\Q (.v (.int (x*y))) S
 |.str x=>da b λy=>x.length<=16/\0<=y/\y<=1048576/\Q (.v (.str (Txt.mul x y))) S
 |.oc k x=>Gd (!k) <| da b λy=>x≠[]/\x.length<=16/\0<=y/\y<=1048576/\Q (.v (.oc false (List.replicate y.toNat x).flatten)) S
 | _=>False
noncomputable def u9(y:Int):Bool:=match y with
 |.ofNat n=>Nat.blt n 1073741824
 |.negSucc _=>true
theorem mw{y:Int}(h:y<1073741824):u9 y=true:=by
 cases y with
 | ofNat n=>exact Nat.blt_eq.mpr (Int.ofNat_lt.mp h)
 | negSucc _=>rfl
theorem LJ{n:Nat}(h:n<4611686018427387904):small n:=h
theorem MG{i:Int}(h: -4611686018427387904<i)(k:i<4611686018427387904):small i:=by show i.natAbs<2^62;omega
theorem AZ{y:Int}(h:u9 y=true):y<2^30:=by
 cases y with
 | ofNat n=>exact Int.ofNat_lt.mpr (Nat.blt_eq.mp h)
 | negSucc _=>exact Int.lt_trans (Int.negSucc_lt_zero _) (by decide)
def FY(op:Operator)(a b:Op)(S:St)(Q:Op->St->Prop):Prop:=match op with
 |.Add=>G2 a b S Q
 |.Sub=>da a λx=>da b λy=>Q (.v (.int (x-y))) S
 |.Mult=>Ho a b S Q
 |.FloorDiv=>da a λx=>da b λy=>Gd (decide (0<y)) (Gd (u9 y) (Q (.v (.int (x/y))) S))
 |.Mod=>da a λx=>da b λy=>Gd (decide (0<y)) (Q (.v (.int (x%y))) S)
 |.Pow=>da a λx=>da b λy=>Gd (decide (x.natAbs<256)) (0<=y/\y<=1000/\Q (.v (.int (x^y.toNat))) S)
 |.LShift=>da a λx=>da b λy=>Gd (decide (x.natAbs<2^62)) (0<=y/\y<=1000/\Q (.v (.int (x*2^y.toNat))) S)
 |.RShift=>da a λx=>da b λy=>Gd (decide (0<=y)) (Q (.v (.int (x/2^y.toNat))) S)
 |.BitAnd=>da a λx=>da b λy=>Gd (decide (y=3)) (0<=x/\Q (.v (.int (x%4))) S)
 | _=>False
def JZ(op:UnaryOp)(a:Op)(S:St)(Q:Op->St->Prop):Prop:=match op with
 |.USub=>da a λx=>Q (.v (.int (-x))) S
 |.Not=>fc a λa=>tD a λx=>Q (.v (.bool !x)) S
 | _=>False
section
variable {g:Fr}{ρ ρ':aa}{w w':W}{Q:Op->St->Prop}{X:aa->St->Prop}{T:aB}{a b:Op}{v u va vb:Value}
inductive M4(g:Fr)(w:W)(v:Value)(K:AV->Prop):Prop
 | mk (x:AV) (r:rep g.c.P w.I x v) (k:K x)
inductive Kv(v:Value)(K:Int->Prop):Prop
 | mk (i:Int) (t:Tok) (e:v=.int i t) (k:K i)
inductive Ko(v:Value)(K:Str->Prop):Prop
 | mk (i:Str) (t:Tok) (e:v=.str i t) (k:K i)
inductive Nk(v:Value)(K:List UInt8->Prop):Prop
 | mk (i:Array UInt8) (t:Tok) (e:v=.bytes i t) (k:K i.toList)
inductive LV(g:Fr)(w:W)(v:Value)(K:List AV->Prop):Prop
 | mk (l:List AV) (a:Addr) (vs:List Value) (e:v=.ref a) (i:w.h.IsList a vs.toArray) (r:a0 g.c.P w.I l vs) (k:K l)
theorem a9{K:AV->Prop}(r:bB g w a v)(k:fc a K):M4 g w v K:=by
 cases a with
 | v x=>exact⟨x,r,k⟩
 | _=>exact k.elim
section
variable {P:Params}{I:PH}{a:AV}(r:rep P I a v)
include r
theorem bD{K:Int->Prop}(k:eL a K):Kv v K:=by
 cases a with
 | int i=>obtain⟨t,e⟩:=r;exact⟨i,t,e,k⟩
 | _=>exact k.elim
theorem jG{K:Str->Prop}(k:ur a K):Ko v K:=by
 cases a with
 | str i=>obtain⟨t,e⟩:=r;exact⟨i,t,e,k⟩
 | _=>exact k.elim
theorem oZ{K:Bool->Prop}(k:tD a K):∃b,v=.bool b/\K b:=by
 cases a with
 | bool i=>exact⟨i,r,k⟩
 | _=>exact k.elim
inductive Nr(P:Params)(I:PH)(v:Value)(K:Bool->List UInt8->Prop):Prop
 | mk (k:Bool) (b:List UInt8) (r:Fy I k b v) (q:K k b)
theorem sH{K:Bool->List UInt8->Prop}(k:yu a K):Nr P I v K:=by
 cases a with
 | oc b i=>exact⟨b,i,r,k⟩
 | _=>exact k.elim
end
theorem bE{K:Int->Prop}(r:bB g w a v)(k:da a K):Kv v K:=by
 obtain⟨x,r,k⟩:=a9 r k
 exact bD r k
theorem fw{K:Str->Prop}(r:bB g w a v)(k:toS a K):Ko v K:=by
 obtain⟨x,r,k⟩:=a9 r k
 exact jG r k
theorem xV{K:List UInt8->Prop}(r:bB g w a v)(k:Gy a K):Nk v K:=by
 obtain⟨x,r,k⟩:=a9 r k
 obtain⟨b,i,r,k⟩:=sH r k
 cases b with
 | false=>obtain⟨x,t,e,h⟩:=r;exact⟨x,t,e,h▸k⟩
 | true=>exact k.elim
inductive HF(P:Params)(I:PH)(h:Heap)(tup:Bool)(l:List AV)(v:Value):Prop
 | mk (a:Addr) (vs:List Value) (e:v=.ref a) (i:bif tup then h.get? a=some {cls:=.type "tuple",data:=.seq vs.toArray}else h.IsList a vs.toArray) (r:a0 P I l vs)
theorem b6{P:Params}{I:PH}{h:Heap}{l:List AV}(im:∀a o,I a=some o->h.get? a=some o)(r:rep P I (.list l) v):HF P I h false l v:=by
 obtain⟨a,o,x,n,e,i,c,d,r⟩:=r;exact⟨a,x.toList,e,⟨o,im _ _ i,c,n,d⟩,r⟩
theorem jQ{P:Params}{I:PH}{h:Heap}{l:List AV}(im:∀a o,I a=some o->h.get? a=some o)(r:rep P I (.tuple l) v):HF P I h true l v:=by
 obtain⟨a,x,e,i,r⟩:=r;exact⟨a,x.toList,e,im _ _ i,r⟩
theorem dC{h:Heap}{a:Addr}{x:Array Value}(e:h.get? a=some {cls:=.type "tuple",data:=.seq x}):h.IsTuple a x:=⟨_,e,rfl,_,rfl⟩
theorem km{K:List AV->Prop}(k:Ok g ρ w)(r:bB g w a v)(q:B9 a K):LV g w v K:=by
 obtain⟨x,r,q⟩:=a9 r q
 cases x with
 | list l=>obtain⟨a,vs,e,i,r⟩:=b6 k.imm r;exact⟨l,a,vs,e,i,r,q⟩
 | _=>exact q.elim
inductive H5(va vb:Value)(K:Int->Int->Prop):Prop
 | mk (x y:Int) (t u:Tok) (e:va=.int x t) (e2:vb=.int y u) (k:K x y)
theorem nz{K:Int->Int->Prop}(ra:bB g w a va)(rb:bB g w b vb)(k:da a λx=>da b λy=>K x y):H5 va vb K:=by
 cases bE ra k with|mk x t e1 k=>
 cases bE rb k with|mk y u e2 k=>exact⟨x,y,t,u,e1,e2,k⟩
theorem ET.int{t:Sem Value}{i j:Int}(k:Ok g ρ w)(x:∀(Q:Value->Shared->Prop) (E:Value->Shared->Prop),(∀u tk,Q (.int i u) (g.c.mk' w.h tk))->wpAny g.c.M g.A t Q E (g.at w))(e:i=j)(q:Q (.v (.int j)) w.S):ET g ρ w t Q X:=
 .grow (.v (.int j)) k (λQ E z=>x Q E λu tk=>z _ _ tk (.refl _) ⟨u,e▸rfl⟩) q
theorem ET.str{t:Sem Value}{i:Str}(k:Ok g ρ w)(x:∀(Q:Value->Shared->Prop) (E:Value->Shared->Prop),(∀u tk,Q (.str i u) (g.c.mk' w.h tk))->wpAny g.c.M g.A t Q E (g.at w))(q:Q (.v (.str i)) w.S):ET g ρ w t Q X:=
 .grow (.v (.str i)) k (λQ E z=>x Q E λu tk=>z _ _ tk (.refl _) ⟨u,rfl⟩) q
theorem ET.byt{t:Sem Value}{b:Array UInt8}{l:List UInt8}(k:Ok g ρ w)(x:∀(Q:Value->Shared->Prop) (E:Value->Shared->Prop),(∀u tk,Q (.bytes b u) (g.c.mk' w.h tk))->wpAny g.c.M g.A t Q E (g.at w))(e:b.toList=l)(q:Q (.v (.oc false l)) w.S):ET g ρ w t Q X:=
 .grow (.v (.oc false l)) k (λQ E z=>x Q E λu tk=>z _ _ tk (.refl _) ⟨b,u,rfl,e⟩) q
theorem ET.bool{t:Sem Value}{i j:Bool}(k:Ok g ρ w)(x:∀(Q:Value->Shared->Prop) (E:Value->Shared->Prop),(∀tk,Q (.bool i) (g.c.mk' w.h tk))->wpAny g.c.M g.A t Q E (g.at w))(e:i=j)(q:Q (.v (.bool j)) w.S):ET g ρ w t Q X:=
 .grow (.v (.bool j)) k (λQ E z=>x Q E λtk=>z _ _ tk (.refl _) (e▸rfl)) q
noncomputable abbrev lX(vs:List Value):Obj:={cls:=.type "list",data:=.seq vs.toArray}
noncomputable abbrev oa(vs:List Value):Obj:={cls:=.type "tuple",data:=.seq vs.toArray}
theorem ET.mklist{t:Sem Value}{l:List AV}{vs:List Value}(k:Ok g ρ w)(x:∀(Q:Value->Shared->Prop) (E:Value->Shared->Prop),(∀tk,Q (.ref w.h.objs.size) (g.c.mk' (w.h.push (lX vs)) tk))->wpAny g.c.M g.A t Q E (g.at w))(r:a0 g.c.P w.I l vs)(q:Q (.v (.list l)) w.S):ET g ρ w t Q X:=
 .new (.list l) k (λQ E z=>x Q E λtk=>z _ (lX vs) _ tk (.push _ _) (ax _) (Heap.get?_push_size _ rfl) (λq0=>nofun) λJ le i=>⟨_,_,_,_,rfl,i,rfl,rfl,bg le l r⟩) q
theorem ui{x y:Int}(hx:small x):IntMulOk x y:=IntMulOk.of_left (Nat.le_trans (intBits_le hx) (by decide))
theorem kA{x y:Int}(h0:0<y)(h1:y<2^30):Builtin.divisionGoesByPylong x y=false:=by
 unfold Builtin.divisionGoesByPylong
 have hl:y.natAbs.log2<30:=(Nat.log2_lt (by omega)).mpr (by omega)
 have:¬((if(y==0)=true then 0 else y.natAbs.log2/30+1)>300):=by
  rw[if_neg (by rw[beq_iff_eq];omega)];omega
 show(decide ((if(y==0)=true then 0 else y.natAbs.log2/30+1)>300)&&_)=false
 rw[decide_eq_false this,Bool.false_and]
theorem JH{x:Int}(h:0<=x):Builtin.bitAnd x 3=x%4:=by
 unfold Builtin.bitAnd
 rw[decide_eq_true h]
 show((x.toNat &&& 3:Nat):Int)=_
 rw[show x.toNat &&& 3=x.toNat%4 from Nat.and_two_pow_sub_one_eq_mod x.toNat 2,Int.natCast_emod,Int.toNat_of_nonneg h];rfl
theorem qz{prog:Program}{wd:World}{A:Around}{E:Value->Shared->Prop}{s:Shared}{l b:Addr}{vs ws:List Value}{Q:Value->Shared->Prop}(hl:s.heap.IsList l vs.toArray)(hb:s.heap.IsList b ws.toArray)
  (h:Q (.ref s.heap.objs.size) {s with heap:=s.heap.push (lX (vs++ws))})
  (hsz:vs.length+ws.length<=sizeLine):wpAny (model prog wd) A (binaryOp .Add (.ref l) (.ref b)) Q E s:=by
 obtain⟨⟨cls,dd,data,sl⟩,ho,hc,n,hd⟩:=hl
 obtain⟨⟨cls2,dd2,data2,sl2⟩,ho2,hc2,n2,hd2⟩:=hb
 simp only at hc hd hc2 hd2
 subst hc hd hc2 hd2
 refine concat_meets ⟨_,ho,rfl⟩ ⟨_,ho2,rfl⟩ noFill_list_add seq_list_add PySem.F.slot_list_add PySem.F.entry_list_add (PySem.F.args_list_add_2 _ _) (list_addW l b vs.toArray ws.toArray n n2 dd dd2 sl sl2 (by rw[List.size_toArray,List.size_toArray];exact hsz)) ⟨ho,ho2,?_⟩
 rw[List.append_toArray]
 exact h
theorem zF(k:Ok g ρ w)(ra:bB g w a va)(rb:bB g w b vb)(q:G2 a b w.S Q):ET g ρ w (binaryOp .Add va vb) Q X:=by
 cases a with
 | v x=>
  cases x with
  | int x=>
   obtain⟨t,rfl⟩:=ra
   obtain⟨y,u,rfl,q⟩:=bE rb q;exact .int k (λQ E z=>add_int (z _ _)) rfl q
  | str x=>
   obtain⟨t,rfl⟩:=ra
   obtain⟨y,u,rfl,q⟩:=fw rb q;exact .str k (λQ E z=>PyProof.Rows.add_str (λq0 q1=>z _ _) q.1) q.2
  | oc kk x=>
   cases kk with
   | true=>exact q.elim
   | false=>
   obtain⟨x,t,rfl,rfl⟩:=ra
   have q:Gy b λy=>x.toList.length+y.length<=16777216/\Q (.v (.oc false (x.toList++y))) w.S:=q
   obtain⟨y,u,rfl,q⟩:=xV rb q;exact .byt (b:=x++y) k (λQ E z=>KBy.add_bytes (by have:=q.1;rwa [Array.length_toList,Array.length_toList]at this) (λq0 q1=>z _ _)) Array.toList_append q.2
  | list x=>
   obtain⟨la,vs,rfl,h1,r1⟩:=b6 k.imm ra
   obtain⟨y,lb,ws,rfl,h2,r2,q⟩:=km k rb q
   exact .mklist k (λQ E z=>qz (s:=g.at w) h1 h2 (z _) (by rw[ak r1,ak r2];exact q.1)) (eg r2 r1) q.2
  | _=>exact q.elim
 | _=>exact q.elim
theorem zT(k:Ok g ρ w)(ra:bB g w a va)(rb:bB g w b vb)(q:Ho a b w.S Q):ET g ρ w (binaryOp .Mult va vb) Q X:=by
 cases a with
 | v x=>
  cases x with
  | int x=>
   obtain⟨t,rfl⟩:=ra
   obtain⟨y,u,rfl,q⟩:=bE rb q;exact .int k (λQ E z=>mul_int (z _ _) (ui q.1)) rfl q.2
  | str x=>
   obtain⟨t,rfl⟩:=ra
   obtain⟨y,u,rfl,q⟩:=bE rb q;exact .str k (λQ E z=>KXi.mul rfl q.1 (by have:=q.2.1;omega) q.2.2.1 (λq0 q1 q2 q3=>z _ _)) q.2.2.2
  | oc kk x=>
   cases kk with
   | true=>exact q.elim
   | false=>
   obtain⟨x,t,rfl,rfl⟩:=ra
   have q:da b λy=>x.toList≠[]/\x.toList.length<=16/\0<=y/\y<=1048576/\Q (.v (.oc false (List.replicate y.toNat x.toList).flatten)) w.S:=q
   obtain⟨y,u,rfl,q⟩:=bE rb q
   refine .byt k (λQ E z=>?_) (List.toList_toArray ..) q.2.2.2.2
   have:=bytes_mul_any (prog:=g.c.prog) (w:=g.c.w) (A:=g.A) (E:=E) (s:=g.at w) (b:=x.toList) (t:=t) (u:=u) (Q:=Q) q.1 (by have:=q.2.2.1;exact uI 0x800002e400000000800d q.2.2.1) q.2.2.2.1 q.2.1 (λq0 q1=>z _ _)
   rwa [Array.toArray_toList]at this
  | _=>exact q.elim
 | _=>exact q.elim
theorem AS{o:Operator}(k:Ok g ρ w)(ra:bB g w a va)(rb:bB g w b vb)(q:FY o a b w.S Q):ET g ρ w (binaryOp o va vb) Q X:=by
 cases o with
 | Add=>exact zF k ra rb q
 | Mult=>exact zT k ra rb q
 | Sub=>obtain⟨x,y,t,u,rfl,rfl,q⟩:=nz ra rb q;exact .int k (λQ E z=>sub_int' (z _ _)) rfl q
 | FloorDiv=>obtain⟨x,y,t,u,rfl,rfl,q⟩:=nz ra rb q;exact .int k (λQ E z=>floordiv_int (Int.ne_of_gt q.d) (z _ _) (.inl (kA q.d (AZ q.p.e)))) (Int.fdiv_eq_ediv_of_nonneg _ (Int.le_of_lt q.d)) q.p.p
 | Mod=>obtain⟨x,y,t,u,rfl,rfl,q⟩:=nz ra rb q;exact .int k (λQ E z=>mod_int' (Int.ne_of_gt q.d) (z _ _)) (Int.fmod_eq_emod_of_nonneg _ (Int.le_of_lt q.d)) q.p
 | Pow=>
  obtain⟨x,y,t,u,rfl,rfl,q⟩:=nz ra rb q
  have e2:Builtin.Int.intBits x<=64:=intBits_le (Nat.lt_of_lt_of_le q.d (by decide))
  obtain⟨k1,k2,q⟩:=q.p
  exact .int k (λQ E z=>pow_int k1 (Int.le_trans (Int.mul_le_mul (c:=64) (d:=1000) (by exact uA 0x101002400004040000c e2) k2 k1 (by decide)) (by decide)) (z _ _)) rfl q
 | LShift=>obtain⟨x,y,t,u,rfl,rfl,q⟩:=nz ra rb q;obtain⟨k1,k2,q'⟩:=q.p;exact .int k (λQ E z=>lshift_int_small k1 (by exact uI 0x7a12020040003e840000d k2) (Nat.lt_of_lt_of_le q.d (by decide)) (z _ _)) rfl q'
 | RShift=>obtain⟨x,y,t,u,rfl,rfl,q⟩:=nz ra rb q;exact .int k (λQ E z=>rshift_int q.d (z _ _)) (Int.fdiv_eq_ediv_of_nonneg _ (Int.pow_nonneg (by decide))) q.p
 | BitAnd=>obtain⟨x,y,t,u,rfl,rfl,q⟩:=nz ra rb q;cases q.d;exact .int k (λQ E z=>and_int (z _ _)) (JH q.p.1) q.p.2
 | _=>exact q.elim
theorem C1{o:UnaryOp}(k:Ok g ρ w)(ra:bB g w a va)(q:JZ o a w.S Q):ET g ρ w (unaryOp o va) Q X:=by
 cases o with
 | USub=>obtain⟨x,t,rfl,q⟩:=bE ra q;exact .int k (λQ E z=>neg_int (z _ _)) rfl q
 | Not=>
  obtain⟨x,r,q⟩:=a9 ra q
  obtain⟨b,rfl,q⟩:=oZ r q
  exact .bool k (λQ E z=>not_of (wpAny_truthy_bool (z _))) rfl q
 | _=>exact q.elim
end
theorem nX:PlainAttrs "bytearray":=⟨⟨"bytearray.__getattribute__",by rw[typeLookup_type,builtinLookup_eq_fast];kernel_rfl,by decide +kernel⟩,by rw[typeLookup_type,builtinLookup_eq_fast];kernel_rfl⟩
theorem eM:Manifest.owners.lookup (String.ofList ['y','a','r','r','a','e','t','y','b'].reverse)=some Manifest.sig_bytearray:=by kernel_rfl
theorem Ey:Slot "bytearray" "__len__" "bytearray.__len__":=
 .of (owner:="bytearray") (n:="__len__") (by rw[typeLookup_type,builtinLookup_eq_fast];kernel_rfl) (by decide +kernel) (by decide +kernel) (by decide +kernel) (by first|exact .inl (by decide +kernel)|exact .inr (by decide +kernel)) (by rw[isSubtype_type];kernel_rfl)
theorem lK:entryFor table "bytearray.__len__" =some Builtin.«bytearray.__len__»:=entryFor_of_tree (by kernel_rfl)
theorem oU(a:Value):argsOk "bytearray.__len__" ⟨[a],[]⟩:=by
 unfold argsOk;rw[signature?_of (id:="bytearray.__len__") (n:="__len__".toList.reverse) (o:=['y','a','r','r','a','e','t','y','b']) (by kernel_rfl) eM];kernel_rfl
theorem iy:Slot "bytearray" "__getitem__" "bytearray.__getitem__":=
 .of (owner:="bytearray") (n:="__getitem__") (by rw[typeLookup_type,builtinLookup_eq_fast];kernel_rfl) (by decide +kernel) (by decide +kernel) (by decide +kernel) (by first|exact .inl (by decide +kernel)|exact .inr (by decide +kernel)) (by rw[isSubtype_type];kernel_rfl)
theorem fj:entryFor table "bytearray.__getitem__" =some Builtin.«bytearray.__getitem__»:=entryFor_of_tree (by kernel_rfl)
theorem fO(a b:Value):argsOk "bytearray.__getitem__" ⟨[a,b],[]⟩:=by
 unfold argsOk;rw[signature?_of (id:="bytearray.__getitem__") (n:="__getitem__".toList.reverse) (o:=['y','a','r','r','a','e','t','y','b']) (by kernel_rfl) eM];kernel_rfl
theorem gw:Slot "bytearray" "append" "bytearray.append":=
 .of (owner:="bytearray") (n:="append") (by rw[typeLookup_type,builtinLookup_eq_fast];kernel_rfl) (by decide +kernel) (by decide +kernel) (by decide +kernel) (by first|exact .inl (by decide +kernel)|exact .inr (by decide +kernel)) (by rw[isSubtype_type];kernel_rfl)
theorem jk:typeOf (.builtin "bytearray.append")=pure (.type "method_descriptor"):=by show builtinType _=_;rw[builtinType_eq_fast];kernel_rfl
theorem ig:entryFor table "bytearray.append" =some Builtin.«bytearray.append»:=entryFor_of_tree (by kernel_rfl)
theorem jq(a b:Value):argsOk "bytearray.append" ⟨[a,b],[]⟩:=by
 unfold argsOk;rw[signature?_of (id:="bytearray.append") (n:="append".toList.reverse) (o:=['y','a','r','r','a','e','t','y','b']) (by kernel_rfl) eM];kernel_rfl
theorem gO:Slot "bytearray" "extend" "bytearray.extend":=
 .of (owner:="bytearray") (n:="extend") (by rw[typeLookup_type,builtinLookup_eq_fast];kernel_rfl) (by decide +kernel) (by decide +kernel) (by decide +kernel) (by first|exact .inl (by decide +kernel)|exact .inr (by decide +kernel)) (by rw[isSubtype_type];kernel_rfl)
theorem jF:typeOf (.builtin "bytearray.extend")=pure (.type "method_descriptor"):=by show builtinType _=_;rw[builtinType_eq_fast];kernel_rfl
theorem ik:entryFor table "bytearray.extend" =some Builtin.«bytearray.extend»:=entryFor_of_tree (by kernel_rfl)
theorem i6(a b:Value):argsOk "bytearray.extend" ⟨[a,b],[]⟩:=by
 unfold argsOk;rw[signature?_of (id:="bytearray.extend") (n:="extend".toList.reverse) (o:=['y','a','r','r','a','e','t','y','b']) (by kernel_rfl) eM];kernel_rfl
theorem eV:typeLookup (.type "bytearray") "__buffer__" =pure (some (.builtin "bytearray.__buffer__")):=by rw[typeLookup_type,builtinLookup_eq_fast];kernel_rfl
theorem qM:typeLookup (.type "bytearray") "__release_buffer__" =pure (some (.builtin "bytearray.__release_buffer__")):=by rw[typeLookup_type,builtinLookup_eq_fast];kernel_rfl
theorem cJ:typeLookup (.type "bytes") "__buffer__" =pure (some (.builtin "bytes.__buffer__")):=by rw[typeLookup_type,builtinLookup_eq_fast];kernel_rfl
theorem ED:typeLookup (.type "bytes") "__release_buffer__" =pure none:=by rw[typeLookup_type,builtinLookup_eq_fast];kernel_rfl
theorem su:isSubtype (.type "bytearray") (.type "bytearray")=pure true:=by rw[isSubtype_type];kernel_rfl
theorem AK:isSubtype (.type "bytes") (.type "bytes")=pure true:=by rw[isSubtype_type];kernel_rfl
end Mine
namespace Mine
set_option backward.match.sparseCases true
def ck(h:Heap)(a:Addr)(b:Array UInt8):Prop:=∃o,h.get? a=some o/\o.cls=.type "bytearray" /\o.data=.bytearray b 0
theorem ck.typeIs{s:Shared}{a:Addr}{b:Array UInt8}(h:ck s.heap a b):s.TypeIs (.ref a) "bytearray":=let⟨o,e,c,_⟩:=h;⟨o,e,c⟩
noncomputable abbrev wB(b:Array UInt8):Obj:={cls:=.type "bytearray",data:=.bytearray b}
section
variable {M:Model}{A:Around}{E:Value->Shared->Prop}{s:Shared}
theorem cO{a:Addr}{b:Array UInt8}{Q:Array UInt8->Shared->Prop}(h:ck s.heap a b)(q:Q b s):wpAny M A (Builtin.Bytes.payload (.ref a)) Q E s:=by
 obtain⟨o,e,c,d⟩:=h
 unfold Builtin.Bytes.payload Builtin.Bytes.payload?
 refine wpAny_bind (wpAny_bind (wpAny_load e ?_))
 rw[d]
 exact wpAny_pure (wpAny_pure q)
theorem fL{a:Addr}{b:Array UInt8}{Q:Nat->Shared->Prop}(h:ck s.heap a b)(q:Q 0 s):wpAny M A (Builtin.Bytes.exportsOf (.ref a)) Q E s:=by
 obtain⟨o,e,c,d⟩:=h
 unfold Builtin.Bytes.exportsOf
 refine wpAny_bind (wpAny_load e ?_)
 rw[d]
 exact wpAny_pure q
theorem ez{a:Addr}{b:Array UInt8}{Q:Unit->Shared->Prop}(h:ck s.heap a b)(q:Q () s):a6 true M A (Builtin.Bytes.checkResize (.ref a)) Q E s:=by
 unfold Builtin.Bytes.checkResize
 refine ab (m:=(Builtin.Bytes.exported (.ref a) <||> (do return(<-Builtin.Bytes.exportsOf (.ref a))>0))) ?_
 refine ab (gk ?_)
 show a6 true M A ((do return decide ((<-Builtin.Bytes.exportsOf (.ref a))>0)):Sem Bool) _ E s
 refine ab (.of (fL h ?_))
 exact ai (ai q)
theorem jI{a:Addr}{b:Array UInt8}{f:Array UInt8->Array UInt8}{Q:Unit->Shared->Prop}(h:ck s.heap a b)(hs:(f b).size<=sizeLine)(q:∀h',(∃o,s.heap.get? a=some o/\h'.get? a=some {o with data:=.bytearray (f b) 0})->Heap.SameBut a s.heap h'->Q () {s with heap:=h'}):
  wpAny M A (Builtin.Bytes.write (.ref a) f) Q E s:=by
 obtain⟨o,e,c,d⟩:=h
 obtain⟨cl,di,dt,sl⟩:=o
 dsimp only at d;subst d
 show wpAny M A (updateBytearray a f) Q E s
 unfold updateBytearray
 refine wpAny_bind (wpAny_load e ?_)
 have e':(s.heap.update a (Obj.mapBytearray f)).get? a=some ⟨cl,di,.bytearray (f b) 0,sl⟩:=Heap.get?_update_self _ e rfl
 refine wpAny_bind (wpAny_update e (wpAny_lookBehind e' ?_ (q _ ⟨_,e,e'⟩ (Heap.SameBut.update ..))))
 show(if(f b).size>sizeLine then _ else none)=none
 rw[if_neg (Nat.not_lt.mpr hs)]
theorem oQ{i:Int}{t:Tok}{Q:Int->Shared->Prop}(q:Q i s):wpAny M A (asIndex (.int i t)) Q E s:=by
 unfold asIndex
 exact wpAny_bind (m:=asInt? (.int i t)) (wpAny_of_eq rfl (wpAny_pure q))
theorem mC{i:Int}{t:Tok}{Q:UInt8->Shared->Prop}(h0:0<=i)(h1:i<256)(q:Q i.toNat.toUInt8 s):wpAny M A (Builtin.Bytes.byteValue (.int i t)) Q E s:=by
 unfold Builtin.Bytes.byteValue
 refine wpAny_bind (oQ ?_)
 have:(decide (i<0)||decide (i>=256))=false:=by rw[Bool.or_eq_false_iff];exact⟨decide_eq_false (by omega),decide_eq_false (by omega)⟩
 rw[this]
 exact wpAny_pure q
end
section
variable {prog:Program}{w:World}{A:Around}{E:Value->Shared->Prop}{R:Result->Shared->Prop}{s:Shared}
theorem rh{id:String}{v:Value}{r:List Value}(e:∀self p,heldBy.1 self (.builtin id ⟨v::r,[]⟩,p)=(sameRef v self&&PySem.Builtin.Bytes.decodersThatHold.contains id))(h:PySem.Builtin.Bytes.decodersThatHold.contains id=false):zv (.builtin id ⟨v::r,[]⟩):=λs p=>(e s p).trans (by rw[h,Bool.and_false])
theorem dp{b:Bool}{id:String}{args:Args}{B:Builtin}(hq:plainId id=true)(ok:zv (.builtin id args))(hb:entryFor table id=some B)
  (h:wpAny (model prog w) A.in1 (checkBuiltinCall id args) (λq0 s₁=>a6 b (model prog w) A.in1 (B args) (λfin s'=>match fin with|.done f=>R (.ok f) s'|.again c'=>c'.quiet=true/\aC b (model prog w) A c' R s') (λe s'=>R (.error e) s') s₁)
   (λe s'=>R (.error e) s') s):aC b (model prog w) A (.call (.builtin id) args) R s:=by
 refine aK (λq0 q1 q2=>rfl) (.of ?_)
 show wpAny _ A.in1 (checkBuiltinCall id args >>=λq0=>again (.builtin id args)) _ _ s
 refine wpAny_bind (wpAny_mono h (λq0 s₁ h₁=>wpAny_pure ⟨plainId_quiet hq args,aK (λq0=>ok) ?_⟩) λq0 q1 z=>z)
 show a6 b _ _ (match entryFor table id with|some b=>b args|none=>unsupported ((withoutEnding? id "#data").getD id)) _ _ s₁
 rw[hb,Around.under_plainId hq args];exact h₁
theorem jH{a:Addr}{b:Array UInt8}{i:Int}{t:Tok}{Q:Value->Shared->Prop}(h:ck s.heap a b)(h0:0<=i)(h1:i<256)(hs:b.size<sizeLine)
  (q:∀h',(∃o,s.heap.get? a=some o/\h'.get? a=some {o with data:=.bytearray (b.push i.toNat.toUInt8) 0})->Heap.SameBut a s.heap h'->Q .none {s with heap:=h'}):
  a6 true (model prog w) A (call (.builtin "bytearray.append") [.ref a,.int i t]) Q E s:=by
 refine bT (dp gw.plain (rh (λq0 q1=>by kernel_rfl) (by decide +kernel)) ig (gw.check _ _ _ _ _ _ _ _ h.typeIs (jq _ _) ?_))
 unfold Builtin.«bytearray.append»
 refine ab (m:=selfAndOne "bytearray.append" ⟨[.ref a,.int i t],[]⟩) (.of (wpAny_of_eq (a:=(.ref a,.int i t)) rfl ?_))
 refine ab (.of (mC h0 h1 ?_))
 refine ab (ez h ?_)
 refine ab (.of (jI h (by rw[Array.size_push];omega) λh' e sb=>?_))
 exact ai (q h' e sb)
theorem jS{id:String}{b:Array UInt8}{t:Tok}{f:Int}{Q:Option (Array UInt8×Option Value)->Shared->Prop}(q:Q (some (b,none)) s):wpAny (model prog w) A (Builtin.Bytes.takeBufferQuiet? id (.bytes b t) f) Q E s:=by
 have own:∀{Q:Bool->Shared->Prop} {E:Value->Shared->Prop},Q true s->wpAny (model prog w) A (Builtin.Bytes.slotIsOwn (.bytes b t) "__buffer__") Q E s:=λq=>by
  unfold Builtin.Bytes.slotIsOwn
  refine wpAny_bind (wpAny_specialOf (T:="bytes") (typeIs_bytes s b t) cJ ?_)
  dsimp only
  have e1:(!("bytes.__buffer__" :String).endsWith ("." ++"__buffer__"))=false:=by decide +kernel
  rw[e1]
  exact wpAny_isInstance (T:="bytes") (b:=true) (typeIs_bytes s b t) (by rw[isSubtype_type];kernel_rfl) q
 have rel:∀{Q:Bool->Shared->Prop} {E:Value->Shared->Prop},Q false s->wpAny (model prog w) A (Builtin.Bytes.ownRelease (.bytes b t)) Q E s:=λq=>by
  unfold Builtin.Bytes.ownRelease Builtin.Bytes.slotIsOwn
  refine wpAny_bind (wpAny_bind (wpAny_specialOf (T:="bytes") (typeIs_bytes s b t) ED ?_))
  exact wpAny_pure (wpAny_pure q)
 have buf:∀{Q:Option (Array UInt8)->Shared->Prop} {E:Value->Shared->Prop} {fl:Bool},Q (some b) s->wpAny (model prog w) A (Builtin.Bytes.buffer? id (.bytes b t) fl) Q E s:=λq=>by
  unfold Builtin.Bytes.buffer?
  refine wpAny_bind (wpAny_specialOf (T:="bytes") (typeIs_bytes s b t) cJ ?_)
  refine wpAny_bind (own ?_)
  show wpAny _ _ (specialOf (.bytes b t) "__buffer__" >>= _) _ _ _
  refine wpAny_bind (wpAny_specialOf (T:="bytes") (typeIs_bytes s b t) cJ ?_)
  refine wpAny_bind (rel ?_)
  show wpAny _ _ (Builtin.Bytes.payload (.bytes b t) >>= _) _ _ _
  exact wpAny_bind (wpAny_of_eq (a:=b) rfl (wpAny_pure q))
 unfold Builtin.Bytes.takeBufferQuiet? Builtin.Bytes.takeBuffer?
 refine wpAny_bind (wpAny_attempt ?_)
 refine wpAny_bind (wpAny_specialOf (T:="bytes") (typeIs_bytes s b t) cJ ?_)
 refine wpAny_bind (own ?_)
 show wpAny _ _ (specialOf (.bytes b t) "__buffer__" >>= _) _ _ _
 refine wpAny_bind (wpAny_specialOf (T:="bytes") (typeIs_bytes s b t) cJ ?_)
 refine wpAny_bind (buf ?_)
 exact wpAny_pure (wpAny_pure q)
theorem jK{a:Addr}{b d:Array UInt8}{t:Tok}{Q:Value->Shared->Prop}(h:ck s.heap a b)(hs:b.size+d.size<=sizeLine)
  (q:∀h',(∃o,s.heap.get? a=some o/\h'.get? a=some {o with data:=.bytearray (b++d) 0})->Heap.SameBut a s.heap h'->Q .none {s with heap:=h'}):
  a6 true (model prog w) A (call (.builtin "bytearray.extend") [.ref a,.bytes d t]) Q E s:=by
 refine bT (dp gO.plain (rh (λq0 q1=>by kernel_rfl) (by decide +kernel)) ik (gO.check _ _ _ _ _ _ _ _ h.typeIs (i6 _ _) ?_))
 unfold Builtin.«bytearray.extend»
 refine ab (m:=selfAndOne "bytearray.extend" ⟨[.ref a,.bytes d t],[]⟩) (.of (wpAny_of_eq (a:=(.ref a,.bytes d t)) rfl ?_))
 refine ab (.of (wpAny_specialOf (T:="bytes") (typeIs_bytes s d t) cJ ?_))
 refine ab (.of (wpAny_rule ?_))
 refine ab (.of (cO h ?_))
 refine ab (.of (jS ?_))
 show a6 true _ _ (if(!d.isEmpty)=true then _ else _) _ _ _
 have fin:∀{s:Shared},ck s.heap a b->(∀h',(∃o,s.heap.get? a=some o/\h'.get? a=some {o with data:=.bytearray (b++d) 0})->Heap.SameBut a s.heap h'->Q .none {s with heap:=h'})->
   a6 true (model prog w) A.in1 (Builtin.Bytes.write (.ref a) (· ++d) >>=λq0=>ret .none) (λfin s'=>match fin with|.done f=>(match(.ok f:Result)with|.ok (.ret v)=>Q v s'|.ok _=>False|.error e=>E e s')|.again c'=>c'.quiet=true/\aC true (model prog w) A c' (λr s'=>match r with|.ok (.ret v)=>Q v s'|.ok _=>False|.error e=>E e s') s') (λe s'=>E e s') s:=λ{s} h q=>
  ab (.of (jI h (by rw[Array.size_append];exact hs) λh' e sb=>ai (q h' e sb)))
 split
 ·exact ab (ez h (fin h q))
 ·exact fin h q
end
end Mine
namespace Mine
section
variable {P:Params}{sl:Sl}{sh:Sh}{I:PH}{h h':Heap}{a:Addr}
theorem Sl.nd(n:sl.as.Nodup):(sl.oct=some a->sl.drw≠some a/\sl.slf≠some a)/\(sl.drw=some a->sl.slf≠some a):=by
 obtain⟨o,d,s⟩:=sl
 refine⟨λe=>?_,λe q=>?_⟩
 ·cases e
  have n:=(List.nodup_cons.mp n).1
  exact⟨λq=>by cases q;exact n (.head _),λq=>by cases q;exact n (List.mem_append_right d.toList (.head _))⟩
 ·cases e;cases q
  have n:=(List.nodup_append.mp n).2.1
  exact(List.nodup_cons.mp n).1 (.head _)
theorem d7.putOct{b:List UInt8}(k:d7 P sl sh I h)(n:sl.as.Nodup)(e:sl.oct=some a)(sb:Heap.SameBut a h h')(r:bU h' a b):d7 P sl {sh with oct:=some b} I h':=
 ⟨λb' q=>⟨a,e,by cases q;exact r⟩,λb' q=>(k.drw b' q).mono λb m=>cm.mono (aJ sb λz=>((Sl.nd n).1 e).1 (z▸m)) λq0=>id,λb' q=>(k.slf b' q).mono λb m=>fA.mono (aJ sb λz=>((Sl.nd n).1 e).2 (z▸m)) λq0=>id⟩
theorem d7.putDrw{b:List Int}(k:d7 P sl sh I h)(n:sl.as.Nodup)(e:sl.drw=some a)(sb:Heap.SameBut a h h')(r:cm h' a (gQ b)):d7 P sl {sh with drw:=some b} I h':=
 ⟨λb' q=>(k.oct b' q).mono λb m=>bU.mono (aJ sb λz=>((Sl.nd n).1 (z▸m)).1 e),λb' q=>⟨a,e,by cases q;exact r⟩,λb' q=>(k.slf b' q).mono λb m=>fA.mono (aJ sb λz=>(Sl.nd n).2 e (z▸m)) λq0=>id⟩
theorem d7.putSlf{b:List (Str×AV)}(k:d7 P sl sh I h)(n:sl.as.Nodup)(e:sl.slf=some a)(sb:Heap.SameBut a h h')(r:fA h' a (b.map (·.1)) (cH P I b)):d7 P sl {sh with slf:=some b} I h':=
 ⟨λb' q=>(k.oct b' q).mono λb m=>bU.mono (aJ sb λz=>((Sl.nd n).1 (z▸m)).2 e),λb' q=>(k.drw b' q).mono λb m=>cm.mono (aJ sb λz=>(Sl.nd n).2 (z▸m) e) λq0=>id,λb' q=>⟨a,e,by cases q;exact r⟩⟩
end
section
variable {g:Fr}{ρ ρ':aa}{w w':W}{Q:Op->St->Prop}{X:aa->St->Prop}{a:Addr}{h':Heap}{tk:Nat}
theorem Ok.sl_nd(k:Ok g ρ w):g.sl.as.Nodup:=(List.nodup_append.mp (List.nodup_append.mp k.nodup).2.1).2.1
theorem Nx.turnSh{sh:Sh}(k:Ok g ρ w)(m:a∈g.sl.as)(sb:Heap.SameBut a w.h h')(ex:∃o,h'.get? a=some o)(s:d7 g.c.P g.sl sh w.I h'):Nx g ρ w ⟨w.I,w.loc,{w.S with sh:=sh},h',tk⟩:=
 .turn k (.inr m) sb ex (λi b lo e1 e2=>.inl ⟨λz=>k.loc_s (List.mem_of_getElem? e1) (z▸m),e2⟩) rfl (.inr s)
theorem gG{l:List Addr}(n:l.Nodup){i j:Nat}(e1:l[i]? =some a)(e2:l[j]? =some a):i=j:=by
 obtain⟨h1,e1⟩:=List.getElem?_eq_some_iff.mp e1
 obtain⟨h2,e2⟩:=List.getElem?_eq_some_iff.mp e2
 exact(n.idxOf_getElem i h1).symm.trans ((congrArg (List.idxOf · l) (e1.trans e2.symm)).trans (n.idxOf_getElem j h2))
theorem Nx.turnLoc{i:Nat}{lo:LO}(k:Ok g ρ w)(e:w.loc[i]? =some a)(sb:Heap.SameBut a w.h h')(ex:∃o,h'.get? a=some o)(r:cy g.c.P w.I h' a lo):Nx g ρ w ⟨w.I,w.loc,{w.S with loc:=w.S.loc.set i lo},h',tk⟩:=by
 have m:=List.mem_of_getElem? e
 refine .turn k (.inl m) sb ex (λj b lo' e1 e2=>?_) (List.length_set ..) (.inl ⟨k.loc_s m,rfl⟩)
 by_cases q:i=j
 ·subst q
  rw[List.getElem?_set_self (by rw[k.len];exact(List.getElem?_eq_some_iff.mp e).1)]at e2
  cases e2;cases aM e e1
  exact .inr r
 ·rw[List.getElem?_set_ne q]at e2
  exact .inl ⟨λz=>q (gG (List.nodup_append.mp (List.nodup_append.mp k.nodup).2.1).1 e (z▸e1)),e2⟩
def FP(i:Nat)(more:List UInt8)(S:St)(Q:Op->St->Prop)(lo:LO):Prop:=match lo with
 |.ba b=>b.length+more.length<16777216/\Q (.v .none) {S with loc:=S.loc.set i (.ba (b++more))}
 | _=>False
def vG(o:Op)(more:List UInt8)(S:St)(Q:Op->St->Prop):Prop:=match o with
 |.oct=>aP S.sh.oct λb=>b.length+more.length<16777216/\Q (.v .none) {S with sh:={S.sh with oct:=some (b++more)}}
 |.loc i=>aP S.loc[i]? (FP i more S Q)
 | _=>False
def lQ(g:Fr)(w:W)(t:Value->Sem Value)(more:List UInt8):Prop:=∀(a:Addr) (b:Array UInt8) (Q:Value->Shared->Prop) (E:Value->Shared->Prop),ck w.h a b->b.size+more.length<16777216->
 (∀h' (b':Array UInt8),b'.toList=b.toList++more->(∃o,w.h.get? a=some o/\h'.get? a=some {o with data:=.bytearray b' 0})->Heap.SameBut a w.h h'->Q .none (g.c.mk' h' w.tk))->a6 true g.c.M g.A (t (.ref a)) Q E (g.at w)
theorem lQ.go{t:Value->Sem Value}{more b:List UInt8}{R:Value->W->Prop}(x:lQ g w t more)(cc:g.c.clean=true)(r:bU w.h a b)(hz:b.length+more.length<16777216)
  (q:∀h',bU h' a (b++more)->Heap.SameBut a w.h h'->∃w',Nx g ρ w w'/\w'.h=h'/\w'.tk=w.tk/\R .none w'):TE g ρ w (t (.ref a)) R X:=λQ E z q0=>by
 obtain⟨o,y,e,c,zz,d,rfl⟩:=r
 rw[cc]
 refine x a y Q E ⟨o,e,c,d⟩ (Array.length_toList▸hz) λh' b' hb ho sb=>?_
 obtain⟨o',o1,o2⟩:=ho
 cases aM e o1
 obtain⟨w',n,rfl,e2,r⟩:=q h' ⟨_,b',o2,c,zz,rfl,hb⟩ sb
 exact e2▸z _ w' n r
theorem nS{t:Value->Sem Value}{o:Op}{v:Value}{more:List UInt8}(cc:g.c.clean=true)(k:Ok g ρ w)(ro:bB g w o v)(q:vG o more w.S Q)(x:lQ g w t more):ET g ρ w (t v) Q X:=by
 cases o with
 | oct=>
  obtain⟨b,e,k1,k2⟩:=ay q
  obtain⟨a,ha,r⟩:=k.sh.oct b e
  obtain⟨a',ha',rfl⟩:=ro
  cases aM ha ha'
  exact x.go cc r k1 λh' r' sb=>⟨_,.turnSh (tk:=w.tk) k (Sl.mem.mpr (.inl ha)) sb (by obtain⟨o,_,e,_⟩:=r';exact⟨o,e⟩) (k.sh.putOct k.sl_nd ha sb r'),rfl,rfl,.v .none,rfl,k2⟩
 | loc i=>
  obtain⟨lo,e,q⟩:=ay q
  obtain⟨a,ha,rfl⟩:=ro
  cases lo with
  | ba b=>exact x.go cc (k.loc _ a _ ha e) q.1 λh' r' sb=>⟨_,.turnLoc (tk:=w.tk) (lo:=.ba (b++more)) k ha sb (by obtain⟨o,_,e,_⟩:=r';exact⟨o,e⟩) r',rfl,rfl,.v .none,rfl,q.2⟩
  | _=>exact q.elim
 | _=>exact q.elim
def mJ(args:List Op)(K:Op->Op->Prop):Prop:=match args with
 | [a,b]=>K a b
 | _=>False
inductive Jd(g:Fr)(w:W)(vs:List Value)(K:Op->Op->Prop):Prop
 | mk (a b:Op) (u v:Value) (e:vs=[u,v]) (ra:bB g w a u) (rb:bB g w b v) (k:K a b)
theorem ia{K:Op->Op->Prop}{args:List Op}{vs:List Value}(r:bN g w args vs)(k:mJ args K):Jd g w vs K:=by
 obtain _|⟨a,_|⟨b,_|_⟩⟩:=args
 ·exact k.elim
 ·exact k.elim
 ·obtain⟨u,_,rfl,ra,v,_,rfl,rb,rfl⟩:=r;exact⟨a,b,u,v,rfl,ra,rb,k⟩
 ·exact k.elim
def IL(m:Bi)(args:List Op)(S:St)(Q:Op->St->Prop):Prop:=match m with
 |.baAppend=>mJ args λo i=>da i λi=>0<=i/\i<256/\vG o [i.toNat.toUInt8] S Q
 |.baExtend=>mJ args λo d=>Gy d λd=>vG o d S Q
 | _=>False
theorem zi{m:Bi}{args:List Op}{vs:List Value}(cc:g.c.clean=true)(k:Ok g ρ w)(ra:bN g w args vs)(q:IL m args w.S Q):ET g ρ w (PySem.call (.builtin m.id) vs []) Q X:=by
 cases m with
 | baAppend=>
  obtain⟨o,i,u,v,rfl,ro,rb,q⟩:=ia ra q
  obtain⟨i,t,rfl,k0,k1,q⟩:=bE rb q
  exact nS (t:=λv=>PySem.call (.builtin "bytearray.append") [v,.int i t] []) cc k ro q λa b Q E hb hz z=>jH (s:=g.at w) hb k0 k1 (by rw[sizeLine_eq];exact Nat.lt_of_succ_lt hz) λh' e sb=>z h' _ (Array.toList_push ..) e sb
 | baExtend=>
  obtain⟨o,d,u,v,rfl,ro,rb,q⟩:=ia ra q
  obtain⟨y,t,rfl,q⟩:=xV rb q
  exact nS (t:=λv=>PySem.call (.builtin "bytearray.extend") [v,.bytes y t] []) cc k ro q λa b Q E hb hz z=>jK (s:=g.at w) hb (by rw[sizeLine_eq];rw[Array.length_toList]at hz;exact Nat.le_of_lt hz) λh' e sb=>z h' _ (Array.toList_append ..) e sb
 | _=>exact q.elim
def NG(i:Nat)(a:AV)(S:St)(Q:Op->St->Prop)(lo:LO):Prop:=match lo with
 |.list l=>l.length<16777216/\Q (.v .none) {S with loc:=S.loc.set i (.list (l++[a]))}
 | _=>False
def KH(o:Op)(a:AV)(S:St)(Q:Op->St->Prop):Prop:=match o with
 |.loc i=>aP S.loc[i]? (NG i a S Q)
 | _=>False
def I4(S:St)(Q:Op->St->Prop)(ns:List Int):Prop:=match ns with
 | n::r=>r.length<16777216/\Q (.v (.int n)) {S with sh:={S.sh with drw:=some r}}
 | _=>False
def He(o:Op)(S:St)(Q:Op->St->Prop):Prop:=match o with
 |.drw=>aP S.sh.drw (I4 S Q)
 | _=>False
def Jm(m:Bi)(args:List Op)(S:St)(Q:Op->St->Prop):Prop:=match m with
 |.append=>mJ args λo a=>fc a λa=>KH o a S Q
 |.pop=>mJ args λo i=>da i λi=>Gd (decide (i=0)) (He o S Q)
 | _=>False
theorem CY{o:Op}{a:AV}{u v:Value}(k:Ok g ρ w)(ro:bB g w o u)(ra:rep g.c.P w.I a v)(q:KH o a w.S Q):ET g ρ w (PySem.call (.builtin "list.append") [u,v] []) Q X:=by
 cases o with
 | loc i=>
  obtain⟨lo,e,q⟩:=ay q
  obtain⟨l,ha,rfl⟩:=ro
  cases lo with
  | list l'=>
   obtain⟨⟨oc,od,oda,osl⟩,x,n,e1,e2,e3,e3',e4,e5⟩:=k.loc _ _ _ ha e
   dsimp only at e2 e3 e3' e4
   subst e2 e3 e3' e4
   have len:=ak e5
   rw[Array.length_toList]at len
   refine .of λQ' E z=>wpAny_list_append_plain (s:=g.at w) ⟨n,e1⟩ (λh' hp sb=>?_) (by rw[sizeLine_eq,len];exact Nat.le_of_lt q.1)
   obtain⟨n',hp⟩:=hp
   exact z _ _ (.turnLoc (tk:=w.tk) (lo:=.list (l'++[a])) k ha sb ⟨_,hp⟩ ⟨_,x.push v,n',hp,rfl,rfl,rfl,rfl,by rw[Array.toList_push];exact eg (l':=[a]) ⟨v,[],rfl,ra,rfl⟩ e5⟩) ⟨.v .none,rfl,q.2⟩
  | _=>exact q.elim
 | _=>exact q.elim
theorem zN{o:Op}{u:Value}{t:Tok}(k:Ok g ρ w)(ro:bB g w o u)(q:He o w.S Q):ET g ρ w (PySem.call (.builtin "list.pop") [u,.int 0 t] []) Q X:=by
 cases o with
 | drw=>
  obtain⟨ns,e,q⟩:=ay q
  obtain⟨a,ha,r⟩:=k.sh.drw ns e
  obtain⟨a',ha',rfl⟩:=ro
  cases aM ha ha'
  cases ns with
  | nil=>exact q.elim
  | cons i r'=>
   obtain⟨⟨oc,od,oda,osl⟩,⟨l⟩,n,e1,e2,e3,e3',e4,e5⟩:=r
   dsimp only at e2 e3 e3' e4
   subst e2 e3 e3' e4
   have e5:IntsAre l (i::r'):=e5
   cases e5 with
   | cons _ u rest=>
    rename_i vs
    have up:(w.h.update a (Obj.mapSeq λxs=>xs.eraseIdxIfInBounds 0)).get? a=some {cls:=.type "list",data:=.seq vs.toArray (n+1)}:=by
     refine(Heap.get?_update_self _ e1 rfl).trans ?_
     show some (⟨_,_,Data.seq ((Value.int i u::vs).toArray.eraseIdxIfInBounds 0) (if(((Value.int i u::vs).toArray.eraseIdxIfInBounds 0).size==(Value.int i u::vs).toArray.size)=true then n else n+1),_⟩:Obj)=_
     rw[show(Value.int i u::vs).toArray.eraseIdxIfInBounds 0=vs.toArray from kl_erase [] vs (.int i u),if_neg (by simp)]
    have hz:vs.length<16777216:=rest.length▸q.1
    refine .of λQ' E z=>call_meets (s:=g.at w) PySem.F.slot_list_pop ⟨_,e1,rfl⟩ PySem.F.entry_list_pop (PySem.F.args_list_pop_2 _ _) (PySem.MeetsSeq.list_pop_at a _ n 0 t 0 (.int i u) (by decide +kernel) (by simp[seqIndex?]) (by simp) (by rw[sizeLine_eq];simp;exact uA 0x7fffffa00100000040900c00c hz)) ⟨e1,z _ _ (.turnSh (tk:=w.tk) k (Sl.mem.mpr (.inr (.inl ha))) (Heap.SameBut.update ..) ⟨_,up⟩ (k.sh.putDrw k.sl_nd ha (Heap.SameBut.update ..) ⟨_,vs.toArray,n+1,up,rfl,rfl,rfl,rfl,rest⟩)) ⟨.v (.int i),⟨u,rfl⟩,q.2⟩⟩
 | _=>exact q.elim
theorem ze{m:Bi}{args:List Op}{vs:List Value}(k:Ok g ρ w)(ra:bN g w args vs)(q:Jm m args w.S Q):ET g ρ w (PySem.call (.builtin m.id) vs []) Q X:=by
 cases m with
 | append=>
  obtain⟨o,i,u,v,rfl,ro,rb,q⟩:=ia ra q
  obtain⟨a,r,q⟩:=a9 rb q
  exact CY k ro r q
 | pop=>
  obtain⟨o,i,u,v,rfl,ro,rb,q⟩:=ia ra q
  obtain⟨i,t,rfl,q⟩:=bE rb q
  cases q.d
  exact zN k ro q.p
 | _=>exact q.elim
end
def GJ(a b:AV)(K:Bool->Prop):Prop:=match a with
 |.int x=>eL b λy=>K (decide (x=y))
 |.str x=>ur b λy=>K (decide (x=y))
 |.bool x=>tD b λy=>K (x==y)
 | _=>False
def zx:List AV->List AV->(Bool->Prop)->Prop
 | [],[],K=>K true
 | a::r,b::s,K=>GJ a b λx=>zx r s λy=>K (x&&y)
 | _,_,_=>False
def qF(x:Int):List AV->(Bool->Prop)->Prop
 | [],K=>K false
 | y::r,K=>eL y λy=>qF x r λb=>K (decide (y=x)||b)
def eqB(a b:AV)(K:Bool->Prop):Prop:=match a with
 |.int x=>eL b λy=>K (decide (x=y))
 |.bool x=>tD b λy=>K (x==y)
 |.str x=>ur b λy=>K (decide (x=y))
 |.oc k x=>Gd (!k) (yu b λk y=>Gd (!k) (K (decide (x=y))))
 |.list x=>EB b λy=>bif x.length==y.length then zx x y K else K false
 | _=>False
def Iq(a b:AV)(K:Bool->Prop):Prop:=match a with
 |.int x=>eL b λy=>K (!decide (x=y))
 |.bool x=>tD b λy=>K (x != y)
 |.str x=>ur b λy=>K (!decide (x=y))
 |.oc k x=>Gd (!k) (yu b λk y=>Gd (!k) (K (!decide (x=y))))
 |.list x=>EB b λy=>bif x.length==y.length then zx x y λr=>K (!r)else K true
 |.tuple x=>toT' b λy=>Gd (x.length==y.length) (zx x y λr=>K (!r))
 | _=>False
where toT' (a:AV) (K:List AV->Prop):Prop:=match a with
 |.tuple i=>K i
 | _=>False
noncomputable def isNone:AV->Bool
 |.none=>true
 | _=>false
noncomputable def An:AV->Bool
 |.bi _=>true
 | _=>false
def IH(neg:Bool)(a b:AV)(K:Bool->Prop):Prop:=Gd (isNone b&& !An a) (K (bif neg then !isNone a else isNone a))
def KY(a b:AV)(K:Bool->Prop):Prop:=match a with
 |.int x=>Iq.toT' b λl=>qF x l K
 |.str x=>ur b λy=>K (!(Builtin.Str.occurrences y x 0 y.length 1).isEmpty)
 | _=>False
def DL(x:Int)(b:AV)(K:Bool->Prop):Prop:=match b with
 |.tab D=>K (!KTD.inKeys x D)
 | _=>False
def FH(op:CmpOp)(a b:AV)(K:Bool->Prop):Prop:=match op with
 |.Eq=>eqB a b K
 |.NotEq=>Iq a b K
 |.Lt=>eL a λx=>eL b λy=>K (decide (x<y))
 |.LtE=>eL a λx=>eL b λy=>K (decide (x<=y))
 |.Gt=>eL a λx=>eL b λy=>K (decide (y<x))
 |.GtE=>eL a λx=>eL b λy=>K (decide (y<=x))
 |.Is=>IH false a b K
 |.IsNot=>IH true a b K
 |.In=>KY a b K
 |.NotIn=>eL a λx=>DL x b K
noncomputable def Cz:AV->Bool
 |.list []=>true
 | _=>false
def GM(op:CmpOp)(K:Bool->Prop)(ns:List Int):Prop:=match op with
 |.Eq=>K ns.isEmpty
 |.NotEq=>K (!ns.isEmpty)
 | _=>False
def Ad(op:CmpOp)(a b:Op)(S:St)(K:Bool->St->Prop):Prop:=fc b λy=>match a with
 |.v x=>FH op x y λr=>K r S
 |.drw=>Gd (Cz y) (aP S.sh.drw (GM op λr=>K r S))
 | _=>False
def EH(a:AV)(K:Bool->Prop):Prop:=match a with
 |.none=>K false
 |.bool b=>K b
 |.int i=>K (!decide (i=0))
 |.list l=>l.length<16777216/\K (!l.isEmpty)
 | _=>False
def D8(K:Bool->Prop)(lo:LO):Prop:=match lo with
 |.list l=>l.length<16777216/\K (!l.isEmpty)
 | _=>False
def iV(a:Op)(S:St)(K:Bool->St->Prop):Prop:=match a with
 |.v a=>EH a λb=>K b S
 |.drw=>aP S.sh.drw λns=>ns.length<16777216/\K (!ns.isEmpty) S
 |.loc k=>aP S.loc[k]? (D8 λb=>K b S)
 | _=>False
theorem bV{α:Type}[DecidableEq α][BEq α][LawfulBEq α](x y:α):decide (x=y)=(x==y):=by
 rw[Bool.eq_iff_iff,decide_eq_true_iff,beq_iff_eq]
section
variable {P:Params}{I:PH}{A:Around}{s:Shared}{K:Bool->Prop}{v u:Value}
inductive ND(A:Around)(s:Shared)(va vb:Value)(K:Bool->Prop):Prop
 | mk (r:Bool) (h:EqAt A s va vb r) (k:K r)
theorem zW{a b:AV}{va vb:Value}(A:Around)(s:Shared)(ra:rep P I a va)(rb:rep P I b vb)(k:GJ a b K):ND A s va vb K:=by
 cases a with
 | int x=>obtain⟨t,rfl⟩:=ra;obtain⟨y,u,rfl,k⟩:=bD rb k;exact⟨_,bV x y▸(MeetsSeq.EqGives.int _ _ _ _).at A s,k⟩
 | str x=>obtain⟨t,rfl⟩:=ra;obtain⟨y,u,rfl,k⟩:=jG rb k;exact⟨_,bV x y▸(eqGives_str _ _ _ _).at A s,k⟩
 | bool x=>cases ra;obtain⟨y,rfl,k⟩:=oZ rb k;exact⟨_,EqAt.bool_bool _ _,k⟩
 | _=>exact k.elim
inductive Je(A:Around)(s:Shared)(vs ws:List Value)(K:Bool->Prop):Prop
 | mk (len:vs.length=ws.length) (e:Nat->Bool) (h:∀j (h1:j<vs.length) (h2:j<ws.length),EqAt A s vs[j] ws[j] (e j)) (k:K ((List.range vs.length).all e))
theorem pM(A:Around)(s:Shared){l:List AV}:∀{l':List AV} {vs ws:List Value} {K:Bool->Prop},a0 P I l vs->a0 P I l' ws->zx l l' K->Je A s vs ws K:=by
 induction l with
 | nil=>
  intro l' vs ws K r1 r2 k
  cases l' with
  | nil=>cases r1;cases r2;exact⟨rfl,λq0=>true,λj h=>absurd h (Nat.not_lt_zero j),k⟩
  | cons b l'=>exact k.elim
 | cons a l ih=>
  intro l' vs ws K r1 r2 k
  cases l' with
  | nil=>exact k.elim
  | cons b l'=>
   obtain⟨v,vs,rfl,r1,r1'⟩:=r1
   obtain⟨w,ws,rfl,r2,r2'⟩:=r2
   obtain⟨x,hx,k⟩:=zW A s r1 r2 k
   obtain⟨len,e,h,k⟩:=ih r1' r2' k
   refine⟨congrArg Nat.succ len,λj=>Nat.casesOn j x e,λj h1 h2=>?_,?_⟩
   ·cases j with
    | zero=>exact hx
    | succ j=>exact h j (Nat.lt_of_succ_lt_succ h1) (Nat.lt_of_succ_lt_succ h2)
   ·rw[List.length_cons,List.range_succ_eq_map,List.all_cons,List.all_map];exact k
noncomputable def Mn(x:Int):Value->Bool
 |.int y _=>decide (y=x)
 | _=>false
inductive LI(A:Around)(s:Shared)(x:Value)(f:Value->Bool)(vs:List Value)(K:Bool->Prop):Prop
 | mk (h:∀y∈vs,EqAt A s y x (f y)) (k:K (vs.any f))
theorem tu{x:Int}{t:Tok}(A:Around)(s:Shared){l:List AV}:∀{vs:List Value} {K:Bool->Prop},a0 P I l vs->qF x l K->LI A s (.int x t) (Mn x) vs K:=by
 induction l with
 | nil=>intro vs K r k;cases r;exact⟨λq0 m=>absurd m List.not_mem_nil,k⟩
 | cons a l ih=>
  intro vs K r k
  obtain⟨v,vs,rfl,r,r'⟩:=r
  obtain⟨y,u,rfl,k⟩:=bD r k
  obtain⟨h,k⟩:=ih r' k
  exact⟨λz m=>(List.mem_cons.mp m).elim (λe=>e▸(show EqAt A s (.int y u) (.int x t) (decide (y=x))from bV y x▸(MeetsSeq.EqGives.int _ _ _ _).at A s)) (h z),k⟩
theorem ve{a:AV}(n:An a=false)(r:rep P I a v):plainIs v .none=true/\(v== .none)=isNone a:=by
 have ne:∀{u:Value},u≠.none->(u== .none)=false:=beq_eq_false_iff_ne.mpr
 cases a with
 | none=>cases r;exact⟨rfl,beq_self_eq_true _⟩
 | bool b=>cases r;exact⟨rfl,ne nofun⟩
 | int i=>obtain⟨_,rfl⟩:=r;exact⟨rfl,ne nofun⟩
 | str i=>obtain⟨_,rfl⟩:=r;exact⟨rfl,ne nofun⟩
 | oc k i=>cases k with
  | true=>obtain⟨_,_,_,rfl⟩:=r;exact⟨rfl,ne nofun⟩
  | false=>obtain⟨_,_,rfl⟩:=r;exact⟨rfl,ne nofun⟩
 | list i=>obtain⟨_,_,_,_,rfl⟩:=r;exact⟨rfl,ne nofun⟩
 | tuple i=>obtain⟨_,_,rfl⟩:=r;exact⟨rfl,ne nofun⟩
 | dict i=>obtain⟨_,_,_,_,rfl⟩:=r;exact⟨rfl,ne nofun⟩
 | inst i=>obtain⟨_,_,_,_,_,_,rfl⟩:=r;exact⟨rfl,ne nofun⟩
 | ref i=>cases r;exact⟨rfl,ne nofun⟩
 | ty i=>cases r;exact⟨rfl,ne nofun⟩
 | bi i=>cases n
 | tab i=>obtain⟨_,_,rfl⟩:=r;exact⟨rfl,ne nofun⟩
theorem wg{a:AV}(e:isNone a=true)(r:rep P I a v):v=.none:=by
 cases a with
 | none=>exact r
 | _=>cases e
theorem keys_str(x:Int)(D:List (Int×Str)):KTD.inKeys x (D.map λp=>(p.1,PyData.str p.2))=KTD.inKeys x D:=by
 induction D with
 | nil=>rfl
 | cons p D ih=>exact congrArg (decide (x=p.1)|| ·) ih
theorem oE{α β:Type}{l:List α}{m:List β}(e:l.length=m.length):l.isEmpty=m.isEmpty:=by
 cases l<;>cases m<;>first|rfl|exact nomatch e
end
section
variable {g:Fr}{ρ ρ':aa}{w w':W}{Q:Op->St->Prop}{X:aa->St->Prop}{K:Bool->St->Prop}{a b:AV}{va vb:Value}
inductive MR(K:Bool->St->Prop)(v:Value)(w:W):Prop
 | mk (b:Bool) (e:v=.bool b) (k:K b w.S)
abbrev CT(g:Fr)(ρ:aa)(w:W)(t:Sem Value)(K:Bool->St->Prop)(X:aa->St->Prop):Prop:=TE g ρ w t (MR K) X
theorem CT.is{t:Sem Value}{i:Bool}(k:Ok g ρ w)(q:K i w.S)(x:∀(Q:Value->Shared->Prop) (E:Value->Shared->Prop),(∀tk,Q (.bool i) (g.c.mk' w.h tk))->wpAny g.c.M g.A t Q E (g.at w)):CT g ρ w t K X:=
 .of λQ' E z=>x _ _ λtk=>z _ ⟨w.I,w.loc,w.S,w.h,tk⟩ (.grows k (.refl _)) ⟨i,rfl,q⟩
theorem Ok.units(k:Ok g ρ w):g.A.units<cLine:=Nat.lt_of_le_of_lt (Nat.le_add_right _ _) k.fr.a.units
theorem Fl(k:Ok g ρ w)(ra:rep g.c.P w.I a va)(rb:rep g.c.P w.I b vb)(q:eqB a b λr=>K r w.S):CT g ρ w (compareOp .Eq va vb) K X:=by
 cases a with
 | int x=>obtain⟨t,rfl⟩:=ra;obtain⟨y,u,rfl,q⟩:=bD rb q;exact .is k q λQ E z=>eq_int (bV x y▸z _)
 | bool x=>cases ra;obtain⟨y,rfl,q⟩:=oZ rb q;exact .is k q λQ E z=>eq_bool (z _)
 | str x=>obtain⟨t,rfl⟩:=ra;obtain⟨y,u,rfl,q⟩:=jG rb q;exact .is k q λQ E z=>PyProof.Rows.eq_str (bV x y▸z _)
 | oc kk x=>
  cases kk with
  | true=>exact q.elim
  | false=>
   obtain⟨kk,y,rb,q⟩:=sH rb (Gd.p (b:=true) q)
   cases kk with
   | true=>exact q.elim
   | false=>obtain⟨x,t,rfl,rfl⟩:=ra;obtain⟨y,u,rfl,rfl⟩:=rb;exact .is k q.p λQ E z=>eq_bytes (bV x.toList y.toList▸z _)
 | list x=>
  obtain⟨la,vs,rfl,h1,r1⟩:=b6 k.imm ra
  cases b with
  | list y=>
   obtain⟨lb,ws,rfl,h2,r2⟩:=b6 k.imm rb
   have q:bif x.length==y.length then zx x y λr=>K r w.S else K false w.S:=q
   cases hl:x.length==y.length with
   | true=>
    rw[hl]at q
    obtain⟨len,e,h,q⟩:=pM g.A.in1 (g.at w) r1 r2 q
    exact .is k q λQ E z=>eq_listAt (s:=g.at w) (e:=e) h1 h2 len k.units h (z _)
   | false=>
    rw[hl]at q
    exact .is k q λQ E z=>eq_list_lengthsAt (s:=g.at w) h1 h2 (by rw[List.size_toArray,List.size_toArray,ak r1,ak r2];exact congrArg not hl) k.units (z _)
  | _=>exact q.elim
 | _=>exact q.elim
theorem DO(k:Ok g ρ w)(ra:rep g.c.P w.I a va)(rb:rep g.c.P w.I b vb)(q:Iq a b λr=>K r w.S):CT g ρ w (compareOp .NotEq va vb) K X:=by
 cases a with
 | int x=>obtain⟨t,rfl⟩:=ra;obtain⟨y,u,rfl,q⟩:=bD rb q;exact .is k q λQ E z=>ne_int (by unfold bne;exact bV x y▸z _)
 | bool x=>cases ra;obtain⟨y,rfl,q⟩:=oZ rb q;exact .is k q λQ E z=>ne_bool (z _)
 | str x=>obtain⟨t,rfl⟩:=ra;obtain⟨y,u,rfl,q⟩:=jG rb q;exact .is k q λQ E z=>PyProof.Rows.ne_str (by unfold bne;exact bV x y▸z _)
 | oc kk x=>
  cases kk with
  | true=>exact q.elim
  | false=>
   obtain⟨kk,y,rb,q⟩:=sH rb (Gd.p (b:=true) q)
   cases kk with
   | true=>exact q.elim
   | false=>obtain⟨x,t,rfl,rfl⟩:=ra;obtain⟨y,u,rfl,rfl⟩:=rb;exact .is k q.p λQ E z=>ne_bytes (by unfold bne;exact bV x.toList y.toList▸z _)
 | list x=>
  obtain⟨la,vs,rfl,h1,r1⟩:=b6 k.imm ra
  cases b with
  | list y=>
   obtain⟨lb,ws,rfl,h2,r2⟩:=b6 k.imm rb
   have q:bif x.length==y.length then zx x y λr=>K (!r) w.S else K true w.S:=q
   cases hl:x.length==y.length with
   | true=>
    rw[hl]at q
    obtain⟨len,e,h,q⟩:=pM g.A.in1 (g.at w) r1 r2 q
    exact .is k q λQ E z=>RcNeAt.lists (s:=g.at w) (e:=e) h1 h2 len k.units h g.c.prog g.c.w E Q (z _)
   | false=>
    rw[hl]at q
    exact .is k q λQ E z=>RcNeAt.lists_lengths (s:=g.at w) h1 h2 (by rw[List.size_toArray,List.size_toArray,ak r1,ak r2];exact congrArg not hl) k.units g.c.prog g.c.w E Q (z _)
  | _=>exact q.elim
 | tuple x=>
  obtain⟨la,vs,rfl,h1,r1⟩:=jQ k.imm ra
  cases b with
  | tuple y=>
   obtain⟨lb,ws,rfl,h2,r2⟩:=jQ k.imm rb
   have q:Gd (x.length==y.length) (zx x y λr=>K (!r) w.S):=q
   obtain⟨len,e,h,q⟩:=pM g.A.in1 (g.at w) r1 r2 q.p
   refine .is k q λQ E z=>RcNeAt.tuples (s:=g.at w) (e:=e) (dC h1) (dC h2) k.units h g.c.prog g.c.w E Q ?_
   rw[List.size_toArray,List.size_toArray,<-len,Nat.min_self,beq_self_eq_true,Bool.and_true];exact z _
  | _=>exact q.elim
 | _=>exact q.elim
theorem wz{neg:Bool}(k:Ok g ρ w)(ra:rep g.c.P w.I a va)(rb:rep g.c.P w.I b vb)(q:IH neg a b λr=>K r w.S):CT g ρ w (compareOp (bif neg then .IsNot else .Is) va vb) K X:=by
 have e:=Bool.and_eq_true_iff.mp q.e
 cases wg e.1 rb
 obtain⟨p,e⟩:=ve (Bool.not_eq_true' _▸e.2) ra
 cases neg with
 | false=>exact .is k q.p λQ E z=>wpAny_is_plain p (by rw[e];exact z _)
 | true=>exact .is k q.p λQ E z=>wpAny_isNot_plain p (by rw[e];exact z _)
theorem DF(k:Ok g ρ w)(ra:rep g.c.P w.I a va)(rb:rep g.c.P w.I b vb)(q:KY a b λr=>K r w.S):CT g ρ w (compareOp .In va vb) K X:=by
 cases a with
 | int x=>
  obtain⟨t,rfl⟩:=ra
  cases b with
  | tuple l=>
   obtain⟨lb,ws,rfl,h2,r2⟩:=jQ k.imm rb
   obtain⟨h,q⟩:=tu (t:=t) g.A.in1 (g.at w) r2 q
   exact .is k q λQ E z=>in_tupleAt (s:=g.at w) _ (dC h2) (λy m=>h y (Array.mem_def.mp m)) (by rw[List.any_toArray];exact z _)
  | _=>exact q.elim
 | str x=>obtain⟨t,rfl⟩:=ra;obtain⟨y,u,rfl,q⟩:=jG rb q;exact .is k q λQ E z=>PyProof.Rows.in_str (z _)
 | _=>exact q.elim
theorem A6{o:CmpOp}(k:Ok g ρ w)(ra:rep g.c.P w.I a va)(rb:rep g.c.P w.I b vb)(q:FH o a b λr=>K r w.S):CT g ρ w (compareOp o va vb) K X:=by
 cases o with
 | Eq=>exact Fl k ra rb q
 | NotEq=>exact DO k ra rb q
 | Lt=>obtain⟨x,t,rfl,q⟩:=bD ra q;obtain⟨y,u,rfl,q⟩:=bD rb q;exact .is k q λQ E z=>lt_int (z _)
 | LtE=>obtain⟨x,t,rfl,q⟩:=bD ra q;obtain⟨y,u,rfl,q⟩:=bD rb q;exact .is k q λQ E z=>le_int (z _)
 | Gt=>obtain⟨x,t,rfl,q⟩:=bD ra q;obtain⟨y,u,rfl,q⟩:=bD rb q;exact .is k q λQ E z=>gt_int (z _)
 | GtE=>obtain⟨x,t,rfl,q⟩:=bD ra q;obtain⟨y,u,rfl,q⟩:=bD rb q;exact .is k q λQ E z=>ge_int (z _)
 | Is=>exact wz (neg:=false) k ra rb q
 | IsNot=>exact wz (neg:=true) k ra rb q
 | In=>exact DF k ra rb q
 | NotIn=>
  obtain⟨x,t,rfl,q⟩:=bD ra q
  cases b with
  | tab D=>
   obtain⟨a,h₀,rfl,hK,hk⟩:=rb
   exact .is k q λQ E z=>KTD.notin_keyed (s:=g.at w) hK (λb o e=>k.imm _ _ (hk b o e)) (by rw[keys_str];exact z _)
  | _=>exact q.elim
theorem cm.list{h:Heap}{x:Addr}{L:List Value->Prop}(r:cm h x L):∃vs:List Value,h.IsList x vs.toArray/\L vs:=by
 obtain⟨o,y,n,e,c,_,_,d,r⟩:=r;exact⟨y.toList,⟨o,e,c,n,d⟩,r⟩
theorem AJ{h:Heap}{P:Params}{I:PH}(im:∀a o,I a=some o->h.get? a=some o)(e:Cz b=true)(r:rep P I b vb):∃l,vb=.ref l/\h.IsList l #[]:=by
 cases b with
 | list x=>cases x with
  | nil=>obtain⟨la,vs,rfl,h1,r1⟩:=b6 im r;cases r1;exact⟨la,rfl,h1⟩
  | cons _ _=>cases e
 | _=>cases e
theorem zX{o:CmpOp}{x y:Addr}{ns:List Int}(k:Ok g ρ w)(d:cm w.h x (gQ ns))(n:w.h.IsList y #[])(q:GM o (λr=>K r w.S) ns):CT g ρ w (compareOp o (.ref x) (.ref y)) K X:=by
 obtain⟨vs,hv,r⟩:=d.list
 have len:=IntsAre.length r
 cases vs with
 | nil=>
  cases ns with
  | nil=>cases o with
   | Eq=>exact .is k q λQ E z=>eq_listAt (s:=g.at w) (e:=λq0=>true) hv n rfl k.units (λj h1=>absurd h1 (Nat.not_lt_zero _)) (z _)
   | NotEq=>exact .is k q λQ E z=>RcNeAt.lists (s:=g.at w) (e:=λq0=>true) hv n rfl k.units (λj h1=>absurd h1 (Nat.not_lt_zero _)) g.c.prog g.c.w E Q (z _)
   | _=>exact q.elim
  | cons _ _=>cases len
 | cons v vs=>
  cases ns with
  | nil=>cases len
  | cons i r=>cases o with
   | Eq=>exact .is k q λQ E z=>eq_list_lengthsAt (s:=g.at w) hv n rfl k.units (z _)
   | NotEq=>exact .is k q λQ E z=>RcNeAt.lists_lengths (s:=g.at w) hv n rfl k.units g.c.prog g.c.w E Q (z _)
   | _=>exact q.elim
theorem iH{o:CmpOp}{a b:Op}(k:Ok g ρ w)(ra:bB g w a va)(rb:bB g w b vb)(q:Ad o a b w.S K):CT g ρ w (compareOp o va vb) K X:=by
 obtain⟨y,rb,q⟩:=a9 rb q
 cases a with
 | v x=>exact A6 k ra rb q
 | drw=>
  obtain⟨l,rfl,h⟩:=AJ k.imm (Gd.e q) rb
  obtain⟨ns,e,q⟩:=ay (Gd.p q)
  obtain⟨a,ha,d⟩:=k.sh.drw ns e
  obtain⟨a',ha',rfl⟩:=ra
  cases aM ha ha'
  exact zX k d h q
 | _=>exact q.elim
theorem lC{a:Op}(k:Ok g ρ w)(ra:bB g w a va)(q:iV a w.S K):BT g ρ w (truthy va) K X:=by
 have lst:∀{α:Type} {l:List α} {a:Addr} {vs:List Value},vs.length=l.length->w.h.IsList a vs.toArray->l.length<16777216/\K (!l.isEmpty) w.S->BT g ρ w (truthy (.ref a)) K X:=λ{α l a vs} e hl q=>
  .of λQ E z=>wpAny_truthy_list (s:=g.at w) hl (by rw[List.size_toArray,e];have:=q.1;omega) (z (!vs.toArray.isEmpty) ⟨w.I,w.loc,w.S,w.h,w.tk+1+1⟩ (.grows k (.refl _)) (by rw[List.isEmpty_toArray,oE e];exact q.2))
 cases a with
 | v a=>
  cases a with
  | none=>cases ra;exact .pure k q
  | bool b=>cases ra;exact .of λQ E z=>wpAny_truthy_bool (z _ w (.refl k) q)
  | int i=>obtain⟨t,rfl⟩:=ra;exact .of λQ E z=>PyProof.Rows.truthy_int (by unfold bne;rw[<-bV];exact z _ w (.refl k) q)
  | list l=>obtain⟨la,vs,rfl,h1,r1⟩:=b6 k.imm ra;exact lst (ak r1) h1 q
  | _=>exact q.elim
 | drw=>
  obtain⟨ns,e,q⟩:=ay q
  obtain⟨a,ha,d⟩:=k.sh.drw ns e
  obtain⟨a',ha',rfl⟩:=ra
  cases aM ha ha'
  obtain⟨vs,hv,r⟩:=d.list
  exact lst (IntsAre.length r) hv q
 | loc i=>
  obtain⟨lo,e,q⟩:=ay q
  obtain⟨a,ha,rfl⟩:=ra
  cases lo with
  | list l=>
   obtain⟨vs,hv,r⟩:=(show cm w.h a (a0 g.c.P w.I l)from k.loc _ _ _ ha e).list
   exact lst (ak r) hv q
  | _=>exact q.elim
 | _=>exact q.elim
end
noncomputable def pJ{α:Type}(l:List α)(k:Int):Option α:=bif decide (0<=k)then l[k.toNat]? else none
noncomputable def dT{α:Type}(l:List α)(k:Int):Option α:=bif decide (0<=k)then l[k.toNat]? else bif decide (-(l.length:Int)<=k)then l[(k+l.length).toNat]? else none
noncomputable def iM(c:UInt8):AV:=.int (c.toNat:Int)
noncomputable def a7:List (Str×AV)->Str->Option AV
 | [],_=>none
 | p::r,x=>bif Fast.sEq p.1 x then some p.2 else a7 r x
noncomputable def tabAt:List (Int×Str)->Int->Option Str
 | [],_=>none
 | p::r,x=>bif decide (x=p.1)then some p.2 else tabAt r x
def Ip(o:AV)(i:Op)(K:AV->Prop):Prop:=match o with
 |.list l=>da i λk=>l.length<=16777216/\aP (pJ l k) K
 |.tuple l=>da i λk=>l.length<=16777216/\aP (pJ l k) K
 |.str x=>da i λk=>x.cps.size<=16777216/\aP (pJ x.cps.toList k) λc=>K (.str ⟨#[c]⟩)
 |.oc _ l=>da i λk=>l.length<=16777216/\aP (dT l k) λc=>K (iM c)
 |.dict l=>toS i λx=>aP (a7 l x) K
 |.tab l=>da i λx=>aP (tabAt l x) λa=>K (.str a)
 | _=>False
def I0(i:Op)(K:AV->Prop)(lo:LO):Prop:=match lo with
 |.list l=>da i λk=>l.length<=16777216/\aP (pJ l k) K
 | _=>False
def G4(o i:Op)(S:St)(Q:Op->St->Prop):Prop:=match o with
 |.v a=>Ip a i λa=>Q (.v a) S
 |.loc k=>aP S.loc[k]? (I0 i λa=>Q (.v a) S)
 | _=>False
noncomputable def part{α:Type}(l:List α)(lo hi:Option Int):List α:=(l.drop (lo.elim 0 (clipAt l.length))).take (hi.elim l.length (clipAt l.length)-lo.elim 0 (clipAt l.length))
def MI(o:AV)(lo hi:Option Int)(K:AV->Prop):Prop:=match o with
 |.list l=>l.length<=16777216/\K (.list (part l lo hi))
 |.oc k l=>l.length<=16777216/\K (.oc k (part l lo hi))
 | _=>False
def Jl(o:Op)(lo hi:Option Int)(S:St)(Q:Op->St->Prop):Prop:=fc o λo=>MI o lo hi λa=>Q (.v a) S
section
variable {α:Type}{l:List α}{k:Int}{a:α}
inductive Hh(l:List α)(k:Int)(K:α->Prop):Prop
 | mk (a:α) (h:a∈l) (lo: -(l.length:Int)<=k) (hi:k<l.length) (j:Nat) (e:seqIndex? k l.length=some j) (i:l[j]? =some a) (nn:0<=k->j=k.toNat) (q:K a)
theorem xI{K:α->Prop}(q:aP (dT l k) K):Hh l k K:=by
 obtain⟨a,e,q⟩:=ay q
 unfold dT at e
 cases h:decide (0<=k)with
 | true=>
  rw[h]at e
  have h0:=of_decide_eq_true h
  have e:l[k.toNat]? =some a:=e
  have h1:=(List.getElem?_eq_some_iff.mp e).1
  have h2:¬k<0:=by exact Int.not_lt.mpr (uI 0x4400000000800d h0)
  have h3:k<l.length:=by exact nl [_,_] [_] 0x82000000a00c8000600f100900c00c h1 (cV (k) (uI 0x4400000000800d h0))
  exact⟨a,List.mem_of_getElem? e,by exact uK 0x1e400000000800d h0,h3,k.toNat,by unfold seqIndex?;simp[h2,h3,h0],e,λq0=>rfl,q⟩
 | false=>
  rw[h]at e
  have h0:=of_decide_eq_false h
  cases h':decide (-(l.length:Int)<=k)with
  | false=>rw[h']at e;cases e
  | true=>
   rw[h']at e
   have h1:=of_decide_eq_true h'
   have e:l[(k+l.length).toNat]? =some a:=e
   have h2:k<0:=by exact uI 0x2000000500640000004000000a00c00d (Int.not_le.mp h0)
   have h3:0<=k+(l.length:Int):=by exact uK 0x100c000000440003c00d h1
   have h4:k+(l.length:Int)<l.length:=by exact uK 0x2000000a00403640000004000000a00c00d (Int.not_le.mp h0)
   exact⟨a,List.mem_of_getElem? e,h1,by exact uK 0x40000014019004000001400806c00d h4,_,by unfold seqIndex?;simp[h2,h3,h4],e,λz=>absurd z h0,q⟩
theorem wj{K:α->Prop}(q:aP (pJ l k) K):0<=k/\Hh l k K:=by
 have e:dT l k=pJ l k:=by
  obtain⟨a,e,q⟩:=ay q
  unfold pJ dT at*
  cases h:decide (0<=k)with
  | true=>rfl
  | false=>rw[h]at e;cases e
 have h:0<=k:=by
  obtain⟨a,e,q⟩:=ay q
  unfold pJ at e
  cases h:decide (0<=k)with
  | true=>exact of_decide_eq_true h
  | false=>rw[h]at e;cases e
 exact⟨h,xI (e▸q)⟩
theorem oL(l:List α)(lo hi:Option Int):(part l lo hi).length<=l.length:=by
 unfold part
 rw[List.length_take,List.length_drop];exact Nat.le_trans (Nat.min_le_right ..) (Nat.sub_le ..)
end
section
variable {P:Params}{I:PH}{x:Str}{a:AV}
inductive F8(P:Params)(I:PH)(x:Str)(a:AV)(es:List DictEntry):Prop
 | mk (en:DictEntry) (e:es.find? (λe=>Value.isStrOf x e.key)=some en) (r:rep P I a en.val)
theorem fB.is{k:Str}{p:Value->Prop}{e:DictEntry}(h:fB P k p e)(x:Str):Value.isStrOf x e.key=Fast.sEq k x:=by
 obtain⟨t,e2,_⟩:=h;rw[e2,dO];rfl
theorem ti{l:List (Str×AV)}:∀{es:List DictEntry},cH P I l es->a7 l x=some a->F8 P I x a es:=by
 induction l with
 | nil=>exactλq0=>nofun
 | cons p r ih=>
  intro es h q
  obtain⟨e,es',rfl,h1,h2⟩:=h
  have q:(bif Fast.sEq p.1 x then some p.2 else a7 r x)=some a:=q
  have ke:=h1.is x
  cases w:Fast.sEq p.1 x with
  | true=>rw[w]at q ke;cases q;obtain⟨t,_,_,r1⟩:=h1;exact⟨e,List.find?_cons_of_pos ke,r1⟩
  | false=>rw[w]at q ke;obtain⟨en,e,r⟩:=ih h2 q;exact⟨en,(List.find?_cons_of_neg (p:=λ(e:DictEntry)=>Value.isStrOf x e.key) (Bool.eq_false_iff.mp ke)).trans e,r⟩
theorem lh{c:Cx}{l:List (Str×AV)}:∀{es:List DictEntry},cH c.P I l es->∀e∈es,∃k,(strKind c.prog c.w).is k e.key=true/\e.hash=(strKind c.prog c.w).hash k:=by
 induction l with
 | nil=>intro es h e m;cases h;exact absurd m List.not_mem_nil
 | cons p r ih=>
  intro es h e m
  obtain⟨e,es',rfl,h1,h2⟩:=h
  rcases List.mem_cons.mp m with m|m
  ·subst m;exact⟨p.1,(h1.is _).trans (Fast.sEq_iff.mpr rfl),by obtain⟨_,_,z,_⟩:=h1;exact z⟩
  ·exact ih h2 _ m
theorem qP{x:Int}{a:Str}{D:List (Int×Str)}:tabAt D x=some a->KTD.datumAt x (D.map λp=>(p.1,PyData.str p.2))=some (PyData.str a):=by
 induction D with
 | nil=>exact nofun
 | cons p r ih=>
  intro q
  have q:(bif decide (x=p.1)then some p.2 else tabAt r x)=some a:=q
  show(if decide (x=p.1)=true then some (PyData.str p.2)else _)=_
  cases w:decide (x=p.1)with
  | true=>rw[w]at q;cases q;rfl
  | false=>rw[w]at q;exact ih q
theorem uz{l:List AV}(k:Nat):∀{vs:List Value},a0 P I l vs->a0 P I (l.drop k) (vs.drop k):=by
 induction k generalizing l with
 | zero=>exact id
 | succ k ih=>cases l with
  | nil=>intro vs h;cases h;rfl
  | cons a r=>intro vs h;obtain⟨v,vs',rfl,_,h2⟩:=h;exact ih h2
theorem uq{l:List AV}(k:Nat):∀{vs:List Value},a0 P I l vs->a0 P I (l.take k) (vs.take k):=by
 induction k generalizing l with
 | zero=>exactλq0=>rfl
 | succ k ih=>cases l with
  | nil=>intro vs h;cases h;rfl
  | cons a r=>intro vs h;obtain⟨v,vs',rfl,h1,h2⟩:=h;exact⟨v,_,rfl,h1,ih h2⟩
theorem uN{l:List AV}{vs:List Value}(lo hi:Option Int)(h:a0 P I l vs):a0 P I (part l lo hi) (part vs lo hi):=by
 unfold part
 rw[ak h]
 exact uq _ (uz _ h)
end
theorem jN(xs:Array Value)(lo hi:Option Int):(slicePick xs lo hi none).toList=part xs.toList lo hi:=by
 unfold slicePick part
 rw[sliceBounds_plain]
 simp only[sliceRange_one,pick_run,List.toList_toArray,Array.length_toList]
theorem hZ(b:Array UInt8)(lo hi:Option Int):(Builtin.Bytes.sliced b (sliceBounds lo hi none b.size).1 (sliceBounds lo hi none b.size).2.1 (sliceBounds lo hi none b.size).2.2).toList=part b.toList lo hi:=by
 unfold Builtin.Bytes.sliced part
 rw[sliceBounds_plain]
 simp only[sliceRange_one,pick_run,List.toList_toArray,Array.length_toList]
section
variable {prog:Program}{wd:World}{A:Around}{E:Value->Shared->Prop}{s:Shared}{Q:Value->Shared->Prop}{a sl:Addr}{b:Array UInt8}
noncomputable abbrev kB(value slice:Expr)(o i:Value):Sem Value:=getitemInPython o >>=λb=>subscripted slice b o i >>=λr=>letTemporaryGo value o r >>=λq0=>pure r
theorem jV{slice:Expr}{o i:Value}:subscripted slice false o i=operate [i,o] (getItem o i)\/subscripted slice false o i=operate [o,i] (getItem o i):=by
 cases slice with
 | Slice a b c p=>cases c with
  | none=>exact .inl rfl
  | some c=>exact .inr rfl
 | _=>exact .inr rfl
theorem cb{value slice:Expr}{o i:Value}{T id:String}(hT:s.TypeIs o T)(hl:typeLookup (.type T) "__getitem__" =pure (some (.builtin id)))
  (h:wpAny (model prog wd) A (getItem o i) Q E s):wpAny (model prog wd) A (kB value slice o i) Q E s:=by
 refine wpAny_bind ?_
 rw[getitemInPython_of_ne hT.not_modules]
 refine wpAny_bind (wpAny_specialOf hT hl (wpAny_pure (wpAny_bind ?_)))
 have fin:∀{t:Sem Value},wpAny (model prog wd) A t Q E s->wpAny (model prog wd) A t (λr s=>wpAny (model prog wd) A (letTemporaryGo value o r >>=λq0=>pure r) Q E s) E s:=
  λq=>wpAny_mono q (λr s' z=>wpAny_bind (wpAny_letTemporaryGo (wpAny_pure z))) λq0 q1 z=>z
 rcases jV (slice:=slice) (o:=o) (i:=i)with e|e
 ·rw[e];exact fin (wpAny_operate' h)
 ·rw[e];exact fin (wpAny_operate' h)
theorem mX{k:Int}{u:Tok}{j:Nat}{d:UInt8}(hb:ck s.heap a b)(h0: -(2^63)<=k)(h1:k<2^63)(hj:seqIndex? k b.size=some j)(hd:b[j]? =some d)
  (q:Q (.int (d.toNat:Int) s.toks) {s with toks:=s.toks+1}):wpAny (model prog wd) A (getItem (.ref a) (.int k u)) Q E s:=by
 have M:Meets (Builtin.«bytearray.__getitem__» ⟨[.ref a,.int k u],[]⟩) (λq0 R s=>ck s.heap a b/\R (.ok (.ret (.int (d.toNat:Int) s.toks))) {s with toks:=s.toks+1}):=.of_wp λprog w A R s hS=>by
  unfold Builtin.«bytearray.__getitem__»
  refine wpAny_bind (m:=slotArgs "__getitem__" 1 ⟨[.ref a,.int k u],[]⟩) (wpAny_of_eq (a:=(.ref a,[.int k u])) rfl (wpAny_bind (m:=Builtin.Bytes.subscript? (.int k u)) ?_))
  unfold Builtin.Bytes.subscript?
  refine wpAny_bind (wpAny_specialOf (typeIs_int s k u) F.slot_int_index.lookup ?_)
  show wpAny _ _ (if(!Builtin.Bytes.fitsIndex k)=true then _ else pure (some k)) _ _ s
  have hr:Builtin.Bytes.fitsIndex k=true:=by simp only[Builtin.Bytes.fitsIndex,Bool.and_eq_true,decide_eq_true_eq];exact⟨h0,h1⟩
  rw[hr]
  refine wpAny_pure (wpAny_bind (m:=Builtin.Bytes.payload (.ref a)) (cO hS.1 ?_))
  rw[hj,Option.bind_some,hd]
  exact wpAny_bind (wpAny_mkInt (wpAny_pure ⟨_,rfl,hS.2⟩))
 exact getItem_meets hb.typeIs (by decide) iy fj (fO _ _) M ⟨hb,q⟩
theorem kh{l u:Value}{lo hi:Option Int}{Q:Value×Value×Value->Shared->Prop}(hl:IsPart l lo)(hu:IsPart u hi)(hs:s.heap.IsSliceOf sl l u .none)(q:Q (rawPart lo,rawPart hi,.none) s):wpAny (model prog wd) A (Builtin.Bytes.sliceParts (.ref sl)) Q E s:=by
 obtain⟨o,ho,hc,hd⟩:=hs
 unfold Builtin.Bytes.sliceParts
 refine wpAny_bind (wpAny_field (x:=.none) ho hd rfl ?_)
 kby_none
 refine wpAny_ite (KBy.ite_no (show¬((Value.none==rawInt 0)=true)from Bool.false_ne_true) ?_)
 refine wpAny_bind (wpAny_field (x:=l) ho hd rfl (wpAny_bind (wpAny_mono (Q:=λr s'=>r=rawPart lo/\s'=s) (E:=E) ?_ (λr s' hr=>?_) λq0 q1 z=>z)))
 ·cases hl with
  | none=>exact wpAny_of_eq (a:=Value.none) rfl ⟨rfl,rfl⟩
  | int i t=>exact wpAny_ite (KBy.ite_no (show¬((Value.int i t==Value.none)=true)from Bool.false_ne_true) (wpAny_bind (wpAny_specialOf (T:="int") (typeIs_int _ _ _) F.slot_int_index.lookup (wpAny_ite (KBy.ite_no (show¬(Option.isNone (some _)=true)from Bool.false_ne_true) (wpAny_bind (wpAny_of_eq rfl (wpAny_pure ⟨rfl,rfl⟩))))))))
 ·obtain⟨rfl,rfl⟩:=hr
  refine wpAny_bind (wpAny_field (x:=u) ho hd rfl (wpAny_bind ?_))
  cases hu with
  | none=>exact wpAny_of_eq (a:=Value.none) rfl (wpAny_pure q)
  | int i t=>exact wpAny_ite (KBy.ite_no (show¬((Value.int i t==Value.none)=true)from Bool.false_ne_true) (wpAny_bind (wpAny_specialOf (T:="int") (typeIs_int _ _ _) F.slot_int_index.lookup (wpAny_ite (KBy.ite_no (show¬(Option.isNone (some _)=true)from Bool.false_ne_true) (wpAny_bind (wpAny_of_eq rfl (wpAny_pure (wpAny_pure q)))))))))
theorem kg{l u:Value}{lo hi:Option Int}(hl:IsPart l lo)(hu:IsPart u hi)(hb:ck s.heap a b)(hs:s.heap.IsSliceOf sl l u .none)
  (hz:b.size<=sizeLine) (q:∀b',b'.toList=part b.toList lo hi->Q (.ref s.heap.objs.size) {s with heap:=s.heap.push (wB b')}):wpAny (model prog wd) A (getItem (.ref a) (.ref sl)) Q E s:=by
 have M:Meets (Builtin.«bytearray.__getitem__» ⟨[.ref a,.ref sl],[]⟩) (λq0 R s=>ck s.heap a b/\s.heap.IsSliceOf sl l u .none/\∀b',b'.toList=part b.toList lo hi->R (.ok (.ret (.ref s.heap.objs.size))) {s with heap:=s.heap.push (wB b')}):=.of_wp λprog w A R s hS=>by
  obtain⟨hb,hs,hR⟩:=hS
  have hT:s.TypeIs (.ref sl) "slice":=by obtain⟨o,ho,hc,_⟩:=hs;exact⟨o,ho,hc⟩
  unfold Builtin.«bytearray.__getitem__»
  refine wpAny_bind (m:=slotArgs "__getitem__" 1 ⟨[.ref a,.ref sl],[]⟩) (wpAny_of_eq (a:=(.ref a,[.ref sl])) rfl (wpAny_bind (m:=Builtin.Bytes.subscript? (.ref sl)) ?_))
  unfold Builtin.Bytes.subscript?
  refine wpAny_bind (wpAny_specialOf hT slice_no_index (wpAny_pure (wpAny_bind (wpAny_typeOf hT (wpAny_bind (m:=Builtin.Bytes.sliceParts (.ref sl)) (kh hl hu hs (wpAny_bind (cO hb ?_))))))))
  have hp:=hZ b lo hi
  refine wpAny_bind (wpAny_of_eq (sliceIndices_raw lo hi none b.size nofun) (wpAny_bind (m:=Builtin.Bytes.newBytearray _) (wpAny_newObj_type (wpAny_pure ⟨_,rfl,hR _ hp⟩) ?_)))
  exact Nat.le_trans (Nat.le_of_eq (Array.length_toList.symm.trans (congrArg List.length hp))) (Nat.le_trans (oL _ _ _) (by rw[Array.length_toList];exact hz))
 exact getItem_meets hb.typeIs (by decide) iy fj (fO _ _) M ⟨hb,hs,q⟩
end
section
variable {g:Fr}{ρ ρ':aa}{w w':W}{Q:Op->St->Prop}{X:aa->St->Prop}{value slice:Expr}{vo vi:Value}
theorem bU.isBa{h:Heap}{a:Addr}{b:List UInt8}(r:bU h a b):∃x:Array UInt8,x.toList=b/\ck h a x:=by
 obtain⟨o,x,e,c,_,d,t⟩:=r;exact⟨x,t,o,e,c,d⟩
theorem BO.isBa{I:PH}{h:Heap}{b:List UInt8}{v:Value}(im:∀a o,I a=some o->h.get? a=some o)(r:BO I b v):∃(a:Addr) (x:Array UInt8),v=.ref a/\x.toList=b/\ck h a x:=by
 obtain⟨a,o,x,e,i,c,d,t⟩:=r;exact⟨a,x,e,t,o,im _ _ i,c,d⟩
theorem jb{la:Addr}{vs:List Value}{l:List AV}{i:Op}(k:Ok g ρ w)(h:w.h.IsList la vs.toArray)(r:a0 g.c.P w.I l vs)(ri:bB g w i vi)(q:da i λk=>l.length<=16777216/\aP (pJ l k) λa=>Q (.v a) w.S):ET g ρ w (kB value slice (.ref la) vi) Q X:=by
 obtain⟨i,u,rfl,hz,q⟩:=bE ri q
 obtain⟨h0,a,_,_,h1,j,_,e,nn,q⟩:=wj q
 obtain⟨v,hv,rv⟩:=iU r _ _ e
 cases nn h0
 exact .grow (.v a) k (λQ E z=>cb (s:=g.at w) h.typeIs slot_list_getitem.lookup (wpAny_getItem_list (s:=g.at w) h h0 (by omega) (List.getElem?_toArray.trans hv) (z _ _ _ (.refl _) rv))) q
theorem AY{o i:Op}(k:Ok g ρ w)(ro:bB g w o vo)(ri:bB g w i vi)(q:G4 o i w.S Q):ET g ρ w (kB value slice vo vi) Q X:=by
 cases o with
 | v a=>
  cases a with
  | list l=>obtain⟨la,vs,rfl,h1,r1⟩:=b6 k.imm ro;exact jb k h1 r1 ri q
  | tuple l=>
   obtain⟨la,vs,rfl,h1,r1⟩:=jQ k.imm ro
   obtain⟨i,u,rfl,hz,q⟩:=bE ri q
   obtain⟨h0,a,_,_,h2,j,hj,e,_,q⟩:=wj q
   obtain⟨v,hv,rv⟩:=iU r1 _ _ e
   have h1:=dC h1
   exact .grow (.v a) k (λQ E z=>cb (s:=g.at w) h1.typeIs F.slot_tuple_getitem.lookup (PyProof.Rows.getItem_tuple (s:=g.at w) (j:=j) (x:=v) h1 (by omega) (by omega) (by rw[List.size_toArray,ak r1];exact hj) (List.getElem?_toArray.trans hv) (z _ _ _ (.refl _) rv))) q
  | str x=>
   obtain⟨t,rfl⟩:=ro
   obtain⟨i,u,rfl,hz,q⟩:=bE ri q
   obtain⟨h0,a,_,lo,h2,j,hj,e,_,q⟩:=wj q
   rw[Array.length_toList]at lo h2 hj
   exact .grow (.v (.str ⟨#[a]⟩)) k (λQ E z=>cb (s:=g.at w) (typeIs_str _ _ _) F.slot_str_getitem.lookup (PyProof.Rows.getItem_str (c:=a) (Bool.or_eq_false_iff.mpr ⟨decide_eq_false (by omega),decide_eq_false (by omega)⟩) (by
    show(seqIndex? i x.cps.size).bind _=_
    rw[hj,Option.bind_some];exact Array.getElem?_toList▸e) (z _ _ _ (.refl _) ⟨_,rfl⟩))) q
  | oc kk l=>
   obtain⟨i,u,rfl,hz,q⟩:=bE ri q
   obtain⟨a,_,lo,h2,j,hj,e,_,q⟩:=xI q
   refine .grow (.v (iM a)) k (λQ E z=>?_) q
   cases kk with
   | false=>
    obtain⟨b,t,rfl,rfl⟩:=ro
    rw[Array.length_toList]at lo h2 hj hz
    refine cb (s:=g.at w) (typeIs_bytes _ _ _) FB.slot_bytes_getitem.lookup (getItem_gives (typeIs_bytes _ b t) (by decide) FB.slot_bytes_getitem FB.entry_bytes_getitem (FB.args_bytes_getitem_2 _ _) (gives_bytes_getitem _ _ t u a ?_ ?_) (z _ _ _ (.refl _) ⟨_,rfl⟩))
    ·simp only[Builtin.Bytes.fitsIndex,Bool.and_eq_true,decide_eq_true_eq];omega
    ·rw[hj,Option.bind_some];exact Array.getElem?_toList▸e
   | true=>
    obtain⟨la,b,rfl,rfl,hb⟩:=BO.isBa k.imm ro
    rw[Array.length_toList]at lo h2 hj hz
    exact cb (s:=g.at w) (ck.typeIs (s:=g.at w) hb) iy.lookup (mX (s:=g.at w) hb (by omega) (by omega) hj (Array.getElem?_toList▸e) (z _ _ _ (.refl _) ⟨_,rfl⟩))
  | dict l=>
   obtain⟨la,o,es,n,rfl,e1,e2,e3,e4,e5,e6,e7⟩:=ro
   obtain⟨x,u,rfl,q⟩:=fw ri q
   obtain⟨a,e,q⟩:=ay q
   obtain⟨en,f1,f2⟩:=ti e5 e
   have hm:w.h.MapOf (strKind g.c.prog g.c.w) la (findBy (strKind g.c.prog g.c.w).is es):=⟨o,es,n,k.imm _ _ e1,e2,e4,λe m=>lh e5 e (Array.mem_toList_iff.mpr m),λq0=>rfl⟩
   refine .grow (.v a) k (λQ E z=>cb (s:=g.at w) (T:="dict") ⟨o,k.imm _ _ e1,e2.1⟩ F.slot_dict_getitem.lookup (wpAny_getItem_of (s:=g.at w) (knd:=strKind g.c.prog g.c.w) (k:=x) (v:=en.val) (beq_self_eq_true x) hm ?_ (z _ _ _ (.refl _) f2))) q
   unfold findBy
   rw[<-Array.find?_toList]
   exact congrArg (Option.map _) f1
  | tab D=>
   obtain⟨la,h₀,rfl,hK,hk⟩:=ro
   obtain⟨x,u,rfl,q⟩:=bE ri q
   obtain⟨a,e,q⟩:=ay q
   have T:=(hK.keep λb o z=>k.imm _ _ (hk b o z)) g.c.prog g.c.w
   obtain⟨_,kvs,⟨o,es,ep,ho,hc,_⟩,_⟩:=id T
   refine .grow (.v (.str a)) k (λQ E z=>cb (s:=g.at w) (T:="dict") ⟨o,ho,hc.1⟩ F.slot_dict_getitem.lookup (PyProof.Rows.getItem_tab (s:=g.at w) PyProof.V.same_int (intKind_is g.c.prog g.c.w x u) T (dv:=.str a) (by rw[KTD.lookup_keyed];exact qP e) λv hv=>?_)) q
   obtain⟨t',rfl⟩:=PyProof.V.Flat.str_inv hv
   exact z _ _ _ (.refl _) ⟨_,rfl⟩
  | _=>exact q.elim
 | loc i=>
  obtain⟨lo,e,q⟩:=ay q
  obtain⟨a,ha,rfl⟩:=ro
  cases lo with
  | list l=>obtain⟨vs,hv,r1⟩:=(show cm w.h a (a0 g.c.P w.I l)from k.loc _ _ _ ha e).list;exact jb k hv r1 ri q
  | _=>exact q.elim
 | _=>exact q.elim
theorem Ed{o:Op}{l u:Value}{lo hi:Option Int}(k:Ok g ρ w)(ro:bB g w o vo)(hl:IsPart l lo)(hu:IsPart u hi){sl:Addr}(hs:w.h.IsSliceOf sl l u .none)(q:Jl o lo hi w.S Q):ET g ρ w (kB value slice vo (.ref sl)) Q X:=by
 obtain⟨a,ro,q⟩:=a9 ro q
 cases a with
 | list x=>
  obtain⟨la,vs,rfl,h1,r1⟩:=b6 k.imm ro
  have e:(slicePick vs.toArray lo hi none)=(part vs lo hi).toArray:=by rw[<-jN,Array.toArray_toList]
  refine .mklist k (λQ E z=>cb (s:=g.at w) (Heap.IsList.typeIs (s:=g.at w) h1) slot_list_getitem.lookup (wpAny_getItem_list_slice (s:=g.at w) h1 hs hl hu .none nofun ?_ (by rw[List.size_toArray,ak r1];exact q.1))) (uN lo hi r1) q.2
  rw[e];exact z w.tk
 | oc kk x=>
  cases kk with
  | false=>
   obtain⟨b,t,rfl,rfl⟩:=ro
   have hp:(KBy.picked b lo hi).toList=part b.toList lo hi:=hZ b lo hi
   refine .grow (.v (.oc false (part b.toList lo hi))) k (λQ E z=>cb (s:=g.at w) (typeIs_bytes _ _ _) FB.slot_bytes_getitem.lookup (getItem_meets (typeIs_bytes _ _ _) (by decide) FB.slot_bytes_getitem FB.entry_bytes_getitem (FB.args_bytes_getitem_2 _ _) (KBc.meets_slice2 b t sl hl hu) ⟨hs,?_,λt' k'=>z _ _ _ (.refl _) ⟨_,t',rfl,hp⟩⟩)) q.2
   rw[<-Array.length_toList,hp]
   exact Nat.le_trans (oL _ _ _) q.1
  | true=>
   obtain⟨la,b,rfl,rfl,hb⟩:=BO.isBa k.imm ro
   exact .new (.oc true (part b.toList lo hi)) k (λQ E z=>cb (s:=g.at w) (ck.typeIs (s:=g.at w) hb) iy.lookup (kg (s:=g.at w) hl hu hb hs (Array.length_toList▸q.1) λb' hb'=>z _ (wB b') _ w.tk (.push _ _) (ax _) (Heap.get?_push_size _ rfl) (λq0=>nofun) λJ le i=>⟨_,_,b',rfl,i,rfl,rfl,hb'⟩)) q.2
 | _=>exact q.elim
end
def intsOf:List AV->(List Int->Prop)->Prop
 | [],K=>K []
 | a::r,K=>eL a λi=>intsOf r λl=>K (i::l)
def boolsOf:List AV->(List Bool->Prop)->Prop
 | [],K=>K []
 | a::r,K=>tD a λi=>boolsOf r λl=>K (i::l)
noncomputable def best(bt:Int->Int->Bool):List Int->Int
 | []=>0
 | x::r=>r.foldl (λa b=>bif bt b a then b else a) x
noncomputable abbrev ie(b a:Int):Bool:=decide (b>a)
noncomputable abbrev ltI(b a:Int):Bool:=decide (b<a)
noncomputable abbrev F0:List Int->Int:=best ltI
def gV(args:List Op)(K:Op->Prop):Prop:=match args with
 | [a]=>K a
 | _=>False
def IS(K:AV->Prop)(a:AV):Prop:=match a with
 |.list l=>l.length<=16777216/\K (.int l.length)
 |.str x=>x.cps.size<=16777216/\K (.int x.cps.size)
 |.oc _ l=>l.length<=16777216/\K (.int l.length)
 |.dict l=>l.length<=16777216/\K (.int l.length)
 | _=>False
def I7(K:AV->Prop)(lo:LO):Prop:=match lo with
 |.list l=>l.length<=16777216/\K (.int l.length)
 |.ba l=>l.length<=16777216/\K (.int l.length)
 | _=>False
def Ew(S:St)(K:AV->Prop)(a:Op):Prop:=match a with
 |.v a=>IS K a
 |.oct=>aP S.sh.oct λl=>l.length<=16777216/\K (.int l.length)
 |.loc k=>aP S.loc[k]? (I7 K)
 | _=>False
def xH(bt:Int->Int->Bool)(args:List Op)(K:AV->Prop):Prop:=match args with
 | [a]=>B9 a λl=>intsOf l λns=>Gd (!ns.isEmpty) (K (.int (best bt ns)))
 | [a,b]=>da a λa=>da b λb=>K (.int (bif bt b a then b else a))
 | _=>False
def all1(K:AV->Prop)(a:Op):Prop:=B9 a λl=>boolsOf l λbs=>K (.bool (bs.all id))
def HG(K:AV->Prop)(a:Op):Prop:=fc a λa=>match a with
 |.int i=>K (.int i)
 |.bool b=>K (.int (bif b then 1 else 0))
 | _=>False
def BL(K:AV->Prop)(a:Op):Prop:=fc a λa=>match a with
 |.int i=>K (.bool (!decide (i=0)))
 |.bool b=>K (.bool b)
 | _=>False
def list1(K:AV->Prop)(a:Op):Prop:=fc a λa=>match a with
 |.list l=>l.length<=16777216/\K (.list l)
 |.tuple l=>l.length<=16777216/\K (.list l)
 | _=>False
def tuple1(K:AV->Prop)(a:Op):Prop:=B9 a λl=>l.length<=16777216/\K (.tuple l)
def lR(b:Bi)(args:List Op)(S:St)(K:AV->Prop):Prop:=match b with
 |.len=>gV args (Ew S K)
 |.max=>xH ie args K
 |.min=>xH ltI args K
 |.all=>gV args (all1 K)
 | _=>False
def vY(t:Ty)(args:List Op)(K:AV->Prop):Prop:=match t with
 |.int=>gV args (HG K)
 |.bool=>gV args (BL K)
 |.list=>gV args (list1 K)
 |.tuple=>gV args (tuple1 K)
 | _=>False
theorem tG(bt:Int->Int->Bool)(f:Nat->Int)(k:Nat):f (argBest (λi j=>bt (f i) (f j)) k)=((List.range k).map λi=>f (i+1)).foldl (λa b=>bif bt b a then b else a) (f 0):=by
 induction k with
 | zero=>rfl
 | succ k ih=>
  rw[List.range_succ,List.map_append,List.foldl_append,<-ih]
  show f (if bt (f (k+1)) (f (argBest _ k))=true then k+1 else argBest _ k)=bif bt (f (k+1)) (f (argBest _ k))then f (k+1)else f (argBest _ k)
  cases bt (f (k+1)) (f (argBest (λi j=>bt (f i) (f j)) k))<;>rfl
theorem jA(xs:List (Int×Tok))(bt:Int->Int->Bool)(x:Int×Tok):numAt (x::xs).toArray (argBest (λi j=>bt (numAt (x::xs).toArray i) (numAt (x::xs).toArray j)) xs.length)=best bt ((x::xs).map (·.1)):=by
 refine(tG bt (numAt (x::xs).toArray) xs.length).trans ?_
 refine congrArg (List.foldl _ x.1) (List.ext_getElem (by simp) λi h1 h2=>?_)
 have:i<xs.length:=by simpa using h2
 simp[numAt,this]
section
variable {P:Params}{I:PH}{l:List AV}
inductive Hq(vs:List Value)(K:List Int->Prop):Prop
 | mk (xs:List (Int×Tok)) (e:vs=xs.map λp=>.int p.1 p.2) (k:K (xs.map (·.1)))
theorem pQ:∀{vs:List Value} {K:List Int->Prop},a0 P I l vs->intsOf l K->Hq vs K:=by
 induction l with
 | nil=>intro vs K r k;cases r;exact⟨[],rfl,k⟩
 | cons a l ih=>
  intro vs K r k
  obtain⟨v,vs,rfl,r,r'⟩:=r
  obtain⟨i,t,rfl,k⟩:=bD r k
  obtain⟨xs,rfl,k⟩:=ih r' k
  exact⟨(i,t)::xs,rfl,k⟩
theorem Ba:∀{vs:List Value} {K:List Bool->Prop},a0 P I l vs->boolsOf l K->∃bs:List Bool,vs=bs.map .bool/\K bs:=by
 induction l with
 | nil=>intro vs K r k;cases r;exact⟨[],rfl,k⟩
 | cons a l ih=>
  intro vs K r k
  obtain⟨v,vs,rfl,r,r'⟩:=r
  obtain⟨b,rfl,k⟩:=oZ r k
  obtain⟨bs,rfl,k⟩:=ih r' k
  exact⟨b::bs,rfl,k⟩
inductive CP(c:Cx)(I:PH)(l:List (Str×AV))(es:List DictEntry):Prop
 | mk (kvs:List (Str×Value)) (p:Pairs (strKind c.prog c.w) es kvs) (e:kvs.map (·.1)=l.map (·.1)) (r:a0 c.P I (l.map (·.2)) (kvs.map (·.2)))
theorem qc{c:Cx}{l:List (Str×AV)}:∀{es:List DictEntry},cH c.P I l es->CP c I l es:=by
 induction l with
 | nil=>intro es r;cases r;exact⟨[],.nil,rfl,rfl⟩
 | cons p l ih=>
  intro es r
  obtain⟨e,es,rfl,h,r⟩:=r
  obtain⟨kvs,ps,m,q⟩:=ih r
  have ke:=(h.is p.1).trans (Fast.sEq_iff.mpr rfl)
  obtain⟨t,_,_,r1⟩:=h
  exact⟨(p.1,e.val)::kvs,.cons ke rfl ps,congrArg (p.1:: ·) m,e.val,_,rfl,r1,q⟩
inductive Hn(c:Cx)(I:PH)(h:Heap)(a:Addr)(l:List (Str×AV)):Prop
 | mk (kvs:List (Str×Value)) (d:h.DictOf (strKind c.prog c.w) a kvs) (e:kvs.map (·.1)=l.map (·.1)) (r:a0 c.P I (l.map (·.2)) (kvs.map (·.2)))
theorem eT{c:Cx}{h:Heap}{a:Addr}{o:Obj}{l:List (Str×AV)}{es:Array DictEntry}{n:Nat}(e1:h.get? a=some o)(e2:o.ExactDict)(e4:o.data=.dict es n)(e5:cH c.P I l es.toList)(nd:(l.map (·.1)).Nodup):Hn c I h a l:=by
 obtain⟨kvs,p,m,q⟩:=qc e5
 exact⟨kvs,⟨o,es,n,e1,e2,e4,λe m=>lh e5 e (Array.mem_toList_iff.mpr m),p,by rw[m];exact nd⟩,m,q⟩
end
theorem nN{prog:Program}{wd:World}{A:Around}{E:Value->Shared->Prop}{s:Shared}{a:Addr}{b:Array UInt8}{Q:Value->Shared->Prop}(hb:ck s.heap a b)(hz:b.size<=16777216)(q:Q (.int (b.size:Int) (s.toks+1)) {s with toks:=s.toks+1+1}):
  wpAny (model prog wd) A (call (.builtin "len") [.ref a]) Q E s:=by
 have M:Meets (Builtin.«bytearray.__len__» ⟨[.ref a],[]⟩) (λq0 R s=>ck s.heap a b/\R (.ok (.ret (.int (b.size:Int) s.toks))) {s with toks:=s.toks+1}):=.of_wp λprog w A R s hS=>by
  unfold Builtin.«bytearray.__len__»
  refine wpAny_bind (m:=slotArgs "__len__" 0 ⟨[.ref a],[]⟩) (wpAny_of_eq (a:=(.ref a,[])) rfl (wpAny_bind (cO hS.1 ?_)))
  exact wpAny_bind (wpAny_mkInt (wpAny_pure ⟨_,rfl,hS.2⟩))
 exact call_len_meets hb.typeIs Ey lK (oU _) M (by exact Int.not_lt.mpr (uA 0x100000011)) (by omega) (λQ' h=>⟨hb,h⟩) q
section
variable {g:Fr}{ρ ρ':aa}{w w':W}{Q:AV->St->Prop}{X:aa->St->Prop}{v:Value}{args:List Op}{vs:List Value}
abbrev VT(g:Fr)(ρ:aa)(w:W)(t:Sem Value)(Q:AV->St->Prop)(X:aa->St->Prop):Prop:=ET g ρ w t (λo S=>fc o λa=>Q a S) X
inductive IY(g:Fr)(w:W)(vs:List Value)(K:Op->Prop):Prop
 | mk (a:Op) (v:Value) (e:vs=[v]) (r:bB g w a v) (k:K a)
theorem eJ{K:Op->Prop}(r:bN g w args vs)(k:gV args K):IY g w vs K:=by
 obtain _|⟨a,_|_⟩:=args
 ·exact k.elim
 ·obtain⟨u,_,rfl,r,rfl⟩:=r;exact⟨a,u,rfl,r,k⟩
 ·exact k.elim
theorem vF{n:Nat}(k:Ok g ρ w)(q:Q (.int n) w.S)(x:∀(Q:Value->Shared->Prop) (E:Value->Shared->Prop),(∀u tk,Q (.int (n:Int) u) (g.c.mk' w.h tk))->wpAny g.c.M g.A (call (.builtin "len") [v]) Q E (g.at w)):VT g ρ w (call (.builtin "len") [v]) Q X:=
 .int k x rfl q
theorem rC{la:Addr}{n:Nat}(k:Ok g ρ w)(e:vs.length=n)(hl:w.h.IsList la vs.toArray)(q:n<=16777216/\Q (.int n) w.S):VT g ρ w (call (.builtin "len") [.ref la]) Q X:=
 vF k q.2 λQ E z=>call_len_list (s:=g.at w) hl (by rw[List.size_toArray,e];have:=q.1;omega) (by rw[List.size_toArray,e];exact z _ _)
theorem l8{la:Addr}{b:Array UInt8}{l:List UInt8}(k:Ok g ρ w)(e:b.toList=l)(hl:ck w.h la b)(q:l.length<=16777216/\Q (.int l.length) w.S):VT g ρ w (call (.builtin "len") [.ref la]) Q X:=by
 subst e
 rw[Array.length_toList]at q
 exact vF k q.2 λQ E z=>nN (s:=g.at w) hl q.1 (z _ _)
theorem uT{a:Op}(k:Ok g ρ w)(r:bB g w a v)(q:Ew w.S (λa=>Q a w.S) a):VT g ρ w (call (.builtin "len") [v]) Q X:=by
 cases a with
 | v a=>
  cases a with
  | list l=>obtain⟨la,vs,rfl,h1,r1⟩:=b6 k.imm r;exact rC k (ak r1) h1 q
  | str x=>obtain⟨t,rfl⟩:=r;exact vF k q.2 λQ E z=>PyProof.Rows.len_str (by have:=q.1;show¬((x.cps.size:Nat):Int)>=_;omega) (z _ _)
  | oc kk l=>cases kk with
   | false=>
    obtain⟨b,t,rfl,rfl⟩:=r
    have q:b.toList.length<=16777216/\Q (.int b.toList.length) w.S:=q
    rw[Array.length_toList]at q
    exact vF k q.2 λQ E z=>len_bytes (by have:=q.1;omega) (z _ _)
   | true=>obtain⟨la,b,rfl,e,hb⟩:=BO.isBa k.imm r;exact l8 k e hb q
  | dict l=>
   obtain⟨la,o,es,n,rfl,e1,e2,e3,e4,e5,e6,e7⟩:=r
   obtain⟨kvs,hD,m,rr⟩:=eT (k.imm _ _ e1) e2 e4 e5 e6
   have len:kvs.length=l.length:=by have:=congrArg List.length m;rwa [List.length_map,List.length_map]at this
   have q:l.length<=16777216/\Q (.int l.length) w.S:=q
   exact vF k q.2 λQ E z=>by rw[<-len]at z;exact call_len_dict (s:=g.at w) e7 hD (by have:=q.1;omega) (z _ _)
  | _=>exact q.elim
 | oct=>
  obtain⟨l,e,q⟩:=ay q
  obtain⟨a,ha,r'⟩:=k.sh.oct l e
  obtain⟨a',ha',rfl⟩:=r
  cases aM ha ha'
  obtain⟨b,e,hb⟩:=r'.isBa
  exact l8 k e hb q
 | loc j=>
  obtain⟨lo,e,q⟩:=ay q
  obtain⟨a,ha,rfl⟩:=r
  cases lo with
  | list l=>obtain⟨vs,hv,r1⟩:=(show cm w.h a (a0 g.c.P w.I l)from k.loc _ _ _ ha e).list;exact rC k (ak r1) hv q
  | ba b=>obtain⟨b,e,hb⟩:=(show bU w.h a b from k.loc _ _ _ ha e).isBa;exact l8 k e hb q
  | _=>exact q.elim
 | _=>exact q.elim
theorem ET.intG{t:Sem Value}{i:Int}(k:Ok g ρ w)(q:Q (.int i) w.S)(x:∀(Q:Value->Shared->Prop) (E:Value->Shared->Prop),(∀v h' tk,Grows w.h h'->zO i v->Q v (g.c.mk' h' tk))->wpAny g.c.M g.A t Q E (g.at w)):VT g ρ w t Q X:=.grow (.v (.int i)) k x q
def qD(f:String)(bt:Int->Int->Bool):Prop:=∀(prog:Program) (wd:World) (A:Around) (E:Value->Shared->Prop) (s:Shared) (Q:Value->Shared->Prop),A.handled=none->
 (∀{a b:Int} {t u:Nat},(∀v h' tk,Grows s.heap h'->zO (bif bt b a then b else a) v->Q v {s with heap:=h',toks:=tk})->wpAny (model prog wd) A (call (.builtin f) [.int a t,.int b u]) Q E s)/\
 ∀{la:Addr} {xs:List (Int×Tok)},s.heap.IsList la (xs.map λp=>Value.int p.1 p.2).toArray->xs≠[]->(∀v h' tk,Grows s.heap h'->zO (best bt (xs.map (·.1))) v->Q v {s with heap:=h',toks:=tk})->wpAny (model prog wd) A (call (.builtin f) [.ref la]) Q E s
theorem xh{b:Bool}{p:Prop}[Decidable p]{x y:Value}(e:b=decide p):(if p then x else y)=bif b then x else y:=by
 rw[e];cases h:decide p with
 | true=>exact if_pos (of_decide_eq_true h)
 | false=>exact if_neg (of_decide_eq_false h)
theorem rZ{la:Addr}{xs:List (Int×Tok)}{h:Heap}(i:h.IsList la (xs.map λp=>Value.int p.1 p.2).toArray):h.IsList la (intItems xs.toArray):=by
 unfold intItems;rwa [List.map_toArray]
theorem Da:qD "max" ie:=λprog wd A E s Q hh=>⟨λ{a b t u} z=>max_two_ints hh λh' tk hk=>z _ h' tk hk (by
  rw[xh (b:=ie b a) rfl];cases ie b a<;>exact⟨_,rfl⟩),λ{la xs} hl ne z=>max_intList hh (rZ hl) (by rw[List.size_toArray];exact List.length_pos_iff.mpr ne) λv h' tk e hk=>z _ h' tk hk (by
  obtain⟨t,rfl⟩:=intItems_at e
  cases xs with
  | nil=>exact absurd rfl ne
  | cons x xs=>exact⟨t,congrArg (Value.int · t) (jA xs ie x)⟩)⟩
theorem Dh:qD "min" ltI:=λprog wd A E s Q hh=>⟨λ{a b t u} z=>min_two_ints hh λh' tk hk=>z _ h' tk hk (by
  rw[xh (b:=ltI b a) rfl];cases ltI b a<;>exact⟨_,rfl⟩),λ{la xs} hl ne z=>min_intList hh (rZ hl) (by rw[List.size_toArray];exact List.length_pos_iff.mpr ne) λv h' tk e hk=>z _ h' tk hk (by
  obtain⟨t,rfl⟩:=intItems_at e
  cases xs with
  | nil=>exact absurd rfl ne
  | cons x xs=>exact⟨t,congrArg (Value.int · t) (jA xs ltI x)⟩)⟩
theorem rX{f:String}{bt:Int->Int->Bool}(B:qD f bt)(k:Ok g ρ w)(ra:bN g w args vs)(q:xH bt args λa=>Q a w.S):VT g ρ w (call (.builtin f) vs) Q X:=by
 obtain _|⟨a,_|⟨b,_|_⟩⟩:=args
 ·exact q.elim
 ·obtain⟨u,_,rfl,r,rfl⟩:=ra
  obtain⟨l,la,vs,rfl,h1,r2,q⟩:=km k r q
  obtain⟨xs,rfl,q⟩:=pQ r2 q
  exact .intG k q.p λQ E z=>(B _ _ _ E (g.at w) Q k.fr.a.handled).2 h1 (λe=>by have:=q.e;rw[e]at this;cases this) z
 ·obtain⟨u,_,rfl,r1,v,_,rfl,r2,rfl⟩:=ra
  obtain⟨i,t,rfl,q⟩:=bE r1 q
  obtain⟨j,u,rfl,q⟩:=bE r2 q
  exact .intG k q λQ E z=>(B _ _ _ E (g.at w) Q k.fr.a.handled).1 z
 ·exact q.elim
theorem tV{s:Shared}{l:Addr}{h':Heap}(hk:∀b o,b∉[s.heap.objs.size]->(s.heap.push {cls:=.type "list_iterator",data:=.fields #[.ref l,.int 0 0]}).get? b=some o->h'.get? b=some o):Grows s.heap h':=λb o e=>
 hk b o (λm=>Nat.ne_of_lt (Heap.lt_size e) (List.mem_singleton.mp m)) (Heap.get?_push_of_some _ e)
theorem all_range(bs:List Bool):((List.range bs.length).all λi=>(bs[i]?).getD true)=bs.all id:=by
 induction bs with
 | nil=>rfl
 | cons b bs ih=>rw[List.length_cons,List.range_succ_eq_map,List.all_cons,List.all_map,List.all_cons,<-ih];rfl
theorem Du{a:Op}(k:Ok g ρ w)(r:bB g w a v)(q:all1 (λa=>Q a w.S) a):VT g ρ w (call (.builtin "all") [v]) Q X:=by
 obtain⟨l,la,vs,rfl,h1,r1,q⟩:=km k r q
 obtain⟨bs,rfl,q⟩:=Ba r1 q
 refine .grow (.v (.bool (bs.all id))) k (λQ E z=>?_) q
 have hlt:la≠w.h.objs.size:=by obtain⟨_,e,_⟩:=h1;exact Nat.ne_of_lt (Heap.lt_size e)
 refine call_all_walk (wpAny_pyIter_list (s:=g.at w) h1 ⟨_,_,_,_,_,_,λi=>(bs[i]?).getD true,rfl,Walks.list (A:=g.A.in1) k.fr.a.handled _ la hlt _,⟨⟨_,Heap.get?_push_size _ rfl,rfl,rfl⟩,h1.push _⟩,λi v s Q E hi hQ=>?_,λh' tk hk=>z _ h' tk (tV (s:=g.at w) hk) ?_⟩)
 ·have hi:(bs.map Value.bool).toArray[i]? =some v:=hi
  rw[List.getElem?_toArray,List.getElem?_map]at hi
  obtain⟨b,hb,rfl⟩:=Option.map_eq_some_iff.mp hi
  have hQ:Q ((bs[i]?).getD true) s:=hQ
  rw[hb]at hQ
  exact wpAny_truthy_bool hQ
 ·rw[List.size_toArray,List.length_map];exact congrArg Value.bool (all_range bs)
theorem DZ{a:Op}(k:Ok g ρ w)(r:bB g w a v)(q:HG (λa=>Q a w.S) a):VT g ρ w (call (.type "int") [v]) Q X:=by
 obtain⟨x,r,q⟩:=a9 r q
 cases x with
 | int i=>obtain⟨t,rfl⟩:=r;exact .int k (λQ E z=>call_int_int (z _ _)) rfl q
 | bool b=>cases r;exact .int k (λQ E z=>call_int_bool (z _ _)) (by cases b<;>rfl) q
 | _=>exact q.elim
theorem zQ{a:Op}(k:Ok g ρ w)(r:bB g w a v)(q:BL (λa=>Q a w.S) a):VT g ρ w (call (.type "bool") [v]) Q X:=by
 obtain⟨x,r,q⟩:=a9 r q
 cases x with
 | int i=>obtain⟨t,rfl⟩:=r;exact .bool k (λQ E z=>call_bool_int (z _)) (by unfold bne;rw[<-bV]) q
 | bool b=>cases r;exact .bool k (λQ E z=>call_bool_bool (z _)) rfl q
 | _=>exact q.elim
theorem sO{la:Addr}{o:Obj}{n:Nat}{T:String}{l:List AV}(k:Ok g ρ w)(hT:T="list" \/T="tuple")(ho:w.h.get? la=some o)(hc:o.cls=.type T)(hd:o.data=.seq vs.toArray n)(r:a0 g.c.P w.I l vs)(q:l.length<=16777216/\Q (.list l) w.S):VT g ρ w (call (.type "list") [.ref la]) Q X:=
 .new (.list l) k (λQ E z=>call_list_seq (s:=g.at w) la hT ho hc hd (λh' c' hk e=>z _ _ h' _ hk (ax _) e (λq0=>nofun) λJ le i=>⟨_,_,vs.toArray,c',rfl,i,rfl,rfl,bg le l r⟩) (by rw[List.size_toArray,ak r];exact q.1)) q.2
theorem l6{a:Op}(k:Ok g ρ w)(r:bB g w a v)(q:list1 (λa=>Q a w.S) a):VT g ρ w (call (.type "list") [v]) Q X:=by
 obtain⟨x,r,q⟩:=a9 r q
 cases x with
 | list l=>obtain⟨la,vs,rfl,⟨o,ho,hc,n,hd⟩,r1⟩:=b6 k.imm r;exact sO k (.inl rfl) ho hc hd r1 q
 | tuple l=>obtain⟨la,vs,rfl,h,r1⟩:=jQ k.imm r;exact sO k (.inr rfl) h rfl rfl r1 q
 | _=>exact q.elim
theorem wY{a:Op}(k:Ok g ρ w)(r:bB g w a v)(q:tuple1 (λa=>Q a w.S) a):VT g ρ w (call (.type "tuple") [v]) Q X:=by
 obtain⟨l,la,vs,rfl,h1,r1,q⟩:=km k r q
 exact .new (.tuple l) k (λQ E z=>call_tuple_list (s:=g.at w) h1 (λh' hk=>z _ (oa vs) _ w.tk (λb o e=>Heap.get?_push_of_some _ (hk b o e)) (g8 (λo e=>dG (hk _ _ e)) (ax h')) (Heap.get?_push_size _ rfl) (λq0=>nofun) λJ le i=>⟨_,_,rfl,i,bg le l r1⟩) (by rw[List.size_toArray,ak r1];exact q.1)) q.2
theorem gW{b:Bi}(k:Ok g ρ w)(ra:bN g w args vs)(q:lR b args w.S λa=>Q a w.S):VT g ρ w (call (.builtin b.id) vs) Q X:=by
 cases b with
 | len=>obtain⟨a,v,rfl,r,q⟩:=eJ ra q;exact uT k r q
 | max=>exact rX Da k ra q
 | min=>exact rX Dh k ra q
 | all=>obtain⟨a,v,rfl,r,q⟩:=eJ ra q;exact Du k r q
 | _=>exact q.elim
theorem gU{t:Ty}(k:Ok g ρ w)(ra:bN g w args vs)(q:vY t args λa=>Q a w.S):VT g ρ w (call (.type t.name) vs) Q X:=by
 cases t with
 | int=>obtain⟨a,v,rfl,r,q⟩:=eJ ra q;exact DZ k r q
 | bool=>obtain⟨a,v,rfl,r,q⟩:=eJ ra q;exact zQ k r q
 | list=>obtain⟨a,v,rfl,r,q⟩:=eJ ra q;exact l6 k r q
 | tuple=>obtain⟨a,v,rfl,r,q⟩:=eJ ra q;exact wY k r q
 | _=>exact q.elim
end
noncomputable def kd:AV->Option Ty
 |.none=>some .other
 |.bool _=>some .bool
 |.int _=>some .int
 |.str _=>some .str
 |.oc false _=>some .bytes
 |.list _=>some .list
 |.dict _=>some .dict
 | _=>none
noncomputable def dZ:Ty->Bool
 |.bool|.int|.str|.bytes|.list|.dict=>true
 | _=>false
noncomputable def Ty.cn:Ty->String
 |.other=>"NoneType" |.bool=>"bool" |.int=>"int" |.str=>"str" |.bytes=>"bytes" |.list=>"list" |.dict=>"dict" |_=>""
noncomputable def Ty.nr:Ty->Nat
 |.int=>0|.bool=>1|.str=>2|.bytes=>3|.ba=>4|.list=>5|.dict=>6|.tuple=>7|.range=>8|.enumerate=>9|.super=>10|.typeErr=>11|.other=>12
noncomputable def under(K T:Ty):Bool:=Nat.beq K.nr T.nr||(Nat.beq K.nr 1&&Nat.beq T.nr 0)
noncomputable def AD(n:Nat):AV->Bool
 |.ty t=>Nat.beq t.nr n
 | _=>false
noncomputable def Fj:List AV->Bool
 | [a,b]=>AD 3 a&&AD 4 b
 | _=>false
noncomputable def FI:AV->Bool
 |.oc _ _=>true
 | _=>false
def Jc(a b:AV)(K:Bool->Prop):Prop:=match b with
 |.ty T=>Gd (dZ T) (aP (kd a) λt=>K (under t T))
 |.tuple l=>Gd (Fj l&&FI a) (K true)
 | _=>False
def HL(args:List Op)(K:Bool->Prop):Prop:=mJ args λa b=>fc a λa=>fc b λb=>Jc a b K
theorem Cg{T:Ty}(h:dZ T=true):typeOf (.type T.name)=pure (.type "type"):=by
 cases T<;>first|(exact(Bool.false_ne_true h).elim)|kernel_rfl
noncomputable def six:List Ty:=[.bool,.int,.str,.bytes,.list,.dict]
theorem sj{T:Ty}(h:dZ T=true):T∈six:=by
 have:∃i:Nat,six[i]? =some T:=by cases T<;>first|exact(Bool.false_ne_true h).elim|exact⟨0,rfl⟩|exact⟨1,rfl⟩|exact⟨2,rfl⟩|exact⟨3,rfl⟩|exact⟨4,rfl⟩|exact⟨5,rfl⟩
 exact List.mem_of_getElem? this.choose_spec
noncomputable def Lo(K T:Ty):Bool:=((fastBuiltinMro K.cn).any λmro=>mro.contains (.type T.name)==under K T)&&(under K T|| !((Value.type K.cn)==Value.type T.name))
theorem Jx:((.other::six).all λK=>six.all λT=>Lo K T)=true:=by kernel_rfl
theorem Kt{K T:Ty}(hK:dZ K=true\/K=.other)(h:dZ T=true):Lo K T=true:=
 List.all_eq_true.mp (List.all_eq_true.mp Jx K (hK.elim (λh=>.tail _ (sj h)) λe=>e▸ .head _)) T (sj h)
theorem F3{K T:Ty}(hK:dZ K=true\/K=.other)(h:dZ T=true):isSubtype (.type K.cn) (.type T.name)=pure (under K T):=by
 obtain⟨mro,e,k⟩:=any_some (Bool.and_eq_true_iff.mp (Kt hK h)).1
 rw[isSubtype_type,e]
 exact congrArg pure (beq_iff_eq.mp k)
theorem NB{K T:Ty}(h:dZ T=true)(hK:dZ K=true\/K=.other)(u:under K T=false):((Value.type K.cn)==Value.type T.name)=false:=by
 have k:=(Bool.and_eq_true_iff.mp (Kt hK h)).2
 rw[u]at k
 exact(Bool.not_eq_true' _).mp k
theorem dH{b:Array UInt8}{u:Tok}{T:String}(hne:(Value.type "bytes" ==Value.type T)=false)(hty:typeOf (.type T)=pure (.type "type"))(hsub:isSubtype (.type "bytes") (.type T)=pure false):
  Meets (Builtin.«isinstance» ⟨[.bytes b u,.type T],[]⟩) (λq0 R s=>R (.ok (.ret (.bool false))) {s with toks:=s.toks+1}):=
 λq0 q1 q2 q3 s hs=>by
  obtain⟨h,g,d,t,os⟩:=s
  exact isinstance_outer (isinstance_nested_false_bytes hne hty hsub hs)
theorem sF:Slot "bytearray" "__getattribute__" "bytearray.__getattribute__":=
 .of (owner:="bytearray") (n:="__getattribute__") (by rw[typeLookup_type,builtinLookup_eq_fast];kernel_rfl) (by decide +kernel) (by decide +kernel) (by decide +kernel) (by first|exact .inl (by decide +kernel)|exact .inr (by decide +kernel)) (by rw[isSubtype_type];kernel_rfl)
theorem qu(a b:Value):argsOk "bytearray.__getattribute__" ⟨[a,b],[]⟩:=by
 unfold argsOk;rw[signature?_of (id:="bytearray.__getattribute__") (n:="__getattribute__".toList.reverse) (o:=['y','a','r','r','a','e','t','y','b']) (by kernel_rfl) eM];kernel_rfl
theorem oy:entryFor table "bytearray.__getattribute__" =some Builtin.«object.__getattribute__»:=entryFor_alias (id':="object.__getattribute__") (by kernel_rfl) (by first|rfl|decide +kernel) (by decide +kernel) (by kernel_rfl)
theorem vU:typeLookup (.type "bytearray") "__class__" =pure (some (.builtin "object.__class__")):=by rw[typeLookup_type,builtinLookup_eq_fast];kernel_rfl
theorem js:isSubtype (.type "bytearray") (.type (".".intercalate ("object.__class__".cutAt '.').dropLast))=pure true:=by rw[F.owner_object_class,isSubtype_type];kernel_rfl
section
variable {prog:Program}{w:World}{A:Around}{E:Value->Shared->Prop}{h:Heap}{g:Array GenState}{d:Drawn}{t:Nat}{os:OsState}{a:Addr}{o:Obj}
theorem tA{R:Result->Shared->Prop}(hx:h.get? a=some o)(hc:o.cls=.type "bytearray")(hq:R (.ok (.ret (.type "bytearray"))) ⟨h,g,d,t,os⟩):
  codeAny (model prog w) A (.call (.builtin "getset_descriptor.__get__") ⟨[.builtin "object.__class__",.ref a,.type "bytearray"],[]⟩) R ⟨h,g,d,t,os⟩:=by
 have hT:(⟨h,g,d,t,os⟩:Shared).TypeIs (.ref a) "bytearray":=⟨_,hx,hc⟩
 have hT5:(⟨h,g,d,t,os⟩:Shared).TypeIs (.builtin "object.__class__") "getset_descriptor":=F.typeOf_object_class
 have f8:=js
 refine codeAny_call_builtin F.slot_gs_get.plain F.entry_gs_get (F.slot_gs_get.check _ _ _ _ _ _ _ _ hT5 (F.args_gs_get _ _ _) ?_)
 repeat(any_goals (first|assumption|wp_step))
 refine⟨Code.quiet_builtin _ (by decide +kernel),codeAny_builtin F.entry_object_class ?_⟩
 repeat(any_goals (first|assumption|wp_step))
theorem tM{tk:Tok}{R:Result->Shared->Prop}(hx:h.get? a=some o)(hc:o.cls=.type "bytearray")(hq:R (.ok (.ret (.type "bytearray"))) ⟨h,g,d,t,os⟩):
  codeAny (model prog w) A (.call (.builtin "bytearray.__getattribute__") ⟨[.ref a,.str "__class__" tk],[]⟩) R ⟨h,g,d,t,os⟩:=by
 have hT:(⟨h,g,d,t,os⟩:Shared).TypeIs (.ref a) "bytearray":=⟨_,hx,hc⟩
 refine codeAny_call_builtin sF.plain oy (sF.check _ _ _ _ _ _ _ _ hT (qu _ _) ?_)
 have hT5:(⟨h,g,d,t,os⟩:Shared).TypeIs (.builtin "object.__class__") "getset_descriptor":=F.typeOf_object_class
 have f4:=vU
 have f5:=F.typeOf_object_class
 have f6:=F.slot_gs_get.lookup
 have f7:=F.slot_gs_set.lookup
 repeat(any_goals (first|assumption|wp_step))
 refine tA hx hc ?_
 repeat(any_goals (first|assumption|wp_step))
theorem tQ{Q:Option Value->Shared->Prop}(hx:h.get? a=some o)(hc:o.cls=.type "bytearray")(hq:Q (some (.type "bytearray")) ⟨h,g,d,t+1,os⟩):wpAny (model prog w) A (getAttr? (.ref a) "__class__") Q E ⟨h,g,d,t,os⟩:=by
 have by':∀{tk:Tok} {t':Nat} {Q:Value->Shared->Prop} {A:Around} {E:Value->Shared->Prop},Q (.type "bytearray") ⟨h,g,d,t',os⟩->wpAny (model prog w) A (getAttrBy (.ref a) (.str "__class__" tk) false) Q E ⟨h,g,d,t',os⟩:=λ{tk t' Q A E} hq=>by
  have hT:(⟨h,g,d,t',os⟩:Shared).TypeIs (.ref a) "bytearray":=⟨_,hx,hc⟩
  have f2:=sF.lookup
  have f3:=sF.bind (.ref a)
  repeat(any_goals (first|assumption|wp_step))
  refine tM hx hc ?_
  repeat(any_goals (first|assumption|wp_step))
 unfold getAttr? getAttrBy?
 repeat(any_goals (first|assumption|with_reducible apply by'|wp_step))
theorem EV{T:String}{dep:Int}{tk:Tok}{Q:Fin->Shared->Prop}(hx:h.get? a=some o)(hc:o.cls=.type "bytearray")(hne:(Value.type "bytearray" ==Value.type T)=false)(hty:typeOf (.type T)=pure (.type "type"))
  (hsub:isSubtype (.type "bytearray") (.type T)=pure false) (hq:Q (.done (.ret (.bool false))) ⟨h,g,d,t+1,os⟩):wpAny (model prog w) A (Builtin.«isinstance.nested» ⟨[.ref a,.type T,.int dep tk],[]⟩) Q E ⟨h,g,d,t,os⟩:=by
 have hT:(⟨h,g,d,t,os⟩:Shared).TypeIs (.ref a) "bytearray":=⟨_,hx,hc⟩
 have by':∀{A:Around} {E:Value->Shared->Prop} {Q:Option Value->Shared->Prop},Q (some (.type "bytearray")) ⟨h,g,d,t+1,os⟩->wpAny (model prog w) A (getAttr? (.ref a) "__class__") Q E ⟨h,g,d,t,os⟩:=λq=>tQ hx hc q
 repeat(any_goals (first|assumption|with_reducible apply by'|wp_step))
end
theorem iW{a:Addr}{T:String}(hne:(Value.type "bytearray" ==Value.type T)=false)(hty:typeOf (.type T)=pure (.type "type"))(hsub:isSubtype (.type "bytearray") (.type T)=pure false):
  Answers (λs=>s.TypeIs (.ref a) "bytearray") (.ref a) (.type T) false:=
 λq0 q1 q2 q3 q4 q5 s hs=>by
  obtain⟨h,g,d,t,os⟩:=s
  obtain⟨⟨o,hx,hc⟩,hq⟩:=hs
  exact EV hx hc hne hty hsub (hq (t+1))
theorem jg{b:Array UInt8}{u:Tok}{T:String}(hne:(Value.type "bytes" ==Value.type T)=false)(hty:typeOf (.type T)=pure (.type "type"))(hsub:isSubtype (.type "bytes") (.type T)=pure false):
  Answers (λs=>s.TypeIs (.bytes b u) "bytes") (.bytes b u) (.type T) false:=
 λq0 q1 q2 q3 q4 q5 s hs=>by
  obtain⟨h,g,d,t,os⟩:=s
  exact isinstance_nested_false_bytes hne hty hsub (hs.2 (t+1))
section
variable {g:Fr}{ρ ρ':aa}{w w':W}{Q:AV->St->Prop}{X:aa->St->Prop}{v:Value}{args:List Op}{vs:List Value}
noncomputable abbrev A1(v T:Value):Sem Value:=call (.builtin "isinstance") [v,T]
theorem yH{P:Params}{I:PH}{n:Nat}{s:String}{a:AV}(h:∀t:Ty,Nat.beq t.nr n=true->t.name=s)(r:rep P I a v)(k:AD n a=true):v=.type s:=by
 cases a with
 | ty t=>rw[<-h t k];exact r
 | _=>exact absurd k Bool.false_ne_true
theorem DY{P:Params}{I:PH}{l:List AV}(r:a0 P I l vs)(k:Fj l=true):vs=[.type "bytes",.type "bytearray"]:=by
 obtain _|⟨a,_|⟨b,_|_⟩⟩:=l
 ·cases k
 ·cases k
 ·obtain⟨v1,_,rfl,t2,v2,_,rfl,t3,rfl⟩:=r
  have k:=Bool.and_eq_true_iff.mp k
  rw[yH (s:="bytes") (λt h=>by cases t<;>first|rfl|exact absurd h Bool.false_ne_true) t2 k.1,yH (s:="bytearray") (λt h=>by cases t<;>first|rfl|exact absurd h Bool.false_ne_true) t3 k.2]
 ·cases k
theorem qY{t:Sem Value}{b:Bool}(k:Ok g ρ w)(q:Q (.bool b) w.S)(x:∀(Q:Value->Shared->Prop) (E:Value->Shared->Prop),(∀tk,Q (.bool b) (g.c.mk' w.h tk))->wpAny g.c.M g.A t Q E (g.at w)):VT g ρ w t Q X:=.bool k x rfl q
theorem Ai{a:AV}{l:List AV}{u:Value}(k:Ok g ρ w)(ra:rep g.c.P w.I a v)(rb:rep g.c.P w.I (.tuple l) u)(e:(Fj l&&FI a)=true)(q:Q (.bool true) w.S):VT g ρ w (A1 v u) Q X:=by
 obtain⟨lb,ws,rfl,h2,t1⟩:=jQ k.imm rb
 have e:=Bool.and_eq_true_iff.mp e
 rw[DY t1 e.1]at h2
 cases a with
 | oc kk b=>
  refine qY k q λQ E z=>?_
  cases kk with
  | true=>
   obtain⟨la,o,b,rfl,e1,e2,_⟩:=ra
   exact IsiPair.tupleOf (s:=g.at w) (Tx:="bytearray") (cs:=[.type "bytes",.type "bytearray"]) (vs:=[false,true]) (.cons (iW (by decide +kernel) (by kernel_rfl) (by rw[isSubtype_type];kernel_rfl)) (.cons (.of_true (by kernel_rfl) su) .nil)) ⟨o,k.imm _ _ e1,e2⟩ h2 z
  | false=>
   obtain⟨b,t,rfl,_⟩:=ra
   exact IsiPair.tupleOf (s:=g.at w) (Tx:="bytes") (cs:=[.type "bytes",.type "bytearray"]) (vs:=[true,false]) (.cons (.of_true (by kernel_rfl) AK) (.cons (jg (by decide +kernel) (by kernel_rfl) (by rw[isSubtype_type];kernel_rfl)) .nil)) rfl h2 z
 | _=>exact nomatch e.2
theorem cN{K T:Ty}(h6:dZ T=true)(hK:dZ K=true\/K=.other)(k:Ok g ρ w)(hT:(g.at w).TypeIs v K.cn)
  (no:((Value.type K.cn)==Value.type T.name)=false->isSubtype (.type K.cn) (.type T.name)=pure false->∀(Q:Value->Shared->Prop) (E:Value->Shared->Prop),(∀tk,Q (.bool false) (g.c.mk' w.h tk))->wpAny g.c.M g.A (A1 v (.type T.name)) Q E (g.at w))
  (q:Q (.bool (under K T)) w.S):VT g ρ w (A1 v (.type T.name)) Q X:=by
 cases u:under K T with
 | true=>rw[u]at q;exact qY k q λQ E z=>call_isinstance (isinstance_true (Cg h6) (by rw[F3 hK h6,u])) ⟨hT,z _⟩
 | false=>rw[u]at q;exact qY k q (no (NB h6 hK u) (by rw[<-u];exact F3 hK h6))
theorem A2{a:AV}{T:Ty}(h6:dZ T=true)(k:Ok g ρ w)(r:rep g.c.P w.I a v)(q:aP (kd a) λt=>Q (.bool (under t T)) w.S):VT g ρ w (A1 v (.type T.name)) Q X:=by
 have m:=Cg h6
 cases a with
 | none=>cases r;exact cN h6 (.inr rfl) k rfl (λne sub Q E z=>call_isinstance (isinstance_false_none ne m sub) (z _)) q
 | bool b=>cases r;exact cN (K:=.bool) h6 (.inl rfl) k rfl (λne sub Q E z=>call_isinstance (isinstance_false_bool ne m sub) (z _)) q
 | int b=>obtain⟨t,rfl⟩:=r;exact cN (K:=.int) h6 (.inl rfl) k rfl (λne sub Q E z=>call_isinstance (isinstance_false_int ne m sub) (z _)) q
 | str b=>obtain⟨t,rfl⟩:=r;exact cN (K:=.str) h6 (.inl rfl) k rfl (λne sub Q E z=>call_isinstance (isinstance_false_str ne m sub) (z _)) q
 | oc kk b=>cases kk with
  | false=>obtain⟨x,t,rfl,_⟩:=r;exact cN (K:=.bytes) h6 (.inl rfl) k rfl (λne sub Q E z=>call_isinstance (dH ne m sub) (z _)) q
  | true=>exact q.elim
 | list b=>
  obtain⟨la,o,x,n,rfl,e1,e2,_⟩:=r
  have t:(g.at w).TypeIs (.ref la) "list":=⟨o,k.imm _ _ e1,e2⟩
  exact cN (K:=.list) h6 (.inl rfl) k t (λne sub Q E z=>call_isinstance (isinstance_false_list ne m sub) ⟨t,z _⟩) q
 | dict b=>
  obtain⟨la,o,x,n,rfl,e1,e2,_⟩:=r
  have t:(g.at w).TypeIs (.ref la) "dict":=⟨o,k.imm _ _ e1,e2.1⟩
  exact cN (K:=.dict) h6 (.inl rfl) k t (λne sub Q E z=>call_isinstance (isinstance_false_dict ne m sub) ⟨t,z _⟩) q
 | _=>exact q.elim
theorem zU(k:Ok g ρ w)(ra:bN g w args vs)(q:HL args λb=>Q (.bool b) w.S):VT g ρ w (call (.builtin "isinstance") vs) Q X:=by
 obtain⟨a,b,v,u,rfl,r1,r2,q⟩:=ia ra q
 obtain⟨x,r1,q⟩:=a9 r1 q
 obtain⟨y,r2,q⟩:=a9 r2 q
 cases y with
 | ty T=>cases r2;exact A2 (Gd.e q) k r1 (Gd.p q)
 | tuple l=>exact Ai k r1 r2 (Gd.e q) (Gd.p q)
 | _=>exact q.elim
end
theorem mI:typeLookup (.type "int") "__bytes__" =pure none:=by rw[typeLookup_type,builtinLookup_eq_fast];kernel_rfl
theorem hV:typeLookup (.type "bytearray") "__bytes__" =pure none:=by rw[typeLookup_type,builtinLookup_eq_fast];kernel_rfl
theorem nq:typeLookup (.type "bytearray") "__index__" =pure none:=by rw[typeLookup_type,builtinLookup_eq_fast];kernel_rfl
theorem mH:typeLookup (.type "bytes") "__bytes__" =pure (some (.builtin "bytes.__bytes__")):=by rw[typeLookup_type,builtinLookup_eq_fast];kernel_rfl
section
variable {prog:Program}{w:World}{A:Around}{E:Value->Shared->Prop}{s:Shared}
theorem fg{α:Type}{M:Model}{c:Bool}{a b:Sem α}{Q:α->Shared->Prop}(hc:c=false)(h:wpAny M A b Q E s):wpAny M A (if c=true then a else b) Q E s:=by
 subst hc;exact h
theorem w7{α:Type}{M:Model}{c:Bool}{a b:Sem α}{Q:α->Shared->Prop}(hc:c=true)(h:wpAny M A a Q E s):wpAny M A (if c=true then a else b) Q E s:=by
 subst hc;exact h
theorem gA{x:Value}{Q:Value->Shared->Prop}(h:wpAny (model prog w) A.in1 (Builtin.«bytes.__new__» ⟨[.type "bytes",x],[]⟩) (λfin s'=>match fin with|.done f=>wants Q E (.ok f) s'|.again c'=>c'.quiet=true/\codeAny (model prog w) A c' (wants Q E) s') (λe s'=>wants Q E (.error e) s') s):
  codeAny (model prog w) A (.call (.builtin "bytes.__new__") ⟨[.type "bytes",x],[]⟩) (wants Q E) s:=by
 refine codeAny_of_tree ?_
 show wpAny _ A.in1 (checkBuiltinCall "bytes.__new__" ⟨[.type "bytes",x],[]⟩ >>=λq0=>again (.builtin "bytes.__new__" ⟨[.type "bytes",x],[]⟩)) _ _ s
 refine wpAny_bind (wpAny_of_eq (F.bm_newCall _) (wpAny_pure ⟨plainId_quiet F.bm_plain _,codeAny_builtin F.bm_entry ?_⟩))
 rw[Around.under_plainId F.bm_plain _]
 exact h
theorem iL{x:Value}{b:Array UInt8}{Q:Value->Shared->Prop}(hnew:∀{Q:Value->Shared->Prop} {A:Around},(∀t k,Q (.bytes b t) {s with toks:=k})->codeAny (model prog w) A (.call (.builtin "bytes.__new__") ⟨[.type "bytes",x],[]⟩) (wants Q E) s)
  (q:∀t k,Q (.bytes b t) {s with toks:=k}):wpAny (model prog w) A (call (.type "bytes") [x]) Q E s:=by
 refine callType_codes (Q₁:=λobj s₁=>s₁.TypeIs obj "bytes" /\Q obj s₁) F.bm_called (F.bm_typeCall _) F.entry_object_init (hnew λt k=>⟨PySem.W.typeIs_bytes _ _ _,q t k⟩) λobj s₁ h₁=>?_
 exact⟨h₁.1,F.args_object_init_2 obj _,object_init_meets F.bm_called.init.lookup F.bm_called.made (by decide) prog w A.in1 _ s₁ ⟨h₁.1,rfl,h₁.2⟩⟩
theorem uy{n:Int}{t:Tok}{Q:Value->Shared->Prop}(h0:0<=n)(h1:n<=16777216)(q:∀t k,Q (.bytes (Array.replicate n.toNat 0) t) {s with toks:=k}):wpAny (model prog w) A (call (.type "bytes") [.int n t]) Q E s:=by
 refine iL (b:=Array.replicate n.toNat 0) (λ{Q A} q=>gA ?_) q
 unfold Builtin.«bytes.__new__»
 refine wpAny_bind (wpAny_of_eq (a:=true) rfl ?_)
 refine fg rfl ?_
 refine wpAny_bind (wpAny_of_eq F.bm_sub ?_)
 refine fg rfl ?_
 refine wpAny_bind (wpAny_of_eq (F.bm_bind _) ?_)
 refine wpAny_bind (wpAny_of_eq (a:=()) rfl ?_)
 refine wpAny_bind (wpAny_of_eq (a:=()) rfl ?_)
 refine fg rfl ?_
 refine wpAny_bind (wpAny_specialOf (typeIs_int s n t) mI ?_)
 refine wpAny_bind (wpAny_of_eq (a:=false) rfl ?_)
 refine fg rfl ?_
 refine wpAny_bind (wpAny_specialOf (typeIs_int s n t) F.slot_int_index.lookup ?_)
 refine fg rfl ?_
 refine wpAny_bind (wpAny_attempt (oQ ?_))
 have f1:(!Builtin.Bytes.fitsIndex n)=false:=by
  have:Builtin.Bytes.fitsIndex n=true:=by simp only[Builtin.Bytes.fitsIndex,Bool.and_eq_true,decide_eq_true_eq];omega
  rw[this];rfl
 refine fg f1 ?_
 show wpAny _ _ (if n<0 then _ else _) _ _ _
 rw[if_neg (by exact Int.not_lt.mpr (uI 0x4400000000800d h0))]
 show wpAny _ _ (if n>2^63-34 then _ else _) _ _ _
 rw[if_neg (by omega)]
 have f2:Builtin.Bytes.tooLong n.toNat=false:=decide_eq_false (by show¬n.toNat>2^24;exact Nat.not_lt.mpr (uK 0x400000100000017ffd00000040000d h1 (cV (n) (uI 0x4400000000800d h0))))
 refine fg f2 ?_
 refine wpAny_bind (wpAny_rule ?_)
 refine wpAny_bind (wpAny_mkBytes (wpAny_of_eq (a:=Fin.done (.ret (.bytes (Array.replicate n.toNat 0) s.toks))) rfl (q _ _)) (by rw[Array.size_replicate];show n.toNat<=2^24;exact uK 0x400000100000017ffd00000040000d h1 (cV (n) (uI 0x4400000000800d h0))))
theorem oP{b:Array UInt8}{t:Tok}{Q:Value->Shared->Prop}(q:∀t k,Q (.bytes b t) {s with toks:=k}):wpAny (model prog w) A (call (.type "bytes") [.bytes b t]) Q E s:=by
 refine iL (b:=b) (λ{Q A} q=>gA ?_) q
 unfold Builtin.«bytes.__new__»
 refine wpAny_bind (wpAny_of_eq (a:=true) rfl ?_)
 refine fg rfl ?_
 refine wpAny_bind (wpAny_of_eq F.bm_sub ?_)
 refine fg rfl ?_
 refine wpAny_bind (wpAny_of_eq (F.bm_bind _) ?_)
 refine wpAny_bind (wpAny_of_eq (a:=()) rfl ?_)
 refine wpAny_bind (wpAny_of_eq (a:=()) rfl ?_)
 refine fg rfl ?_
 refine wpAny_bind (wpAny_specialOf (typeIs_bytes s b t) mH ?_)
 refine wpAny_bind (wpAny_rule ?_)
 refine wpAny_bind (wpAny_typeOf (typeIs_bytes s b t) ?_)
 refine w7 rfl ?_
 exact wpAny_of_eq (a:=Fin.done (.ret (.bytes b t))) rfl (q _ s.toks)
theorem yV{a:Addr}{b:Array UInt8}{Q:Value->Shared->Prop}(h:ck s.heap a b)(hz:b.size<=16777216)(q:∀t k,Q (.bytes b t) {s with toks:=k}):wpAny (model prog w) A (call (.type "bytes") [.ref a]) Q E s:=by
 refine iL (b:=b) (λ{Q A} q=>gA ?_) q
 have hT:=h.typeIs
 obtain⟨o,ho,hc,hd⟩:=id h
 unfold Builtin.«bytes.__new__»
 refine wpAny_bind (wpAny_of_eq (a:=true) rfl ?_)
 refine fg rfl ?_
 refine wpAny_bind (wpAny_of_eq F.bm_sub ?_)
 refine fg rfl ?_
 refine wpAny_bind (wpAny_of_eq (F.bm_bind _) ?_)
 refine wpAny_bind (wpAny_of_eq (a:=()) rfl ?_)
 refine wpAny_bind (wpAny_of_eq (a:=()) rfl ?_)
 refine fg rfl ?_
 refine wpAny_bind (wpAny_specialOf hT hV ?_)
 refine wpAny_bind (wpAny_bind ?_)
 show wpAny _ _ (load a >>= _) _ _ _
 refine wpAny_bind (wpAny_load ho ?_)
 rw[hd]
 refine wpAny_pure (wpAny_pure ?_)
 refine fg rfl ?_
 refine wpAny_bind (wpAny_specialOf hT nq ?_)
 refine w7 rfl ?_
 have own:∀{n:String} {id:String} {Q:Bool->Shared->Prop} {E:Value->Shared->Prop},typeLookup (.type "bytearray") (n:Str)=pure (some (.builtin id))->(!id.endsWith ("." ++n))=false->(∀{A:Around} {Q:Bool->Shared->Prop} {E:Value->Shared->Prop},Q true s->wpAny (model prog w) A (isInstance (.ref a) (.type (id.dropRight (n.length+1)))) Q E s)->Q true s->wpAny (model prog w) A.in1 (Builtin.Bytes.slotIsOwn (.ref a) n) Q E s:=λhl he hi q=>by
  unfold Builtin.Bytes.slotIsOwn
  refine wpAny_bind (wpAny_specialOf hT hl ?_)
  dsimp only
  rw[he]
  exact hi q
 have own1:∀{Q:Bool->Shared->Prop} {E:Value->Shared->Prop},Q true s->wpAny (model prog w) A.in1 (Builtin.Bytes.slotIsOwn (.ref a) "__buffer__") Q E s:=λq=>
  own eV (by decide +kernel) (λq=>wpAny_isInstance (T:="bytearray") (b:=true) hT (by rw[isSubtype_type];kernel_rfl) q) q
 have rel:∀{Q:Bool->Shared->Prop} {E:Value->Shared->Prop},Q false s->wpAny (model prog w) A.in1 (Builtin.Bytes.ownRelease (.ref a)) Q E s:=λq=>by
  unfold Builtin.Bytes.ownRelease
  exact wpAny_bind (own qM (by decide +kernel) (λq=>wpAny_isInstance (T:="bytearray") (b:=true) hT (by rw[isSubtype_type];kernel_rfl) q) (wpAny_pure q))
 first
  | show wpAny _ _ (Builtin.Bytes.buffer? "bytes.__new__" (.ref a) true >>= _) _ _ _
  | (refine wpAny_bind ?_;show wpAny _ _ (Builtin.Bytes.buffer? "bytes.__new__" (.ref a) true >>= _) _ _ _)
 refine wpAny_bind ?_
 unfold Builtin.Bytes.buffer?
 refine wpAny_bind (wpAny_specialOf hT eV ?_)
 refine wpAny_bind (own1 ?_)
 show wpAny _ _ (specialOf (.ref a) "__buffer__" >>= _) _ _ _
 refine wpAny_bind (wpAny_specialOf hT eV ?_)
 refine wpAny_bind (rel ?_)
 show wpAny _ _ (Builtin.Bytes.payload (.ref a) >>= _) _ _ _
 refine wpAny_bind (cO h (wpAny_pure ?_))
 refine wpAny_bind (wpAny_rule ?_)
 refine wpAny_bind (wpAny_mkBytes ?_ hz)
 exact wpAny_of_eq (a:=Fin.done (.ret (.bytes b s.toks))) rfl (q _ _)
end
noncomputable def leB(k:Nat)(x:Int):List UInt8:=(KTBy.little k x).map λd=>d.toNat.toUInt8
noncomputable def iE(l:List UInt8):Int:=KFB.value (l.map λd=>(d.toNat:Int)).reverse
theorem rg(b:List UInt8):(b.map λc=>((c.toNat:Nat):Int)).map (λd=>d.toNat.toUInt8)=b:=by
 rw[List.map_map]
 refine(List.map_congr_left λc q0=>?_).trans (List.map_id b)
 show((c.toNat:Int)).toNat.toUInt8=c
 simp
section
variable {prog:Program}{w:World}{A:Around}{E:Value->Shared->Prop}{s:Shared}
theorem tb{a:Addr}{b:Array UInt8}{u:Tok}{P:Fin->Shared->Prop}(hb:ck s.heap a b)(hl:b.size<=8)(h:P (.done (.ret (.int (iE b.toList) s.toks))) {s with toks:=s.toks+1}):
  wpAny (model prog w) A (Builtin.«int.from_bytes» ⟨[.type "int",.ref a,.str (PySem.Str.ofString "little") u],[]⟩) P E s:=by
 have hv:((b.toList.reverse.foldl (λ(acc:Nat) (b:UInt8)=>acc*256+b.toNat) 0:Nat):Int)=iE b.toList:=by
  unfold iE KFB.value
  rw[KFB.fold_cast,List.map_reverse]
  rfl
 have hn:b.toList.reverse.foldl (λ(acc:Nat) (b:UInt8)=>acc*256+b.toNat) 0<2^64:=by
  have h1:=KFB.fold_lt b.toList.reverse 0
  rw[Nat.zero_add,Nat.one_mul,List.length_reverse,Array.length_toList]at h1
  have h2:256^b.size<=256^8:=Nat.pow_le_pow_right (by decide) hl
  omega
 have hT:=hb.typeIs
 obtain⟨⟨cl,di,dt,sl⟩,ho,hc,hd⟩:=id hb
 dsimp only at hc hd
 subst hc hd
 unfold Builtin.«int.from_bytes»
 refine wpAny_bind (wpAny_of_eq (a:=true) KFB.type_int ?_)
 refine fg rfl ?_
 refine wpAny_bind (wpAny_of_eq (a:=true) F.conv_sub_int ?_)
 refine fg rfl ?_
 refine wpAny_bind (wpAny_of_eq (a:=[some (.ref a),some (.str (PySem.Str.ofString "little") u),none]) (by kernel_rfl) ?_)
 refine wpAny_bind (wpAny_of_eq (a:=PySem.Str.ofString "little") (by kernel_rfl) ?_)
 refine wpAny_bind (wpAny_of_eq (a:=false) rfl ?_)
 refine wpAny_bind (wpAny_of_eq (a:=true) (by kernel_rfl) ?_)
 refine wpAny_bind (wpAny_mono (Q:=λr s'=>r=b/\s'=s) (E:=E) ?_ (λr s' hr=>?_) λq0 q1 z=>z)
 ·show wpAny _ _ (specialOf (.ref a) "__bytes__" >>= _) _ _ _
  refine wpAny_bind (wpAny_specialOf hT hV ?_)
  have f1:=eV
  have f2:=qM
  have f3:=su
  repeat(any_goals (first|assumption|exact⟨rfl,rfl⟩|wp_step))
 ·obtain⟨rfl,rfl⟩:=hr
  show wpAny _ _ (mkIntGrown (r.toList.reverse.foldl (λ(acc:Int) (b:UInt8)=>acc*256+(b.toNat:Int)) ((0:Nat):Int)) >>=λv=>_) _ _ _
  rw[KFB.foldI_eq]
  refine wpAny_bind (KFB.grown hn ?_)
  rw[hv]
  refine w7 (by decide +kernel) ?_
  exact wpAny_bind (wpAny_pure (wpAny_pure h))
theorem AG{x a:Addr}{b:Array UInt8}{u:Tok}{Q:Value->Shared->Prop}(ho:s.heap.get? x=some KFB.bound)(hb:ck s.heap a b)(hl:b.size<=8)(h:Q (.int (iE b.toList) s.toks) {s with toks:=s.toks+1}):
  wpAny (model prog w) A (call (.ref x) [.ref a,.str (PySem.Str.ofString "little") u]) Q E s:=by
 refine wpAny_call (codeAny_of_tree ?_)
 show wpAny _ A.in1 (callAny (.ref x) ⟨[.ref a,.str (PySem.Str.ofString "little") u],[]⟩) _ _ s
 delta callAny
 dsimp only
 refine wpAny_bind (wpAny_load ho ?_)
 delta KFB.bound
 dsimp only
 refine w7 (by decide) ?_
 refine w7 (by decide) ?_
 refine wpAny_bind (wpAny_of_eq (a:=()) (by first|kernel_rfl|rfl) ?_)
 exact wpAny_bind (wpAny_pure (wpAny_pure ⟨KFB.quiet_fb,codeAny_builtin KFB.entry_fb (tb hb hl h)⟩))
theorem wi{K:Frag}{pl:Sem Bool}{Q:Value×List Value->Shared->Prop}(X:K.In s.heap)
  (e:findCls K (.type "int") (.type "type") (PySem.Str.ofString "from_bytes")=some (.get (.builtin "classmethod_descriptor.__get__") (.builtin "int.from_bytes") .none (.type "int")))
  (h:Q (.ref s.heap.objs.size,[]) {s with heap:=s.heap.push KFB.bound,toks:=s.toks+1}):wpAny (model prog w) A (getMethod (.type "int") (PySem.Str.ofString "from_bytes") pl) Q E s:=by
 have L0:Looks (model prog w) s.heap (typeOf (.type "int")) (.type "type"):=Looks.of_pure (by first|rfl|kernel_rfl)
 have hg:findIn K (.type "type") "__getattribute__" =some (some (.builtin "type.__getattribute__")):=type_tga
 have hs:opaqueClassAbove (.type "int")=pure none:=by unfold opaqueClassAbove;dsimp only;rw[show Manifest.isStub "int" =false by decide +kernel];rfl
 unfold getMethod specialOf
 refine wpAny_bind (wpAny_bind (L0.here ((looks_findIn X hg).here ?_)))
 dsimp only
 rw[if_pos canon_tga]
 refine wpAny_bind (wpAny_mono (Q:=λv=>Q (v,[])) (E:=E) ?_ (λq0 q1 z=>wpAny_pure z) λq0 q1 z=>z)
 refine cls_open X (Looks.of_pure hs) L0 hg (looks_hook X (r:=none) (by rfl)) (by show subIn K _ _=_;rfl) e ?_
 show wpAny _ _ (holding [.builtin "int.from_bytes"] (call (.builtin "classmethod_descriptor.__get__") [.builtin "int.from_bytes",.none,.type "int"]) >>=λv=>ret v) _ _ _
 exact wpAny_bind (wpAny_holding (wpAny_call_entry KFB.slot_get KFB.type_fb KFB.entry_get (KFB.run_get ⟨_,rfl,wpAny_pure (wpAny_pure h)⟩) (KFB.args_get _ _ _)))
end
def Cn(o:Op)(K:AV->Prop):Prop:=fc o λa=>yu a λq0 l=>l.length<=8/\K (.int (iE l))
def Lr(args:List Op)(K:AV->Prop):Prop:=match args with
 | [x,k,y]=>da x λx=>da k λk=>toS y λy=>Gd (Fast.sEq y (PySem.Str.ofString "little")) (0<=k/\k<=8/\0<=x/\x<256^k.toNat/\K (.oc false (leB k.toNat x)))
 | _=>False
section
variable {g:Fr}{ρ ρ':aa}{w w':W}{Q:AV->St->Prop}{X:aa->St->Prop}{v:Value}{args:List Op}{vs:List Value}
theorem vn{x:Addr}{o:Op}{u:Tok}(k:Ok g ρ w)(hx:w.h.get? x=some KFB.bound)(ro:bB g w o v)(q:Cn o λa=>Q a w.S):VT g ρ w (call (.ref x) [v,.str (PySem.Str.ofString "little") u] []) Q X:=by
 obtain⟨a,r,q⟩:=a9 ro q
 obtain⟨kk,l,r,q⟩:=sH r q
 refine .intG k q.2 λQ E z=>?_
 cases kk with
 | false=>
  obtain⟨b,t,rfl,rfl⟩:=r
  exact KFB.call_of (s:=g.at w) hx (λz=>KFB.tree_little (Array.length_toList▸q.1) z) (z _ _ _ (.refl _) ⟨_,rfl⟩)
 | true=>
  obtain⟨a,b,rfl,rfl,hb⟩:=BO.isBa k.imm r
  exact AG (s:=g.at w) hx hb (Array.length_toList▸q.1) (z _ _ _ (.refl _) ⟨_,rfl⟩)
theorem EM(k:Ok g ρ w)(ra:bN g w args vs)(q:Lr args λa=>Q a w.S):VT g ρ w (call (.builtin "int.to_bytes") vs []) Q X:=by
 obtain _|⟨x,_|⟨n,_|⟨y,_|_⟩⟩⟩:=args
 ·exact q.elim
 ·exact q.elim
 ·exact q.elim
 ·obtain⟨_,_,rfl,r1,_,_,rfl,r2,_,_,rfl,r3,rfl⟩:=ra
  obtain⟨x,t,rfl,q⟩:=bE r1 q
  obtain⟨n,u,rfl,q⟩:=bE r2 q
  obtain⟨y,t2,rfl,q⟩:=fw r3 q
  obtain⟨k0,k1,k2,k3,q'⟩:=q.p
  cases Fast.sEq_iff.mp q.e
  refine .grow (.v (.oc false (leB n.toNat x))) k (λQ E z=>?_) q'
  rw[<-Int.toNat_of_nonneg k0]
  exact KTBy.to_little (s:=g.at w) (by exact uK 0x2080000017ffc00000840000d k1 (cV (n) (uI 0x4400000000800d k0))) rfl k2 k3 λb t' k' hb q0=>z _ _ k' (.refl _) ⟨b,t',rfl,(rg b.toList).symm.trans (congrArg (List.map _) hb)⟩
 ·exact q.elim
end
section
variable {prog:Program}{w:World}{A:Around}{E:Value->Shared->Prop}{s:Shared}{K:Frag}{x C dx:Addr}{ox:Obj}{es:List DictEntry}{n:Nat}{name:Str}{v:Value}
theorem wt{tk:Tok}{R:Result->Shared->Prop}(X:K.In s.heap)(I:InstAt s.heap x ox C (some (dictOf es n)))(hd:ox.dict=some dx)(D:s.heap.get? dx=some (dictOf es n))
  (hp:plainOver K C=true) (ht:takerIn K C name=some none) (hh:hasDictIn K C=true) (hl:(getL name es).isSome=true) (hz:es.length<1000)
  (h:∀h' t,h'.get? dx=some (dictOf (putL name (PyData.keyHash w.params name) (.str name t) v es) (putN name es n))->Heap.SameBut dx s.heap h'->R (.ok (.ret .none)) {s with heap:=h',toks:=s.toks+1}):
  codeAny (model prog w) A (.call (.builtin "object.__setattr__") ⟨[.ref x,.str name tk,v],[]⟩) R s:=by
 refine osa_open X I hp ht λb=>?_
 refine bp λGG1 hG1=>?_
 obtain⟨cd,hc,hd'⟩:=any_some hh
 have pe:∀t,Obj.putName name (PyData.keyHash w.params name) (.str name t) v (dictOf es n)=dictOf (putL name (PyData.keyHash w.params name) (.str name t) v es) (putN name es n):=λt=>putName_dict ..
 have D':∀t,(s.heap.update dx (Obj.putName name (PyData.keyHash w.params name) (.str name t) v)).get? dx=some (dictOf (putL name (PyData.keyHash w.params name) (.str name t) v es) (putN name es n)):=λt=>by
  rw[<-pe];exact Heap.get?_update_self _ D (by rw[pe];rfl)
 have len:∀t,(putL name (PyData.keyHash w.params name) (.str name t) v es).length<=es.length+1:=λt=>by
  clear pe D' D I h hl hz
  induction es with
  | nil=>exact Nat.le_refl _
  | cons e r ih=>
   show(if e.key.isStr name then _::r else e::putL _ _ _ _ r:List DictEntry).length<=_
   by_cases z:e.key.isStr name=true
   ·rw[if_pos z];exact Nat.le_succ _
   ·rw[if_neg z];exact Nat.succ_le_succ ih
 obtain⟨hx,hcl,hn,-⟩:=I
 obtain⟨oc,odi,oda,osl⟩:=ox
 refine hG1 ?_
 dsimp only at hcl hd
 subst hcl hd
 refine wpAny_bind (wpAny_pure (wpAny_bind (wpAny_bind (wpAny_loadPart hx (wpAny_bind ((looks_clsIn X hc).here ?_))))))
 rw[hd']
 refine wpAny_pure (a:=some dx) (wpAny_bind (wpAny_pure (wpAny_bind ?_)))
 unfold nsSet
 refine wpAny_bind (wpAny_bind (wpAny_askSetting (wpAny_pure (wpAny_bind (wpAny_mkText (wpAny_bind (wpAny_loadPart D ?_)))))))
 have c:(!es.toArray.any (·.key.isStr name)&&es.toArray.any (·.refKey))=false:=by
  rw[<-Array.any_toList,<-Array.any_toList,List.toList_toArray]
  delta getL at hl
  cases he:es.find? (·.key.isStr name)with
  | some en=>rw[List.any_eq_true.mpr ⟨en,List.mem_of_find?_eq_some he,List.find?_some he⟩];rfl
  | none=>
   rw[he]at hl
   have hl:(if es.any (·.refKey)then none else some none:Option (Option Value)).isSome=true:=hl
   cases z:es.any (·.refKey)with
   | true=>rw[z]at hl;cases hl
   | false=>exact Bool.and_false _
 dsimp only
 rw[aRefKeyMayBeTheName_at,c]
 refine wpAny_updatePart D ?_
 refine wpAny_bind (wpAny_lookBehind (D' _) (pastItsLine_dict (by rw[List.size_toArray,sizeLine_eq];have:=len s.toks;exact uB 0x94000001310012018800300003e840900c00c hz this)) ?_)
 exact wpAny_pure (h _ _ (D' _) (Heap.SameBut.update ..))
theorem wJ{Q:Unit->Shared->Prop}(X:K.In s.heap)(I:InstAt s.heap x ox C (some (dictOf es n)))(hd:ox.dict=some dx)(D:s.heap.get? dx=some (dictOf es n))
  (hs:findIn K (.ref C) "__setattr__" =some (some (.builtin "object.__setattr__"))) (hp:plainOver K C=true) (ht:takerIn K C name=some none) (hh:hasDictIn K C=true) (hl:(getL name es).isSome=true) (hz:es.length<1000)
  (h:∀h' t,h'.get? dx=some (dictOf (putL name (PyData.keyHash w.params name) (.str name t) v es) (putN name es n))->Heap.SameBut dx s.heap h'->Q () {s with heap:=h',toks:=s.toks+2}):
  wpAny (model prog w) A (setAttr (.ref x) name v) Q E s:=
 set_plain X I hs (wt (s:={s with toks:=s.toks+1}) X I hd D hp ht hh hl hz λh' t e sb=>h h' t e sb)
end
structure qp(c:Cx)(C:Addr)(name:Str):Prop where
 p:plainGet c.K C name=true
 d:hasDictIn c.K C=true
structure mT(c:Cx)(C:Addr)(name:Str):Prop extends qp c C name where
 n:findIn c.K (.ref C) name=some none
 cp:copiedNames.contains name=false
 s:findIn c.K (.ref C) "__setattr__" =some (some (.builtin "object.__setattr__"))
 po:plainOver c.K C=true
 t:takerIn c.K C name=some none
inductive u0(c:Cx)(C:Addr)(name:Str)(f:Addr):Prop
 | mk (a:qp c C name) (p:Addr) (rest:List Value) (h:findIn c.K (.ref C) name=some (some (.ref p))) (s:specialIn c.K (.ref p) "__get__" =some (some (.builtin "property.__get__"))) (t:takesIn c.K (.ref p)=some true) (r:recIn c.K p "property" =some (.ref f::rest))
structure lP(c:Cx)(C:Addr)(name:Str)(f:Addr):Prop extends qp c C name where
 h:findIn c.K (.ref C) name=some (some (.ref f))
 i:isFn c.K (.ref f)=true
 k:keepIn c.K (.ref f)=true
 fn:fnIn c.K f=true
inductive DD(c:Cx)(C:Addr)(name:Str)(f:Addr):Prop
 | mk (mc:Value) (p:Addr) (rest:List Value) (t:typeIn c.K (.ref C)=some mc) (r:readsIn c.K C mc=true) (h:findCls c.K (.ref C) mc name=some (.get (.builtin "staticmethod.__get__") (.ref p) .none (.ref C))) (i:recIn c.K p "staticmethod" =some (.ref f::rest))
  (s:specialIn c.K (.ref C) "__getattribute__" =some (some (.builtin "type.__getattribute__"))) (k:keepIn c.K (.ref f)=true)
inductive BU(c:Cx)(C:Addr)(name:Str)(a:AV):Prop
 | mk (mc v:Value) (t:typeIn c.K (.ref C)=some mc) (r:readsIn c.K C mc=true) (h:findCls c.K (.ref C) mc name=some (.val v)) (hd:handedIn v=true) (i:∀I,rep c.P I a v)
def Cs(c:Cx)(C:Addr)(name:Str):CA->Prop
 |.field=>mT c C name
 |.prop f=>u0 c C name f
 |.meth f=>lP c C name f
 |.stat f=>DD c C name f
 |.val a=>BU c C name a
theorem sX:isSubtype (.type "TypeError") (.type "AttributeError")=pure false:=by rw[isSubtype_type];kernel_rfl
noncomputable def Op.isV:Op->Bool
 |.v _=>true
 | _=>false
structure qj(c:Cx)(C f:Addr):Prop where
 m:makesIn c.K C=true
 i:findIn c.K (.ref C) "__init__" =some (some (.ref f))
 t:typeIn c.K (.ref f)=some (.type "function")
def CB(C:Addr)(S:St)(Q:Op->St->Prop)(av:AV)(sh:Sh):Prop:=match av with
 |.none=>aP sh.slf λfs=>Q (.v (.inst C fs)) {S with sh:={sh with slf:=S.sh.slf}}
 | _=>False
section
variable {P:Params}{I:PH}{v:Value}
theorem iX{a:AV}(r:rep P I a v):handedIn v=true:=by
 cases a with
 | int i=>obtain⟨_,rfl⟩:=r;rfl
 | str i=>obtain⟨_,rfl⟩:=r;rfl
 | oc k i=>cases k with
  | true=>obtain⟨_,_,_,rfl⟩:=r;rfl
  | false=>obtain⟨_,_,rfl⟩:=r;rfl
 | list i=>obtain⟨_,_,_,_,rfl⟩:=r;rfl
 | tuple i=>obtain⟨_,_,rfl⟩:=r;rfl
 | dict i=>obtain⟨_,_,_,_,rfl⟩:=r;rfl
 | inst i=>obtain⟨_,_,_,_,_,_,rfl⟩:=r;rfl
 | bi i=>cases r;cases i<;>decide +kernel
 | tab i=>obtain⟨_,_,rfl⟩:=r;rfl
 | _=>cases r;rfl
inductive yU(P:Params)(I:PH)(name:Str)(es:List DictEntry):Option AV->Prop
 | some (a:AV) (v:Value) (e:getL name es=some (some v)) (r:rep P I a v):yU P I name es (some a)
 | none (e:getL name es=some none):yU P I name es none
theorem gK{name:Str}{l:List (Str×AV)}:∀{es:List DictEntry},cH P I l es->yU P I name es (a7 l name):=by
 induction l with
 | nil=>intro es h;cases h;exact .none rfl
 | cons p r ih=>
  intro es h
  obtain⟨e,es',rfl,h1,h2⟩:=h
  have ke:e.key.isStr name=Fast.sEq p.1 name:=by obtain⟨t,e2,_⟩:=h1;rw[e2,dO];rfl
  have kr:e.refKey=false:=by obtain⟨t,e2,_⟩:=h1;unfold DictEntry.refKey;rw[e2]
  show yU P I name (e::es') (bif Fast.sEq p.1 name then some p.2 else a7 r name)
  have gl:getL name (e::es')=bif Fast.sEq p.1 name then some (some e.val)else getL name es':=by
   unfold getL
   rw[List.find?_cons,ke,List.any_cons,kr,Bool.false_or]
   cases Fast.sEq p.1 name<;>rfl
  cases w:Fast.sEq p.1 name with
  | true=>rw[w]at gl;obtain⟨t,_,_,r1⟩:=h1;exact .some _ _ gl r1
  | false=>
   rw[w]at gl
   have z:=ih h2
   show yU P I name (e::es') (a7 r name)
   cases q:a7 r name with
   | none=>rw[q]at z;cases z with|none e=>exact .none (gl.trans e)
   | some a=>rw[q]at z;cases z with|some a v e r=>exact .some a v (gl.trans e) r
end
section
variable {g:Fr}{ρ ρ':aa}{w w':W}{Q:Op->St->Prop}{X:aa->St->Prop}{v:Value}{args:List Op}{vs:List Value}{x C dx:Addr}{ox od:Obj}{name:Str}{ex:Bool}
theorem iz{h:Heap}(hx:h.get? x=some ox)(hc:ox.cls=.ref C)(hd:ox.dict=some dx)(hp:ox.data=.plain)(ho:h.get? dx=some od):InstAt h x ox C (some od):=⟨hx,hc,by unfold notCls;rw[hp],by rw[hd];exact ho⟩
theorem vP{l:List (Str×AV)}{es:Array DictEntry}{n:Nat}{a:AV}(k:Ok g ρ w)(f:mT g.c C name)(I:InstAt w.h x ox C (some od))(hod:od.data=.dict es n)(r:cH g.c.P w.I l es.toList)(e:a7 l name=some a)(q:Q (.v a) w.S):ET g ρ w (getAttr (.ref x) name ex) Q X:=by
 have z:=gK (name:=name) r
 rw[e]at z
 cases z with|some _ v e1 r1=>
 have ll:lookIn name od=some (some v):=by unfold lookIn;rw[hod];exact e1
 exact .grow (.v a) k (λQ E z=>get_value (s:=g.at w) k.kin I (plainGet_of f.p).1 (findObj_own f.d f.n rfl ll) (iX r1) (z v _ _ (.refl _) r1)) q
theorem yI{a:AV}(k:Ok g ρ w)(f:BU g.c C name a)(q:Q (.v a) w.S):ET g ρ w (getAttr (.ref C) name ex) Q X:=by
 obtain⟨mc,v,t,r,h,hd,i⟩:=f
 exact .grow (.v a) k (λQ E z=>cls_value (s:=g.at w) k.kin r h hd (z v _ _ (.refl _) (i _))) q
theorem z9{M:Model}{A:Around}{E:Value->Shared->Prop}{s:Shared}{h0:Heap}{e o nm:Value}{Q:Unit->Shared->Prop}(x:AU h0 s.heap e)(q:Q () s):wpAny M A (noteIf true o nm e) Q E s:=by
 obtain⟨a,oe,vs,T,oT,ts,rfl,_,he,hc,_⟩:=x
 show wpAny M A (noteAttr (.ref a) o nm) Q E s
 unfold noteAttr
 refine wpAny_bind ?_
 unfold lacksNameAndObj
 exact wpAny_bind (wpAny_isInstance (T:="TypeError") ⟨oe,he,hc⟩ sX (wpAny_pure (wpAny_pure q)))
theorem gu.in1{A:Around}{n:Nat}{all:List Env}(a:gu A (n+1) all):gu A.in1 n all:=⟨a.handled,by have:=a.depth;show A.depth+n+1<_;omega,by have:=a.units;show A.units+1+16*(n+1)<_;omega,a.frames⟩
theorem AO{op:Op}{f:Addr}{n:Nat}(k:Ok g ρ w)(a:gu g.A (n+1) g.all)(p:u0 g.c C name f)(I:InstAt w.h x ox C (some od))(nl:op.noloc=true)(ro:bB g w op (.ref x))
  (q:ae g.c.soft n f [op] [] w.S.sh (λav sh=>Q (.v av) {w.S with sh:=sh}) (λsh=>X ρ {w.S with sh:=sh})):ET g ρ w (getAttr (.ref x) name ex) Q X:=λQ' E z1 z2=>by
 obtain⟨pc,p,rest,h,s,t,r⟩:=p
 obtain⟨g1,g2⟩:=plainGet_of pc.p
 refine .of <| get_bind (s:=g.at w) k.kin I g1 (findObj_data (by obtain⟨cd,hc,_⟩:=any_some pc.d;rw[hc];rfl) h s t) g2 (wpAny_call (prop_get (s:=g.c.mk' w.h (w.tk+1)) k.kin r ?_))
 refine aC.any (q.run g.A.in1 g.all g.sl w.I w.h (w.tk+1) [.ref x] [] _ a.in1 k.toC ⟨_,_,rfl,(by cases op<;>first|exact ro|cases nl),rfl⟩ rfl λr s' i=>?_)
 cases i with
 | ok t c r q=>
  show wpAny _ _ (handedOut _) _ _ _
  rw[handedOut_of (iX r)]
  exact wpAny_pure (z1 _ _ (.back k t c) ⟨.v _,r,q⟩)
 | ex t c x q=>exact z9 x (z2 _ _ (.back k t c) (.inr x) q)
theorem Nx.lent{h2 h':Heap}{I J:PH}{sl:Sl}{sh:Sh}{S':St}{tk:Nat}(k:Ok g ρ w)(e:Grows w.h h2)(hI:bb w.I I)(hN:∀a o,I a=some o->w.I a=some o\/w.h.get? a=none)(lent:∀a∈sl.as,(a∈w.loc\/a∈g.sl.as)\/w.h.get? a=none)
  (xsI:∀a∈g.xs w.loc,I a=none) (t:tR g.all sl I h2 J h') (c:fH g.c.P g.c.H0 g.all sl sh J h') (len:S'.loc.length=w.S.loc.length)
  (hloc:∀(i:Nat) (a:Addr) (lo:LO),w.loc[i]? =some a->S'.loc[i]? =some lo->(a∉sl.as/\w.S.loc[i]? =some lo)\/cy g.c.P J h' a lo) (hsh:d7 g.c.P g.sl S'.sh J h'):Nx g ρ w ⟨J,w.loc,S',h',tk⟩:=by
 have le:bb w.I J:=hI.trans t.le
 have nx:∀a,a∈g.xs w.loc->J a=none:=λa m=>Option.eq_none_iff_forall_ne_some.mpr λo z=>(t.new a o z).elim (λq=>sn q (xsI a m)) λq=>(k.live a m).elim λq0 e'=>sn (e _ _ e') q
 have own:∀a∈g.own,a∉sl.as:=λa m z=>(lent a z).elim (λz=>k.own_l m (List.mem_append.mpr z)) λz=>k.new_xs z (Fr.mo m)
 refine⟨⟨le,λa o z=>(t.new a o z).elim (λz=>(hN a o z).imp_right .inl) λz=>.inr (.inl (e.none z)),λa o z=>?_,λq0=>.inl⟩,List.prefix_refl _,
  k.fr,c.base,c.imm,c.nof,k.nodup,nx,k.vars.mono (fs:=bh g.all) (xs:=sl.as) le (List.prefix_refl _) (λa o q0 z=>t.kept a o (e a o z)) own,λi a lo e1 e2=>?_,len.trans k.len,hsh,λa m=>?_,c.frames,k.fapart,c.fI⟩
 ·cases t.kept a o (e a o z)with|mk o' e' l=>exact⟨o',e',λn=>l λm=>(lent a m).elim (λm=>n (show a∈w.loc++g.sl.as from List.mem_append.mpr m)) λm=>sn z m⟩
 ·refine(hloc i a lo e1 e2).elim (λhh=>hh.casesOn λn e3=>(k.loc i a lo e1 e3).mono le λo z=>?_) id
  cases t.kept a o (e a o z)with|mk o' e' l=>exact(l n).eq (k.loc_f (List.mem_of_getElem? e1))▸e'
 ·obtain⟨o,z⟩:=k.live a m
  cases t.kept a o (e a o z)with|mk o' e' l=>exact⟨o',e'⟩
theorem yb{P:Params}{sl sl':Sl}{I J:PH}{loc loc':List Addr}(le:bb I J):∀{l:List Op} {vs:List Value},l.all Op.isV=true->oprs P sl I loc l vs->oprs P sl' J loc' l vs:=by
 intro l
 induction l with
 | nil=>exactλq0 h=>h
 | cons o r ih=>
  intro vs n h
  have n:=Bool.and_eq_true_iff.mp n
  refine h.mono (λv h=>?_) λq0=>ih n.2
  cases o with
  | v a=>exact bY le a h
  | _=>exact nomatch n.1
theorem Ok.size(k:Ok g ρ w):3<w.h.objs.size:=by
 obtain⟨o,_,_,e,_⟩:=g.c.g
 exact Heap.lt_size (k.keep0 _ _ e)
theorem Ok.not_sys(k:Ok g ρ w)(n:w.h.get? x=none)(m:w.h.objs.size<=x):(x==sysModules)=false:=beq_eq_false_iff_ne.mpr λ(e:x=1)=>by
 have h:=k.size
 have m:w.h.objs.size<=1:=e▸m
 omega
theorem TE.make{n:Nat}{f:Addr}(k:Ok g ρ w)(a:gu g.A (n+1) g.all)(m:qj g.c C f)(av:args.all Op.isV=true)(ra:bN g w args vs)
  (q:ae g.c.soft n f (.slf C::args) [] {w.S.sh with slf:=some []} (CB C w.S Q) (λsh=>X ρ {w.S with sh:={sh with slf:=w.S.sh.slf}})):ET g ρ w (PySem.call (.ref C) vs []) Q X:=λQ' E z1 z2=>by
 let dx:=w.h.objs.size
 let x:=dx+1
 let h1:=w.h.push emptyDict
 let h2:=h1.push (instObj C dx)
 have sz1:h1.objs.size=x:=Heap.size_push _ _
 have e:Grows w.h h2:=(Grows.push w.h _).trans (Grows.push h1 _)
 have nd:w.h.get? dx=none:=ax w.h
 have nx:w.h.get? x=none:=Heap.get?_none_of_le (Nat.le_succ _)
 have d2:h2.get? dx=some emptyDict:=Heap.get?_push_of_some _ (Heap.get?_push_size _ rfl)
 have x2:h2.get? x=some (instObj C dx):=sz1▸Heap.get?_push_size h1 rfl
 have xd:dx≠x:=Nat.ne_of_lt (Nat.lt_succ_self _)
 let sl:Sl:={g.sl with slf:=some dx}
 let I:=pI w.I x (instObj C dx)
 have le:bb w.I I:=bC (k.new_I nx)
 have nI:∀b,b≠x->I b=w.I b:=λb n=>i8 _ _ n
 have inS:∀{b},b∈sl.as->b=dx\/(b∈g.sl.as/\g.sl.slf≠some b):=λ{b} m=>(Sl.mem.mp m).elim (λm=>.inr ⟨Sl.mem.mpr (.inl m),((Sl.nd k.sl_nd).1 m).2⟩) λm=>m.elim (λm=>.inr ⟨Sl.mem.mpr (.inr (.inl m)),(Sl.nd k.sl_nd).2 m⟩) λm=>.inl (Option.some.inj m).symm
 have K1:Ok g ρ {w with I:=I,h:=h2}:=(k.grows w.tk e).freeze x2 (k.new_I nx) (k.new_xs nx) (λq0=>nofun) (k.new_f nx)
 have ns:∀b∈g.sl.as,b≠dx:=λb m z=>k.new_xs nd (z▸Fr.ms m)
 have kC:fH g.c.P g.c.H0 g.all sl {w.S.sh with slf:=some []} I h2:=by
  refine⟨K1.base,K1.imm,K1.nof,?_,λb m=>(inS m).elim (λq=>q▸(nI _ xd).trans (k.new_I nd)) λq=>K1.apart b (Fr.ms q.1),⟨λb q=>K1.sh.oct b q,λb q=>K1.sh.drw b q,λb q=>⟨dx,rfl,?_⟩⟩,λb m=>(inS m).elim (λq=>q▸⟨_,d2⟩) λq=>K1.live b (Fr.ms q.1),K1.frames,
   λb m q=>(inS q).elim (λq=>k.new_f nd (q▸m)) λq=>K1.f_s m q.1,K1.fI⟩
  ·have n:=k.sl_nd
   obtain⟨n1,n2,n3⟩:=List.nodup_append.mp n
   obtain⟨n4,_,_⟩:=List.nodup_append.mp n2
   refine List.nodup_append.mpr ⟨n1,List.nodup_append.mpr ⟨n4,List.nodup_cons.mpr ⟨List.not_mem_nil,List.nodup_nil⟩,λb m b' m'=>?_⟩,λb m b' m'=>?_⟩
   ·rw[List.mem_singleton.mp m'];exact ns b (List.mem_append_right _ (List.mem_append_left _ m))
   ·rcases List.mem_append.mp m' with m'|m'
    ·exact n3 b m b' (List.mem_append_left _ m')
    ·rw[List.mem_singleton.mp m'];exact ns b (List.mem_append_left _ m)
  ·cases q
   exact⟨_,#[],0,d2,⟨rfl,rfl,rfl⟩,rfl,rfl,rfl,List.nodup_nil,k.not_sys nd (Nat.le_refl _)⟩
 have A':gu (g.A.under (.builtin "type.__call__" ⟨.ref C::vs,[]⟩)) n g.all:=⟨a.handled,by have:=a.depth;show g.A.depth+1+n+1<_;omega,by have:=a.units;show g.A.units+1+16*(n+1)<_;omega,a.frames⟩
 have back:∀{J:PH} {h':Heap} {sh:Sh},tR g.all sl I h2 J h'->fH g.c.P g.c.H0 g.all sl sh J h'->Nx g ρ w ⟨J,w.loc,{w.S with sh:={sh with slf:=w.S.sh.slf}},h',w.tk⟩:=λ{J h' sh} t c=>by
  have keep:∀a o,a≠dx->a∉bh g.all->(a∉g.sl.as\/g.sl.slf=some a)->w.h.get? a=some o->h'.get? a=some o:=λa o n1 n2 n3 q=>by
   cases t.kept a o (e a o q)with|mk o' e' l=>
   exact(l λm=>(inS m).elim n1 λm=>n3.elim (λn=>n m.1) m.2).eq n2▸e'
  refine .lent k e le (λb o q=>dU (λb o=>w.I b=some o\/w.h.get? b=none) q (.inr nx) .inl) (λb m=>(inS m).elim (λq=>.inr (q▸nd)) λq=>.inl (.inr q.1)) (λb m=>(nI b λq=>k.new_xs nx (q▸m)).trans (k.apart b m)) t c rfl
   (λi b lo e1 e2=>.inl ⟨λm=>?_,e2⟩) ⟨c.sh.oct,c.sh.drw,λb q=>(k.sh.slf b q).mono λa m=>fA.mono (keep a · (ns a (Sl.mem.mpr (.inr (.inr m)))) (λz=>k.f_s z (Sl.mem.mpr (.inr (.inr m)))) (.inr m)) λq0=>bu (le.trans t.le) b⟩
  have ml:=List.mem_of_getElem? e1
  exact(inS m).elim (λq=>k.new_xs nd (q▸Fr.ml ml)) λq=>k.loc_s ml q.1
 refine .of (wpAny_call (make_core (makes_of k.kin m.m) (looks_findIn k.kin m.i) (λself=>bind_fn k.kin self m.t) (.inl rfl) (aC.any (q.run _ g.all sl I h2 w.tk (.ref x::vs) [] _ A' kC ⟨_,_,rfl,⟨x,dx,_,rfl,rfl,eF ..,rfl,rfl,rfl⟩,yb le av ra⟩ rfl λr s' i=>?_))))
 cases i with
 | @ok vv J avv sh' h' tk' t c r q=>
  have B:=back t c
  cases avv with
  | none=>
   obtain⟨fs,e1,q⟩:=ay q
   obtain⟨b,eb,od,xs,m,o1,o2,o3,o4,o5,o6,o7⟩:=c.sh.slf fs e1
   cases eb
   have nJ:J dx=none:=c.apart dx (Sl.mem.mpr (.inr (.inr rfl)))
   have ix:pI J dx od x=some (instObj C dx):=(i8 _ _ xd.symm).trans (t.le x _ (eF ..))
   exact⟨r,z1 _ ⟨pI J dx od,w.loc,_,h',tk'⟩ ⟨⟨B.t.le.trans (bC nJ),λa o q=>dU (λa o=>w.I a=some o\/w.h.get? a=none\/a∈w.loc) q (.inr (.inl nd)) (B.t.new a o),B.t.kept,B.t.locnew⟩,List.prefix_refl _,(B.k.grows tk' (.refl _)).freeze o1 nJ (k.new_xs nd) (λvs z=>nomatch o4.symm.trans z) (k.new_f nd)⟩
    ⟨.v (.inst C fs),⟨x,dx,_,od,xs,m,rfl,ix,rfl,rfl,rfl,eF ..,o2.1,o2.2.1,o4,bu (bC nJ) fs o5⟩,q⟩⟩
  | _=>exact q.elim
 | ex t c x q=>exact z2 _ ⟨_,w.loc,_,_,_⟩ ⟨(back t c).t.trans (.grows (.refl _)),List.prefix_refl _,(back t c).k.grows _ (.refl _)⟩ (pP.back (λb=>e.none) (.inr x)) q
noncomputable def bq:List (Str×AV)->Str->AV->List (Str×AV)
 | [],x,a=>[(x,a)]
 | p::r,x,a=>bif Fast.sEq p.1 x then(p.1,a)::r else p::bq r x a
theorem sZ(x:Str)(a:AV)(l:List (Str×AV)):(bq l x a).map (·.1)=l.map (·.1)\/(x∉l.map (·.1)/\(bq l x a).map (·.1)=l.map (·.1)++[x]):=by
 induction l with
 | nil=>exact .inr ⟨List.not_mem_nil,rfl⟩
 | cons p r ih=>
  show(bif Fast.sEq p.1 x then(p.1,a)::r else p::bq r x a).map (·.1)=_\/_/\(bif Fast.sEq p.1 x then(p.1,a)::r else p::bq r x a).map (·.1)=_
  cases w:Fast.sEq p.1 x with
  | true=>exact .inl rfl
  | false=>
   refine ih.imp (λe=>congrArg (p.1:: ·) e) λhh=>hh.casesOn λm e=>⟨λz=>(List.mem_cons.mp z).elim (λz=>?_) m,congrArg (p.1:: ·) e⟩
   rw[Fast.sEq_iff.mpr z.symm]at w;cases w
theorem dX{x:Str}{a:AV}{l:List (Str×AV)}(h:(l.map (·.1)).Nodup):((bq l x a).map (·.1)).Nodup:=by
 rcases sZ x a l with e|⟨m,e⟩
 ·rw[e];exact h
 ·rw[e,List.nodup_append]
  exact⟨h,List.nodup_cons.mpr ⟨List.not_mem_nil,List.nodup_nil⟩,λb mb b' mb' z=>m (List.mem_singleton.mp mb'▸z▸mb)⟩
theorem wF{P:Params}{I:PH}{x:Str}{a:AV}{v:Value}{t:Tok}(r:rep P I a v){l:List (Str×AV)}:∀{es:List DictEntry},cH P I l es->cH P I (bq l x a) (putL x (PyData.keyHash P x) (.str x t) v es):=by
 induction l with
 | nil=>intro es h;cases h;exact⟨_,_,rfl,⟨t,rfl,rfl,r⟩,rfl⟩
 | cons p l ih=>
  intro es h
  obtain⟨e,es',rfl,h1,h2⟩:=h
  have ke:e.key.isStr x=Fast.sEq p.1 x:=by obtain⟨t,e2,_⟩:=h1;rw[e2,dO];rfl
  show cH P I (bif Fast.sEq p.1 x then(p.1,a)::l else p::bq l x a) _
  unfold putL
  rw[ke]
  cases w:Fast.sEq p.1 x with
  | true=>obtain⟨t,e2,e3,_⟩:=h1;exact⟨_,_,rfl,⟨t,e2,e3,r⟩,h2⟩
  | false=>exact⟨_,_,rfl,h1,ih h2⟩
theorem tK{a:AV}{fs:List (Str×AV)}{vo v:Value}{RS:Unit->aa->W->Prop}(k:Ok g ρ w)(f:mT g.c C name)(ro:bB g w (.slf C) vo)(rv:rep g.c.P w.I a v)(e:w.S.sh.slf=some fs)(hz:fs.length<1000)
  (q:∀h' tk',RS () ρ ⟨w.I,w.loc,{w.S with sh:={w.S.sh with slf:=some (bq fs name a)}},h',tk'⟩):TS g w (setAttr vo name v) RS X:=λQ' E z q0=>by
 refine bp λGG1 hG1=>?_
 obtain⟨x,d,o,e1,rfl,e2,e3,e4,e5⟩:=ro
 obtain⟨d',e6,⟨oc,odi,oda,osl⟩,es,n,o1,⟨o2,o3,o4⟩,_,o5,o6,o7,o8⟩:=k.sh.slf fs e
 refine hG1 ?_
 cases aM e1 e6
 dsimp only at o2 o3 o4 o5
 subst o2 o3 o4 o5
 have D:w.h.get? d=some (dictOf es.toList n):=o1
 refine .of (wJ (s:=g.at w) k.kin (iz (k.imm _ _ e2) e3 e4 e5 D) e4 D f.s f.po f.t f.d ?_ (by rw[nL o6];exact hz) λh' t hd sb=>?_)
 ·have z:=gK (name:=name) o6
  cases w:a7 fs name with
  | none=>rw[w]at z;cases z with|none e=>rw[e];rfl
  | some b=>rw[w]at z;cases z with|some a v e r=>rw[e];rfl
 ·have n:=Nx.turnSh (tk:=w.tk+2) k (Sl.mem.mpr (.inr (.inr e1))) sb ⟨_,hd⟩ (k.sh.putSlf k.sl_nd e1 sb ⟨_,(putL name (PyData.keyHash g.c.P name) (.str name t) v es.toList).toArray,_,hd,⟨rfl,rfl,rfl⟩,rfl,rfl,wF rv o6,dX o7,o8⟩)
  exact z _ _ _ n.nt (q _ _)
end
noncomputable def noStar(e:Expr):Bool:=!Nat.beq e.ctorIdx 22
inductive Ks(g:Fr)(K:List Op->St->Prop)(vs:List Value)(w:W):Prop
 | mk (ops:List Op) (r:bN g w ops vs) (k:K ops w.S)
section
variable {g:Fr}{ρ ρ':aa}{w w':W}{Q:Op->St->Prop}{X:aa->St->Prop}{K:List Op->St->Prop}{v f:Value}
abbrev AT(g:Fr)(ρ:aa)(w:W)(t:Sem (List Value))(K:List Op->St->Prop)(X:aa->St->Prop):Prop:=TE g ρ w t (Ks g K) X
theorem spliced_nil(k:Ok g ρ w)(q:K [] w.S):AT g ρ w (spliced []) K X:=.pure k ⟨[],rfl,q⟩
theorem spliced_cons{t:Sem Value}{r:List (Bool×Sem Value)}{Q1:Op->St->Prop}(x:ET g ρ w t Q1 X)(y:∀op w1,Nx g ρ w w1->Q1 op w1.S->AT g ρ w1 (spliced r) (λops S=>K (op::ops) S) X):AT g ρ w (spliced ((false,t)::r)) K X:=by
 show AT g ρ w (t >>=λv=>(Pure.pure [v]:Sem (List Value)) >>=λhere=>holding here (spliced r) >>=λrest=>Pure.pure (here++rest)) K X
 refine x.bind λv w1 n1 hh=>hh.casesOn λop ro q=>.bind (R:=λa w2=>a=[v]/\w2=w1) (.pure n1.k ⟨rfl,rfl⟩) λhere w2 n2 e=>?_
 obtain⟨rfl,rfl⟩:=e
 exact(y op w2 n1 q).hold.bind λvs w3 n3 hh=>hh.casesOn λops rs k=>.pure n3.k ⟨op::ops,⟨v,vs,rfl,n3.opr ro,rs⟩,k⟩
theorem bJ{env:Env}(pos:Pos)(es:List Expr)(n:es.all noStar=true):backTo pos (starEach es env)=es.map λe=>(false,eval e env):=by
 induction es with
 | nil=>rfl
 | cons e r ih=>
  have n:=Bool.and_eq_true_iff.mp n
  cases e with
  | Starred=>cases n.1
  | _=>exact congrArg (_:: ·) (ih n.2)
theorem aT{env:Env}(es:List Expr):(es.map λe=>(false,eval e env)).any (·.1)=false:=by
 rw[List.any_map];exact List.any_eq_false.mpr λx q0=>Bool.false_ne_true
inductive qW(c:Cx)(h:Heap)(f:Value):Prop
 | mk (k:Keeper) (e:k=Keeper.frame\/k=Keeper.machine) (l:Looks c.M h (keeperOf f) k)
theorem xS{c:Cx}{h:Heap}(e:keepIn c.K f=true)(k:c.K.In h):qW c h f:=let⟨k,e,l⟩:=looks_keep e k;⟨k,e,l⟩
theorem BN{c:Cx}{h:Heap}(id:String):qW c h (.builtin id):=⟨.machine,.inr rfl,.now⟩
theorem xx{c:Cx}{h:Heap}(id:String):qW c h (.type id):=⟨.machine,.inr rfl,.now⟩
theorem dM{b:Bool}{M:Model}{A:Around}{E:Value->Shared->Prop}{s:Shared}{f:Value}{args:List (Bool×Sem Value)}{Q:Args->Shared->Prop}(n:args.any (·.1)=false)
  (x:a6 b M A (spliced args) (λvs s'=>Q ⟨vs,[]⟩ s') E s):a6 b M A (PySem.evalArgs f true args []) Q E s:=by
 have one:∀{j:List Value×Option Value->Sem Args},(∀vs,j (vs,Option.none)=holding (vs++(Option.none:Option Value).toList) (evalAll [] >>=λq0=>(Pure.pure vs:Sem (List Value)) >>=λp=>(Pure.pure ⟨p,[]⟩:Sem Args)))->
   a6 b M A (spliced args >>=λvs=>(Pure.pure (vs,Option.none):Sem (List Value×Option Value)) >>= j) Q E s:=λ{j} e=>
  ab (aI x (λvs s' q=>ab (ai (e vs▸au (ab (m:=evalAll []) (ai (ab (ai (ai q)))))))) λq0 q1 z=>z)
 unfold PySem.evalArgs
 obtain _|⟨⟨d,t⟩,_|_⟩:=args
 ·exact one λvs=>rfl
 ·cases d with
  | true=>cases n
  | false=>exact one λvs=>rfl
 ·cases d<;>exact one λvs=>rfl
theorem wu{α:Type}{b:Bool}{M:Model}{A:Around}{E:Value->Shared->Prop}{s:Shared}{vs:List Value}{m:Sem α}{Q:α->Shared->Prop}(h:a6 b M A m Q E s):a6 b M A (m.keep vs) Q E s:=λΓ p i k=>by
 rw[Sem.wp_keep];exact h Γ p i k
theorem TE.if_{α:Type}{p:Prop}{_:Decidable p}{t u:Sem α}{R:α->W->Prop}(x:TE g ρ w t R X)(y:TE g ρ w u R X):TE g ρ w (if p then t else u) R X:=by
 by_cases h:p
 ·rw[if_pos h];exact x
 ·rw[if_neg h];exact y
theorem TE.callTail{first:List Value}{pos:Pos}{args:List (Bool×Sem Value)}{kws:List (Option Str×Sem Value)}{R:Value->W->Prop}(kp:∀w1,Nx g ρ w w1->qW g.c w1.h f)(n:(args.any (·.1)||kws.any (·.1.isNone))=false)
  (x:TE g ρ w (PySem.evalArgs f true args kws) (λa w1=>∀t,t=PySem.call f (first++a.pos) a.kw->TE g ρ w1 t R X) X):TE g ρ w (PySem.callWith pos f first args kws) R X:=by
 unfold PySem.callWith
 refine TE.bind (.hold x) λa w1 n1 r1=>.stand ?_
 dsimp only
 rw[n]
 have k:=r1 _ rfl
 obtain⟨kk,hk,L⟩:=kp w1 n1
 have tail:∀{t:Sem Value},TE g ρ w1 t R X->TE g ρ w1 (t >>=λr=>holding [r] point >>=λq0=>Pure.pure r) R X:=λht Q E q z=>
  ab (ht _ _ (λr w2 n2 hr=>ab (au (cK (ai (q r w2 n2 hr))))) z)
 intro Q E q z
 refine ab (m:=keeperOf f) (.of (L g.A _ _ (g.at w1) (λq0 q1 e=>e) ?_))
 rcases hk with rfl|rfl
 ·exact TE.if_ (tail k) (tail λQ E q z=>wu (k Q E q z)) Q E q z
 ·exact tail k Q E q z
theorem TE.noCall{first:List Value}{pos:Pos}{args:List (Bool×Sem Value)}{kws:List (Option Str×Sem Value)}{R:Value->W->Prop}(x:TE g ρ w (PySem.evalArgs f true args kws) (λq0 q1=>False) X):TE g ρ w (PySem.callWith pos f first args kws) R X:=λQ E q z=>by
 unfold PySem.callWith
 exact ab (au (x _ _ (λq0 q1 q2 q=>q.elim) z))
theorem TE.callWith{first:List Value}{pos:Pos}{args:List (Bool×Sem Value)}{R:Value->W->Prop}(kp:∀w1,Nx g ρ w w1->qW g.c w1.h f)(n:args.any (·.1)=false)
  (x:TE g ρ w (spliced args) (λvs w1=>Nx g ρ w w1->∀t,t=PySem.call f (first++vs) []->TE g ρ w1 t R X) X):TE g ρ w (PySem.callWith pos f first args []) R X:=
 TE.callTail kp (by rw[n];rfl) λQ E q z=>dM n (x _ _ (λvs w1 n1 k=>q ⟨vs,[]⟩ w1 n1 (k n1)) z)
end
def cM(c:Cx)(T:aB):Prop:=∀C x a,T.cat C x=some a->Cs c C x a
def cA(c:Cx)(n:Nat)(f:Addr)(args:List Op)(kw:List (Str×Op))(ρ:aa)(S:St)(Q:Op->St->Prop)(X:aa->St->Prop):Prop:=
 ae c n f args kw S.sh (λav sh=>Q (.v av) {S with sh:=sh}) (λsh=>X ρ {S with sh:=sh})
def rT(c:Cx)(n:Nat)(f:Addr)(args:List Op)(ρ:aa)(S:St)(Q:Op->St->Prop)(X:aa->St->Prop):Prop:=match n with
 | 0=>False
 | m+1=>cA c.soft m f args [] ρ S Q X
def xa(c:Cx)(n:Nat)(a:Op)(x:Str)(fs:Option (List (Str×AV)))(ρ:aa)(S:St)(Q:Op->St->Prop)(X:aa->St->Prop)(k:CA):Prop:=match k with
 |.field=>aP fs λfs=>aP (a7 fs x) λv=>Q (.v v) S
 |.prop f=>rT c n f [a] ρ S Q X
 | _=>False
def IG(S:St)(Q:Op->St->Prop)(k:CA):Prop:=match k with
 |.val v=>Q (.v v) S
 | _=>False
def Hj(c:Cx)(T:aB)(n:Nat)(a:AV)(x:Str)(ρ:aa)(S:St)(Q:Op->St->Prop)(X:aa->St->Prop):Prop:=match a with
 |.inst C fs=>aP (T.cat C x) (xa c n (.v (.inst C fs)) x (some fs) ρ S Q X)
 |.ref C=>aP (T.cat C x) (IG S Q)
 | _=>False
def xo(c:Cx)(T:aB)(n:Nat)(a:Op)(x:Str)(ρ:aa)(S:St)(Q:Op->St->Prop)(X:aa->St->Prop):Prop:=match a with
 |.v a=>Hj c T n a x ρ S Q X
 |.slf C=>aP (T.cat C x) (xa c n (.slf C) x S.sh.slf ρ S Q X)
 | _=>False
inductive jT where
 | fn (f:Addr) (self:Bool)|bi (b:Bi)|fromB
noncomputable def pick(x:Str)(s:String)(b:jT):Option jT:=bif Fast.sEq x (Str.ofString s)then some b else none
noncomputable def mr(x:Str):Option jT:=bif Fast.sEq x (Str.ofString "append")then some (.bi .baAppend)else pick x "extend" (.bi .baExtend)
def FO(K:jT->Prop)(k:CA):Prop:=match k with
 |.meth f=>K (.fn f true)
 | _=>False
def Hy(K:jT->Prop)(k:CA):Prop:=match k with
 |.stat f=>K (.fn f false)
 | _=>False
def rt(T:aB)(C:Addr)(x:Str)(fs:List (Str×AV))(K:jT->Prop):Prop:=match a7 fs x with
 | none=>aP (T.cat C x) (FO K)
 | some _=>False
def GZ(T:aB)(a:AV)(x:Str)(K:jT->Prop):Prop:=match a with
 |.inst C fs=>rt T C x fs K
 |.ref C=>aP (T.cat C x) (Hy K)
 |.str _=>aP (pick x "encode" (.bi .encode)) K
 |.oc k _=>Gd (!k) (aP (pick x "decode" (.bi .decode)) K)
 |.int _=>aP (pick x "to_bytes" (.bi .toBytes)) K
 |.ty t=>Gd (Nat.beq t.nr 0) (aP (pick x "from_bytes" .fromB) K)
 | _=>False
def GF(x:Str)(K:jT->Prop)(lo:LO):Prop:=match lo with
 |.list _=>aP (pick x "append" (.bi .append)) K
 |.ba _=>aP (mr x) K
 | _=>False
def zS(T:aB)(S:St)(a:Op)(x:Str)(K:jT->Prop):Prop:=match a with
 |.v a=>GZ T a x K
 |.slf C=>aP S.sh.slf λfs=>rt T C x fs K
 |.oct=>aP S.sh.oct λq0=>aP (mr x) K
 |.drw=>aP S.sh.drw λq0=>aP (pick x "pop" (.bi .pop)) K
 |.loc k=>aP S.loc[k]? (GF x K)
 | _=>False
noncomputable def fK(e:Expr):Bool:=rP e (λf as ks=>nameQ f (λq0=>!(as.isEmpty&&ks.isEmpty)) true) true
section
variable {c:Cx}{T:aB}{g:Fr}{ρ ρ':aa}{w w':W}{Q:Op->St->Prop}{X:aa->St->Prop}{v:Value}{C:Addr}{x:Str}{ex:Bool}
inductive lW(g:Fr)(w:W)(C:Addr)(v:Value)(fs:Option (List (Str×AV))):Prop
 | mk (x:Addr) (o od:Obj) (es:Array DictEntry) (n:Nat) (e:v=.ref x) (I:InstAt w.h x o C (some od)) (r:∀l,fs=some l->od.data=.dict es n/\cH g.c.P w.I l es.toList)
theorem dA(k:Ok g ρ w){l:List (Str×AV)}(r:rep g.c.P w.I (.inst C l) v):lW g w C v (some l):=by
 obtain⟨a,d,o,od,x,n,e,i,c,z,p,i2,c2,z2,d2,r⟩:=r
 exact⟨a,o,od,x,n,e,iz (k.imm _ _ i) c z p (k.imm _ _ i2),λl' q=>Option.some.inj q▸⟨d2,r⟩⟩
theorem nE(k:Ok g ρ w)(r:bB g w (.slf C) v):lW g w C v w.S.sh.slf:=by
 obtain⟨a,d,o,s,e,i,c,z,p⟩:=r
 cases q:w.S.sh.slf with
 | none=>
  obtain⟨od,hd⟩:=k.live d (Fr.ms (Sl.mem.mpr (.inr (.inr s))))
  exact⟨a,o,od,#[],0,e,iz (k.imm _ _ i) c z p hd,λq0 q=>nomatch q⟩
 | some fs=>
  obtain⟨d',e',od,es,n,h,_,_,dd,r,_⟩:=k.sh.slf fs q
  cases aM s e'
  exact⟨a,o,od,es,n,e,iz (k.imm _ _ i) c z p h,λl q=>Option.some.inj q▸⟨dd,r⟩⟩
theorem oH{a:Op}{fs:Option (List (Str×AV))}(k:Ok g ρ w)(co:cM g.c T)(nl:a.noloc=true)(ra:bB g w a v)(ii:lW g w C v fs)(q:aP (T.cat C x) (xa g.c g.n a x fs ρ w.S Q X)):ET g ρ w (getAttr v x ex) Q X:=by
 obtain⟨y,o,od,es,n,rfl,I,r⟩:=ii
 obtain⟨ca,e,q⟩:=ay q
 have co:=co _ _ _ e
 cases ca with
 | field=>
  obtain⟨l,e1,q⟩:=ay q
  obtain⟨a,e2,q⟩:=ay q
  obtain⟨d,r⟩:=r l e1
  exact vP k co I d r e2 q
 | prop f=>
  have A:=k.fr.a
  have q:rT g.c g.n f [a] ρ w.S Q X:=q
  cases hn:g.n with
  | zero=>rw[hn]at q;exact q.elim
  | succ m=>rw[hn]at q A;exact AO k A co I nl ra q
 | _=>exact q.elim
theorem xO{a:Op}(k:Ok g ρ w)(co:cM g.c T)(ra:bB g w a v)(q:xo g.c T g.n a x ρ w.S Q X):ET g ρ w (getAttr v x ex) Q X:=by
 cases a with
 | v a=>
  cases a with
  | inst C fs=>exact oH (a:=.v (.inst C fs)) k co rfl ra (dA k ra) q
  | ref C=>
   cases ra
   obtain⟨ca,e,q⟩:=ay q
   cases ca with
   | val a=>exact yI k (co _ _ _ e) q
   | _=>exact q.elim
  | _=>exact q.elim
 | slf C=>exact oH (a:=.slf C) k co rfl ra (nE k ra) q
 | _=>exact q.elim
theorem jR{o:Expr}{env:Env}{wh:Sem Value}(n:fK o=true):attributeBase o x env wh=wh:=by
 cases o with
 | Call f as ks p=>cases f with
  | Name y p'=>cases as with
   | nil=>cases ks with
    | nil=>cases n
    | cons _ _=>rfl
   | cons _ _=>rfl
  | _=>rfl
 | _=>rfl
theorem TE.letGo{α:Type}{base:Expr}{o r:Value}{t:Sem α}{R:α->W->Prop}(y:TE g ρ w t R X):TE g ρ w (letTemporaryGo base o r >>=λq0=>t) R X:=λQ E q z=>ab (.of (wpAny_letTemporaryGo (y Q E q z)))
inductive MA(g:Fr)(w:W)(p:Value×List Value):Prop
 | mk (x:Addr) (e:p=(.ref x,[])) (h:w.h.get? x=some KFB.bound) (n:x∉g.xs w.loc) (f:x∉bh g.all)
def mZ(g:Fr)(v:Value)(cal:jT)(p:Value×List Value)(w:W):Prop:=match cal with
 |.fn f self=>p=(.ref f,bif self then [v]else [])/\keepIn g.c.K (.ref f)=true
 |.bi b=>p=(.builtin b.id,[v])
 |.fromB=>MA g w p
theorem mZ.keep{cal:jT}{p:Value×List Value}(r:mZ g v cal p w)(n:Nx g ρ w w'):qW g.c w'.h p.1:=by
 cases cal with
 | fn f b=>obtain⟨rfl,r⟩:=r;exact xS r n.k.kin
 | bi b=>cases r;exact BN _
 | fromB=>
  obtain⟨x,rfl,h,nn,f⟩:=r
  cases n.t.kept x _ h with|mk o' e' l=>
  exact⟨.machine,.inr rfl,(Looks.ld (part:=none) ((l λm=>nn (List.mem_append_right _ m)).eq f▸e')).andThen .now⟩
inductive Mv(g:Fr)(w:W)(v:Value)(K:jT->Prop)(p:Value×List Value)(w':W):Prop
 | mk (cal:jT) (q:K cal) (r:mZ g v cal p w') (I:w'.I=w.I) (l:w'.loc=w.loc) (S:w'.S=w.S)
abbrev MT(g:Fr)(ρ:aa)(w:W)(v:Value)(x:Str)(pl:Sem Bool)(K:jT->Prop)(X:aa->St->Prop):Prop:=TE g ρ w (getMethod v x pl) (Mv g w v K) X
variable {K:jT->Prop}{pl:Sem Bool}
theorem fD{s:String}{b:jT}(q:aP (pick x s b) K):x=Str.ofString s/\K b:=by
 obtain⟨cal,e,q⟩:=ay q
 unfold pick at e
 cases h:Fast.sEq x (Str.ofString s)with
 | false=>rw[h]at e;cases e
 | true=>rw[h]at e;cases e;exact⟨Fast.sEq_iff.mp h,q⟩
theorem MT.is{cal:jT}{p:Value×List Value}{tk:Nat}(k:Ok g ρ w)(q:K cal)(r:mZ g v cal p w)(y:∀(Q:Value×List Value->Shared->Prop) (E:Value->Shared->Prop),Q p (g.c.mk' w.h tk)->wpAny g.c.M g.A (getMethod v x pl) Q E (g.at w)):MT g ρ w v x pl K X:=
 .of λQ E z=>y Q E (z p ⟨w.I,w.loc,w.S,w.h,tk⟩ (.grows k (.refl _)) ⟨cal,q,by cases cal<;>first|exact r|(obtain⟨x,e,h,n,f⟩:=r;exact⟨x,e,h,n,f⟩),rfl,rfl,rfl⟩)
theorem gq{Ty:String}{b:Bi}(k:Ok g ρ w)(hT:(g.at w).TypeIs v Ty)(pa:PlainAttrs Ty)(slot:Slot Ty x b.id)(hty:typeOf (.builtin b.id)=pure (.type "method_descriptor"))(hd:∀a,v=.ref a->∃o,w.h.get? a=some o/\o.dict=none)(q:K (.bi b)):MT g ρ w v x pl K X:=
 .is (tk:=w.tk) k q (p:=(.builtin b.id,[v])) rfl λQ E z=>getMethod_builtin (s:=g.at w) hT pa slot hty hd z
theorem rV{l:Addr}{b:List UInt8}(k:Ok g ρ w)(r:bU w.h l b)(q:aP (mr x) K):MT g ρ w (.ref l) x pl K X:=by
 obtain⟨o,y,e,c,z,d,t⟩:=r
 have hT:(g.at w).TypeIs (.ref l) "bytearray":=⟨o,e,c⟩
 have hd:∀a,Value.ref l=.ref a->∃o,w.h.get? a=some o/\o.dict=none:=λa q=>by cases q;exact⟨o,e,z⟩
 unfold mr at q
 cases h:Fast.sEq x (Str.ofString "append")with
 | true=>rw[h]at q;cases Fast.sEq_iff.mp h;exact gq (b:=.baAppend) k hT nX gw jk hd q
 | false=>rw[h]at q;obtain⟨rfl,q⟩:=fD q;exact gq (b:=.baExtend) k hT nX gO jF hd q
theorem yq{b:Array UInt8}{t:Tok}(k:Ok g ρ w)(q:K (.bi .decode)):MT g ρ w (.bytes b t) (Str.ofString "decode") pl K X:=.of λQ E z=>
 KBd.method (z (.builtin "bytes.decode",[.bytes b t]) w (.refl k) ⟨.bi .decode,q,rfl,rfl,rfl,rfl⟩)
theorem wA{i:Int}{t:Tok}(k:Ok g ρ w)(q:K (.bi .toBytes)):MT g ρ w (.int i t) (Str.ofString "to_bytes") pl K X:=.of λQ E z=>
 KTBy.method (z (.builtin "int.to_bytes",[.int i t]) w (.refl k) ⟨.bi .toBytes,q,rfl,rfl,rfl,rfl⟩)
theorem ph{fs:List (Str×AV)}(k:Ok g ρ w)(co:cM g.c T)(ii:lW g w C v (some fs))(q:rt T C x fs K):MT g ρ w v x pl K X:=by
 obtain⟨y,o,od,es,n,rfl,I,r⟩:=ii
 obtain⟨d,r⟩:=r _ rfl
 have z:=gK (name:=x) r
 unfold rt at q
 cases hl:a7 fs x with
 | some _=>rw[hl]at q;exact q.elim
 | none=>
  rw[hl]at q z
  cases z with|none e0=>
  obtain⟨ca,e,q⟩:=ay q
  have co:=co _ _ _ e
  cases ca with
  | meth f=>
   have co:lP g.c C x f:=co
   obtain⟨g1,g2⟩:=plainGet_of co.p
   have hs:shadowIn (some od) x=some false:=by
    show Option.map _ (lookIn x od)=_
    unfold lookIn
    rw[d]
    exact congrArg (Option.map _) e0
   exact .is (tk:=w.tk) k q (p:=(.ref f,[.ref y])) ⟨rfl,co.k⟩ λQ E z=>method_fn (s:=g.at w) k.kin I g1 g2 co.h (beq_iff_eq.mp co.i) hs z
  | _=>exact q.elim
theorem Bf{a:Op}(k:Ok g ρ w)(co:cM g.c T)(cf:findCls g.c.K (.type "int") (.type "type") (PySem.Str.ofString "from_bytes")=some (.get (.builtin "classmethod_descriptor.__get__") (.builtin "int.from_bytes") .none (.type "int")))
  (ra:bB g w a v) (q:zS T w.S a x K):MT g ρ w v x pl K X:=by
 cases a with
 | v a=>
  cases a with
  | inst C fs=>exact ph k co (dA k ra) q
  | ref C=>
   cases ra
   obtain⟨ca,e,q⟩:=ay q
   have co:=co _ _ _ e
   cases ca with
   | stat f=>
    obtain⟨mc,p,rest,t,r,h,i,s,kk⟩:=co
    exact .is (tk:=w.tk+1) k q (p:=(.ref f,[])) ⟨rfl,kk⟩ λQ E z=>method_cls (s:=g.at w) k.kin s (cls_bind (s:=g.at w) k.kin r h (wpAny_call (sm_get (s:=g.c.mk' w.h (w.tk+1)) k.kin i (handed_on rfl z))))
   | _=>exact q.elim
  | str s=>
   obtain⟨t,rfl⟩:=ra
   obtain⟨rfl,q⟩:=fD q
   exact gq (b:=.encode) (Ty:="str") k rfl PySem.F.plainAttrs_str PySem.F.slot_str_encode PySem.F.type_str_encode (λq0 q=>nomatch q) q
  | oc kk b=>
   cases kk with
   | true=>exact q.elim
   | false=>
    obtain⟨b,t,rfl,_⟩:=ra
    obtain⟨rfl,q⟩:=fD (Gd.p (b:=true) q)
    exact yq k q
  | int i=>
   obtain⟨t,rfl⟩:=ra
   obtain⟨rfl,q⟩:=fD q
   exact wA k q
  | ty t=>
   have e:=Gd.e q
   obtain⟨rfl,q2⟩:=fD (Gd.p q)
   have e:v=.type "int":=by cases t<;>first|exact ra|cases e
   subst e
   have e:=Grows.push w.h KFB.bound
   have n:=ax w.h
   exact .of λQ E z=>wi (s:=g.at w) k.kin cf (z _ ⟨w.I,w.loc,w.S,_,w.tk+1⟩ (.grows k e) ⟨.fromB,q2,⟨w.h.objs.size,rfl,Heap.get?_push_size _ rfl,k.new_xs n,k.new_f n⟩,rfl,rfl,rfl⟩)
  | _=>exact q.elim
 | slf C=>
  have ii:=nE k ra
  obtain⟨fs,e,q⟩:=ay q
  rw[e]at ii
  exact ph k co ii q
 | oct=>
  obtain⟨b,e,q⟩:=ay q
  obtain⟨l,hl,r⟩:=k.sh.oct b e
  obtain⟨l',hl',rfl⟩:=ra
  cases aM hl hl'
  exact rV k r q
 | drw=>
  obtain⟨b,e,q⟩:=ay q
  obtain⟨l,hl,o,y,n,e1,e2,e3,_⟩:=k.sh.drw b e
  obtain⟨l',hl',rfl⟩:=ra
  cases aM hl hl'
  obtain⟨rfl,q⟩:=fD q
  exact gq (b:=.pop) k ⟨o,e1,e2⟩ PySem.F.plainAttrs_list PySem.F.slot_list_pop PySem.F.type_list_pop (λa q=>by cases q;exact⟨o,e1,e3⟩) q
 | loc i=>
  obtain⟨lo,e,q⟩:=ay q
  obtain⟨l,hl,rfl⟩:=ra
  cases lo with
  | list l'=>
   obtain⟨o,y,n,e1,e2,e3,_⟩:=k.loc _ _ _ hl e
   obtain⟨rfl,q⟩:=fD q
   exact gq (b:=.append) k ⟨o,e1,e2⟩ PySem.F.plainAttrs_list slot_list_append type_list_append (λa q=>by cases q;exact⟨o,e1,e3⟩) q
  | ba b=>exact rV k (k.loc _ _ _ hl e) q
  | _=>exact q.elim
 | _=>exact q.elim
end
noncomputable def c7(c:Nat):Bool:=Nat.blt c 128||Nat.beq c 0xE9||Nat.beq c 0x65E5||Nat.beq c 0x672C
noncomputable def aZ(x:Str):List UInt8:=x.cps.toList.flatMap Str.utf8Of
noncomputable def aY(x:Str):List UInt8:=x.cps.toList.map Nat.toUInt8
section
open Builtin Builtin._codecs
theorem ug{c:UInt8}{cs:List UInt8}{t u:Tok}:«bytes.decode» ⟨[.bytes (c::cs).toArray t,.str (PySem.Str.ofString "utf-8") u],[]⟩=(mkStr (PySem.Str.ofString "utf-8") >>=λq0=>mkStr (PySem.Str.ofString "utf-8") >>=λe=>mkStr (PySem.Str.ofString "bytes.decode") >>=λd=>
  call (.builtin "_codecs.decode.text") [.bytes (c::cs).toArray t,e,.none,d] >>=λv=>ret v):=by kernel_rfl
theorem pW{c:UInt8}{cs:List UInt8}{t u:Tok}:«bytes.decode» ⟨[.bytes (c::cs).toArray t,.str (PySem.Str.ofString "ascii") u],[]⟩=(mkStr (PySem.Str.ofString "utf-8") >>=λq0=>mkStr (PySem.Str.ofString "ascii") >>=λe=>mkStr (PySem.Str.ofString "bytes.decode") >>=λd=>
  call (.builtin "_codecs.decode.text") [.bytes (c::cs).toArray t,e,.none,d] >>=λv=>ret v):=by kernel_rfl
theorem yr{id:String}{b:Array UInt8}:decodeRoad id b (PySem.Str.ofString "ascii") none []=(runDecoder id asciiDecoder none true b 0 [] >>=λr=>mkStr ⟨r.1⟩):=by kernel_rfl
theorem FL{self:Value}{x:Str}:encodeRoad "str.encode" self x (PySem.Str.ofString "ascii") none=(encodeNarrow "str.encode" asciiCodec none self x >>=λb=>mkBytes b):=by kernel_rfl
theorem Ji{u:Tok}:Str.codecArg "str.encode" "encode" "'encoding'" (some (.str (PySem.Str.ofString "utf-8") u))=pure (some (PySem.Str.ofString "utf-8")):=by kernel_rfl
theorem ID{u:Tok}:Str.codecArg "str.encode" "encode" "'encoding'" (some (.str (PySem.Str.ofString "ascii") u))=pure (some (PySem.Str.ofString "ascii")):=by kernel_rfl
theorem uF{e x:Str}{t u:Tok}:«str.encode» ⟨[.str x t,.str e u],[]⟩=(Str.codecArg "str.encode" "encode" "'encoding'" (some (.str e u)) >>=λ(o:Option Str)=>encodeRoad "str.encode" (.str x t) x (o.getD "utf-8") none >>=λv=>ret v):=by kernel_rfl
theorem lM{p:Nat->Bool}:∀(l:List Nat),(∀c∈l,p c=false)->l.toArray.findIdx? p=none:=λl h=>by
 rw[Array.findIdx?_eq_none_iff];intro x hx;simpa using h x (by simpa using hx)
theorem hU(f:Nat->List UInt8):∀(l:List Nat) (acc:Array UInt8),(l.foldl (λacc y=>acc++(f y).toArray) acc).toList=acc.toList++l.flatMap f:=by
 intro l
 induction l with
 | nil=>
  intro acc
  simp
 | cons a r ih=>
  intro acc
  rw[List.foldl_cons,ih,List.flatMap_cons];simp
theorem Gp{β:Type}(f:Nat->β->Sem (ForInStep β))(n:Nat)(s s1:β)(h0:0<n->f 0 s=pure (.yield s1))(h1:1<n->f 1 s1=pure (.done s1))(hn:n=0->s1=s):forIn [0:n] s f=pure s1:=by
 rw[Std.Legacy.Range.forIn_eq_forIn_range']
 show forIn (List.range' 0 ((n-0+1-1)/1) 1) s f=pure s1
 rw[show(n-0+1-1)/1=n by simp]
 cases n with
 | zero=>rw[hn rfl];rfl
 | succ n=>
  rw[List.range'_succ,List.forIn_cons,h0 (Nat.succ_pos _)]
  show forIn (List.range' 1 n 1) s1 f=pure s1
  cases n with
  | zero=>rfl
  | succ n=>
   rw[List.range'_succ,List.forIn_cons,h1 (by omega)]
   rfl
theorem ys{α:Type}{p:Prop}{_:Decidable p}{x y z:α}(h:¬p)(k:y=z):(if p then x else y)=z:=(if_neg h).trans k
theorem Ij{α:Type}{b:Bool}{x y z:α}(h:b=false)(k:x=z):(if(!b)=true then x else y)=z:=by subst h;exact k
theorem uk{id:String}{cd:TextCodec}{self:Value}{x:Str}(h:∀c∈x.cps.toList,cd.bad c=false)(hz:(x.cps.toList.flatMap cd.bytesOf).length<=sizeLine):∃b:Array UInt8,encodeNarrow id cd none self x=pure b/\b.toList=x.cps.toList.flatMap cd.bytesOf:=by
 obtain⟨⟨l⟩⟩:=x
 have h:∀c∈l,cd.bad c=false:=h
 have hz:(l.flatMap cd.bytesOf).length<=sizeLine:=hz
 have sz:(l.foldl (λacc y=>acc++(cd.bytesOf y).toArray) #[]).size=(l.flatMap cd.bytesOf).length:=by
  rw[<-Array.length_toList,hU];rfl
 have e0:(⟨⟨l⟩⟩:Str).cps[l.length]? =none:=Array.getElem?_eq_none (Nat.le_refl _)
 have fi:=lM _ h
 refine⟨_,(congrArg (· >>= _) (Gp _ _ _ (l.length,l.foldl (λacc y=>acc++(cd.bytesOf y).toArray) #[],{}) (λp=>ys (Nat.not_lt_zero _) ?_) (λp=>ys (by rw[sz];exact Nat.not_lt.mpr hz) ?_) (λp=>?_))).trans rfl,hU cd.bytesOf l #[]⟩
 ·cases l with
  | nil=>exact absurd p (Nat.lt_irrefl 0)
  | cons a r=>
   refine Ij (h a (.head _)) ?_
   have ex:((⟨⟨a::r⟩⟩:Str).cps.extract 0 (⟨⟨a::r⟩⟩:Str).cps.size)=(a::r).toArray:=Array.extract_size
   show pure (ForInStep.yield (0+((Array.extract _ 0 _).findIdx? cd.bad).getD _,Array.foldl _ _ _,_))=_
   rw[ex,fi]
   simp
 ·rw[e0]
 ·have:l=[]:=List.eq_nil_of_length_eq_zero p
  subst this;rfl
section
variable {prog:Program}{w:World}{A:Around}{E:Value->Shared->Prop}{s:Shared}{x:Str}{t u:Tok}{Q:Value->Shared->Prop}
theorem kT{e:Str}{cd:TextCodec}(hc:Str.codecArg "str.encode" "encode" "'encoding'" (some (.str e u))=pure (some e))(hr:∀self,encodeRoad "str.encode" self x e none=(encodeNarrow "str.encode" cd none self x >>=λb=>mkBytes b))
  (h:∀c∈x.cps.toList,cd.bad c=false) (hz:(x.cps.toList.flatMap cd.bytesOf).length<=sizeLine) (q:∀b t k,b.toList=x.cps.toList.flatMap cd.bytesOf->Q (.bytes b t) {s with toks:=k}):
  wpAny (model prog w) A (call (.builtin "str.encode") [.str x t,.str e u]) Q E s:=by
 obtain⟨b,hb,hl⟩:=uk (id:="str.encode") (self:=.str x t) h hz
 have M:Meets («str.encode» ⟨[.str x t,.str e u],[]⟩) (λq0 R s'=>∀b t k,b.toList=x.cps.toList.flatMap cd.bytesOf->R (.ok (.ret (.bytes b t))) {s' with toks:=k}):=.of_wp λprog w A R s' hs=>by
  rw[uF,hc]
  refine wpAny_bind (wpAny_pure ?_)
  show wpAny _ _ (encodeRoad "str.encode" (.str x t) x e none >>=λv=>ret v) _ _ _
  rw[hr,hb]
  refine wpAny_bind (wpAny_bind (wpAny_pure (wpAny_mkBytes (wpAny_pure ⟨_,rfl,hs _ _ _ hl⟩) ?_)))
  rw[<-Array.length_toList,hl];exact hz
 exact call_meets PySem.F.slot_str_encode (typeIs_str _ _ _) PySem.F.entry_str_encode (PySem.F.args_str_encode_2 _ _) M q
end
theorem GY{β:Type}(f:Nat->β->Sem (ForInStep β)):∀(l:List Nat) (m:Nat) (st:Nat->β),m<=l.length->(∀i,i<m->∀j,f j (st i)=pure (.yield (st (i+1))))->(∀j,f j (st m)=pure (.done (st m)))->forIn l (st 0) f=pure (st m):=by
 intro l
 induction l with
 | nil=>
  intro m st h _ _
  obtain rfl:m=0:=Nat.le_zero.mp h;rfl
 | cons a l ih=>
  intro m st h h1 h2
  rw[List.forIn_cons]
  cases m with
  | zero=>rw[h2 a];rfl
  | succ m=>
   rw[h1 0 (Nat.succ_pos _) a]
   exact ih m (λi=>st (i+1)) (Nat.le_of_succ_le_succ h) (λi hi j=>h1 (i+1) (Nat.succ_lt_succ hi) j) h2
def Back(d:Decoder)(g:Nat->List UInt8)(ok:Nat->Bool):Prop:=∀c,ok c=true->0<(g c).length/\∀pre suf:List UInt8,d.find true (pre++(g c++suf)).toArray pre.length=.text [c] (pre.length+(g c).length)
theorem yc{g:Nat->List UInt8}{ok:Nat->Bool}(hg:∀c,ok c=true->0<(g c).length):∀l:List Nat,(∀c∈l,ok c=true)->l.length<=(l.flatMap g).length:=by
 intro c
 induction c with
 | nil=>
  intro _
  exact Nat.le_refl _
 | cons a r ih=>
  intro h
  rw[List.flatMap_cons,List.length_append,List.length_cons]
  have:=ih λc m=>h c (.tail _ m)
  have:=hg a (h a (.head _))
  omega
theorem zj{id:String}{d:Decoder}{g:Nat->List UInt8}{ok:Nat->Bool}(B:Back d g ok){l:List Nat}(h:∀c∈l,ok c=true)(hz:l.length<=sizeLine){b:Array UInt8}(hb:b.toList=l.flatMap g):
  ∃n,runDecoder id d none true b 0 []=pure (l.toArray,n):=by
 have hb':b=(l.flatMap g).toArray:=by rw[<-hb]
 subst hb'
 refine⟨(l.flatMap g).length,?_⟩
 unfold runDecoder
 dsimp only
 rw[Std.Legacy.Range.forIn_eq_forIn_range']
 let st:Nat->Nat×Array Nat×Faults:=λi=>(((l.take i).flatMap g).length,(l.take i).toArray,{held:=[]})
 have hg:∀c,ok c=true->0<(g c).length:=λc hc=>(B c hc).1
 have e0:(List.range' [:(l.flatMap g).toArray.size].start [:(l.flatMap g).toArray.size].size [:(l.flatMap g).toArray.size].step)=List.range' 0 ((l.flatMap g).toArray.size-0+1-1) 1:=by
  show List.range' 0 (((l.flatMap g).toArray.size-0+1-1)/1) 1=_
  rw[Nat.div_one]
 rw[e0]
 refine(congrArg (· >>= _) (GY _ _ l.length st (by rw[List.length_range',List.size_toArray];have:=yc hg l h;omega) (λi hi j=>?_) (λj=>?_))).trans ?_
 rotate_left 2
 ·show(Pure.pure ((l.take l.length).toArray,((l.take l.length).flatMap g).length):Sem (Array Nat×Nat))=_
  rw[List.take_length]
 ·have hc:ok l[i]=true:=h _ (List.getElem_mem hi)
  have sp:l.flatMap g=(l.take i).flatMap g++(g l[i]++(l.drop (i+1)).flatMap g):=by
   conv=>lhs;rw[<-List.take_append_drop i l,List.drop_eq_getElem_cons hi]
   rw[List.flatMap_append,List.flatMap_cons]
  have f1:¬(st i).2.1.size>sizeLine:=by
   show¬(l.take i).toArray.size>sizeLine
   rw[List.size_toArray,List.length_take];omega
  have f2:¬(st i).1>=(l.flatMap g).toArray.size:=by
   show¬((l.take i).flatMap g).length>=_
   rw[List.size_toArray,sp,List.length_append,List.length_append]
   have:=hg _ hc
   omega
  refine ys f1 (ys f2 ?_)
  have f3:d.find true (l.flatMap g).toArray (st i).1=.text [l[i]] (((l.take i).flatMap g).length+(g l[i]).length):=by
   rw[sp];exact(B _ hc).2 _ _
  rw[f3]
  show(Pure.pure (ForInStep.yield (((l.take i).flatMap g).length+(g l[i]).length,(l.take i).toArray++[l[i]].toArray,_)):Sem (ForInStep (Nat×Array Nat×Faults)))=Pure.pure (ForInStep.yield (((l.take (i+1)).flatMap g).length,(l.take (i+1)).toArray,_))
  rw[List.take_succ_eq_append_getElem hi,List.flatMap_append,List.length_append]
  simp[st]
 ·have f1:¬(st l.length).2.1.size>sizeLine:=by
   show¬(l.take l.length).toArray.size>sizeLine
   rw[List.size_toArray,List.take_length];omega
  have f2:(st l.length).1>=(l.flatMap g).toArray.size:=by
   show((l.take l.length).flatMap g).length>=_
   rw[List.take_length,List.size_toArray];exact Nat.le_refl _
  exact ys f1 (if_pos f2)
theorem Gl(pre:List UInt8)(a:UInt8)(suf:List UInt8):((pre++(a::suf)).toArray).getD pre.length 0=a:=by simp[Array.getD]
theorem Iy(pre:List UInt8)(a b:UInt8)(suf:List UInt8):((pre++(a::b::suf)).toArray)[pre.length+1]? =some b:=by simp
theorem at2(pre:List UInt8)(a b c:UInt8)(suf:List UInt8):((pre++(a::b::c::suf)).toArray)[pre.length+2]? =some c:=by simp
theorem u5{c:Nat}(h:c<128):c.toUInt8.toNat=c:=by simp[Nat.toUInt8];omega
theorem Hz:Back asciiDecoder (λc=>[c.toUInt8]) (λc=>Nat.blt c 128):=λc hc=>⟨Nat.one_pos,λpre suf=>by
 have h:c<128:=Nat.le_of_ble_eq_true hc
 show(let x:=((pre++([c.toUInt8]++suf)).toArray.getD pre.length 0).toNat;if x<128 then Found.char x (pre.length+1)else _)=_
 rw[List.singleton_append,Gl]
 dsimp only
 rw[u5 h,if_pos h];rfl⟩
theorem qU{b:Array UInt8}{p c:Nat}(e:(b.getD p 0).toNat=c)(h:c<128):Bytes.utf8At b p=(.char c,p+1):=by
 unfold Bytes.utf8At
 rw[e]
 dsimp only
 rw[if_pos h]
theorem vB{b:Array UInt8}{p:Nat}(e:b.getD p 0=0xC3)(e1:b[p+1]? =some 0xA9):Bytes.utf8At b p=(.char 0xE9,p+2):=by
 unfold Bytes.utf8At
 rw[e]
 simp[e1,List.range_succ,Except.bind]
theorem yo{b:Array UInt8}{p:Nat}(e:b.getD p 0=0xE6){x y:UInt8}{v:Nat}(e1:b[p+1]? =some x)(e2:b[p+2]? =some y)(hx:0x80<=x.toNat/\x.toNat<=0xBF)(hy:0x80<=y.toNat/\y.toNat<=0xBF)
  (hv:(6*64+x.toNat%64)*64+y.toNat%64=v):Bytes.utf8At b p=(.char v,p+3):=by
 unfold Bytes.utf8At
 rw[e]
 simp[e1,e2,List.range_succ,Except.bind,hx,hy,hv]
theorem HC:Back utf8Decoder Str.utf8Of c7:=λc hc=>by
 have go:∀{b:Array UInt8} {p c n:Nat},Bytes.utf8At b p=(.char c,n)->utf8Decoder.find true b p=.text [c] n:=λ{b p c n} e=>by
  show(match Bytes.utf8At b p with|(.char c,nx)=>Found.char c nx|(.bad _ stop reason,_)=>_)=_
  rw[e];rfl
 unfold c7 at hc
 simp only[Bool.or_eq_true]at hc
 rcases hc with((hc|hc)|hc)|hc
 ·have h:c<128:=Nat.le_of_ble_eq_true hc
  have e:Str.utf8Of c=[c.toUInt8]:=if_pos h
  rw[e]
  refine⟨Nat.one_pos,λpre suf=>go (qU ?_ h)⟩
  rw[List.singleton_append,Gl,u5 h]
 ·obtain rfl:=Nat.eq_of_beq_eq_true hc
  refine⟨by decide,λpre suf=>go (vB ?_ ?_)⟩
  ·exact Gl pre 0xC3 (0xA9::suf)
  ·exact Iy pre 0xC3 0xA9 suf
 ·obtain rfl:=Nat.eq_of_beq_eq_true hc
  refine⟨by decide,λpre suf=>go (yo ?_ (x:=0x97) (y:=0xA5) ?_ ?_ (by decide) (by decide) (by decide))⟩
  ·exact Gl pre 0xE6 (0x97::0xA5::suf)
  ·exact Iy pre 0xE6 0x97 (0xA5::suf)
  ·exact at2 pre 0xE6 0x97 0xA5 suf
 ·obtain rfl:=Nat.eq_of_beq_eq_true hc
  refine⟨by decide,λpre suf=>go (yo ?_ (x:=0x9C) (y:=0xAC) ?_ ?_ (by decide) (by decide) (by decide))⟩
  ·exact Gl pre 0xE6 (0x9C::0xAC::suf)
  ·exact Iy pre 0xE6 0x9C (0xAC::suf)
  ·exact at2 pre 0xE6 0x9C 0xAC suf
section
variable {prog:Program}{w:World}{A:Around}{E:Value->Shared->Prop}{s:Shared}{x:Str}{t u:Tok}{Q:Value->Shared->Prop}
theorem oS{e:Str}{b:Array UInt8}{t1 t2:Tok}{dn:Str}{d:Decoder}(hr:∀id,decodeRoad id b e none []=(runDecoder id d none true b 0 [] >>=λr=>mkStr ⟨r.1⟩))(hd:∀id,∃n,runDecoder id d none true b 0 []=pure (x.cps,n)):
  Meets («_codecs.decode.text» ⟨[.bytes b t,.str e t1,.none,.str dn t2],[]⟩) (λq0 R s=>x.length<=sizeLine/\R (.ok (.ret (.str x s.toks))) {s with toks:=s.toks+1}):=by
 refine .of_wp λprog w A R s hS=>?_
 obtain⟨hsz,h⟩:=hS
 show wpAny _ _ (Bytes.bytesLike _ (.bytes b t) >>=λr=>_) _ _ s
 refine wpAny_bind (wpAny_of_eq KBd.like_eq ?_)
 refine wpAny_bind (wpAny_of_eq KBd.held_eq ?_)
 show wpAny _ _ (decodeRoad _ b e none [] >>=λv=>_) _ _ s
 obtain⟨n,hd⟩:=hd dn.toString
 rw[hr,hd]
 refine wpAny_bind (wpAny_bind (wpAny_pure ?_))
 exact wpAny_mkStr (wpAny_pure ⟨_,rfl,h⟩) hsz
theorem mW{e:Str}(he:e=PySem.Str.ofString "utf-8" \/e=PySem.Str.ofString "ascii"):«bytes.decode» ⟨[.bytes (#[]:Array UInt8) t,.str e u],[]⟩=(rule "bytes.decode.empty" >>=λq0=>retStr Str.empty):=by
 rcases he with rfl|rfl<;>kernel_rfl
theorem kX{e:Str}{d:Decoder}{g:Nat->List UInt8}{ok:Nat->Bool}{b:Array UInt8}(he:e=PySem.Str.ofString "utf-8" \/e=PySem.Str.ofString "ascii")(hr:∀id b,decodeRoad id b e none []=(runDecoder id d none true b 0 [] >>=λr=>mkStr ⟨r.1⟩))(B:Back d g ok)
  (h:∀c∈x.cps.toList,ok c=true) (hz:x.length<=sizeLine) (hb:b.toList=x.cps.toList.flatMap g) (q:∀t k,Q (.str x t) {s with toks:=k}):wpAny (model prog w) A (call (.builtin "bytes.decode") [.bytes b t,.str e u]) Q E s:=by
 have M:Meets («bytes.decode» ⟨[.bytes b t,.str e u],[]⟩) (λq0 R s=>∀t' k,R (.ok (.ret (.str x t'))) {s with toks:=k}):=.of_wp λprog w A R s hs=>by
  obtain⟨bl⟩:=b
  cases bl with
  | nil=>
   have hx:x.cps.toList=[]:=by
    cases hx:x.cps.toList with
    | nil=>rfl
    | cons a r=>
     have hb:[]=x.cps.toList.flatMap g:=hb
     rw[hx,List.flatMap_cons]at hb
     have:=(B a (h a (by rw[hx];exact .head _))).1
     have e:=congrArg List.length hb
     rw[List.length_append]at e
     simp at e;omega
   obtain⟨⟨l⟩⟩:=x
   have hx:l=[]:=hx
   subst hx
   rw[mW he]
   refine wpAny_bind (wpAny_rule ?_)
   exact wpAny_bind (wpAny_mkStr (wpAny_pure ⟨_,rfl,hs _ _⟩) (by decide))
  | cons c cs=>
   have fin:∀{u1 u2:Tok} {k:Nat},wpAny (model prog w) A.in1 (call (.builtin "_codecs.decode.text") [.bytes (c::cs).toArray t,.str e u1,.none,.str (PySem.Str.ofString "bytes.decode") u2] >>=λv=>ret v) (λfin s'=>∃v,fin=.done (.ret v)/\R (.ok (.ret v)) s') (λe s'=>R (.error e) s') {s with toks:=k}:=λ{u1 u2 k}=>
    wpAny_bind (call_function_meets KBd.kind_text KBd.plain_text KBd.entry_text (KBd.args_text _ _ _ _) (oS (x:=x) (λid=>hr id _) (λid=>by
     obtain⟨n,e⟩:=zj (id:=id) B h hz hb
     exact⟨n,by rw[e]⟩)) ⟨hz,wpAny_pure ⟨_,rfl,hs _ _⟩⟩)
   rcases he with rfl|rfl
   ·rw[ug]
    exact wpAny_bind (wpAny_mkStr (wpAny_bind (wpAny_mkStr (wpAny_bind (wpAny_mkStr fin (by decide))) (by decide))) (by decide))
   ·rw[pW]
    exact wpAny_bind (wpAny_mkStr (wpAny_bind (wpAny_mkStr (wpAny_bind (wpAny_mkStr fin (by decide))) (by decide))) (by decide))
 have ha:argsOk "bytes.decode" ⟨[.bytes b t,.str e u],[]⟩:=by
  unfold argsOk;rw[signature?_of (id:="bytes.decode") (n:=['e','d','o','c','e','d']) (o:=['s','e','t','y','b']) (by kernel_rfl) FB.owner_bytes];kernel_rfl
 exact call_meets FB.slot_bytes_decode (typeIs_bytes _ _ _) FB.entry_bytes_decode ha M q
end
end
end Mine
namespace Mine
inductive fe where
 | E (sc:Scope) (e:Expr) (ρ:aa) (S:St) (Q:Op->St->Prop) (X:aa->St->Prop)
 | T (sc:Scope) (e:Expr) (ρ:aa) (S:St) (K:Bool->St->Prop) (X:aa->St->Prop)
 | C (sc:Scope) (a:Op) (ops:List CmpOp) (cs:List Expr) (ρ:aa) (S:St) (K:Bool->St->Prop) (X:aa->St->Prop)
 | A (sc:Scope) (op:BoolOp) (es:List Expr) (ρ:aa) (S:St) (K:Bool->St->Prop) (X:aa->St->Prop)
 | V (sc:Scope) (op:BoolOp) (es:List Expr) (ρ:aa) (S:St) (Q:Op->St->Prop) (X:aa->St->Prop)
 | L (sc:Scope) (es:List Expr) (ρ:aa) (S:St) (K:List Op->St->Prop) (X:aa->St->Prop)
 | S (sc:Scope) (s:Stmt) (ρ:aa) (S:St) (Q:Fo->aa->St->Prop) (X:aa->St->Prop)
 | B (sc:Scope) (ss:List Stmt) (ρ:aa) (S:St) (Q:Fo->aa->St->Prop) (X:aa->St->Prop)
def iF:aa->St->Prop:=λq0 q1=>False
def GA(a:AV)(p:Addr->List (Str×AV)->Prop)(q:Prop):Prop:=match a with
 |.inst C fs=>p C fs
 | _=>q
def se(a:Op)(p:Addr->List (Str×AV)->Prop)(q:Prop):Prop:=match a with
 |.v a=>GA a p q
 | _=>q
def FA(K:Addr->Prop)(k:CA):Prop:=match k with
 |.meth f=>K f
 | _=>False
noncomputable def Op.isLoc:Op->Bool
 |.loc _=>true
 | _=>false
def jw(c:Cx)(T:aB)(n:Nat)(x:Str)(C:Addr)(a:Op)(more:List Op)(ρ:aa)(S:St)(Q:Op->St->Prop)(X:aa->St->Prop):Prop:=
 Gd (!more.any Op.isLoc) (aP (T.cat C x) (FA λf=>rT c n f (a::more) ρ S Q X))
def G6(c:Cx)(T:aB)(n:Nat)(args:List Op)(ρ:aa)(S:St)(Q:Op->St->Prop)(X:aa->St->Prop):Prop:=gV args λa=>
 se a (λC fs=>jw c T n "__len__" C (.v (.inst C fs)) [] ρ S (λr S=>da r λi=>0<=i/\i<2^60/\Q (.v (.int i)) S) X) (Ew S (λr=>Q (.v r) S) a)
def FS(x e:Str)(K:AV->Prop):Prop:=bif Fast.sEq e (Str.ofString "utf-8")then Gd (x.cps.toList.all c7) ((aZ x).length<=16777216/\K (.oc false (aZ x)))else
 Gd (Fast.sEq e (Str.ofString "ascii")) (Gd (x.cps.toList.all λc=>Nat.blt c 128) (x.cps.toList.length<=16777216/\K (.oc false (aY x))))
def Hp(args:List Op)(K:AV->Prop):Prop:=mJ args λx e=>toS x λx=>toS e λe=>FS x e K
def FK(b:List UInt8)(e:Str)(K:AV->Prop):Prop:=bif Fast.sEq e (Str.ofString "utf-8")then∃x:Str,x.cps.toList.all c7=true/\x.cps.toList.length<=16777216/\aZ x=b/\K (.str x)else
 Gd (Fast.sEq e (Str.ofString "ascii")) (∃x:Str,(x.cps.toList.all λc=>Nat.blt c 128)=true/\x.cps.toList.length<=16777216/\aY x=b/\K (.str x))
def Hx(args:List Op)(K:AV->Prop):Prop:=mJ args λx e=>Gy x λx=>toS e λe=>FK x e K
noncomputable def tn(x:Str):List Str->List Str
 | []=>[x]
 | y::r=>bif Spec.ltCps y.cps.toList x.cps.toList then y::tn x r else x::y::r
noncomputable def a8(l:List Str):List Str:=l.foldr tn []
def Ik(a:AV)(K:List (Str×AV)->Prop):Prop:=match a with
 |.dict l=>K l
 | _=>False
def rG(args:List Op)(K:AV->Prop):Prop:=gV args λa=>fc a λa=>Ik a λl=>l.length<64/\K (.list ((a8 (l.map (·.1))).map .str))
def Iw(l:List AV)(K:AV->Prop):Prop:=match l with
 | [a]=>eL a λi=>0<=i/\i<256/\K (.oc false [i.toNat.toUInt8])
 | _=>False
def IZ(a:AV)(K:AV->Prop):Prop:=match a with
 |.int n=>0<=n/\n<=16777216/\K (.oc false (List.replicate n.toNat 0))
 |.oc _ b=>b.length<=16777216/\K (.oc false b)
 |.list l=>Iw l K
 | _=>False
def vd(args:List Op)(K:AV->Prop):Prop:=gV args λa=>fc a λa=>IZ a K
def Cf(a:AV)(K:AV->Prop):Prop:=match a with
 |.list l=>l.length<=16777216/\K (.list l)
 |.tuple l=>l.length<=16777216/\K (.list l)
 |.dict l=>l.length<=16777216/\K (.list (l.map λp=>.str p.1))
 | _=>False
def Jr(c:Cx)(T:aB)(n:Nat)(b:Bi)(args:List Op)(ρ:aa)(S:St)(Q:Op->St->Prop)(X:aa->St->Prop):Prop:=match b with
 |.len=>G6 c T n args ρ S Q X
 |.isinstance=>HL args λb=>Q (.v (.bool b)) S
 |.all=>lR .all args S λa=>Q (.v a) S
 |.min=>lR .min args S λa=>Q (.v a) S
 |.max=>lR .max args S λa=>Q (.v a) S
 |.sorted=>rG args λa=>Q (.v a) S
 |.encode=>Hp args λa=>Q (.v a) S
 |.decode=>Hx args λa=>Q (.v a) S
 |.toBytes=>Lr args λa=>Q (.v a) S
 |.fromBytes=>False
 |.append=>Jm .append args S Q
 |.pop=>Jm .pop args S Q
 |.baAppend=>Gd c.clean (IL .baAppend args S Q)
 |.baExtend=>Gd c.clean (IL .baExtend args S Q)
def tyP(c:Cx)(T:aB)(n:Nat)(t:Ty)(args:List Op)(ρ:aa)(S:St)(Q:Op->St->Prop)(X:aa->St->Prop):Prop:=match t with
 |.list=>gV args λa=>fc a λa=>Cf a λa=>Q (.v a) S
 |.bytes=>vd args λa=>Q (.v a) S
 |.str=>gV args λa=>se a (λC fs=>jw c T n "__str__" C (.v (.inst C fs)) [] ρ S (λr S=>toS r λx=>Q (.v (.str x)) S) X) False
 | t=>vY t args λa=>Q (.v a) S
def Ct(c:Cx)(n:Nat)(C f:Addr)(args:List Op)(ρ:aa)(S:St)(Q:Op->St->Prop)(X:aa->St->Prop):Prop:=match n with
 | 0=>False
 | m+1=>Gd (args.all Op.isV) (ae c.soft m f (.slf C::args) [] {S.sh with slf:=some []} (CB C S Q) (λsh=>X ρ {S with sh:={sh with slf:=S.sh.slf}}))
structure jh where
 args:List Op:=[]
 o:Option (Nat×List UInt8):=none
 d:Option (Nat×List Int):=none
def Gj(k:Nat)(L:jh)(K:jh->Prop)(lo:LO):Prop:=match lo with
 |.ba b=>Gd L.o.isNone (K {L with args:=.oct::L.args,o:=some (k,b)})
 |.list l=>Gd L.d.isNone (intsOf l λns=>K {L with args:=.drw::L.args,d:=some (k,ns)})
 | _=>False
def sG(S:St)(op:Op)(L:jh)(K:jh->Prop):Prop:=match op with
 |.loc k=>aP S.loc[k]? (Gj k L K)
 |.v a=>K {L with args:=.v a::L.args}
 | _=>False
def mj(S:St):List Op->(jh->Prop)->Prop
 | [],K=>K {}
 | op::r,K=>mj S r λL=>sG S op L K
def zq{α:Type}(o:Option (Nat×α))(x:Option α)(f:α->LO)(l:List LO)(K:List LO->Prop):Prop:=match o with
 | none=>K l
 | some p=>aP x λb=>K (l.set p.1 (f b))
noncomputable def C9(ns:List Int):LO:=.list (ns.map .int)
noncomputable def Js(sh:Sh):Bool:=sh.oct.isNone&&(sh.drw.isNone&&sh.slf.isNone)
def xe(c:Cx)(n:Nat)(f:Addr)(ops:List Op)(S:St)(Q:Op->St->Prop):Prop:=Gd (Js S.sh) (mj S ops λL=>
 ae c n f L.args [] {oct:=L.o.map (·.2),drw:=L.d.map (·.2),slf:=none} (λav sh=>zq L.o sh.oct .ba S.loc λl=>zq L.d sh.drw C9 l λl=>Q (.v av) {S with loc:=l}) (λq0=>False))
def Ep(c:Cx)(T:aB)(n:Nat)(f:Addr)(ops:List Op)(ρ:aa)(S:St)(Q:Op->St->Prop)(X:aa->St->Prop):Prop:=match T.ini f with
 | some g=>Ct c n f g ops ρ S Q X
 | none=>bif ops.any Op.isLoc then xe c n f ops S Q else cA c n f ops [] ρ S Q X
def l7(c:Cx)(T:aB)(n:Nat)(f:AV)(ops:List Op)(ρ:aa)(S:St)(Q:Op->St->Prop)(X:aa->St->Prop):Prop:=match f with
 |.ref f=>Ep c T n f ops ρ S Q X
 |.ty t=>tyP c T n t ops ρ S Q X
 |.bi b=>Jr c T n b ops ρ S Q X
 | _=>False
def GU(ops:List Op)(K:AV->Prop):Prop:=mJ ops λo l=>toS l λl=>Gd (Fast.sEq l (Str.ofString "little")) (Cn o K)
def ES(c:Cx)(T:aB)(n:Nat)(cal:jT)(a:Op)(ops:List Op)(ρ:aa)(S:St)(Q:Op->St->Prop)(X:aa->St->Prop):Prop:=match cal with
 |.fn f self=>Gd (!(bif self then a::ops else ops).any Op.isLoc) (cA c n f (bif self then a::ops else ops) [] ρ S Q X)
 |.bi b=>Jr c T n b (a::ops) ρ S Q X
 |.fromB=>GU ops λa=>Q (.v a) S
noncomputable def isFree:NameKind->Bool
 |.free=>true
 | _=>false
noncomputable def rH:NameKind->Bool
 |.cell=>true
 | _=>false
noncomputable def b9(ρ:aa):List (Str×NameKind)->aa
 | []=>[]
 | p::r=>bif isFree p.2 then(match aG ρ p.1 with|some op=>(p.1,op)::b9 ρ r|none=>b9 ρ r)else b9 ρ r
noncomputable def dD(sc:Scope):Scope:={sc with names:=sc.names.map λp=>(p.1,bif isFree p.2 then .cell else p.2)}
noncomputable def my:Option NameKind->Bool
 | some .local=>true
 | _=>false
noncomputable def mR:Option NameKind->Bool
 | some .cell=>true
 | _=>false
noncomputable def isFn:ScopeKind->Bool
 |.function=>true
 | _=>false
noncomputable def lS:List (Str×NameKind)->Bool
 | []=>true
 | p::r=>(r.all λq=>!Fast.sEq p.1 q.1)&&lS r
noncomputable def pY(sc:Scope)(ρ:aa)(x:Str)(cs:Scope):Bool:=
 isFn cs.kind&&(my (dc cs.names x)&&((cs.names.all λp=>!rH p.2&&(!isFree p.2||(mR (dc sc.names p.1)&&(aG ρ p.1).isSome)))&&(((b9 ρ cs.names).all λp=>p.2.noloc)&&lS cs.names)))
noncomputable def df(a:Int):Nat->List AV
 | 0=>[]
 | n+1=>.int a::df (a+1) n
def Dl(a:AV)(K:List AV->Prop):Prop:=match a with
 |.list l=>l.length<16777216/\K l
 |.tuple l=>l.length<16777216/\K l
 |.oc k b=>Gd (!k) (b.length<16777216/\K (b.map iM))
 |.dict l=>l.length<16777216/\K (l.map λp=>.str p.1)
 | _=>False
def mz(a:Op)(S:St)(K:List AV->St->Prop):Prop:=fc a λa=>Dl a λl=>K l S
noncomputable def II(n:Nat)(o:Option AV):Bool:=match o with
 | some a=>AD n a
 | none=>false
noncomputable def qi(k:Option NameKind):Bool:=match jr k with
 |.glob=>true
 | _=>false
noncomputable def cG(T:aB)(sc:Scope)(g:Str)(n:Nat):Bool:=qi (dc sc.names g)&&(II n (T.gl g)&&gM g)
def Gx(as:List Expr)(ks:List Keyword)(p:Expr->Prop)(q:Prop):Prop:=match as with
 | []=>q
 | x::r=>match r with
  | []=>(match ks with
   | []=>p x
   | _=>q)
  | _=>q
def si(e:Expr)(p:Str->Expr->Prop)(q:Prop):Prop:=rP e (λf as ks=>nameQ f (λr=>Gx as ks (p r) q) q) q
section
variable (f:fe->Prop)
def EI(sc:Scope)(x:Expr)(ρ:aa)(S:St)(K:List AV->St->Prop)(X:aa->St->Prop):Prop:=
 f (.E sc x ρ S (λa S=>da a λk=>0<=k/\k<2^24/\K (df 0 k.toNat) S) X)
def ib(T:aB)(sc:Scope)(e:Expr)(ρ:aa)(S:St)(K:List AV->St->Prop)(X:aa->St->Prop):Prop:=
 si e (λr x=>bif cG T sc r 8 then EI f sc x ρ S K X else f (.E sc e ρ S (λa S=>mz a S K) X)) (f (.E sc e ρ S (λa S=>mz a S K) X))
def GX(sc:Scope)(ifs:List Expr)(ρ:aa)(S:St)(K:Bool->St->Prop):Prop:=match ifs with
 | []=>K true S
 | [e]=>f (.T sc e ρ S K iF)
 | _=>False
def eG(sc:Scope)(x:Str)(ifs:List Expr)(elt:Expr)(ρ:aa):List AV->St->(List AV->St->Prop)->Prop
 | [],S,K=>K [] S
 | a::r,S,K=>GX f sc ifs ((x,.v a)::ρ) S λb S=>pv b (f (.E sc elt ((x,.v a)::ρ) S (λo S=>fc o λv=>eG sc x ifs elt ρ r S λvs S=>K (v::vs) S) iF)) (eG sc x ifs elt ρ r S K)
def pq(sc:Scope)(x:Str)(k v:Expr)(ρ:aa):List AV->List (Str×AV)->St->(List (Str×AV)->St->Prop)->Prop
 | [],acc,S,K=>K acc S
 | a::r,acc,S,K=>f (.E sc k ((x,.v a)::ρ) S (λo S=>toS o λy=>f (.E sc v ((x,.v a)::ρ) S (λo S=>fc o λw=>pq sc x k v ρ r (bq acc y w) S K) iF)) iF)
def JM(g:Comprehension)(p:Str->Expr->List Expr->Prop):Prop:=match g with
 | ⟨.Name x _,iter,ifs,0⟩=>p x iter ifs
 | _=>False
def E7(gens:List Comprehension)(p:Str->Expr->List Expr->Prop):Prop:=match gens with
 | [g]=>JM g p
 | _=>False
def dy(T:aB)(sc:Scope)(elt:Expr)(gens:List Comprehension)(cs:Scope)(ρ:aa)(S:St)(K:List AV->St->Prop)(X:aa->St->Prop):Prop:=E7 gens λx iter ifs=>
 Gd (pY sc ρ x cs) (ib f T sc iter ρ S (λl S=>eG f (dD cs) x ifs elt (b9 ρ cs.names) l ⟨S.sh,[]⟩ λvs S'=>vs.length<=16777216/\K vs {S with sh:=S'.sh}) X)
def kO(T:aB)(sc:Scope)(k v:Expr)(gens:List Comprehension)(cs:Scope)(ρ:aa)(S:St)(Q:Op->St->Prop)(X:aa->St->Prop):Prop:=E7 gens λx iter ifs=>
 Gd ifs.isEmpty (Gd (pY sc ρ x cs) (ib f T sc iter ρ S (λl S=>pq f (dD cs) x k v (b9 ρ cs.names) l [] ⟨S.sh,[]⟩ λvs S'=>Q (.v (.dict vs)) {S with sh:=S'.sh}) X))
def EE(sc:Scope)(e:Option Expr)(ρ:aa)(S:St)(K:Option Int->St->Prop)(X:aa->St->Prop):Prop:=match e with
 | none=>K none S
 | some e=>f (.E sc e ρ S (λa S=>da a λi=>K (some i) S) X)
def B8(c:Cx)(T:aB)(n:Nat)(a i:Op)(ρ:aa)(S:St)(Q:Op->St->Prop)(X:aa->St->Prop):Prop:=
 se a (λC fs=>jw c T n "__getitem__" C (.v (.inst C fs)) [i] ρ S Q X) (G4 a i S Q)
def IX(i:Expr)(p:Option Expr->Option Expr->Option Expr->Prop)(q:Prop):Prop:=if h:i.ctorIdx=26 then Expr.Slice.elim (motive_1:=λq0=>Prop) i h λlo hi st q0=>p lo hi st else q
def CK(c:Cx)(T:aB)(n:Nat)(sc:Scope)(e i:Expr)(ρ:aa)(S:St)(Q:Op->St->Prop)(X:aa->St->Prop):Prop:=
 IX i (λlo hi st=>Gd st.isNone (f (.E sc e ρ S (λa S=>EE f sc lo ρ S (λlo S=>EE f sc hi ρ S (λhi S=>Jl a lo hi S Q) X) X) X)))
  (f (.E sc e ρ S (λa S=>f (.E sc i ρ S (λi S=>B8 c T n a i ρ S Q X) X)) X))
noncomputable def qk(o:Expr)(ap:Pos)(args:List Expr)(p:Pos):Bool:=fK o&&(Nat.beq ap.endLine p.line&&(Nat.blt args.length 20&&args.all noStar))
def CF(c:Cx)(n:Nat)(cal:jT)(K:Addr->Prop):Prop:=match cal with
 |.fn g self=>Gd (!self) (K g)
 | _=>False
def methP(c:Cx)(T:aB)(n:Nat)(sc:Scope)(o:Expr)(x:Str)(ap:Pos)(args:List Expr)(p:Pos)(ρ:aa)(S:St)(Q:Op->St->Prop)(X:aa->St->Prop):Prop:=
 Gd (qk o ap args p) (f (.E sc o ρ S (λa S=>zS T S a x λcal=>f (.L sc args ρ S (λops S=>ES c T n cal a ops ρ S Q X) X)) X))
def Lg(c:Cx)(T:aB)(n:Nat)(sc:Scope)(o:Expr)(x:Str)(ap:Pos)(args:List Expr)(k:Str)(e:Expr)(p:Pos)(ρ:aa)(S:St)(Q:Op->St->Prop)(X:aa->St->Prop):Prop:=
 Gd (qk o ap args p) (f (.E sc o ρ S (λa S=>zS T S a x λcal=>f (.L sc args ρ S (λops S=>CF c n cal λg=>f (.E sc e ρ S (λv S=>Gd (!(ops.any Op.isLoc||v.isLoc)) (cA c n g ops [(k,v)] ρ S Q X)) X)) X)) X))
def JF(kws:List Keyword)(p:Prop)(q:Str->Expr->Prop):Prop:=match kws with
 | []=>p
 | kw::r=>(match r with
  | []=>(match kw with
   | ⟨some k,e,_⟩=>q k e
   | _=>False)
  | _=>False)
noncomputable def d3:Int->List Int->List Int
 | _,[]=>[]
 | i,n::r=>(n/7+i)::d3 (i+1) r
noncomputable abbrev FT(k x:Str)(ci:Nat)(p1 p2 p3 p4 p5:Pos):Expr:=.BinOp (.BinOp (.Name x p1) .FloorDiv (.Constant (.int 7) ci p2) p3) .Add (.Name k p4) p5
inductive qt(k x g:Str)(src:Expr):Expr->List Comprehension->Prop
 | mk (ci tk:Nat) (p1 p2 p3 p4 p5 px px2 tp gp cp:Pos):qt k x g src (FT k x ci p1 p2 p3 p4 p5) [⟨.Tuple [.Name k px,.Name x px2] tk tp,.Call (.Name g gp) [src] [] cp,[],0⟩]
noncomputable def Ex(T:aB)(sc:Scope)(k x g:Str)(src:Expr)(cs:Scope):Bool:=cG T sc g 9&&(noStar src&&(isFn cs.kind&&(my (dc cs.names k)&&(my (dc cs.names x)&&(!Fast.sEq k x&&(gM k&&(gM x&&(lS cs.names&&cs.names.all λp=>!rH p.2&& !isFree p.2))))))))
def B0(T:aB)(sc:Scope)(elt:Expr)(gens:List Comprehension)(cs:Scope)(ρ:aa)(S:St)(Q:Op->St->Prop)(X:aa->St->Prop):Prop:=
 ∃(k x g:Str) (src:Expr),qt k x g src elt gens/\Ex T sc k x g src cs=true/\
  f (.E sc src ρ S (λa S=>B9 a λl=>intsOf l λns=>l.length<=16777216/\Q (.loc S.loc.length) {S with loc:=S.loc++[.list ((d3 0 ns).map .int)]}) X)
def rD(e:Expr)(p:Expr->List Comprehension->Scope->Prop)(q:Prop):Prop:=if h:e.ctorIdx=8 then Expr.ListComp.elim (motive_1:=λq0=>Prop) e h λelt gens cs q0=>p elt gens cs else q
def yj(T:aB)(sc:Scope)(e:Expr)(ρ:aa)(S:St)(Q:Op->St->Prop)(X:aa->St->Prop):Prop:=
 rD e (λelt gens cs=>B0 f T sc elt gens cs ρ S Q X)
  (si e (λg x=>bif cG T sc g 5&&noStar x then f (.E sc x ρ S (λa S=>B9 a λl=>l.length<=16777216/\Q (.loc S.loc.length) {S with loc:=S.loc++[.list l]}) X)else f (.E sc e ρ S Q X)) (f (.E sc e ρ S Q X)))
def wK(T:aB)(sc:Scope):List Expr->aa->St->(List Op->St->Prop)->(aa->St->Prop)->Prop
 | [],_,S,K,_=>K [] S
 | e::r,ρ,S,K,X=>yj f T sc e ρ S (λa S=>wK T sc r ρ S (λas S=>K (a::as) S) X) X
def HE(c:Cx)(T:aB)(sc:Scope)(fv:AV)(args:List Expr)(ρ:aa)(S:St)(K:List Op->St->Prop)(X:aa->St->Prop):Prop:=match fv with
 |.ref f'=>Gd (T.keep f') (wK f T sc args ρ S K X)
 |.ty _=>f (.L sc args ρ S K X)
 |.bi _=>f (.L sc args ρ S K X)
 | _=>False
def kM(c:Cx)(T:aB)(n:Nat)(sc:Scope)(g:Str)(args:List Expr)(ρ:aa)(S:St)(Q:Op->St->Prop)(X:aa->St->Prop):Prop:=
 Gd (args.all noStar) (nameP T sc g ρ S λfv S=>fc fv λfv=>HE f c T sc fv args ρ S (λops S=>l7 c T n fv ops ρ S Q X) X)
def kq(c:Cx)(T:aB)(n:Nat)(sc:Scope)(fn:Expr)(args:List Expr)(kws:List Keyword)(p:Pos)(ρ:aa)(S:St)(Q:Op->St->Prop)(X:aa->St->Prop):Prop:=match fn with
 |.Attribute o x ap=>JF kws (methP f c T n sc o x ap args p ρ S Q X) λk e=>Lg f c T n sc o x ap args k e p ρ S Q X
 |.Name g _=>Gd kws.isEmpty (kM f c T n sc g args ρ S Q X)
 | _=>False
def DB:List Op->(List AV->Prop)->Prop
 | [],K=>K []
 | o::r,K=>fc o λa=>DB r λl=>K (a::l)
def Dt(sc:Scope)(es:List Expr)(ρ:aa)(S:St)(K:List AV->St->Prop)(X:aa->St->Prop):Prop:=
 Gd (es.all noStar) (f (.L sc es ρ S (λops S=>DB ops λl=>l.length<=16777216/\K l S) X))
def rO(c:Cx)(T:aB)(n:Nat)(sc:Scope)(e:Expr)(ρ:aa)(S:St)(Q:Op->St->Prop)(X:aa->St->Prop):Prop:=match e with
 |.Constant k _ _=>u6 k S Q
 |.Name x _=>nameP T sc x ρ S Q
 |.BinOp l op r _=>f (.E sc l ρ S (λa S=>f (.E sc r ρ S (λb S=>FY op a b S Q) X)) X)
 |.UnaryOp op x _=>f (.E sc x ρ S (λa S=>JZ op a S Q) X)
 |.IfExp t b o _=>f (.T sc t ρ S (λc S=>pv c (f (.E sc b ρ S Q X)) (f (.E sc o ρ S Q X))) X)
 |.Compare l ops cs _=>f (.E sc l ρ S (λa S=>f (.C sc a ops cs ρ S (λb S=>Q (.v (.bool b)) S) X)) X)
 |.BoolOp op es _=>f (.V sc op es ρ S Q X)
 |.Attribute o x _=>Gd (fK o) (f (.E sc o ρ S (λa S=>xo c T n a x ρ S Q X) X))
 |.Subscript e i _=>CK f c T n sc e i ρ S Q X
 |.Call fn args kws p=>kq f c T n sc fn args kws p ρ S Q X
 |.List es _=>Dt f sc es ρ S (λl S=>Q (.v (.list l)) S) X
 |.Tuple es _ _=>Dt f sc es ρ S (λl S=>Q (.v (.tuple l)) S) X
 |.ListComp elt gens cs _=>dy f T sc elt gens cs ρ S (λl S=>Q (.v (.list l)) S) X
 |.DictComp k v gens cs _=>kO f T sc k v gens cs ρ S Q X
 | _=>False
def Ez(sc:Scope)(a:Op)(op:CmpOp)(r:Expr)(ops:List CmpOp)(rs:List Expr)(ρ:aa)(S:St)(K:Bool->St->Prop)(X:aa->St->Prop):Prop:=match ops with
 | []=>(match rs with
  | []=>f (.E sc r ρ S (λb S=>Ad op a b S K) X)
  | _::_=>False)
 | op2::ops=>(match rs with
  | []=>False
  | r2::rs=>f (.E sc r ρ S (λb S=>Ad op a b S λc S=>pv c (f (.C sc b (op2::ops) (r2::rs) ρ S K X)) (K false S)) X))
def CE(sc:Scope)(a:Op)(ops:List CmpOp)(cs:List Expr)(ρ:aa)(S:St)(K:Bool->St->Prop)(X:aa->St->Prop):Prop:=match ops with
 | []=>False
 | op::ops=>match cs with
  | []=>False
  | r::rs=>Ez f sc a op r ops rs ρ S K X
def stepT(sc:Scope)(e:Expr)(ρ:aa)(S:St)(K:Bool->St->Prop)(X:aa->St->Prop):Prop:=match e with
 |.UnaryOp op x p=>(match op with
  |.Not=>f (.T sc x ρ S (λb S=>K (!b) S) X)
  | op=>f (.E sc (.UnaryOp op x p) ρ S (λa S=>iV a S K) X))
 |.BoolOp op es _=>f (.A sc op es ρ S K X)
 |.IfExp t b o _=>f (.T sc t ρ S (λc S=>pv c (f (.T sc b ρ S K X)) (f (.T sc o ρ S K X))) X)
 |.Compare l ops cs _=>f (.E sc l ρ S (λa S=>f (.C sc a ops cs ρ S K X)) X)
 | e=>f (.E sc e ρ S (λa S=>iV a S K) X)
def Fz(op:BoolOp)(b:Bool)(p q:Prop):Prop:=match op with
 |.And=>pv b p q
 |.Or=>pv b q p
noncomputable def Bz:BoolOp->Bool
 |.And=>true
 |.Or=>false
def BV(sc:Scope)(op:BoolOp)(es:List Expr)(ρ:aa)(S:St)(K:Bool->St->Prop)(X:aa->St->Prop):Prop:=match es with
 | []=>K (Bz op) S
 | e::r=>f (.T sc e ρ S (λb S=>Fz op b (f (.A sc op r ρ S K X)) (K (!Bz op) S)) X)
def Cw(sc:Scope)(op:BoolOp)(es:List Expr)(ρ:aa)(S:St)(Q:Op->St->Prop)(X:aa->St->Prop):Prop:=match es with
 | []=>False
 | e::r=>match r with
  | []=>f (.E sc e ρ S Q X)
  | e2::r=>f (.E sc e ρ S (λa S=>iV a S λb S=>Fz op b (f (.V sc op (e2::r) ρ S Q X)) (Q a S)) X)
def Bl(sc:Scope)(es:List Expr)(ρ:aa)(S:St)(K:List Op->St->Prop)(X:aa->St->Prop):Prop:=match es with
 | []=>K [] S
 | e::r=>f (.E sc e ρ S (λa S=>f (.L sc r ρ S (λas S=>K (a::as) S) X)) X)
end
section
variable {T:aB}{g:Fr}{ρ ρ':aa}{w w':W}{Q:Op->St->Prop}{K:AV->Prop}{X:aa->St->Prop}{v u:Value}{C:Addr}{x:Str}{args:List Op}{vs:List Value}
theorem m6{a:Op}{p:Addr->List (Str×AV)->Prop}{q:Prop}(k:se a p q):(∃C fs,a=.v (.inst C fs)/\p C fs)\/q:=by
 cases a with
 | v a=>cases a with
  | inst C fs=>exact .inl ⟨C,fs,rfl,k⟩
  | _=>exact .inr k
 | _=>exact .inr k
theorem VT.et{t:Sem Value}(x:VT g ρ w t (λa S=>Q (.v a) S) X):ET g ρ w t Q X:=x.mono λu w1 n hh=>hh.casesOn λop r q=>by
 cases op with
 | v a=>exact⟨.v a,r,q⟩
 | _=>exact q.elim
theorem iJ{P:Params}{sl:Sl}{I:PH}{loc:List Addr}{l:List Op}:∀{vs:List Value},(!l.any Op.isLoc)=true->oprs P sl I loc l vs->oprs P sl I [] l vs:=by
 induction l with
 | nil=>exactλq0 h=>h
 | cons o r ih=>
  intro vs n h
  have n:(!(o.isLoc||r.any Op.isLoc))=true:=n
  rw[Bool.not_or,Bool.and_eq_true]at n
  refine h.mono (λv h=>?_) λq0=>ih n.2
  cases o with
  | loc k=>exact nomatch n.1
  | _=>exact h
theorem tL{m:Nat}{A:Around}{f:Addr}{Q':Value->Shared->Prop}{E:Value->Shared->Prop}(k:Ok g ρ w)(a:gu A m g.all)(x:oprs g.c.P g.sl w.I [] args vs)(q:cA g.c.soft m f args [] ρ w.S Q X)
  (z1:∀v w',Nx g ρ w w'->HR g Q v w'->Q' v (g.at w')) (z2:∀e w',Nx g ρ w w'->pP w.h w'.h e->X ρ w'.S->E e (g.at w')):wpAny g.c.M A (PySem.call (.ref f) vs []) Q' E (g.at w):=by
 refine a6.any (bT (q.run A g.all g.sl w.I w.h w.tk vs [] _ a k.toC x rfl λr s' i=>?_))
 cases i with
 | ok t c r q=>exact z1 _ _ (.back k t c) ⟨.v _,r,q⟩
 | ex t c x q=>exact z2 _ _ (.back k t c) (.inr x) q
inductive FG(g:Fr)(C:Addr)(x:Str)(a:Op)(more:List Op)(ρ:aa)(S:St)(Q:Op->St->Prop)(X:aa->St->Prop):Prop
 | mk (f:Addr) (m:Nat) (co:lP g.c C x f) (e:g.n=m+1) (nl:(!more.any Op.isLoc)=true) (q:cA g.c.soft m f (a::more) [] ρ S Q X)
theorem qX{a:Op}{more:List Op}{S:St}(co:cM g.c T)(q:jw g.c T g.n x C a more ρ S Q X):FG g C x a more ρ S Q X:=by
 have nl:=q.e
 obtain⟨ca,e,q⟩:=ay q.p
 have co:=co _ _ _ e
 cases ca with
 | meth f=>
  have q:rT g.c g.n f (a::more) ρ S Q X:=q
  cases hn:g.n with
  | zero=>rw[hn]at q;exact q.elim
  | succ m=>rw[hn]at q;exact⟨f,m,co,hn,nl,q⟩
 | _=>exact q.elim
theorem mP{m:Nat}{A:Around}{f:Addr}{fs:List (Str×AV)}{more:List Op}{ms:List Value}{R:Option Value->Shared->Prop}{E:Value->Shared->Prop}(k:Ok g ρ w)(a:gu A m g.all)(co:lP g.c C x f)(r:rep g.c.P w.I (.inst C fs) v)(rm:oprs g.c.P g.sl w.I [] more ms)(q:cA g.c.soft m f (.v (.inst C fs)::more) [] ρ w.S Q X)
  (z1:∀u w',Nx g ρ w w'->HR g Q u w'->R (some u) (g.at w')) (z2:∀e w',Nx g ρ w w'->pP w.h w'.h e->X ρ w'.S->E e (g.at w')):wpAny g.c.M A (callSpecial? v x ms) R E (g.at w):=by
 obtain⟨y,o,od,es,n,rfl,I,_⟩:=dA k r
 exact special_fn (s:=g.at w) k.kin I co.h (beq_iff_eq.mp co.i) (tL (args:=.v (.inst C fs)::more) k a ⟨_,_,rfl,r,rm⟩ q z1 z2)
theorem gu.in2{A:Around}{n:Nat}{all:List Env}(a:gu A (n+1) all):gu A.in1.in1 n all:=⟨a.handled,by have:=a.depth;show A.depth+n+1<_;exact uC 0x4012091001b608024120910c036c00c this,by have:=a.units;show A.units+1+1+16*(n+1)<_;exact uC 0x1004824430420241201b6c10048241221b042006c00c this,a.frames⟩
theorem gu.room{A:Around}{n:Nat}{all:List Env}(a:gu A n all):A.units+2<cLine:=by have:=a.units;exact uC 0x200908806c100482443042006c00c this
theorem AL{fs:List (Str×AV)}(k:Ok g ρ w)(co:cM g.c T)(r:rep g.c.P w.I (.inst C fs) v)(q:jw g.c T g.n "__len__" C (.v (.inst C fs)) [] ρ w.S (λr S=>da r λi=>0<=i/\i<2^60/\Q (.v (.int i)) S) X):ET g ρ w (PySem.call (.builtin "len") [v] []) Q X:=λQ' E z1 z2=>by
 obtain⟨f,m,co,en,_,q⟩:=qX co q
 have ao:gu g.A (m+1) g.all:=en▸k.fr.a
 refine .of (Calls.call_function_entry kind_len plain_len entry_len (args_len1 _) ?_)
 unfold Builtin.«len»
 refine wpAny_bind (m:=oneArg "len" _) (wpAny_pure ?_)
 refine wpAny_bind (m:=callSpecial? v (Str.ofString "__len__")) (mP (more:=[]) (ms:=[]) k ao.in1 co r rfl q (λu w' n o=>?_) z2)
 obtain⟨op,ro,q⟩:=o
 obtain⟨i,t,rfl,h0,h1,q⟩:=bE ro q
 refine wpAny_bind (wpAny_holding (wpAny_pure ?_))
 refine wpAny_bind (wpAny_letGo ?_)
 show wpAny _ _ (if i<0 then _ else _) _ _ _
 rw[if_neg (Int.not_lt.mpr h0)]
 show wpAny _ _ (if i>=2^63 then _ else _) _ _ _
 rw[if_neg (Int.not_le.mpr (Int.lt_trans h1 (by decide)))]
 exact wpAny_bind (wpAny_mkInt (wpAny_pure ⟨_,rfl,z1 _ ⟨w'.I,w'.loc,w'.S,w'.h,w'.tk+1⟩ (n.trans (.grows n.k (.refl _))) ⟨.v (.int i),⟨_,rfl⟩,q⟩⟩))
open Builtin Builtin.Str in
theorem zV{fs:List (Str×AV)}(k:Ok g ρ w)(co:cM g.c T)(r:rep g.c.P w.I (.inst C fs) v)(q:jw g.c T g.n "__str__" C (.v (.inst C fs)) [] ρ w.S (λr S=>toS r λx=>Q (.v (.str x)) S) X):ET g ρ w (PySem.call (.type "str") [v] []) Q X:=λQ' E z1 z2=>by
 obtain⟨f,m,co,en,_,q⟩:=qX co q
 have ao:gu g.A (m+1) g.all:=en▸k.fr.a
 obtain⟨y,o,od,es,n,rfl,I,_⟩:=dA k r
 refine .of (callType_codes (T:="str") (Bi:=Builtin.«object.__init__») (Q₁:=λr s₁=>∃y u,r=.str y u/\Q' r s₁) PySem.F.called_str (PySem.F.typeCall_str_1 _) PySem.F.entry_object_init ?_ ?_)
 ·refine codeAny_of_tree ?_
  show wpAny _ g.A.in1.in1 (do checkBuiltinCall "str.__new__" ⟨[.type "str",.ref y],[]⟩;again (.builtin "str.__new__" ⟨[.type "str",.ref y],[]⟩)) _ _ (g.at w)
  refine wpAny_bind (wpAny_of_eq (PySem.F.newCall_str_1 _) (wpAny_pure ⟨plainId_quiet (by decide +kernel) _,codeAny_builtin PySem.F.entry_str_new ?_⟩))
  rw[Around.under_plainId (by decide +kernel) _]
  rw[str_new_tree]
  refine wpAny_bind (wpAny_pure ?_)
  refine wpAny_bind (wpAny_of_eq isSubtype_str_str ?_)
  have key:wpAny g.c.M g.A.in1.in1 (PySem.Builtin.Str.strOf (.ref y)) (λr s₁=>∃y u,r=.str y u/\Q' r s₁) E (g.at w):=by
   unfold PySem.Builtin.Str.strOf
   rw[show isExactStr (.ref y)=false from rfl]
   refine wpAny_bind (m:=cRoomFor _ _) (wpAny_cRoomFor ao.room ?_)
   refine wpAny_bind (m:=callSpecial? (.ref y) (Str.ofString "__str__")) (mP (more:=[]) (ms:=[]) k ao.in2 co r rfl q (λu w' n o=>?_) z2)
   obtain⟨op,ro,q⟩:=o
   obtain⟨i,t,rfl,q⟩:=fw ro q
   exact wpAny_pure ⟨i,t,rfl,z1 _ w' n ⟨.v (.str i),⟨_,rfl⟩,q⟩⟩
  exact wpAny_bind (wpAny_mono key (λr s₁ hr=>wpAny_pure hr) λq0 q1 y=>y)
 ·rintro obj s₁ ⟨y,u,rfl,hq⟩
  exact⟨typeIs_str _ _ _,PySem.F.args_object_init_2 _ _,object_init_meets PySem.F.called_str.init.lookup PySem.F.called_str.made (by decide) g.c.prog g.c.w g.A.in1 _ s₁ ⟨typeIs_str _ _ _,rfl,hq⟩⟩
theorem Er{K:Frag}{f:Addr}(h:fnIn K f=true):∃c d fd sl,K.lookup f=some ⟨c,d,.func fd,sl⟩:=by
 delta fnIn at h
 cases e:K.lookup f with
 | none=>rw[e]at h;cases h
 | some o=>
  rw[e]at h
  obtain⟨c,d,dt,sl⟩:=o
  cases dt with
  | func fd=>exact⟨_,_,fd,_,rfl⟩
  | _=>cases h
theorem GO{slice:Expr}{o i:Value}(hs:∀a b p,slice≠.Slice a b none p):subscripted slice true o i=runValue (.builtin "lifetime.subscript" ⟨[o,i],[]⟩):=by
 cases slice with
 | Slice a b c p=>cases c with
  | none=>exact absurd rfl (hs _ _ _)
  | some _=>rfl
 | _=>rfl
theorem zo{i:Op}{vi:Value}{fs:List (Str×AV)}{value slice:Expr}(hs:∀a b p,slice≠.Slice a b none p)(k:Ok g ρ w)(co:cM g.c T)(r:rep g.c.P w.I (.inst C fs) v)(ri:bB g w i vi)
  (q:jw g.c T g.n "__getitem__" C (.v (.inst C fs)) [i] ρ w.S Q X):ET g ρ w (kB value slice v vi) Q X:=λQ' E z1 z2=>by
 obtain⟨f,m,co,en,nl,q⟩:=qX co q
 have ao:gu g.A (m+1) g.all:=en▸k.fr.a
 obtain⟨y,o,od,es,n,rfl,I,_⟩:=dA k r
 have e3:=co.fn
 obtain⟨_,_,_,_,ef⟩:=Er e3
 ·refine .of ?_
  show wpAny _ _ (getitemInPython _ >>= _) _ _ _
  unfold getitemInPython
  refine wpAny_bind (wpAny_bind (wpAny_bind (I.type.here (s:=g.at w) ((looks_findIn k.kin co.h).here (s:=g.at w) ?_))))
  dsimp only
  refine wpAny_bind (wpAny_load (s:=g.at w) (k.kin _ _ ef) (wpAny_pure ?_))
  dsimp only
  rw[GO hs]
  refine wpAny_bind (wpAny_runValue (codeAny_builtin entry_sub ?_))
  unfold Builtin.«lifetime.subscript»
  refine wpAny_bind (mP k ao.in1 co r (iJ (l:=[i]) (loc:=w.loc) nl ⟨vi,_,rfl,ri,rfl⟩) q (λu w' n o=>?_) z2)
  refine wpAny_pure ?_
  exact wpAny_bind (wpAny_letTemporaryGo (wpAny_pure (z1 _ w' n o)))
theorem wX{a i:Op}{vi:Value}{value slice:Expr}(hs:∀a b p,slice≠.Slice a b none p)(k:Ok g ρ w)(co:cM g.c T)(ra:bB g w a v)(ri:bB g w i vi)(q:B8 g.c T g.n a i ρ w.S Q X):ET g ρ w (kB value slice v vi) Q X:=by
 rcases m6 q with⟨C,fs,rfl,q⟩|q
 ·exact zo hs k co ra ri q
 ·exact AY k ra ri q
theorem Ap(k:Ok g ρ w)(co:cM g.c T)(ra:bN g w args vs)(q:G6 g.c T g.n args ρ w.S Q X):ET g ρ w (PySem.call (.builtin "len") vs []) Q X:=by
 obtain⟨a,v,rfl,r,q⟩:=eJ ra q
 rcases m6 q with⟨C,fs,rfl,q⟩|q
 ·exact AL k co r q
 ·exact VT.et (uT k r q)
theorem yF{x:Nat}(h:c7 x=true):Str.isSurrogate x=false:=by
 unfold c7 at h
 simp only[Bool.or_eq_true]at h
 have go:∀{x:Nat},x<55296->Str.isSurrogate x=false:=λ{x} h=>by
  unfold Str.isSurrogate
  rw[Bool.and_eq_false_iff];left;exact decide_eq_false (Nat.not_le.mpr h)
 rcases h with((h|h)|h)|h
 ·exact go (Nat.lt_of_lt_of_le (Nat.le_of_ble_eq_true h) (by decide))
 ·rw[Nat.eq_of_beq_eq_true h];exact go (by decide)
 ·rw[Nat.eq_of_beq_eq_true h];exact go (by decide)
 ·rw[Nat.eq_of_beq_eq_true h];exact go (by decide)
theorem HN{x:Nat}(h:Nat.blt x 128=true):decide (x>=128)=false:=decide_eq_false (Nat.not_le.mpr (Nat.le_of_ble_eq_true h))
theorem i4(x:Str):(x.cps.toList.flatMap λc=>[c.toUInt8])=aY x:=by
 unfold aY;induction x.cps.toList with
 | nil=>rfl
 | cons a r ih=>rw[List.flatMap_cons,ih];rfl
theorem A0(k:Ok g ρ w)(ra:bN g w args vs)(q:Hp args λa=>Q (.v a) w.S):ET g ρ w (PySem.call (.builtin "str.encode") vs []) Q X:=by
 obtain⟨a,b,v,u,rfl,r1,r2,q⟩:=ia ra q
 obtain⟨x,t,rfl,q⟩:=fw r1 q
 obtain⟨e,u,rfl,q⟩:=fw r2 q
 have fin:∀{l:List UInt8},Q (.v (.oc false l)) w.S->(∀(Q:Value->Shared->Prop) (E:Value->Shared->Prop),(∀b t k,b.toList=l->Q (.bytes b t) (g.c.mk' w.h k))->wpAny g.c.M g.A (PySem.call (.builtin "str.encode") [.str x t,.str e u]) Q E (g.at w))->ET g ρ w (PySem.call (.builtin "str.encode") [.str x t,.str e u] []) Q X:=λ{l} q h=>
  .grow (.v (.oc false l)) k (λQ E z=>h Q E λb t k hb=>z _ _ k (.refl _) ⟨b,t,rfl,hb⟩) q
 have go:(Fast.sEq e (Str.ofString "utf-8")=true/\Gd (x.cps.toList.all c7) ((aZ x).length<=16777216/\Q (.v (.oc false (aZ x))) w.S))\/Gd (Fast.sEq e (Str.ofString "ascii")) (Gd (x.cps.toList.all λc=>Nat.blt c 128) (x.cps.toList.length<=16777216/\Q (.v (.oc false (aY x))) w.S)):=by
  unfold FS at q
  cases h:Fast.sEq e (Str.ofString "utf-8")with
  | true=>rw[h]at q;exact .inl ⟨rfl,q⟩
  | false=>rw[h]at q;exact .inr q
 rcases go with⟨h,q⟩|q
 ·cases Fast.sEq_iff.mp h
  exact fin q.p.2 λQ E z=>kT (s:=g.at w) (cd:=Builtin._codecs.utf8Codec) Ji (λself=>encodeRoad_utf8 _ _ _ _) (λc hc=>yF (List.all_eq_true.mp q.e c hc)) (by rw[sizeLine_eq];exact q.p.1) z
 ·cases Fast.sEq_iff.mp q.e
  have q:=q.p
  refine fin q.p.2 λQ E z=>kT (s:=g.at w) (cd:=Builtin._codecs.asciiCodec) ID (λself=>FL) (λc hc=>HN (List.all_eq_true.mp q.e c hc)) ?_ λb t k hb=>z b t k (hb.trans (i4 x))
  show(x.cps.toList.flatMap λc=>[c.toUInt8]).length<=_
  rw[i4,sizeLine_eq];unfold aY;rw[List.length_map];exact q.p.1
theorem Az(k:Ok g ρ w)(ra:bN g w args vs)(q:Hx args λa=>Q (.v a) w.S):ET g ρ w (PySem.call (.builtin "bytes.decode") vs []) Q X:=by
 obtain⟨a,b,v,u,rfl,r1,r2,q⟩:=ia ra q
 obtain⟨b,t,rfl,q⟩:=xV r1 q
 obtain⟨e,u,rfl,q⟩:=fw r2 q
 have go:(Fast.sEq e (Str.ofString "utf-8")=true/\∃x:Str,x.cps.toList.all c7=true/\x.cps.toList.length<=16777216/\aZ x=b.toList/\Q (.v (.str x)) w.S)\/Gd (Fast.sEq e (Str.ofString "ascii")) (∃x:Str,(x.cps.toList.all λc=>Nat.blt c 128)=true/\x.cps.toList.length<=16777216/\aY x=b.toList/\Q (.v (.str x)) w.S):=by
  unfold FK at q
  cases h:Fast.sEq e (Str.ofString "utf-8")with
  | true=>rw[h]at q;exact .inl ⟨rfl,q⟩
  | false=>rw[h]at q;exact .inr q
 rcases go with⟨h,x,k1,k2,k3,q'⟩|q
 ·cases Fast.sEq_iff.mp h
  exact .str k (λQ E z=>kX (s:=g.at w) (g:=Str.utf8Of) (.inl rfl) (λq0 q1=>KBd.road_eq) HC (List.all_eq_true.mp k1) (by rw[sizeLine_eq];exact k2) k3.symm λt k=>z t k) q'
 ·cases Fast.sEq_iff.mp q.e
  obtain⟨x,k1,k2,k3,q⟩:=q.p
  exact .str k (λQ E z=>kX (s:=g.at w) (.inr rfl) (λq0 q1=>yr) Hz (List.all_eq_true.mp k1) (by rw[sizeLine_eq];exact k2) (k3.symm.trans (i4 x).symm) λt k=>z t k) q
theorem tO(k:Ok g ρ w)(ra:bN g w args vs)(q:vd args λa=>Q (.v a) w.S):ET g ρ w (PySem.call (.type "bytes") vs []) Q X:=by
 obtain⟨a,v,rfl,r,q⟩:=eJ ra q
 obtain⟨a,r,q⟩:=a9 r q
 cases a with
 | int i=>obtain⟨t,rfl⟩:=r;exact .byt k (λQ E z=>uy (s:=g.at w) q.1 q.2.1 λt k=>z t k) (Array.toList_replicate ..) q.2.2
 | oc kk b=>cases kk with
  | false=>obtain⟨b,t,rfl,rfl⟩:=r;exact .byt k (λQ E z=>oP (s:=g.at w) λt k=>z t k) rfl q.2
  | true=>obtain⟨a,b,rfl,rfl,hb⟩:=BO.isBa k.imm r;exact .byt k (λQ E z=>yV (s:=g.at w) hb (Array.length_toList▸q.1) λt k=>z t k) rfl q.2
 | list l=>
  obtain _|⟨a,_|_⟩:=l
  ·exact q.elim
  ·obtain⟨la,ws,rfl,h1,v,_,rfl,r,rfl⟩:=b6 k.imm r
   obtain⟨i,t,rfl,k0,k1,q⟩:=bD r q
   exact .grow (.v (.oc false [i.toNat.toUInt8])) k (λQ E z=>call_bytes_ints (s:=g.at w) (ns:=[i]) h1 (.cons i t .nil) (λn hn=>by rw[List.mem_singleton.mp hn];exact⟨k0,k1⟩) (by rw[sizeLine_eq];show 1<=16777216;decide) k.fr.a.handled λh' t k hk=>z _ h' k hk ⟨_,t,rfl,rfl⟩) q
  ·exact q.elim
 | _=>exact q.elim
end
abbrev sk(a b:Str):Prop:=Spec.ltCps b.cps.toList a.cps.toList=false
theorem m5{a b:Str}:sk a b↔ ¬b.cps.toList<a.cps.toList:=by unfold sk;rw[ltCps_eq];exact decide_eq_false_iff_not
theorem uG{a b:Str}(h:Spec.ltCps a.cps.toList b.cps.toList=true):sk a b:=by
 rw[m5];rw[ltCps_eq]at h
 exact List.lt_asymm (of_decide_eq_true h)
theorem lq{a b d:Str}(x:sk a b)(y:sk b d):sk a d:=by
 rw[m5]at*
 exact List.not_lt.mpr (List.le_trans (List.not_lt.mp x) (List.not_lt.mp y))
theorem ym{a b:Str}(x:sk a b)(y:sk b a):a=b:=by
 rw[m5]at*
 obtain⟨a⟩:=a;obtain⟨b⟩:=b
 exact congrArg Str.mk (Array.toList_inj.mp (List.le_antisymm (List.not_lt.mp x) (List.not_lt.mp y)))
theorem sd(x y:Str)(r:List Str):tn x (y::r)=bif Spec.ltCps y.cps.toList x.cps.toList then y::tn x r else x::y::r:=rfl
theorem kI(x:Str)(l:List Str):(tn x l).Perm (x::l):=by
 induction l with
 | nil=>exact .refl _
 | cons y r ih=>
  rw[sd]
  cases Spec.ltCps y.cps.toList x.cps.toList with
  | true=>exact(ih.cons y).trans (.swap x y r)
  | false=>exact .refl _
theorem dR(l:List Str):(a8 l).Perm l:=by
 induction l with
 | nil=>exact .refl _
 | cons x r ih=>exact(kI x (a8 r)).trans (ih.cons x)
theorem AC{x:Str}{l:List Str}:l.Pairwise sk->(tn x l).Pairwise sk:=by
 induction l with
 | nil=>exactλq0=>List.pairwise_singleton ..
 | cons y r ih=>
  intro h
  have h:=List.pairwise_cons.mp h
  rw[sd]
  cases e:Spec.ltCps y.cps.toList x.cps.toList with
  | true=>exact List.pairwise_cons.mpr ⟨λz m=>(List.mem_cons.mp ((kI x r).mem_iff.mp m)).elim (λe'=>e'▸uG e) (h.1 z),ih h.2⟩
  | false=>exact List.pairwise_cons.mpr ⟨λz m=>(List.mem_cons.mp m).elim (λe'=>e'▸e) λm=>lq (b:=y) e (h.1 z m),List.pairwise_cons.mpr h⟩
theorem vR(l:List Str):(a8 l).Pairwise sk:=by
 induction l with
 | nil=>exact .nil
 | cons x r ih=>exact AC ih
theorem ud{l:List Str}:∀{p:Str},risingS p l=true->(p::l).Pairwise sk:=by
 induction l with
 | nil=>exactλq0=>List.pairwise_singleton ..
 | cons x r ih=>
  intro p h
  have h:(!Spec.ltCps x.cps.toList p.cps.toList&&risingS x r)=true:=h
  rw[Bool.and_eq_true,Bool.not_eq_true']at h
  have ih:=ih h.2
  exact List.pairwise_cons.mpr ⟨λz m=>(List.mem_cons.mp m).elim (λe=>e▸h.1) λm=>lq (b:=x) h.1 ((List.pairwise_cons.mp ih).1 z m),ih⟩
theorem AX{l:List Str}:∀{l':List Str},l.Perm l'->l.Pairwise sk->l'.Pairwise sk->l=l':=by
 induction l with
 | nil=>exactλp q0 q1=>(List.nil_perm.mp p).symm
 | cons x r ih=>
  intro l' p h h'
  cases l' with
  | nil=>exact absurd (List.perm_nil.mp p) (List.cons_ne_nil _ _)
  | cons y t=>
   have hx:=List.pairwise_cons.mp h
   have hy:=List.pairwise_cons.mp h'
   have e:x=y:=(List.mem_cons.mp (p.mem_iff.mp (List.mem_cons_self ..))).elim id λm=>(List.mem_cons.mp (p.symm.mem_iff.mp (List.mem_cons_self ..))).elim Eq.symm λm'=>ym (hx.1 y m') (hy.1 x m)
   subst e
   rw[ih (List.perm_cons x |>.mp p) hx.2 hy.2]
theorem tN{l r:List Str}(p:r.Perm l)(h:sortedS r=true):r=a8 l:=
 AX (p.trans (dR l).symm) (by cases r with|nil=>exact .nil|cons x r=>exact ud h) (vR l)
section
variable {T:aB}{g:Fr}{ρ ρ':aa}{w w':W}{Q:Op->St->Prop}{K:AV->Prop}{X:aa->St->Prop}{v u:Value}{C:Addr}{x:Str}{args:List Op}{vs:List Value}
theorem nY{P:Params}{I:PH}{vs:List Value}{ks:List Str}(h:StrsAre vs ks):a0 P I (ks.map .str) vs:=by
 induction h with
 | nil=>rfl
 | cons y t _ ih=>exact⟨_,_,rfl,⟨t,rfl⟩,ih⟩
theorem xT{ks:List Str}:∀{vs:List Value},vs.length=ks.length->(∀(j:Nat) (v:Value),vs[j]? =some v->∃k t,ks[j]? =some k/\v=.str k t)->StrsAre vs ks:=by
 induction ks with
 | nil=>intro vs e h;cases vs with
  | nil=>exact .nil
  | cons _ _=>cases e
 | cons k ks ih=>
  intro vs e h
  cases vs with
  | nil=>cases e
  | cons v vs=>
   obtain⟨k',t,e1,rfl⟩:=h 0 v rfl
   cases e1
   exact .cons k t (ih (Nat.succ.inj e) λj v e=>h (j+1) v e)
theorem mK{prog:Program}{wd:World}{k:Str}{v:Value}(h:(PySem.strKind prog wd).is k v=true):∃t,v=.str k t:=by
 cases v with
 | str x t=>exact⟨t,by rw[beq_iff_eq.mp (show(x==k)=true from h)]⟩
 | _=>cases h
inductive zD(c:Cx)(h:Heap)(l:List (Str×AV))(v:Value):Prop
 | mk (la:Addr) (kvs:List (Str×Value)) (ep:Nat) (e:v=.ref la) (m:kvs.map (·.1)=l.map (·.1)) (lk:kvs.length=l.length) (at':h.DictAt (strKind c.prog c.w) la kvs ep) (no:(la==sysModules)=false)
theorem iP{l:List (Str×AV)}(k:Ok g ρ w)(r:rep g.c.P w.I (.dict l) v):zD g.c w.h l v:=by
 obtain⟨la,o,es,n,rfl,e1,e2,e3,e4,e5,e6,e7⟩:=r
 obtain⟨kvs,hD,m,rr⟩:=eT (k.imm _ _ e1) e2 e4 e5 e6
 obtain⟨ep,hat⟩:=hD.dictAt
 exact⟨la,kvs,ep,rfl,m,by have:=congrArg List.length m;rwa [List.length_map,List.length_map]at this,hat,e7⟩
theorem oB{c:Cx}{kvs:List (Str×Value)}{l:List (Str×AV)}{acc:Array Value}(m:kvs.map (·.1)=l.map (·.1))(hacc:ItemsOf (λi v=>∃k x,kvs[i]? =some (k,x)/\(strKind c.prog c.w).is k v=true) acc kvs.length):StrsAre acc.toList (l.map (·.1)):=by
 refine xT ?_ λj v hv=>?_
 ·rw[Array.length_toList,hacc.1,<-m,List.length_map]
 ·obtain⟨k,x,hk,hi⟩:=hacc.2 j v (by rw[<-Array.getElem?_toList];exact hv)
  obtain⟨t,rfl⟩:=mK hi
  exact⟨k,t,by rw[<-m,List.getElem?_map,hk];rfl,rfl⟩
theorem u3{l:List (Str×AV)}(k:Ok g ρ w)(r:rep g.c.P w.I (.dict l) v)(q:l.length<=16777216/\Q (.v (.list (l.map λp=>.str p.1))) w.S):ET g ρ w (PySem.call (.type "list") [v] []) Q X:=by
 obtain⟨la,kvs,ep,rfl,m,lk,hat,no⟩:=iP k r
 refine .new (.list (l.map λp=>.str p.1)) k (λQ E z=>kdl_call (s:=g.at w) (kdl_dict (knd:=strKind g.c.prog g.c.w) (kvs:=kvs) (ep:=ep) no) k.fr.a.handled hat (by rw[sizeLine_eq,lk];exact q.1) λh' tk acc c' hk hD hacc=>z _ _ h' tk hk (ax _) hD (λq0=>nofun) λJ le i=>⟨_,_,acc,c',rfl,i,rfl,rfl,?_⟩) q.2
 rw[show(l.map λp=>AV.str p.1)=(l.map (·.1)).map .str from(List.map_map ..).symm]
 exact nY (oB m hacc)
theorem qB(k:Ok g ρ w)(ra:bN g w args vs)(q:rG args λa=>Q (.v a) w.S):ET g ρ w (PySem.call (.builtin "sorted") vs []) Q X:=by
 refine bp λGG1 hG1=>?_
 obtain⟨a,v,rfl,r,q⟩:=eJ ra q
 obtain⟨a,r,q⟩:=a9 r q
 refine hG1 ?_
 cases a with
 | dict l=>
  have q:l.length<64/\Q (.v (.list ((a8 (l.map (·.1))).map .str))) w.S:=q
  refine bp λGG2 hG2=>?_
  obtain⟨la,kvs,ep,rfl,m,lk,hat,no⟩:=iP k r
  refine hG2 ?_
  have lz:kvs.length<64:=lk▸q.1
  refine .new (.list ((a8 (l.map (·.1))).map .str)) k (λQ E z=>?_) q.2
  refine call_function_entry kind_sorted plain_sorted entry_sorted (args_sorted1 _) ?_
  unfold Builtin.«sorted»
  refine wpAny_bind (m:=checkCount "sorted" 1 1 _) (wpAny_pure ?_)
  refine wpAny_bind (kdu_collect (s:=g.at w) (A:=g.A.in1) (kdl_dict (knd:=strKind g.c.prog g.c.w) (kvs:=kvs) (ep:=ep) no) k.fr.a.handled hat (by rw[sizeLine_eq];exact uB 0x80000021000087ff800004040900c00c q.1 lk) λh' tk acc hk hacc=>?_)
  have hS:=oB m hacc
  have hl:acc.toList.length=kvs.length:=by rw[Array.length_toList];exact hacc.1
  refine wpAny_bind (wpAny_newList ?_ (by rw[hl,sizeLine_eq];exact uB 0x80000021000087ff800004040900c00c q.1 lk))
  have hoL:(h'.push {cls:=.type "list",data:=.seq acc.toList.toArray}).get? h'.objs.size=some (seqObj "list" acc.toList.toArray 0):=Heap.get?_push_size _ rfl
  refine wpAny_bind (wpAny_holding (wpAny_call_entry slot_list_sort ⟨_,hoL,rfl⟩ entry_list_sort (list_sort_treeK strKind_oneLt hoL hS.keysOf (λv₁ v₂ rest e=>keyKind_strs (by rw[<-e];exact hS)) (by rw[hl];exact lz) λst' hp hs=>⟨_,rfl,?_⟩) (args_list_sort _)))
  refine bp λGG3 hG3=>?_
  obtain⟨ss',h1,h2,h3⟩:=sorted_out_str hS hp hs
  obtain⟨e,he⟩:=sortedHeap_at (out:=(arrOf st').map (·.2)) hoL
  refine hG3 ?_
  refine wpAny_pure ⟨_,rfl,z _ _ _ _ (λb o hb=>?_) (g8 (λo q=>dG (hk _ o q)) (ax _)) he (λq0=>nofun) λJ le i=>⟨_,_,_,e,rfl,i,rfl,rfl,?_⟩⟩
  ·have hb':=hk b o hb
   have lt:=Heap.lt_size hb'
   rw[sortedHeap_old (Nat.ne_of_lt lt) (by rw[size_push'];exact Nat.lt_succ_of_lt lt)]
   exact Heap.get?_push_of_some _ hb'
  ·rw[<-tN h2 h3];exact nY h1
 | _=>exact q.elim
end
section
variable {T:aB}{g:Fr}{ρ ρ':aa}{w w':W}{Q:Op->St->Prop}{X:aa->St->Prop}{v u:Value}{C:Addr}{x:Str}
structure yX(g:Fr)(w:W)(L:jh)(vs:List Value):Prop where
 o:∀p,L.o=some p->om w.loc[p.1]? λa=>bU w.h a p.2
 d:∀p,L.d=some p->om w.loc[p.1]? λa=>cm w.h a (gQ p.2)
 a:∀sl:Sl,(∀p,L.o=some p->sl.oct=w.loc[p.1]?)->(∀p,L.d=some p->sl.drw=w.loc[p.1]?)->oprs g.c.P sl w.I [] L.args vs
inductive B2(g:Fr)(w:W)(vs:List Value)(K:jh->Prop):Prop
 | mk (L:jh) (k:K L) (r:yX g w L vs)
theorem eu{α:Type}{x:Option α}{C:α->Prop}(e:x.isNone=true):∀p,x=some p->C p:=λp q=>by rw[q]at e;cases e
theorem ints_map(xs:List (Int×Tok)):IntsAre (xs.map λp=>.int p.1 p.2) (xs.map (·.1)):=by
 induction xs with
 | nil=>exact .nil
 | cons x r ih=>exact .cons x.1 x.2 ih
theorem ints_rep{P:Params}{I:PH}{vs:List Value}{ns:List Int}(h:IntsAre vs ns):a0 P I (ns.map .int) vs:=by
 induction h with
 | nil=>rfl
 | cons n t _ ih=>exact⟨_,_,rfl,⟨t,rfl⟩,ih⟩
theorem cm.ints{P:Params}{I:PH}{h:Heap}{a:Addr}{l:List AV}{K:List Int->Prop}(r:cm h a (a0 P I l))(q:intsOf l K):∃ns,cm h a (gQ ns)/\K ns:=by
 obtain⟨o,y,n,e,c,z,s,d,r⟩:=r
 obtain⟨xs,e2,k⟩:=pQ r q
 exact⟨_,⟨o,y,n,e,c,z,s,d,(show IntsAre y.toList (xs.map (·.1))from e2▸ints_map xs)⟩,k⟩
theorem yW{op:Op}{L:jh}{vs:List Value}{K:jh->Prop}(k:Ok g ρ w)(rL:yX g w L vs)(r:bB g w op v)(q:sG w.S op L K):B2 g w (v::vs) K:=by
 cases op with
 | v a=>exact⟨_,q,rL.o,rL.d,λsl h1 h2=>⟨_,_,rfl,r,rL.a sl h1 h2⟩⟩
 | loc i=>
  obtain⟨lo,e,q⟩:=ay q
  obtain⟨a,ha,rfl⟩:=r
  have l:=k.loc _ _ _ ha e
  cases lo with
  | ba b=>exact⟨_,Gd.p q,λp z=>(by cases z;exact⟨a,ha,l⟩),rL.d,λsl h1 h2=>⟨_,_,rfl,⟨a,(h1 _ rfl).trans ha,rfl⟩,rL.a sl (eu (Gd.e q)) h2⟩⟩
  | list l'=>
   obtain⟨ns,l,q'⟩:=cm.ints l (Gd.p q)
   exact⟨_,q',rL.o,λp z=>(by cases z;exact⟨a,ha,l⟩),λsl h1 h2=>⟨_,_,rfl,⟨a,(h2 _ rfl).trans ha,rfl⟩,rL.a sl h1 (eu (Gd.e q))⟩⟩
  | _=>exact q.elim
 | _=>exact q.elim
theorem ya{ops:List Op}(k:Ok g ρ w):∀{vs:List Value} {K:jh->Prop},bN g w ops vs->mj w.S ops K->B2 g w vs K:=by
 induction ops with
 | nil=>intro vs K r q;cases r;exact⟨_,q,λq0 z=>(nomatch z),λq0 z=>(nomatch z),λq0 q1 q2=>rfl⟩
 | cons o ops ih=>
  intro vs K r q
  obtain⟨v,vs,rfl,r,r'⟩:=r
  obtain⟨L,q,rL⟩:=ih r' q
  exact yW k rL r q
inductive Gc{α:Type}(o:Option (Nat×α))(x:Option α)(f:α->LO)(l:List LO)(i:Nat)(lo:LO):Prop
 | old (e:l[i]? =some lo) (n:∀p,o=some p->i≠p.1)
 | new (p:Nat×α) (b:α) (e:o=some p) (i:i=p.1) (s:x=some b) (q:lo=f b)
inductive GI{α:Type}(o:Option (Nat×α))(x:Option α)(f:α->LO)(l:List LO)(K:List LO->Prop):Prop
 | mk (l':List LO) (k:K l') (len:l'.length=l.length) (h:∀i lo,l'[i]? =some lo->Gc o x f l i lo)
theorem sC{α:Type}{o:Option (Nat×α)}{y:Option α}{f:α->LO}{l:List LO}{K:List LO->Prop}(q:zq o y f l K):GI o y f l K:=by
 cases o with
 | none=>exact⟨l,q,rfl,λi lo e=>.old e (λq0 z=>nomatch z)⟩
 | some p=>
  obtain⟨b,e,q⟩:=ay q
  refine⟨_,q,List.length_set ..,λi lo h=>?_⟩
  by_cases z:i=p.1
  ·rw[<-z,List.getElem?_set,if_pos rfl]at h
   split at h
   ·cases h;exact .new p b rfl z e rfl
   ·cases h
  ·rw[List.getElem?_set_ne (Ne.symm z)]at h
   exact .old h λp' z'=>by cases z';exact z
inductive Gk{α:Type}(o:Option (Nat×α))(l:List Addr)(a:Addr):Prop
 | mk (p:Nat×α) (e:o=some p) (h:l[p.1]? =some a)
theorem wx{α:Type}{o:Option (Nat×α)}{l:List Addr}{a:Addr}(q:(o.bind λp=>l[p.1]?)=some a):Gk o l a:=by
 cases o with
 | none=>cases q
 | some p=>exact⟨p,rfl,q⟩
theorem g5{α:Type}{o:Option (Nat×α)}{p:Nat×α}{l:List Addr}(e:o=some p):(o.bind λp=>l[p.1]?)=l[p.1]? :=by rw[e];rfl
theorem z6{h:Heap}{a:Addr}{b:List UInt8}{L:List Value->Prop}(x:bU h a b)(y:cm h a L):False:=by
 obtain⟨o,_,e,c,_⟩:=x
 obtain⟨o',_,_,e',c',_⟩:=y
 cases aM e e'
 exact absurd (c.symm.trans c') (by decide)
theorem yT{f:Addr}{ops:List Op}{vs:List Value}(k:Ok g ρ w)(ra:bN g w ops vs)(q:xe g.c g.n f ops w.S Q):ET g ρ w (PySem.call (.ref f) vs []) Q X:=λQ' E z1 z2=>by
 have z:=q.e
 obtain⟨L,ct,r⟩:=ya k ra q.p
 let sl:Sl:=⟨L.o.bind λp=>w.loc[p.1]?,L.d.bind λp=>w.loc[p.1]?,none⟩
 have nd:w.loc.Nodup:=(List.nodup_append.mp (List.nodup_append.mp k.nodup).2.1).1
 have shO:∀{a},sl.oct=some a->∃p,L.o=some p/\w.loc[p.1]? =some a/\bU w.h a p.2:=λ{a} e=>by
  obtain⟨p,e1,e2⟩:=wx e
  obtain⟨a',e3,h⟩:=r.o p e1
  cases aM e2 e3
  exact⟨p,e1,e2,h⟩
 have shD:∀{a},sl.drw=some a->∃p,L.d=some p/\w.loc[p.1]? =some a/\cm w.h a (gQ p.2):=λ{a} e=>by
  obtain⟨p,e1,e2⟩:=wx e
  obtain⟨a',e3,h⟩:=r.d p e1
  cases aM e2 e3
  exact⟨p,e1,e2,h⟩
 have shm:∀a∈sl.as,a∈w.loc:=λa m=>(Sl.mem.mp m).elim (λm=>(shO m).elim λp h=>List.mem_of_getElem? h.2.1) λm=>m.elim (λm=>(shD m).elim λp h=>List.mem_of_getElem? h.2.1) nofun
 have C:fH g.c.P g.c.H0 g.all sl {oct:=L.o.map (·.2),drw:=L.d.map (·.2),slf:=none} w.I w.h:=by
  refine⟨k.base,k.imm,k.nof,?_,λa m=>k.apart a (Fr.ml (shm a m)),⟨λb e=>?_,λb e=>?_,nofun⟩,λa m=>k.live a (Fr.ml (shm a m)),k.frames,λa m z=>k.loc_f (shm a z) m,k.fI⟩
  ·show(sl.oct.toList++(sl.drw.toList++[])).Nodup
   rw[List.append_nil]
   cases ho:sl.oct with
   | none=>cases sl.drw with
    | none=>exact List.nodup_nil
    | some a=>exact List.nodup_cons.mpr ⟨List.not_mem_nil,List.nodup_nil⟩
   | some a=>
    refine List.nodup_cons.mpr ⟨λm=>?_,?_⟩
    ·cases hd:sl.drw with
     | none=>rw[hd]at m;cases m
     | some b=>
      rw[hd]at m
      cases List.mem_singleton.mp m
      obtain⟨_,_,_,h1⟩:=shO ho
      obtain⟨_,_,_,h2⟩:=shD hd
      exact z6 h1 h2
    ·cases sl.drw with
     | none=>exact List.nodup_nil
     | some a=>exact List.nodup_cons.mpr ⟨List.not_mem_nil,List.nodup_nil⟩
  ·obtain⟨p,hp,rfl⟩:=Option.map_eq_some_iff.mp e
   obtain⟨a,e1,h⟩:=r.o p hp
   exact⟨a,(g5 hp).trans e1,h⟩
  ·obtain⟨p,hp,rfl⟩:=Option.map_eq_some_iff.mp e
   obtain⟨a,e1,h⟩:=r.d p hp
   exact⟨a,(g5 hp).trans e1,h⟩
 refine bT (ct.run g.A g.all sl w.I w.h w.tk vs [] _ k.fr.a C (r.a sl (λp e=>g5 e) λp e=>g5 e) rfl λr' s' i=>?_)
 cases i with
 | ex t c x q=>exact q.elim
 | ok t c rv q=>
  obtain⟨l1,q,len1,h1⟩:=sC q
  obtain⟨l2,q,len2,h2⟩:=sC q
  have nt:∀i a,w.loc[i]? =some a->(∀p,L.o=some p->i≠p.1)->(∀p,L.d=some p->i≠p.1)->a∉sl.as:=λi a e n1 n2 m=>(Sl.mem.mp m).elim (λm=>(shO m).elim λp h=>n1 p h.1 (gG nd e h.2.1)) λm=>m.elim (λm=>(shD m).elim λp h=>n2 p h.1 (gG nd e h.2.1)) nofun
  have zs:=Bool.and_eq_true_iff.mp z
  have zt:=Bool.and_eq_true_iff.mp zs.2
  refine z1 _ _ (Nx.lent (S':={w.S with loc:=l2}) k (.refl _) (.refl _) (λq0 q1 e=>.inl e) (λa m=>.inl (.inl (shm a m))) (λa m=>k.apart a m) t c (len2.trans len1) (λi a lo e1 e2=>?_) ⟨eu zs.1,eu zt.1,eu zt.2⟩) ⟨.v _,rv,q⟩
  cases h2 i lo e2 with
  | old e3 n2=>
   cases h1 i lo e3 with
   | old e4 n1=>exact .inl ⟨nt i a e1 n1 n2,e4⟩
   | new p b e i' s q=>
    subst q i'
    obtain⟨a',e5,h⟩:=c.sh.oct b s
    cases aM ((g5 e).symm.trans e5) e1
    exact .inr h
  | new p b e i' s q=>
   subst q i'
   obtain⟨a',e5,h⟩:=c.sh.drw b s
   cases aM ((g5 e).symm.trans e5) e1
   exact .inr (cm.mono (λq0=>id) (λq0=>ints_rep) h)
end
structure aH(c:Cx)(T:aB):Prop where
 gl:qS c T
 co:cM c T
 ini:∀C f,T.ini C=some f->qj c C f
 keep:∀f,T.keep f=true->keepIn c.K (.ref f)=true
 fb:findCls c.K (.type "int") (.type "type") (PySem.Str.ofString "from_bytes")=some (.get (.builtin "classmethod_descriptor.__get__") (.builtin "int.from_bytes") .none (.type "int"))
section
variable {T:aB}{g:Fr}{ρ ρ':aa}{w w':W}{Q:Op->St->Prop}{X:aa->St->Prop}{v u:Value}{args:List Op}{vs:List Value}
theorem xE{b:Bi}(F:aH g.c T)(k:Ok g ρ w)(ra:bN g w args vs)(q:Jr g.c T g.n b args ρ w.S Q X):ET g ρ w (PySem.call (.builtin b.id) vs []) Q X:=by
 cases b with
 | len=>exact Ap k F.co ra q
 | isinstance=>exact VT.et (zU k ra q)
 | all=>exact VT.et (gW (b:=.all) k ra q)
 | min=>exact VT.et (gW (b:=.min) k ra q)
 | max=>exact VT.et (gW (b:=.max) k ra q)
 | sorted=>exact qB k ra q
 | encode=>exact A0 k ra q
 | decode=>exact Az k ra q
 | toBytes=>exact VT.et (EM k ra q)
 | fromBytes=>exact q.elim
 | append=>exact ze (m:=.append) k ra q
 | pop=>exact ze (m:=.pop) k ra q
 | baAppend=>exact zi (m:=.baAppend) (Gd.e q) k ra (Gd.p q)
 | baExtend=>exact zi (m:=.baExtend) (Gd.e q) k ra (Gd.p q)
theorem y3(k:Ok g ρ w)(ra:bN g w args vs)(q:gV args λa=>fc a λa=>Cf a λa=>Q (.v a) w.S):ET g ρ w (PySem.call (.type "list") vs []) Q X:=by
 obtain⟨a,v,rfl,r,q⟩:=eJ ra q
 obtain⟨a,r,q⟩:=a9 r q
 cases a with
 | dict l=>exact u3 k r q
 | list l=>exact VT.et (l6 (a:=.v (.list l)) k r q)
 | tuple l=>exact VT.et (l6 (a:=.v (.tuple l)) k r q)
 | _=>exact q.elim
theorem Aa(F:aH g.c T)(k:Ok g ρ w)(ra:bN g w args vs)(q:tyP g.c T g.n .str args ρ w.S Q X):ET g ρ w (PySem.call (.type "str") vs []) Q X:=by
 obtain⟨a,v,rfl,r,q⟩:=eJ ra q
 rcases m6 q with⟨C,fs,rfl,q⟩|q
 ·exact zV k F.co r q
 ·exact q.elim
theorem ER{t:Ty}(F:aH g.c T)(k:Ok g ρ w)(ra:bN g w args vs)(q:tyP g.c T g.n t args ρ w.S Q X):ET g ρ w (PySem.call (.type t.name) vs []) Q X:=by
 cases t with
 | list=>exact y3 k ra q
 | bytes=>exact tO k ra q
 | str=>exact Aa F k ra q
 | int=>exact VT.et (gU (t:=.int) k ra q)
 | bool=>exact VT.et (gU (t:=.bool) k ra q)
 | tuple=>exact VT.et (gU (t:=.tuple) k ra q)
 | _=>exact q.elim
theorem xj{l:List Op}(n:l.any Op.isLoc=false):(!l.any Op.isLoc)=true:=by rw[n];rfl
theorem iN{f:Addr}(k:Ok g ρ w)(nl:(!args.any Op.isLoc)=true)(ra:bN g w args vs)(q:cA g.c g.n f args [] ρ w.S Q X):ET g ρ w (PySem.call (.ref f) vs []) Q X:=.call (kw:=[]) (kvals:=[]) k k.fr.a (iJ nl ra) rfl q
theorem zK{f:Addr}(F:aH g.c T)(k:Ok g ρ w)(ra:bN g w args vs)(q:Ep g.c T g.n f args ρ w.S Q X):ET g ρ w (PySem.call (.ref f) vs []) Q X:=by
 unfold Ep at q
 cases e:T.ini f with
 | some f'=>
  rw[e]at q
  have q:Ct g.c g.n f f' args ρ w.S Q X:=q
  have a:=k.fr.a
  cases hn:g.n with
  | zero=>rw[hn]at q;exact q.elim
  | succ m=>rw[hn]at q a;exact TE.make k a (F.ini _ _ e) (Gd.e q) ra (Gd.p q)
 | none=>
  rw[e]at q
  have q:bif args.any Op.isLoc then xe g.c g.n f args w.S Q else cA g.c g.n f args [] ρ w.S Q X:=q
  cases h:args.any Op.isLoc with
  | true=>rw[h]at q;exact yT k ra q
  | false=>rw[h]at q;exact iN k (xj h) ra q
theorem pX{f:AV}(F:aH g.c T)(k:Ok g ρ w)(rf:rep g.c.P w.I f v)(ra:bN g w args vs)(q:l7 g.c T g.n f args ρ w.S Q X):ET g ρ w (PySem.call v vs []) Q X:=by
 cases f with
 | ref f=>cases rf;exact zK F k ra q
 | ty t=>cases rf;exact ER F k ra q
 | bi b=>cases rf;exact xE F k ra q
 | _=>exact q.elim
theorem Aq{cal:jT}{a:Op}{p:Value×List Value}(F:aH g.c T)(k:Ok g ρ w)(ra:bB g w a v)(rc:mZ g v cal p w)(ro:bN g w args vs)(q:ES g.c T g.n cal a args ρ w.S Q X):ET g ρ w (PySem.call p.1 (p.2++vs) []) Q X:=by
 cases cal with
 | fn f b=>
  obtain⟨rfl,_⟩:=rc
  cases b with
  | true=>exact iN k (Gd.e q) ⟨v,vs,rfl,ra,ro⟩ (Gd.p q)
  | false=>exact iN k (Gd.e q) ro (Gd.p q)
 | bi b=>cases rc;exact xE F k (args:=a::args) (vs:=v::vs) ⟨v,vs,rfl,ra,ro⟩ q
 | fromB=>
  obtain⟨y,rfl,h,_,_⟩:=rc
  obtain⟨o,l,v1,v2,rfl,r1,r2,q⟩:=ia ro q
  obtain⟨l,t,rfl,q⟩:=fw r2 q
  cases Fast.sEq_iff.mp q.e
  exact VT.et (vn k h r1 q.p)
end
def Ib(g:Fr)(w:W):fe->Prop
 |.E sc e ρ S Q X=>g.sc=sc->w.S=S->Ok g ρ w->ET g ρ w (eval e g.env) Q X
 |.T sc e ρ S K X=>g.sc=sc->w.S=S->Ok g ρ w->BT g ρ w (isTrue e g.env (eval e g.env)) K X
 |.C sc a ops cs ρ S K X=>g.sc=sc->w.S=S->Ok g ρ w->∀va p,bB g w a va->CT g ρ w (compareChain p va ops (markedEach ops cs (evalEach cs g.env))) K X/\BT g ρ w (testChain p va ops (markedEach ops cs (evalEach cs g.env))) K X
 |.A sc op es ρ S K X=>g.sc=sc->w.S=S->Ok g ρ w->BT g ρ w (allTrue op es g.env) K X
 |.V sc op es ρ S Q X=>g.sc=sc->w.S=S->Ok g ρ w->∀p,ET g ρ w (boolOp p op (evalEach es g.env)) Q X
 |.L sc es ρ S K X=>g.sc=sc->w.S=S->Ok g ρ w->AT g ρ w (spliced (es.map λe=>(false,eval e g.env))) K X
 |.S sc s ρ S Q X=>g.sc=sc->w.S=S->Ok g ρ w->cC g->ST g w (exec s g.env) Q X
 |.B sc ss ρ S Q X=>g.sc=sc->w.S=S->Ok g ρ w->cC g->ST g w (execs ss g.env) Q X
def aw(f:fe->Prop)(c:Cx)(n:Nat):Prop:=∀(g:Fr) (w:W) (j:fe),g.c=c->g.n=n->f j->Ib g w j
def Plain(f:fe->Prop):Prop:=∀sc e ρ S Q X op,f (.E sc e ρ S Q X)->behindInMarks op e=false
section
variable {T:aB}{g:Fr}{ρ ρ':aa}{w w':W}{Q:Op->St->Prop}{K:Bool->St->Prop}{X:aa->St->Prop}{f:fe->Prop}
theorem E1(F:aw f g.c g.n){e:Expr}(k:f (.E g.sc e ρ w.S Q X))(y:Ok g ρ w):ET g ρ w (eval e g.env) Q X:=F g w _ rfl rfl k rfl rfl y
theorem T1(F:aw f g.c g.n){e:Expr}(k:f (.T g.sc e ρ w.S K X))(y:Ok g ρ w):BT g ρ w (isTrue e g.env (eval e g.env)) K X:=F g w _ rfl rfl k rfl rfl y
theorem CT.et{t:Sem Value}(x:CT g ρ w t (λb S=>Q (.v (.bool b)) S) X):ET g ρ w t Q X:=x.mono λu w1 n hh=>hh.casesOn λb e q=>⟨.v (.bool b),e,q⟩
theorem jO{b:Bool}(y:Ok g ρ w)(q:K b w.S):BT g ρ w (truthy (.bool b)) K X:=.of λQ E z=>wpAny_truthy_bool (z _ w (.refl y) q)
theorem xU{a:Op}{ops:List CmpOp}{cs:List Expr}{va:Value}{p:Pos}(F:aw f g.c g.n)(P:Plain f)(y:Ok g ρ w)(k:CE f g.sc a ops cs ρ w.S K X)(ra:bB g w a va):
  CT g ρ w (compareChain p va ops (markedEach ops cs (evalEach cs g.env))) K X/\BT g ρ w (testChain p va ops (markedEach ops cs (evalEach cs g.env))) K X:=by
 cases ops with
 | nil=>exact k.elim
 | cons op ops=>
  cases cs with
  | nil=>exact k.elim
  | cons r rs=>
   cases ops with
   | nil=>
    cases rs with
    | cons _ _=>exact k.elim
    | nil=>
     have e1:markedEach [op] [r] (evalEach [r] g.env)=[eval r g.env]:=congrArg (λt=>[t]) (markedBehindIn_of_false (P _ _ _ _ _ _ op k))
     rw[e1]
     constructor
     ·exact(E1 F k y).hold.bind λvb w1 n1 hh=>hh.casesOn λb rb q=>.stand (.operate (iH n1.k (n1.opr ra) rb q))
     ·exact(E1 F k y).hold.bind λvb w1 n1 hh=>hh.casesOn λb rb q=>.stand (.bind (.operate (iH n1.k (n1.opr ra) rb q)) λvc w2 n2 hh=>hh.casesOn λr e q=>by subst e;exact .hold (jO n2.k q))
   | cons op2 ops=>
    cases rs with
    | nil=>exact k.elim
    | cons r2 rs=>
     rw[show markedEach (op::op2::ops) (r::r2::rs) (evalEach (r::r2::rs) g.env)=eval r g.env::markedEach (op2::ops) (r2::rs) (evalEach (r2::rs) g.env)from rfl]
     have k:f (.E g.sc r ρ w.S (λb S=>Ad op a b S λc S=>pv c (f (.C g.sc b (op2::ops) (r2::rs) ρ S K X)) (K false S)) X):=k
     constructor
     ·show CT g ρ w (do
       let rv <-holding [va] (eval r g.env)
       standAt p
       let c <-holding [va,rv] (compareOp op va rv)
       release [va,rv] [c]
       if <-holding [c,rv] (truthy c)then compareChain p rv (op2::ops) (markedEach (op2::ops) (r2::rs) (evalEach (r2::rs) g.env))else pure c) K X
      refine(E1 F k y).hold.bind λvb w1 n1 hh=>hh.casesOn λb rb q=>.stand (.bind (.hold (iH n1.k (n1.opr ra) rb q)) λvc w2 n2 hh=>hh.casesOn λr e q=>?_)
      subst e
      refine .rel (.bind (R:=λb2 w3=>b2=r/\pv b2 (f (.C g.sc b (op2::ops) (r2::rs) ρ w3.S K X)) (K false w3.S)) (.hold (.of λQ E z=>wpAny_truthy_bool (z _ w2 (.refl n2.k) ⟨rfl,q⟩))) λb2 w3 n3 q3=>?_)
      obtain⟨rfl,q3⟩:=q3
      cases b2 with
      | true=>exact(F g w3 _ rfl rfl q3 rfl rfl n3.k _ _ (n3.opr (n2.opr rb))).1
      | false=>exact .pure n3.k ⟨false,rfl,q3⟩
     ·show BT g ρ w (do
       let rv <-holding [va] (eval r g.env)
       standAt p
       let c <-holding [va,rv] (compareOp op va rv)
       release [va,rv] [c]
       if <-holding [c,rv] (truthy c)then testChain p rv (op2::ops) (markedEach (op2::ops) (r2::rs) (evalEach (r2::rs) g.env))else pure false) K X
      refine(E1 F k y).hold.bind λvb w1 n1 hh=>hh.casesOn λb rb q=>.stand (.bind (.hold (iH n1.k (n1.opr ra) rb q)) λvc w2 n2 hh=>hh.casesOn λr e q=>?_)
      subst e
      refine .rel (.bind (.hold (jO (K:=λc S=>pv c (f (.C g.sc b (op2::ops) (r2::rs) ρ S K X)) (K false S)) n2.k q)) λb2 w3 n3 q3=>?_)
      cases b2 with
      | true=>exact(F g w3 _ rfl rfl q3 rfl rfl n3.k _ _ (n3.opr (n2.opr rb))).2
      | false=>exact .pure n3.k q3
theorem rF{e:Expr}(F:aw f g.c g.n)(y:Ok g ρ w)(k:f (.E g.sc e ρ w.S (λa S=>iV a S K) X))(h:isTrue e g.env (eval e g.env)=(do let v <-eval e g.env;standAt e.pos;holding [v] (truthy v))):BT g ρ w (isTrue e g.env (eval e g.env)) K X:=by
 rw[h]
 exact(E1 F k y).bind λva w1 n1 hh=>hh.casesOn λa ra q=>.stand (.hold (lC n1.k ra q))
theorem yA{e:Expr}(F:aw f g.c g.n)(y:Ok g ρ w)(k:stepT f g.sc e ρ w.S K X):BT g ρ w (isTrue e g.env (eval e g.env)) K X:=by
 cases e with
 | UnaryOp op x p=>
  cases op with
  | Not=>
   show BT g ρ w (do return !(<-isTrue x g.env (eval x g.env))) K X
   exact(T1 F k y).bind λb w1 n1 q=>.pure n1.k q
  | _=>exact rF F y k rfl
 | BoolOp op es p=>exact F g w _ rfl rfl k rfl rfl y
 | IfExp t b o p=>
  show BT g ρ w (do if <-isTrue t g.env (eval t g.env)then isTrue b g.env (eval b g.env)else isTrue o g.env (eval o g.env)) K X
  refine(T1 F k y).bind λb1 w1 n1 q=>?_
  cases b1 with
  | true=>exact T1 F q n1.k
  | false=>exact T1 F q n1.k
 | Compare l ops cs p=>
  show BT g ρ w (do testChain p (<-eval l g.env) ops (markedEach ops cs (evalEach cs g.env))) K X
  exact(E1 F k y).bind λva w1 n1 hh=>hh.casesOn λa ra q=>(F g w1 _ rfl rfl q rfl rfl n1.k _ _ ra).2
 | _=>exact rF F y k rfl
set_option backward.match.sparseCases true in
theorem wW{op:BoolOp}{es:List Expr}(F:aw f g.c g.n)(y:Ok g ρ w)(k:BV f g.sc op es ρ w.S K X):BT g ρ w (allTrue op es g.env) K X:=by
 cases es with
 | nil=>cases op<;>exact .pure y k
 | cons e r=>
  show BT g ρ w (do
   match op,<-isTrue e g.env (eval e g.env)with
   |.And,false=>pure false
   |.Or,true=>pure true
   | _,_=>allTrue op r g.env) K X
  refine(T1 F k y).bind λb1 w1 n1 q=>?_
  cases op<;>cases b1
  ·exact .pure n1.k q
  ·exact F g w1 _ rfl rfl q rfl rfl n1.k
  ·exact F g w1 _ rfl rfl q rfl rfl n1.k
  ·exact .pure n1.k q
theorem yN{es:List Expr}{K:List Op->St->Prop}(F:aw f g.c g.n)(y:Ok g ρ w)(k:Bl f g.sc es ρ w.S K X):AT g ρ w (spliced (es.map λe=>(false,eval e g.env))) K X:=by
 cases es with
 | nil=>exact spliced_nil y k
 | cons e r=>exact spliced_cons (E1 F k y) λop w1 n1 q=>F g w1 _ rfl rfl q rfl rfl n1.k
set_option backward.match.sparseCases true in
theorem zd{op:BoolOp}{es:List Expr}{p:Pos}(F:aw f g.c g.n)(y:Ok g ρ w)(k:Cw f g.sc op es ρ w.S Q X):ET g ρ w (boolOp p op (evalEach es g.env)) Q X:=by
 cases es with
 | nil=>exact k.elim
 | cons e r=>
  cases r with
  | nil=>exact E1 F k y
  | cons e2 r=>
   show ET g ρ w (do
    let v <-eval e g.env
    standAt p
    let t <-holding [v] (truthy v)
    match op,t with
    |.And,false|.Or,true=>pure v
    | _,_=>boolOp p op (evalEach (e2::r) g.env)) Q X
   refine TE.bind (E1 F k y) λva w1 n1 hh=>hh.casesOn λa ra q=>.stand (.bind (.hold (lC n1.k ra q)) λb w2 n2 q=>?_)
   cases op<;>cases b
   ·exact ET.pure n2.k (n2.opr ra) q
   ·exact F g w2 _ rfl rfl q rfl rfl n2.k _
   ·exact F g w2 _ rfl rfl q rfl rfl n2.k _
   ·exact ET.pure n2.k (n2.opr ra) q
end
inductive WalkAt(c:Cx)(w:W)(l:List AV)(It:Addr)(St:Nat->Heap->Prop)(h':Heap):Prop
 | mk (fp:List Addr) (Pr:Nat->Value->Prop) (n:w.h.get? It=none) (gr:Grows w.h h') (W:∀A:Around,A.handled=none->Walks c.prog c.w A It fp [It] l.length Pr St) (fpI:∀b∈fp,b=It\/∃o,w.I b=some o)
   (live:∀i h,St i h->∃o,h.get? It=some o) (hp:∀i v,i<l.length->Pr i v->∃a,l[i]? =some a/\∀J,bb w.I J->rep c.P J a v) (st:St 0 h')
def Src(g:Fr)(w:W)(v:Value)(l:List AV):Prop:=∀(Q:Value->Shared->Prop) (E:Value->Shared->Prop),
 (∀(It:Addr) (St:Nat->Heap->Prop) (h':Heap) (tk:Nat),WalkAt g.c w l It St h'->Q (.ref It) (g.c.mk' h' tk))->wpAny g.c.M g.A (pyIter v) Q E (g.at w)
section
variable {g:Fr}{ρ ρ':aa}{w w':W}{v:Value}{l:List AV}
theorem pf{P:Params}{I:PH}{x:Array Value}(r:a0 P I l x.toList){i:Nat}(e:x[i]? =some v):∃a,l[i]? =some a/\∀J,bb I J->rep P J a v:=by
 have e:x.toList[i]? =some v:=Array.getElem?_toList.trans e
 have lt:i<l.length:=by rw[<-ak r];exact(List.getElem?_eq_some_iff.mp e).1
 obtain⟨v',e',r'⟩:=iU r i l[i] (List.getElem?_eq_getElem lt)
 cases aM e e'
 exact⟨_,List.getElem?_eq_getElem lt,λJ le=>bY le _ r'⟩
theorem Ic{I:PH}{a b:Addr}{o:Obj}(e:I b=some o):∀d∈[a,b],d=a\/∃o,I d=some o:=λd m=>(List.mem_cons.mp m).imp id λm=>⟨o,by rw[List.mem_singleton.mp m];exact e⟩
theorem src_list(k:Ok g ρ w)(r:rep g.c.P w.I (.list l) v):Src g w v l:=λQ E q=>by
 obtain⟨la,o,x,n,rfl,e1,c,d,r⟩:=r
 have i:=k.imm _ _ e1
 have hl:w.h.IsList la x:=⟨o,i,c,n,d⟩
 have en:x.size=l.length:=by rw[<-ak r,Array.length_toList]
 exact wpAny_pyIter_list (s:=g.at w) hl (q _ (λi h=>h.IsListIter w.h.objs.size la i/\h.IsList la x) _ w.tk ⟨[w.h.objs.size,la],λi v=>x[i]? =some v,ax _,.push _ _,λA hh=>en▸Walks.list hh w.h.objs.size la (Nat.ne_of_lt (Heap.lt_size i)) x,Ic e1,λi h q=>(by obtain⟨⟨o,e,_⟩,_⟩:=q;exact⟨o,e⟩),λi v q0 e=>pf r e,⟨_,Heap.get?_push_size _ rfl,rfl,rfl⟩,hl.push _⟩)
theorem src_tuple(k:Ok g ρ w)(r:rep g.c.P w.I (.tuple l) v):Src g w v l:=λQ E q=>by
 obtain⟨la,x,rfl,e1,r⟩:=r
 have i:=k.imm _ _ e1
 have hl:w.h.IsTuple la x:=dC i
 have en:x.size=l.length:=by rw[<-ak r,Array.length_toList]
 exact wpAny_pyIter_tuple (s:=g.at w) hl (q _ (λi h=>h.IsTupleIter w.h.objs.size la i/\h.IsTuple la x) _ w.tk ⟨[w.h.objs.size,la],λi v=>x[i]? =some v,ax _,.push _ _,λA hh=>en▸Walks.tuple hh w.h.objs.size la (Nat.ne_of_lt (Heap.lt_size i)) x,Ic e1,λi h q=>(by obtain⟨⟨o,e,_⟩,_⟩:=q;exact⟨o,e⟩),λi v q0 e=>pf r e,⟨_,Heap.get?_push_size _ rfl,rfl,rfl⟩,hl.push _⟩)
theorem ue{b:List UInt8}(k:Ok g ρ w)(r:Hr b v):Src g w v (b.map iM):=λQ E q=>by
 obtain⟨x,t,rfl,rfl⟩:=r
 refine KBw.pyIter_bytes (s:=g.at w) (q _ (λi h=>KBw.IsBytesIter h w.h.objs.size x t i) _ w.tk ⟨[w.h.objs.size],λi v=>∃c u,x[i]? =some c/\v=.int (c.toNat:Int) u,ax _,.push _ _,λA hh=>by rw[List.length_map,Array.length_toList];exact KBw.walks hh _ _ _,λb m=>.inl (List.mem_singleton.mp m),
  λi h q=>(by obtain⟨o,e,_⟩:=q;exact⟨o,e⟩),λi v q0 e=>?_,⟨_,Heap.get?_push_size _ rfl,rfl,rfl⟩⟩)
 obtain⟨c',u,e,rfl⟩:=e
 refine⟨iM c',?_,λJ le=>⟨u,rfl⟩⟩
 rw[List.getElem?_map,Array.getElem?_toList,e];rfl
theorem xA{l:List (Str×AV)}(k:Ok g ρ w)(r:rep g.c.P w.I (.dict l) v):Src g w v (l.map λp=>.str p.1):=λQ E q=>by
 obtain⟨la,kvs,ep,e0,m,lk,hat,no⟩:=iP k r
 obtain⟨la',o,es,n,e0',e1,_⟩:=r
 cases e0.symm.trans e0'
 subst e0
 have lk:kvs.length=(l.map λp=>AV.str p.1).length:=by rw[List.length_map];exact lk
 refine wpAny_pyIter_dict (s:=g.at w) no hat (q _ (λi h=>h.IsKeyIter w.h.objs.size la i kvs.length ep/\h.DictAt (PySem.strKind g.c.prog g.c.w) la kvs ep) _ w.tk ⟨[w.h.objs.size,la],λi v=>∃k x,kvs[i]? =some (k,x)/\(PySem.strKind g.c.prog g.c.w).is k v=true,ax _,.push _ _,
  λA hh=>lk▸Walks.dictKeys hh _ la (Nat.ne_of_lt hat.lt_size) kvs ep,Ic e1,λi h q=>(by obtain⟨⟨o,e,_⟩,_⟩:=q;exact⟨o,e⟩),λi v q0 e=>?_,⟨_,Heap.get?_push_size _ rfl,rfl,rfl⟩,hat.push _⟩)
 obtain⟨k,x,hk,hi⟩:=e
 obtain⟨t,rfl⟩:=mK hi
 refine⟨.str k,?_,λJ le=>⟨t,rfl⟩⟩
 have:(l.map (·.1))[i]? =some k:=by rw[<-m,List.getElem?_map,hk];rfl
 rw[List.getElem?_map]at this ⊢
 obtain⟨p,hp,rfl⟩:=Option.map_eq_some_iff.mp this
 rw[hp];rfl
theorem jv(n:Nat):∀(a:Int) (i:Nat),i<n->(df a n)[i]? =some (.int (a+i)):=by
 induction n with
 | zero=>exactλq0 q1 h=>absurd h (Nat.not_lt_zero _)
 | succ n ih=>
  intro a i h
  cases i with
  | zero=>exact congrArg (λi=>some (AV.int i)) (Int.add_zero a).symm
  | succ i=>
   refine(ih (a+1) i (Nat.lt_of_succ_lt_succ h)).trans (congrArg (λi=>some (AV.int i)) ?_)
   push_cast;omega
theorem bc(n:Nat):∀(a:Int),(df a n).length=n:=by
 induction n with
 | zero=>exactλq0=>rfl
 | succ n ih=>exactλa=>congrArg Nat.succ (ih (a+1))
theorem src_range{r:Addr}{k:Int}{t u v:Tok}(hr:IsRange w.h r 0 k 1 t u v)(h0:0<=k)(hk:k<2^24):Src g w (.ref r) (df 0 k.toNat):=λQ E q=>by
 have sz:Builtin.Range.rangeSize 0 k 1=((k.toNat:Nat):Int):=by rw[rangeSize_one];split<;>omega
 refine wpAny_pyIter_range (s:=g.at w) hr (small_one (by decide) (by decide) (by omega) (by omega)) (q _ (λi h=>IsRangeIter h w.h.objs.size (0+(i:Nat)*1) (((k.toNat:Nat):Int)-(i:Nat)) 1) _ w.tk ⟨[w.h.objs.size],λi v=>∃t,v=.int (0+i*1) t,ax _,.push _ _,
  λA hh=>by rw[bc];exact Walks.range hh _ 0 1 k.toNat,λb m=>.inl (List.mem_singleton.mp m),λi h q=>⟨_,q⟩,λi v li e=>?_,?_⟩)
 ·obtain⟨t,rfl⟩:=e
  rw[bc]at li
  exact⟨_,jv _ _ _ li,λJ le=>⟨t,by rw[Int.mul_one]⟩⟩
 ·have:=Heap.get?_push_size w.h (o:={cls:=.type "range_iterator",data:=.fields #[rawInt 0,rawInt (Builtin.Range.rangeSize 0 k 1),rawInt 1]}) rfl
  show IsRangeIter (w.h.push _) w.h.objs.size (0+((0:Nat):Int)*1) (((k.toNat:Nat):Int)-((0:Nat):Int)) 1
  rw[sz]at this ⊢
  exact this
inductive xR(g:Fr)(w:W)(v:Value)(K:List AV->Prop):Prop
 | mk (l:List AV) (s:Src g w v l) (len:l.length<=16777216) (k:K l)
theorem yG{a:Op}{K:List AV->St->Prop}(k:Ok g ρ w)(r:bB g w a v)(q:mz a w.S K):xR g w v λl=>K l w.S:=by
 obtain⟨a,r,q⟩:=a9 r q
 cases a with
 | list l=>exact⟨_,src_list k r,Nat.le_of_lt q.1,q.2⟩
 | tuple l=>exact⟨_,src_tuple k r,Nat.le_of_lt q.1,q.2⟩
 | oc kk b=>cases kk with
  | true=>exact q.elim
  | false=>exact⟨_,ue k r,by rw[List.length_map];exact Nat.le_of_lt (Gd.p (b:=true) q).1,(Gd.p (b:=true) q).2⟩
 | dict l=>exact⟨_,xA k r,by rw[List.length_map];exact Nat.le_of_lt q.1,q.2⟩
 | _=>exact q.elim
end
section
variable {b:Bool}{M:Model}{A:Around}{E:Value->Shared->Prop}{s:Shared}{env:Env}
def k9(b:Bool)(M:Model)(A:Around)(E:Value->Shared->Prop)(use:Option (Value->Sem Unit))(Q:Value->Shared->Prop)(acc:Value)(C:Addr)(r:Result)(s':Shared):Prop:=
 match r,use with
 |.ok _,none=>∃m,s'.heap.Ns C m/\∀h',Heap.SameBut C s'.heap h'->Q acc {s' with heap:=h'}
 |.ok _,some u=>a6 b M A (u acc) (λq0 s''=>∃m,s''.heap.Ns C m/\∀h',Heap.SameBut C s''.heap h'->Q .none {s'' with heap:=h'}) E s'
 |.error _,_=>False
theorem bW{e:Expr}{scope:Scope}{pos:Pos}{newAcc first:Sem Value}{g:Comprehension}{gs:List Comprehension}{cl:List (Str×Addr)}{use:Option (Value->Sem Unit)}{Q:Value->Shared->Prop}
  (hcl:clausesOf e=g::gs) (hs:∀x,foldedSetIterable g.iter env x=pure x) (hclos:closureFor scope env=pure cl)
  (hkind:scope.kind=.function) (hnames:∀x∈scope.names,x.2=.local->scope.names.lookup x.1=some .local)
  (h:a6 b M A first (λx s₁=>a6 b M A (pyIter x) (λit s₂=>a6 b M A newAcc (λacc s₃=>
   a6 b M A (newFunctionEnv scope env.globals cl [] env.qual none .none (some env)) (λcenv s₄=>
    aC b M A (.compStart e 0 it acc {cenv with scope:=relabel scope env}) (k9 b M A E use Q acc cenv.locals) s₄) E s₃) E s₂) E s₁) E s):
  a6 b M A (comprehension e scope env pos newAcc false first use) Q E s:=by
 unfold comprehension
 rw[hclos,hcl]
 refine ab (aI h (λx s₁ h₁=>ab (aQ (ab (.of (wpAny_of_eq (hs x) ?_))))) λq0 q1 h'=>h')
 refine ab (au (aI h₁ (λit s₂ h₂=>?_) λq0 q1 h'=>h'))
 have standIf:∀{α:Type} {c:Prop} [Decidable c] {pos:Pos} {k:PUnit->Sem α} {Q:α->Shared->Prop} {s:Shared},a6 b M A (k ()) Q E s->
   a6 b M A (if c then standAt pos >>=λq0=>k ()else k ()) Q E s:=λ{α c _ pos k Q s} g=>by
  split
  ·exact ab (aQ g)
  ·exact g
 refine standIf (k:=λq0=>_) (ab (aI h₂ (λacc s₃ h₃=>ab (ai (ab (aI h₃ (λcenv s₄ h₄=>?_) λq0 q1 h'=>h')))) λq0 q1 h'=>h'))
 dsimp only
 have hv:∀x∈(scope.names.filter λx=>(x.2== .local||x.2== .cell)&&x.1 != (".0" :Str)).reverse,x.2=.local->
   Env.kindOf {cenv with scope:=relabel scope env} x.1=some .local:=λx hx hl=>lookup_relabel_local (hnames x (List.mem_filter.mp (List.mem_reverse.mp hx)).1 hl)
 have hv':∀x∈(scope.names.filter λx=>(x.2== .local||x.2== .cell)&&x.1 != (".0" :Str)).reverse.drop 1++(scope.names.filter λx=>(x.2== .local||x.2== .cell)&&x.1 != (".0" :Str)).reverse.take 1,
   x.2=.local->Env.kindOf {cenv with scope:=relabel scope env} x.1=some .local:=λx hx hl=>by
  rcases List.mem_append.mp hx with h1|h1
  ·exact hv x (List.mem_of_mem_drop h1) hl
  ·exact hv x (List.mem_of_mem_take h1) hl
 refine au (ab (oq (au (sS (jM h₄ λr s' hr=>?_)))))
 cases r with
 | ok f=>
  cases use with
  | none=>
   obtain⟨m,hn,hr⟩:=hr
   exact ab (au (.of (wpAny_comp_letGo (cenv:={cenv with scope:=relabel scope env}) hkind _ s' m hv hn λh' m' q0 hs'=>(ai (hr h' hs'):a6 b M A _ Q E _))))
  | some u=>
   refine ab (.of (wpAny_rule ?_))
   refine ab (au (aI hr (λq0 s'' hr'=>?_) λq0 q1 h'=>h'))
   obtain⟨m,hn,hr'⟩:=hr'
   exact ab (.of (wpAny_comp_letGo (cenv:={cenv with scope:=relabel scope env}) hkind _ s'' m hv' hn λh' m' q0 hs'=>(ai (hr' h' hs'):a6 b M A _ Q E _)))
 | error x=>cases use<;>exact hr.elim
end
noncomputable def bG(cells:List (Str×Addr)):List (Str×NameKind)->List (Str×Addr)->List (Str×Addr)
 | [],acc=>acc
 | p::r,acc=>bG cells r (bif isFree p.2 then(p.1,(cells.lookup p.1).getD 0)::acc else acc)
theorem fV{k:NameKind}(e:isFree k=true):k=.free:=by cases k<;>first|rfl|cases e
section
variable {cells:List (Str×Addr)}{names:List (Str×NameKind)}{p:Str×Addr}{n:Str}
theorem sV:∀{acc:List (Str×Addr)},p∈bG cells names acc->p∈acc\/((p.1,NameKind.free)∈names/\p.2=(cells.lookup p.1).getD 0):=by
 induction names with
 | nil=>exactλm=>.inl m
 | cons q r ih=>
  intro acc m
  rcases ih m with m|m
  ·cases h:isFree q.2 with
   | false=>rw[h]at m;exact .inl m
   | true=>
    rw[h]at m
    refine(List.mem_cons.mp m).elim (λe=>.inr ?_) .inl
    subst e
    exact⟨by rw[<-fV h];exact .head _,rfl⟩
  ·exact .inr ⟨.tail _ m.1,m.2⟩
theorem uv:∀{acc:List (Str×Addr)},p∈acc->p∈bG cells names acc:=by
 induction names with
 | nil=>exactλm=>m
 | cons q r ih=>
  intro acc m
  refine ih ?_
  cases isFree q.2 with
  | false=>exact m
  | true=>exact .tail _ m
theorem wM:∀{acc:List (Str×Addr)},(n,NameKind.free)∈names->(n,(cells.lookup n).getD 0)∈bG cells names acc:=by
 induction names with
 | nil=>exact nofun
 | cons q r ih=>
  intro acc m
  rcases List.mem_cons.mp m with m|m
  ·subst m;exact uv (acc:=(n,(cells.lookup n).getD 0)::acc) (.head _)
  ·exact ih m
theorem jo{env:Env}{scope:Scope}(h:∀n,(n,NameKind.free)∈scope.names->env.cells.lookup n=some ((cells.lookup n).getD 0)):closureFor scope env=pure (bG cells scope.names []):=by
 unfold closureFor
 have gen:∀(names:List (Str×NameKind)) (acc:List (Str×Addr)),(∀n,(n,NameKind.free)∈names->env.cells.lookup n=some ((cells.lookup n).getD 0))->
   (forIn names acc λx cs=>(match x with|(name,kind)=>if(kind==NameKind.free)=true then do let a <-cellOf env name;pure (ForInStep.yield ((name,a)::cs))else pure (ForInStep.yield cs):Sem (ForInStep (List (Str×Addr)))))=pure (bG cells names acc):=by
  intro names
  induction names with
  | nil=>intro acc _;rfl
  | cons p r ih=>
   intro acc h
   obtain⟨n,k⟩:=p
   rw[List.forIn_cons]
   cases k with
   | free=>
    have e1:cellOf env n=pure ((cells.lookup n).getD 0):=by unfold cellOf;rw[h n (.head _)]
    have:=ih ((n,(cells.lookup n).getD 0)::acc) λn m=>h n (.tail _ m)
    show(cellOf env n >>=λa=>pure (ForInStep.yield ((n,a)::acc)):Sem (ForInStep (List (Str×Addr)))) >>= _=_
    rw[e1]
    exact this
   | _=>exact ih acc λn m=>h n (.tail _ m)
 refine(congrArg (λt=>t >>=λcs=>pure cs) (gen scope.names [] h)).trans rfl
theorem jP{ρ:aa}{op:Op}:aG (b9 ρ names) n=some op->(n,NameKind.free)∈names/\aG ρ n=some op:=by
 induction names with
 | nil=>exact nofun
 | cons p r ih=>
  have rest:aG (b9 ρ r) n=some op->(n,NameKind.free)∈p::r/\aG ρ n=some op:=λq=>⟨.tail _ (ih q).1,(ih q).2⟩
  intro q
  have q:aG (bif isFree p.2 then(match aG ρ p.1 with|some op=>(p.1,op)::b9 ρ r|none=>b9 ρ r)else b9 ρ r) n=some op:=q
  cases h:isFree p.2 with
  | false=>rw[h]at q;exact rest q
  | true=>
   rw[h]at q
   cases e:aG ρ p.1 with
   | none=>rw[e]at q;exact rest q
   | some o=>
    rw[e]at q
    have q:aG ((p.1,o)::b9 ρ r) n=some op:=q
    rw[aN]at q
    by_cases z:p.1=n
    ·rw[if_pos z]at q;cases q;subst z;exact⟨by rw[<-fV h];exact .head _,e⟩
    ·rw[if_neg z]at q;exact rest q
theorem jB(cs:Scope)(n:Str):(dD cs).names.lookup n=(cs.names.lookup n).map λk=>bif isFree k then .cell else k:=by
 show(List.map _ cs.names).lookup n=_
 induction cs.names with
 | nil=>rfl
 | cons p r ih=>
  rw[List.map_cons,List.lookup_cons,List.lookup_cons]
  cases n==p.1 with
  | true=>rfl
  | false=>exact ih
theorem qV{α:Type}{a:α}{l:List (Str×α)}:(∀p∈l,p.1=n->p.2=a)->(n,a)∈l->l.lookup n=some a:=by
 induction l with
 | nil=>exactλq0=>nofun
 | cons p r ih=>
  intro q m
  rw[List.lookup_cons]
  by_cases z:n=p.1
  ·rw[<-z,beq_self_eq_true];exact congrArg some (q p (.head _) z.symm)
  ·rw[beq_eq_false_iff_ne.mpr z]
   exact(List.mem_cons.mp m).elim (λm=>absurd (congrArg Prod.fst m) z) (ih λp m=>q p (.tail _ m))
theorem nP(inj:∀n m a,cells.lookup n=some a->cells.lookup m=some a->n=m):∀{acc:List (Str×Addr)},(∀n,(n,NameKind.free)∈names->∃a,cells.lookup n=some a)->(names.map (·.1)).Nodup->(acc.map (·.2)).Nodup->
  (∀p∈acc,cells.lookup p.1=some p.2/\p.1∉names.map (·.1))->((bG cells names acc).map (·.2)).Nodup:=by
 induction names with
 | nil=>exactλq0 q1 nd q2=>nd
 | cons q r ih=>
  intro acc hn hd nd ha
  have hd:=List.nodup_cons.mp hd
  have ha':∀p∈acc,cells.lookup p.1=some p.2/\p.1∉r.map (·.1):=λp m=>⟨(ha p m).1,λq=>(ha p m).2 (.tail _ q)⟩
  have hn':∀n,(n,NameKind.free)∈r->∃a,cells.lookup n=some a:=λn m=>hn n (.tail _ m)
  show((bG cells r (bif isFree q.2 then(q.1,(cells.lookup q.1).getD 0)::acc else acc)).map (·.2)).Nodup
  cases h:isFree q.2 with
  | false=>exact ih hn' hd.2 nd ha'
  | true=>
   obtain⟨a,e⟩:=hn q.1 (by rw[<-fV h];exact .head _)
   refine ih hn' hd.2 (List.nodup_cons.mpr ⟨λm=>?_,nd⟩) λp m=>(List.mem_cons.mp m).elim (λm=>m▸⟨by show _=some (Option.getD _ _);rw[e];rfl,hd.1⟩) (ha' p)
   obtain⟨p,mp,e2⟩:=List.mem_map.mp m
   rw[e]at e2
   have e2:p.2=a:=e2
   have:=ha p mp
   exact this.2 (inj _ _ _ e (e2▸this.1)▸ .head _)
end
theorem qN{P:Params}{sl:Sl}{I:PH}{loc loc':List Addr}{o:Op}{v:Value}(n:o.noloc=true)(h:opr P sl I loc o v):opr P sl I loc' o v:=by
 cases o with
 | loc k=>cases n
 | _=>exact h
noncomputable abbrev compEnv(g:Fr)(cs:Scope)(C:Addr):Env:={newEnv cs C g.env.globals (bG g.cells cs.names []) g.env.qual none .none (some g.env) builtinsNs with scope:=relabel cs g.env}
noncomputable abbrev aF(g:Fr)(cs:Scope)(C:Addr)(A:Around):Fr:={g with sc:=dD cs,cl:=[],A:=A,env:=compEnv g cs C,L:=C,cells:=bG g.cells cs.names []}
structure cD(g:Fr)(cs:Scope)(ρ:aa):Prop where
 cell:∀n,(n,NameKind.free)∈cs.names->g.sc.names.lookup n=some .cell/\∃a,g.cells.lookup n=some a
 nl:∀n op,aG (b9 ρ cs.names) n=some op->op.noloc=true
 nd:(cs.names.map (·.1)).Nodup
 nc:∀n,(n,NameKind.cell)∉cs.names
 fn:cs.kind=.function
section
variable {g:Fr}{ρ ρ':aa}{w w':W}{cs:Scope}{C a:Addr}{A:Around}{tk:Nat}{hc:Heap}
theorem cD.mem(k:cD g cs ρ){p:Str×Addr}(m:p∈bG g.cells cs.names []):(p.1,NameKind.free)∈cs.names/\g.cells.lookup p.1=some p.2:=by
 obtain⟨m,e⟩:=(sV m).resolve_left List.not_mem_nil
 obtain⟨a,ea⟩:=(k.cell _ m).2
 exact⟨m,ea.trans (congrArg some (e.trans (by rw[ea];rfl)).symm)⟩
theorem cD.look(k:cD g cs ρ){n:Str}(m:(n,NameKind.free)∈cs.names)(e:g.cells.lookup n=some a):(bG g.cells cs.names []).lookup n=some a:=
 qV (λp m z=>aM (k.mem m).2 (z▸e)) (by have:=wM (cells:=g.cells) (acc:=[]) m;rwa [e]at this)
theorem cD.sub(k:cD g cs ρ)(m:a∈(bG g.cells cs.names []).map (·.2)):a∈g.cells.map (·.2):=by
 obtain⟨p,mp,e⟩:=List.mem_map.mp m
 exact e▸lookup_mem (k.mem mp).2
theorem qh(y:Ok g ρ w)(k:cD g cs ρ):relabel cs g.env=dD cs:=by
 unfold relabel dD
 congr 1
 refine List.map_congr_left λp mp=>?_
 obtain⟨x,kd⟩:=p
 cases kd with
 | free=>
  have e2:g.env.kindOf x=some .cell:=y.kindOf (k.cell x mp).1
  dsimp only
  rw[e2,y.kind];rfl
 | _=>rfl
theorem A5(y:Ok g ρ w)(k:cD g cs ρ)(a:gu A g.n g.all):Ei (aF g cs C A):=
 ⟨a,qh y k,k.fn,rfl,(List.append_nil _).symm,y.fr.globals,y.fr.bl,λp mp z=>by
  obtain⟨q,mq,e⟩:=List.mem_map.mp mp
  have fr:q.2=.free:=by
   have e2:(bif isFree q.2 then NameKind.cell else q.2)=.cell:=(congrArg Prod.snd e).trans z
   cases h:isFree q.2 with
   | true=>exact fV h
   | false=>rw[h]at e2;have e2:q.2=.cell:=e2;exact absurd (show(q.1,NameKind.cell)∈cs.names from e2▸mq) (k.nc _)
  have m:(p.1,NameKind.free)∈cs.names:=by rw[<-fr,<-congrArg Prod.fst e];exact mq
  obtain⟨a,ea⟩:=(k.cell _ m).2
  exact Option.isSome_iff_exists.mpr ⟨a,k.look m ea⟩⟩
theorem qT{m:Str->Option Value}(y:Ok g ρ w)(k:cD g cs ρ)(a:gu A g.n g.all)(gr:Grows w.h hc)(nC:w.h.get? C=none)(N:hc.Ns C m):Ok (aF g cs C A) (b9 ρ cs.names) ⟨w.I,[],⟨w.S.sh,[]⟩,hc,tk⟩:=by
 have sub:∀{b},b∈(aF g cs C A).xs []->b=C\/b∈(bG g.cells cs.names []).map (·.2)\/b∈g.sl.as:=λm=>(List.mem_append.mp m).elim (λm=>(List.mem_cons.mp m).imp id .inl) λm=>.inr (.inr m)
 have cx:∀{b},b∈(bG g.cells cs.names []).map (·.2)->b∈g.own:=λm=>.tail _ (k.sub m)
 have xs:∀{b},b∈(bG g.cells cs.names []).map (·.2)\/b∈g.sl.as->b∈g.xs w.loc:=λm=>m.elim (λm=>Fr.mo (cx m)) Fr.ms
 refine⟨A5 y k a,y.base,λa o e=>gr a o (y.imm a o e),y.nof,List.nodup_append.mpr ⟨List.nodup_cons.mpr ⟨λm=>y.new_xs nC (xs (.inl m)),?_⟩,y.sl_nd,λb mb d md e=>?_⟩,λb m=>(sub m).elim (λe=>e▸y.new_I nC) λm=>y.apart b (xs m),?_,λi a lo e=>(nomatch e),rfl,
  y.sh.mono (.refl _) λa q0=>gr a,λb m=>(sub m).elim (λe=>e▸e9 N) λm=>(y.live b (xs m)).imp (gr b),bf (λL q0 o e f=>⟨o,gr L o e,f⟩) y.frames,λb mb=>.inr λm=>(sub m).elim (λe=>y.new_f nC (e▸mb)) λm=>m.elim (λm=>?_) λm=>y.f_s mb m,y.fI⟩
 ·exact nP (λn m a e1 e2=>jy (List.nodup_cons.mp y.own_nd).2 e1 e2) (λn m=>(k.cell n m).2) k.nd List.nodup_nil (λq0 m=>absurd m List.not_mem_nil)
 ·subst e
  exact(List.mem_cons.mp mb).elim (λ(e:b=C)=>y.new_xs nC (e▸Fr.ms md)) λmb=>y.own_l (cx mb) (List.mem_append_right _ md)
 ·cases y.vars with|mk m0 N0 C0 V0=>
  refine⟨m,N,λd md=>?_,λz op e=>?_⟩
  ·obtain⟨u,hu⟩:=C0 (d.1,d.2) (by obtain⟨_,e⟩:=k.mem md;exact PySem.mem_of_lookup_some e)
   exact⟨u,gy (fs:=[]) (xs:=[]) (λo e=>⟨o,gr _ _ e,λq0=>.rfl'⟩) nofun hu⟩
  ·obtain⟨mf,e0⟩:=jP e
   have kz:(aF g cs C A).sc.names.lookup z=some .cell:=by
    show(dD cs).names.lookup z=_
    rw[jB,cL k.nd mf];rfl
   have ce:=(k.cell z mf).1
   cases V0 z op e0 with
   | loc e1=>exact nomatch e1.symm.trans ce
   | cel _ b v e4 e5 r=>
    rw[kz]
    exact .cel (.inl rfl) b v (k.look mf e4) (gy (fs:=[]) (xs:=[]) (λo e=>⟨o,gr _ _ e,λq0=>.rfl'⟩) nofun e5) (qN (k.nl z op e) r)
 ·exact(y.fapart b mb).elim (λe=>y.cell_ne (k.sub m) e) λn=>n (xs (.inl m))
end
structure cT(g:Fr)(w:W)(a:Addr):Prop where
 x:a∉g.xs w.loc
 i:w.I a=none
 f:a∉bh g.all
 e:∃o,w.h.get? a=some o
section
variable {g:Fr}{ρ ρ':aa}{w w':W}{a:Addr}{h':Heap}{tk:Nat}
theorem cT.next(k:cT g w a)(n:Nx g ρ w w'):cT g w' a:=by
 obtain⟨o,e⟩:=k.e
 refine⟨λm=>(n.nt.t.old m).elim k.x λz=>sn e z,Option.eq_none_iff_forall_ne_some.mpr λo' z=>(n.t.new a o' z).elim (λq=>sn q k.i) λq=>q.elim (λq=>sn e q) λq=>k.x (Fr.ml q),k.f,?_⟩
 cases n.t.kept a o e with|mk o' e' l=>exact⟨o',e'⟩
theorem cT.same(k:cT g w a)(n:Nx g ρ w w')(o:Obj)(e:w.h.get? a=some o):w'.h.get? a=some o:=by
 cases n.t.kept a o e with|mk o' e' l=>exact(l λm=>k.x (List.mem_append_right _ m)).eq k.f▸e'
abbrev yd(a:Addr)(h h':Heap):Prop:=∀b o,b≠a->h.get? b=some o->h'.get? b=some o
theorem Ok.but(k:Ok g ρ w)(o:cT g w a)(hk:yd a w.h h'):Ok g ρ ⟨w.I,w.loc,w.S,h',tk⟩:=
 ⟨k.fr,k.base,λb ob q=>hk b ob (λz=>sn (z▸q) o.i) (k.imm b ob q),k.nof,k.nodup,k.apart,k.vars.mono (w:=w) (w':=⟨w.I,w.loc,w.S,h',tk⟩) (fs:=[]) (xs:=[]) (.refl _) (List.prefix_refl _) (λb ob m q=>⟨ob,hk b ob (λz=>o.x (z▸Fr.mo m)) q,λq0=>.rfl'⟩) (λq0 q1=>nofun),
  λi b lo e1 e2=>(k.loc i b lo e1 e2).mono (.refl _) λob=>hk b ob λz=>o.x (z▸Fr.ml (List.mem_of_getElem? e1)),k.len,k.sh.mono (.refl _) λb m ob=>hk b ob λz=>o.x (z▸Fr.ms m),λb m=>(k.live b m).imp λob=>hk b ob λz=>o.x (z▸m),
  bf (λL m ob q f=>⟨ob,hk L ob (λz=>o.f (z▸m)) q,f⟩) k.frames,k.fapart,k.fI⟩
theorem tR.no{all:List Env}{sl:Sl}{I J:PH}{h h':Heap}(t:tR all sl I h J h')(e:h'.get? a=none):h.get? a=none:=
 g8 (λo q=>by cases t.kept a o q with|mk o' e' _=>exact dG e') e
theorem tR.but{all:List Env}{sl:Sl}{I J:PH}{h h1 h2:Heap}(t:tR all sl I h J h1)(n:h.get? a=none)(hk:yd a h1 h2):tR all sl I h J h2:=⟨t.le,t.new,λb o e=>by
 cases t.kept b o e with|mk o' e' l=>exact⟨o',hk b o' (λz=>sn (z▸e) n) e',l⟩⟩
theorem Nx.but(n:Nx g ρ w w')(o:cT g w' a)(na:w.h.get? a=none)(hk:yd a w'.h h'):Nx g ρ w ⟨w'.I,w'.loc,w'.S,h',tk⟩:=⟨⟨n.t.le,n.t.new,λb ob e=>by
 cases n.t.kept b ob e with|mk o' e' l=>exact⟨o',hk b o' (λz=>sn (z▸e) na) e',l⟩,n.t.locnew⟩,n.p,n.k.but o hk⟩
theorem Nx.freeze{o:Obj}(n:Nx g ρ w w')(na:w.h.get? a=none)(ow:cT g w' a)(e:w'.h.get? a=some o)(f:∀vs,o.data≠.fields vs):Nx g ρ w {w' with I:=pI w'.I a o}:=
 ⟨⟨n.t.le.trans (bC ow.i),λb ob q=>dU (λb ob=>w.I b=some ob\/w.h.get? b=none\/b∈w.loc) q (.inr (.inl na)) (n.t.new b ob),n.t.kept,n.t.locnew⟩,n.p,n.k.freeze e ow.i ow.x f ow.f⟩
theorem TS.assignName{x:Str}{p:Pos}{op:Op}{v:Value}{X:aa->St->Prop}(k:Ok g ρ w)(n:g.sc.names.lookup x=some .local\/g.sc.names.lookup x=some .cell)(r:bB g w op v):TS g w (assign (.Name x p) g.env v) (JJ g x ((x,op)::ρ) w) X:=λQ E q z=>by
 rw[PySem.assign_Name]
 refine ab (aQ ?_)
 unfold bindName
 exact ab (au (cK (ab (aI (TS.store k n r Q E q z) (λq0 s' q=>cK q) λq0 q1 q=>q))))
end
structure CompEnd(g:Fr)(w:W)(g':Fr)(D:Addr)(ρ':aa)(w':W)(lo:LO):Prop where
 t:tR g.all g.sl w.I w.h w'.I w'.h
 k:Ok g' ρ' w'
 loc:∀a∈w'.loc,w.h.get? a=none
 d:cT g' w' D
 dl:cy g.c.P w'.I w'.h D lo
structure bS(g:Fr)(w:W)(g':Fr)(It D:Addr)(ρ':aa)(w':W)(Sw:Heap->Prop)(lo:LO):Prop extends CompEnd g w g' D ρ' w' lo where
 it:cT g' w' It
 st:Sw w'.h
def dQ(w:W)(It:Addr)(Sw:Nat->Heap->Prop):Prop:=∀i h h',Sw i h->(∀b o,(b=It\/∃o,w.I b=some o)->h.get? b=some o->h'.get? b=some o)->Sw i h'
section
variable {g:Fr}{ρ ρ0 ρ1 ρ2:aa}{w w1 w2:W}{cs:Scope}{A:Around}{C It D a:Addr}{Sw:Nat->Heap->Prop}{i:Nat}{lo lo':LO}{h2:Heap}{tk:Nat}{f:fe->Prop}
theorem bS.next(F:dQ w It Sw)(K:bS g w (aF g cs C A) It D ρ1 w1 (Sw i) lo)(n:Nx (aF g cs C A) ρ1 w1 w2):bS g w (aF g cs C A) It D ρ1 w2 (Sw i) lo:=by
 refine⟨⟨⟨K.t.le.trans n.t.le,λa o e=>(n.t.new a o e).elim (K.t.new a o) λe=>.inr (e.elim K.t.no (K.loc a)),λa o e=>?_⟩,n.k,λa m=>(n.t.locnew a m).elim (K.loc a) K.t.no,K.d.next n,K.dl.mono n.t.le λo=>K.d.same n o⟩,K.it.next n,F i _ _ K.st λb o m e=>?_⟩
 ·cases K.t.kept a o e with|mk o1 e1 l1=>
  cases n.t.kept a o1 e1 with|mk o2 e2 l2=>
  exact⟨o2,e2,λn=>(l1 n).trans (l2 λm=>(List.mem_append.mp (show a∈w1.loc++g.sl.as from m)).elim (λm=>sn e (K.loc a m)) n)⟩
 ·refine m.elim (λm=>K.it.same n o (m▸e) |> λz=>m▸z) λhh=>hh.casesOn λob m=>?_
  have m:=K.t.le b ob m
  cases aM (K.k.imm b ob m) e
  exact n.k.imm b _ (n.t.le b _ m)
theorem CompEnd.but(K:CompEnd g w (aF g cs C A) D ρ1 w1 lo)(na:w.h.get? a=none)(k2:Ok (aF g cs C A) ρ2 ⟨w1.I,w1.loc,w1.S,h2,tk⟩)(hk:yd a w1.h h2)(d:∃o,h2.get? D=some o)(dl:cy g.c.P w1.I h2 D lo'):CompEnd g w (aF g cs C A) D ρ2 ⟨w1.I,w1.loc,w1.S,h2,tk⟩ lo':=
 ⟨K.t.but na hk,k2,K.loc,⟨K.d.x,K.d.i,K.d.f,d⟩,dl⟩
theorem pV(K:bS g w (aF g cs C A) It D ρ0 w1 (Sw i) lo)(F:dQ w It Sw){x:Str}{px:Pos}{av:AV}{v:Value}(kx:cs.names.lookup x=some .local)(nC:w.h.get? C=none)(r:rep g.c.P w1.I av v)
  {Q:Unit->Shared->Prop} {E:Value->Shared->Prop} (q:∀w2,bS g w (aF g cs C A) It D ((x,.v av)::ρ0) w2 (Sw i) lo->w2.S=w1.S->Q () (g.at w2)):a6 g.c.clean g.c.M A (assign (.Name x px) (compEnv g cs C) v) Q E (g.at w1):=by
 have kl:(aF g cs C A).sc.names.lookup x=some .local:=by
  show(dD cs).names.lookup x=_
  rw[jB,kx];rfl
 refine TS.assignName (g:=aF g cs C A) (op:=.v av) (X:=iF) K.k (.inl kl) r Q E (λq0 ρ2 w2 n r=>?_) λe ρ2 w2 n q0 q=>q.elim
 cases r with|mk h2 tk2 sb=>
 have sb:=sb kl
 have hk:yd C w1.h h2:=λb o n e=>aJ sb n o e
 have nC':∀{a},cT (aF g cs C A) w1 a->a≠C:=λk e=>k.x (e▸ .head _)
 exact q _ ⟨K.toCompEnd.but nC n.k hk (K.d.e.imp λo=>hk D o (nC' K.d)) (K.dl.mono (.refl _) λo=>hk D o (nC' K.d)),⟨K.it.x,K.it.i,K.it.f,K.it.e.imp λo=>hk It o (nC' K.it)⟩,F i _ _ K.st λb o m=>hk b o (m.elim (λm=>m▸nC' K.it) λ⟨ob,m⟩ z=>sn (K.t.le b ob m) (z▸K.k.apart C (Fr.mo (.head _))))⟩ rfl
theorem tZ{x:Str}{op:Op}(nx:∀op,aG ρ0 x≠some op)(k:Ok g ((x,op)::ρ0) w):Ok g ρ0 w:=⟨k.fr,k.base,k.imm,k.nof,k.nodup,k.apart,by
 cases k.vars with|mk m N C V=>exact⟨m,N,C,λy o e=>V y o (by rw[aN,if_neg λ(z:x=y)=>nx o (z▸e)];exact e)⟩,k.loc,k.len,k.sh,k.live,k.frames,k.fapart,k.fI⟩
theorem kH{e:Expr}{x:Str}{px p:Pos}{l:List AV}{body:Sem Fin}{fp:List Addr}{Pr:Nat->Value->Prop}{P:Nat->List AV->LO->St->Prop}{Kf:LO->St->Prop}{R:Result->Shared->Prop}
  (hden:g.c.M.den (.compLoop e 0 (.ref It) (.ref D) (compEnv g cs C))=((standAt p >>=λq0=>pyNext (.ref It) >>=λr=>match r with
   | none=>pure (.done .next)
   | some v=>assign (.Name x px) (compEnv g cs C) v >>=λq0=>body):Sem Fin).onRaise (λx=>do noteFrame x (compEnv g cs C);theTreesLotGoes x))
  (hA:A=g.A.under (.compLoop e 0 (.ref It) (.ref D) (compEnv g cs C))) (hh:A.handled=none) (Wk:∀A:Around,A.handled=none->Walks g.c.prog g.c.w A It fp [It] l.length Pr Sw) (live:∀i h,Sw i h->∃o,h.get? It=some o) (hp:∀i v,i<l.length->Pr i v->∃a,l[i]? =some a/\∀J,bb w.I J->rep g.c.P J a v)
  (F:dQ w It Sw) (kx:cs.names.lookup x=some .local) (nC:w.h.get? C=none) (nI:w.h.get? It=none) (dI:D≠It)
  (turn:∀(a:AV) (r:List AV) (lo:LO) (w2:W) (i:Nat) (Q:Fin->Shared->Prop),i<l.length->bS g w (aF g cs C A) It D ((x,.v a)::ρ0) w2 (Sw (i+1)) lo->P i (a::r) lo w2.S->
   (∀w3 lo',bS g w (aF g cs C A) It D ((x,.v a)::ρ0) w3 (Sw (i+1)) lo'->P (i+1) r lo' w3.S->Q (.again (.compLoop e 0 (.ref It) (.ref D) (compEnv g cs C))) (g.at w3))->a6 g.c.clean g.c.M A body Q (λq0 q1=>False) (g.at w2))
  (nx:∀op,aG ρ0 x≠some op) (pe:∀i lo S,P i [] lo S->Kf lo S) (fin:∀lo w',CompEnd g w (aF g cs C A) D ρ0 w' lo->Kf lo w'.S->R (.ok .next) (g.at w')):
  ∀(r:List AV) (lo:LO) (w1:W) (i:Nat),l.drop i=r->i<=l.length->bS g w (aF g cs C A) It D ρ0 w1 (Sw i) lo->P i r lo w1.S->aC g.c.clean g.c.M g.A (.compLoop e 0 (.ref It) (.ref D) (compEnv g cs C)) R (g.at w1):=by
 intro r
 induction r with
 | nil=>
  intro lo w1 i hd hi K q
  have hil:i=l.length:=Nat.le_antisymm hi (Nat.sub_eq_zero_iff_le.mp ((List.length_drop (i:=i) (l:=l)).symm.trans (congrArg List.length hd)))
  refine aK (λq0 q1 q2=>rfl) ?_
  rw[hden]
  refine a3 (aI (E:=λq0 q1=>False) ?_ (λq0 q1 q=>q) λq0 q1 q=>q.elim)
  refine ab (aQ (ab (.of ((Wk _ (hA▸hh)).done _ _ _ (hil▸K.st) λh1 tk1 g1=>ai ?_))))
  have hk:yd It w1.h h1:=λb o nb eb=>g1 b o (λm=>nb (List.mem_singleton.mp m)) eb
  exact fin lo _ (K.toCompEnd.but (tk:=tk1) nI (K.k.but K.it hk) hk (K.d.e.imp λo=>hk D o dI) (K.dl.mono (.refl _) λo=>hk D o dI)) (pe i lo _ q)
 | cons a r ih=>
  intro lo w1 i hd hi K q
  have lt:i<l.length:=by
   have:=congrArg List.length hd;rw[List.length_drop,List.length_cons]at this;exact uD 0x18049060c1000dffe048860200e this (Nat.sub_add_cancel (n:=l.length) (m:=i) (uB 0x2000100000c hi))
  have la:l[i]? =some a:=by rw[<-List.head?_drop,hd];rfl
  have ld:l.drop (i+1)=r:=by rw[<-List.drop_drop,hd];rfl
  refine aK (λq0 q1 q2=>rfl) ?_
  rw[hden]
  refine a3 (aI (E:=λq0 q1=>False) ?_ (λq0 q1 q=>q) λq0 q1 q=>q.elim)
  refine ab (aQ (ab (.of ((Wk _ (hA▸hh)).item i _ _ _ lt K.st λv h1 tk1 hv1 AE g1=>?_))))
  have hk:yd It w1.h h1:=λb o nb eb=>g1 b o (λm=>nb (List.mem_singleton.mp m)) eb
  have eI:=live _ _ AE
  have K1:bS g w (aF g cs C A) It D ρ0 ⟨w1.I,w1.loc,w1.S,h1,tk1⟩ (Sw (i+1)) lo:=⟨K.toCompEnd.but nI (K.k.but K.it hk) hk (K.d.e.imp λo=>hk D o dI) (K.dl.mono (.refl _) λo=>hk D o dI),⟨K.it.x,K.it.i,K.it.f,eI⟩,AE⟩
  obtain⟨a',la',ra⟩:=hp i v lt hv1
  cases aM la la'
  rw[<-hA]
  refine ab (pV K1 F kx nC (ra _ K.t.le) λw2 K2 e2=>turn a r lo w2 i _ lt K2 (e2▸q) λw3 lo' K3 q3=>⟨rfl,?_⟩)
  exact ih lo' w3 (i+1) ld lt ⟨{K3.toCompEnd with k:=tZ nx K3.k},K3.it,K3.st⟩ q3
end
noncomputable def LO.av:LO->AV
 |.list l=>.list l
 |.dict l=>.dict l
 |.ba b=>.oc true b
inductive Nc(P:Params)(I:PH)(h:Heap)(D:Addr)(a:AV):Prop
 | mk (o:Obj) (e:h.get? D=some o) (f:∀vs,o.data≠.fields vs) (r:∀J,bb I J->J D=some o->rep P J a (.ref D))
theorem ly{P:Params}{I:PH}{h:Heap}{D:Addr}{lo:LO}(L:cy P I h D lo):Nc P I h D lo.av:=by
 cases lo with
 | list l=>cases L with|mk o x n e c z s d r=>exact⟨o,e,λvs z=>(nomatch d.symm.trans z),λJ le i=>⟨D,o,x,n,rfl,i,c,d,bg le l r⟩⟩
 | dict l=>cases L with|mk o x n e c z d r nd m=>exact⟨o,e,λvs z=>(nomatch d.symm.trans z),λJ le i=>⟨D,o,x,n,rfl,i,c,z,d,bu le l r,nd,m⟩⟩
 | ba l=>cases L with|mk o x e c z d t=>exact⟨o,e,λvs z=>(nomatch d.symm.trans z),λJ le i=>⟨D,o,x,rfl,i,c,d,t⟩⟩
section
variable {g:Fr}{ρ:aa}{w:W}{cs:Scope}{l:List AV}{v:Value}
structure mi(g:Fr)(w:W)(cs:Scope)(ρ0:aa)(e:Expr)(l:List AV)(oD:Obj)(lo0:LO)(newAcc:Sem Value)(Kf:LO->St->Prop):Prop where
 acc:∀(A:Around) (s:Shared) (Q:Value->Shared->Prop) (E:Value->Shared->Prop),Q (.ref s.heap.objs.size) {s with heap:=s.heap.push oD}->wpAny g.c.M A newAcc Q E s
 lo:∀h a,h.get? a=some oD->(a==sysModules)=false->cy g.c.P w.I h a lo0
 fr:oD.isFreed=false
 start:∀(It D:Addr) (env:Env) (R:Result->Shared->Prop) (s:Shared),aC g.c.clean g.c.M g.A (.compLoop e 0 (.ref It) (.ref D) env) R s->wpAny g.c.M g.A (pyIter (.ref It)) (λit s'=>aC g.c.clean g.c.M g.A (.compLoop e 0 it (.ref D) env) R s') (λq0 q1=>False) s->aC g.c.clean g.c.M g.A (.compStart e 0 (.ref It) (.ref D) env) R s
 loop:∀(It D C:Addr) (A:Around) (Sw:Nat->Heap->Prop) (fp:List Addr) (Pr:Nat->Value->Prop) (w1:W) (R:Result->Shared->Prop),A=g.A.under (.compLoop e 0 (.ref It) (.ref D) (compEnv g cs C))->(∀A:Around,A.handled=none->Walks g.c.prog g.c.w A It fp [It] l.length Pr Sw)->(∀i h,Sw i h->∃o,h.get? It=some o)->
  (∀i v,i<l.length->Pr i v->∃a,l[i]? =some a/\∀J,bb w.I J->rep g.c.P J a v)->dQ w It Sw->w.h.get? C=none->w.h.get? It=none->w.h.get? D=none->D≠It->w1.S=⟨w.S.sh,[]⟩->bS g w (aF g cs C A) It D ρ0 w1 (Sw 0) lo0->
  (∀lo w',CompEnd g w (aF g cs C A) D ρ0 w' lo->Kf lo w'.S->R (.ok .next) (g.at w'))->aC g.c.clean g.c.M g.A (.compLoop e 0 (.ref It) (.ref D) (compEnv g cs C)) R (g.at w1)
theorem lG{e:Expr}{oD:Obj}{lo0:LO}{newAcc:Sem Value}{Kf:LO->St->Prop}{E:Value->Shared->Prop}{RR:Value->Addr->Result->Shared->Prop}(T:mi g w cs (b9 ρ cs.names) e l oD lo0 newAcc Kf)(hu:∀It D C,gu (g.A.under (.compLoop e 0 (.ref It) (.ref D) (compEnv g cs C))) g.n g.all)
  (y:Ok g ρ w) (sr:Src g w v l) (k:cD g cs ρ)
  (hR:∀D C A lo w',w.h.get? D=none->w.h.get? C=none->D≠C->CompEnd g w (aF g cs C A) D (b9 ρ cs.names) w' lo->Kf lo w'.S->RR (.ref D) C (.ok .next) (g.at w')):
  a6 g.c.clean g.c.M g.A (pyIter v) (λit s₂=>a6 g.c.clean g.c.M g.A newAcc (λacc s₃=>a6 g.c.clean g.c.M g.A (newFunctionEnv cs g.env.globals (bG g.cells cs.names []) [] g.env.qual none .none (some g.env)) (λcenv s₄=>
   aC g.c.clean g.c.M g.A (.compStart e 0 it acc {cenv with scope:=relabel cs g.env}) (RR acc cenv.locals) s₄) E s₃) E s₂) E (g.at w):=by
 refine .of (sr _ _ λIt Sw h1 tk1 wa=>?_)
 obtain⟨fp,Pr,nI,g1,Wk,fpI,live,hp,zJ⟩:=wa
 refine .of (T.acc _ _ _ _ ?_)
 refine .of (wpAny_newFunctionEnv (λx mx z=>?_) (by intro y hy;simp at hy) (λh3 hns hsb=>?_) k.fn)
 ·exact k.nc x.1 (by rw[<-z];exact mx)
 dsimp only at hns hsb ⊢
 change h3.Ns (h1.push oD).objs.size _ at hns
 change Heap.SameBut (h1.push oD).objs.size ((h1.push oD).push {cls:=.type "dict",data:=.dict #[]}) h3 at hsb
 let D:=h1.objs.size
 let C:=(h1.push oD).objs.size
 have szH:C=D+1:=Heap.size_push _ _
 have nC1:h1.get? C=none:=Heap.get?_none_of_le (by rw[szH];exact Nat.le_succ _)
 have nC:=g1.none nC1
 have nD:=g1.none (ax h1)
 have DC:D≠C:=by rw[szH];exact Nat.ne_of_lt (Nat.lt_succ_self _)
 have g3:Grows h1 h3:=λb o e=>aJ hsb (λ(z:b=C)=>sn e (z▸nC1)) o (Heap.get?_push_of_some _ (Heap.get?_push_of_some _ e))
 have eD:h3.get? D=some oD:=aJ hsb DC _ (Heap.get?_push_of_some _ (Heap.get?_push_size _ T.fr))
 obtain⟨oI,eI⟩:=live _ _ zJ
 have IC:It≠C:=λz=>sn eI (z▸nC1)
 have DI:D≠It:=λz=>sn eI (z▸ax h1)
 let A:=g.A.under (.compLoop e 0 (.ref It) (.ref D) (compEnv g cs C))
 have K:Ok (aF g cs C A) (b9 ρ cs.names) ⟨w.I,[],⟨w.S.sh,[]⟩,h3,tk1⟩:=qT y k (hu It D C) (g1.trans g3) nC hns
 have nxs:∀{a},w.h.get? a=none->a≠C->a∉(aF g cs C A).xs []:=λna ne m=>(List.mem_append.mp m).elim (λm=>(List.mem_cons.mp m).elim ne λm=>y.new_xs na (Fr.mo (.tail _ (k.sub m)))) λm=>y.new_xs na (Fr.ms m)
 have F:dQ w It Sw:=λi h h' s q=>(Wk g.A y.fr.a.handled).frame i h h' s λb m o e=>q b o (fpI b m) e
 have nsys:(D==sysModules)=false:=beq_eq_false_iff_ne.mpr λ(z:D=1)=>by
  obtain⟨o,_,_,e,_⟩:=g.c.g
  exact absurd (z▸Heap.lt_size (g1 _ _ (y.keep0 _ _ e)):mainGlobals<1) (by decide)
 have K0:bS g w (aF g cs C A) It D (b9 ρ cs.names) ⟨w.I,[],⟨w.S.sh,[]⟩,h3,tk1⟩ (Sw 0) lo0:=
  ⟨⟨⟨.refl _,λq0 q1 e=>.inl e,λa o e=>⟨o,g3 a o (g1 a o e),λq0=>.rfl'⟩⟩,K,λa m=>absurd m List.not_mem_nil,⟨nxs nD DC,y.new_I nD,y.new_f nD,⟨_,eD⟩⟩,T.lo h3 D eD nsys⟩,
   ⟨nxs nI IC,y.new_I nI,y.new_f nI,⟨oI,g3 _ _ eI⟩⟩,F 0 _ _ zJ λb o q0 e=>g3 b o e⟩
 have fin:=λR=>T.loop It D C A Sw fp Pr _ R rfl Wk live hp F nC nI nD DI rfl K0
 refine T.start It D (compEnv g cs C) _ _ ?_ ?_
 ·exact fin _ λlo w' K q=>hR D C A lo w' nD nC DC K q
 ·exact(Wk g.A y.fr.a.handled).self 0 _ _ _ K0.st (fin _ λlo w' K q=>hR D C A lo w' nD nC DC K q)
inductive vL(g:Fr)(ρ:aa)(w w':W)(D C:Addr)(a:AV):Prop
 | mk (m:Str->Option Value) (N:w'.h.Ns C m) (h:∀h',Heap.SameBut C w'.h h'->∃J,Nx g ρ w ⟨J,w.loc,{w.S with sh:=w'.S.sh},h',w'.tk⟩/\rep g.c.P J a (.ref D))
theorem comp_back{D C:Addr}{A:Around}{w':W}{ρ0:aa}{lo:LO}(y:Ok g ρ w)(nD:w.h.get? D=none)(nC:w.h.get? C=none)(DC:D≠C)(K:CompEnd g w (aF g cs C A) D ρ0 w' lo):vL g ρ w w' D C lo.av:=by
 have n9:Nx g ρ w ⟨w'.I,w.loc,{w.S with sh:=w'.S.sh},w'.h,w'.tk⟩:=.back y K.t K.k.toC
 cases K.k.vars with|mk m N _ _=>
 have oC:cT g ⟨w'.I,w.loc,{w.S with sh:=w'.S.sh},w'.h,w'.tk⟩ C:=⟨y.new_xs nC,K.k.apart C (Fr.mo (.head _)),y.new_f nC,e9 N⟩
 refine⟨m,N,λh' sb=>?_⟩
 have hk:yd C w'.h h':=λb o n=>aJ sb n o
 have n10:=n9.but (tk:=w'.tk) oC nC hk
 obtain⟨o,e,f,r⟩:=ly (K.dl.mono (h':=h') (.refl _) λo=>hk D o DC)
 exact⟨_,n10.freeze (a:=D) nD ⟨y.new_xs nD,K.d.i,y.new_f nD,⟨o,e⟩⟩ e f,r _ (bC K.d.i) (eF ..)⟩
end
section
variable {g:Fr}{ρ ρ0 ρ1:aa}{w w1:W}{cs:Scope}{A:Around}{C It D:Addr}{Sw:Nat->Heap->Prop}{i:Nat}{lo lo':LO}{h2:Heap}{tk:Nat}{f:fe->Prop}{l:List AV}
theorem bS.put(F:dQ w It Sw)(K:bS g w (aF g cs C A) It D ρ1 w1 (Sw i) lo)(nD:w.h.get? D=none)(dI:D≠It)(sb:Heap.SameBut D w1.h h2)(dl:cy g.c.P w1.I h2 D lo'):bS g w (aF g cs C A) It D ρ1 ⟨w1.I,w1.loc,w1.S,h2,tk⟩ (Sw i) lo':=by
 have hk:yd D w1.h h2:=λb o n=>aJ sb n o
 obtain⟨o,e,_,_⟩:=ly dl
 exact⟨K.toCompEnd.but nD (K.k.but K.d hk) hk ⟨o,e⟩ dl,⟨K.it.x,K.it.i,K.it.f,K.it.e.imp λo=>hk It o (Ne.symm dI)⟩,F i _ _ K.st λb o m=>hk b o λz=>m.elim (λm=>dI (z.symm.trans m)) λhh=>hh.casesOn λob m=>sn (K.t.le b ob m) (z▸K.d.i)⟩
theorem Bp{x:Str}(k:cD g cs ρ)(kx:cs.names.lookup x=some .local)(op:Op):aG (b9 ρ cs.names) x≠some op:=λz=>by
 have:=cL k.nd (jP z).1
 exact nomatch kx.symm.trans this
noncomputable def B7(elt:Expr)(ifs:List Expr)(acc:Value)(env:Env)(cd:Code):Sem Fin:=do
 let mut ok:=true
 for c in ifs do
  if ok then ok <-isTrue c env (eval c env)
 if ok then
  (do let _ <-call (.builtin "list.append") [acc,<-eval elt env])
 again cd
theorem D3{ifs:List Expr}{K:Bool->St->Prop}(F:aw f g.c g.n)(y:Ok g ρ w)(q:GX f g.sc ifs ρ w.S K):BT g ρ w (forIn ifs true λc r=>if r=true then do let ok <-isTrue c g.env (eval c g.env);pure (ForInStep.yield ok)else pure (ForInStep.yield r)) K iF:=by
 obtain _|⟨e,_|_⟩:=ifs
 ·exact .pure y q
 ·rw[List.forIn_cons]
  exact .bind (.bind (T1 F q y) λb w1 n1 q1=>.pure (R:=λb w=>∃b',b=ForInStep.yield b'/\K b' w.S) n1.k ⟨b,rfl,q1⟩) λb w1 n1 ⟨b',e,q1⟩=>by subst e;exact .pure n1.k q1
 ·exact q.elim
theorem pG{prog:Program}{wd:World}{A:Around}{E:Value->Shared->Prop}{s:Shared}{P:Params}{I:PH}{vs:List AV}{b:AV}{u:Value}{Q:Value->Shared->Prop}(L:cm s.heap D (a0 P I vs))(rb:rep P I b u)(hz:vs.length<=16777216)
  (q:∀h',cm h' D (a0 P I (vs++[b]))->Heap.SameBut D s.heap h'->Q .none {s with heap:=h'}):wpAny (model prog wd) A (call (.builtin "list.append") [.ref D,u]) Q E s:=by
 obtain⟨⟨oc,od,oda,osl⟩,x,n,e1,e2,e3,e3',e4,e5⟩:=L
 dsimp only at e2 e3 e3' e4
 subst e2 e3 e3' e4
 refine wpAny_list_append_plain (s:=s) ⟨n,e1⟩ (λh' hp sb=>?_) (by rw[sizeLine_eq,<-Array.length_toList,ak e5];exact hz)
 obtain⟨n',hp⟩:=hp
 exact q h' ⟨_,x.push u,n',hp,rfl,rfl,rfl,rfl,by rw[Array.toList_push];exact eg (l':=[b]) ⟨u,[],rfl,rb,rfl⟩ e5⟩ sb
noncomputable abbrev sD(elt iter:Expr)(ifs:List Expr)(x:Str)(px pos:Pos)(cs:Scope):Expr:=.ListComp elt [⟨.Name x px,iter,ifs,0⟩] cs pos
theorem pj{e t iter:Expr}{ifs:List Expr}{env:Env}{s:Shared}{R:Result->Shared->Prop}{acc:Value}(hc:clausesOf e=[⟨t,iter,ifs,0⟩])(hd:g.c.M.den (.compStart e 0 (.ref It) acc env)=((compStart e 0 (.ref It) acc env).onRaise (λx=>do noteFrame x env;standAt theWindowsPlace):Sem Fin))(hu:g.A.under (.compStart e 0 (.ref It) acc env)=g.A)(h0:aC g.c.clean g.c.M g.A (.compLoop e 0 (.ref It) acc env) R s)
  (h:wpAny g.c.M g.A (pyIter (.ref It)) (λit s'=>aC g.c.clean g.c.M g.A (.compLoop e 0 it acc env) R s') (λq0 q1=>False) s):aC g.c.clean g.c.M g.A (.compStart e 0 (.ref It) acc env) R s:=by
 refine aK (λq0 q1 q2=>rfl) ?_
 rw[hd,hu]
 refine a3 (aI (E:=λq0 q1=>False) ?_ (λq0 q1 q=>q) λq0 q1 q=>q.elim)
 unfold compStart
 rw[hc]
 show a6 _ _ _ (ask >>= _) _ _ s
 refine ab (.of (wpAny_askSetting ?_))
 dsimp only
 split
 ·first
   | exact ab (ai (ai (And.intro rfl h0)))
   | exact ai (And.intro rfl h0)
 ·refine ab (.of (wpAny_rule ?_))
  show a6 _ _ _ (standAt iter.pos >>= _) _ _ s
  exact ab (aQ (ab (aI (.of h) (λit' s' h'=>ai (And.intro rfl h')) λq0 q1 x=>x)))
theorem rq{elt iter:Expr}{ifs:List Expr}{x:Str}{px pos:Pos}{K:List AV->St->Prop}(F:aw f g.c g.n)(y:Ok g ρ w)(k:cD g cs ρ)(kx:cs.names.lookup x=some .local)(len:l.length<=16777216)(q:eG f (dD cs) x ifs elt (b9 ρ cs.names) l ⟨w.S.sh,[]⟩ K):
  mi g w cs (b9 ρ cs.names) (sD elt iter ifs x px pos cs) l {cls:=.type "list",data:=.seq #[]} (.list []) (newList []) (λlo S=>∃vs,lo=.list vs/\K vs S) where
 acc:=λA s Q E q=>wpAny_newObj_type q
 lo:=λh a e q0=>⟨_,#[],0,e,rfl,rfl,rfl,rfl,rfl⟩
 fr:=rfl
 start:=λIt D env R s h0 h=>pj (e:=sD elt iter ifs x px pos cs) rfl rfl rfl h0 h
 loop:=λIt D C A Sw fp Pr w1 R hA Wk live hp Fs nC nI nD dI e1 K0 fin=>by
  refine kH (p:=iter.pos) (px:=px) (body:=B7 elt ifs (.ref D) (compEnv g cs C) (.compLoop (sD elt iter ifs x px pos cs) 0 (.ref It) (.ref D) (compEnv g cs C)))
   (P:=λi r lo S=>∃vs,lo=.list vs/\vs.length<=i/\eG f (dD cs) x ifs elt (b9 ρ cs.names) r S λws S=>K (vs++ws) S) (Kf:=λlo S=>∃vs,lo=.list vs/\K vs S)
   rfl hA (hA▸y.fr.a.handled) Wk live hp Fs kx nC nI dI (λa r lo w2 i Q lt K2 q z=>?_) (Bp k kx) (λi lo S ⟨vs,e,_,q⟩=>⟨vs,e,by have q:K (vs++[]) S:=q;rwa [List.append_nil]at q⟩) fin l (.list []) w1 0 rfl (Nat.zero_le _) K0 ⟨[],rfl,Nat.le_refl _,e1▸q⟩
  obtain⟨vs,rfl,hv,q⟩:=q
  unfold B7
  refine ab (D3 (g:=aF g cs C A) F K2.k q _ _ (λok w3 n3 q3=>?_) λe w3 n x q=>q.elim)
  have K3:=K2.next Fs n3
  cases ok with
  | false=>exact ai (z w3 _ K3 ⟨vs,rfl,Nat.le_succ_of_le hv,q3⟩)
  | true=>
   refine ab (ab (E1 (g:=aF g cs C A) F q3 K3.k _ _ (λu w4 n4 r4=>?_) λe w3 n x q=>q.elim))
   obtain⟨op,r,q4⟩:=r4
   obtain⟨b,rb,q4⟩:=a9 r q4
   have K4:=K3.next Fs n4
   refine ab (.of (pG (s:=g.at w4) (vs:=vs) K4.dl rb (Nat.le_trans hv (Nat.le_trans (Nat.le_of_lt lt) len)) λh5 L5 sb5=>ai (ai (z _ (.list (vs++[b])) (K4.put (tk:=w4.tk) Fs nD dI sb5 L5) ⟨vs++[b],rfl,by rw[List.length_append];exact Nat.succ_le_succ hv,?_⟩))))
   have e1:(λus S=>K (vs++[b]++us) S)=λus S=>K (vs++(b::us)) S:=by
    funext us S;rw[List.append_assoc];rfl
   show eG f (dD cs) x ifs elt (b9 ρ cs.names) _ w4.S (λus S=>K (vs++[b]++us) S)
   rw[e1];exact q4
end
noncomputable def gm(k:Str)(v:Value):List (Str×Value)->List (Str×Value)
 | []=>[(k,v)]
 | p::r=>if p.1=k then(p.1,v)::r else p::gm k v r
theorem kG{k:Str}{v:Value}{l:List (Str×Value)}:(l.map (·.1)).Nodup->stored l k v=gm k v l:=by
 induction l with
 | nil=>exactλq0=>rfl
 | cons p r ih=>
  intro nd
  have nd:=List.nodup_cons.mp nd
  have ih:=ih nd.2
  unfold stored at ih ⊢
  show _=if p.1=k then(p.1,v)::r else p::gm k v r
  by_cases w:p.1=k
  ·have same:r.map (λkv=>if kv.1=k then(kv.1,v)else kv)=r:=(List.map_congr_left λq m=>by
    rw[if_neg λz=>nd.1 (by show p.1∈_;rw[w,<-z];exact List.mem_map_of_mem (f:=(·.1)) m)];rfl).trans (List.map_id r)
   rw[if_pos w,List.map_cons,if_pos w,same,if_pos (by rw[List.any_cons,decide_eq_true w];rfl)]
  ·rw[if_neg w,<-ih,List.any_cons,show decide (p.1=k)=false from decide_eq_false w,Bool.false_or]
   split
   ·rw[List.map_cons,if_neg w]
   ·rfl
section
variable {P:Params}{I:PH}{c:Cx}
theorem sE(p:Str×AV)(r:List (Str×AV))(k:Str)(a:AV):bq (p::r) k a=bif Fast.sEq p.1 k then(p.1,a)::r else p::bq r k a:=rfl
inductive zI(P:Params)(I:PH)(l:List (Str×AV))(kvs:List (Str×Value)):Prop
 | mk (m:kvs.map (·.1)=l.map (·.1)) (r:a0 P I (l.map (·.2)) (kvs.map (·.2)))
theorem jf{k:Str}{a:AV}{v:Value}(ra:rep P I a v){l:List (Str×AV)}:∀{kvs:List (Str×Value)},zI P I l kvs->zI P I (bq l k a) (gm k v kvs):=by
 induction l with
 | nil=>
  intro kvs h
  obtain⟨m,r⟩:=h
  cases kvs with
  | nil=>exact⟨rfl,v,[],rfl,ra,rfl⟩
  | cons _ _=>cases m
 | cons p l ih=>
  intro kvs h
  obtain⟨m,r⟩:=h
  cases kvs with
  | nil=>cases m
  | cons q kvs=>
   refine bp λGG1 hG1=>?_
   obtain⟨e1,e2⟩:=List.cons.inj m
   obtain⟨w,ws,ew,r1,r2⟩:=r
   obtain⟨rfl,rfl⟩:=List.cons.inj ew
   obtain⟨i1,i2⟩:=ih ⟨e2,r2⟩
   refine hG1 ?_
   rw[sE,dO]
   show zI P I _ (if q.1=k then(q.1,v)::kvs else q::gm k v kvs)
   have e1:q.1=p.1:=e1
   by_cases z:q.1=k
   ·rw[if_pos z,beq_iff_eq.mpr (e1.symm.trans z)]
    exact⟨congr (congrArg _ e1) e2,v,_,rfl,ra,r2⟩
   ·rw[if_neg z,beq_eq_false_iff_ne.mpr (λw=>z (e1.trans w))]
    exact⟨congr (congrArg _ e1) i1,_,_,rfl,r1,i2⟩
theorem rY{l:List (Str×AV)}:∀{es:List DictEntry} {kvs:List (Str×Value)},(∀e∈es,∃k,(strKind c.prog c.w).is k e.key=true/\e.hash=(strKind c.prog c.w).hash k)->Pairs (strKind c.prog c.w) es kvs->zI c.P I l kvs->cH c.P I l es:=by
 induction l with
 | nil=>
  intro es kvs _ p h
  cases p with
  | nil=>rfl
  | cons=>obtain⟨e,_⟩:=h;cases e
 | cons q l ih=>
  intro es kvs hk p h
  obtain⟨e,r⟩:=h
  cases p with
  | nil=>cases e
  | @cons en q' es kvs h1 h2 h3=>
   refine bp λGG1 hG1=>?_
   obtain⟨e1,e2⟩:=List.cons.inj e
   obtain⟨w,ws,ew,r1,r2⟩:=r
   obtain⟨rfl,rfl⟩:=List.cons.inj ew
   obtain⟨t,ht⟩:=mK h1
   obtain⟨k2,g1,g2⟩:=hk en (.head _)
   obtain⟨t2,ht2⟩:=mK g1
   refine hG1 ?_
   have e3:q'.1=k2:=by cases ht.symm.trans ht2;rfl
   have e1:q'.1=q.1:=e1
   exact⟨en,es,rfl,⟨t,e1▸ht,(by rw[g2,<-e3,e1];rfl),by rw[h2];exact r1⟩,ih (λe m=>hk e (.tail _ m)) h3 ⟨e2,r2⟩⟩
theorem yQ{A:Around}{d:Addr}{l:List (Str×AV)}{k:Str}{t:Tok}{a:AV}{v:Value}{s:Shared}{Q:Unit->Shared->Prop}{E:Value->Shared->Prop}(hl:fA s.heap d (l.map (·.1)) (cH c.P I l))(ra:rep c.P I a v)(hz:l.length<=16777216)
  (q:∀h' tk,fA h' d ((bq l k a).map (·.1)) (cH c.P I (bq l k a))->Heap.SameBut d s.heap h'->Q () {s with heap:=h',toks:=tk}):wpAny c.M A (dictSet d (.str k t) v) Q E s:=by
 refine bp λGG1 hG1=>?_
 obtain⟨o,x,n,e1,e2,e3,e4,e5,e6,e7⟩:=hl
 obtain⟨kvs,D,m,r⟩:=eT (c:=c) e1 e2 e4 e5 e6
 refine hG1 ?_
 have hsz:kvs.length<=sizeLine:=by
  have:=congrArg List.length m
  rw[List.length_map,List.length_map]at this
  rw[sizeLine_eq,this];exact hz
 refine wpAny_dictSet_pairs (knd:=strKind c.prog c.w) (k:=k) (hsz:=hsz) (by show(k==k)=true;exact beq_self_eq_true k) D λh' D' sb=>?_
 refine q h' _ ?_ sb
 refine bp λGG2 hG2=>?_
 obtain⟨o',es',n',f1,f2,f3,f4,f5,f6⟩:=D'
 refine hG2 ?_
 rw[kG (m▸e6)]at f5
 exact⟨o',es',n',f1,f2,f2.2.1,f3,rY (λe m=>f4 e (Array.mem_toList_iff.mp m)) f5 (jf ra ⟨m,r⟩),dX e6,e7⟩
end
noncomputable def Co(kx vx:Expr)(D:Addr)(env:Env)(cd:Code):Sem Fin:=do
 let mut ok:=true
 for c in([]:List Expr) do
  if ok then ok <-isTrue c env (eval c env)
 if ok then
  (do
   let kv <-eval kx env
   let vv <-holding [kv] (eval vx env)
   standAt {kx.pos with endLine:=vx.pos.endLine,endCol:=vx.pos.endCol}
   holding [kv,vv] (dictSet D kv vv))
 again cd
noncomputable abbrev rJ(kx vx iter:Expr)(x:Str)(px pos:Pos)(cs:Scope):Expr:=.DictComp kx vx [⟨.Name x px,iter,[],0⟩] cs pos
section
variable {g:Fr}{ρ:aa}{w:W}{cs:Scope}{f:fe->Prop}{l:List AV}
theorem uY(l:List (Str×AV))(k:Str)(a:AV):(bq l k a).length<=l.length+1:=by
 induction l with
 | nil=>exact Nat.le_refl _
 | cons p r ih=>
  rw[sE]
  cases Fast.sEq p.1 k with
  | true=>exact Nat.le_succ _
  | false=>exact Nat.succ_le_succ ih
theorem Aw{kx vx iter:Expr}{x:Str}{px pos:Pos}{K:List (Str×AV)->St->Prop}(F:aw f g.c g.n)(y:Ok g ρ w)(k:cD g cs ρ)(hx:cs.names.lookup x=some .local)(len:l.length<=16777216)(q:pq f (dD cs) x kx vx (b9 ρ cs.names) l [] ⟨w.S.sh,[]⟩ K):
  mi g w cs (b9 ρ cs.names) (rJ kx vx iter x px pos cs) l {cls:=.type "dict",data:=.dict #[]} (.dict []) newDict (λlo S=>∃vs,lo=.dict vs/\K vs S) where
 acc:=λA s Q E q=>wpAny_newObj_type q
 lo:=λh a e ns=>⟨_,#[],0,e,⟨rfl,rfl,rfl⟩,rfl,rfl,rfl,List.nodup_nil,ns⟩
 fr:=rfl
 start:=λIt D env R s h0 h=>pj (e:=rJ kx vx iter x px pos cs) rfl rfl rfl h0 h
 loop:=λIt D C A Sw fp Pr w1 R hA Wk live hp Fs nC nI nD dI e1 K0 fin=>by
  refine kH (p:=iter.pos) (px:=px) (body:=Co kx vx D (compEnv g cs C) (.compLoop (rJ kx vx iter x px pos cs) 0 (.ref It) (.ref D) (compEnv g cs C)))
   (P:=λi r lo S=>∃vs,lo=.dict vs/\vs.length<=i/\pq f (dD cs) x kx vx (b9 ρ cs.names) r vs S K) (Kf:=λlo S=>∃vs,lo=.dict vs/\K vs S)
   rfl hA (hA▸y.fr.a.handled) Wk live hp Fs hx nC nI dI (λa r lo w2 i Q lt K2 q z=>?_) (Bp k hx) (λi lo S ⟨vs,e,_,q⟩=>⟨vs,e,q⟩) fin l (.dict []) w1 0 rfl (Nat.zero_le _) K0 ⟨[],rfl,Nat.le_refl _,e1▸q⟩
  obtain⟨vs,rfl,hv,q⟩:=q
  unfold Co
  refine ab (ai (ab (ab (E1 (g:=aF g cs C A) F q K2.k _ _ (λu w3 n3 r3=>?_) λe w3 n x q=>q.elim))))
  obtain⟨op,rk,q3⟩:=r3
  obtain⟨y',t,rfl,q3⟩:=fw rk q3
  have K3:=K2.next Fs n3
  refine ab (au (E1 (g:=aF g cs C A) F q3 K3.k _ _ (λu w4 n4 r4=>?_) λe w3 n x q=>q.elim))
  obtain⟨op,rv,q4⟩:=r4
  obtain⟨b,rb,q4⟩:=a9 rv q4
  have K4:=K3.next Fs n4
  exact ab (aQ (au (.of (yQ (s:=g.at w4) (l:=vs) K4.dl rb (Nat.le_trans hv (Nat.le_trans (Nat.le_of_lt lt) len)) λh5 tk5 L5 sb5=>ai (z ⟨w4.I,w4.loc,w4.S,h5,tk5⟩ (.dict (bq vs y' b)) (K4.put Fs nD dI sb5 L5) ⟨_,rfl,Nat.le_trans (uY ..) (Nat.succ_le_succ hv),q4⟩)))))
end
structure cQ(f:fe->Prop):Prop where
 s:∀sc es k p ρ S Q X,¬f (.E sc (.Set es k p) ρ S Q X)
 t:∀sc e p ρ S Q X,¬f (.E sc (.Starred e p) ρ S Q X)
section
variable {T:aB}{g:Fr}{ρ ρ':aa}{w w':W}{cs:Scope}{Q:Op->St->Prop}{X:aa->St->Prop}{f:fe->Prop}
theorem GN{e:Expr}(N:cQ f){sc:Scope}{S:St}(k:f (.E sc e ρ S Q X))(env:Env)(x:Value):foldedSetIterable e env x=pure x:=by
 cases e with
 | Set es kk p=>exact absurd k (N.s _ _ _ _ _ _ _ _)
 | _=>rfl
theorem tP{e:Expr}(N:cQ f){sc:Scope}{S:St}(k:f (.E sc e ρ S Q X)):noStar e=true:=by
 cases e with
 | Starred e p=>exact absurd k (N.t _ _ _ _ _ _ _)
 | _=>rfl
theorem lO{e:Expr}{p:Str->Expr->Prop}{q:Prop}(k:si e p q):(∃r rp x pos,e=.Call (.Name r rp) [x] [] pos/\p r x)\/q:=by
 rcases rE k with⟨fn,as,ks,pos,rfl,k⟩|k
 ·rcases lU k with⟨r,rp,rfl,k⟩|k
  ·obtain _|⟨x,_|_⟩:=as
   ·exact .inr k
   ·cases ks with
    | nil=>exact .inl ⟨r,rp,x,pos,rfl,k⟩
    | cons _ _=>exact .inr k
   ·exact .inr k
  ·exact .inr k
 ·exact .inr k
theorem ek{x:Str}{p:Pos}(gl:qS g.c T)(y:Ok g ρ w)(q:nameP T g.sc x ρ w.S Q):ET g ρ w (eval (.Name x p) g.env) Q X:=by
 rw[eval_Name g.env x p (fN q.e)]
 exact TE.stand (i9 gl y q)
theorem fF{nm:Str}{n:Nat}{t:Ty}{sc:Scope}{S:St}(ht:∀u:Ty,Nat.beq u.nr n=true->u=t)(k:cG T sc nm n=true):nameP T sc nm ρ S (λfv S'=>fv=.v (.ty t)/\S'=S):=by
 obtain⟨k1,k2⟩:=Bool.and_eq_true_iff.mp k
 obtain⟨k2,k3⟩:=Bool.and_eq_true_iff.mp k2
 refine .i k3 ?_
 unfold qi at k1
 cases h:jr (dc sc.names nm)with
 | glob=>
  show aP (T.gl nm) _
  cases h2:T.gl nm with
  | none=>rw[h2]at k2;cases k2
  | some a=>
   rw[h2]at k2
   cases a with
   | ty u=>exact⟨by rw[ht u k2],rfl⟩
   | _=>cases k2
 | _=>rw[h]at k1;cases k1
theorem qC{nm:Str}{gp pos:Pos}{x:Expr}{t:Ty}{K:Op->St->Prop}{R:Value->W->Prop}(Fa:aH g.c T)(F:aw f g.c g.n)(y:Ok g ρ w)(ht:∀u:Ty,Nat.beq u.nr t.nr=true->u=t)(w1:cG T g.sc nm t.nr=true)(w2:noStar x=true)(k:f (.E g.sc x ρ w.S K X))
  (go:∀op v w2,Nx g ρ w w2->bB g w2 op v->K op w2.S->TE g ρ w2 (PySem.call (.type t.name) [v] []) R X):TE g ρ w (eval (.Call (.Name nm gp) [x] [] pos) g.env) R X:=by
 show TE g ρ w (eval (.Name nm gp) g.env >>=λfv=>PySem.callWith pos fv [] (backTo pos (starEach [x] g.env)) []) R X
 refine TE.bind (ek Fa.gl y (fF ht w1)) λvf w1 n1 ⟨fv,rf,ef,es⟩=>?_
 subst ef
 have rf:vf=.type t.name:=rf
 subst rf
 rw[bJ pos [x] (by rw[List.all_cons,w2];rfl)]
 refine TE.callWith (λq0 q1=>xx _) (aT [x]) (TE.mono (spliced_cons (K:=λops S=>∃op,ops=[op]/\K op S) (E1 F (es▸k) n1.k) λop w2 n2 q=>spliced_nil n2.k ⟨op,rfl,q⟩) λvs w2 n2 ⟨ops,ro,op,eo,q⟩ _ tt et=>?_)
 subst eo et
 obtain⟨v,_,rfl,rv,rfl⟩:=ro
 exact go op v w2 (n1.trans n2) rv q
abbrev yk(g:Fr)(ρ:aa)(w:W)(e:Expr)(K:List AV->St->Prop)(X:aa->St->Prop):Prop:=TE g ρ w (eval e g.env) (λv w1=>xR g w1 v λl=>K l w1.S) X
theorem oG{e:Expr}{K:List AV->St->Prop}(F:aw f g.c g.n)(N:cQ f)(y:Ok g ρ w)(k:f (.E g.sc e ρ w.S (λa S=>mz a S K) X)):yk g ρ w e K X/\∀x,foldedSetIterable e g.env x=pure x:=
 ⟨TE.mono (E1 F k y) λv w1 n1 hh=>hh.casesOn λop r q=>yG n1.k r q,GN N k _⟩
theorem yR(u:Ty)(h:Nat.beq u.nr Ty.range.nr=true):u=.range:=by cases u<;>first|rfl|cases h
theorem fT{e:Expr}{K:List AV->St->Prop}(Fa:aH g.c T)(F:aw f g.c g.n)(N:cQ f)(y:Ok g ρ w)(k:ib f T g.sc e ρ w.S K X):yk g ρ w e K X/\∀x,foldedSetIterable e g.env x=pure x:=by
 rcases lO k with⟨r,rp,x,pos,rfl,k⟩|k
 ·cases h:cG T g.sc r 8 with
  | false=>rw[h]at k;exact oG F N y k
  | true=>
   rw[h]at k
   refine⟨qC (t:=.range) Fa F y yR h (tP N k) k λop v w2 n2 r q=>?_,λq0=>rfl⟩
   obtain⟨i,t,rfl,k0,k1,q⟩:=bE r q
   refine .of λQ E z=>call_range_1 (s:=g.at w2) (z _ ⟨w2.I,w2.loc,w2.S,_,_⟩ (.grows n2.k (Grows.push w2.h {cls:=.type "range",data:=.fields #[.int 0 w2.tk,.int i t,.int 1 (w2.tk+1)]})) ⟨_,src_range (IsRange.new w2.h 0 i 1 w2.tk t (w2.tk+1)) k0 k1,?_,q⟩)
   rw[bc];exact uK 0x400000100000017ffd0000004000000a00c00d k1 (cV (i) (uI 0x4400000000800d k0))
 ·exact oG F N y k
theorem nK{l:List (Str×NameKind)}:lS l=true->(l.map (·.1)).Nodup:=by
 induction l with
 | nil=>exactλq0=>List.nodup_nil
 | cons p r ih=>
  intro h
  have h:=Bool.and_eq_true_iff.mp h
  refine List.nodup_cons.mpr ⟨λm=>?_,ih h.2⟩
  obtain⟨q,mq,e⟩:=List.mem_map.mp m
  have:=List.all_eq_true.mp h.1 q mq
  rw[Fast.sEq_iff.mpr e.symm]at this;cases this
theorem jx{k:Option NameKind}(h:my k=true):k=some .local:=by
 cases k with
 | none=>cases h
 | some k=>cases k<;>first|rfl|cases h
theorem tJ{k:Option NameKind}(h:mR k=true):k=some .cell:=by
 cases k with
 | none=>cases h
 | some k=>cases k<;>first|rfl|cases h
theorem xr{k:ScopeKind}(h:isFn k=true):k=.function:=by cases k<;>first|rfl|cases h
theorem tX{n:Str}{op:Op}:∀{ρ:aa},aG ρ n=some op->∃p∈ρ,p.2=op:=by
 intro ρ
 induction ρ with
 | nil=>exact nofun
 | cons p r ih=>
  intro q
  obtain⟨a,b⟩:=p
  rw[aN]at q
  by_cases z:a=n
  ·rw[if_pos z]at q;cases q;exact⟨_,.head _,rfl⟩
  ·rw[if_neg z]at q
   obtain⟨p,mp,e⟩:=ih q
   exact⟨p,.tail _ mp,e⟩
structure Cu(g:Fr)(cs:Scope)(ρ:aa)(x:Str):Prop where
 c:cD g cs ρ
 x:cs.names.lookup x=some .local
 n:∀y∈cs.names,y.2=.local->cs.names.lookup y.1=some .local
theorem jJ{x:Str}(y:Ok g ρ w)(k:pY g.sc ρ x cs=true):Cu g cs ρ x:=by
 obtain⟨k1,k⟩:=Bool.and_eq_true_iff.mp k
 obtain⟨k2,k⟩:=Bool.and_eq_true_iff.mp k
 obtain⟨k3,k⟩:=Bool.and_eq_true_iff.mp k
 obtain⟨k4,k5⟩:=Bool.and_eq_true_iff.mp k
 have k5:=nK k5
 have one:=λp m=>Bool.and_eq_true_iff.mp (List.all_eq_true.mp k3 p m)
 refine⟨⟨λn m=>?_,λn op e=>?_,k5,λn m=>?_,xr k1⟩,by rw[<-cR];exact jx k2,λy m e=>cL k5 (by rw[<-e];exact m)⟩
 ·have h:=(one _ m).2
  have h:(mR (dc g.sc.names n)&&(aG ρ n).isSome)=true:=h
  have e:=tJ (Bool.and_eq_true_iff.mp h).1
  rw[cR]at e
  exact⟨e,Option.isSome_iff_exists.mp (y.fr.cell (n,.cell) (PySem.mem_of_lookup_some e) rfl)⟩
 ·obtain⟨p,mp,e2⟩:=tX e
  exact e2▸List.all_eq_true.mp k4 p mp
 ·have:=(one _ m).1;cases this
theorem lL(y:Ok g ρ w)(k:cD g cs ρ):closureFor cs g.env=pure (bG g.cells cs.names []):=by
 refine jo λn m=>?_
 obtain⟨a,e⟩:=(k.cell n m).2
 rw[y.fr.ecells,fE e,e];rfl
theorem pn{e:Expr}{gn:Comprehension}{p:Pos}{oD:Obj}{lo0:LO}{newAcc:Sem Value}{KI:List AV->St->Prop}{Kf:W->LO->St->Prop}{x:Str}(y:Ok g ρ w)(H:Cu g cs ρ x)(hcl:clausesOf e=[gn])(it:yk g ρ w gn.iter KI X)(hs:∀x,foldedSetIterable gn.iter g.env x=pure x)
  (hu:∀It D C,gu (g.A.under (.compLoop e 0 (.ref It) (.ref D) (compEnv g cs C))) g.n g.all) (tx:∀w1 l,Ok g ρ w1->l.length<=16777216->KI l w1.S->mi g w1 cs (b9 ρ cs.names) e l oD lo0 newAcc (Kf w1)) (hq:∀w1 lo S,Kf w1 lo S->Q (.v lo.av) {w1.S with sh:=S.sh}):
  ET g ρ w (comprehension e cs g.env p newAcc false (eval gn.iter g.env) none) Q X:=λQ' E z1 z2=>
 bW (cl:=bG g.cells cs.names []) hcl hs (lL y H.c) H.c.fn H.n (it _ E (λv w1 n1 hh=>hh.casesOn λl sr len q=>lG (tx w1 l n1.k len q) hu n1.k sr H.c λD C A lo w' nD nC DC K q=>by
  obtain⟨m,N,h⟩:=comp_back n1.k nD nC DC K
  refine⟨m,N,λh' sb=>?_⟩
  obtain⟨J,n2,r⟩:=h h' sb
  exact z1 _ _ (n1.trans n2) ⟨.v lo.av,r,hq _ _ _ q⟩) z2)
inductive Jn(gens:List Comprehension)(p:Str->Expr->List Expr->Prop):Prop
 | mk (x:Str) (px:Pos) (iter:Expr) (ifs:List Expr) (e:gens=[⟨.Name x px,iter,ifs,0⟩]) (k:p x iter ifs)
theorem qG{gens:List Comprehension}{p:Str->Expr->List Expr->Prop}(k:E7 gens p):Jn gens p:=by
 obtain _|⟨⟨t,iter,ifs,as⟩,_|_⟩:=gens
 ·exact k.elim
 ·cases t with
  | Name x px=>cases as with
   | ofNat n=>cases n with
    | zero=>exact⟨x,px,iter,ifs,rfl,k⟩
    | succ _=>exact k.elim
   | negSucc _=>exact k.elim
  | _=>exact k.elim
 ·exact k.elim
theorem kZ{elt:Expr}{gens:List Comprehension}{p:Pos}(Fa:aH g.c T)(F:aw f g.c g.n)(N:cQ f)(y:Ok g ρ w)(k:dy f T g.sc elt gens cs ρ w.S (λl S=>Q (.v (.list l)) S) X):ET g ρ w (eval (.ListComp elt gens cs p) g.env) Q X:=by
 obtain⟨x,px,iter,ifs,rfl,k⟩:=qG k
 have H:=jJ y k.e
 obtain⟨it,hs⟩:=fT Fa F N y k.p
 exact pn (e:=sD elt iter ifs x px p cs) (gn:=⟨.Name x px,iter,ifs,0⟩) (Kf:=λw1 lo S=>∃vs,lo=.list vs/\(vs.length<=16777216/\Q (.v (.list vs)) {w1.S with sh:=S.sh})) y H rfl it hs (λIt D C=>⟨y.fr.a.handled,y.fr.a.depth,y.fr.a.units,y.fr.a.frames⟩)
  (λw1 l y1 len q=>rq (K:=λvs S=>vs.length<=16777216/\Q (.v (.list vs)) {w1.S with sh:=S.sh}) F y1 H.c H.x len q) λw1 lo S ⟨vs,e,_,q⟩=>by subst e;exact q
theorem th{kx vx:Expr}{gens:List Comprehension}{p:Pos}(Fa:aH g.c T)(F:aw f g.c g.n)(N:cQ f)(y:Ok g ρ w)(k:kO f T g.sc kx vx gens cs ρ w.S Q X):ET g ρ w (eval (.DictComp kx vx gens cs p) g.env) Q X:=by
 obtain⟨x,px,iter,ifs,rfl,k⟩:=qG k
 have ei:=k.e
 have k:=k.p
 cases ifs with
 | cons _ _=>cases ei
 | nil=>
  have H:=jJ y k.e
  obtain⟨it,hs⟩:=fT Fa F N y k.p
  exact pn (e:=rJ kx vx iter x px p cs) (gn:=⟨.Name x px,iter,[],0⟩) (Kf:=λw1 lo S=>∃vs,lo=.dict vs/\Q (.v (.dict vs)) {w1.S with sh:=S.sh}) y H rfl it hs (λIt D C=>⟨y.fr.a.handled,y.fr.a.depth,y.fr.a.units,y.fr.a.frames⟩)
   (λw1 l y1 len q=>Aw (K:=λvs S=>Q (.v (.dict vs)) {w1.S with sh:=S.sh}) F y1 H.c H.x len q) λw1 lo S ⟨vs,e,q⟩=>by subst e;exact q
end
section
variable {T:aB}{g:Fr}{ρ ρ':aa}{w w':W}{cs:Scope}{Q:Op->St->Prop}{X:aa->St->Prop}{f:fe->Prop}
theorem mZ.next{v:Value}{cal:jT}{p:Value×List Value}(r:mZ g v cal p w)(n:Nx g ρ w w'):mZ g v cal p w':=by
 cases cal with
 | fn _ _=>exact r
 | bi b=>exact r
 | fromB=>
  obtain⟨x,e,h,nn,f⟩:=r
  cases n.t.kept x _ h with|mk o' e' l=>
  exact⟨x,e,(l λm=>nn (List.mem_append_right _ m)).eq f▸e',λm=>(n.nt.t.old m).elim nn λz=>sn h z,f⟩
noncomputable abbrev jl(g:Fr)(args:List Expr):List (Bool×Sem Value):=args.map λe=>(false,eval e g.env)
theorem sT{R:Value->W->Prop}{o:Expr}{x:Str}{ap pos:Pos}{args:List Expr}{nk:Nat}{kws:List (Option Str×Sem Value)}{K:Op->jT->List Op->St->Prop}(Fa:aH g.c T)(F:aw f g.c g.n)(y:Ok g ρ w)(ok:qk o ap args pos=true)
  (hf:methodCallForm (args.length+nk) (jl g args) kws=true) (k:f (.E g.sc o ρ w.S (λa S=>zS T S a x λcal=>f (.L g.sc args ρ S (K a cal) X)) X))
  (go:∀w1 a v cal (p:Value×List Value),Nx g ρ w w1->bB g w1 a v->mZ g v cal p w1->AT g ρ w1 (spliced (jl g args)) (K a cal) X->TE g ρ w1 (PySem.callWith pos p.1 p.2 (jl g args) kws) R X):
  TE g ρ w (attributeBase o x g.env (eval o g.env) >>=λov=>standAt ap.atName >>=λq0=>methodCall o x ap pos g.env ov (args.length+nk) (backTo pos (starEach args g.env)) kws) R X:=by
 refine bp λGG1 hG1=>?_
 obtain⟨w1,ok⟩:=Bool.and_eq_true_iff.mp ok
 obtain⟨w2,ok⟩:=Bool.and_eq_true_iff.mp ok
 obtain⟨w3,w4⟩:=Bool.and_eq_true_iff.mp ok
 refine hG1 ?_
 rw[jR w1]
 refine TE.bind (E1 F k y) λv w1 n1 hh=>hh.casesOn λa ra q=>.stand ?_
 unfold methodCall
 rw[bJ pos args w4,hf]
 refine TE.bind (.hold (Bf n1.k Fa.co Fa.fb ra q)) λp w5 n5 hh=>hh.casesOn λcal q rc eI el eS=>?_
 have e1:methodCallPos true o g.env ap pos=pure pos:=by
  unfold methodCallPos
  rw[show(ap.endLine==pos.line)=true from beq_iff_eq.mpr (Nat.eq_of_beq_eq_true w2)];rfl
 dsimp only
 rw[e1]
 exact go w5 a v cal p (n1.trans n5) (n5.opr ra) rc (F g w5 _ rfl rfl q rfl eS n5.k)
theorem m7(args:List Expr):((jl g args).all (!·.1))=true:=by rw[List.all_map];exact List.all_eq_true.mpr λx q0=>rfl
theorem AQ{o:Expr}{x:Str}{ap pos:Pos}{args:List Expr}(Fa:aH g.c T)(F:aw f g.c g.n)(y:Ok g ρ w)(k:methP f g.c T g.n g.sc o x ap args pos ρ w.S Q X):ET g ρ w (eval (.Call (.Attribute o x ap) args [] pos) g.env) Q X:=by
 have ok:=k.e
 refine sT (nk:=0) (kws:=[]) (K:=λa cal ops S=>ES g.c T g.n cal a ops ρ S Q X) Fa F y ok ?_ k.p λw1 a v cal p n1 ra rc A=>TE.callWith (λq0 n=>rc.keep n) (aT args) (A.mono λvs w2 n2 ⟨ops,ro,q⟩ n t et=>?_)
 ·have lt:args.length<20:=Nat.blt_eq.mp (Bool.and_eq_true_iff.mp (Bool.and_eq_true_iff.mp (Bool.and_eq_true_iff.mp ok).2).2).1
  unfold methodCallForm
  rw[m7]
  simp only[List.all_nil,Bool.true_and,List.isEmpty_nil,if_true,decide_eq_true_eq]
  exact uA 0xf1048040201b61420900c00c lt
 ·subst et
  exact Aq Fa n2.k (n2.opr ra) (rc.next n2) ro q
theorem evalArgs_kw{fv:Value}{args:List (Bool×Sem Value)}{kn:Str}{t:Sem Value}{R:Args->W->Prop}(n:args.any (·.1)=false)(x:TE g ρ w (spliced args) (λvs w1=>TE g ρ w1 t (λv=>R ⟨vs,[(kn,v)]⟩) X) X):TE g ρ w (PySem.evalArgs fv true args [(some kn,t)]) R X:=by
 have tail:∀{vs:List Value} {w1:W},TE g ρ w1 t (λv=>R ⟨vs,[(kn,v)]⟩) X->TE g ρ w1 (holding (vs++(Option.none:Option Value).toList) (evalAll [t] >>=λws=>(Pure.pure vs:Sem (List Value)) >>=λp=>(Pure.pure ⟨p,[kn].zip ws⟩:Sem Args))) R X:=λ{vs w1} k=>by
  refine .hold (.bind (R:=λws=>R ⟨vs,[kn].zip ws⟩) ?_ λws w2 n2 r2=>.pure n2.k r2)
  show TE g ρ w1 (t >>=λv=>holding [v] (evalAll []) >>=λr=>pure (v::r)) _ X
  exact k.bind λv w2 n2 r2=>.bind (R:=λr w3=>r=[]/\w3=w2) (.hold (.pure n2.k ⟨rfl,rfl⟩)) λr w3 n3 hh=>hh.casesOn λe1 e2=>by subst e1 e2;exact .pure n3.k r2
 have one:∀{j:List Value×Option Value->Sem Args},(∀vs,j (vs,Option.none)=holding (vs++(Option.none:Option Value).toList) (evalAll [t] >>=λws=>(Pure.pure vs:Sem (List Value)) >>=λp=>(Pure.pure ⟨p,[kn].zip ws⟩:Sem Args)))->
   TE g ρ w (spliced args >>=λvs=>(Pure.pure (vs,Option.none):Sem (List Value×Option Value)) >>= j) R X:=λ{j} e=>
  x.bind λvs w1 n1 k=>.bind (R:=λv w2=>v=(vs,Option.none)/\w2=w1) (.pure n1.k ⟨rfl,rfl⟩) λv w2 n2 hh=>hh.casesOn λe1 e2=>by subst e1 e2;rw[e vs];exact tail k
 unfold PySem.evalArgs
 obtain _|⟨⟨d,t⟩,_|_⟩:=args
 ·exact one λvs=>rfl
 ·cases d with
  | true=>cases n
  | false=>exact one λvs=>rfl
 ·cases d<;>exact one λvs=>rfl
inductive M0(g:Fr)(fa:Addr)(kn:Str)(ρ:aa)(Q:Op->St->Prop)(X:aa->St->Prop)(a:Args)(w:W):Prop
 | mk (ops:List Op) (vs:List Value) (u:Value) (v:Op) (e:a=⟨vs,[(kn,u)]⟩) (nl:(!(ops.any Op.isLoc||v.isLoc))=true) (ro:bN g w ops vs) (rv:bB g w v u) (q:cA g.c g.n fa ops [(kn,v)] ρ w.S Q X)
theorem HJ{o e:Expr}{x kn:Str}{ap pos kp:Pos}{args:List Expr}(Fa:aH g.c T)(F:aw f g.c g.n)(y:Ok g ρ w)(k:Lg f g.c T g.n g.sc o x ap args kn e pos ρ w.S Q X):ET g ρ w (eval (.Call (.Attribute o x ap) args [⟨some kn,e,kp⟩] pos) g.env) Q X:=by
 have ok:=k.e
 refine sT (nk:=1) (kws:=[(some kn,eval e g.env >>=λv=>standAt pos >>=λq0=>pure v)]) (K:=λa cal ops S=>CF g.c g.n cal λfa=>f (.E g.sc e ρ S (λv S=>Gd (!(ops.any Op.isLoc||v.isLoc)) (cA g.c g.n fa ops [(kn,v)] ρ S Q X)) X)) Fa F y ok ?_ k.p λw1 a v cal p n1 ra rc A=>?_
 ·have lt:args.length<20:=Nat.blt_eq.mp (Bool.and_eq_true_iff.mp (Bool.and_eq_true_iff.mp (Bool.and_eq_true_iff.mp ok).2).2).1
  unfold methodCallForm
  rw[m7]
  simp only[List.all_cons,List.all_nil,Option.isSome_some,Bool.true_and,Bool.and_true,List.isEmpty_cons,Bool.false_eq_true,if_false,decide_eq_true_eq]
  exact uA 0xf1048241201b61420900c00c lt
 ·cases cal with
  | fn fa self=>
   cases self with
   | true=>exact TE.noCall (evalArgs_kw (aT args) (A.mono λvs w2 n2 hh=>hh.casesOn λops ro q=>q.elim))
   | false=>
    obtain⟨rfl,kin⟩:=rc
    refine TE.callTail (λw2 n=>xS kin n.k.kin) (by rw[aT args];rfl) (TE.mono (R:=M0 g fa kn ρ Q X) (evalArgs_kw (aT args) (A.mono λvs w2 n2 hh=>hh.casesOn λops ro q=>(E1 F (Gd.p (b:=true) q) n2.k).bind λu w3 n3 hh=>hh.casesOn λv rv q=>.stand (.pure n3.k ⟨ops,vs,u,v,rfl,q.e,n3.oprs ro,rv,q.p⟩))) λa w3 n3 r3 t et=>?_)
    obtain⟨ops,vs,u,v,rfl,nl,ro,rv,q⟩:=r3
    rw[Bool.not_or,Bool.and_eq_true]at nl
    subst et
    exact TE.call (kw:=[(kn,v)]) (kvals:=[(kn,u)]) n3.k n3.k.fr.a (iJ nl.1 ro) ⟨_,[],rfl,⟨u,rfl,(by cases v<;>first|exact rv|exact nomatch nl.2)⟩,rfl⟩ q
  | _=>exact TE.noCall (evalArgs_kw (aT args) (A.mono λvs w2 n2 hh=>hh.casesOn λops ro q=>q.elim))
theorem xF{o:Expr}{x:Str}{p:Pos}(Fa:aH g.c T)(F:aw f g.c g.n)(y:Ok g ρ w)(k:Gd (fK o) (f (.E g.sc o ρ w.S (λa S=>xo g.c T g.n a x ρ S Q X) X))):ET g ρ w (eval (.Attribute o x p) g.env) Q X:=by
 rw[arm_eval_Attribute,jR k.e]
 exact TE.bind (E1 F k.p y) λv w1 n1 hh=>hh.casesOn λa ra q=>.stand (TE.bind (.hold (xO n1.k Fa.co ra q)) λu w2 n2 hh=>hh.casesOn λb rb q=>TE.letGo (ET.pure n2.k rb q))
theorem E6{ops:List Op}:∀{vs:List Value} {K:List AV->Prop},bN g w ops vs->DB ops K->∃l,a0 g.c.P w.I l vs/\K l:=by
 induction ops with
 | nil=>intro vs K r q;exact⟨[],r,q⟩
 | cons o r ih=>
  intro vs K ro q
  obtain⟨v,vs,rfl,r1,r2⟩:=ro
  obtain⟨a,r1,q⟩:=a9 r1 q
  obtain⟨l,r2,q⟩:=ih r2 q
  exact⟨a::l,⟨v,vs,rfl,r1,r2⟩,q⟩
theorem yJ{es:List Expr}{pos:Pos}{K:List AV->St->Prop}{mk:List Value->Sem Value}{R:Value->W->Prop}(F:aw f g.c g.n)(y:Ok g ρ w)(k:Dt f g.sc es ρ w.S K X)
  (m:∀w1 l vs,Nx g ρ w w1->a0 g.c.P w1.I l vs->l.length<=16777216->K l w1.S->TE g ρ w1 (mk vs) R X):TE g ρ w (standAt pos >>=λq0=>spliced (backTo pos (starEach es g.env)) >>= mk) R X:=by
 rw[bJ pos es k.e]
 refine TE.stand (TE.bind (F g w _ rfl rfl k.p rfl rfl y) λvs w1 n1 hh=>hh.casesOn λops ro q=>?_)
 obtain⟨l,r,q⟩:=E6 ro q
 exact m w1 l vs n1 r q.1 q.2
theorem sP{e:Option Expr}{K:Option Int->St->Prop}(F:aw f g.c g.n)(y:Ok g ρ w)(k:EE f g.sc e ρ w.S K X):TE g ρ w (valueOrNone (evalOpt e g.env)) (λv w'=>∃k,IsPart v k/\K k w'.S) X:=by
 cases e with
 | none=>exact .pure y ⟨none,.none,k⟩
 | some e=>
  show TE g ρ w (eval _ g.env) _ X
  refine TE.mono (E1 F k y) λv w1 n1 hh=>hh.casesOn λop r q=>?_
  obtain⟨i,t,rfl,q⟩:=bE r q
  exact⟨_,.int _ _,q⟩
theorem GV{i:Expr}{p:Option Expr->Option Expr->Option Expr->Prop}{q:Prop}(k:IX i p q):(∃lo hi st pos,i=.Slice lo hi st pos/\p lo hi st)\/((∀a b p,i≠.Slice a b none p)/\q):=by
 by_cases h:i.ctorIdx=26
 ·exact .inl (Expr.Slice.elim (motive_1:=λi=>IX i p q->∃lo hi st pos,i=.Slice lo hi st pos/\p lo hi st) i h (λlo hi st pos k=>⟨lo,hi,st,pos,rfl,k⟩) k)
 ·exact .inr ⟨λq0 q1 q2 e=>h (e▸rfl),(dif_neg h).mp k⟩
inductive NZ(g:Fr)(a:Op)(Q:Op->St->Prop)(v:Value)(w:W):Prop
 | mk (sl:Addr) (l u:Value) (lo hi:Option Int) (e:v=.ref sl) (s:w.h.IsSliceOf sl l u .none) (il:IsPart l lo) (iu:IsPart u hi) (q:Jl a lo hi w.S Q)
theorem Ag{e i:Expr}{pos:Pos}(Fa:aH g.c T)(F:aw f g.c g.n)(y:Ok g ρ w)(k:CK f g.c T g.n g.sc e i ρ w.S Q X):ET g ρ w (eval (.Subscript e i pos) g.env) Q X:=by
 rw[eval_Subscript]
 rcases GV k with⟨lo,hi,st,p,rfl,k⟩|⟨hs,k⟩
 ·have es:=k.e
  have k:=k.p
  cases st with
  | some _=>cases es
  | none=>
   refine TE.bind (E1 F k y) λvo w1 n1 ⟨a,ra,q⟩=>?_
   show ET g ρ w1 (holding [vo] (valueOrNone (evalOpt lo g.env) >>=λl=>holding [l] (valueOrNone (evalOpt hi g.env)) >>=λu=>holding [l,u] (pure Value.none) >>=λs=>newFields "slice" [l,u,s]) >>=λiv=>standAt pos >>=λq0=>getitemInPython vo >>=λb=>subscripted (.Slice lo hi none p) b vo iv >>=λr=>letTemporaryGo e vo r >>=λq0=>pure r) Q X
   refine TE.bind (R:=NZ g a Q) (.hold ?_) λiv w2 n2 r2=>?_
   ·refine TE.bind (sP F n1.k q) λvl w2 n2 ⟨lo',il,q⟩=>TE.bind (.hold (sP F n2.k q)) λvu w3 n3 ⟨hi',iu,q⟩=>TE.bind (R:=λv w4=>v=.none/\w4=w3) (.hold (.pure n3.k ⟨rfl,rfl⟩)) λv w4 n4 ⟨e1,e2⟩=>?_
    subst e1 e2
    exact .of λQ E z=>wpAny_newObj_type (z _ ⟨w4.I,w4.loc,w4.S,_,w4.tk⟩ (.grows n4.k (Grows.push _ _)) ⟨_,vl,vu,lo',hi',rfl,Heap.IsSliceOf.new _ _ _ _,il,iu,q⟩)
   ·obtain⟨sl,l,u,lo',hi',rfl,hs,il,iu,q⟩:=r2
    exact TE.stand (Ed n2.k (n2.opr ra) il iu hs q)
 ·exact TE.bind (E1 F k y) λvo w1 n1 hh=>hh.casesOn λa ra q=>TE.bind (.hold (E1 F q n1.k)) λvi w2 n2 hh=>hh.casesOn λb rb q=>.stand (wX hs n2.k Fa.co (n2.opr ra) rb q)
end
end Mine
namespace Mine
open PyProof.Rows.LCg PyProof.Rows.LCp
section
variable {prog:Program}{w:World}{A:Around}{E:Value->Shared->Prop}{s:Shared}{env:Env}
theorem gR:∀(l:List Int) (i:Int),(d3 i l).length=l.length
 | [],_=>rfl
 | _::r,i=>congrArg Nat.succ (gR r (i+1))
theorem qR:∀(l:List Int) (i:Int) (n:Int),d3 i (l++[n])=d3 i l++[n/7+(i+l.length)]:=by
 intro l
 induction l with
 | nil=>
  intro i n
  show [n/7+i]=[n/7+(i+(0:Nat))];rw[Int.natCast_zero,Int.add_zero]
 | cons a r ih=>
  intro i n
  show(a/7+i)::d3 (i+1) (r++[n])=(a/7+i)::d3 (i+1) r++[_]
  rw[ih (i+1) n,show i+1+(r.length:Int)=i+((a::r).length :Int) by rw[List.length_cons];exact Int.le_antisymm (uK 0x2403201802000000a00d9) (uK 0x2000000a00d824032019)];rfl
theorem tY{l:Addr}{o:Obj}{items:Array Value}{n:Nat}{Q:Value->Shared->Prop}
  (ho:s.heap.get? l=some o) (hc:o.cls=.type "list") (hd:o.data=.seq items n)
  (h:∀h',IsEnum h' (s.heap.objs.size+1) s.heap.objs.size 0 .none->h'.IsListIter s.heap.objs.size l 0->(∀b o,s.heap.get? b=some o->h'.get? b=some o)->Q (.ref (s.heap.objs.size+1)) {s with heap:=h'}):
  wpAny (model prog w) A (call (.type "enumerate") [.ref l]) Q E s:=by
 obtain⟨cls,dd,data,sl⟩:=o
 simp only at hc hd
 subst hc hd
 have meets:Meets (Builtin.«enumerate.__new__» ⟨[.type "enumerate",.ref l],[]⟩) (λq0 R s=>s.heap.get? l=some {cls:=.type "list",dict:=dd,data:=.seq items n,slots:=sl}/\
   R (.ok (.ret (.ref (s.heap.push {cls:=.type "list_iterator",data:=.fields #[.ref l,.int 0 0]}).objs.size)))
    {s with heap:=(s.heap.push {cls:=.type "list_iterator",data:=.fields #[.ref l,.int 0 0]}).push {cls:=.type "enumerate",data:=.fields #[.none,.bool false,.ref s.heap.objs.size,rawInt 0,.none,.none]}}):=
  .of_wp λprog w A R s h=>by
   obtain⟨hp,g,d,tk,os⟩:=s;obtain⟨hl,h⟩:=h
   have hsub:=sub_enumerate
   have hL:Heap.IsList (Shared.heap ⟨hp,g,d,tk,os⟩) l items:=⟨_,hl,rfl,n,rfl⟩
   wp_walk using AutoSeq1.wpAny_loadPart' hl
   refine wpAny_stack_any λst=>wpAny_pure ?_
   generalize Builtin.SmallTypes.calledThroughType.match_1 _ _ _ _=b
   cases b
   ·wp_walk using AutoSeq1.wpAny_loadPart' hl,wpAny_pyIter_list hL
    exact⟨_,rfl,h⟩
   ·wp_walk using AutoSeq1.wpAny_loadPart' hl,wpAny_pyIter_list hL
    exact⟨_,rfl,h⟩
 refine callType_new F.called_enumerate (by decide) (F.typeCall_enumerate_1 _) (F.newCall_enumerate_1 _) (λobj=>F.args_object_init_2 obj _) F.entry_enumerate_new meets ⟨ho,?_⟩
 have hz:(s.heap.push {cls:=.type "list_iterator",data:=.fields #[.ref l,.int 0 0]}).objs.size=s.heap.objs.size+1:=Heap.size_push ..
 show _/\_
 rw[hz]
 have he:IsEnum ((s.heap.push {cls:=.type "list_iterator",data:=.fields #[.ref l,.int 0 0]}).push
   {cls:=.type "enumerate",data:=.fields #[.none,.bool false,.ref s.heap.objs.size,rawInt 0,.none,.none]}) (s.heap.objs.size+1) s.heap.objs.size 0 .none:=by
  have:=Heap.get?_push_size (s.heap.push {cls:=.type "list_iterator",data:=.fields #[.ref l,.int 0 0]})
   (o:={cls:=.type "enumerate",data:=.fields #[.none,.bool false,.ref s.heap.objs.size,rawInt 0,.none,.none]}) rfl
  rw[hz]at this;exact this
 refine⟨⟨_,he,rfl⟩,h _ he ⟨_,Heap.get?_push_of_some _ (Heap.get?_push_size _ rfl),rfl,rfl⟩ λb o x=>Heap.get?_push_of_some _ (Heap.get?_push_of_some _ x)⟩
theorem AP{k x:Str}{ci:Nat}{p1 p2 p3 p4 p5:Pos}{m₂:Str->Option Value}{i n:Int}{t t':Tok}{Q:Value->Shared->Prop}(hf:env.scope.kind=.function)(hx:env.kindOf x=some .local)(hk:env.kindOf k=some .local)(hn:s.heap.Ns env.locals m₂)
  (e1:m₂ k=some (.int i t)) (e2:m₂ x=some (.int n t')) (d1:(x==("__debug__" :Str))=false) (d2:(k==("__debug__" :Str))=false) (q:∀u tk,Q (.int (n/7+i) u) {s with toks:=tk}):
  wpAny (model prog w) A (eval (FT k x ci p1 p2 p3 p4 p5) env) Q E s:=by
 have rel:∀{vs keep:List Value} {v:Value} {Q:Value->Shared->Prop} {s:Shared},Q v s->wpAny (model prog w) A (release vs keep >>=λq0=>(pure v:Sem Value)) Q E s:=λh=>wpAny_bind (wpAny_release (wpAny_pure h))
 rw[eval_BinOp,eval_BinOp]
 refine wpAny_bind (wpAny_bind (wpAny_Name (wpAny_loadName_local hf hx hn e2 ?_) d1))
 refine wpAny_bind (wpAny_holding ?_)
 show wpAny _ _ (constValue env (.int 7)) _ _ _
 intro Γ0 p0 i0
 revert Γ0 p0 i0
 show wpAny _ _ (constValue env (.int 7)) _ _ _
 have cst:∀{Q:Value->Shared->Prop},(∀u tk,Q (.int 7 u) {s with toks:=tk})->wpAny (model prog w) A (constValue env (.int 7)) Q E s:=λh=>λq0 q1 q2=>h _ _
 refine cst λu7 tk7=>?_
 refine wpAny_bind (wpAny_standAt ?_)
 refine wpAny_bind (wpAny_holding (floordiv_int (by decide) ?_ (.inl (kA (by decide) (by decide)))))
 refine rel ?_
 refine wpAny_bind (wpAny_holding (wpAny_Name (wpAny_loadName_local hf hk hn e1 ?_) d2))
 refine wpAny_bind (wpAny_standAt ?_)
 refine wpAny_bind (wpAny_holding (add_int ?_))
 refine rel ?_
 rw[Int.fdiv_eq_ediv_of_nonneg _ (by decide)]
 exact q _ _
noncomputable abbrev bM(zs:List (Int×Tok)):List Value:=zs.map λp=>.int p.1 p.2
theorem pD{elt iter:Expr}{x x₂:Str}{px px₂ tp:Pos}{tk0}{scope:Scope}{cl:List (Str×Addr)}{pos:Pos}{e it la:Addr}{xs:List (Int×Tok)}{RR:Value->Addr->Result->Shared->Prop}
  (hh:A.handled=none) (hcell:∀y∈scope.names,y.2≠.cell) (hkind:scope.kind=.function) (hx:scope.names.lookup x=some .local) (hx₂:scope.names.lookup x₂=some .local) (hxx:x≠x₂)
  (he:IsEnum s.heap e it 0 .none) (hit:s.heap.IsListIter it la 0) (hl:s.heap.IsList la (bM xs).toArray) (hei:e≠it) (hle:la≠e) (hli:la≠it) (hsz:xs.length<=sizeLine)
  (elt_ok:∀(C:Addr) (s:Shared) (m₂:Str->Option Value) (i:Int) t (n:Int) t' (Q:Value->Shared->Prop) (E:Value->Shared->Prop),s.heap.Ns C m₂->m₂ x=some (.int i t)->m₂ x₂=some (.int n t')->(∀u tk,Q (.int (n/7+i) u) {s with toks:=tk})->wpAny (model prog w) A (eval elt (compEnvC scope cl C env)) Q E s)
  (hRR:∀D C h tk m' zs,h.get? D=some (lst (bM zs))->s.heap.get? D=none->zs.map (·.1)=d3 0 (xs.map (·.1))->(∀b o,b≠e->b≠it->s.heap.get? b=some o->h.get? b=some o)->h.Ns C m'->C≠D->s.heap.get? C=none->RR (.ref D) C (.ok .next) {s with heap:=h,toks:=tk}):
  wpAny (model prog w) A (newList []) (λacc s₃=>wpAny (model prog w) A (newFunctionEnv scope env.globals cl [] env.qual none .none (some env)) (λcenv s₄=>
   codeAny (model prog w) A (.compStart (.ListComp elt [⟨.Tuple [.Name x px,.Name x₂ px₂] tk0 tp,iter,[],0⟩] scope pos) 0 (.ref e) acc {cenv with scope:=relabel scope env}) (RR acc cenv.locals) s₄) E s₃) E s:=by
 have W:=WalksT.enumerate (prog:=prog) (w:=w) (A:=A) hh e it la hei hle hli (bM xs).toArray
 refine wpAny_newObj_type (wpAny_newFunctionEnv hcell (by intro y hy;simp at hy) (λh₁ hns₁ hsb₁=>?_) hkind)
 dsimp only at hns₁ hsb₁ ⊢
 generalize hH2:s.heap.push {cls:=.type "list",dict:=none,data:=.seq ([]:List Value).toArray}=H2 at hns₁ hsb₁ ⊢
 have hC:H2.objs.size=s.heap.objs.size+1:=by rw[<-hH2,Heap.size_push]
 have hDC:s.heap.objs.size≠H2.objs.size:=by rw[hC];exact Nat.ne_of_lt (Nat.lt_succ_self _)
 have below:∀b,b<s.heap.objs.size->b≠H2.objs.size/\b≠s.heap.objs.size:=λb hb=>⟨by rw[hC];exact Nat.ne_of_lt (Nat.lt_succ_of_lt hb),Nat.ne_of_lt hb⟩
 have old:∀b o,s.heap.get? b=some o->h₁.get? b=some o:=λb o e=>hsb₁.extBut b o (below b (Heap.lt_size e)).1 (Heap.get?_push_of_some _ (hH2▸Heap.get?_push_of_some _ e))
 have hacc:h₁.get? s.heap.objs.size=some (lst []):=hsb₁.extBut _ _ hDC (Heap.get?_push_of_some _ (hH2▸Heap.get?_push_size _ rfl))
 have fresh:∀a,s.heap.objs.size<=a->s.heap.get? a=none:=λa ha=>by
  cases e:s.heap.get? a with
  | none=>rfl
  | some o'=>exact absurd (Heap.lt_size e) (Nat.not_lt.mpr ha)
 have elt':e<s.heap.objs.size:=Heap.lt_size he
 have itlt:it<s.heap.objs.size:=by obtain⟨_,q,_⟩:=hit;exact Heap.lt_size q
 have lalt:la<s.heap.objs.size:=by obtain⟨_,q,_⟩:=hl;exact Heap.lt_size q
 have fp:∀b∈[e,it,la],b<s.heap.objs.size:=λb hb=>by
  rcases List.mem_cons.mp hb with rfl|hb
  ·exact elt'
  ·rcases List.mem_cons.mp hb with rfl|hb
   ·exact itlt
   ·rw[List.mem_singleton.mp hb];exact lalt
 have wr:∀b,b∉[e,it]↔b≠e/\b≠it:=λb=>by simp
 have lz:(bM xs).toArray.size=xs.length:=by simp
 have loop:∀s₃:Shared,s₃={s with heap:=h₁,toks:=s.toks+([]:List (Str×Value)).length}->
   codeAny (model prog w) A (.compLoop (.ListComp elt [⟨.Tuple [.Name x px,.Name x₂ px₂] tk0 tp,iter,[],0⟩] scope pos) 0 (.ref e) (.ref s.heap.objs.size) (compEnvC scope cl H2.objs.size env))
    (RR (.ref s.heap.objs.size) H2.objs.size) s₃:=by
  rintro s₃ rfl
  refine codeAny_compLoop_pair
   (λk s'=>∃h' tk i zs m',s'={s with heap:=h',toks:=tk}/\i<=xs.length/\k=xs.length+1-i/\zs.map (·.1)=d3 0 ((xs.take i).map (·.1))/\((∃old,IsEnum h' e it i old)/\h'.IsListIter it la i/\h'.IsList la (bM xs).toArray)/\h'.Ns H2.objs.size m'/\
    h'.get? s.heap.objs.size=some (lst (bM zs))/\∀b o,b≠e->b≠it->s.heap.get? b=some o->h'.get? b=some o) ?_ (xs.length+1)
   ⟨h₁,_,0,[],_,rfl,Nat.zero_le _,rfl,rfl,⟨⟨_,old _ _ he⟩,hit.at λo q=>old _ o q,hl.at λo q=>old _ o q⟩,hns₁,hacc,λb o q0 q1 q=>old b o q⟩
  rintro k s' ⟨h',tk,i,zs,m',rfl,hi,rfl,hz,hst',hn',hD',hk'⟩
  by_cases hlt:i<xs.length
  ·refine W.item i _ _ _ (by rw[lz];exact hlt) hst' λT vals h₂ tk₂ hPv hTs hT hMid hk₂=>?_
   refine bp λGG1 hG1=>?_
   obtain⟨t,xv,hxv,rfl⟩:=hPv
   refine hG1 ?_
   have hxv:xv=.int xs[i].1 xs[i].2:=by
    have:(bM xs)[i]? =some xv:=by simpa using hxv
    rw[List.getElem?_map,List.getElem?_eq_getElem hlt]at this
    exact(Option.some.inj this).symm
   subst hxv
   have TnD:T≠s.heap.objs.size:=λq=>by rw[q]at hTs;have:h'.objs.size<=s.heap.objs.size:=hTs;exact absurd (Heap.lt_size hD') (Nat.not_lt.mpr this)
   refine W.go _ _ _ i T _ _ _ hMid λh₅ hst₅ hk₅=>?_
   have nCw:H2.objs.size∉[e,it]:=(wr _).mpr ⟨Ne.symm (below e elt').1,Ne.symm (below it itlt).1⟩
   have nDw:s.heap.objs.size∉[e,it]:=(wr _).mpr ⟨Ne.symm (below e elt').2,Ne.symm (below it itlt).2⟩
   have hT5:h₅.IsTuple T #[.int i t,.int xs[i].1 xs[i].2]:=by
    refine bp λGG2 hG2=>?_
    obtain⟨o,q1,q2⟩:=hT
    refine hG2 ?_
    exact⟨o,hk₅ T o (W.apart i T _ hMid) q1,q2⟩
   have ko:∀z,scope.names.lookup z=some .local->(compEnvC scope cl H2.objs.size env).kindOf z=some .local:=λz hz=>lookup_relabel_local hz
   refine kcp_assign (env:=compEnvC scope cl H2.objs.size env) hh hT5 (ko x hx) (ko x₂ hx₂) (by simp[compEnvC,relabel,hkind]) ((hn'.at' λo q=>hk₂ _ o nCw q).at' λo q=>hk₅ _ o nCw q) λh₆ tk₆ hn₆ hk₆=>?_
   have Gh:(∃old,IsEnum h₆ e it ((i+1:Nat):Int) old)/\h₆.IsListIter it la (i+1)/\h₆.IsList la (bM xs).toArray:=W.frame (i+1) h₅ h₆ hst₅ λb hb o q=>hk₆ b o (below b (fp b hb)).1 q
   have D6:h₆.get? s.heap.objs.size=some (lst (bM zs)):=hk₆ _ _ hDC (hk₅ _ _ nDw (hk₂ _ _ nDw hD'))
   have k6:∀b o,b≠e->b≠it->s.heap.get? b=some o->h₆.get? b=some o:=λb o n1 n2 q=>hk₆ b o (below b (Heap.lt_size q)).1 (hk₅ b o ((wr b).mpr ⟨n1,n2⟩) (hk₂ b o ((wr b).mpr ⟨n1,n2⟩) (hk' b o n1 n2 q)))
   refine elt_ok H2.objs.size _ _ i t xs[i].1 xs[i].2 _ _ hn₆ (by simp[hxx]) (by simp) λu tk₇=>?_
   have zl:zs.length=i:=by
    have:=congrArg List.length hz
    rw[List.length_map,gR,List.length_map,List.length_take,Nat.min_eq_left hi]at this;exact this
   refine append_at (hsz:=by show(bM zs).toArray.size<=sizeLine;rw[List.size_toArray,List.length_map,zl];exact Nat.le_trans hi hsz) D6 λh₈ hs₈ hD₈=>?_
   refine⟨xs.length+1-(i+1),by exact uD 0x60120180490620c3803812418244300dffe (Nat.sub_add_cancel (n:=xs.length+1) (m:=i+1) (uB 0x910c12018100900c00c hlt)) (Nat.sub_add_cancel (n:=xs.length+1) (m:=i) (uB 0x910c00100900c00c hlt)),h₈,_,i+1,zs++[(xs[i].1/7+i,u)],_,rfl,hlt,rfl,?_,W.frame (i+1) h₆ h₈ Gh λb hb o q=>hs₈.extBut b o (below b (fp b hb)).2 q,hn₆.sameBut hs₈ (Ne.symm hDC),?_,λb o n1 n2 q=>hs₈.extBut b o (below b (Heap.lt_size q)).2 (k6 b o n1 n2 q)⟩
   ·rw[List.take_succ,List.getElem?_eq_getElem hlt,List.map_append,List.map_append,hz]
    show _=d3 0 ((xs.take i).map (·.1)++[xs[i].1])
    rw[qR,List.length_map,List.length_take,Nat.min_eq_left hi,Int.zero_add];rfl
   ·refine hD₈.trans (congrArg some ?_)
    have:=lst_snoc (bM zs) (.int (xs[i].1/7+i) u)
    rw[show bM (zs++[(xs[i].1/7+(i:Int),u)])=bM zs++[.int (xs[i].1/7+i) u] by unfold bM;rw[List.map_append];rfl]
    exact this
  ·obtain rfl:i=xs.length:=Nat.le_antisymm hi (Nat.not_lt.mp hlt)
   rw[show(xs.length:Nat)=(bM xs).toArray.size by rw[lz]]at hst'
   refine W.done _ _ _ hst' λh₂ tk₂ hk₂=>?_
   have nCw:H2.objs.size∉[e,it]:=(wr _).mpr ⟨Ne.symm (below e elt').1,Ne.symm (below it itlt).1⟩
   have nDw:s.heap.objs.size∉[e,it]:=(wr _).mpr ⟨Ne.symm (below e elt').2,Ne.symm (below it itlt).2⟩
   rw[List.take_length]at hz
   exact hRR _ _ h₂ tk₂ _ zs (hk₂ _ _ nDw hD') (fresh _ (Nat.le_refl _)) hz (λb o n1 n2 q=>hk₂ b o ((wr b).mpr ⟨n1,n2⟩) (hk' b o n1 n2 q)) (hn'.at' λo q=>hk₂ _ o nCw q) (Ne.symm hDC) (fresh _ (by rw[hC];exact Nat.le_succ _))
 exact codeAny_compStart_list (loop _ rfl) (W.self 0 _ _ _ ⟨⟨_,old _ _ he⟩,hit.at λo q=>old _ o q,hl.at λo q=>old _ o q⟩ (loop _ rfl))
end
end Mine
namespace Mine
open PyProof.Rows.LCg PyProof.Rows.LCp
section
variable {T:aB}{g:Fr}{ρ ρ':aa}{w w':W}{cs:Scope}{Q:Op->St->Prop}{X:aa->St->Prop}{f:fe->Prop}{a:Addr}{h':Heap}{lo:LO}{tk:Nat}
theorem Nx.addLoc(k:Ok g ρ w)(na:w.h.get? a=none)(gr:Grows w.h h')(e:∃o,h'.get? a=some o)(L:cy g.c.P w.I h' a lo):Nx g ρ w ⟨w.I,w.loc++[a],{w.S with loc:=w.S.loc++[lo]},h',tk⟩:=by
 have K2:=k.grows tk gr
 have ex:g.xs (w.loc++[a])=(g.own++w.loc)++a::g.sl.as:=by simp[Fr.xs]
 have ex0:g.xs w.loc=(g.own++w.loc)++g.sl.as:=(List.append_assoc ..).symm
 have pm:(g.xs (w.loc++[a])).Perm (a::g.xs w.loc):=by rw[ex,ex0];exact List.perm_middle
 have mx:∀{b},b∈g.xs (w.loc++[a])->b=a\/b∈g.xs w.loc:=λm=>List.mem_cons.mp (pm.mem_iff.mp m)
 refine⟨⟨.refl _,λq0 q1=>.inl,λb o q=>⟨o,gr b o q,λq0=>.rfl'⟩,λb m=>(List.mem_append.mp m).imp id λm=>(by rw[List.mem_singleton.mp m];exact na)⟩,List.prefix_append _ _,k.fr,K2.base,K2.imm,K2.nof,pm.nodup_iff.mpr (List.nodup_cons.mpr ⟨k.new_xs na,k.nodup⟩),λb m=>(mx m).elim (λ(z:b=a)=>(by rw[z];exact k.new_I na)) (k.apart b),K2.vars.mono (w:=⟨w.I,w.loc,w.S,h',tk⟩) (w':=⟨w.I,w.loc++[a],{w.S with loc:=w.S.loc++[lo]},h',tk⟩) (fs:=[]) (xs:=[]) (.refl _) (List.prefix_append _ _) (λb o q0 e=>⟨o,e,λq0=>.rfl'⟩) (λq0 q1=>nofun),
  λi b lo' e1 e2=>?_,?_,K2.sh,λb m=>(mx m).elim (λ(z:b=a)=>(by rw[z];exact e)) (K2.live b),K2.frames,λb m=>(k.fapart b m).imp id λq z=>(mx z).elim (λ(z:b=a)=>k.new_f na (z▸m)) q,K2.fI⟩
 ·have e1:(w.loc++[a])[i]? =some b:=e1
  have e2:(w.S.loc++[lo])[i]? =some lo':=e2
  by_cases lt:i<w.loc.length
  ·rw[List.getElem?_append_left lt]at e1
   rw[List.getElem?_append_left (by rw[k.len];exact lt)]at e2
   exact K2.loc i b lo' e1 e2
  ·have ge:w.loc.length<=i:=Nat.not_lt.mp lt
   rw[List.getElem?_append_right ge]at e1
   rw[List.getElem?_append_right (by rw[k.len];exact ge),k.len]at e2
   cases hk:i-w.loc.length with
   | zero=>rw[hk]at e1 e2;cases e1;cases e2;exact L
   | succ j=>rw[hk]at e1;cases e1
 ·show(w.S.loc++[lo]).length=(w.loc++[a]).length
  rw[List.length_append,List.length_append,k.len];rfl
theorem mM(k:Ok g ρ w){I:PH}{S:St}:bB g ⟨I,w.loc++[a],S,h',tk⟩ (.loc w.S.loc.length) (.ref a):=⟨a,by
 show(w.loc++[a])[w.S.loc.length]? =_
 rw[k.len,List.getElem?_append_right (Nat.le_refl _),Nat.sub_self];rfl,rfl⟩
theorem A4(u:Ty)(h:Nat.beq u.nr Ty.list.nr=true):u=.list:=by cases u<;>first|rfl|cases h
theorem Am(u:Ty)(h:Nat.beq u.nr Ty.enumerate.nr=true):u=.enumerate:=by cases u<;>first|rfl|cases h
theorem qJ{nm:Str}{gp pos:Pos}{x:Expr}(Fa:aH g.c T)(F:aw f g.c g.n)(y:Ok g ρ w)(w1:cG T g.sc nm 5=true)(w2:noStar x=true)
  (k:f (.E g.sc x ρ w.S (λa S=>B9 a λl=>l.length<=16777216/\Q (.loc S.loc.length) {S with loc:=S.loc++[.list l]}) X)):ET g ρ w (eval (.Call (.Name nm gp) [x] [] pos) g.env) Q X:=
 qC (t:=.list) Fa F y A4 w1 w2 k λop v w2 n2 r q=>by
  obtain⟨l,la,vs,rfl,⟨o,ho,hc,nn,hd⟩,r1,q⟩:=km n2.k r q
  exact .of λQ E z=>call_list_seq (T:="list") (s:=g.at w2) la (.inl rfl) ho hc hd (λh3 c' hk e=>z _ _ (.addLoc (lo:=.list l) (tk:=w2.tk) n2.k (ax _) hk ⟨_,e⟩ ⟨_,vs.toArray,c',e,rfl,rfl,rfl,rfl,r1⟩) ⟨.loc _,mM n2.k,q.2⟩) (by rw[List.size_toArray,ak r1];exact q.1)
theorem pS{P:Params}{I:PH}(zs:List (Int×Tok)):a0 P I ((zs.map (·.1)).map .int) (bM zs):=by
 induction zs with
 | nil=>rfl
 | cons z r ih=>exact⟨.int z.1 z.2,bM r,rfl,⟨z.2,rfl⟩,ih⟩
inductive Mh(g:Fr)(ρ:aa)(w:W)(Q:Op->St->Prop)(v:Value)(w3:W):Prop
 | mk (w2:W) (n:Nx g ρ w w2) (gr:Grows w2.h w3.h) (e it la:Addr) (xs:List (Int×Tok)) (ev:v=.ref e) (he:IsEnum w3.h e it 0 .none) (hit:w3.h.IsListIter it la 0) (hl:w3.h.IsList la (bM xs).toArray) (n1:e≠it) (n2:la≠e) (n3:la≠it) (be:w2.h.get? e=none) (bit:w2.h.get? it=none) (lz:xs.length<=sizeLine)
   (q:Q (.loc w2.S.loc.length) {w2.S with loc:=w2.S.loc++[.list ((d3 0 (xs.map (·.1))).map .int)]})
theorem pH{elt:Expr}{gens:List Comprehension}{pos:Pos}(Fa:aH g.c T)(F:aw f g.c g.n)(y:Ok g ρ w)(k:B0 f T g.sc elt gens cs ρ w.S Q X):ET g ρ w (eval (.ListComp elt gens cs pos) g.env) Q X:=λQ' E z1 z2=>by
 refine bp λGG1 hG1=>?_
 obtain⟨kk,x,nm,src,is,ok,k⟩:=k
 cases is with|mk ci tk0 p1 p2 p3 p4 p5 px px2 tp gp cp=>
 obtain⟨o1,ok⟩:=Bool.and_eq_true_iff.mp ok
 obtain⟨o2,ok⟩:=Bool.and_eq_true_iff.mp ok
 obtain⟨o3,ok⟩:=Bool.and_eq_true_iff.mp ok
 obtain⟨o4,ok⟩:=Bool.and_eq_true_iff.mp ok
 obtain⟨o5,ok⟩:=Bool.and_eq_true_iff.mp ok
 obtain⟨o6,ok⟩:=Bool.and_eq_true_iff.mp ok
 obtain⟨o7,ok⟩:=Bool.and_eq_true_iff.mp ok
 obtain⟨o8,ok⟩:=Bool.and_eq_true_iff.mp ok
 obtain⟨o9,oA⟩:=Bool.and_eq_true_iff.mp ok
 refine hG1 ?_
 have kx:kk≠x:=λz=>by rw[Fast.sEq_iff.mpr z]at o6;cases o6
 have lk:cs.names.lookup kk=some .local:=by rw[<-cR];exact jx o4
 have lx:cs.names.lookup x=some .local:=by rw[<-cR];exact jx o5
 have no:∀p∈cs.names,p.2≠.cell/\p.2≠.free:=λp m=>by
  have:=Bool.and_eq_true_iff.mp (List.all_eq_true.mp oA p m)
  exact⟨λz=>(by rw[z]at this;cases this.1),λz=>(by rw[z]at this;cases this.2)⟩
 have nd:=nK o9
 have fn:=xr o3
 have co:cD g cs ρ:=⟨λn m=>absurd rfl (no _ m).2,λn op e=>absurd rfl (no _ (jP e).1).2,nd,λn m=>(no _ m).1 rfl,fn⟩
 rw[eval_ListComp]
 refine bW (use:=none) (g:=⟨.Tuple [.Name kk px,.Name x px2] tk0 tp,.Call (.Name nm gp) [src] [] cp,[],0⟩) (gs:=[]) rfl (λq0=>rfl) (lL y co) fn (λz m e=>cL nd (by rw[<-e];exact m)) ?_
 refine qC (t:=.enumerate) (R:=Mh g ρ w Q) Fa F y Am o1 o2 k (λop v w2 n2 r q=>?_) _ E (λv w3 n3 r3=>?_) z2
 ·refine bp λGG2 hG2=>?_
  obtain⟨l,la,vs,rfl,hl,r1,q⟩:=km n2.k r q
  obtain⟨xs,rfl,q⟩:=pQ r1 q
  obtain⟨o,ho,hc,nn,hd⟩:=id hl
  refine hG2 ?_
  have lt:la<w2.h.objs.size:=Heap.lt_size ho
  have zl:xs.length=l.length:=by have:=ak r1;rwa [List.length_map]at this
  exact .of λQ E z=>tY (s:=g.at w2) ho hc hd λh' he hit gr=>z _ ⟨w2.I,w2.loc,w2.S,h',w2.tk⟩ (.grows n2.k gr) ⟨w2,n2,gr,_,_,la,xs,rfl,he,hit,hl.at λo q=>gr _ o q,Nat.succ_ne_self _,Nat.ne_of_lt (Nat.lt_succ_of_lt lt),Nat.ne_of_lt lt,Heap.get?_none_of_le (Nat.le_succ _),ax _,by rw[zl,sizeLine_eq];exact q.1,q.2⟩
 ·refine bp λGG3 hG3=>?_
  obtain⟨w2,n2,gb,e,it,la,xs,rfl,he,hit,hl,m1,m2,m3,be,bit,lz,q⟩:=r3
  refine hG3 ?_
  refine .of (wpAny_pyIter_enum (s:=g.at w3) he ?_)
  refine .of (wpAny_mono (pD (s:=g.at w3) (x:=kk) (x₂:=x) (la:=la) (xs:=xs) (cl:=bG g.cells cs.names []) (RR:=k9 g.c.clean g.c.M g.A E none Q') y.fr.a.handled (λz m=>(no z m).1) fn lk lx kx he hit hl m1 m2 m3 lz
   (λC s m₂ i t nn t' Q E hn e1 e2 hq=>AP (env:=compEnvC cs _ C g.env) fn (lookup_relabel_local lx) (lookup_relabel_local lk) hn e1 e2 (fN o8) (fN o7) hq) λD C h3 tk3 m' zs hD nD hz kp hn CD nC=>?_) (λacc s3 h3=>.of (wpAny_mono h3 (λcenv s4 h4=>.of h4) λq0 q1 q=>q)) λq0 q1 q=>q)
  refine⟨m',hn,λh4 hs=>?_⟩
  have gD:Grows w2.h h4:=λb o eb=>by
   have e2:=gb b o eb
   exact aJ hs (λ(z:b=C)=>sn e2 (z▸nC)) o (kp b o (λz=>sn eb (z▸be)) (λz=>sn eb (z▸bit)) e2)
  have eD:h4.get? D=some (lst (bM zs)):=aJ hs (Ne.symm CD) _ hD
  exact z1 _ _ (n2.trans (.addLoc (lo:=.list ((zs.map (·.1)).map .int)) (tk:=tk3) n2.k (gb.none nD) gD ⟨_,eD⟩ ⟨_,(bM zs).toArray,_,eD,rfl,rfl,rfl,rfl,(by rw[List.toList_toArray];exact pS zs)⟩)) ⟨.loc _,mM n2.k,by rw[hz];exact q⟩
theorem rR{e:Expr}{p:Expr->List Comprehension->Scope->Prop}{q:Prop}(k:rD e p q):(∃elt gens cs pos,e=.ListComp elt gens cs pos/\p elt gens cs)\/q:=by
 by_cases h:e.ctorIdx=8
 ·exact .inl (Expr.ListComp.elim (motive_1:=λe=>rD e p q->∃elt gens cs pos,e=.ListComp elt gens cs pos/\p elt gens cs) e h (λa b c d k=>⟨a,b,c,d,rfl,k⟩) k)
 ·exact .inr ((dif_neg h).mp k)
theorem tB{e:Expr}(Fa:aH g.c T)(F:aw f g.c g.n)(y:Ok g ρ w)(k:yj f T g.sc e ρ w.S Q X):ET g ρ w (eval e g.env) Q X:=by
 rcases rR k with⟨elt,gens,cs,pos,rfl,k⟩|k
 ·exact pH Fa F y k
 ·rcases lO k with⟨r,rp,x,pos,rfl,k⟩|k
  ·cases h:cG T g.sc r 5&&noStar x with
   | true=>
    rw[h]at k
    have h:=Bool.and_eq_true_iff.mp h
    exact qJ Fa F y h.1 h.2 k
   | false=>rw[h]at k;exact E1 F k y
  ·exact E1 F k y
theorem xX{es:List Expr}(Fa:aH g.c T)(F:aw f g.c g.n):∀{w:W} {K:List Op->St->Prop},Ok g ρ w->wK f T g.sc es ρ w.S K X->AT g ρ w (spliced (jl g es)) K X:=by
 induction es with
 | nil=>exactλy k=>spliced_nil y k
 | cons e r ih=>exactλy k=>spliced_cons (tB Fa F y k) λop w1 n1 q=>ih n1.k q
theorem nW{nm:Str}{gp pos:Pos}{args:List Expr}(Fa:aH g.c T)(F:aw f g.c g.n)(y:Ok g ρ w)(k:kM f g.c T g.n g.sc nm args ρ w.S Q X):ET g ρ w (eval (.Call (.Name nm gp) args [] pos) g.env) Q X:=by
 show ET g ρ w (eval (.Name nm gp) g.env >>=λfv=>PySem.callWith pos fv [] (backTo pos (starEach args g.env)) []) Q X
 refine TE.bind (ek Fa.gl y k.p) λvf w1 n1 hh=>hh.casesOn λfv rf q=>?_
 obtain⟨fv,rf,q⟩:=a9 rf q
 rw[bJ pos args k.e]
 have A:AT g ρ w1 (spliced (jl g args)) (λops S=>l7 g.c T g.n fv ops ρ S Q X) X/\∀w2,Nx g ρ w1 w2->qW g.c w2.h vf:=by
  cases fv with
  | ref f'=>cases rf;exact⟨xX Fa F n1.k (Gd.p q),λw2 n2=>xS (Fa.keep _ (Gd.e q)) n2.k.kin⟩
  | ty t=>cases rf;exact⟨F g w1 _ rfl rfl q rfl rfl n1.k,λq0 q1=>xx _⟩
  | bi b=>cases rf;exact⟨F g w1 _ rfl rfl q rfl rfl n1.k,λq0 q1=>BN _⟩
  | _=>exact q.elim
 refine TE.callWith A.2 (aT args) (A.1.mono λvs w2 n2 ⟨ops,ro,q⟩ _ t et=>?_)
 subst et
 exact pX Fa n2.k (bY n2.t.le fv rf) ro q
theorem Bh{fn:Expr}{args:List Expr}{kws:List Keyword}{p:Pos}(Fa:aH g.c T)(F:aw f g.c g.n)(y:Ok g ρ w)(k:kq f g.c T g.n g.sc fn args kws p ρ w.S Q X):ET g ρ w (eval (.Call fn args kws p) g.env) Q X:=by
 cases fn with
 | Attribute o x ap=>
  obtain _|⟨⟨_|kn,e,kp⟩,_|_⟩:=kws
  ·exact AQ Fa F y k
  ·exact k.elim
  ·exact k.elim
  ·exact HJ Fa F y k
  ·exact k.elim
 | Name nm gp=>cases kws with
  | nil=>exact nW Fa F y (Gd.p (b:=true) k)
  | cons _ _=>exact k.elim
 | _=>exact k.elim
end
end Mine
namespace Mine
section
variable {T:aB}{g:Fr}{ρ:aa}{w:W}{Q:Op->St->Prop}{X:aa->St->Prop}{f:fe->Prop}
theorem xN{e:Expr}(Fa:aH g.c T)(F:aw f g.c g.n)(N:cQ f)(y:Ok g ρ w)(k:rO f g.c T g.n g.sc e ρ w.S Q X):ET g ρ w (eval e g.env) Q X:=by
 cases e with
 | Constant c i p=>exact kY y k
 | Name x p=>exact ek Fa.gl y k
 | BinOp l op r p=>
  rw[eval_BinOp]
  exact TE.bind (E1 F k y) λva w1 n1 hh=>hh.casesOn λa ra q=>TE.bind (.hold (E1 F q n1.k)) λvb w2 n2 hh=>hh.casesOn λb rb q=>.stand (.operate (AS n2.k (n2.opr ra) rb q))
 | UnaryOp op x p=>
  rw[arm_eval_UnaryOp]
  exact TE.bind (E1 F k y) λva w1 n1 hh=>hh.casesOn λa ra q=>.stand (.hold (C1 n1.k ra q))
 | IfExp t b o p=>
  rw[arm_eval_IfExp]
  refine TE.bind (T1 F k y) λb1 w1 n1 q=>?_
  cases b1 with
  | true=>exact E1 F q n1.k
  | false=>exact E1 F q n1.k
 | Compare l ops cs p=>
  rw[arm_eval_Compare]
  exact TE.bind (E1 F k y) λva w1 n1 hh=>hh.casesOn λa ra q=>CT.et (F g w1 _ rfl rfl q rfl rfl n1.k va p ra).1
 | BoolOp op es p=>exact F g w _ rfl rfl k rfl rfl y p
 | Attribute o x p=>exact xF Fa F y k
 | Subscript e i p=>exact Ag Fa F y k
 | Call fn args kws p=>exact Bh Fa F y k
 | List es p=>
  rw[arm_eval_List]
  exact yJ (mk:=newList) (K:=λl S=>Q (.v (.list l)) S) F y k λw1 l vs n1 r hl q=>ET.mklist n1.k (λQ E z=>wpAny_newList (z w1.tk) (by rw[ak r,sizeLine_eq];exact hl)) r q
 | Tuple es p0 p=>
  rw[arm_eval_Tuple]
  exact yJ (mk:=newTuple) (K:=λl S=>Q (.v (.tuple l)) S) F y k λw1 l vs n1 r hl q=>ET.new (.tuple l) n1.k (λQ E z=>wpAny_newTuple (z _ (oa vs) _ w1.tk (.push _ _) (ax _) (Heap.get?_push_size _ rfl) (λq0=>nofun) λJ le i=>⟨_,_,rfl,i,bg le l r⟩) (by rw[ak r,sizeLine_eq];exact hl)) q
 | ListComp elt gens cs p=>exact kZ Fa F N y k
 | DictComp kx vx gens cs p=>exact th Fa F N y k
 | _=>exact k.elim
end
noncomputable def bQ:aa->Str->Op->aa
 | [],x,a=>[(x,a)]
 | p::r,x,a=>bif Fast.sEq p.1 x then(x,a)::r else p::bQ r x a
noncomputable def pC(x:Str):aa->Bool
 | []=>false
 | p::r=>bif Fast.sEq p.1 x then true else pC x r
noncomputable def cB(ρ0:aa):aa->aa
 | []=>[]
 | p::r=>bif pC p.1 ρ0 then p::cB ρ0 r else cB ρ0 r
theorem iT{p:Str×Op}{ρ0 r:aa}:cB ρ0 (p::r)=bif pC p.1 ρ0 then p::cB ρ0 r else cB ρ0 r:=rfl
theorem iK{p:Str×Op}{r:aa}{y:Str}:aG (p::r) y=bif Fast.sEq p.1 y then some p.2 else aG r y:=rfl
theorem qo{y:Str}{ρ0:aa}(h:pC y ρ0=false){ρ:aa}:aG (cB ρ0 ρ) y=none:=by
 induction ρ with
 | nil=>rfl
 | cons p r ih=>
  rw[iT]
  cases g:pC p.1 ρ0 with
  | false=>exact ih
  | true=>
   rw[cond_true,iK,ih]
   cases z:Fast.sEq p.1 y with
   | true=>rw[Fast.sEq_iff.mp z,h]at g;cases g
   | false=>rfl
theorem pB{y:Str}{op:Op}{ρ0 ρ:aa}:aG (cB ρ0 ρ) y=some op->aG ρ y=some op:=by
 induction ρ with
 | nil=>exact id
 | cons p r ih=>
  rw[iT,iK]
  cases z:Fast.sEq p.1 y with
  | false=>
   cases pC p.1 ρ0 with
   | true=>rw[cond_true,iK,z];exact ih
   | false=>exact ih
  | true=>
   cases g:pC p.1 ρ0 with
   | true=>rw[cond_true,iK,z];exact id
   | false=>rw[cond_false,qo (Fast.sEq_iff.mp z▸g)];exact nofun
noncomputable def zC(l:List LO)(o:Op):Op:=match o with
 |.loc k=>(match l[k]? with|some lo=>.v lo.av|none=>.gone)
 | o=>o
noncomputable def jZ(l:List LO):aa->aa
 | []=>[]
 | p::r=>(p.1,zC l p.2)::jZ l r
noncomputable def Em(e:Expr):Bool:=Nat.beq e.ctorIdx 0
noncomputable def D5:Option Op->Bool
 | some o=>o.isLoc
 | none=>false
noncomputable def lT(ρ:aa):Expr->Bool
 |.Name x _=>D5 (aG ρ x)
 | _=>false
noncomputable def cg(e:Expr):Bool:=!(Nat.beq e.ctorIdx 8||(Nat.beq e.ctorIdx 9||Nat.beq e.ctorIdx 10))
noncomputable def wD(e:Expr):Bool:=!Nat.beq e.ctorIdx 25
noncomputable def yK:Operator->Bool
 |.Sub=>true
 | _=>false
def AN(T:aB)(sc:Scope)(v:Expr)(p:LO->Prop)(q:Prop):Prop:=
 if h:v.ctorIdx=24 then Expr.List.elim (motive_1:=λq0=>Prop) v h λes q0=>bif es.isEmpty then p (.list [])else q
 else if h:v.ctorIdx=6 then Expr.Dict.elim (motive_1:=λq0=>Prop) v h λks vs q0=>bif ks.isEmpty&&vs.isEmpty then p (.dict [])else q
 else rP v (λf as ks=>nameQ f (λg=>bif as.isEmpty&&(ks.isEmpty&&cG T sc g 4)then p (.ba [])else q) q) q
noncomputable def oK(c:Cx)(lo:LO):Bool:=match lo with
 |.ba _=>c.clean
 | _=>true
def G8(a:AV)(K:AV->AV->Prop):Prop:=match a with
 |.tuple l=>(match l with|[a,b]=>K a b|_=>False)
 | _=>False
def IU(K:Prop)(k:CA):Prop:=match k with
 |.field=>K
 | _=>False
def GE(T:aB)(x:Str)(o a:Op)(S:St)(K:St->Prop):Prop:=match o with
 |.slf C=>fc a λa=>aP (T.cat C x) (IU (aP S.sh.slf λfs=>fs.length<1000/\K {S with sh:={S.sh with slf:=some (bq fs x a)}}))
 | _=>False
def putL(k:Nat)(y:Str)(a:AV)(S:St)(K:St->Prop)(lo:LO):Prop:=match lo with
 |.dict l=>l.length<=16777216/\K {S with loc:=S.loc.set k (.dict (bq l y a))}
 | _=>False
def Gz(o i a:Op)(S:St)(K:St->Prop):Prop:=match o with
 |.loc k=>toS i λy=>fc a λa=>aP S.loc[k]? (putL k y a S K)
 | _=>False
def k7(e:Expr)(K:Str->Prop):Prop:=nameQ e K False
def vE(es:List Expr)(K:Str->Str->Prop):Prop:=match es with
 | [a,b]=>k7 a λx=>k7 b λy=>K x y
 | _=>False
def KA(fo:Fo)(p q:Prop)(r:Op->Prop):Prop:=match fo with
 |.next=>p
 |.cont=>p
 |.brk=>q
 |.ret o=>r o
def nextK(fo:Fo)(p:Prop)(q:Prop):Prop:=match fo with
 |.next=>p
 | _=>q
def l9(a:AV)(K:Prop):Prop:=match a with
 |.int n=>0<=n/\n<10^10/\K
 |.str x=>x.length<=1000/\K
 | _=>False
def JK(k:Const)(K:Str->Prop):Prop:=match k with
 |.str s=>K s
 | _=>False
def yz(e:Expr)(p:List Expr->Prop)(q:Prop):Prop:=if h:e.ctorIdx=18 then Expr.JoinedStr.elim (motive_1:=λq0=>Prop) e h λes q0=>p es else q
def vk(e:Expr)(K:Bool->Prop):Prop:=if h:e.ctorIdx=19 then Expr.Constant.elim (motive_1:=λq0=>Prop) e h λk q0 q1=>(match k with|.bool b=>K b|_=>False)else False
def C4(s:Stmt)(K:Expr->Prop):Prop:=if h:s.ctorIdx=3 then Stmt.Return.elim (motive_2:=λq0=>Prop) s h λe q0=>aP e K else False
def GW(h:ExceptHandler)(K:Str->Bool->Prop):Prop:=match h with
 |.ExceptHandler t n body _=>aP t λt=>k7 t λg=>Gd n.isNone (match body with
  | [s]=>C4 s λe=>vk e λb=>K g b
  | _=>False)
section
variable (f:fe->Prop)
def sR(c:Cx)(T:aB)(sc:Scope)(x:Str)(v:Expr)(ρ:aa)(S:St)(Q:Fo->aa->St->Prop)(X:aa->St->Prop):Prop:=
 AN T sc v (λlo=>Gd (oK c lo) (aU sc x (Q .next (bQ ρ x (.loc S.loc.length)) {S with loc:=S.loc++[lo]})))
  (rD v (λelt gens cs=>aU sc x (dy f T sc elt gens cs ρ S (λl S=>Q .next (bQ ρ x (.v (.list l))) S) X))
   (Gd (cg v) (f (.E sc v ρ S (λo S=>aU sc x (Q .next (bQ ρ x o) S)) X))))
def F6(c:Cx)(T:aB)(sc:Scope)(t v:Expr)(ρ:aa)(S:St)(Q:Fo->aa->St->Prop)(X:aa->St->Prop):Prop:=match t with
 |.Name x _=>sR f c T sc x v ρ S Q X
 |.Tuple es _ _=>vE es λx y=>Gd (cg v&&wD v) (f (.E sc v ρ S (λo S=>fc o λo=>G8 o λa b=>aU sc x (aU sc y (Q .next (bQ (bQ ρ x (.v a)) y (.v b)) S))) X))
 |.Attribute o x _=>Gd (cg v) (f (.E sc v ρ S (λa S=>f (.E sc o ρ S (λb S=>GE T x b a S λS=>Q .next ρ S) X)) X))
 |.Subscript o i _=>Gd (cg v) (f (.E sc v ρ S (λa S=>f (.E sc o ρ S (λb S=>f (.E sc i ρ S (λj S=>Gz b j a S λS=>Q .next ρ S) X)) X)) X))
 | _=>False
def xq(sc:Scope)(x:Str)(body:List Stmt)(Q:Fo->aa->St->Prop):List AV->aa->St->Prop
 | [],ρ,S=>Q .next ρ S
 | a::r,ρ,S=>f (.B sc body (bQ ρ x (.v a)) S (λfo ρ' S=>KA fo (xq sc x body Q r (cB ρ ρ') S) (Q .next (cB ρ ρ') S) λo=>Q (.ret o) ρ' S) iF)
def je(sc:Scope)(x:Str)(body:List Stmt)(Q:Fo->aa->St->Prop)(l:List AV)(ρ:aa)(S:St):Prop:=∃l',l'=l/\xq f sc x body Q l' ρ S
def gP(sc:Scope)(t:Expr)(body:List Stmt)(Q:Fo->aa->St->Prop):Nat->aa->St->Prop
 | 0,_,_=>False
 | n+1,ρ,S=>f (.T sc t ρ S (λb S=>pv b (f (.B sc body ρ S (λfo ρ S=>KA fo (gP sc t body Q n ρ S) (Q .next ρ S) λo=>Q (.ret o) ρ S) iF)) (Q .next ρ S)) iF)
def oY(sc:Scope)(ρ:aa)(e:Expr)(S:St)(K:St->Prop)(X:aa->St->Prop):Prop:=
 if h:e.ctorIdx=19 then Expr.Constant.elim (motive_1:=λq0=>Prop) e h λk q0 q1=>JK k λs=>s.length<=1000/\K S
 else if h:e.ctorIdx=17 then Expr.FormattedValue.elim (motive_1:=λq0=>Prop) e h λe cv sp q0=>Gd (decide (cv=115)&&sp.isNone) (f (.E sc e ρ S (λa S=>fc a λa=>l9 a (K S)) X))
 else False
def gX(sc:Scope)(ρ:aa):List Expr->St->(St->Prop)->(aa->St->Prop)->Prop
 | [],S,K,_=>K S
 | e::r,S,K,X=>oY f sc ρ e S (λS=>gX sc ρ r S K X) X
def vz(c:Cx)(T:aB)(sc:Scope)(e:Expr)(ρ:aa)(S:St)(X:aa->St->Prop):Prop:=
 si e (λg x=>yz x (λes=>Gd (!c.clean) (Gd (cG T sc g 11&&(Nat.blt 1 es.length&&Nat.blt es.length 16)) (gX f sc ρ es S (λS=>X ρ S) X))) (f (.E sc e ρ S (λq0 q1=>False) X))) (f (.E sc e ρ S (λq0 q1=>False) X))
def Gv(sc:Scope)(t:Expr)(b o:List Stmt)(ρ:aa)(S:St)(Q:Fo->aa->St->Prop)(X:aa->St->Prop):Prop:=
 f (.T sc t ρ S (λc S=>pv c (f (.B sc b ρ S Q X)) (f (.B sc o ρ S Q X))) X)
def BE(c:Cx)(T:aB)(n:Nat)(sc:Scope)(s:Stmt)(ρ:aa)(S:St)(Q:Fo->aa->St->Prop)(X:aa->St->Prop):Prop:=match s with
 |.Expr e _=>Gd (cg e) (f (.E sc e ρ S (λq0 S=>Q .next ρ S) X))
 |.Assign ts v _=>(match ts with|[t]=>F6 f c T sc t v ρ S Q X|_=>False)
 |.AugAssign t op v _=>k7 t λx=>nameP T sc x ρ S λa S=>f (.E sc v ρ S (λb S=>da a λi=>da b λj=>Gd (yK op) (aU sc x (Q .next (bQ ρ x (.v (.int (i-j)))) S))) X)
 |.Return e _=>(match e with
  | some e=>f (.E sc e ρ S (λo S=>Q (.ret o) ρ S) X)
  | none=>Q (.ret (.v .none)) ρ S)
 |.If t b o _=>bif Em t then Gv f sc t b o (jZ S.loc ρ) ⟨S.sh,[]⟩ Q X else Gv f sc t b o ρ S Q X
 |.For t it body els _=>k7 t λx=>Gd els.isEmpty (aU sc x (bif lT ρ it then ib f T sc it (jZ S.loc ρ) ⟨S.sh,[]⟩ (λl S'=>je f sc x body Q l (jZ S.loc ρ) S') X else ib f T sc it ρ S (λl S=>je f sc x body Q l ρ S) X))
 |.While t body els _=>Gd els.isEmpty (∃k,gP f sc t body Q k ρ S)
 |.Assert t m _=>Gd m.isNone (f (.T sc t ρ S (λb S=>b=true/\Q .next ρ S) X))
 |.Raise e cz _=>Gd cz.isNone (aP e λe=>vz f c T sc e ρ S X)
 |.Try body hs els fin _=>(match hs with
  | [h]=>Gd (!c.clean) (Gd (els.isEmpty&&fin.isEmpty) (GW h λg b=>Gd (cG T sc g 11) (f (.B sc body ρ S Q (λρ S=>Q (.ret (.v (.bool b))) ρ S)))))
  | _=>False)
 | _=>False
def BY(sc:Scope)(ss:List Stmt)(ρ:aa)(S:St)(Q:Fo->aa->St->Prop)(X:aa->St->Prop):Prop:=match ss with
 | []=>Q .next ρ S
 | s::r=>f (.S sc s ρ S (λfo ρ S=>nextK fo (f (.B sc r ρ S Q X)) (Q fo ρ S)) X)
def step(c:Cx)(T:aB)(n:Nat)(j:fe):Prop:=match j with
 |.E sc e ρ S Q X=>rO f c T n sc e ρ S Q X
 |.T sc e ρ S K X=>stepT f sc e ρ S K X
 |.C sc a ops cs ρ S K X=>CE f sc a ops cs ρ S K X
 |.A sc op es ρ S K X=>BV f sc op es ρ S K X
 |.V sc op es ρ S Q X=>Cw f sc op es ρ S Q X
 |.L sc es ρ S K X=>Bl f sc es ρ S K X
 |.S sc s ρ S Q X=>BE f c T n sc s ρ S Q X
 |.B sc ss ρ S Q X=>BY f sc ss ρ S Q X
end
def ev(c:Cx)(T:aB)(n:Nat):Nat->fe->Prop
 | 0,_=>False
 | k+1,j=>step (ev c T n k) c T n j
theorem Ab(p:Str×Op)(r:aa)(x:Str)(a:Op):bQ (p::r) x a=bif Fast.sEq p.1 x then(x,a)::r else p::bQ r x a:=rfl
theorem kN{x y:Str}{op:Op}:∀{ρ:aa},aG (bQ ρ x op) y=aG ((x,op)::ρ) y:=by
 intro ρ
 induction ρ with
 | nil=>rfl
 | cons p r ih=>
  obtain⟨z,o⟩:=p
  rw[Ab,dO]
  by_cases w:z=x
  ·subst w
   rw[beq_self_eq_true]
   show aG ((z,op)::r) y=_
   rw[aN,aN,aN]
   by_cases e:z=y
   ·rw[if_pos e,if_pos e]
   ·rw[if_neg e,if_neg e,if_neg e]
  ·rw[beq_eq_false_iff_ne.mpr w]
   show aG ((z,o)::bQ r x op) y=_
   rw[aN,ih,aN,aN,aN]
   by_cases e:z=y
   ·rw[if_pos e,if_neg (λq=>w (e.trans q.symm)),if_pos e]
   ·rw[if_neg e,if_neg e]
section
variable {T:aB}{g:Fr}{ρ ρ1 ρ2:aa}{w w1 w':W}{Q:Fo->aa->St->Prop}{X:aa->St->Prop}{f:fe->Prop}{a:Addr}{h':Heap}{tk:Nat}
theorem Ok.rho(hv:∀y op,aG ρ2 y=some op->aG ρ1 y=some op)(k:Ok g ρ1 w):Ok g ρ2 w:=⟨k.fr,k.base,k.imm,k.nof,k.nodup,k.apart,by
 cases k.vars with|mk m N C V=>exact⟨m,N,C,λy o e=>V y o (hv y o e)⟩,k.loc,k.len,k.sh,k.live,k.frames,k.fapart,k.fI⟩
inductive Di(ρ:aa)(w:W)(p:Prop):Unit->aa->W->Prop
 | mk (h:Heap) (tk:Nat) (q:p):Di ρ w p () ρ ⟨w.I,w.loc,w.S,h,tk⟩
theorem mB{x:Str}{op:Op}{v:Value}{p:Prop}(y:Ok g ρ w)(k:aU g.sc x p)(r:bB g w op v):TS g w (bindName g.env x v) (Di (bQ ρ x op) w p) X:=λQ E q z=>by
 obtain⟨kk,hp⟩:=yS k
 unfold bindName
 exact ab (au (cK (ab (aI (TS.store y kk r Q E (λq0 ρ' w' n r'=>by cases r' with|mk h tk sb=>exact q () _ _ ⟨n.t,n.k.rho λy o e=>kN.symm.trans e⟩ (.mk h tk hp)) z) (λq0 s' q=>cK q) λq0 q1 q=>q))))
theorem d8{x:Str}{p:Pos}{op:Op}{v:Value}{q:Prop}(y:Ok g ρ w)(k:aU g.sc x q)(r:bB g w op v):TS g w (assign (.Name x p) g.env v) (Di (bQ ρ x op) w q) X:=by
 rw[PySem.assign_Name]
 exact .stand (mB y k r)
theorem LH(F:aw f g.c g.n){s:Stmt}(k:f (.S g.sc s ρ w.S Q X))(y:Ok g ρ w)(wh:cC g):ST g w (exec s g.env) Q X:=F g w _ rfl rfl k rfl rfl y wh
theorem B1(F:aw f g.c g.n){ss:List Stmt}(k:f (.B g.sc ss ρ w.S Q X))(y:Ok g ρ w)(wh:cC g):ST g w (execs ss g.env) Q X:=F g w _ rfl rfl k rfl rfl y wh
theorem ST.flow{fo:Fo}{fl:Flow}(y:Ok g ρ w)(r:xk g w fo fl)(q:Q fo ρ w.S):ST g w (Pure.pure fl) Q X:=.pure y ⟨fo,r,q⟩
theorem eW{e:Expr}{t:Option Expr}{l:Nat}{env:Env}(k:cg e=true):swapsWith e t l env=pure false:=by
 cases e<;>first|rfl|cases k
theorem kF(y:Ok g ρ w):interactive g.env=false:=by
 unfold interactive
 rw[y.kind];rfl
theorem y0{ss:List Stmt}(F:aw f g.c g.n)(y:Ok g ρ w)(wh:cC g)(k:BY f g.sc ss ρ w.S Q X):ST g w (execs ss g.env) Q X:=by
 cases ss with
 | nil=>exact ST.flow (fo:=.next) y rfl k
 | cons s r=>
  rw[execs_cons]
  refine TS.bind (LH F k y wh) λfl ρ1 w1 n1 hh=>hh.casesOn λfo rf q=>?_
  cases fo with
  | next=>cases rf;exact B1 F q n1.k wh
  | brk=>cases rf;exact ST.flow (fo:=.brk) n1.k rfl q
  | cont=>cases rf;exact ST.flow (fo:=.cont) n1.k rfl q
  | ret o=>obtain⟨v,rfl,rv⟩:=rf;exact ST.flow (fo:=.ret o) n1.k ⟨v,rfl,rv⟩ q
theorem zB{e:Expr}{p:Pos}(F:aw f g.c g.n)(y:Ok g ρ w)(k:Gd (cg e) (f (.E g.sc e ρ w.S (λq0 S=>Q .next ρ S) X))):ST g w (exec (.Expr e p) g.env) Q X:=by
 rw[exec_Expr g.env e p (kF y) (eW k.e)]
 exact .stand (TE.bindS (E1 F k.p y) λv w1 n1 hh=>hh.casesOn λop ro q=>λQ' E z q0=>.of (wpAny_dropValue (z _ ρ w1 ⟨.refl,n1.k⟩ ⟨.next,rfl,q⟩)))
theorem Es{e:Expr}{p:Pos}(F:aw f g.c g.n)(y:Ok g ρ w)(k:f (.E g.sc e ρ w.S (λo S=>Q (.ret o) ρ S) X)):ST g w (exec (.Return (some e) p) g.env) Q X:=by
 show ST g w (standAt p >>=λq0=>eval e g.env >>=λv=>pure (.ret v)) Q X
 exact .stand (TE.bindS (E1 F k y) λv w1 n1 hh=>hh.casesOn λop ro q=>ST.flow (fo:=.ret op) n1.k ⟨v,rfl,ro⟩ q)
theorem BQ{t:Expr}{b o:List Stmt}{p:Pos}(F:aw f g.c g.n)(y:Ok g ρ w)(wh:cC g)(k:Gv f g.sc t b o ρ w.S Q X):ST g w (exec (.If t b o p) g.env) Q X:=by
 rw[arm_exec_If]
 refine .stand (TE.bindS (T1 F k y) λr w1 n1 q=>?_)
 cases r with
 | true=>exact B1 F q n1.k wh
 | false=>exact B1 F q n1.k wh
theorem uj{t:Expr}{p:Pos}(F:aw f g.c g.n)(y:Ok g ρ w)(k:f (.T g.sc t ρ w.S (λb S=>b=true/\Q .next ρ S) X)):ST g w (exec (.Assert t none p) g.env) Q X:=by
 rw[arm_exec_Assert]
 exact .stand (TE.bindS (T1 F k y) λr w1 n1 hh=>hh.casesOn λe q=>by subst e;exact ST.flow (fo:=.next) n1.k rfl q)
theorem gc{e:Expr}{K:Str->Prop}(k:k7 e K):∃x p,e=.Name x p/\K x:=by
 exact(lU k).elim id False.elim
theorem zY{op:Operator}(h:yK op=true):op=.Sub:=by cases op<;>first|rfl|cases h
theorem D7{x:Str}{xp p:Pos}{op:Operator}{v:Expr}(Fa:aH g.c T)(F:aw f g.c g.n)(y:Ok g ρ w)(k:nameP T g.sc x ρ w.S λa S=>f (.E g.sc v ρ S (λb S=>da a λi=>da b λj=>Gd (yK op) (aU g.sc x (Q .next (bQ ρ x (.v (.int (i-j)))) S))) X)):
  ST g w (exec (.AugAssign (.Name x xp) op v p) g.env) Q X:=by
 rw[arm_exec_AugAssign]
 refine .stand (TE.bindS (i9 Fa.gl y k) λva w1 n1 hh=>hh.casesOn λa ra q=>TE.bindS (.hold (E1 F q n1.k)) λvb w2 n2 hh=>hh.casesOn λb rb q=>?_)
 obtain⟨i,j,t,u,rfl,rfl,q⟩:=nz (n2.opr ra) rb q
 obtain rfl:=zY q.e
 exact .stand (TE.bindS (R:=HR g λo S=>o=.v (.int (i-j))/\S=w2.S) (.operate (ET.int n2.k (λQ E z=>AutoIntOps.isub_0 (z _ _)) rfl ⟨rfl,rfl⟩)) λv w3 n3 ⟨o,r3,eo,es⟩=>by
   subst eo
   exact .stand (TS.bind (mB n3.k q.p r3) λq0 ρ4 w4 n4 r4=>by cases r4 with|mk h tk q=>exact ST.flow (fo:=.next) n4.k rfl (es▸q)))
theorem cT.nt(k:cT g w a)(n:Nt g ρ w w'):cT g w' a:=by
 obtain⟨o,e⟩:=k.e
 refine⟨λm=>(n.t.old m).elim k.x λz=>sn e z,Option.eq_none_iff_forall_ne_some.mpr λo' z=>(n.t.new a o' z).elim (λq=>sn q k.i) λq=>q.elim (λq=>sn e q) λq=>k.x (Fr.ml q),k.f,?_⟩
 cases n.t.kept a o e with|mk o' e' l=>exact⟨o',e'⟩
theorem cT.sameT(k:cT g w a)(n:Nt g ρ w w')(o:Obj)(e:w.h.get? a=some o):w'.h.get? a=some o:=by
 cases n.t.kept a o e with|mk o' e' l=>exact(l k.x).eq k.f▸e'
theorem Nt.trans(x:Nt g ρ1 w w1)(y:Nt g ρ2 w1 w'):Nt g ρ2 w w':=⟨x.t.trans y.t,y.k⟩
theorem Nt.off(n:Nt g ρ w w1)(o:cT g w1 a)(na:w.h.get? a=none)(hk:yd a w1.h h'):Nt g ρ w ⟨w1.I,w1.loc,w1.S,h',tk⟩:=⟨⟨n.t.le,n.t.new,λb ob e=>by
 cases n.t.kept b ob e with|mk o' e' l=>exact⟨o',hk b o' (λz=>sn (z▸e) na) e',l⟩,n.t.locnew⟩,n.k.but o hk⟩
noncomputable abbrev Fr.within(g:Fr)(A:Around):Fr:={g with A:=A}
theorem Ok.under{A:Around}(a:gu A g.n g.all)(k:Ok g ρ w):Ok (g.within A) ρ w:=⟨⟨a,k.fr.scope,k.fr.fn,k.fr.L,k.fr.ecells,k.fr.globals,k.fr.bl,k.fr.cell⟩,k.base,k.imm,k.nof,k.nodup,k.apart,(by
 cases k.vars with|mk m N C V=>exact⟨m,N,C,λx op e=>by cases V x op e with|loc e v e1 r=>exact .loc e v e1 r|cel e c v e1 e2 r=>exact .cel e c v e1 e2 r⟩),k.loc,k.len,k.sh,k.live,k.frames,k.fapart,k.fI⟩
end
section
variable {T:aB}{g:Fr}{ρ ρ1 ρ2:aa}{w w0 w1 w':W}{Q:Fo->aa->St->Prop}{X:aa->St->Prop}{f:fe->Prop}{a:Addr}{h':Heap}{tk:Nat}
theorem Nt.up{A:Around}(a:gu g.A g.n g.all)(n:Nt (g.within A) ρ w w'):Nt g ρ w w':=⟨⟨n.t.le,n.t.new,n.t.kept,n.t.locnew⟩,Ok.under (g:=g.within A) (A:=g.A) a n.k⟩
theorem ux{A:Around}{R:Result->Shared->Prop}{s:Shared}(q:R (.ok .next) s):aC g.c.clean g.c.M A (.block [] g.env) R s:=.of (codeAny_block (wpAny_execs_nil q))
theorem dh.drop{ρ0:aa}(y:dh g ρ w):dh g (cB ρ0 ρ) w:=by
 cases y with|mk m N C V=>exact⟨m,N,C,λx op e=>V x op (pB e)⟩
theorem Ok.drop{ρ0:aa}(y:Ok g ρ w):Ok g (cB ρ0 ρ) w:={y with vars:=y.vars.drop}
theorem v9{x:Str}{px:Pos}{body:List Stmt}{It:Addr}{fp:List Addr}{l:List AV}{Pr:Nat->Value->Prop}{Sw:Nat->Heap->Prop}{wI:W}{R:Result->Shared->Prop}(F:aw f g.c g.n)(wh:cC g)(Wk:∀A:Around,A.handled=none->Walks g.c.prog g.c.w A It fp [It] l.length Pr Sw)(live:∀i h,Sw i h->∃o,h.get? It=some o)
  (hp:∀i v,i<l.length->Pr i v->∃a,l[i]? =some a/\∀J,bb wI.I J->rep g.c.P J a v) (Fs:dQ wI It Sw) (nI:w0.h.get? It=none) (kx:aU g.sc x True) (hR:∀fl ρ' w',Nt g ρ' w0 w'->HQ g Q fl ρ' w'->R (.ok fl) (g.at w')):
  ∀(r:List AV) (ρ:aa) (w1:W) (i:Nat),l.drop i=r->i<=l.length->Nt g ρ w0 w1->bb wI.I w1.I->cT g w1 It->Sw i w1.h->xq f g.sc x body Q r ρ w1.S->aC g.c.clean g.c.M g.A (.forLoop (.Name x px) (.ref It) body [] g.env) R (g.at w1):=by
 have stp:∀{i:Nat} {ρ ρ':aa} {w1 w2:W},Ok g ρ w1->bb wI.I w1.I->cT g w1 It->Nt g ρ' w1 w2->Sw i w1.h->Sw i w2.h:=λy le k n st=>Fs _ _ _ st λb o m e=>m.elim (λm=>m▸k.sameT n o (m▸e)) λhh=>hh.elim λob m=>by
  have m:=le b ob m
  cases aM (y.imm b ob m) e
  exact n.k.imm b _ (n.t.le b _ m)
 intro r
 induction r with
 | nil=>
  intro ρ w1 i hd hi n le k st q
  have hil:i=l.length:=Nat.le_antisymm hi (Nat.sub_eq_zero_iff_le.mp ((List.length_drop (i:=i) (l:=l)).symm.trans (congrArg List.length hd)))
  refine aK (λq0 q1 q2=>rfl) ?_
  show a6 _ _ _ ((forTurn (.Name x px) (.ref It) body [] g.env).onRaise (λx=>do noteFrame x g.env;theTreesLotGoes x)) _ _ _
  refine a3 (aI (E:=λq0 q1=>False) ?_ (λq0 q1 q=>q) λq0 q1 q=>q.elim)
  unfold forTurn
  refine ab (aQ (ab (a3 (aI (E:=λq0 q1=>False) (.of ((Wk _ n.k.fr.a.handled).done _ _ _ (hil▸st) λh1 tk1 g1=>?_)) (λq0 q1 q=>q) λq0 q1 q=>q.elim))))
  exact ai ⟨rfl,ux (hR _ _ ⟨w1.I,w1.loc,w1.S,h1,tk1⟩ (n.off k nI λb o nb eb=>g1 b o (λm=>nb (List.mem_singleton.mp m)) eb) ⟨.next,rfl,q⟩)⟩
 | cons a r ih=>
  intro ρ w1 i hd hi n le k st q
  have lt:i<l.length:=by
   have:=congrArg List.length hd;rw[List.length_drop,List.length_cons]at this;exact uD 0x18049060c1000dffe048860200e this (Nat.sub_add_cancel (n:=l.length) (m:=i) (uB 0x2000100000c hi))
  have la:l[i]? =some a:=by rw[<-List.head?_drop,hd];rfl
  have ld:l.drop (i+1)=r:=by rw[<-List.drop_drop,hd];rfl
  refine aK (λq0 q1 q2=>rfl) ?_
  show a6 _ _ _ ((forTurn (.Name x px) (.ref It) body [] g.env).onRaise (λx=>do noteFrame x g.env;theTreesLotGoes x)) _ _ _
  refine a3 (aI (E:=λq0 q1=>False) ?_ (λq0 q1 q=>q) λq0 q1 q=>q.elim)
  unfold forTurn
  refine ab (aQ (ab (a3 (aI (E:=λq0 q1=>False) (.of ((Wk _ n.k.fr.a.handled).item i _ _ _ lt st λv h1 tk1 hv1 AE g1=>?_)) (λq0 q1 q=>q) λq0 q1 q=>q.elim))))
  have hk:yd It w1.h h1:=λb o nb eb=>g1 b o (λm=>nb (List.mem_singleton.mp m)) eb
  have n1:Nt g ρ w0 ⟨w1.I,w1.loc,w1.S,h1,tk1⟩:=n.off k nI hk
  have k1:cT g ⟨w1.I,w1.loc,w1.S,h1,tk1⟩ It:=⟨k.x,k.i,k.f,live _ _ AE⟩
  obtain⟨a',la',ra⟩:=hp i v lt hv1
  cases aM la la'
  let A:=g.A.under (.forLoop (.Name x px) (.ref It) body [] g.env)
  have ao:=n.k.fr.a
  have y1:Ok (g.within A) ρ ⟨w1.I,w1.loc,w1.S,h1,tk1⟩:=n1.k.under ⟨ao.handled,ao.depth,ao.units,ao.frames⟩
  dsimp only
  refine ab (ai (ab (d8 (g:=g.within A) (op:=.v a) (X:=iF) y1 kx (ra _ le) _ _ (λq0 ρ2 w2 n2 r2=>?_) λq0 q1 q2 q3 q4 q=>q.elim)))
  cases r2 with|mk h2 tk2 _=>
  have n2':=n2.up ao
  have D9:=stp n1.k le k1 n2' AE
  have k2:=k1.nt n2'
  refine ab (B1 (g:=g.within A) (w:=⟨w1.I,w1.loc,w1.S,h2,tk2⟩) F q n2.k wh _ _ (λfl ρ3 w3 n3 r3=>?_) λq0 q1 q2 q3 q4 q=>q.elim)
  have n3':=n3.up ao
  have G9:=stp n2'.k le k2 n3' D9
  have k3:=k2.nt n3'
  have nf:=n1.trans (n2'.trans n3')
  have nd:Nt g (cB ρ ρ3) w0 w3:=⟨nf.t,nf.k.drop⟩
  have go:xq f g.sc x body Q r (cB ρ ρ3) w3.S->a6 g.c.clean g.c.M A (again (.forLoop (.Name x px) (.ref It) body [] g.env)) (λfin s'=>match fin with|.done f=>R (.ok f) s'|.again c'=>c'.quiet=true/\aC g.c.clean g.c.M g.A c' R s') (λq0 q1=>False) (g.at w3):=λq=>
   ai ⟨rfl,ih _ w3 (i+1) ld lt nd (le.trans n3.t.le) k3 G9 q⟩
  obtain⟨fo,rf,q3⟩:=r3
  cases fo with
  | next=>cases rf;exact go q3
  | cont=>cases rf;exact go q3
  | brk=>cases rf;exact ai (hR _ _ w3 nd ⟨.next,rfl,q3⟩)
  | ret o=>obtain⟨v,rfl,rv⟩:=rf;exact ai (hR _ _ w3 nf ⟨.ret o,⟨v,rfl,rv⟩,q3⟩)
theorem iR{b:Bool}{M:Model}{A:Around}{env:Env}{E:Value->Shared->Prop}{s:Shared}{c:Code}{Q:Flow->Shared->Prop}(hc:aC b M A c (λr s'=>match r with|.ok f=>Q f s'|.error _=>False) s):a6 b M A (runOwn c env) Q E s:=by
 unfold runOwn
 exact a3 (aI (E:=λq0 q1=>False) (sS hc) (λq0 q1 q=>q) λq0 q1 q=>q.elim)
theorem yv{x:Str}{px p:Pos}{it:Expr}{body:List Stmt}(Fa:aH g.c T)(F:aw f g.c g.n)(N:cQ f)(y:Ok g ρ w)(wh:cC g)(kx:aU g.sc x True)(k:ib f T g.sc it ρ w.S (λl S=>je f g.sc x body Q l ρ S) X):ST g w (exec (.For (.Name x px) it body [] p) g.env) Q X:=by
 rw[arm_exec_For]
 obtain⟨tw,hs⟩:=fT Fa F N y k
 refine .stand (TE.bindS tw λv w1 n1 ⟨l,sr,hl,l',el,q⟩=>?_)
 cases el
 rw[hs v]
 intro Q' E z1 z2
 refine ab (ai (ab (aQ (ab (au (.of (sr _ _ λIt Sw h2 tk2 wa=>?_)))))))
 obtain⟨fp,Pr,nI,gr,Wk,fpI,live,hp,zJ⟩:=wa
 have n2:Nt g ρ w1 ⟨w1.I,w1.loc,w1.S,h2,tk2⟩:=⟨.grows gr,n1.k.grows _ gr⟩
 exact iR (v9 (w0:=w1) (wI:=w1) F wh Wk live hp (λi h h' s q=>(Wk g.A n1.k.fr.a.handled).frame i h h' s λb m o e=>q b o (fpI b m) e) nI kx (λfl ρ' w' n r=>z1 fl ρ' w' n r) l ρ ⟨w1.I,w1.loc,w1.S,h2,tk2⟩ 0 rfl (Nat.zero_le _) n2 (.refl _) ⟨n1.k.new_xs nI,n1.k.new_I nI,n1.k.new_f nI,live _ _ zJ⟩ zJ q)
theorem qH{t:Expr}{body:List Stmt}{R:Result->Shared->Prop}(F:aw f g.c g.n)(wh:cC g)(hR:∀fl ρ' w',Nt g ρ' w0 w'->HQ g Q fl ρ' w'->R (.ok fl) (g.at w')):∀(k:Nat) (ρ:aa) (w1:W),Nt g ρ w0 w1->gP f g.sc t body Q k ρ w1.S->
  aC g.c.clean g.c.M g.A (.whileLoop t body [] g.env) R (g.at w1):=by
 intro k
 induction k with
 | zero=>intro ρ w1 n q;exact q.elim
 | succ k ih=>
  intro ρ w1 n q
  refine aK (λq0 q1 q2=>rfl) ?_
  show a6 _ _ _ ((whileTurn t body [] g.env).onRaise (λx=>do noteFrame x g.env;theTreesLotGoes x)) _ _ _
  refine a3 (aI (E:=λq0 q1=>False) ?_ (λq0 q1 q=>q) λq0 q1 q=>q.elim)
  unfold whileTurn
  let A:=g.A.under (.whileLoop t body [] g.env)
  have ao:=n.k.fr.a
  have y1:Ok (g.within A) ρ w1:=n.k.under ⟨ao.handled,ao.depth,ao.units,ao.frames⟩
  refine ab (T1 (g:=g.within A) F q y1 _ _ (λb w2 n2 q2=>?_) λq0 q1 q2 q3 q=>q.elim)
  have n2':=Nt.up ao n2.nt
  cases b with
  | false=>exact ab (m:=execs [] g.env) (ai (ai (hR _ ρ w2 (n.trans n2') ⟨.next,rfl,q2⟩)))
  | true=>
   refine ab (B1 (g:=g.within A) F q2 n2.k wh _ _ (λfl ρ3 w3 n3 r3=>?_) λq0 q1 q2 q3 q4 q=>q.elim)
   have nf:=n.trans (n2'.trans (n3.up ao))
   have go:gP f g.sc t body Q k ρ3 w3.S->a6 g.c.clean g.c.M A (again (.whileLoop t body [] g.env)) (λfin s'=>match fin with|.done f=>R (.ok f) s'|.again c'=>c'.quiet=true/\aC g.c.clean g.c.M g.A c' R s') (λq0 q1=>False) (g.at w3):=λq=>ai ⟨rfl,ih ρ3 w3 nf q⟩
   obtain⟨fo,rf,q3⟩:=r3
   cases fo with
   | next=>cases rf;exact go q3
   | cont=>cases rf;exact go q3
   | brk=>cases rf;exact ai (hR _ _ w3 nf ⟨.next,rfl,q3⟩)
   | ret o=>obtain⟨v,rfl,rv⟩:=rf;exact ai (hR _ _ w3 nf ⟨.ret o,⟨v,rfl,rv⟩,q3⟩)
theorem yl{t:Expr}{body:List Stmt}{p:Pos}(F:aw f g.c g.n)(y:Ok g ρ w)(wh:cC g)(k:∃k,gP f g.sc t body Q k ρ w.S):ST g w (exec (.While t body [] p) g.env) Q X:=by
 obtain⟨k,q⟩:=k
 rw[arm_exec_While]
 exact .stand λQ' E z1 z2=>iR (qH (w0:=w) F wh (λfl ρ' w' n r=>z1 fl ρ' w' n r) k ρ w ⟨.refl,y⟩ q)
end
section
variable {T:aB}{g:Fr}{ρ ρ1 ρ2:aa}{w w0 w1 w':W}{Q:Fo->aa->St->Prop}{X:aa->St->Prop}{f:fe->Prop}{a:Addr}{h':Heap}{tk:Nat}
theorem wU{l:List LO}{y:Str}{op:Op}{ρ:aa}:aG (jZ l ρ) y=some op->∃op',aG ρ y=some op'/\op=zC l op':=by
 induction ρ with
 | nil=>exact nofun
 | cons p r ih=>
  obtain⟨z,o⟩:=p
  intro q
  have q:aG ((z,zC l o)::jZ l r) y=some op:=q
  rw[aN]at q ⊢
  by_cases w:z=y
  ·rw[if_pos w]at q ⊢;cases q;exact⟨o,rfl,rfl⟩
  ·rw[if_neg w]at q ⊢;exact ih q
theorem xM(k:Ok g ρ w):∃I,Nt g (jZ w.S.loc ρ) w ⟨I,[],⟨w.S.sh,[]⟩,w.h,w.tk⟩:=by
 let I:PH:=λa=>if a∈w.loc then w.h.get? a else w.I a
 have inn:∀{a},a∈w.loc->I a=w.h.get? a:=λm=>if_pos m
 have out:∀{a},a∉w.loc->I a=w.I a:=λm=>if_neg m
 have le:bb w.I I:=λa o e=>(out λm=>sn e (k.apart a (Fr.ml m))).trans e
 have of:∀{a o} (C:Prop),I a=some o->(a∈w.loc->w.h.get? a=some o->C)->(w.I a=some o->C)->C:=λ{a o} C e x y=>by
  by_cases m:a∈w.loc
  ·exact x m ((inn m).symm.trans e)
  ·exact y ((out m).symm.trans e)
 have lo_of:∀{a},a∈w.loc->∃lo,cy g.c.P w.I w.h a lo:=λ{a} m=>by
  obtain⟨i,hi,e⟩:=List.mem_iff_getElem.mp m
  exact⟨_,k.loc i a _ (by rw[List.getElem?_eq_getElem hi,e]) (List.getElem?_eq_getElem (by rw[k.len];exact hi))⟩
 have xs:∀{a},a∈g.xs []->a∈g.xs w.loc/\a∉w.loc:=λ{a} m=>(List.mem_append.mp m).elim (λm=>⟨Fr.mo m,λq=>k.own_l m (List.mem_append_left _ q)⟩) λm=>⟨Fr.ms m,λq=>k.loc_s q m⟩
 have nd:=List.nodup_append.mp k.nodup
 have ol:∀op v,bB g w op v->bB g ⟨I,[],⟨w.S.sh,[]⟩,w.h,w.tk⟩ (zC w.S.loc op) v:=λop v r=>by
  cases op with
  | v a=>exact bY le a r
  | slf C=>exact qA.mono le r
  | loc i=>
   obtain⟨a,e,rfl⟩:=r
   show opr g.c.P g.sl I [] (match w.S.loc[i]? with|some lo=>.v lo.av|none=>.gone) _
   cases e2:w.S.loc[i]? with
   | none=>trivial
   | some lo=>
    obtain⟨o,e1,_,r⟩:=ly (k.loc i a lo e e2)
    exact r _ le ((inn (List.mem_of_getElem? e)).trans e1)
  | _=>exact r
 refine⟨I,⟨⟨le,λa o e=>of _ e (λm q0=>.inr (.inr m)) .inl,λa o e=>⟨o,e,λq0=>.rfl'⟩,λa m=>absurd m List.not_mem_nil⟩,k.fr,λa o e=>le _ _ (k.base a o e),λa o e=>of _ e (λq0=>id) (k.imm a o),λa o e=>of _ e (λm e=>?_) (k.nof a o),?_,λa m=>(out (xs m).2).trans (k.apart a (xs m).1),?_,λi a lo e=>(nomatch e),rfl,k.sh.mono le λq0 q1 q2=>id,λa m=>k.live a (xs m).1,k.frames,λa m=>(k.fapart a m).imp id λq z=>q (xs z).1,λa m=>(out λq=>k.loc_f q m).trans (k.fI a m)⟩⟩
 ·obtain⟨lo,L⟩:=lo_of m
  obtain⟨o',e',f,_⟩:=ly L
  cases aM e e'
  exact .inr f
 ·exact List.nodup_append.mpr ⟨nd.1,k.sl_nd,λa ma b mb=>nd.2.2 a ma b (List.mem_append_right _ mb)⟩
 ·cases k.vars with|mk m N C V=>
  refine⟨m,N,C,λy op q=>?_⟩
  obtain⟨op',e,rfl⟩:=wU q
  cases V y op' e with
  | loc e v e1 r=>exact .loc e v e1 (ol _ _ r)
  | cel e c v e1 e2 r=>exact .cel e c v e1 e2 (ol _ _ r)
theorem TS.pre{α:Type}{t:Sem α}{R:α->aa->W->Prop}(n:Nt g ρ w w1)(e:g.at w1=g.at w)(x:TS g w1 t R X):TS g w t R X:=λQ E q z=>
 e▸x Q E (λa ρ w' n'=>q a ρ w' ⟨n.t.trans n'.t,n'.k⟩) λe ρ w' n' x'=>z e ρ w' ⟨n.t.trans n'.t,n'.k⟩ (x'.back λq0=>n.t.no)
theorem vw{sc:Scope}{x:Str}{p:Prop}(k:aU sc x p):aU sc x True/\p:=by
 unfold aU at k ⊢
 cases h:jr (dc sc.names x)with
 | loc=>rw[h]at k;exact⟨trivial,k⟩
 | _=>rw[h]at k;exact k.elim
theorem Au{x:Str}{px p:Pos}{it:Expr}{body:List Stmt}(Fa:aH g.c T)(F:aw f g.c g.n)(N:cQ f)(y:Ok g ρ w)(wh:cC g)(k:aU g.sc x (bif lT ρ it then ib f T g.sc it (jZ w.S.loc ρ) ⟨w.S.sh,[]⟩ (λl S'=>je f g.sc x body Q l (jZ w.S.loc ρ) S') X else ib f T g.sc it ρ w.S (λl S=>je f g.sc x body Q l ρ S) X)):
  ST g w (exec (.For (.Name x px) it body [] p) g.env) Q X:=by
 obtain⟨kx,k⟩:=vw k
 cases h:lT ρ it with
 | true=>
  rw[h]at k
  obtain⟨I,n⟩:=xM y
  exact TS.pre n rfl (yv Fa F N n.k wh kx k)
 | false=>rw[h]at k;exact yv Fa F N y wh kx k
theorem DW{t:Expr}{b o:List Stmt}{p:Pos}(F:aw f g.c g.n)(y:Ok g ρ w)(wh:cC g)(k:bif Em t then Gv f g.sc t b o (jZ w.S.loc ρ) ⟨w.S.sh,[]⟩ Q X else Gv f g.sc t b o ρ w.S Q X):ST g w (exec (.If t b o p) g.env) Q X:=by
 cases h:Em t with
 | true=>
  rw[h]at k
  obtain⟨I,n⟩:=xM y
  exact TS.pre n rfl (BQ F n.k wh k)
 | false=>rw[h]at k;exact BQ F y wh k
end
theorem mN:mroOf (.type "bytearray")=pure [.type "bytearray",.type "object"]:=by rw[mroOf_type];kernel_rfl
theorem qr:typeLookup (.type "bytearray") "__new__" =pure (some (.builtin "bytearray.__new__")):=by rw[typeLookup_type,builtinLookup_eq_fast];kernel_rfl
theorem eN:Slot "bytearray" "__init__" "bytearray.__init__":=.of (owner:="bytearray") (n:="__init__") (by rw[typeLookup_type,builtinLookup_eq_fast];kernel_rfl) (by decide +kernel) (by decide +kernel) (by decide +kernel)
 (by first|exact .inl (by decide +kernel)|exact .inr (by decide +kernel)) (by rw[isSubtype_type];kernel_rfl)
theorem fz:TypeCalled "bytearray" "bytearray.__new__" "bytearray.__init__":=
 ⟨by decide +kernel,by decide +kernel,⟨_,_,mN⟩,madeBy_type mN qr (by decide +kernel),by decide +kernel,by rw[isSubtype_type];kernel_rfl,eN⟩
theorem og:checkBuiltinCall "bytearray.__new__" ⟨[.type "bytearray"],[]⟩=pure ():=by kernel_rfl
theorem mu:checkTypeCall "bytearray" ⟨[],[]⟩=pure ():=by kernel_rfl
theorem lV(o:Value):argsOk "bytearray.__init__" ⟨[o],[]⟩:=by unfold argsOk;kernel_rfl
theorem kj:entryFor table "bytearray.__new__" =some Builtin.«list.__new__»:=entryFor_alias (id':="list.__new__") (by rw[fastTable_eq_tree];kernel_rfl) (by first|rfl|decide +kernel) (by decide +kernel) (by rw[fastTable_eq_tree];kernel_rfl)
theorem jE:entryFor table "bytearray.__init__" =some Builtin.«bytearray.__init__»:=entryFor_of_tree (by kernel_rfl)
theorem fm:plainId "bytearray.__new__" =true:=by decide +kernel
set_option maxRecDepth 1000000 in
set_option maxHeartbeats 4000000 in
theorem ub:("bytearray.__new__".splitOn ".__new__").headD "" ="bytearray":=by simp +decide [String.splitOn,String.splitOnAux]
theorem rl:isSubtype (.type "bytearray") (.type "bytearray")=pure true:=by rw[isSubtype_type];kernel_rfl
section
variable {prog:Program}{w:World}{A:Around}{E:Value->Shared->Prop}{s:Shared}
theorem m4{Q₁:Value->Shared->Prop}(h:Q₁ (.ref s.heap.objs.size) {s with heap:=s.heap.push {cls:=.type "bytearray",data:=.bytearray #[]}}):
  codeAny (model prog w) A (.call (.builtin "bytearray.__new__") ⟨[.type "bytearray"],[]⟩) (wants Q₁ E) s:=by
 refine codeAny_of_tree ?_
 show wpAny _ A.in1 (do checkBuiltinCall "bytearray.__new__" ⟨[.type "bytearray"],[]⟩;again (.builtin "bytearray.__new__" ⟨[.type "bytearray"],[]⟩)) _ _ s
 refine wpAny_bind (wpAny_of_eq og (wpAny_pure ⟨plainId_quiet fm _,codeAny_builtin_stack kj rfl λp st=>?_⟩))
 rw[Around.under_plainId fm _]
 have hsub:=rl
 have hown:=ub
 obtain⟨hp,g,d,tk,os⟩:=s
 simp only[hown]
 wp_walk
 exact h
theorem pd{b:Bool}{id:String}{args:Args}{B:Builtin}{A':Around}{R:Result->Shared->Prop}(ok:zv (.builtin id args))(hb:entryFor table id=some B)(hu:A.under (.builtin id args)=A')
  (h:a6 b (model prog w) A' (B args) (λfin s'=>match fin with|.done f=>R (.ok f) s'|.again c'=>c'.quiet=true/\aC b (model prog w) A c' R s') (λe s'=>R (.error e) s') s):aC b (model prog w) A (.builtin id args) R s:=by
 refine aK (λq0=>ok) ?_
 show a6 b _ _ (match entryFor table id with|some b=>b args|none=>unsupported ((withoutEnding? id "#data").getD id)) _ _ s
 rw[hb,hu];exact h
theorem fC{α:Type}{b:Bool}{M:Model}{A:Around}{E:Value->Shared->Prop}{s:Shared}{k:Bool}{x y:Sem α}{Q:α->Shared->Prop}(e:k=false)(h:a6 b M A y Q E s):a6 b M A (if k=true then x else y) Q E s:=by
 rw[e];exact h
end
section
variable {prog:Program}{w:World}{A:Around}{E:Value->Shared->Prop}{s:Shared}
theorem A3{a:Addr}{b:Array UInt8}{A:Around}{Q:Bool->Shared->Prop}{E:Value->Shared->Prop}{s:Shared}(h:ck s.heap a b)(q:Q false s):wpAny (model prog w) A (Builtin.Bytes.ownRelease (.ref a)) Q E s:=by
 unfold Builtin.Bytes.ownRelease Builtin.Bytes.slotIsOwn
 refine wpAny_bind (wpAny_bind (wpAny_specialOf h.typeIs qM ?_))
 dsimp only
 have e:(!("bytearray.__release_buffer__" :String).endsWith ("." ++"__release_buffer__"))=false:=by decide +kernel
 rw[e]
 exact wpAny_isInstance (T:="bytearray") (b:=true) h.typeIs (by rw[isSubtype_type];kernel_rfl) (wpAny_pure q)
theorem yY{Q:Value->Shared->Prop}(q:∀h',h'.get? s.heap.objs.size=some {cls:=.type "bytearray",data:=.bytearray #[]}->(∀y o,s.heap.get? y=some o->h'.get? y=some o)->Q (.ref s.heap.objs.size) {s with heap:=h'}):
  a6 true (model prog w) A (call (.type "bytearray") []) Q E s:=by
 refine bT (aK (λq0 q1 q2=>rfl) ?_)
 show a6 _ _ _ (callAny (.type "bytearray") _) _ _ _
 refine ai ⟨Code.quiet_builtin _ (by decide +kernel),pd (λv p=>by cases v<;>rfl) F.entry_type_call (Around.under_plain (weight_type_call_type "bytearray" [] []) (units_type_call_type "bytearray" [] [])) ?_⟩
 unfold Builtin.«type.__call__»
 refine fC fz.notType ?_
 refine fC fz.canCreate ?_
 refine ab (.of (wpAny_of_eq mu ?_))
 refine ab (.of (wpAny_of_eq mN ?_))
 refine fC rfl ?_
 refine ab (.of (wpAny_of_eq fz.made ?_))
 refine ab (ai ?_)
 refine ab (au (bT (.of (codeAny_mono (m4 (Q₁:=λv s'=>v=.ref s.heap.objs.size/\s'={s with heap:=s.heap.push {cls:=.type "bytearray",data:=.bytearray #[]}}) (E:=λq0 q1=>False) ⟨rfl,rfl⟩) λr s' hr=>?_))))
 cases r with
 | error e=>exact(show False from hr).elim
 | ok fl=>
  cases fl with
  | ret obj=>
   obtain⟨rfl,rfl⟩:=hr
   have hb:ck (s.heap.push {cls:=.type "bytearray",data:=.bytearray #[]}) s.heap.objs.size #[]:=⟨_,Heap.get?_push_size _ rfl,rfl,rfl⟩
   refine ab (.of (wpAny_isInstance (T:="bytearray") (b:=true) hb.typeIs rl ?_))
   refine fC rfl ?_
   refine ab (au ?_)
   unfold callSpecial?
   refine ab (.of (wpAny_specialOf hb.typeIs eN.lookup ?_))
   refine au (ab (.of (wpAny_of_eq (eN.bind _) ?_)))
   dsimp only
   refine ab (bT (dp eN.plain (rh (λq0 q1=>by kernel_rfl) (by decide +kernel)) jE (eN.check _ _ _ _ _ _ _ _ hb.typeIs (lV _) ?_)))
   unfold Builtin.«bytearray.__init__»
   refine ab (.of (A3 hb ?_))
   refine fC rfl ?_
   refine ab (.of (wpAny_of_eq (a:=[none,none,none]) rfl ?_))
   dsimp only
   refine ab (.of (wpAny_of_eq (a:=()) rfl ?_))
   refine ab (.of (wpAny_of_eq (a:=()) rfl ?_))
   refine ab (m:=(Builtin.Bytes.exported (.ref s.heap.objs.size) <||> (do return(<-Builtin.Bytes.exportsOf (.ref s.heap.objs.size))>0))) ?_
   refine ab (gk ?_)
   show a6 true _ _ ((do return decide ((<-Builtin.Bytes.exportsOf (.ref s.heap.objs.size))>0)):Sem Bool) _ _ _
   refine ab (.of (fL hb ?_))
   refine ai ?_
   refine fC rfl ?_
   refine ab (.of (jI (f:=λq0=> #[]) hb (by decide) λh' e sb=>?_))
   refine ai ?_
   show a6 true _ _ (pure (some Value.none)) _ _ _
   refine ai ?_
   refine fC rfl ?_
   refine ai ?_
   obtain⟨o,e1,e2⟩:=e
   have e0:(s.heap.push {cls:=.type "bytearray",data:=.bytearray #[]}).get? s.heap.objs.size=some {cls:=.type "bytearray",data:=.bytearray #[]}:=Heap.get?_push_size _ rfl
   have e1:(s.heap.push {cls:=.type "bytearray",data:=.bytearray #[]}).get? s.heap.objs.size=some o:=e1
   rw[e0]at e1;cases e1
   exact q h' e2 λy o e=>sb.extBut y o (Nat.ne_of_lt (Heap.lt_size e)) (Heap.get?_push_of_some _ e)
  | _=>exact hr.elim
end
section
variable {T:aB}{g:Fr}{ρ ρ1 ρ2:aa}{w w0 w1 w':W}{cs:Scope}{Q:Fo->aa->St->Prop}{X:aa->St->Prop}{f:fe->Prop}{a:Addr}{h':Heap}{tk:Nat}
theorem dE{x:Str}{xp p:Pos}{v:Expr}(hs:swapsWith v (some (.Name x xp)) p.line g.env=pure false){Q1:Op->St->Prop}(t:ET g ρ w (eval v g.env) Q1 X)(k:∀o S,Q1 o S->aU g.sc x (Q .next (bQ ρ x o) S)):ST g w (exec (.Assign [.Name x xp] v p) g.env) Q X:=by
 rw[exec_Assign_Name g.env x xp _ p hs]
 exact .stand (TE.bindS t λv w1 n1 ⟨op,rv,q⟩=>.stand (TS.bind (mB n1.k (k _ _ q) rv) λq0 ρ4 w4 n4 r4=>by cases r4 with|mk h tk q=>exact ST.flow (fo:=.next) n4.k rfl q))
theorem ET.newLoc{t:Sem Value}{o:Obj}{lo:LO}{Q:Op->St->Prop}(y:Ok g ρ w)(x:∀(Q:Value->Shared->Prop) (E:Value->Shared->Prop),(∀tk,Q (.ref w.h.objs.size) (g.c.mk' (w.h.push o) tk))->wpAny g.c.M g.A t Q E (g.at w))(fr:o.isFreed=false)
  (L:∀h a,h.get? a=some o->(a==sysModules)=false->cy g.c.P w.I h a lo) (q:Q (.loc w.S.loc.length) {w.S with loc:=w.S.loc++[lo]}):ET g ρ w t Q X:=.of λQ' E z=>x _ _ λtk=>
 z _ _ (.addLoc (tk:=tk) y (ax _) (.push _ _) ⟨o,Heap.get?_push_size _ fr⟩ (L _ _ (Heap.get?_push_size _ fr) (y.not_sys (ax _) (Nat.le_refl _)))) ⟨.loc _,mM y,q⟩
theorem xg{nm:Str}{gp cp:Pos}{Q:Op->St->Prop}(Fa:aH g.c T)(y:Ok g ρ w)(hc:g.c.clean=true)(k:cG T g.sc nm 4=true)(q:Q (.loc w.S.loc.length) {w.S with loc:=w.S.loc++[.ba []]}):ET g ρ w (eval (.Call (.Name nm gp) [] [] cp) g.env) Q X:=by
 show ET g ρ w (eval (.Name nm gp) g.env >>=λfv=>PySem.callWith cp fv [] [] []) Q X
 refine TE.bind (ek Fa.gl y (fF (t:=.ba) (λu h=>by cases u<;>first|rfl|cases h) k)) λvf w1 n1 ⟨fv,rf,ef,es⟩=>?_
 subst ef
 have rf:vf=.type "bytearray":=rf
 subst rf
 refine TE.callWith (λq0 q1=>xx _) rfl (TE.mono (spliced_nil (K:=λops S=>ops=[]/\S=w.S) n1.k ⟨rfl,es⟩) λvs w2 n2 ⟨ops,ro,eo,es2⟩ _ t et=>?_)
 subst eo et
 cases ro
 intro Q' E z1 z2
 rw[hc]
 exact yY (s:=g.at w2) λh' e gr=>z1 _ _ (.addLoc (lo:=.ba []) (tk:=w2.tk) n2.k (ax _) gr ⟨_,e⟩ ⟨_,_,e,rfl,rfl,rfl,rfl⟩) ⟨.loc _,mM n2.k,by rw[es2];exact q⟩
inductive tF(T:aB)(sc:Scope)(p:LO->Prop):Expr->Prop
 | list (pos:Pos) (k:p (.list [])):tF T sc p (.List [] pos)
 | dict (pos:Pos) (k:p (.dict [])):tF T sc p (.Dict [] [] pos)
 | ba (nm:Str) (gp pos:Pos) (h:cG T sc nm 4=true) (k:p (.ba [])):tF T sc p (.Call (.Name nm gp) [] [] pos)
theorem yP{b:Bool}{p q:Prop}(k:bif b then p else q):(b=true/\p)\/q:=by
 cases b with
 | true=>exact .inl ⟨rfl,k⟩
 | false=>exact .inr k
theorem nF{α:Type}{l:List α}(h:l.isEmpty=true):l=[]:=List.isEmpty_iff.mp h
theorem Dd{sc:Scope}{v:Expr}{p:LO->Prop}{q:Prop}(k:AN T sc v p q):tF T sc p v\/q:=by
 by_cases h:v.ctorIdx=24
 ·refine Expr.List.elim (motive_1:=λv=>AN T sc v p q->tF T sc p v\/q) v h (λes pos k=>(yP k).imp_left λhh=>hh.casesOn λe k=>?_) k
  rw[nF e];exact .list pos k
 have k:=(dif_neg h).mp k
 by_cases h2:v.ctorIdx=6
 ·refine Expr.Dict.elim (motive_1:=λv=>AN T sc v p q->tF T sc p v\/q) v h2 (λks vs pos k=>(yP k).imp_left λhh=>hh.casesOn λe k=>?_) ((dif_neg h).mpr k)
  obtain⟨e1,e2⟩:=Bool.and_eq_true_iff.mp e
  rw[nF e1,nF e2];exact .dict pos k
 rcases rE ((dif_neg h2).mp k)with⟨f,as,ks,pos,rfl,k⟩|k
 ·rcases lU k with⟨g,gp,rfl,k⟩|k
  ·refine(yP k).imp_left λhh=>hh.casesOn λe k=>?_
   obtain⟨e1,e⟩:=Bool.and_eq_true_iff.mp e
   obtain⟨e2,e3⟩:=Bool.and_eq_true_iff.mp e
   rw[nF e1,nF e2];exact .ba g gp pos e3 k
  ·exact .inr k
 ·exact .inr k
theorem vJ{elt:Expr}{gens:List Comprehension}{x:Str}{xp p lp:Pos}(Fa:aH g.c T)(F:aw f g.c g.n)(N:cQ f)(y:Ok g ρ w)(kx:aU g.sc x True)(ky:g.sc.names.lookup x=some .local)(sw:swapsWith (.ListComp elt gens cs lp) (some (.Name x xp)) p.line g.env=pure true)
  (k:dy f T g.sc elt gens cs ρ w.S (λl S=>Q .next (bQ ρ x (.v (.list l))) S) X):ST g w (exec (.Assign [.Name x xp] (.ListComp elt gens cs lp) p) g.env) Q X:=by
 obtain⟨x',px,iter,ifs,rfl,k⟩:=qG k
 have H:=jJ y k.e
 obtain⟨it,hs⟩:=fT Fa F N y k.p
 rw[exec_Assign_Name_used x xp _ p sw]
 refine .stand ?_
 show ST g w ((comprehension (.ListComp elt [⟨.Name x' px,iter,ifs,0⟩] cs lp) cs g.env iter.pos (newList []) false (eval iter g.env) (some (assign (.Name x xp) g.env)) >>=λq0=>pure ()) >>=λq0=>pure Flow.next) Q X
 refine TS.bind (RS:=λq0 ρ' w'=>Q .next ρ' w'.S) (TS.bind (RS:=λq0 ρ' w'=>Q .next ρ' w'.S) ?_ λq0 ρ1 w1 n1 r1=>.pure n1.k r1) λq0 ρ1 w1 n1 r1=>ST.flow (fo:=.next) n1.k rfl r1
 intro Q' E z1 z2
 refine bW (cl:=bG g.cells cs.names []) rfl hs (lL y H.c) H.c.fn H.n (it _ E (λv w1 n1 hh=>hh.casesOn λl sr len q=>lG (rq (px:=px) (pos:=lp) (iter:=iter) (K:=λvs S=>vs.length<=16777216/\Q .next (bQ ρ x (.v (.list vs))) {w1.S with sh:=S.sh}) F n1.k H.c H.x len q) (λIt D C=>⟨y.fr.a.handled,y.fr.a.depth,y.fr.a.units,y.fr.a.frames⟩) n1.k sr H.c λD C A lo w' nD nC DC K q=>?_) λe w1 n=>z2 e ρ w1 n.nt)
 obtain⟨vs,rfl,_,q⟩:=q
 have n9:Nx g ρ w1 ⟨w'.I,w1.loc,{w1.S with sh:=w'.S.sh},w'.h,w'.tk⟩:=.back n1.k K.t K.k.toC
 obtain⟨o,e,ff,r⟩:=ly K.dl
 have n10:=n9.freeze (a:=D) nD ⟨n1.k.new_xs nD,K.d.i,n1.k.new_f nD,⟨o,e⟩⟩ e ff
 cases K.k.vars with|mk m NN _ _=>
 have oC:cT g ⟨pI w'.I D o,w1.loc,{w1.S with sh:=w'.S.sh},w'.h,w'.tk⟩ C:=⟨n1.k.new_xs nC,(i8 _ _ (Ne.symm DC)).trans (K.k.apart C (Fr.mo (.head _))),n1.k.new_f nC,e9 NN⟩
 show a6 _ _ _ (assign (.Name x xp) g.env (.ref D)) _ _ _
 refine TS.assignName (op:=.v (.list vs)) (X:=iF) n10.k (.inl ky) (r _ (bC K.d.i) (eF ..)) _ _ (λq0 ρ2 w2 n2 r2=>?_) λq0 q1 q2 q3 q4 q=>q.elim
 cases r2 with|mk h2 tk2 sb=>
 have nt:Nt g ((x,.v (.list vs))::ρ) w ⟨pI w'.I D o,w1.loc,{w1.S with sh:=w'.S.sh},h2,tk2⟩:=(n1.trans n10).nt.trans n2
 have oC2:=oC.nt n2
 refine⟨m,NN.sameBut (sb ky) λ(z:C=g.L)=>oC.x (z▸Fr.mo (.head _)),λh'' sb2=>?_⟩
 have n3:=nt.off (h':=h'') (tk:=tk2) oC2 (n1.t.no nC) λb o n=>aJ sb2 n o
 exact z1 _ (bQ ρ x (.v (.list vs))) _ ⟨n3.t,n3.k.rho λy o e=>kN.symm.trans e⟩ q
theorem qL{x:Str}{xp p lp:Pos}{elt:Expr}{gens:List Comprehension}(Fa:aH g.c T)(F:aw f g.c g.n)(N:cQ f)(y:Ok g ρ w)(k:aU g.sc x (dy f T g.sc elt gens cs ρ w.S (λl S=>Q .next (bQ ρ x (.v (.list l))) S) X)):ST g w (exec (.Assign [.Name x xp] (.ListComp elt gens cs lp) p) g.env) Q X:=by
 obtain⟨kx,k⟩:=vw k
 have sw:swapsWith (.ListComp elt gens cs lp) (some (.Name x xp)) p.line g.env=pure (g.env.blockKind== .function&&g.env.kindOf x==some .local&&xp.line==lp.line&& !(cs.names.any λ(n,k)=>n==x&&(k== .local||k== .cell))):=rfl
 cases h:(g.env.blockKind== .function&&g.env.kindOf x==some .local&&xp.line==lp.line&& !(cs.names.any λ(n,k)=>n==x&&(k== .local||k== .cell)))with
 | false=>
  rw[h]at sw
  refine dE sw (Q1:=λo S=>aU g.sc x (Q .next (bQ ρ x o) S)) ?_ λq0 q1 q=>q
  have kx':∀{p:Prop},p->aU g.sc x p:=λ{p} q=>by
   unfold aU at kx ⊢
   cases h:jr (dc g.sc.names x)with
   | loc=>exact q
   | _=>rw[h]at kx;exact kx.elim
  exact TE.mono (kZ (Q:=λo S=>Q .next (bQ ρ x o) S) Fa F N y k) λv w1 n1 hh=>hh.casesOn λop r q=>⟨op,r,kx' q⟩
 | true=>
  rw[h]at sw
  rw[Bool.and_eq_true,Bool.and_eq_true,Bool.and_eq_true]at h
  have ky:g.sc.names.lookup x=some .local:=by
   have:=beq_iff_eq.mp h.1.1.2
   unfold Env.kindOf at this
   rw[y.fr.scope]at this;exact this
  exact vJ Fa F N y kx ky sw k
theorem qZ{x:Str}{xp p:Pos}{v:Expr}(Fa:aH g.c T)(F:aw f g.c g.n)(N:cQ f)(y:Ok g ρ w)(k:sR f g.c T g.sc x v ρ w.S Q X):ST g w (exec (.Assign [.Name x xp] v p) g.env) Q X:=by
 rcases Dd k with k|k
 ·cases k with
  | list pos kk=>
   exact dE rfl (Q1:=λo S=>o=.loc w.S.loc.length/\S={w.S with loc:=w.S.loc++[.list []]}) (TE.stand (ET.newLoc (o:={cls:=.type "list",data:=.seq #[]}) (lo:=.list []) y (λQ E z=>wpAny_newList (items:=[]) (s:=g.at w) (z w.tk) (by decide)) rfl (λh a e q0=>⟨_,_,_,e,rfl,rfl,rfl,rfl,rfl⟩) ⟨rfl,rfl⟩)) λo S hh=>hh.casesOn λe1 e2=>by subst e1 e2;exact Gd.p (b:=true) kk
  | dict pos kk=>
   refine dE rfl (Q1:=λo S=>o=.loc w.S.loc.length/\S={w.S with loc:=w.S.loc++[.dict []]}) ?_ λo S hh=>hh.casesOn λe1 e2=>by subst e1 e2;exact Gd.p (b:=true) kk
   rw[eval_Dict_empty]
   exact TE.stand (ET.newLoc (o:={cls:=.type "dict",data:=.dict #[]}) (lo:=.dict []) y (λQ E z=>wpAny_newObj_type (z w.tk)) rfl (λh a e ns=>⟨_,_,_,e,⟨rfl,rfl,rfl⟩,rfl,rfl,rfl,List.nodup_nil,ns⟩) ⟨rfl,rfl⟩)
  | ba nm gp pos h kk=>
   exact dE rfl (Q1:=λo S=>o=.loc w.S.loc.length/\S={w.S with loc:=w.S.loc++[.ba []]}) (xg Fa y kk.e h ⟨rfl,rfl⟩) λo S hh=>hh.casesOn λe1 e2=>by subst e1 e2;exact kk.p
 ·rcases rR k with⟨elt,gens,cs,pos,rfl,k⟩|k
  ·exact qL Fa F N y k
  ·exact dE (eW k.e) (E1 F k.p y) λq0 q1 q=>q
end
section
variable {T:aB}{g:Fr}{ρ ρ1 ρ2:aa}{w w0 w1 w':W}{cs:Scope}{Q:Fo->aa->St->Prop}{X:aa->St->Prop}{f:fe->Prop}{a:Addr}{h':Heap}{tk:Nat}
theorem TS.hold{α:Type}{t:Sem α}{R:α->aa->W->Prop}{vs:List Value}(x:TS g w t R X):TS g w (holding vs t) R X:=λQ E q z=>au (x Q E q z)
abbrev sx(Q:Fo->aa->St->Prop):Unit->aa->W->Prop:=λq0 ρ' w'=>Q .next ρ' w'.S
theorem TS.fin{t:Sem Unit}(x:TS g w t (sx Q) X):ST g w (t >>=λq0=>Pure.pure Flow.next) Q X:=TS.bind x λq0 ρ1 w1 n1 q=>ST.flow (fo:=.next) n1.k rfl q
theorem TS.rels{vs:List Value}{t:Sem Unit}(x:TS g w t (sx Q) X):TS g w (t >>=λq0=>release vs []) (sx Q) X:=TS.bind x λq0 ρ1 w1 n1 q=>λQ' E z q0=>eC (z _ _ w1 ⟨.refl,n1.k⟩ q)
theorem nV{x z:Str}{xp zp tp p:Pos}{ct:Nat}{v:Expr}(F:aw f g.c g.n)(y:Ok g ρ w)
  (k:Gd (cg v&&wD v) (f (.E g.sc v ρ w.S (λo S=>fc o λo=>G8 o λa b=>aU g.sc x (aU g.sc z (Q .next (bQ (bQ ρ x (.v a)) z (.v b)) S))) X))):ST g w (exec (.Assign [.Tuple [.Name x xp,.Name z zp] ct tp] v p) g.env) Q X:=by
 obtain⟨k1,k2⟩:=Bool.and_eq_true_iff.mp k.e
 rw[arm_exec_Assign]
 have e1:swapsWithSole [.Tuple [.Name x xp,.Name z zp] ct tp] v p.line g.env=pure false:=by
  unfold swapsWithSole
  exact eW k1
 have e2:swappedStores [.Tuple [.Name x xp,.Name z zp] ct tp] v g.env=pure none:=by
  cases v with
  | Tuple=>cases k2
  | _=>rfl
 rw[e1,e2]
 refine .stand ?_
 show ST g w (eval v g.env >>=λw=>assignStores g.env w none ((assignEach [.Tuple [.Name x xp,.Name z zp] ct tp] g.env).map (·.2))) Q X
 refine TE.bindS (E1 F k.p y) λu w1 n1 hh=>hh.casesOn λop rv q=>?_
 obtain⟨o,rv,q⟩:=a9 rv q
 cases o with
 | tuple l=>
  obtain _|⟨a,_|⟨b,_|_⟩⟩:=l
  ·exact q.elim
  ·exact q.elim
  ·obtain⟨la,vs,rfl,ht,va,_,rfl,ra,vb,_,rfl,rb,rfl⟩:=jQ n1.k.imm rv
   show ST g w1 ((standAt tp >>=λq0=>holding [.ref la] (unpackItems (.ref la) 2 none) >>=λxs=>assignInOrder [assign (.Name x xp) g.env,assign (.Name z zp) g.env] xs) >>=λq0=>pure Flow.next) Q X
   refine TS.fin (.stand (TE.bindS (ρ:=ρ) (R:=λxs w2=>xs=[va,vb]/\w2.S=w1.S) (.hold (.of λQ E z=>wpAny_unpackItems_tuple (s:=g.at w1) (items:=[va,vb].toArray) y.fr.a.handled (dC ht) λh2 ext=>?_)) λxs w2 n2 hh=>hh.casesOn λe3 eS=>?_))
   ·have gr:Grows w1.h h2:=λd o e=>ext d o (λz=>absurd (z▸Heap.lt_size e) (Nat.lt_irrefl _)) e
    exact z _ ⟨w1.I,w1.loc,w1.S,h2,w1.tk⟩ (.grows n1.k gr) ⟨rfl,rfl⟩
   ·subst e3
    show TS g w2 (holding [vb] (assign (.Name x xp) g.env va) >>=λq0=>holding [] (assign (.Name z zp) g.env vb) >>=λq0=>pure ()) _ X
    refine TS.bind (.hold (d8 (op:=.v a) n2.k q (bY n2.t.le a ra))) λq0 ρ3 w3 n3 r3=>?_
    cases r3 with|mk h3 tk3 q3=>
    refine TS.bind (.hold (d8 (op:=.v b) n3.k q3 (bY n2.t.le b rb))) λq0 ρ4 w4 n4 r4=>?_
    cases r4 with|mk h4 tk4 q4=>exact .pure n4.k (show Q .next _ w2.S from eS▸q4)
  ·exact q.elim
 | _=>exact q.elim
theorem pA{x:Str}{ap p:Pos}{o v:Expr}(Fa:aH g.c T)(F:aw f g.c g.n)(y:Ok g ρ w)(k:Gd (cg v) (f (.E g.sc v ρ w.S (λa S=>f (.E g.sc o ρ S (λb S=>GE T x b a S λS=>Q .next ρ S) X)) X))):ST g w (exec (.Assign [.Attribute o x ap] v p) g.env) Q X:=by
 rw[plainObj_exec_Assign_Attribute o x ap v p (eW k.e)]
 refine .stand (TE.bindS (E1 F k.p y) λu w1 n1 hh=>hh.casesOn λop rv q=>?_)
 show ST g w1 ((holding [u] (eval o g.env) >>=λov=>standAt ap.atName >>=λq0=>holding [u,ov] (setAttr ov x u) >>=λq0=>release [u,ov] []) >>=λq0=>pure Flow.next) Q X
 refine TS.fin (TE.bindS (.hold (E1 F q n1.k)) λov w2 n2 hh=>hh.casesOn λoo ro q=>.stand ?_)
 cases oo with
 | slf C=>
  obtain⟨b,rb,q⟩:=a9 (n2.opr rv) q
  obtain⟨ca,e1,q⟩:=ay q
  have co:=Fa.co _ _ _ e1
  cases ca with
  | field=>
   obtain⟨fs,e2,hz,q⟩:=ay q
   exact TS.rels (.hold (tK (RS:=sx Q) n2.k co ro rb e2 hz λq0 q1=>q))
  | _=>exact q.elim
 | _=>exact q.elim
theorem wL{c:Cx}{I:PH}{A:Around}{d:Addr}{l:List (Str×AV)}{k:Str}{t:Tok}{a:AV}{v:Value}{s:Shared}{Q:Unit->Shared->Prop}{E:Value->Shared->Prop}(hl:fA s.heap d (l.map (·.1)) (cH c.P I l))(ra:rep c.P I a v)(hz:l.length<=16777216)
  (q:∀h' tk,fA h' d ((bq l k a).map (·.1)) (cH c.P I (bq l k a))->Heap.SameBut d s.heap h'->Q () {s with heap:=h',toks:=tk}):wpAny c.M A (setItem (.ref d) (.str k t) v) Q E s:=by
 refine bp λGG1 hG1=>?_
 obtain⟨o,x,n,e1,e2,e3,e4,e5,e6,e7⟩:=hl
 obtain⟨kvs,D,m,r⟩:=eT (c:=c) e1 e2 e4 e5 e6
 refine hG1 ?_
 have hsz:kvs.length<=sizeLine:=by
  have:=congrArg List.length m
  rw[List.length_map,List.length_map]at this
  rw[sizeLine_eq,this];exact hz
 refine wpAny_setItem_pairs (knd:=strKind c.prog c.w) (k:=k) (hsz:=hsz) (by show(k==k)=true;exact beq_self_eq_true k) D λh' D' sb=>?_
 refine q h' _ ?_ sb
 refine bp λGG2 hG2=>?_
 obtain⟨o',es',n',f1,f2,f3,f4,f5,f6⟩:=D'
 refine hG2 ?_
 rw[kG (m▸e6)]at f5
 exact⟨o',es',n',f1,f2,f2.2.1,f3,rY (λe m=>f4 e (Array.mem_toList_iff.mp m)) f5 (jf ra ⟨m,r⟩),dX e6,e7⟩
theorem qg{o i v:Expr}{sp p:Pos}(F:aw f g.c g.n)(y:Ok g ρ w)(k:Gd (cg v) (f (.E g.sc v ρ w.S (λa S=>f (.E g.sc o ρ S (λb S=>f (.E g.sc i ρ S (λj S=>Gz b j a S λS=>Q .next ρ S) X)) X)) X))):ST g w (exec (.Assign [.Subscript o i sp] v p) g.env) Q X:=by
 rw[exec_Assign_Subscript o i sp v p (eW k.e)]
 refine .stand (TE.bindS (E1 F k.p y) λu w1 n1 hh=>hh.casesOn λop rv q=>?_)
 show ST g w1 ((holding [u] (eval o g.env) >>=λov=>holding [u,ov] (eval i g.env) >>=λiv=>standAt sp >>=λq0=>holding [u,ov,iv] (setItem ov iv u) >>=λq0=>release _ []) >>=λq0=>pure Flow.next) Q X
 refine TS.fin (TE.bindS (.hold (E1 F q n1.k)) λov w2 n2 hh=>hh.casesOn λoo ro q=>TE.bindS (.hold (E1 F q n2.k)) λiv w3 n3 hh=>hh.casesOn λoi ri q=>.stand ?_)
 cases oo with
 | loc j=>
  obtain⟨x,t,rfl,q⟩:=fw ri q
  obtain⟨b,rb,q⟩:=a9 (n3.opr (n2.opr rv)) q
  obtain⟨lo,e1,q⟩:=ay q
  obtain⟨a,ha,rfl⟩:=n3.opr ro
  have L:=n3.k.loc _ a _ ha e1
  cases lo with
  | dict l=>
   refine TS.rels (.hold λQ' E z1 q0=>.of (wL (c:=g.c) (s:=g.at w3) L rb q.1 λh4 tk4 L4 sb=>?_))
   obtain⟨o4,_,_,e4,_⟩:=id L4
   exact z1 _ ρ _ (Nx.turnLoc (tk:=tk4) (lo:=.dict (bq l x b)) n3.k ha sb ⟨_,e4⟩ L4).nt q.2
  | _=>exact q.elim
 | _=>exact q.elim
theorem yy{es:List Expr}{K:Str->Str->Prop}(k:vE es K):∃x px y py,es=[.Name x px,.Name y py]/\K x y:=by
 obtain _|⟨a,_|⟨b,_|_⟩⟩:=es
 ·exact k.elim
 ·exact k.elim
 ·obtain⟨x,px,rfl,k1⟩:=gc k
  obtain⟨y,py,rfl,k2⟩:=gc k1
  exact⟨x,px,y,py,rfl,k2⟩
 ·exact k.elim
theorem AR{t v:Expr}{p:Pos}(Fa:aH g.c T)(F:aw f g.c g.n)(N:cQ f)(y:Ok g ρ w)(k:F6 f g.c T g.sc t v ρ w.S Q X):ST g w (exec (.Assign [t] v p) g.env) Q X:=by
 cases t with
 | Name x xp=>exact qZ Fa F N y k
 | Tuple es ct tp=>obtain⟨x,px,z,pz,rfl,k⟩:=yy k;exact nV F y k
 | Attribute o x ap=>exact pA Fa F y k
 | Subscript o i sp=>exact qg F y k
 | _=>exact k.elim
end
section
variable {T:aB}{g:Fr}{ρ ρ0 ρ1 ρ2:aa}{w w0 w1 w':W}{cs:Scope}{Q:Fo->aa->St->Prop}{X:aa->St->Prop}{f:fe->Prop}{a:Addr}{h':Heap}{tk:Nat}
theorem fU{α:Type}{t:Sem α}{R:α->W->Prop}(hc:g.c.clean=false)(x:TE g ρ w t R X)(Q:α->Shared->Prop)(E:Value->Shared->Prop)(q:∀a w',Nx g ρ w w'->R a w'->Q a (g.at w'))(z:∀e w',Nx g ρ w w'->pP w.h w'.h e->X ρ w'.S->E e (g.at w')):wpAny g.c.M g.A t Q E (g.at w):=by
 have:=x Q E q z
 rw[hc]at this;exact this.any
theorem rW{out x:Str}{i:Nat}(ho:out.length<=1000*i)(hx:x.length<=1000):(out++x).length<=1000*(i+1):=by rw[strLen_append];exact uC 0x2443fa21000c00007d088001823e880000c ho hx
theorem kL{a:Int}{n:Nat}(h:0<=a)(k:a<(n:Nat)):a.natAbs<n:=Int.ofNat_lt.mp (by rw[Int.natAbs_of_nonneg h];exact k)
theorem Ay{e:Expr}{S:St}{K:St->Prop}(k:oY f g.sc ρ e S K X):(∃s ci p,e=.Constant (.str s) ci p/\s.length<=1000/\K S)\/∃e' cv sp p,e=.FormattedValue e' cv sp p/\Gd (decide (cv=115)&&sp.isNone) (f (.E g.sc e' ρ S (λa S=>fc a λa=>l9 a (K S)) X)):=by
 by_cases h:e.ctorIdx=19
 ·refine .inl (Expr.Constant.elim (motive_1:=λe=>oY f g.sc ρ e S K X->∃s ci p,e=.Constant (.str s) ci p/\s.length<=1000/\K S) e h (λc ci p k=>?_) k)
  cases c with
  | str s=>exact⟨s,ci,p,rfl,k⟩
  | _=>exact k.elim
 by_cases h2:e.ctorIdx=17
 ·exact .inr (Expr.FormattedValue.elim (motive_1:=λe=>oY f g.sc ρ e S K X->∃e' cv sp p,e=.FormattedValue e' cv sp p/\Gd (decide (cv=115)&&sp.isNone) (f (.E g.sc e' ρ S (λa S=>fc a λa=>l9 a (K S)) X))) e h2 (λe cv sp p k=>⟨e,cv,sp,p,rfl,k⟩) k)
 ·exact((dif_neg h2).mp ((dif_neg h).mp k)).elim
theorem yZ{a:AV}{K:Prop}(k:l9 a K):(∃n,a=.int n/\0<=n/\n<10^10/\K)\/∃x,a=.str x/\x.length<=1000/\K:=by
 cases a with
 | int n=>exact .inl ⟨n,rfl,k⟩
 | str x=>exact .inr ⟨x,rfl,k⟩
 | _=>exact k.elim
theorem yB(hc:g.c.clean=false)(F:aw f g.c g.n){es:List Expr}:∀{w:W} {out:Str} {i:Nat} {K:St->Prop} {Q' E:Value->Shared->Prop},Ok g ρ w->gX f g.sc ρ es w.S K X->out.length<=1000*i->i+es.length<64->
  (∀T u w',Nx g ρ w w'->K w'.S->Q' (.str T u) (g.at w'))->(∀e w',Nx g ρ w w'->pP w.h w'.h e->X ρ w'.S->E e (g.at w'))->wpAny g.c.M g.A (joinParts out (evalEach es g.env)) Q' E (g.at w):=by
 induction es with
 | nil=>intro w out i K Q' E y k ho hi z1 z2;exact joinParts_nil (z1 _ _ ⟨w.I,w.loc,w.S,w.h,_⟩ (.grows y (.refl _)) k) (by rw[sizeLine_eq];omega)
 | cons e r ih=>
  intro w out i K Q' E y k ho hi z1 z2
  have hi:i+(r.length+1)<64:=hi
  show wpAny g.c.M g.A (joinParts out (eval e g.env::evalEach r g.env)) _ _ _
  refine joinParts_cons ?_
  have k:oY f g.sc ρ e w.S (λS=>gX f g.sc ρ r S K X) X:=k
  have next:∀{w1:W} {x:Str},Nx g ρ w w1->gX f g.sc ρ r w1.S K X->x.length<=1000->(out++x).length<=sizeLine/\wpAny g.c.M g.A (joinParts (out++x) (evalEach r g.env)) Q' E (g.at w1):=λ{w1 x} n1 q hx=>
   ⟨by have:=rW ho hx;rw[sizeLine_eq];omega,ih n1.k q (rW ho hx) (by exact uB 0x202048804806d800001010241221806c00c hi) (λT u w2 n2=>z1 T u w2 (n1.trans n2)) λe w2 n2 x2=>z2 e w2 (n1.trans n2) (x2.back λq0=>n1.t.no)⟩
  rcases Ay k with⟨s,ci,p,rfl,k⟩|⟨e,cv,sp,p,rfl,k⟩
  ·exact fU hc (kY (c:=.str s) (X:=X) (Q:=λo S'=>o=.v (.str s)/\S'=w.S) y ⟨rfl,rfl⟩) _ _ (λv w1 n1 ⟨op,r1,e1,e2⟩=>by
     subst e1
     obtain⟨u,rfl⟩:=r1
     exact next n1 (e2▸k.2) k.1) z2
  ·have ke:=Bool.and_eq_true_iff.mp (Gd.e k)
   have k:=Gd.p k
   cases of_decide_eq_true ke.1
   cases sp with
   | some _=>cases ke.2
   | none=>
    refine wpAny_FormattedValue_s (fU hc (E1 F k y) _ _ (λv w1 n1 hh=>hh.casesOn λop ro q=>?_) z2)
    obtain⟨av,ro,q⟩:=a9 ro q
    have tk1:∀tk,Nx g ρ w ⟨w1.I,w1.loc,w1.S,w1.h,tk⟩:=λtk=>n1.trans (.grows n1.k (.refl _))
    rcases yZ q with⟨a,rfl,h0,h1,q⟩|⟨x,rfl,q1,q⟩
    ·obtain⟨u,rfl⟩:=ro
     have hl:a.natAbs.log2<1920:=by
      by_cases z:a.natAbs=0
      ·rw[z];decide
      ·exact Nat.lt_trans ((Nat.log2_lt z).mpr (Nat.lt_trans (kL h0 h1) (show 10^10<2^34 by decide))) (by decide)
     have hx:(Str.ofString (toString a)).length<=1000:=by
      have e:=int_text_length_le10 (k:=10) (a:=a) (by decide) (kL h0 h1)
      rw[PySem.ofString_length];exact uA 0x1f42000125160000c e
     exact pyStrObj_int hl (formatField_str (λt' tk=>next (tk1 _) q hx) (by rw[sizeLine_eq];exact uA 0x80000020000003e840000c hx))
    ·obtain⟨u,rfl⟩:=ro
     have qs:x.length<=sizeLine:=Nat.le_trans q1 (by decide)
     exact habitSame_str (λt1 tk=>formatField_str (λt' tk=>next (tk1 _) q q1) qs) qs
theorem BA(u:Ty)(h:Nat.beq u.nr 11=true):u=.typeErr:=by cases u<;>first|rfl|cases h
theorem u4{nm:Str}{gp cp p jp:Pos}{es:List Expr}(Fa:aH g.c T)(F:aw f g.c g.n)(y:Ok g ρ w)(hc:g.c.clean=false)(ok:(cG T g.sc nm 11&&(Nat.blt 1 es.length&&Nat.blt es.length 16))=true)(k:gX f g.sc ρ es w.S (λS=>X ρ S) X):
  ST g w (exec (.Raise (some (.Call (.Name nm gp) [.JoinedStr es jp] [] cp)) none p) g.env) Q X:=λQ' E z1 z2=>by
 obtain⟨kte,ok⟩:=Bool.and_eq_true_iff.mp ok
 obtain⟨l1,l2⟩:=Bool.and_eq_true_iff.mp ok
 have l1:=Nat.blt_eq.mp l1
 have l2:=Nat.blt_eq.mp l2
 have any0:(backTo cp (starEach [.JoinedStr es jp] g.env)).any (·.1)=false:=by rw[bJ cp _ rfl];exact aT _
 refine .of (wpAny_Raise_call PySem.F.excCall_TypeError PySem.F.excRaise_TypeError y.fr.a.handled any0 ?_)
 refine fU hc (ek (p:=gp) (X:=X) Fa.gl y (fF (t:=.typeErr) BA kte)) _ _ (λvf w1 n1 ⟨op,rf,e1,es1⟩=>?_) λe w' n x q=>z2 e ρ w' n.nt x q
 subst e1
 have rf:vf=.type "TypeError":=rf
 subst rf
 refine⟨rfl,?_⟩
 have text:ET g ρ w1 (eval (.JoinedStr es jp) g.env) (λo S=>(∃T,o=.v (.str T))/\X ρ S) X:=λQ1 E1 q1 q2=>by
  refine .of ?_
  obtain _|⟨a,_|⟨b,r⟩⟩:=es
  ·exact absurd l1 (Nat.not_lt_zero 1)
  ·exact absurd l1 (Nat.lt_irrefl 1)
  ·exact JoinedStr_many (yB (es:=a::b::r) hc F (out:=Str.empty) (i:=0) n1.k (es1▸k) (by decide) (by exact uA 0x202048000b61020900c00c l2) (λT u w2 n2 q=>q1 _ w2 n2 ⟨.v (.str T),⟨u,rfl⟩,⟨T,rfl⟩,q⟩) q2)
 rw[bJ cp _ rfl]
 have A:AT g ρ w1 (spliced (jl g [.JoinedStr es jp])) (λops S=>(∃T,ops=[.v (.str T)])/\X ρ S) X:=spliced_cons text λop w2 n2 ⟨⟨T,e⟩,q⟩=>spliced_nil n2.k ⟨⟨T,by rw[e]⟩,q⟩
 let Post:Args->Shared->Prop:=λa s₂=>a.kw=[]/\a.pos.length<=sizeLine/\∀h' e,Heap.MadeExc s₂.heap h' e "TypeError" a.pos->E (.ref e) {s₂ with heap:=h'}
 have fin:a6 g.c.clean g.c.M g.A (PySem.evalArgs (.type "TypeError") true (jl g [.JoinedStr es jp]) []) Post E (g.at w1):=dM (aT _) (A _ _ (λvs w2 n2 ⟨ops,ro,⟨T,eo⟩,q⟩=>by
  subst eo
  obtain⟨_,_,rfl,⟨u,rfl⟩,rfl⟩:=ro
  refine⟨rfl,(by show 1<=sizeLine;decide),λh' e hm=>?_⟩
  have gr:Grows w2.h h':=hm.keeps
  obtain⟨tt,e1,_,_⟩:=hm.there
  exact z2 _ ρ ⟨w2.I,w2.loc,w2.S,h',w2.tk⟩ ((n1.trans n2).trans (.grows n2.k gr)).nt (.inl ⟨e,_,_,rfl,(n1.trans n2).t.no hm.new,e1,rfl,rfl,rfl⟩) q) λe w2 n2 x q=>z2 e ρ w2 (n1.trans n2).nt (x.back λq0=>n1.t.no) q)
 rw[hc]at fin;exact fin.any
end
section
variable {M:Model}{A:Around}{E:Value->Shared->Prop}{s:Shared}{env:Env}
theorem oR{body orelse:Sem Flow}{h₀:ExceptHandler}{hs:List ExceptHandler}{Q:Flow->Shared->Prop}
  (h:wpAny M A body (λf s₁=>match f with|.next=>wpAny M A orelse Q E s₁|f=>Q f s₁)
   (λe s₁=>wpAny M A (leaving env e) (λq0 s₃=>wpAny M A (handleBy e env (h₀::hs)) Q E s₃) E s₁) s):
  wpAny M A (tryStmt false body (h₀::hs) orelse [] env) Q E s:=by
 refine wpAny_bind (m:=body.attempt) (wpAny_attempt (wpAny_mono h (λf s₁ h₁=>?_) λe s₁ h₁=>?_))
 ·cases f<;>first|exact h₁|exact wpAny_pure h₁
 ·intro Γ p hΓ
  have:=h₁ Γ p hΓ
  unfold leaving at this
  rw[Sem.wp_bind']at this
  show Sem.wp M Γ (noteFrame e env >>=λq0=>setFlight e Option.none >>=λq0=>handleBy e env (h₀::hs)) _ _ _ _
  rw[Sem.wp_bind']
  refine Sem.wp_mono M Γ _ (λq0 p' s' z=>?_) (λq0 q1 q2 z=>z) p s₁ this
  rw[Sem.wp_bind']
  exact Sem.wp_mono M Γ _ (λq0 p'' s'' z=>z Γ p'' hΓ) (λq0 q1 q2 z=>z) p' s' z
end
theorem xZ:isSubtype (.type ((Manifest.find? "TypeError").elim "type" λx=>x.metatype)) (.type "tuple")=pure false:=by
 have e:((Manifest.find? "TypeError").elim "type" λx=>x.metatype)="type":=by decide +kernel
 rw[e,isSubtype_type];kernel_rfl
theorem Hk:isSubtype (.type "TypeError") (.type "TypeError")=pure true:=by rw[isSubtype_type];kernel_rfl
section
variable {T:aB}{g:Fr}{ρ ρ0 ρ1 ρ2:aa}{w w0 w1 w':W}{cs:Scope}{Q:Fo->aa->St->Prop}{X:aa->St->Prop}{f:fe->Prop}{a:Addr}{h':Heap}{tk:Nat}
theorem hO{e:Expr}{p:Pos}(F:aw f g.c g.n)(y:Ok g ρ w)(k:f (.E g.sc e ρ w.S (λq0 q1=>False) X)):ST g w (exec (.Raise (some e) none p) g.env) Q X:=by
 rw[arm_exec_Raise]
 refine .stand ?_
 show ST g w (raiseStmt g.env (some (eval e g.env >>=λv=>standAt p >>=λq0=>pure v)) none) Q X
 unfold raiseStmt
 exact TS.bind (RS:=λq0 q1 q2=>False) (TE.bindS (E1 F k y) λv w1 n1 ⟨op,r,q⟩=>q.elim) λq0 q1 q2 q3 q=>q.elim
theorem Nt.exc(y:Ok g ρ0 w)(n:Nt g ρ w w1)(kp:∀b o,w1.h.get? b=some o->(w.h.get? b≠none\/∀vs,o.data≠.fields vs)->gd (bh g.all) [] h' b o):Nt g ρ w ⟨w1.I,w1.loc,w1.S,h',tk⟩:=by
 have k:=n.k
 have was:∀{b},b∈g.own\/b∈g.sl.as->w.h.get? b≠none:=λm=>(y.live _ (m.elim Fr.mo Fr.ms)).elim λq0 e=>dG e
 have same:∀{b o},w1.h.get? b=some o->(w.h.get? b≠none\/∀vs,o.data≠.fields vs)->b∉bh g.all->h'.get? b=some o:=λe q nf=>by
  cases kp _ _ e q with|mk o2 e2 l2=>exact(l2 nofun).eq nf▸e2
 have live:∀{b o},w1.h.get? b=some o->(w.h.get? b≠none\/∀vs,o.data≠.fields vs)->∃o,h'.get? b=some o:=λe q=>by
  cases kp _ _ e q with|mk o2 e2 l2=>exact⟨o2,e2⟩
 have locO:∀{b o},b∈w1.loc->w1.h.get? b=some o->∀vs,o.data≠.fields vs:=λ{b o} m e=>by
  obtain⟨i,hi,ei⟩:=List.mem_iff_getElem.mp m
  obtain⟨o',e',ff,_⟩:=ly (k.loc i b _ (by rw[List.getElem?_eq_getElem hi,ei]) (List.getElem?_eq_getElem (by rw[k.len];exact hi)))
  cases aM e e'
  exact ff
 refine⟨⟨n.t.le,n.t.new,λb o e=>?_,n.t.locnew⟩,k.fr,k.base,λb o e=>same (k.imm b o e) ((k.nof b o e).imp_left λq=>dG (y.keep0 b o q)) λz=>sn e (k.fI b z),k.nof,k.nodup,k.apart,k.vars.mono (w:=w1) (w':=⟨w1.I,w1.loc,w1.S,h',tk⟩) (fs:=bh g.all) (xs:=[]) (.refl _) (List.prefix_refl _) (λb o m e=>kp b o e (.inl (was (.inl m)))) (λq0 q1=>nofun),
  λi b lo e1 e2=>(k.loc i b lo e1 e2).mono (.refl _) λo e=>same e (.inr (locO (List.mem_of_getElem? e1) e)) λz=>k.loc_f (List.mem_of_getElem? e1) z,k.len,k.sh.mono (.refl _) λb m o e=>same e (.inl (was (.inr m))) λz=>k.f_s z m,
  λb m=>(k.live b m).elim λo e=>(Fr.mem.mp m).elim (λm=>live e (.inl (was (.inl m)))) λm=>m.elim (λm=>live e (.inr (locO m e))) λm=>live e (.inl (was (.inr m))),bf (λL m o e nf=>by cases kp L o e (.inr nf)with|mk o2 e2 l2=>exact⟨o2,e2,λvs z=>nf vs ((l2 nofun).like.d▸z)⟩) k.frames,k.fapart,k.fI⟩
 cases n.t.kept b o e with|mk o1 e1 l1=>
 cases kp b o1 e1 (.inl (dG e))with|mk o2 e2 l2=>exact⟨o2,e2,λz=>(l1 z).trans (l2 nofun)⟩
theorem uf{α:Type}{t:Sem α}{R:α->aa->W->Prop}(hc:g.c.clean=false)(x:TS g w t R X)(Q:α->Shared->Prop)(E:Value->Shared->Prop)(q:∀a ρ w',Nt g ρ w w'->R a ρ w'->Q a (g.at w'))(z:∀e ρ w',Nt g ρ w w'->pP w.h w'.h e->X ρ w'.S->E e (g.at w')):wpAny g.c.M g.A t Q E (g.at w):=by
 have:=x Q E q z
 rw[hc]at this;exact this.any
theorem oX{A:Around}{x:Str}{av:AV}{Q':Value->Shared->Prop}{E:Value->Shared->Prop}(k:Ok g ρ w)(n:g.sc.names.lookup x=some .globalImplicit)(i:iZ g.c x av)(q:∀v,rep g.c.P w.I av v->Q' v (g.at w)):wpAny g.c.M A (loadName g.env x) Q' E (g.at w):=by
 cases i with|mk v hv r=>
 rw[loadName_read k.kind (k.kindOf n)]
 have G:w.h.Ns g.env.globals g.c.mg:=k.fr.globals▸g.c.g.keeps k.keep0
 have fin:=q v (r w.I k.base)
 exact hv.elim (λhv=>loadGlobal_global (s:=g.at w) G hv fin) λhv=>loadGlobal_builtin (s:=g.at w) G hv.1 (k.fr.bl▸g.c.b.keeps k.keep0) hv.2 fin
theorem qx{sc:Scope}{nm:Str}(k:cG T sc nm 11=true):gM nm=true/\sc.names.lookup nm=some .globalImplicit/\T.gl nm=some (.ty .typeErr):=by
 obtain⟨k1,k2⟩:=Bool.and_eq_true_iff.mp k
 obtain⟨k2,k3⟩:=Bool.and_eq_true_iff.mp k2
 refine⟨k3,?_,?_⟩
 ·unfold qi at k1
  rw[cR]at k1
  cases h:jr (sc.names.lookup nm)with
  | glob=>exact so h
  | _=>rw[h]at k1;cases k1
 ·cases h2:T.gl nm with
  | none=>rw[h2]at k2;cases k2
  | some a=>
   rw[h2]at k2
   cases a with
   | ty u=>rw[BA u k2]
   | _=>cases k2
theorem DR{nm:Str}{gp cp rp hp p:Pos}{ci:Nat}{b:Bool}{body:List Stmt}(Fa:aH g.c T)(F:aw f g.c g.n)(y:Ok g ρ w)(wh:cC g)(hc:g.c.clean=false)(kte:cG T g.sc nm 11=true)(k:f (.B g.sc body ρ w.S Q (λρ S=>Q (.ret (.v (.bool b))) ρ S))):
  ST g w (exec (.Try body [.ExceptHandler (some (.Name nm gp)) none [.Return (some (.Constant (.bool b) ci cp)) rp] hp] [] [] p) g.env) Q X:=by
 rw[arm_exec_Try]
 refine .stand λQ' E z1 z2=>.of (oR ?_)
 refine uf hc (B1 F k y wh) _ _ (λfl ρ1 w1 n1 ⟨fo,rf,q⟩=>?_) λe ρ1 w1 n1 x1 q1=>?_
 ·cases fo with
  | next=>cases rf;exact wpAny_execs_nil (z1 _ ρ1 w1 n1 ⟨.next,rfl,q⟩)
  | brk=>cases rf;exact z1 _ ρ1 w1 n1 ⟨.brk,rfl,q⟩
  | cont=>cases rf;exact z1 _ ρ1 w1 n1 ⟨.cont,rfl,q⟩
  | ret o=>obtain⟨v,rfl,rv⟩:=rf;exact z1 _ ρ1 w1 n1 ⟨.ret o,⟨v,rfl,rv⟩,q⟩
 ·obtain⟨outer,ea⟩:=wh
  have fr:w1.h.FunFrames g.c.H0 (g.env::outer):=ea▸n1.k.frames
  obtain⟨L,hf⟩:∃L,g.env.frame=some L:=by obtain⟨_,⟨L,o,f1,_⟩,_⟩:=fr;exact⟨L,f1⟩
  refine kP (c:=g.c) (A:=g.A) (outer:=outer) (tk:=w1.tk) x1 (λa e=>n1.t.no e) (ea▸y.fr.a.frames) fr hf λh2 x2 kp=>?_
  rw[<-ea]at kp
  obtain⟨ad,oe,vs,T1,oT,ts,rfl,ha,he,hcl,hd,hv1,nT,nTa,hT,hdT,ht3⟩:=x2
  have n2:Nt g ρ1 w ⟨w1.I,w1.loc,w1.S,h2,w1.tk⟩:=.exc y n1 kp
  refine wpAny_handleBy_builtin PySem.F.excRaise_TypeError.isExc xZ Hk ?_
  obtain⟨nd,lk,gl⟩:=qx kte
  rw[eval_Name g.env nm gp (fN nd)]
  refine wpAny_bind (wpAny_standAt (oX (w:=⟨w1.I,w1.loc,w1.S,h2,w1.tk⟩) n2.k lk (Fa.gl _ _ gl) λv rv=>?_))
  have rv:v=.type "TypeError":=rv
  refine⟨rv,⟨oe,he,hcl⟩,?_⟩
  simp only[if_true]
  refine wpAny_setFlight_none he hd hv1 hT hdT (Array.getElem?_eq_some_iff.mp ht3).1 ?_
  have n3:Nt g ρ1 w ⟨w1.I,w1.loc,w1.S,h2.update T1 (Obj.mapFields (·.setIfInBounds 3 .none)),w1.tk⟩:=Nt.exc (w1:=⟨w1.I,w1.loc,w1.S,h2,w1.tk⟩) y n2 λb o e cd=>by
   have nb:b≠T1:=λz=>by
    subst z
    cases aM hT e
    exact cd.elim (λcd=>cd nT) λcd=>cd _ hdT
   exact⟨o,(Heap.get?_update_other _ _ (Ne.symm nb)).trans e,λq0=>.rfl'⟩
  have e5:exec (.Return (some (.Constant (.bool b) ci cp)) rp) g.env=(standAt rp >>=λq0=>pure (Flow.ret (.bool b))):=rfl
  rw[execs_cons,e5]
  exact wpAny_bind (wpAny_bind (wpAny_standAt (wpAny_pure (wpAny_pure (z1 _ ρ1 _ n3 ⟨.ret (.v (.bool b)),⟨_,rfl,rfl⟩,q1⟩)))))
end
section
variable {T:aB}{g:Fr}{ρ ρ0 ρ1 ρ2:aa}{w w0 w1 w':W}{cs:Scope}{Q:Fo->aa->St->Prop}{X:aa->St->Prop}{f:fe->Prop}{a:Addr}{h':Heap}{tk:Nat}
theorem eQ{α:Type}{l:List α}(e:l.isEmpty=true):l=[]:=by cases l<;>first|rfl|cases e
theorem gI{α:Type}{o:Option α}(e:o.isNone=true):o=none:=by cases o<;>first|rfl|cases e
theorem Av{e:Expr}{K:Bool->Prop}(k:vk e K):∃b ci p,e=.Constant (.bool b) ci p/\K b:=by
 by_cases h:e.ctorIdx=19
 ·refine Expr.Constant.elim (motive_1:=λe=>vk e K->∃b ci p,e=.Constant (.bool b) ci p/\K b) e h (λc ci p k=>?_) k
  cases c with
  | bool b=>exact⟨b,ci,p,rfl,k⟩
  | _=>exact k.elim
 ·exact((dif_neg h).mp k).elim
theorem DA{s:Stmt}{K:Expr->Prop}(k:C4 s K):∃e p,s=.Return (some e) p/\K e:=by
 by_cases h:s.ctorIdx=3
 ·refine Stmt.Return.elim (motive_2:=λs=>C4 s K->∃e p,s=.Return (some e) p/\K e) s h (λo p k=>?_) k
  obtain⟨e,rfl,k⟩:=ay (o:=o) k
  exact⟨e,p,rfl,k⟩
 ·exact((dif_neg h).mp k).elim
inductive F2(K:Str->Bool->Prop):ExceptHandler->Prop
 | mk (nm:Str) (gp cp rp hp:Pos) (ci:Nat) (b:Bool) (k:K nm b):F2 K (.ExceptHandler (some (.Name nm gp)) none [.Return (some (.Constant (.bool b) ci cp)) rp] hp)
theorem Eo{h:ExceptHandler}{K:Str->Bool->Prop}(k:GW h K):F2 K h:=by
 cases h with|ExceptHandler t n body hp=>
 obtain⟨t,rfl,k⟩:=ay k
 obtain⟨nm,gp,rfl,k⟩:=gc k
 have k2:=Gd.p k
 have e:=gI (Gd.e k)
 subst e
 obtain _|⟨s,_|_⟩:=body
 ·exact k2.elim
 ·obtain⟨e,rp,rfl,k3⟩:=DA k2
  obtain⟨b,ci,cp,rfl,k4⟩:=Av k3
  exact⟨nm,gp,cp,rp,hp,ci,b,k4⟩
 ·exact k2.elim
theorem Bd{e:Expr}{p:List Expr->Prop}{q:Prop}(k:yz e p q):(∃es jp,e=.JoinedStr es jp/\p es)\/q:=by
 by_cases h:e.ctorIdx=18
 ·exact .inl (Expr.JoinedStr.elim (motive_1:=λe=>yz e p q->∃es jp,e=.JoinedStr es jp/\p es) e h (λa b k=>⟨a,b,rfl,k⟩) k)
 ·exact .inr ((dif_neg h).mp k)
theorem v8{e:Expr}{p:Pos}(Fa:aH g.c T)(F:aw f g.c g.n)(y:Ok g ρ w)(k:vz f g.c T g.sc e ρ w.S X):ST g w (exec (.Raise (some e) none p) g.env) Q X:=by
 rcases lO k with⟨r,rp,x,pos,rfl,k⟩|k
 ·rcases Bd k with⟨es,jp,rfl,k⟩|k
  ·have hc:=k.e
   exact u4 Fa F y (by cases h:g.c.clean<;>first|rfl|(rw[h]at hc;cases hc)) k.p.e k.p.p
  ·exact hO F y k
 ·exact hO F y k
theorem yf{s:Stmt}(Fa:aH g.c T)(F:aw f g.c g.n)(N:cQ f)(y:Ok g ρ w)(wh:cC g)(k:BE f g.c T g.n g.sc s ρ w.S Q X):ST g w (exec s g.env) Q X:=by
 cases s with
 | Expr e p=>exact zB F y k
 | Assign ts v p=>
  obtain _|⟨t,_|_⟩:=ts
  ·exact k.elim
  ·exact AR Fa F N y k
  ·exact k.elim
 | AugAssign t op v p=>
  obtain⟨x,xp,rfl,k⟩:=gc k
  exact D7 Fa F y k
 | Return e p=>
  cases e with
  | some e=>exact Es F y k
  | none=>
   show ST g w (standAt p >>=λq0=>pure (.ret .none)) Q X
   exact .stand (ST.flow (fo:=.ret (.v .none)) y ⟨.none,rfl,rfl⟩ k)
 | If t b o p=>exact DW F y wh k
 | For t it body els p=>
  obtain⟨x,xp,rfl,k⟩:=gc k
  have k2:=Gd.p k
  have e:=eQ (Gd.e k)
  subst e
  exact Au Fa F N y wh k2
 | While t body els p=>
  have k2:=Gd.p k
  have e:=eQ (Gd.e k)
  subst e
  exact yl F y wh k2
 | Assert t m p=>
  have k2:=Gd.p k
  have e:=gI (Gd.e k)
  subst e
  exact uj F y k2
 | Raise e cz p=>
  have k2:=Gd.p k
  have ec:=gI (Gd.e k)
  subst ec
  obtain⟨e,rfl,k3⟩:=ay k2
  exact v8 Fa F y k3
 | Try body hs els fin p=>
  obtain _|⟨h,_|_⟩:=hs
  ·exact k.elim
  ·have hc:=Gd.e k
   have k2:=Gd.p k
   obtain⟨e1,e2⟩:=Bool.and_eq_true_iff.mp (Gd.e k2)
   have k3:=Eo (Gd.p k2)
   have e1:=eQ e1
   have e2:=eQ e2
   subst e1 e2
   cases k3 with|mk nm gp cp rp hp ci b k4=>
   exact DR Fa F y wh (by cases h:g.c.clean<;>first|rfl|(rw[h]at hc;cases hc)) k4.e k4.p
  ·exact k.elim
 | _=>exact k.elim
end
theorem uH{f:fe->Prop}{c:Cx}{T:aB}{n:Nat}{sc:Scope}{ρ:aa}{S:St}{Q:Op->St->Prop}{X:aa->St->Prop}{op:CmpOp}{e:Expr}(q:rO f c T n sc e ρ S Q X):behindInMarks op e=false:=by
 cases e<;>first|rfl|exact(show False from q).elim
structure D4(f:fe->Prop)(c:Cx)(n:Nat):Prop where
 s:aw f c n
 n:cQ f
 p:Plain f
theorem zG{f:fe->Prop}{c:Cx}{T:aB}{n:Nat}(Fa:aH c T)(H:D4 f c n):D4 (step f c T n) c n:=by
 obtain⟨F,N,P⟩:=H
 refine⟨λg w j ec en q=>?_,⟨λq0 q1 q2 q3 q4 q5 q6 q7 q=>q,λq0 q1 q2 q3 q4 q5 q6 q=>q⟩,λsc e ρ S Q X op q=>uH (op:=op) (show rO f c T n sc e ρ S Q X from q)⟩
 subst ec en
 cases j with
 | E sc e ρ S Q X=>intro es eS y;subst es eS;exact xN Fa F N y q
 | T sc e ρ S K X=>intro es eS y;subst es eS;exact yA F y q
 | C sc a ops cs ρ S K X=>intro es eS y va p ra;subst es eS;exact xU F P y q ra
 | A sc op es' ρ S K X=>intro es eS y;subst es eS;exact wW F y q
 | V sc op es' ρ S Q X=>intro es eS y p;subst es eS;exact zd F y q
 | L sc es' ρ S K X=>intro es eS y;subst es eS;exact yN F y q
 | S sc s ρ S Q X=>intro es eS y wh;subst es eS;exact yf Fa F N y wh q
 | B sc ss ρ S Q X=>intro es eS y wh;subst es eS;exact y0 F y wh q
theorem fW{c:Cx}{T:aB}{n:Nat}(Fa:aH c T)(k:Nat):D4 (ev c T n k) c n:=by
 induction k with
 | zero=>exact⟨λq0 q1 q2 q3 q4 q=>q.elim,⟨λq0 q1 q2 q3 q4 q5 q6 q7 q=>q,λq0 q1 q2 q3 q4 q5 q6 q=>q⟩,λq0 q1 q2 q3 q4 q5 q6 q=>q.elim⟩
 | succ k ih=>exact zG Fa ih
theorem sJ{c:Cx}{T:aB}{n:Nat}(Fa:aH c T){fa:Addr}{cd:Value}{k:Nat}{body:List Stmt}{sc:Scope}{cl:List (Str×Addr)}{ρ:aa}{sh:Sh}{Q:AV->Sh->Prop}{X:Sh->Prop}(q:ev c T n k (.B sc body ρ ⟨sh,[]⟩ (dk Q) (λq0 S=>X S.sh))):kJ c n fa cd body sc cl ρ sh Q X:=
 λg I h tk ec en es q0 q1 q2 q3 wh y R E z1 z2=>((fW Fa k).s g _ _ ec en q es rfl y wh R E z1 z2).at
structure eO(c:Cx)(fa:Addr)(cd:Value)(sc:Scope)(cl:List (Str×Addr))(C D f2:Addr)(me:Str):Prop where
 fn:∃o fd ar,c.H0.get? fa=some o/\o.data=.func fd/\(fd.params.posonlyargs++fd.params.args).head?=some ar/\ar.arg=me
 code:∃cda o vs file t,cd=.ref cda/\c.H0.get? cda=some o/\o.data=.fields vs/\vs[2]? =some (.str file t)/\((c.prog.main.file:Str)==file)=true
 cell:∃cc o,cl.lookup ("__class__" :Str)=some cc/\c.H0.get? cc=some o/\o.data=.cell (some (.ref D))
 cls:∃o cdD,c.H0.get? D=some o/\o.data=.cls cdD
 sub:mroIn c.K C (.ref D)=some true
 opq:nsIn c.K cStatics "thirdparty.any" =some none
 meth:∃cdC,clsIn c.K C=some cdC/\alongIn c.K "__init__" ((cdC.mro.dropWhile (· != .ref D)).drop 1)=some (some (.ref f2))
 clsC:∃o cdC,c.H0.get? C=some o/\o.data=.cls cdC
 ty:∃o fd,c.H0.get? f2=some o/\o.cls=.type "function" /\o.data=.func fd
 top:(c.prog.main.scope.names.lookup ("super" :Str)).isSome=false
 ks:sc.names.lookup ("super" :Str)=some .globalImplicit
 kc:sc.names.lookup ("__class__" :Str)=some .free
 ka:sc.names.lookup me=some .local
noncomputable abbrev xb(p0 p1 ap cp ep:Pos)(args:List Expr):Stmt:=.Expr (.Call (.Attribute (.Call (.Name "super" p0) [] [] p1) "__init__" ap) args [] cp) ep
section
variable {T:aB}{g:Fr}{ρ ρ0 ρ1 ρ2:aa}{w w0 w1 w':W}{P:aa->St->Prop}{X:aa->St->Prop}{f:fe->Prop}
theorem yg{fa C D f2:Addr}{cd:Value}{me:Str}{args:List Expr}{p0 p1 ap cp ep:Pos}{body:List Stmt}(hc:g.c.clean=false)(F:aw f g.c g.n)(y:Ok g ρ w)(SA:eO g.c fa cd g.sc g.cl C D f2 me)
  (ef:g.env.func=some fa) (ec:g.env.code=cd) (ecl:∀x a,g.cl.lookup x=some a->g.env.cells.lookup x=some a) (gs:iZ g.c "super" (.ty .super)) (hv:aG ρ me=some (.slf C)) (ns:args.all noStar=true) (len:Nat.blt args.length 20=true) (pe:Nat.beq ap.endLine cp.line=true)
  (k:f (.L g.sc args ρ w.S (λops S=>Gd (!ops.any Op.isLoc) (cA g.c g.n f2 (.slf C::ops) [] ρ S (λq0 S=>P ρ S) X)) X)) {R:Flow->Shared->Prop} {E:Value->Shared->Prop}
  (z1:∀w',Nx g ρ w w'->P ρ w'.S->R .next (g.at w')) (z2:∀e w',Nx g ρ w w'->pP w.h w'.h e->X ρ w'.S->E e (g.at w')):
  gZ g.c.clean g.c.M g.A (.func body g.env) (exec (xb p0 p1 ap cp ep args) g.env) R E (g.at w):=by
 suffices h:PySem.wpAt g.c.M g.A (.func body g.env) (exec (xb p0 p1 ap cp ep args) g.env) R E (g.at w)fromλΓ p e i q0=>h Γ p e i
 refine bp λGG1 hG1=>?_
 obtain⟨of,fd,ar,hf,hfd,hp,har⟩:=SA.fn
 obtain⟨cda,oc,vs,file,tf,rfl,hcc,hoc,hvs,hfile⟩:=SA.code
 obtain⟨cc,oce,hcl,hce,hcd⟩:=SA.cell
 obtain⟨oD,cdD,hD,hDd⟩:=SA.cls
 obtain⟨cdC,hcC,hal⟩:=SA.meth
 obtain⟨oC,cdC',hC0,hCd⟩:=SA.clsC
 obtain⟨o2,fd2,hf2,hf2c,hf2d⟩:=SA.ty
 refine hG1 ?_
 rw[exec_Expr g.env _ ep (kF y) (eW rfl)]
 refine PySem.wpAt_bind (PySem.wpAt_of_wpAny (wpAny_standAt ?_))
 refine PySem.wpAt_bind ?_
 rw[arm_eval_Call]
 refine PySem.wpAt_bind (ks_wpAt_super_base (y.kindOf SA.ks) (y.kindOf SA.kc) (by decide) ef (y.keep0 _ _ hf) hfd hp ec (y.keep0 _ _ hcc) hoc hvs hfile SA.top ?_)
 refine oX y SA.ks gs λv rv=>⟨rv,?_⟩
 refine wpAny_loadName_free y.kind (y.kindOf SA.kc) (ecl _ _ hcl) ⟨oce,y.keep0 _ _ hce,hcd⟩ ?_
 rw[har]
 refine fU hc (TE.name (X:=X) (Q:=λo S'=>o=.slf C/\S'=w.S) y (.inl SA.ka) hv ⟨rfl,rfl⟩) _ _ (λvx w2 n2 ⟨op,rx,eo,eS⟩=>?_) z2
 subst eo
 refine bp λGG2 hG2=>?_
 obtain⟨x,d,ox,ex1,rfl,ex2,ex3,ex4,ex5⟩:=id rx
 refine hG2 ?_
 have hx2:=n2.k.imm _ _ ex2
 refine ks_wpAny_isType_cls (n2.k.keep0 _ _ hD) hDd ⟨rfl,?_⟩
 refine ks_wpAny_call_super (n2.k.keep0 _ _ hD) hDd hx2 ex3 (λcd' z=>by rw[ex5]at z;cases z) (looks_mroIn n2.k.kin SA.sub) λh3 hso g3=>?_
 have K3:=n2.k.grows w2.tk g3
 have xC:x≠C:=λz=>by
  have e1:=n2.k.keep0 _ _ hC0
  rw[<-z,hx2]at e1;cases e1
  rw[ex5]at hCd;cases hCd
 refine PySem.wpAt_of_wpAny (wpAny_bind (wpAny_standAt ?_))
 unfold methodCall
 rw[bJ cp args ns]
 have f1:methodCallForm (args.length+([]:List Keyword).length) (jl g args) (backToKw cp (keywordEach [] g.env))=true:=by
  have lt:args.length<20:=Nat.blt_eq.mp len
  show methodCallForm (args.length+0) (jl g args) []=true
  unfold methodCallForm
  rw[m7]
  simp only[List.all_nil,Bool.true_and,List.isEmpty_nil,if_true,decide_eq_true_eq]
  exact uA 0xf1048040201b61420900c00c lt
 rw[f1]
 refine wpAny_bind (wpAny_holding ?_)
 show wpAny _ _ (getMethod (.ref w2.h.objs.size) "__init__" _) _ _ _
 refine ks_wpAny_getMethod_super (C:=C) (D:=D) (x:=x) (l₀:=cdC.mro) hso (looks_opaque K3.kin SA.opq) (λA Q E s k q=>wpAny_bind ((looks_clsIn K3.kin hcC) A _ E s k (wpAny_pure q))) rfl K3.kin hal (K3.keep0 _ _ hf2) hf2c xC (by decide) ?_
 have g4:=Grows.push h3 (methodObj (.ref f2) (.ref x))
 have hq4:(h3.push (methodObj (.ref f2) (.ref x))).get? h3.objs.size=some (methodObj (.ref f2) (.ref x)):=Heap.get?_push_size _ rfl
 have n4:Nx g ρ w ⟨w2.I,w2.loc,w2.S,h3.push (methodObj (.ref f2) (.ref x)),w2.tk+1⟩:=n2.trans (.grows n2.k (Grows.trans g3 g4))
 have own:cT g ⟨w2.I,w2.loc,w2.S,h3.push (methodObj (.ref f2) (.ref x)),w2.tk+1⟩ h3.objs.size:=⟨K3.new_xs (ax h3),K3.new_I (ax h3),K3.new_f (ax h3),⟨_,hq4⟩⟩
 have e1:methodCallPos true (.Call (.Name "super" p0) [] [] p1) g.env ap cp=pure cp:=by
  unfold methodCallPos
  rw[show(ap.endLine==cp.line)=true from beq_iff_eq.mpr (Nat.eq_of_beq_eq_true pe)];rfl
 dsimp only
 rw[e1]
 refine wpAny_bind (wpAny_pure ?_)
 unfold PySem.callWith
 have A:=F g ⟨w2.I,w2.loc,w2.S,h3.push (methodObj (.ref f2) (.ref x)),w2.tk+1⟩ _ rfl rfl k rfl eS n4.k
 have soft:∀{Q1:Args->Shared->Prop},(∀vs w5,Nx g ρ ⟨w2.I,w2.loc,w2.S,h3.push (methodObj (.ref f2) (.ref x)),w2.tk+1⟩ w5->Ks g (λops S=>Gd (!ops.any Op.isLoc) (cA g.c g.n f2 (.slf C::ops) [] ρ S (λq0 S=>P ρ S) X)) vs w5->Q1 ⟨vs,[]⟩ (g.at w5))->
   wpAny g.c.M g.A (PySem.evalArgs (.ref h3.objs.size) true (jl g args) []) Q1 E (g.c.mk' (h3.push (methodObj (.ref f2) (.ref x))) (w2.tk+1)):=λ{Q1} h=>by
  have:=dM (f:=.ref h3.objs.size) (Q:=Q1) (aT (env:=g.env) args) (A _ E (λvs w5 n5 r=>h vs w5 n5 r) λe w5 n5 x q=>z2 e w5 (n4.trans n5) (x.back λq0=>n4.t.no) q)
  rw[hc]at this;exact this.any
 refine wpAny_bind (wpAny_holding (soft λvs w5 n5 hh=>hh.casesOn λops ro k5=>?_))
 have hq5:=own.same n5 _ hq4
 have n05:=n4.trans n5
 refine wpAny_bind (wpAny_standAt ?_)
 dsimp only
 rw[aT args]
 have kp:∀{Q2:Keeper->Shared->Prop},Q2 .boundFrame (g.at w5)->wpAny g.c.M g.A (keeperOf (.ref h3.objs.size)) Q2 E (g.at w5):=λ{Q2} q=>by
  unfold keeperOf
  refine wpAny_bind (wpAny_load (s:=g.at w5) hq5 ?_)
  show wpAny _ _ (load f2 >>=λo=>_) _ _ _
  refine wpAny_bind (wpAny_load (s:=g.at w5) (n5.k.keep0 _ _ hf2) ?_)
  rw[hf2d]
  exact wpAny_pure q
 refine wpAny_bind (m:=keeperOf (.ref h3.objs.size)) (kp ?_)
 have rx5:opr g.c.P g.sl w5.I [] (.slf C) (.ref x):=qA.mono n5.t.le rx
 have run:∀{Q2:Value->Shared->Prop},(∀v w6,Nx g ρ w w6->P ρ w6.S->Q2 v (g.at w6))->wpAny g.c.M g.A (PySem.call (.ref h3.objs.size) vs []) Q2 E (g.at w5):=λ{Q2} h=>by
  refine wpAny_call (method_call (s:=g.at w5) hq5 ?_)
  refine aC.any ?_
  have kr:=(Gd.p k5).run g.A g.all g.sl w5.I w5.h w5.tk (.ref x::vs) [] _ y.fr.a n5.k.toC ⟨_,_,rfl,rx5,iJ (Gd.e k5) ro⟩ rfl (λr s' i=>i)
  rw[hc]at kr
  refine jM kr λr s' i=>?_
  cases i with
  | ok t c r q=>exact h _ _ (n05.trans (.back n5.k t c)) q
  | ex t c x q=>exact z2 _ _ (n05.trans (.back n5.k t c)) (pP.back (λq0=>n05.t.no) (.inr x)) q
 have tail:∀{t:Sem Value},(∀{Q2:Value->Shared->Prop},(∀v w6,Nx g ρ w w6->P ρ w6.S->Q2 v (g.at w6))->wpAny g.c.M g.A t Q2 E (g.at w5))->
   wpAny g.c.M g.A (t >>=λr=>holding [r] point >>=λq0=>Pure.pure r) (λv s'=>PySem.wpAt g.c.M g.A (.func body g.env) (dropValue (.Call (.Attribute (.Call (.Name "super" p0) [] [] p1) "__init__" ap) args [] cp) ep v) R E s') E (g.at w5):=λht=>
  wpAny_bind (ht λv w6 n6 q=>wpAny_bind (wpAny_holding (wpAny_point (wpAny_pure (PySem.wpAt_of_wpAny (wpAny_dropValue (z1 w6 n6 q)))))))
 simp only[List.nil_append,show backToKw cp (keywordEach [] g.env)=[]from rfl,List.any_nil,Bool.or_false]
 split
 ·exact tail run
 ·exact tail λh=>by unfold callMarked;intro Γ p i;rw[Sem.wp_keep];exact run h Γ p i
end
section
variable {T:aB}{g:Fr}{ρ:aa}{w w1:W}{X:aa->St->Prop}
theorem oF(Fa:aH g.c T)(hc:g.c.clean=false){fa C D f2:Addr}{cd:Value}{me:Str}{args:List Expr}{p0 p1 ap cp ep:Pos}{body rest:List Stmt}{k m:Nat}{Q:Fo->aa->St->Prop}
  (SA:eO g.c fa cd g.sc g.cl C D f2 me) (gs:T.gl "super" =some (.ty .super)) (hv:aG ρ me=some (.slf C)) (ns:args.all noStar=true) (len:Nat.blt args.length 20=true) (pe:Nat.beq ap.endLine cp.line=true)
  (q:ev g.c T g.n k (.L g.sc args ρ w.S (λops S=>Gd (!ops.any Op.isLoc) (cA g.c g.n f2 (.slf C::ops) [] ρ S (λq0 S=>ev g.c T g.n m (.B g.sc rest ρ S Q X)) X)) X))
  (ef:g.env.func=some fa) (ec:g.env.code=cd) (ecl:∀x a,g.cl.lookup x=some a->g.env.cells.lookup x=some a) (wh:cC g) (y:Ok g ρ w):Iu g (.func body g.env) w (execs (xb p0 p1 ap cp ep args::rest) g.env) Q X:=λR E z1 z2=>by
 rw[execs_cons]
 refine eR (yg (P:=λρ S=>ev g.c T g.n m (.B g.sc rest ρ S Q X)) hc (fW Fa k).s y SA ef ec ecl (Fa.gl _ _ gs) hv ns len pe q (λw1 n1 p=>?_) λe w1 n1 x q=>z2 e ρ w1 n1.nt x q)
 exact(((fW Fa m).s g w1 _ rfl rfl p rfl rfl n1.k wh) _ _ (λa ρ' w' n' r=>z1 a ρ' w' ⟨n1.nt.t.trans n'.t,n'.k⟩ r) λe ρ' w' n' x=>z2 e ρ' w' ⟨n1.nt.t.trans n'.t,n'.k⟩ (x.back λq0=>n1.t.no)).at
end
def GD(P:aa->St->Prop)(fo:Fo)(ρ:aa)(S:St):Prop:=match fo with
 |.next=>P ρ S
 | _=>False
section
variable {c:Cx}{T:aB}{n:Nat}{sc:Scope}{cl:List (Str×Addr)}{ρ:aa}
theorem eH(Fa:aH c T)(hc:c.clean=false){fa C D f2:Addr}{cd:Value}{me:Str}{args:List Expr}{p0 p1 ap cp ep:Pos}{rest:List Stmt}{k m:Nat}{sh:Sh}{Q:AV->Sh->Prop}{X:Sh->Prop}
  (SA:eO c fa cd sc cl C D f2 me) (gs:T.gl "super" =some (.ty .super)) (hv:aG ρ me=some (.slf C)) (ns:args.all noStar=true) (len:Nat.blt args.length 20=true) (pe:Nat.beq ap.endLine cp.line=true)
  (q:ev c T n k (.L sc args ρ ⟨sh,[]⟩ (λops S=>Gd (!ops.any Op.isLoc) (cA c n f2 (.slf C::ops) [] ρ S (λq0 S=>ev c T n m (.B sc rest ρ S (dk Q) (λq0 S=>X S.sh))) (λq0 S=>X S.sh))) (λq0 S=>X S.sh))):
  kJ c n fa cd (xb p0 p1 ap cp ep args::rest) sc cl ρ sh Q X:=λg I h tk ec en es el ef ecd ecl wh y=>by
 subst ec en es el
 exact oF Fa hc SA gs hv ns len pe q ef ecd ecl wh y
theorem sY(Fa:aH c T)(hc:c.clean=false){fa C D f2:Addr}{cd:Value}{me:Str}{args:List Expr}{p0 p1 ap cp ep:Pos}{st:Stmt}{rest:List Stmt}{j k m:Nat}{sh:Sh}{Q:AV->Sh->Prop}{X:Sh->Prop}
  (SA:eO c fa cd sc cl C D f2 me) (gs:T.gl "super" =some (.ty .super)) (hv:aG ρ me=some (.slf C)) (ns:args.all noStar=true) (len:Nat.blt args.length 20=true) (pe:Nat.beq ap.endLine cp.line=true)
  (q0:ev c T n j (.S sc st ρ ⟨sh,[]⟩ (GD λρ1 S1=>ρ1=ρ/\S1=⟨sh,[]⟩) (λq0 S=>X S.sh)))
  (q:ev c T n k (.L sc args ρ ⟨sh,[]⟩ (λops S=>Gd (!ops.any Op.isLoc) (cA c n f2 (.slf C::ops) [] ρ S (λq0 S=>ev c T n m (.B sc rest ρ S (dk Q) (λq0 S=>X S.sh))) (λq0 S=>X S.sh))) (λq0 S=>X S.sh))):
  kJ c n fa cd (st::xb p0 p1 ap cp ep args::rest) sc cl ρ sh Q X:=λg I h tk ec en es el ef ecd ecl wh y R E z1 z2=>by
 subst ec en es el
 rw[execs_cons]
 refine eR (((fW Fa j).s g _ _ rfl rfl q0 rfl rfl y wh) _ _ (λfl ρ1 w1 n1 hh=>hh.casesOn λfo rf p=>?_) λe ρ1 w1 n1 x q=>z2 e ρ1 w1 n1 x q).at
 cases fo with
 | next=>
  cases rf
  obtain⟨e1,e2⟩:=p
  subst e1
  exact oF (w:=w1) Fa hc SA gs hv ns len pe (e2▸q) ef ecd ecl wh n1.k R E (λa ρ' w' n' r=>z1 a ρ' w' ⟨n1.t.trans n'.t,n'.k⟩ r) λe ρ' w' n' x=>z2 e ρ' w' ⟨n1.t.trans n'.t,n'.k⟩ (x.back λq0=>n1.t.no)
 | _=>exact p.elim
variable {fd:FuncData}
end
noncomputable abbrev gE(n:Nat)(s:String)(a:AV):Nat×Str×AV:=(n,Str.ofString s,a)
noncomputable abbrev cE(n:Nat)(s:String)(a:CA):Nat×Str×CA:=(n,Str.ofString s,a)
noncomputable def JL:List (Nat×Str×AV):=[gE 136537122865260 "len" (.bi .len),
 gE 267104634756068365681918909246483699270903435962569916521 "isinstance" (.bi .isinstance),
 gE 134054639566945 "all" (.bi .all),
 gE 136537127321709 "min" (.bi .min),
 gE 148949573894253 "max" (.bi .max),
 gE 171650334355958958403449538936947 "sorted" (.bi .sorted),
 gE 143984606183529 "int" (.ty .int),
 gE 149351886320960471138 "bool" (.ty .bool),
 gE 141502121771123 "str" (.ty .str),
 gE 177179548526420581102977122 "bytes" (.ty .bytes),
 gE 287221204292306956208352963145509018219171721838690 "bytearray" (.ty .ba),
 gE 160414983770571604076 "list" (.ty .list),
 gE 160414963910642827364 "dict" (.ty .dict),
 gE 155609891041697403725217908 "tuple" (.ty .tuple),
 gE 155609884127262118314573938 "range" (.ty .range),
 gE 239746699711881723236875770885045821086463345688677 "enumerate" (.ty .enumerate),
 gE 270605143349080993537397232914007664049608116994132 "TypeError" (.ty .typeErr),
 gE 175638858014635320655806579 "super" (.ty .super),
 gE 73 "I" (.tab [(1,"b"),(2,"h"),(4,"i"),(8,"q")]),
 gE 85 "U" (.tab [(1,"B"),(2,"H"),(4,"I"),(8,"Q")]),
 gE 204624320552972181551481527916732678239 "_Unpack" (.ref 43),
 gE 416918776796881704979258506982060078920914396777609457084079477414252839007 "_UnpackVector" (.ref 48),
 gE 221835718305896621100113445514640687175 "GetRoot" (.ref 869),
 gE 275352617030637614932382194522771710228869180817503 "_law_text" (.ref 876),
 gE 338833821204472346423411055244459870257782602678652212838400095 "_law_octets" (.ref 883),
 gE 257802817683226085494154104521068648816443487 "_law_key" (.ref 890),
 gE 267104677483154660098430819919026588239641359625703129183 "_law_value" (.ref 895),
 gE 304129011747025510453994430215262321333789369904824844383 "_law_trees" (.ref 902),
 gE 239746684797680303965843009803791521436765027827807 "_law_same" (.ref 907),
 gE 237372940499796502687011336893931251491220170211423 "_law_need" (.ref 914),
 gE 267104675109421015240504195748437773974546442197136048223 "_law_write" (.ref 921),
 gE 290906026407516462608084210033043292937100400851900170335 "_law_align" (.ref 928),
 gE 264460041486154023796327550950174836223259501251166732383 "_law_sized" (.ref 935),
 gE 335887403149139637510755971057833448085724499022573624099602527 "_law_number" (.ref 942),
 gE 380781404048265882521428201756273470317265871493852113549323257249887 "_law_element" (.ref 949),
 gE 335887429595162538524158385158603683932950249882010486183821407 "_law_vector" (.ref 956),
 gE 264460041486132717824898023998643177202245778801062314079 "_law_typed" (.ref 961),
 gE 290906031154953923986119700196907202844420335854070530143 "_law_plain" (.ref 966),
 gE 304129047352974788180417041966760680520480896312679333983 "_law_texts" (.ref 973),
 gE 253541636401483995532605775927904891367587935 "_law_row" (.ref 978),
 gE 267104656119588076287944577117410825046967644287872532575 "_law_table" (.ref 983),
 gE 257802810033726844270865833475760536532287583 "_law_lay" (.ref 990),
 gE 219923319035415676722228773338269614175 "_law_as" (.ref 997),
 gE 328259849262431736090308358744155790178377450117542290119211371724895 "_law_refused" (.ref 1004),
 gE 237372955414017045722453913932609323663259792572511 "_law_told" (.ref 1009),
 gE 147708328345708 "law" (.ref 1014),
 gE 139671681638160990292 "Type" (.ref 183),
 gE 126607176302658 "Buf" (.ref 253),
 gE 199114359873926288112292538220623 "Object" (.ref 282),
 gE 154069190849723596650643539 "Sized" (.ref 321),
 gE 135523020715162599490 "Blob" (.ref 348),
 gE 176799853584540058282274676015187 "String" (.ref 389),
 gE 150190823899211 "Key" (.ref 439),
 gE 195681374787312035693336466882646 "Vector" (.ref 471),
 gE 335887429595162538524158385158548755883454939355816946572001364 "TypedVector" (.ref 529),
 gE 139019609505869 "Map" (.ref 587),
 gE 126607158476882 "Ref" (.ref 858)]
noncomputable def FX:List (Nat×Str×CA):=[cE 105099472938794811470 "NULL" (.val (.int 0)),
 cE 104264712978505 "INT" (.val (.int 1)),
 cE 116162567905908162645 "UINT" (.val (.int 2)),
 cE 129418092877269314831122502 "FLOAT" (.val (.int 3)),
 cE 110470930694219 "KEY" (.val (.int 4)),
 cE 121871747083661235747616321699923 "STRING" (.val (.int 5)),
 cE 275738253227152083124427373868398963689538053974047378367021379878985 "INDIRECT_INT" (.val (.int 6)),
 cE 307203296779408861607476076292361557592007971034801773884140319718861832265 "INDIRECT_UINT" (.val (.int 7)),
 cE 342258831838192728102370269437500995056754554811211808850967030258694937906118729 "INDIRECT_FLOAT" (.val (.int 8)),
 cE 99299716300877 "MAP" (.val (.int 9)),
 cE 140753268286433213158678112567382 "VECTOR" (.val (.int 10)),
 cE 222146418612012158773513486337539854881346382156331810902 "VECTOR_INT" (.val (.int 11)),
 cE 247495990732666090214170680123839965971972252880089320711848022 "VECTOR_UINT" (.val (.int 12)),
 cE 275738214924248928048182495941801933665548281539677808041218578645078 "VECTOR_FLOAT" (.val (.int 13)),
 cE 235369387335443218580364725514803216236357974081429373014 "VECTOR_KEY" (.val (.int 14)),
 cE 816343434576037366013238532844456721028054076721687890797608476925259398385435813062972219118694271476914453833115140930186821200960178946134 "VECTOR_STRING_DEPRECATED" (.val (.int 15)),
 cE 147319141464184951999778923041086411949332440410213034241622102 "VECTOR_INT2" (.val (.int 16)),
 cE 164130023334946025242377674201173697940457834255975627139176287502422 "VECTOR_UINT2" (.val (.int 17)),
 cE 182859228557705083171680822851989198630180855220924456839016736322053537878 "VECTOR_FLOAT2" (.val (.int 18)),
 cE 150265519850540278799531326031638413437521991591489651799818326 "VECTOR_INT3" (.val (.int 19)),
 cE 167412618851725131093903423401783569422467671501650082080173399015510 "VECTOR_UINT3" (.val (.int 20)),
 cE 186516407614094886350135878345379063766745799014377315182240910224123035734 "VECTOR_FLOAT3" (.val (.int 21)),
 cE 153211898236895605599283729022190414925711542772766269358014550 "VECTOR_INT4" (.val (.int 22)),
 cE 170695214368504236945429172602393440904477508747324537021170510528598 "VECTOR_UINT4" (.val (.int 23)),
 cE 190173586670484689528590933838768928903310742807830173525465084126192533590 "VECTOR_FLOAT4" (.val (.int 24)),
 cE 91270611056726900802 "BLOB" (.val (.int 25)),
 cE 105099476662524772418 "BOOL" (.val (.int 26)),
 cE 223924966286435735533603874300471361975634611204988627441746006 "VECTOR_BOOL" (.val (.int 36)),
 cE 113639503 "Of" (.stat 76),
 cE 183665843786775639748500624638037 "Unpack" (.stat 96),
 cE 416918776796881704979258506982060078907527773534617259845014973450224336969 "IsTypedVector" (.stat 116),
 cE 1212510203880627359011046254905604033519498346110400946127774470264785311567757962801847828001917290432662009631253518036112805379368202207316 "ToTypedVectorElementType" (.stat 136),
 cE 715641825597721253330943755586209944056519191914006499840346976672054321329444725224016152006482624446537 "IsFixedTypedVector" (.stat 146),
 cE 2081275932275275246044243802151869325792071445788275328221633340584427769702286803273884506024047821004278515400440634747760617624634640003809945004969447767240794009698388 "ToFixedTypedVectorElementType" (.stat 166)]
noncomputable def Ir:List (Nat×Str×CA):=[cE 279906197940826434931707800933805427331747724694825848886198367 "__getitem__" (.meth 208),
 cE 160414982529317142608 "Part" (.meth 222),
 cE 138288792595072614470 "Find" (.meth 236),
 cE 155609878595709669781274707 "Slice" (.meth 243),
 cE 247149812844699058183289871647529635347824713 "Indirect" (.meth 250),
 cE 141054574404942561375 "_buf" (.field),
 cE 221835701140884909284132919422775918687 "_offset" (.field),
 cE 198887224015218005722741156113227186271 "_length" (.field)]
noncomputable def Ak:List (Nat×Str×CA):=[cE 141054574404942561375 "_buf" (.field),
 cE 306423658954561377875444968536834221924547856126904793422757983 "_byte_width" (.field)]
noncomputable def Dy:List (Nat×Str×CA):=[cE 141054574404942561375 "_buf" (.field),
 cE 306423658954561377875444968536834221924547856126904793422757983 "_byte_width" (.field),
 cE 272978849296172619512600411641380488761419494916179 "SizeBytes" (.prop 310),
 cE 181675810813809833475807239996504473695 "__len__" (.meth 318),
 cE 155609910402100563116490847 "_size" (.field)]
noncomputable def Gr:List (Nat×Str×CA):=[cE 141054574404942561375 "_buf" (.field),
 cE 306423658954561377875444968536834221924547856126904793422757983 "_byte_width" (.field),
 cE 272978849296172619512600411641380488761419494916179 "SizeBytes" (.prop 310),
 cE 181675810813809833475807239996504473695 "__len__" (.meth 318),
 cE 155609910402100563116490847 "_size" (.field),
 cE 177179548526420581102977090 "Bytes" (.prop 337)]
noncomputable def AH:List (Nat×Str×CA):=[cE 141054574404942561375 "_buf" (.field),
 cE 306423658954561377875444968536834221924547856126904793422757983 "_byte_width" (.field),
 cE 272978849296172619512600411641380488761419494916179 "SizeBytes" (.prop 310),
 cE 181675810813809833475807239996504473695 "__len__" (.meth 318),
 cE 155609910402100563116490847 "_size" (.field),
 cE 177179548526420581102977090 "Bytes" (.prop 364),
 cE 181675810813815996258597668275757187167 "__str__" (.meth 379)]
noncomputable def Ja:List (Nat×Str×CA):=[cE 141054574404942561375 "_buf" (.field),
 cE 306423658954561377875444968536834221924547856126904793422757983 "_byte_width" (.field),
 cE 177179548526420581102977090 "Bytes" (.prop 414),
 cE 181675810813809833475807239996504473695 "__len__" (.meth 422),
 cE 181675810813815996258597668275757187167 "__str__" (.meth 429)]
noncomputable def AA:List (Nat×Str×CA):=[cE 141054574404942561375 "_buf" (.field),
 cE 306423658954561377875444968536834221924547856126904793422757983 "_byte_width" (.field),
 cE 272978849296172619512600411641380488761419494916179 "SizeBytes" (.prop 310),
 cE 181675810813809833475807239996504473695 "__len__" (.meth 318),
 cE 155609910402100563116490847 "_size" (.field),
 cE 279906197940826434931707800933805427331747724694825848886198367 "__getitem__" (.meth 455),
 cE 155609903487671483935817814 "Value" (.prop 460)]
noncomputable def mV:List (Nat×Str×CA):=[cE 141054574404942561375 "_buf" (.field),
 cE 306423658954561377875444968536834221924547856126904793422757983 "_byte_width" (.field),
 cE 272978849296172619512600411641380488761419494916179 "SizeBytes" (.prop 310),
 cE 181675810813809833475807239996504473695 "__len__" (.meth 318),
 cE 155609910402100563116490847 "_size" (.field),
 cE 177179548526420581102977090 "Bytes" (.prop 497),
 cE 279906197940826434931707800933805427331747724694825848886198367 "__getitem__" (.meth 513),
 cE 155609903487671483935817814 "Value" (.prop 518),
 cE 369375452346424512375338565781145254053916719341992488837220952800262160479 "_element_type" (.field)]
noncomputable def Im:List (Nat×Str×CA):=[cE 141054574404942561375 "_buf" (.field),
 cE 306423658954561377875444968536834221924547856126904793422757983 "_byte_width" (.field),
 cE 272978849296172619512600411641380488761419494916179 "SizeBytes" (.prop 310),
 cE 181675810813809833475807239996504473695 "__len__" (.meth 318),
 cE 155609910402100563116490847 "_size" (.field),
 cE 159032104657460985931 "Keys" (.prop 562),
 cE 197397861167868869324224433553494 "Values" (.prop 570),
 cE 155609903487671483935817814 "Value" (.prop 576)]
noncomputable def Jq:List (Nat×Str×CA):=[cE 141054574404942561375 "_buf" (.field),
 cE 380347002645914115051923155279587614890612453349846627030925516616661729375 "_parent_width" (.field),
 cE 306423658954561377875444968536834221924547856126904793422757983 "_byte_width" (.field),
 cE 155609896573254817251852383 "_type" (.field),
 cE 267104665614546092427061977119300792365532683266706964560 "PackedType" (.stat 603),
 cE 197397861167867486453800011694175 "_Bytes" (.prop 627),
 cE 416918776796875812262154690630168622504595992374208728762429934721469448287 "_ConvertError" (.meth 635),
 cE 275352572288033357110701445480972537096635686649951 "_Indirect" (.meth 642),
 cE 185382359440478471996279802232905 "IsNull" (.prop 649),
 cE 185382364062541710002907760492617 "IsBool" (.prop 657),
 cE 185382364062541710002907760492609 "AsBool" (.prop 665),
 cE 234999221769132345817467280323578882840709516427337 "IsNumeric" (.prop 680),
 cE 178720251484126548213301321 "IsInt" (.prop 688),
 cE 178720251484126548213301313 "AsInt" (.prop 696),
 cE 221835694274871596688108933441409712201 "IsFloat" (.prop 711),
 cE 186423691597051462791921737 "IsKey" (.prop 719),
 cE 304129011747057469470422269814632512876157547219765100609 "AsKeyBytes" (.prop 727),
 cE 186423691597051462791921729 "AsKey" (.prop 735),
 cE 219452031245041309320523760622550668017860681 "IsString" (.prop 743),
 cE 420575923027316340424836120520217436249521913474718470773760088387501621313 "AsStringBytes" (.prop 751),
 cE 219452031245041309320523760622550668017860673 "AsString" (.prop 759),
 cE 168217346187931875982118152765513 "IsBlob" (.prop 774),
 cE 168217346187931875982118152765505 "AsBlob" (.prop 782),
 cE 242888635387721179075468730201308824072290377 "IsVector" (.prop 790),
 cE 242888635387721179075468730201308824072290369 "AsVector" (.prop 798),
 cE 416918776796881704979258506982060078907527773534617259845014973450224336969 "IsTypedVector" (.prop 806),
 cE 416918776796881704979258506982060078907527773534617259845014973450224336961 "AsTypedVector" (.prop 814),
 cE 715641825597721253330943755586209944056519191914006499840346976672054321329444725224016152006482624446537 "IsFixedTypedVector" (.prop 822),
 cE 715641825597721253330943755586209944056519191914006499840346976672054321329444725224016152006482624446529 "AsFixedTypedVector" (.prop 830),
 cE 172557471459485043820527689 "IsMap" (.prop 838),
 cE 172557471459485043820527681 "AsMap" (.prop 846),
 cE 155609903487671483935817814 "Value" (.prop 854)]
noncomputable def ic{α:Type}:List (Nat×α)->Nat->Option α
 | [],_=>none
 | p::r,x=>bif Nat.beq p.1 x then some p.2 else ic r x
theorem gv{α:Type}{x:Nat}{a:α}{l:List (Nat×α)}:ic l x=some a->(x,a)∈l:=by
 induction l with
 | nil=>exact nofun
 | cons p r ih=>
  show(bif Nat.beq p.1 x then some p.2 else ic r x)=some a->_
  cases g:Nat.beq p.1 x with
  | false=>exactλq=>.tail _ (ih q)
  | true=>exactλq=>Nat.eq_of_beq_eq_true g▸Option.some.inj q▸ .head _
noncomputable def wO:List (Nat×List (Nat×Str×CA)):=[(183,FX),(253,Ir),(282,Ak),(321,Dy),(348,Gr),(389,AH),(439,Ja),(471,AA),(529,mV),(587,Im),(858,Jq)]
noncomputable def CZ:List (Nat×Nat):=[(253,201),(282,271),(321,303),(348,303),(389,303),(439,407),(471,303),(529,490),(587,303),(858,613)]
noncomputable def uZ:List Nat:=[43,48,869,876,883,890,895,902,907,914,921,928,935,942,949,956,961,966,973,978,983,990,997,1004,1009,1014,253,282,321,348,389,439,471,529,587,858]
noncomputable def Hv(x:Str)(o:Option (List (Nat×Str×CA))):Option CA:=match o with
 | some l=>fX l x
 | none=>none
noncomputable def HO(f:Nat):List Nat->Bool
 | []=>false
 | x::r=>bif Nat.beq x f then true else HO f r
noncomputable def T0:aB:=⟨fX JL,λC x=>Hv x (ic wO C),ic CZ,λf=>HO f uZ⟩
noncomputable def fu:List Stmt->Nat->Stmt
 | [],_=>default
 | a::_,0=>a
 | _::r,n+1=>fu r n
noncomputable def D1(i:Nat):Stmt:=fu PySem.Challenge.pw_jm0002_01.main.body i
noncomputable def HZ(s:Stmt):List Stmt:=if h:s.ctorIdx=2 then Stmt.ClassDef.elim (motive_2:=λq0=>List Stmt) s h λq0 q1 q2 b q3 q4 q5 q6 q7 q8 q9=>b else []
noncomputable def D2(i j:Nat):Stmt:=fu (HZ (D1 i)) j
noncomputable def bodyOf(s:Stmt):List Stmt:=if h:s.ctorIdx=0 then Stmt.FunctionDef.elim (motive_2:=λq0=>List Stmt) s h λq0 q1 body q2 q3 q4 q5 q6 q7 q8=>body else []
noncomputable def aq(s:Stmt):Scope:=if h:s.ctorIdx=0 then Stmt.FunctionDef.elim (motive_2:=λq0=>Scope) s h λq0 q1 q2 q3 q4 q5 scope q6 q7 q8=>scope else default
noncomputable def dj:List Str->List Op->aa
 | x::xs,a::as=>(x,a)::dj xs as
 | _,_=>[]
noncomputable abbrev sg(f:Nat)(s:Stmt)(ps:List Str):Nat×Stmt×List Str:=(f,s,ps)
noncomputable def Ef:List (Nat×Stmt×List Str):=[sg 43 (D1 5) ["fmt","buf"],
 sg 48 (D1 6) ["fmt","buf","length"],
 sg 76 (D2 9 28) ["number"],
 sg 96 (D2 9 30) ["packed_type"],
 sg 116 (D2 9 32) ["type_"],
 sg 136 (D2 9 34) ["type_"],
 sg 146 (D2 9 35) ["type_"],
 sg 166 (D2 9 37) ["type_"],
 sg 201 (D2 10 0) ["self","buf","offset"],
 sg 208 (D2 10 1) ["self","key"],
 sg 222 (D2 10 3) ["self","start","stop"],
 sg 236 (D2 10 5) ["self","sub"],
 sg 243 (D2 10 6) ["self","offset"],
 sg 250 (D2 10 7) ["self","offset","byte_width"],
 sg 271 (D2 11 0) ["self","buf","byte_width"],
 sg 310 (D2 12 1) ["self"],
 sg 318 (D2 12 2) ["self"],
 sg 337 (D2 13 0) ["self"],
 sg 364 (D2 14 0) ["self"],
 sg 379 (D2 14 2) ["self"],
 sg 414 (D2 15 1) ["self"],
 sg 422 (D2 15 2) ["self"],
 sg 429 (D2 15 3) ["self"],
 sg 455 (D2 16 0) ["self","index"],
 sg 460 (D2 16 1) ["self"],
 sg 497 (D2 17 1) ["self"],
 sg 513 (D2 17 3) ["self","index"],
 sg 518 (D2 17 4) ["self"],
 sg 562 (D2 18 2) ["self"],
 sg 570 (D2 18 3) ["self"],
 sg 576 (D2 18 4) ["self"],
 sg 603 (D2 19 0) ["buf","parent_width","packed_type"],
 sg 613 (D2 19 1) ["self","buf","parent_width","byte_width","type_"],
 sg 627 (D2 19 3) ["self"],
 sg 635 (D2 19 4) ["self","target_type"],
 sg 642 (D2 19 5) ["self"],
 sg 649 (D2 19 6) ["self"],
 sg 657 (D2 19 7) ["self"],
 sg 665 (D2 19 8) ["self"],
 sg 680 (D2 19 10) ["self"],
 sg 688 (D2 19 11) ["self"],
 sg 696 (D2 19 12) ["self"],
 sg 711 (D2 19 14) ["self"],
 sg 719 (D2 19 15) ["self"],
 sg 727 (D2 19 16) ["self"],
 sg 735 (D2 19 17) ["self"],
 sg 743 (D2 19 18) ["self"],
 sg 751 (D2 19 19) ["self"],
 sg 759 (D2 19 20) ["self"],
 sg 774 (D2 19 22) ["self"],
 sg 782 (D2 19 23) ["self"],
 sg 790 (D2 19 24) ["self"],
 sg 798 (D2 19 25) ["self"],
 sg 806 (D2 19 26) ["self"],
 sg 814 (D2 19 27) ["self"],
 sg 822 (D2 19 28) ["self"],
 sg 830 (D2 19 29) ["self"],
 sg 838 (D2 19 30) ["self"],
 sg 846 (D2 19 31) ["self"],
 sg 854 (D2 19 32) ["self"],
 sg 869 (D1 20) ["buf"],
 sg 876 (D1 22) ["rest"],
 sg 883 (D1 23) ["rest"],
 sg 890 (D1 24) ["rest"],
 sg 895 (D1 25) ["draws","depth"],
 sg 902 (D1 26) ["draws"],
 sg 907 (D1 27) ["actual","due"],
 sg 914 (D1 28) ["number","signed"],
 sg 921 (D1 29) ["octets","number","exp"],
 sg 928 (D1 30) ["octets","exp"],
 sg 935 (D1 31) ["octets","content","exp"],
 sg 942 (D1 32) ["octets","value","draw"],
 sg 949 (D1 33) ["octets","child","exp"],
 sg 956 (D1 34) ["octets","children","exp","ahead"],
 sg 961 (D1 35) ["octets","values","draw"],
 sg 966 (D1 36) ["text"],
 sg 973 (D1 37) ["octets","values","draw"],
 sg 978 (D1 38) ["octets","values","draws","draw"],
 sg 983 (D1 39) ["octets","values","draws","draw"],
 sg 990 (D1 40) ["octets","value","draws"],
 sg 997 (D1 41) ["told","turn"],
 sg 1004 (D1 42) ["told","turn"],
 sg 1009 (D1 43) ["told","kind","value"],
 sg 1014 (D1 44) ["script"]]
noncomputable def sgn(f:Addr):Option (Stmt×List Str):=ic Ef f
noncomputable def FZ(sc:Scope)(ps:List Str):Prop:=ps.Nodup/\(ps.all λy=>sc.names.lookup y==some .local||sc.names.lookup y==some .cell)=true/\((cellsFrom 0 sc.names []).map (·.1)).Nodup
structure K5(c:Cx)(f:Addr)(st:Stmt)(ps:List Str):Prop where
 ex:∃fd,FnAt c f fd ps (bodyOf st) (aq st) []/\∀args,args.length=ps.length->Binds c fd args [] (dj ps args)
 ok:FZ (aq st) ps
structure cu(c:Cx)(f:Addr)(st:Stmt)(ps:List Str)(C D f2:Addr)(b:Bool):Prop where
 ex:∃fd cc,FnAt c f fd ps (bodyOf st) (aq st) [("__class__",cc)]/\eO c f fd.code (aq st) [("__class__",cc)] C D f2 "self" /\(∀args,args.length=ps.length->Binds c fd args [] (dj ps args))/\
  (b=true->∀args,args.length+1=ps.length->Binds c fd args [] (dj ps (args++[.v (.int 0)])))
 ok:ps.Nodup/\(ps.all λy=>(aq st).names.lookup y==some .local)=true/\((aq st).names.all λx=>x.2 != .cell)=true
noncomputable def subs:List Addr:=[348,389,471,529,587]
structure E5(c:Cx):Prop where
 fa:aH c T0
 d:∀f st ps,sgn f=some (st,ps)->K5 c f st ps
 sized:∀C∈subs,cu c 303 (D2 12 0) ["self","buf","byte_width","size"] C 321 271 true
 key:cu c 407 (D2 15 0) ["self","buf","byte_width"] 439 439 271 false
 tvec:cu c 490 (D2 17 0) ["self","buf","byte_width","element_type","size"] 529 529 303 true
 kw:∀fd,(∃o,c.H0.get? 603=some o/\o.data=.func fd)->∀a b d,Binds c fd [a,b] [("packed_type",d)] (dj ["buf","parent_width","packed_type"] [a,b,d])
noncomputable def Std(c:Cx):Prop:=∀b,E5 {c with clean:=b}
theorem Std.one{c:Cx}(Z:Std c):E5 c:=Z c.clean
theorem Std.soft{c:Cx}(Z:Std c):Std c.soft:=λb=>Z b
theorem bZ{ps:List Str}:∀{args:List Op},args.length=ps.length->(dj ps args).map (·.1)=ps:=by
 induction ps with
 | nil=>intro args h;cases args with
  | nil=>rfl
  | cons _ _=>cases h
 | cons x xs ih=>intro args h;cases args with
  | nil=>cases h
  | cons a as=>exact congrArg (x:: ·) (ih (Nat.succ.inj h))
theorem Std.call{c:Cx}(Z:Std c){f:Addr}{st:Stmt}{ps:List Str}(e:sgn f=some (st,ps)){n:Nat}{args:List Op}{sh:Sh}{Q:AV->Sh->Prop}{X:Sh->Prop}(hl:args.length=ps.length)(na:args.all Op.noloc=true)
  (q:ev c T0 n 60 (.B (aq st) (bodyOf st) (dj ps args) ⟨sh,[]⟩ (dk Q) (λq0 S=>X S.sh))):ae c (n+1) f args [] sh Q X:=by
 obtain⟨⟨fd,F,hb⟩,nd,kk,cn⟩:=Z.one.d f st ps e
 refine g7 F (hb args hl) (by rw[bZ hl];exact nd) ?_ cn (sJ Z.one.fa q)
 refine List.all_eq_true.mpr λy m=>List.all_eq_true.mp kk y.1 ?_
 have:=List.mem_map_of_mem (f:=(·.1)) m
 rwa [bZ hl]at this
theorem cu.call{c:Cx}{f C D f2:Addr}{st:Stmt}{ps:List Str}{b:Bool}(Z:cu c f st ps C D f2 b){n:Nat}{args:List Op}{sh:Sh}{Q:AV->Sh->Prop}{X:Sh->Prop}(na:args.all Op.noloc=true)(v:aa)
  (hl:(args.length=ps.length/\v=dj ps args)\/(b=true/\args.length+1=ps.length/\v=dj ps (args++[.v (.int 0)])))
  (B:∀cd cc,eO c f cd (aq st) [("__class__",cc)] C D f2 "self" ->kJ c n f cd (bodyOf st) (aq st) [("__class__",cc)] v sh Q X):ae c (n+1) f args [] sh Q X:=by
 obtain⟨⟨fd,cc,F,SA,hb,hd⟩,nd,kk,cn⟩:=Z
 have hb':Binds c fd args [] v/\v.map (·.1)=ps:=by
  rcases hl with⟨h,rfl⟩|⟨e,h,rfl⟩
  ·exact⟨hb args h,bZ h⟩
  ·exact⟨hd e args h,bZ (by rw[List.length_append];exact h)⟩
 refine ki F hb'.1 (by rw[hb'.2];exact nd) ?_ cn (B _ _ SA)
 refine List.all_eq_true.mpr λy m=>List.all_eq_true.mp kk y.1 ?_
 rw[<-hb'.2]
 exact List.mem_map_of_mem m
theorem Std.callKw{c:Cx}(Z:Std c){n:Nat}{a b d:Op}{sh:Sh}{Q:AV->Sh->Prop}{X:Sh->Prop}(na:[a,b].all Op.noloc=true)(nd:d.noloc=true)
  (q:ev c T0 n 60 (.B (aq (D2 19 0)) (bodyOf (D2 19 0)) (dj ["buf","parent_width","packed_type"] [a,b,d]) ⟨sh,[]⟩ (dk Q) (λq0 S=>X S.sh))):ae c (n+1) 603 [a,b] [("packed_type",d)] sh Q X:=by
 obtain⟨⟨fd,F,hb⟩,nd',kk,cn⟩:=Z.one.d 603 _ _ rfl
 refine g7 F (Z.one.kw fd F.obj a b d) (by rw[bZ rfl];exact nd') ?_ cn (sJ Z.one.fa q)
 refine List.all_eq_true.mpr λy m=>List.all_eq_true.mp kk y.1 ?_
 have:=List.mem_map_of_mem (f:=(·.1)) m
 rwa [bZ rfl]at this
theorem vS{b:Bool}{p q:Prop}(h:b=true)(x:p):pv b p q:=by subst h;exact x
theorem cF{b:Bool}{p q:Prop}(h:b=false)(x:q):pv b p q:=by subst h;exact x
def Vn(G P:Prop):Prop:=G=P
theorem MD{A B B':Prop}(h:Vn B B'):Vn (A/\B) (A/\B'):=congrArg (A/\ ·) h
theorem NA{P:Prop}:Vn P P:=rfl
abbrev Nf(G P:Prop):Prop:=Vn G P->P->G
theorem GL{p:Prop}[Decidable p](h:¬p):(!decide p)=true:=by rw[decide_eq_false h];rfl
theorem EU{p:Prop}[Decidable p](h:p):(!decide p)=false:=by rw[decide_eq_true h];rfl
theorem Gu{b:Bool}(h:b=false):(!b)=true:=by rw[h];rfl
theorem JD{p q:Prop}(a:p)(b:q):p/\q:=⟨a,b⟩
theorem MH{b:Bool}{p:Prop}(e:b=true)(h:p):Gd b p:=Gd.i e h
theorem Mq(n:Nat):(0:Int)<=n:=Int.natCast_nonneg n
theorem N1{n m:Nat}(h:Nat.ble n m=true):n<=m:=Nat.le_of_ble_eq_true h
theorem Nu{c:Cx}(Z:Std c):Std c.soft:=Z.soft
local macro_rules | `(tactic| walk_at "yes") => `(tactic| first | (with_reducible assumption) | decide +kernel | ((with_reducible first | apply decide_eq_true | apply GL | apply Gu | apply mw | apply decide_eq_false | apply EU) <;> first | assumption | lia))
local macro_rules | `(tactic| walk_at "nfc") => `(tactic| ((conv => arg 1; whnf; try dsimp only); first | (refine' MD _; rotate_left; walk_at "nfc") | exact NA))
local macro_rules | `(tactic| walk_at "nf") => `(tactic| focus (refine' (_ : Nf _ _) _ _; rotate_left; walk_at "nfc"; rotate_left; exact fun q0 h => h))
local macro_rules | `(tactic| walk_at "ev") => `(tactic| (walk_at "nf"; repeat (first
  | (apply JD; first | exact @rfl Bool _ | (with_reducible first | assumption | apply Mq) | lia | (first | apply LJ | apply MG) <;> lia | exact N1 rfl | trivial | decide +kernel)
  | ((first | (apply MH; walk_at "yes") | (apply vS; walk_at "yes") | (apply cF; walk_at "yes")); walk_at "nf"))))
section
variable {c:Cx}{n:Nat}{sh:Sh}{Q:AV->Sh->Prop}{X:Sh->Prop}
noncomputable abbrev tI:List (Int×Str):=[(1,"b"),(2,"h"),(4,"i"),(8,"q")]
noncomputable abbrev tU:List (Int×Str):=[(1,"B"),(2,"H"),(4,"I"),(8,"Q")]
noncomputable abbrev oc(k:Bool)(l:List UInt8):AV:=.oc k l
theorem GS{l:List UInt8}(hl:l.length=1\/l.length=2\/l.length=4\/l.length=8):∃x:Str,tabAt tU l.length=some x/\(!(Builtin.Str.occurrences (Str.ofString "bhiq") x 0 (Str.ofString "bhiq").length 1).isEmpty)=false:=by
 rcases hl with h|h|h|h<;>rw[h]
 ·exact⟨"B",rfl,by decide +kernel⟩
 ·exact⟨"H",rfl,by decide +kernel⟩
 ·exact⟨"I",rfl,by decide +kernel⟩
 ·exact⟨"Q",rfl,by decide +kernel⟩
theorem GQ{l:List UInt8}(hl:l.length=1\/l.length=2\/l.length=4\/l.length=8):∃x:Str,tabAt tI l.length=some x/\(!(Builtin.Str.occurrences (Str.ofString "bhiq") x 0 (Str.ofString "bhiq").length 1).isEmpty)=true:=by
 rcases hl with h|h|h|h<;>rw[h]
 ·exact⟨"b",rfl,by decide +kernel⟩
 ·exact⟨"h",rfl,by decide +kernel⟩
 ·exact⟨"i",rfl,by decide +kernel⟩
 ·exact⟨"q",rfl,by decide +kernel⟩
theorem dP(Z:Std c){k:Bool}{l:List UInt8}(hl:l.length=1\/l.length=2\/l.length=4\/l.length=8)(q:Q (.int (iE l)) sh):ae c (n+1) 43 [.v (.tab tU),.v (oc k l)] [] sh Q X:=by
 refine Z.call (f:=43) rfl rfl rfl ?_
 have hz:l.length<=8:=by lia
 obtain⟨x,e1,e2⟩:=GS hl
 cases k
 all_goals
  walk_at"ev"
  rw[e1]
  walk_at"ev"
  exact q
noncomputable def de(w:Nat)(x:Int):Int:=bif decide ((2:Int)^(8*w-1)<=x)then x-2^(8*w)else x
theorem mA(Z:Std c){k:Bool}{l:List UInt8}(hl:l.length=1\/l.length=2\/l.length=4\/l.length=8)(q:Q (.int (de l.length (iE l))) sh):ae c (n+1) 43 [.v (.tab tI),.v (oc k l)] [] sh Q X:=by
 refine Z.call (f:=43) rfl rfl rfl ?_
 have hz:l.length<=8:=by lia
 obtain⟨x,e1,e2⟩:=GQ hl
 have p1:(1:Int)*2^(8*(l.length:Int)-1).toNat=2^(8*l.length-1):=by rw[Int.one_mul];congr 1;lia
 have p2:(1:Int)*2^(8*(l.length:Int)).toNat=2^(8*l.length):=by rw[Int.one_mul];congr 1
 cases k
 all_goals
  walk_at"ev"
  rw[e1]
  walk_at"ev"
  rw[p1]
  refine aD (λh=>?_) (λh=>?_)
  ·walk_at"ev"
   rw[p2]
   unfold de at q;rw[h]at q
   exact q
  ·walk_at"ev"
   unfold de at q;rw[h]at q
   exact q
end
def fh(t:Int):Prop:=(0<=t/\t<=26)\/t=36
theorem Eh(Z:Std c){t:Int}(h:fh t)(q:Q (.int t) sh):ae c (n+1) 76 [.v (.int t)] [] sh Q X:=by
 refine Z.call (f:=76) rfl rfl rfl ?_
 walk_at"ev"
 rcases h with⟨h1,h2⟩|rfl
 ·walk_at"ev"
  exact q
 ·walk_at"ev"
  exact q
theorem nB(Z:Std c){k:Int}{e:Nat}(h:fh k)(he:e<=3)(q:Q (.tuple [.int (2^e),.int k]) sh):ae c (n+2) 96 [.v (.int (4*k+e))] [] sh Q X:=by
 refine Z.call (f:=96) rfl rfl rfl ?_
 have h0:0<=k:=by rcases h with h|rfl<;>lia
 have p1:(1:Int)*2^((4*k+(e:Int))%4).toNat=2^e:=by rw[Int.one_mul];congr 1;lia
 have p2:(4*k+(e:Int))/2^Int.toNat 2=k:=by show _/(4:Int)=k;lia
 have zq0:0<=4*k+ ↑e:=by exact uK 0x200048c00000044000000008025 h0
 have zq1:0<=(4*k+ ↑e)%4:=by exact uI 0x4400000000800d (jm (4*k+ ↑e) 4 rfl)
 have zq2:(4*k+ ↑e)%4<=1000:=by exact uI 0x1f420040000044000000a00c00d (gH (4*k+ ↑e) 4 rfl)
 walk_at"ev"
 rw[p2]
 refine Eh Z h ?_
 walk_at"ev"
 rw[p1]
 exact q
noncomputable def dm(t:Int):Bool:=(decide (11<=t)&&decide (t<=15))||decide (t=36)
theorem wq(Z:Std c){t:Int}(q:Q (.bool (dm t)) sh):ae c (n+1) 116 [.v (.int t)] [] sh Q X:=by
 refine Z.call (f:=116) rfl rfl rfl ?_
 unfold dm at q
 walk_at"ev"
 refine aD (λh=>?_) (λh=>?_)
 ·rw[h]at q
  walk_at"ev"
  refine aD (λh=>?_) (λh=>?_)
  ·rw[h]at q
   walk_at"ev"
   rw[h]
   exact q
  ·rw[h]at q
   walk_at"ev"
   exact q
 ·rw[h]at q
  walk_at"ev"
  exact q
theorem E2(Z:Std c){t:Int}(h:dm t=true)(q:Q (.int (t-10)) sh):ae c (n+2) 136 [.v (.int t)] [] sh Q X:=by
 refine Z.call (f:=136) rfl rfl rfl ?_
 have h2:(11<=t/\t<=15)\/t=36:=by
  unfold dm at h
  rcases Bool.or_eq_true_iff.mp h with h|h
  ·exact .inl ⟨of_decide_eq_true (Bool.and_eq_true_iff.mp h).1,of_decide_eq_true (Bool.and_eq_true_iff.mp h).2⟩
  ·exact .inr (of_decide_eq_true h)
 walk_at"ev"
 refine wq Z ?_
 walk_at"ev"
 refine cF (by rw[h];rfl) ?_
 walk_at"ev"
 refine Eh Z (by unfold fh;lia) ?_
 walk_at"ev"
 rw[show t-11+1=t-10 by exact Int.le_antisymm (uI 0x520180000014000005a0199) (uI 0xa000002d00cc00000a4031)]
 exact q
noncomputable def cY(t:Int):Bool:=decide (16<=t)&&decide (t<=24)
theorem vy(Z:Std c){t:Int}(q:Q (.bool (cY t)) sh):ae c (n+1) 146 [.v (.int t)] [] sh Q X:=by
 refine Z.call (f:=146) rfl rfl rfl ?_
 unfold cY at q
 walk_at"ev"
 refine aD (λh=>?_) (λh=>?_)
 ·rw[h]at q
  walk_at"ev"
  exact q
 ·rw[h]at q
  walk_at"ev"
  exact q
theorem E9(Z:Std c){t:Int}(h:cY t=true)(q:Q (.tuple [.int ((t-16)%3+1),.int ((t-16)/3+2)]) sh):ae c (n+2) 166 [.v (.int t)] [] sh Q X:=by
 refine Z.call (f:=166) rfl rfl rfl ?_
 have h2:16<=t/\t<=24:=⟨of_decide_eq_true (Bool.and_eq_true_iff.mp h).1,of_decide_eq_true (Bool.and_eq_true_iff.mp h).2⟩
 walk_at"ev"
 refine vy Z ?_
 walk_at"ev"
 refine cF (by rw[h];rfl) ?_
 walk_at"ev"
 refine Eh Z (by unfold fh;lia) ?_
 walk_at"ev"
 exact q
noncomputable abbrev dg(k:Bool)(B:List UInt8)(o:Int):AV:=.inst 253 [("_buf",oc k B),("_offset",.int o),("_length",.int (B.length-o))]
theorem kW(Z:Std c){k:Bool}{B:List UInt8}{o p:Int}{ot:Option (List UInt8)}{dr:Option (List Int)}(hB:B.length<=16000000)(h:(0<=o/\p=o)\/(o<0/\p=B.length+o))(q:Q .none ⟨ot,dr,some [("_buf",oc k B),("_offset",.int p),("_length",.int (B.length-p))]⟩):
  ae c (n+1) 201 [.slf 253,.v (oc k B),.v (.int o)] [] ⟨ot,dr,some []⟩ Q X:=by
 refine Z.call (f:=201) rfl rfl rfl ?_
 rcases h with⟨h,rfl⟩|⟨h,rfl⟩<;>cases k
 all_goals
  have zq0:B.length<=16777216:=by exact uA 0x8000002000f4240040000c hB
  walk_at"ev"
  exact q
section
variable {f:fe->Prop}{sc:Scope}{x:Str}{body:List Stmt}{Q:Fo->aa->St->Prop}
theorem uo(J:Nat->aa->St->Prop)(R:Op->aa->St->Prop)(ret:∀o ρ S,R o ρ S->Q (.ret o) ρ S):∀(l:List AV) (i:Nat),
  (∀j a ρ S (K:Fo->aa->St->Prop),l[j]? =some a->J (i+j) ρ S->(∀ρ' S',J (i+j+1) (cB ρ ρ') S'->K .next ρ' S')->(∀o ρ' S',R o ρ' S'->K (.ret o) ρ' S')->f (.B sc body (bQ ρ x (.v a)) S K iF))->
  (∀ρ S,J (i+l.length) ρ S->Q .next ρ S)->∀ρ S,J i ρ S->xq f sc x body Q l ρ S:=by
 intro l
 induction l with
 | nil=>intro i _ done ρ S j;exact done ρ S j
 | cons a r ih=>
  intro i step done ρ S j
  refine step 0 a ρ S _ rfl j (λρ' S' j'=>?_) (λo ρ' S' r'=>ret o ρ' S' r')
  refine ih (i+1) (λk b ρ S K e j h1 h2=>?_) (λρ S j=>?_) _ S' j'
  ·exact step (k+1) b ρ S K e (by rw[show i+(k+1)=i+1+k by exact Nat.le_antisymm (uB 0x201201b04886018) (uB 0x910c03100900d8)];exact j) (λρ' S' q=>h1 ρ' S' (by rw[show i+1+k+1=i+(k+1)+1 by exact Nat.le_antisymm (uB 0x90488601b048804806d8) (uB 0x9100900db048244300d8)];exact q)) h2
  ·exact done ρ S (by rw[List.length_cons,show i+(r.length+1)=i+1+r.length by exact Nat.le_antisymm (uB 0x201201b04886018) (uB 0x910c03100900d8)];exact j)
theorem fR(J:Nat->aa->St->Prop)(R:Op->aa->St->Prop)(ret:∀o ρ S,R o ρ S->Q (.ret o) ρ S)(l:List AV)
  (step:∀j a ρ S (K:Fo->aa->St->Prop),l[j]? =some a->J j ρ S->(∀ρ' S',J (j+1) (cB ρ ρ') S'->K .next ρ' S')->(∀o ρ' S',R o ρ' S'->K (.ret o) ρ' S')->f (.B sc body (bQ ρ x (.v a)) S K iF))
  (done:∀ρ S,J l.length ρ S->Q .next ρ S) (ρ:aa) (S:St) (j0:J 0 ρ S):je f sc x body Q l ρ S:=
 ⟨l,rfl,uo J R ret l 0 (λj a ρ S K e jj k h=>by
  rw[Nat.zero_add]at jj k
  exact step j a ρ S K e jj k h) (λρ S jj=>done ρ S (by rwa [Nat.zero_add]at jj)) ρ S j0⟩
theorem bR(J:Nat->St->Prop)(ρ:aa)(hd:∀a,cB ρ (bQ ρ x a)=ρ)(l:List AV)(step:∀j a S (K:Fo->aa->St->Prop),l[j]? =some a->J j S->(∀S',J (j+1) S'->K .next (bQ ρ x (.v a)) S')->f (.B sc body (bQ ρ x (.v a)) S K iF))
  (done:∀S,J l.length S->Q .next ρ S) (S:St) (j0:J 0 S):je f sc x body Q l ρ S:=
 fR (λj ρ' S=>ρ'=ρ/\J j S) (λq0 q1 q2=>False) (λq0 q1 q2 r=>r.elim) l (λj a ρ' S K e jj k q0=>by
  obtain⟨rfl,jj⟩:=jj
  exact step j a S K e jj λS' j'=>k _ S' ⟨hd _,j'⟩) (λρ' S jj=>by
  obtain⟨rfl,jj⟩:=jj
  exact done S jj) ρ S ⟨rfl,j0⟩
variable {elt:Expr}{ρ:aa}{S:St}
theorem bx(g:AV->AV):∀(l:List AV) {K:List AV->St->Prop},(∀a∈l,∀K:Op->St->Prop,K (.v (g a)) S->f (.E sc elt ((x,.v a)::ρ) S K iF))->K (l.map g) S->eG f sc x [] elt ρ l S K:=by
 intro l
 induction l with
 | nil=>
  intro _ _ k
  exact k
 | cons a r ih=>
  intro K h k
  refine h a (.head _) _ ?_
  exact ih (λb m=>h b (.tail _ m)) k
theorem gY(J:Nat->List AV->St->Prop):∀(l:List AV) (i:Nat) {K:List AV->St->Prop} {S:St},
  (∀j a S vs (K:Op->St->Prop),l[j]? =some a->J (i+j) vs S->(∀v S',J (i+j+1) (vs++[v]) S'->K (.v v) S')->f (.E sc elt ((x,.v a)::ρ) S K iF))->
  ∀acc,(∀vs S,J (i+l.length) (acc++vs) S->K vs S)->J i acc S->eG f sc x [] elt ρ l S K:=by
 intro l
 induction l with
 | nil=>
  intro _ _ _ _ acc done j
  exact done [] _ (by rw[List.append_nil];exact j)
 | cons a r ih=>
  intro i K S step acc done j
  refine step 0 a S acc _ rfl j λv S' j'=>?_
  refine ih (i+1) (λk b S vs K e j h=>?_) (acc++[v]) (λvs S j=>?_) j'
  ·exact step (k+1) b S vs K e (by rw[show i+(k+1)=i+1+k by exact Nat.le_antisymm (uB 0x201201b04886018) (uB 0x910c03100900d8)];exact j) (λv S' q=>h v S' (by rw[show i+1+k+1=i+(k+1)+1 by exact Nat.le_antisymm (uB 0x90488601b048804806d8) (uB 0x9100900db048244300d8)];exact q))
  ·exact done (v::vs) S (by rw[List.length_cons,show i+(r.length+1)=i+1+r.length by exact Nat.le_antisymm (uB 0x201201b04886018) (uB 0x910c03100900d8),show acc++v::vs=acc++[v]++vs by simp];exact j)
theorem ni{e:Expr}(p:AV->Bool)(g:AV->AV):∀(l:List AV) {K:List AV->St->Prop},(∀a∈l,∀K:Bool->St->Prop,K (p a) S->f (.T sc e ((x,.v a)::ρ) S K iF))->
  (∀a∈l,p a=true->∀K:Op->St->Prop,K (.v (g a)) S->f (.E sc elt ((x,.v a)::ρ) S K iF))->K ((l.filter p).map g) S->eG f sc x [e] elt ρ l S K:=by
 intro l
 induction l with
 | nil=>
  intro _ _ _ k
  exact k
 | cons a r ih=>
  intro K h1 h2 k
  refine h1 a (.head _) _ ?_
  cases q:p a with
  | true=>
   refine h2 a (.head _) q _ ?_
   exact ih (λb m=>h1 b (.tail _ m)) (λb m=>h2 b (.tail _ m)) (by rw[List.filter_cons,if_pos q]at k;exact k)
  | false=>exact ih (λb m=>h1 b (.tail _ m)) (λb m=>h2 b (.tail _ m)) (by rw[List.filter_cons,if_neg (by rw[q];exact Bool.false_ne_true)]at k;exact k)
theorem sU{kx vx:Expr}(kf:AV->Str)(g:AV->AV):∀(l:List AV) (acc:List (Str×AV)) {K:List (Str×AV)->St->Prop},(∀a∈l,∀K:Op->St->Prop,K (.v (.str (kf a))) S->f (.E sc kx ((x,.v a)::ρ) S K iF))->
  (∀a∈l,∀K:Op->St->Prop,K (.v (g a)) S->f (.E sc vx ((x,.v a)::ρ) S K iF))->K (l.foldl (λacc a=>bq acc (kf a) (g a)) acc) S->pq f sc x kx vx ρ l acc S K:=by
 intro l
 induction l with
 | nil=>
  intro _ _ _ _ k
  exact k
 | cons a r ih=>
  intro acc K h1 h2 k
  refine h1 a (.head _) _ ?_
  refine h2 a (.head _) _ ?_
  exact ih _ (λb m=>h1 b (.tail _ m)) (λb m=>h2 b (.tail _ m)) k
end
theorem b0{m:Nat}{i:Nat}{a:AV}(h:(df 0 m)[i]? =some a):i<m/\a=.int i:=by
 have q:i<m:=by have:=(List.getElem?_eq_some_iff.mp h).1;rwa [bc]at this
 rw[jv m 0 i q,Int.zero_add]at h
 cases h;exact⟨q,rfl⟩
theorem b7{m:Nat}{a:AV}(h:a∈df 0 m):∃i:Nat,i<m/\a=.int i:=by
 obtain⟨i,e⟩:=List.mem_iff_getElem?.mp h
 exact⟨i,b0 e⟩
theorem rz{α:Type}{l:List α}{lo hi:Int}{a b:Nat}(h1:lo=a)(h2:hi=b)(h3:a<=b)(h4:b<=l.length):part l (some lo) (some hi)=(l.drop a).take (b-a):=by
 subst h1 h2
 have k:∀i:Nat,i<=l.length->clipAt l.length i=i:=λi h=>by
  unfold clipAt
  rw[if_neg (by exact Int.not_lt.mpr (uA 0x100000011)),Int.min_eq_left (Int.ofNat_le.mpr h),Int.max_eq_right (Int.natCast_nonneg _)]
  rfl
 unfold part
 show(l.drop (clipAt l.length a)).take (clipAt l.length b-clipAt l.length a)=_
 rw[k a (by exact uC 0x4000202000c100000c h3 h4),k b h4]
theorem dq(Z:Std c){k:Bool}{B:List UInt8}{o s e:Int}{a b:Nat}(hB:B.length<=16000000)(h1:o+s=a)(h2:o+e=b)(h3:a<=b)(h4:b<=B.length)(q:Q (oc k ((B.drop a).take (b-a))) sh):
  ae c (n+1) 222 [.v (dg k B o),.v (.int s),.v (.int e)] [] sh Q X:=by
 refine Z.call (f:=222) rfl rfl rfl ?_
 rw[<-rz h1 h2 h3 h4]at q
 cases k
 all_goals
  have zq0:B.length<=16777216:=by exact uA 0x8000002000f4240040000c hB
  walk_at"ev"
  exact q
theorem AM(Z:Std c){k:Bool}{B:List UInt8}{o j:Int}{p:Nat}{d:UInt8}(hB:B.length<=16000000)(h1:o+j=p)(h2:B[p]? =some d)(q:Q (.int d.toNat) sh):
  ae c (n+1) 208 [.v (dg k B o),.v (.int j)] [] sh Q X:=by
 refine Z.call (f:=208) rfl rfl rfl ?_
 have e:dT B (o+j)=some d:=by
  unfold dT;rw[h1,decide_eq_true (by exact uA 0x100000011)];exact h2
 cases k
 all_goals
  walk_at"ev"
  rw[e]
  walk_at"ev"
  exact q
theorem mD(Z:Std c){k:Bool}{B:List UInt8}{o j:Int}{p:Nat}(hB:B.length<=16000000)(h1:o+j=p)(q:Q (dg k B p) sh):ae c (n+3) 243 [.v (dg k B o),.v (.int j)] [] sh Q X:=by
 refine Z.call (f:=243) rfl rfl rfl ?_
 walk_at"ev"
 refine kW Z.soft hB (.inl ⟨by exact nl [_] [_,_] 0x400600000022008800e00f h1,h1.symm⟩) ?_
 walk_at"ev"
 exact q
def w4(w:Nat):Prop:=w=1\/w=2\/w=4\/w=8
noncomputable def num(B:List UInt8)(p w:Nat):Int:=iE ((B.drop p).take w)
theorem aS{B:List UInt8}{p w:Nat}(h:p+w<=B.length):((B.drop p).take w).length=w:=by rw[List.length_take,List.length_drop];lia
theorem oJ(Z:Std c){k:Bool}{B:List UInt8}{o j:Int}{w p a:Nat}(hB:B.length<=16000000)(hw:w4 w)(h1:o+j=p)(h2:p+w<=B.length)(h3:(p:Int)-num B p w=a)(q:Q (dg k B a) sh):
  ae c (n+4) 250 [.v (dg k B o),.v (.int j),.v (.int w)] [] sh Q X:=by
 refine Z.call (f:=250) rfl rfl rfl ?_
 walk_at"ev"
 refine dq Z hB h1 (show _=((p+w:Nat):Int) by exact Int.le_antisymm (nl [_,_] [_,_] 0x400644110c032008800dfff h1) (nl [_,_] [_,_] 0x4110c03100192008800e00f h1)) (by exact uB 0x800c00) h2 ?_
 rw[show p+w-p=w by exact Nat.le_antisymm (uC 0x400020218800dffe (Nat.sub_add_cancel (n:=p+w) (m:=p) (uB 0x800c00))) (uC 0x8020218800e00e (Nat.sub_add_cancel (n:=p+w) (m:=p) (uB 0x800c00)))]
 walk_at"ev"
 refine dP Z (by rw[aS h2];exact hw) ?_
 walk_at"ev"
 refine mD Z (p:=a) hB (by unfold num at h3;exact Int.le_antisymm (nl [_,_] [_,_,_] 0x209011803220900073ffe008800dfff h1 h3) (nl [_,_] [_,_,_] 0x404600c4122090007401e008800e00f h1 h3)) ?_
 walk_at"ev"
 exact q
theorem Ej(Z:Std c){k:Bool}{B:List UInt8}{p m:Nat}(hB:B.length<=16000000)(h1:p+m<B.length)(h2:B[p+m]? =some 0)(h3:∀i,i<m->∀d,B[p+i]? =some d->d≠0)(q:Q (.int m) sh):
  ae c (n+1) 236 [.v (dg k B p),.v (.int 0)] [] sh Q X:=by
 refine Z.call (f:=236) rfl rfl rfl ?_
 walk_at"ev"
 refine fR (λj ρ S=>j<=m/\S=⟨sh,[]⟩/\ρ=[(("self" :Str),.v (dg k B p)),(("sub" :Str),.v (.int 0))]) (λo ρ S=>o=.v (.int m)/\S=⟨sh,[]⟩) (λo ρ S r=>?_) _ (λj a ρ S K ja jj k1 k2=>?_) (λρ S j=>?_) _ _ ⟨by exact uA 0x8,rfl,rfl⟩
 ·obtain⟨rfl,rfl⟩:=r
  exact q
 ·obtain⟨j1,rfl,rfl⟩:=jj
  obtain⟨ji,rfl⟩:=b0 ja
  obtain⟨d,hd⟩:∃d,B[p+j]? =some d:=⟨B[p+j]'(by exact uD 0x4012600360418003080244006c00c h1 j1),List.getElem?_eq_getElem _⟩
  have e:dT B ((p:Int)+j)=some d:=by
   unfold dT;rw[show(p:Int)+j=((p+j:Nat):Int) by exact Int.le_antisymm (uB 0x40064410059) (uB 0x410058800c9),decide_eq_true (by exact uB 0x1001900000011)];exact hd
  have ed:decide ((d.toNat:Int)=0)=decide (j=m):=by
   by_cases w:j=m
   ·subst w;rw[h2]at hd;cases hd;rw[decide_eq_true rfl];rfl
   ·have:=h3 j (by lia) d hd
    rw[decide_eq_false w,decide_eq_false]
    intro z
    exact this (UInt8.toNat_inj.mp (by show d.toNat=0;exact Nat.le_antisymm (uA 0x8000000002005fff z) (uA 0x8)))
  cases k
  all_goals
   have zq0:B.length<=16777216:=by exact uA 0x8000002000f4240040000c hB
   walk_at"ev"
   rw[e]
   walk_at"ev"
   refine aD (λw=>?_) (λw=>?_)
   ·rw[ed]at w
    obtain rfl:=of_decide_eq_true w
    walk_at"ev"
    exact k2 _ _ _ ⟨rfl,rfl⟩
   ·rw[ed]at w
    have w:=of_decide_eq_false w
    walk_at"ev"
    exact k1 _ _ ⟨by lia,rfl,rfl⟩
 ·rw[bc]at j
  lia
structure Kg(C:Addr):Prop where
 b:T0.cat C "_buf" =some .field
 w:T0.cat C "_byte_width" =some .field
 s:T0.cat C "_size" =some .field
 p:T0.cat C "SizeBytes" =some (.prop 310)
 l:T0.cat C "__len__" =some (.meth 318)
theorem HU{C:Addr}(h:C∈subs):Kg C:=by
 unfold subs at h
 simp only[List.mem_cons,List.not_mem_nil,or_false]at h
 rcases h with rfl|rfl|rfl|rfl|rfl<;>exact⟨rfl,rfl,rfl,rfl,rfl⟩
theorem eU(Z:Std c){C:Addr}{b:AV}{w:Int}{ot:Option (List UInt8)}{dr:Option (List Int)}(hb:T0.cat C "_buf" =some .field)(hw:T0.cat C "_byte_width" =some .field)
  (q:Q .none ⟨ot,dr,some [("_buf",b),("_byte_width",.int w)]⟩):ae c (n+1) 271 [.slf C,.v b,.v (.int w)] [] ⟨ot,dr,some []⟩ Q X:=by
 refine Z.call (f:=271) rfl rfl rfl ?_
 walk_at"ev"
 rw[show T0.cat C (Str.ofString "_buf")=some .field from hb]
 walk_at"ev"
 rw[show T0.cat C (Str.ofString "_byte_width")=some .field from hw]
 walk_at"ev"
 exact q
theorem hM(Z:Std c){C:Addr}(K:Kg C){k:Bool}{B:List UInt8}{p w:Nat}{ot:Option (List UInt8)}{dr:Option (List Int)}(hB:B.length<=16000000)(hw:w<=p)(hp:p<=B.length)(x:List (Str×AV))
  (q:Q (oc k ((B.drop (p-w)).take w)) ⟨ot,dr,some (("_buf",dg k B p)::("_byte_width",.int w)::x)⟩):
  ae c (n+2) 310 [.slf C] [] ⟨ot,dr,some (("_buf",dg k B p)::("_byte_width",.int w)::x)⟩ Q X:=by
 refine Z.call (f:=310) rfl rfl rfl ?_
 walk_at"ev"
 rw[show T0.cat C (Str.ofString "_buf")=some .field from K.b]
 walk_at"ev"
 rw[show T0.cat C (Str.ofString "_byte_width")=some .field from K.w]
 walk_at"ev"
 refine dq Z (a:=p-w) (b:=p) hB (by exact Int.le_antisymm (uC 0x883c816480800e00e (Nat.sub_add_cancel (n:=p) (m:=w) (uB 0x2000100000c hw))) (uC 0x20f205802480800dffe (Nat.sub_add_cancel (n:=p) (m:=w) (uB 0x2000100000c hw)))) (by exact Int.le_antisymm (uA 0x200000020059) (uA 0x8016009)) (by exact uC 0x1000080800dffe (Nat.sub_add_cancel (n:=p) (m:=w) (uB 0x2000100000c hw))) hp ?_
 walk_at"ev"
 rw[show p-(p-w)=w by lia]
 exact q
noncomputable abbrev cw(C:Addr)(k:Bool)(B:List UInt8)(p w m:Int):AV:=.inst C [("_buf",dg k B p),("_byte_width",.int w),("_size",.int m)]
theorem bz(Z:Std c)(hc:c.clean=false){C:Addr}(hC:C∈subs){k:Bool}{B:List UInt8}{p w:Nat}{ot:Option (List UInt8)}{dr:Option (List Int)}(hB:B.length<=16000000)(h4:w4 w)(hw:w<=p)(hp:p<=B.length)
  (q:Q .none ⟨ot,dr,some [("_buf",dg k B p),("_byte_width",.int w),("_size",.int (num B (p-w) w))]⟩):ae c (n+4) 303 [.slf C,.v (dg k B p),.v (.int w)] [] ⟨ot,dr,some []⟩ Q X:=by
 have K:=HU hC
 refine cu.call (Z.one.sized C hC) rfl _ (.inr ⟨rfl,rfl,rfl⟩) λcd cc SA=>eH (rest:=(bodyOf (D2 12 0)).tail) Z.one.fa hc SA rfl rfl rfl rfl rfl (k:=60) (m:=60) ?_
 walk_at"ev"
 refine eU Z K.b K.w ?_
 walk_at"ev"
 rw[show T0.cat C (Str.ofString "SizeBytes")=some (.prop 310)from K.p]
 walk_at"ev"
 refine hM Z.soft K hB hw hp _ ?_
 walk_at"ev"
 refine dP Z (by rw[aS (by exact uD 0x20c106001820dffe100000c hp (Nat.sub_add_cancel (n:=p) (m:=w) (uB 0x2000100000c hw)))];exact h4) ?_
 walk_at"ev"
 rw[show T0.cat C (Str.ofString "_size")=some .field from K.s]
 walk_at"ev"
 exact q
theorem n0(Z:Std c)(hc:c.clean=false){C:Addr}(hC:C∈subs){b:AV}{w m:Int}{ot:Option (List UInt8)}{dr:Option (List Int)}(hm:m≠0)
  (q:Q .none ⟨ot,dr,some [("_buf",b),("_byte_width",.int w),("_size",.int m)]⟩):ae c (n+4) 303 [.slf C,.v b,.v (.int w),.v (.int m)] [] ⟨ot,dr,some []⟩ Q X:=by
 have K:=HU hC
 refine cu.call (Z.one.sized C hC) rfl _ (.inl ⟨rfl,rfl⟩) λcd cc SA=>eH (rest:=(bodyOf (D2 12 0)).tail) Z.one.fa hc SA rfl rfl rfl rfl rfl (k:=60) (m:=60) ?_
 walk_at"ev"
 refine eU Z K.b K.w ?_
 walk_at"ev"
 rw[show T0.cat C (Str.ofString "_size")=some .field from K.s]
 walk_at"ev"
 exact q
theorem kU(Z:Std c)(hc:c.clean=false){b:AV}{ot:Option (List UInt8)}{dr:Option (List Int)}
  (q:Q .none ⟨ot,dr,some [("_buf",b),("_byte_width",.int 1)]⟩):ae c (n+2) 407 [.slf 439,.v b,.v (.int 1)] [] ⟨ot,dr,some []⟩ Q X:=by
 refine cu.call Z.one.key rfl _ (.inl ⟨rfl,rfl⟩) λcd cc SA=>sY (rest:=[]) Z.one.fa hc SA rfl rfl rfl rfl rfl (j:=60) (k:=60) (m:=60) ?_ ?_
 ·walk_at"ev"
  first|exact⟨rfl,rfl⟩|exact rfl
 walk_at"ev"
 refine eU Z rfl rfl ?_
 walk_at"ev"
 exact q
noncomputable abbrev sl(B:List UInt8)(p m:Nat):List UInt8:=(B.drop p).take m
noncomputable abbrev EP(k:Bool)(B:List UInt8)(p:Int):AV:=.inst 439 [("_buf",dg k B p),("_byte_width",.int 1)]
noncomputable abbrev g9(k:Bool)(B:List UInt8)(p w m t:Int):AV:=.inst 529 [("_buf",dg k B p),("_byte_width",.int w),("_size",.int m),("_element_type",.int t)]
noncomputable abbrev aO(k:Bool)(B:List UInt8)(p w b t:Int):AV:=.inst 858 [("_buf",dg k B p),("_parent_width",.int w),("_byte_width",.int b),("_type",.int t)]
theorem aA(Z:Std c){C:Addr}{fs:List (Str×AV)}{m:Int}(hC:C∈subs)(h:a7 fs "_size" =some (.int m))(q:Q (.int m) sh):ae c (n+1) 318 [.v (.inst C fs)] [] sh Q X:=by
 have K:=HU hC
 refine Z.call (f:=318) rfl rfl rfl ?_
 walk_at"ev"
 rw[show T0.cat C (Str.ofString "_size")=some .field from K.s]
 walk_at"ev"
 rw[show a7 fs (Str.ofString "_size")=_ from h]
 walk_at"ev"
 exact q
theorem oW(Z:Std c){k:Bool}{B:List UInt8}{p m:Nat}{w:Int}(hB:B.length<=16000000)(hp:p+m<=B.length)(q:Q (oc k (sl B p m)) sh):ae c (n+3) 337 [.v (cw 348 k B p w m)] [] sh Q X:=by
 refine Z.call (f:=337) rfl rfl rfl ?_
 walk_at"ev"
 refine aA Z.soft (by decide) rfl ?_
 walk_at"ev"
 refine dq Z (a:=p) (b:=p+m) hB (by exact Int.le_antisymm (uA 0x200000020059) (uA 0x8016009)) (by exact Int.le_antisymm (uB 0x40064410059) (uB 0x410058800c9)) (by exact uB 0x800c00) hp ?_
 walk_at"ev"
 rw[show p+m-p=m by exact Nat.le_antisymm (uC 0x400020218800dffe (Nat.sub_add_cancel (n:=p+m) (m:=p) (uB 0x800c00))) (uC 0x8020218800e00e (Nat.sub_add_cancel (n:=p+m) (m:=p) (uB 0x800c00)))]
 exact q
theorem fq(Z:Std c){k:Bool}{B:List UInt8}{p m:Nat}{w:Int}(hB:B.length<=16000000)(hp:p+m<=B.length)(q:Q (oc k (sl B p m)) sh):ae c (n+3) 364 [.v (cw 389 k B p w m)] [] sh Q X:=by
 refine Z.call (f:=364) rfl rfl rfl ?_
 walk_at"ev"
 refine aA Z.soft (by decide) rfl ?_
 walk_at"ev"
 refine dq Z (a:=p) (b:=p+m) hB (by exact Int.le_antisymm (uA 0x200000020059) (uA 0x8016009)) (by exact Int.le_antisymm (uB 0x40064410059) (uB 0x410058800c9)) (by exact uB 0x800c00) hp ?_
 walk_at"ev"
 rw[show p+m-p=m by exact Nat.le_antisymm (uC 0x400020218800dffe (Nat.sub_add_cancel (n:=p+m) (m:=p) (uB 0x800c00))) (uC 0x8020218800e00e (Nat.sub_add_cancel (n:=p+m) (m:=p) (uB 0x800c00)))]
 exact q
theorem nO(Z:Std c){k:Bool}{B:List UInt8}{p m:Nat}{w:Int}{x:Str}(hB:B.length<=16000000)(hp:p+m<=B.length)(h1:x.cps.toList.all c7=true)(h2:aZ x=sl B p m)(h3:x.cps.toList.length<=16000000)(q:Q (.str x) sh):ae c (n+5) 379 [.v (cw 389 k B p w m)] [] sh Q X:=by
 have hm:(sl B p m).length<=16000000:=by rw[aS hp];exact uC 0x1e848008800040430030f4240040000c hB hp
 refine Z.call (f:=379) rfl rfl rfl ?_
 walk_at"ev"
 refine fq Z.soft hB hp ?_
 cases k
 all_goals
  have zq0:(sl B p m).length<=16777216:=by exact uA 0x8000002000f4240040000c hm
  walk_at"ev"
  refine⟨x,h1,by exact uA 0x8000002000f4240040000c h3,h2,?_⟩
  walk_at"ev"
  exact q
theorem ye(Z:Std c){k:Bool}{B:List UInt8}{p m:Nat}(hB:B.length<=16000000)(h1:p+m<B.length)(h2:B[p+m]? =some 0)(h3:∀i,i<m->∀d,B[p+i]? =some d->d≠0)(q:Q (.int m) sh):ae c (n+2) 422 [.v (EP k B p)] [] sh Q X:=by
 refine Z.call (f:=422) rfl rfl rfl ?_
 walk_at"ev"
 refine Ej Z hB h1 h2 h3 ?_
 walk_at"ev"
 exact q
theorem jC(Z:Std c){k:Bool}{B:List UInt8}{p m:Nat}(hB:B.length<=16000000)(h1:p+m<B.length)(h2:B[p+m]? =some 0)(h3:∀i,i<m->∀d,B[p+i]? =some d->d≠0)(q:Q (oc k (sl B p m)) sh):ae c (n+4) 414 [.v (EP k B p)] [] sh Q X:=by
 refine Z.call (f:=414) rfl rfl rfl ?_
 walk_at"ev"
 refine ye Z.soft hB h1 h2 h3 ?_
 walk_at"ev"
 refine dq Z (a:=p) (b:=p+m) hB (by exact Int.le_antisymm (uA 0x200000020059) (uA 0x8016009)) (by exact Int.le_antisymm (uB 0x40064410059) (uB 0x410058800c9)) (by exact uB 0x800c00) (by exact uC 0x404006080244006c00c h1) ?_
 walk_at"ev"
 rw[show p+m-p=m by exact Nat.le_antisymm (uC 0x400020218800dffe (Nat.sub_add_cancel (n:=p+m) (m:=p) (uB 0x800c00))) (uC 0x8020218800e00e (Nat.sub_add_cancel (n:=p+m) (m:=p) (uB 0x800c00)))]
 exact q
theorem xy(Z:Std c){k:Bool}{B:List UInt8}{p m:Nat}{x:Str}(hB:B.length<=16000000)(h1:p+m<B.length)(h2:B[p+m]? =some 0)(h3:∀i,i<m->∀d,B[p+i]? =some d->d≠0)
  (h4:(x.cps.toList.all λc=>Nat.blt c 128)=true) (h5:aY x=sl B p m) (h6:x.cps.toList.length<=16000000) (q:Q (.str x) sh):ae c (n+6) 429 [.v (EP k B p)] [] sh Q X:=by
 have hm:(sl B p m).length<=16000000:=by rw[aS (by exact uC 0x404006080244006c00c h1)];exact uC 0x1e8480088000092021b0030f4240040000c hB h1
 refine Z.call (f:=429) rfl rfl rfl ?_
 walk_at"ev"
 refine jC Z.soft hB h1 h2 h3 ?_
 cases k
 all_goals
  walk_at"ev"
  refine⟨x,h4,by exact uA 0x8000002000f4240040000c h6,h5,?_⟩
  walk_at"ev"
  exact q
theorem gL(Z:Std c){b:AV}{w bw t:Int}{ot:Option (List UInt8)}{dr:Option (List Int)}(q:Q .none ⟨ot,dr,some [("_buf",b),("_parent_width",.int w),("_byte_width",.int bw),("_type",.int t)]⟩):
  ae c (n+1) 613 [.slf 858,.v b,.v (.int w),.v (.int bw),.v (.int t)] [] ⟨ot,dr,some []⟩ Q X:=by
 refine Z.call (f:=613) rfl rfl rfl ?_
 walk_at"ev"
 exact q
theorem v3(Z:Std c){b:AV}{w t:Int}{e:Nat}(h:fh t)(he:e<=3)(q:Q (.inst 858 [("_buf",b),("_parent_width",.int w),("_byte_width",.int (2^e)),("_type",.int t)]) sh):ae c (n+3) 603 [.v b,.v (.int w),.v (.int (4*t+e))] [] sh Q X:=by
 refine Z.call (f:=603) rfl rfl rfl ?_
 walk_at"ev"
 refine nB Z h he ?_
 walk_at"ev"
 refine gL Z.soft ?_
 walk_at"ev"
 exact q
theorem qn(Z:Std c){b:AV}{w t:Int}{e:Nat}(h:fh t)(he:e<=3)(q:Q (.inst 858 [("_buf",b),("_parent_width",.int w),("_byte_width",.int (2^e)),("_type",.int t)]) sh):ae c (n+3) 603 [.v b,.v (.int w)] [("packed_type",.v (.int (4*t+e)))] sh Q X:=by
 refine Z.callKw rfl rfl ?_
 walk_at"ev"
 refine nB Z h he ?_
 walk_at"ev"
 refine gL Z.soft ?_
 walk_at"ev"
 exact q
theorem jW(Z:Std c)(hc:c.clean=false){C:Addr}(hC:C∈subs){k:Bool}{B:List UInt8}{p w:Nat}{ot:Option (List UInt8)}{dr:Option (List Int)}(hB:B.length<=16000000)(h4:w4 w)(hw:w<=p)(hp:p<=B.length)
  (q:Q .none ⟨ot,dr,some [("_buf",dg k B p),("_byte_width",.int w),("_size",.int (num B (p-w) w))]⟩):ae c (n+4) 303 [.slf C,.v (dg k B p),.v (.int w),.v (.int 0)] [] ⟨ot,dr,some []⟩ Q X:=by
 have K:=HU hC
 refine cu.call (Z.one.sized C hC) rfl _ (.inl ⟨rfl,rfl⟩) λcd cc SA=>eH (rest:=(bodyOf (D2 12 0)).tail) Z.one.fa hc SA rfl rfl rfl rfl rfl (k:=60) (m:=60) ?_
 walk_at"ev"
 refine eU Z K.b K.w ?_
 walk_at"ev"
 rw[show T0.cat C (Str.ofString "SizeBytes")=some (.prop 310)from K.p]
 walk_at"ev"
 refine hM Z.soft K hB hw hp _ ?_
 walk_at"ev"
 refine dP Z (by rw[aS (by exact uD 0x20c106001820dffe100000c hp (Nat.sub_add_cancel (n:=p) (m:=w) (uB 0x2000100000c hw)))];exact h4) ?_
 walk_at"ev"
 rw[show T0.cat C (Str.ofString "_size")=some .field from K.s]
 walk_at"ev"
 exact q
noncomputable def pR(t:Int):Int:=bif decide (t=5)then 4 else t
theorem ku(Z:Std c)(hc:c.clean=false){k:Bool}{B:List UInt8}{p w:Nat}{t:Int}{ot:Option (List UInt8)}{dr:Option (List Int)}(hB:B.length<=16000000)(h4:w4 w)(hw:w<=p)(hp:p<=B.length)
  (q:Q .none ⟨ot,dr,some [("_buf",dg k B p),("_byte_width",.int w),("_size",.int (num B (p-w) w)),("_element_type",.int (pR t))]⟩):ae c (n+5) 490 [.slf 529,.v (dg k B p),.v (.int w),.v (.int t)] [] ⟨ot,dr,some []⟩ Q X:=by
 refine cu.call Z.one.tvec rfl _ (.inr ⟨rfl,rfl,rfl⟩) λcd cc SA=>eH (rest:=(bodyOf (D2 17 0)).tail) Z.one.fa hc SA rfl rfl rfl rfl rfl (k:=60) (m:=60) ?_
 walk_at"ev"
 refine jW Z hc (by decide) hB h4 hw hp ?_
 walk_at"ev"
 unfold pR at q
 refine aD (λh=>?_) (λh=>?_)
 all_goals
  rw[h]at q
  walk_at"ev"
  exact q
theorem yD(Z:Std c)(hc:c.clean=false){b:AV}{w t m:Int}{ot:Option (List UInt8)}{dr:Option (List Int)}(hm:m≠0)
  (q:Q .none ⟨ot,dr,some [("_buf",b),("_byte_width",.int w),("_size",.int m),("_element_type",.int (pR t))]⟩):ae c (n+5) 490 [.slf 529,.v b,.v (.int w),.v (.int t),.v (.int m)] [] ⟨ot,dr,some []⟩ Q X:=by
 refine cu.call Z.one.tvec rfl _ (.inl ⟨rfl,rfl⟩) λcd cc SA=>eH (rest:=(bodyOf (D2 17 0)).tail) Z.one.fa hc SA rfl rfl rfl rfl rfl (k:=60) (m:=60) ?_
 walk_at"ev"
 refine n0 Z hc (by decide) hm ?_
 walk_at"ev"
 unfold pR at q
 refine aD (λh=>?_) (λh=>?_)
 all_goals
  rw[h]at q
  walk_at"ev"
  exact q
theorem lH(Z:Std c){k:Bool}{B:List UInt8}{p w m i e:Nat}{t:Int}{d:UInt8}(hB:B.length<=16000000)(h4:w4 w)(hm:m<=16000000)(hi:i<m)(hd:B[p+m*w+i]? =some d)(ht:fh t)(he:e<=3)(hdt:(d.toNat:Int)=4*t+e)
  (q:Q (aO k B (p+i*w:Nat) w (2^e) t) sh):ae c (n+4) 455 [.v (cw 471 k B p w m),.v (.int i)] [] sh Q X:=by
 refine Z.call (f:=455) rfl rfl rfl ?_
 have hw:(w:Int)<=8:=by unfold w4 at h4;lia
 walk_at"ev"
 refine aA Z.soft (by decide) rfl ?_
 walk_at"ev"
 refine aA Z.soft (by decide) rfl ?_
 walk_at"ev"
 refine AM Z.soft (p:=p+m*w+i) hB (by lia) hd ?_
 walk_at"ev"
 refine mD Z (p:=p+i*w) hB (by lia) ?_
 walk_at"ev"
 rw[hdt]
 refine v3 Z ht he ?_
 walk_at"ev"
 exact q
theorem wb(Z:Std c){k:Bool}{B:List UInt8}{p w m i:Nat}{t:Int}(hB:B.length<=16000000)(hm:m<=16000000)(hi:i<m)
  (q:Q (aO k B (p+i*w:Nat) w 1 t) sh):ae c (n+4) 513 [.v (g9 k B p w m t),.v (.int i)] [] sh Q X:=by
 refine Z.call (f:=513) rfl rfl rfl ?_
 walk_at"ev"
 refine aA Z.soft (by decide) rfl ?_
 walk_at"ev"
 refine mD Z (p:=p+i*w) hB (by lia) ?_
 walk_at"ev"
 refine gL Z.soft ?_
 walk_at"ev"
 exact q
theorem lr(Z:Std c){k:Bool}{B:List UInt8}{p w m:Nat}{t:Int}(hB:B.length<=16000000)(hw:w<=8)(hm:m<=16000000)(hp:p+w*m<=B.length)
  (q:Q (oc k (sl B p (w*m))) sh):ae c (n+3) 497 [.v (g9 k B p w m t)] [] sh Q X:=by
 refine Z.call (f:=497) rfl rfl rfl ?_
 walk_at"ev"
 refine aA Z.soft (by decide) rfl ?_
 walk_at"ev"
 refine dq Z (a:=p) (b:=p+w*m) hB (by exact Int.le_antisymm (uA 0x200000020059) (uA 0x8016009)) (by lia) (by exact uB 0x800c00) hp ?_
 walk_at"ev"
 rw[show p+w*m-p=w*m by exact Nat.le_antisymm (uC 0x400020218800dffe (Nat.sub_add_cancel (n:=p+w*m) (m:=p) (uB 0x800c00))) (uC 0x8020218800e00e (Nat.sub_add_cancel (n:=p+w*m) (m:=p) (uB 0x800c00)))]
 exact q
theorem wC(Z:Std c){k:Bool}{B:List UInt8}{p w:Nat}{m:Int}(hB:B.length<=16000000)(h4:w4 w)(hw:w<=p)(hp:p<=B.length)(q:Q (cw 471 k B p w (num B (p-w) w)) sh):ae c (n+6) 570 [.v (cw 587 k B p w m)] [] sh Q X:=by
 refine Z.call (f:=570) rfl rfl rfl ?_
 walk_at"ev"
 refine bz Z.soft rfl (by decide) hB h4 hw hp ?_
 walk_at"ev"
 exact q
theorem Df(Z:Std c){k:Bool}{B:List UInt8}{p w a v:Nat}{m:Int}(hB:B.length<=16000000)(h4:w4 w)(hw:3*w<=p)(hp:p<=B.length)(hv:num B (p-2*w) w=v)(hv4:w4 v)(ha:(p:Int)-3*w-num B (p-3*w) w=a)(hva:v<=a)(hap:a<=B.length)
  (q:Q (g9 k B a v (num B (a-v) v) 4) sh):ae c (n+7) 562 [.v (cw 587 k B p w m)] [] sh Q X:=by
 refine Z.call (f:=562) rfl rfl rfl ?_
 have h8:w<=8:=by unfold w4 at h4;lia
 walk_at"ev"
 refine dq Z (a:=p-2*w) (b:=p-w) hB (by lia) (by lia) (by lia) (by exact uC 0x2080004000c100000c hp (Nat.sub_le (p) (w))) ?_
 rw[show p-w-(p-2*w)=w by lia]
 walk_at"ev"
 refine dP Z (by rw[aS (by lia)];exact h4) ?_
 rw[show iE (List.take w (List.drop (p-2*w) B))=v from hv]
 walk_at"ev"
 refine oJ Z (p:=p-3*w) (a:=a) hB h4 (by lia) (by exact uD 0x41820c003001c20dffe100000c hp (Nat.sub_add_cancel (n:=p) (m:=3*w) (uB 0x80001c0200007000c hw))) (by exact Int.le_antisymm (nl [_,_,_,_] [_] 0x810060e20040070c37ff8810020807001d9fff ha (Nat.sub_add_cancel (n:=p) (m:=3*w) (uB 0x80001c0200007000c hw))) (nl [_,_,_,_] [_] 0x18388120040070c38038810020807001da00f ha (Nat.sub_add_cancel (n:=p) (m:=3*w) (uB 0x80001c0200007000c hw)))) ?_
 walk_at"ev"
 refine ku Z.soft rfl hB hv4 hva hap ?_
 walk_at"ev"
 exact q
noncomputable def in2(t a b:Int):Bool:=decide (a=t)||(decide (b=t)||false)
theorem mm(Z:Std c){k:Bool}{B:List UInt8}{p w:Nat}{b t:Int}(hB:B.length<=16000000)(hp:p+w<=B.length)(q:Q (oc k (sl B p w)) sh):ae c (n+2) 627 [.v (aO k B p w b t)] [] sh Q X:=by
 refine Z.call (f:=627) rfl rfl rfl ?_
 walk_at"ev"
 refine dq Z (a:=p) (b:=p+w) hB (by exact Int.le_antisymm (uA 0x200000020059) (uA 0x8016009)) (by exact Int.le_antisymm (uB 0x40064410059) (uB 0x410058800c9)) (by exact uB 0x800c00) hp ?_
 walk_at"ev"
 rw[show p+w-p=w by exact Nat.le_antisymm (uC 0x400020218800dffe (Nat.sub_add_cancel (n:=p+w) (m:=p) (uB 0x800c00))) (uC 0x8020218800e00e (Nat.sub_add_cancel (n:=p+w) (m:=p) (uB 0x800c00)))]
 exact q
theorem er(Z:Std c){k:Bool}{B:List UInt8}{p w a:Nat}{b t:Int}(hB:B.length<=16000000)(hw:w4 w)(h2:p+w<=B.length)(h3:(p:Int)-num B p w=a)(q:Q (dg k B a) sh):ae c (n+5) 642 [.v (aO k B p w b t)] [] sh Q X:=by
 refine Z.call (f:=642) rfl rfl rfl ?_
 walk_at"ev"
 refine oJ Z (p:=p) (a:=a) hB hw (by exact Int.le_antisymm (uA 0x200000020059) (uA 0x8016009)) h2 h3 ?_
 walk_at"ev"
 exact q
theorem fZ(Z:Std c)(hc:c.clean=false){k:Bool}{B:List UInt8}{p w b t:Int}{m:Int}(ht:0<=t/\t<100)(hm:0<=m/\m<100)(q:X sh):ae c (n+1) 635 [.v (aO k B p w b t),.v (.int m)] [] sh Q X:=by
 refine Z.call (f:=635) rfl rfl rfl ?_
 have zq0:0<=t:=by exact uI 0x4400000000800d ht.1
 have zq1:0<=m:=by exact uI 0x4400000000800d hm.1
 walk_at"ev"
 exact q
theorem rK(Z:Std c)(hc:c.clean=false){k:Bool}{B:List UInt8}{p w b t:Int}{m:Str}(ht:0<=t/\t<100)(hm:m.length<=1000)(q:X sh):ae c (n+1) 635 [.v (aO k B p w b t),.v (.str m)] [] sh Q X:=by
 refine Z.call (f:=635) rfl rfl rfl ?_
 walk_at"ev"
 exact q
theorem fJ(Z:Std c){k:Bool}{B:List UInt8}{p w b t:Int}(q:Q (.bool (decide (t=0))) sh):ae c (n+1) 649 [.v (aO k B p w b t)] [] sh Q X:=by
 refine Z.call (f:=649) rfl rfl rfl ?_
 walk_at"ev"
 exact q
theorem gg(Z:Std c){k:Bool}{B:List UInt8}{p w b t:Int}(q:Q (.bool (decide (t=26))) sh):ae c (n+1) 657 [.v (aO k B p w b t)] [] sh Q X:=by
 refine Z.call (f:=657) rfl rfl rfl ?_
 walk_at"ev"
 exact q
theorem iB(Z:Std c){k:Bool}{B:List UInt8}{p w b t:Int}(q:Q (.bool (decide (t=4))) sh):ae c (n+1) 719 [.v (aO k B p w b t)] [] sh Q X:=by
 refine Z.call (f:=719) rfl rfl rfl ?_
 walk_at"ev"
 exact q
theorem dS(Z:Std c){k:Bool}{B:List UInt8}{p w b t:Int}(q:Q (.bool (decide (t=5))) sh):ae c (n+1) 743 [.v (aO k B p w b t)] [] sh Q X:=by
 refine Z.call (f:=743) rfl rfl rfl ?_
 walk_at"ev"
 exact q
theorem gh(Z:Std c){k:Bool}{B:List UInt8}{p w b t:Int}(q:Q (.bool (decide (t=25))) sh):ae c (n+1) 774 [.v (aO k B p w b t)] [] sh Q X:=by
 refine Z.call (f:=774) rfl rfl rfl ?_
 walk_at"ev"
 exact q
theorem mF(Z:Std c){k:Bool}{B:List UInt8}{p w b t:Int}(q:Q (.bool (decide (t=9))) sh):ae c (n+1) 838 [.v (aO k B p w b t)] [] sh Q X:=by
 refine Z.call (f:=838) rfl rfl rfl ?_
 walk_at"ev"
 exact q
theorem uM(Z:Std c){k:Bool}{B:List UInt8}{p w b t:Int}(q:Q (.bool (in2 t 3 8)) sh):ae c (n+1) 711 [.v (aO k B p w b t)] [] sh Q X:=by
 refine Z.call (f:=711) rfl rfl rfl ?_
 walk_at"ev"
 exact q
theorem dJ(Z:Std c){k:Bool}{B:List UInt8}{p w b t:Int}(q:Q (.bool (in2 t 10 9)) sh):ae c (n+1) 790 [.v (aO k B p w b t)] [] sh Q X:=by
 refine Z.call (f:=790) rfl rfl rfl ?_
 walk_at"ev"
 exact q
theorem iI(Z:Std c){k:Bool}{B:List UInt8}{p w b t:Int}(q:Q (.bool (decide (1=t)||(decide (6=t)||(decide (2=t)||(decide (7=t)||false))))) sh):ae c (n+1) 688 [.v (aO k B p w b t)] [] sh Q X:=by
 refine Z.call (f:=688) rfl rfl rfl ?_
 walk_at"ev"
 exact q
theorem nZ(Z:Std c){k:Bool}{B:List UInt8}{p w b t:Int}(ht:in2 t 3 8=false)(q:Q (.bool (decide (1=t)||(decide (6=t)||(decide (2=t)||(decide (7=t)||false))))) sh):ae c (n+3) 680 [.v (aO k B p w b t)] [] sh Q X:=by
 refine Z.call (f:=680) rfl rfl rfl ?_
 walk_at"ev"
 refine iI Z.soft ?_
 walk_at"ev"
 refine aD (λh=>?_) (λh=>?_)
 ·walk_at"ev"
  exact q
 ·walk_at"ev"
  refine uM Z.soft ?_
  walk_at"ev"
  rw[h]at q
  rw[ht]
  exact q
theorem eX(Z:Std c){k:Bool}{B:List UInt8}{p w b t:Int}(q:Q (.bool (dm t)) sh):ae c (n+2) 806 [.v (aO k B p w b t)] [] sh Q X:=by
 refine Z.call (f:=806) rfl rfl rfl ?_
 walk_at"ev"
 refine wq Z ?_
 walk_at"ev"
 exact q
theorem eY(Z:Std c){k:Bool}{B:List UInt8}{p w b t:Int}(q:Q (.bool (cY t)) sh):ae c (n+2) 822 [.v (aO k B p w b t)] [] sh Q X:=by
 refine Z.call (f:=822) rfl rfl rfl ?_
 walk_at"ev"
 refine vy Z ?_
 walk_at"ev"
 exact q
noncomputable def M1(a:Addr):Option (Int->Bool):=
 if a=649 then some (λt=>decide (t=0))else if a=657 then some (λt=>decide (t=26))else if a=719 then some (λt=>decide (t=4))else if a=743 then some (λt=>decide (t=5))else if a=774 then some (λt=>decide (t=25))else if a=838 then some (λt=>decide (t=9))else if a=790 then some (λt=>in2 t 10 9)else if a=688 then some (λt=>decide (1=t)||(decide (6=t)||(decide (2=t)||(decide (7=t)||false))))else if a=806 then some (dm)else if a=822 then some (cY)else none
theorem zr{a b:Addr}{f g:Int->Bool}{D:Option (Int->Bool)}{P:Prop}(e:(if a=b then some g else D)=some f)(h:b=a->g=f->P)(k:D=some f->P):P:=by
 by_cases x:a=b
 ·rw[if_pos x]at e;exact h x.symm (Option.some.inj e)
 ·rw[if_neg x]at e;exact k e
theorem Io(Z:Std c){a:Addr}{f:Int->Bool}(e:M1 a=some f){k:Bool}{B:List UInt8}{p w b t:Int}(q:Q (.bool (f t)) sh):ae c (n+2) a [.v (aO k B p w b t)] [] sh Q X:=by
 refine zr e (λh k=>by subst h;subst k;exact fJ Z q) λe=>?_
 refine zr e (λh k=>by subst h;subst k;exact gg Z q) λe=>?_
 refine zr e (λh k=>by subst h;subst k;exact iB Z q) λe=>?_
 refine zr e (λh k=>by subst h;subst k;exact dS Z q) λe=>?_
 refine zr e (λh k=>by subst h;subst k;exact gh Z q) λe=>?_
 refine zr e (λh k=>by subst h;subst k;exact mF Z q) λe=>?_
 refine zr e (λh k=>by subst h;subst k;exact dJ Z q) λe=>?_
 refine zr e (λh k=>by subst h;subst k;exact iI Z q) λe=>?_
 refine zr e (λh k=>by subst h;subst k;exact eX Z q) λe=>?_
 refine zr e (λh k=>by subst h;subst k;exact eY Z q) λe=>?_
 exact nomatch e
local macro_rules | `(tactic| walk_at "go") => `(tactic| (walk_at "ev"; repeat (refine Io (Nu (by assumption)) rfl ?_; walk_at "ev")))
section
variable {k:Bool}{B:List UInt8}{p w a b m:Nat}{t:Int}
structure az(B:List UInt8)(p w a:Nat):Prop where
 z:B.length<=16000000
 hw:w4 w
 hp:p+w<=B.length
 ha:(p:Int)-num B p w=a
theorem fY(Z:Std c)(o:az B p w a)(h1:a+m<B.length)(h2:B[a+m]? =some 0)(h3:∀i,i<m->∀d,B[a+i]? =some d->d≠0)(q:Q (oc k (sl B a m)) sh):ae c (n+10) 727 [.v (aO k B p w 1 4)] [] sh Q X:=by
 refine Z.call (f:=727) rfl rfl rfl ?_
 walk_at"go"
 refine er Z o.z o.hw o.hp o.ha ?_
 walk_at"ev"
 refine kU Z.soft rfl ?_
 walk_at"ev"
 refine jC Z.soft o.z h1 h2 h3 ?_
 walk_at"ev"
 exact q
theorem fP(Z:Std c){x:Str}(o:az B p w a)(h1:a+m<B.length)(h2:B[a+m]? =some 0)(h3:∀i,i<m->∀d,B[a+i]? =some d->d≠0)
  (h4:(x.cps.toList.all λc=>Nat.blt c 128)=true) (h5:aY x=sl B a m) (h6:x.cps.toList.length<=16000000) (q:Q (.str x) sh):ae c (n+10) 735 [.v (aO k B p w 1 4)] [] sh Q X:=by
 refine Z.call (f:=735) rfl rfl rfl ?_
 walk_at"go"
 refine er Z o.z o.hw o.hp o.ha ?_
 walk_at"ev"
 refine kU Z.soft rfl ?_
 walk_at"ev"
 refine xy Z.soft o.z h1 h2 h3 h4 h5 h6 ?_
 walk_at"ev"
 exact q
structure aX(B:List UInt8)(a b m:Nat):Prop where
 hb:w4 b
 ha:b<=a
 hn:num B (a-b) b=m
theorem gC(Z:Std c)(o:az B p w a)(s:aX B a b m)(h:a+m<=B.length)(q:Q (oc k (sl B a m)) sh):ae c (n+12) 751 [.v (aO k B p w b 5)] [] sh Q X:=by
 refine Z.call (f:=751) rfl rfl rfl ?_
 walk_at"go"
 refine er Z o.z o.hw o.hp o.ha ?_
 walk_at"ev"
 refine bz Z.soft rfl (by decide) o.z s.hb s.ha (by exact uC 0x1000080800c00c h) ?_
 rw[s.hn]
 walk_at"ev"
 refine fq Z.soft o.z h ?_
 walk_at"ev"
 exact q
theorem gJ(Z:Std c)(o:az B p w a)(h1:a+m<B.length)(h2:B[a+m]? =some 0)(h3:∀i,i<m->∀d,B[a+i]? =some d->d≠0)(q:Q (oc k (sl B a m)) sh):ae c (n+12) 751 [.v (aO k B p w 1 4)] [] sh Q X:=by
 refine Z.call (f:=751) rfl rfl rfl ?_
 walk_at"go"
 refine fY Z.soft o h1 h2 h3 ?_
 walk_at"ev"
 exact q
theorem eB(Z:Std c){x:Str}(o:az B p w a)(s:aX B a b m)(h:a+m<=B.length)(h1:x.cps.toList.all c7=true)(h2:aZ x=sl B a m)(h3:x.cps.toList.length<=16000000)(q:Q (.str x) sh):ae c (n+12) 759 [.v (aO k B p w b 5)] [] sh Q X:=by
 refine Z.call (f:=759) rfl rfl rfl ?_
 walk_at"go"
 refine er Z o.z o.hw o.hp o.ha ?_
 walk_at"ev"
 refine bz Z.soft rfl (by decide) o.z s.hb s.ha (by exact uC 0x1000080800c00c h) ?_
 rw[s.hn]
 walk_at"ev"
 refine nO Z.soft o.z h h1 h2 h3 ?_
 walk_at"ev"
 exact q
theorem n8(Z:Std c){x:Str}(o:az B p w a)(h1:a+m<B.length)(h2:B[a+m]? =some 0)(h3:∀i,i<m->∀d,B[a+i]? =some d->d≠0)
  (h4:(x.cps.toList.all λc=>Nat.blt c 128)=true) (h5:aY x=sl B a m) (h6:x.cps.toList.length<=16000000) (q:Q (.str x) sh):ae c (n+12) 759 [.v (aO k B p w 1 4)] [] sh Q X:=by
 refine Z.call (f:=759) rfl rfl rfl ?_
 walk_at"go"
 refine fP Z.soft o h1 h2 h3 h4 h5 h6 ?_
 walk_at"ev"
 exact q
theorem iY(Z:Std c)(o:az B p w a)(s:aX B a b m)(h:a+m<=B.length)(q:Q (oc k (sl B a m)) sh):ae c (n+12) 782 [.v (aO k B p w b 25)] [] sh Q X:=by
 refine Z.call (f:=782) rfl rfl rfl ?_
 walk_at"go"
 refine er Z o.z o.hw o.hp o.ha ?_
 walk_at"ev"
 refine bz Z.soft rfl (by decide) o.z s.hb s.ha (by exact uC 0x1000080800c00c h) ?_
 rw[s.hn]
 walk_at"ev"
 refine oW Z.soft o.z h ?_
 walk_at"ev"
 exact q
theorem dY(Z:Std c)(ht:t=10\/t=9)(o:az B p w a)(s:aX B a b m)(h:a<=B.length)(q:Q (cw 471 k B a b m) sh):ae c (n+12) 798 [.v (aO k B p w b t)] [] sh Q X:=by
 refine Z.call (f:=798) rfl rfl rfl ?_
 walk_at"go"
 refine vS (by unfold in2;rcases ht with rfl|rfl<;>rfl) ?_
 walk_at"ev"
 refine er Z o.z o.hw o.hp o.ha ?_
 walk_at"ev"
 refine bz Z.soft rfl (by decide) o.z s.hb s.ha (by exact uB 0x2000100000c h) ?_
 rw[s.hn]
 walk_at"ev"
 exact q
theorem sA(Z:Std c)(o:az B p w a)(s:aX B a b m)(h:a<=B.length)(q:Q (cw 587 k B a b m) sh):ae c (n+12) 846 [.v (aO k B p w b 9)] [] sh Q X:=by
 refine Z.call (f:=846) rfl rfl rfl ?_
 walk_at"go"
 refine er Z o.z o.hw o.hp o.ha ?_
 walk_at"ev"
 refine bz Z.soft rfl (by decide) o.z s.hb s.ha (by exact uB 0x2000100000c h) ?_
 rw[s.hn]
 walk_at"ev"
 exact q
theorem jz(Z:Std c)(ht:dm t=true)(o:az B p w a)(s:aX B a b m)(h:a<=B.length)(q:Q (g9 k B a b m (pR (t-10))) sh):ae c (n+12) 814 [.v (aO k B p w b t)] [] sh Q X:=by
 refine Z.call (f:=814) rfl rfl rfl ?_
 walk_at"go"
 refine er Z o.z o.hw o.hp o.ha ?_
 walk_at"ev"
 refine E2 Z ht ?_
 walk_at"ev"
 refine ku Z.soft rfl o.z s.hb s.ha (by exact uB 0x2000100000c h) ?_
 rw[s.hn]
 walk_at"ev"
 exact q
theorem pL(Z:Std c)(ht:cY t=true)(o:az B p w a)(h:a<=B.length)(q:Q (g9 k B a b ((t-16)/3+2) (pR ((t-16)%3+1))) sh):ae c (n+12) 830 [.v (aO k B p w b t)] [] sh Q X:=by
 refine Z.call (f:=830) rfl rfl rfl ?_
 have h2:16<=t/\t<=24:=⟨of_decide_eq_true (Bool.and_eq_true_iff.mp ht).1,of_decide_eq_true (Bool.and_eq_true_iff.mp ht).2⟩
 walk_at"go"
 refine E9 Z ht ?_
 walk_at"ev"
 refine er Z o.z o.hw o.hp o.ha ?_
 walk_at"ev"
 refine yD Z.soft rfl (by lia) ?_
 walk_at"ev"
 exact q
end
theorem A9(fo:Fo)(p q r:Prop):nextK fo p (nextK fo q r)=nextK fo p r:=by cases fo<;>rfl
theorem De{c:Cx}{T:aB}{n:Nat}{sc:Scope}{rest:List Stmt}{Q:Fo->aa->St->Prop}{X:aa->St->Prop}{k:Nat}:∀(ss:List Stmt) (ρ:aa) (S:St),
  ev c T n (k+1+ss.length) (.B sc (ss++rest) ρ S Q X)=ev c T n (k+1+ss.length) (.B sc ss ρ S (λfo ρ S=>nextK fo (ev c T n (k+1) (.B sc rest ρ S Q X)) (Q fo ρ S)) X):=by
 intro ss
 induction ss with
 | nil=>
  intro ρ S
  exact rfl
 | cons s ss ih=>
  intro ρ S
  show ev c T n (k+1+ss.length) (.S sc s ρ S (λfo ρ S=>nextK fo (ev c T n (k+1+ss.length) (.B sc (ss++rest) ρ S Q X)) (Q fo ρ S)) X)=ev c T n (k+1+ss.length) (.S sc s ρ S (λfo ρ S=>nextK fo (ev c T n (k+1+ss.length) (.B sc ss ρ S (λfo ρ S=>nextK fo (ev c T n (k+1) (.B sc rest ρ S Q X)) (Q fo ρ S)) X)) (nextK fo (ev c T n (k+1) (.B sc rest ρ S Q X)) (Q fo ρ S))) X)
  congr 1;congr 1;funext fo ρ S
  rw[ih ρ S,A9]
theorem dW{c:Cx}{T:aB}{n:Nat}{sc:Scope}{ss:List Stmt}{Q:Fo->aa->St->Prop}{X:aa->St->Prop}{k:Nat}{ρ:aa}{S:St}(j:Nat)(e:(ss.take j).length=j)
  (h:∀P:aa->St->Prop,(∀ρ S,ev c T n (k+1) (.B sc (ss.drop j) ρ S Q X)->P ρ S)->ev c T n (k+1+j) (.B sc (ss.take j) ρ S (λfo ρ S=>nextK fo (P ρ S) (Q fo ρ S)) X)):ev c T n (k+1+j) (.B sc ss ρ S Q X):=by
 have z:=De (c:=c) (T:=T) (n:=n) (sc:=sc) (rest:=ss.drop j) (Q:=Q) (X:=X) (k:=k) (ss.take j) ρ S
 rw[List.take_append_drop,e]at z
 exact z▸h _ λq0 q1 h=>h
noncomputable def I8(s:Stmt):List Stmt:=if h:s.ctorIdx=12 then Stmt.If.elim (motive_2:=λq0=>List Stmt) s h λq0 b q1 q2=>b else default
noncomputable def H3(s:Stmt):List Stmt:=if h:s.ctorIdx=12 then Stmt.If.elim (motive_2:=λq0=>List Stmt) s h λq0 q1 o q2=>o else default
noncomputable def Fu:Nat->Stmt->List Stmt
 | 0,s=>I8 s
 | n+1,s=>Fu n (fu (H3 s) 0)
theorem cW{c:Cx}{T:aB}{n k:Nat}{sc:Scope}{s:Stmt}{ρ:aa}{S:St}{R:Fo->aa->St->Prop}{X:aa->St->Prop}(h:ev c T n (k+1) (.S sc s ρ S R X)):ev c T n (k+2) (.B sc [s] ρ S R X):=by
 show ev c T n (k+1) (.S sc s ρ S (λfo ρ S=>nextK fo (R .next ρ S) (R fo ρ S)) X)
 rw[show(λfo ρ S=>nextK fo (R .next ρ S) (R fo ρ S))=R from by funext fo;cases fo<;>rfl]
 exact h
theorem c8{c:Bool}{a b j:Nat}(h:c=true)(e:(bif c then a else b)=j):a=j:=by subst h;exact e
theorem cZ{c:Bool}{a b j:Nat}(h:c=false)(e:(bif c then a else b)=j):b=j:=by subst h;exact e
section
variable {k:Bool}{B:List UInt8}{p w a b m:Nat}{t i:Int}
theorem fG(Z:Std c)(hz:B.length<=16000000)(hw:w4 w)(hp:p+w<=B.length)(q:Q (.bool (!decide (num B p w=0))) sh):ae c (n+6) 665 [.v (aO k B p w b 26)] [] sh Q X:=by
 refine Z.call (f:=665) rfl rfl rfl ?_
 walk_at"go"
 refine mm Z.soft hz hp ?_
 walk_at"ev"
 refine dP Z (by rw[aS hp];exact hw) ?_
 walk_at"ev"
 exact q
inductive dw(B:List UInt8)(p w b:Nat):Int->Int->Prop
 | nul:dw B p w b 0 0
 | boo (hw:w4 w) (hp:p+w<=B.length):dw B p w b 26 (bif !decide (num B p w=0)then 1 else 0)
 | int (hw:w4 w) (hp:p+w<=B.length):dw B p w b 1 (de w (num B p w))
 | uint (hw:w4 w) (hp:p+w<=B.length):dw B p w b 2 (num B p w)
 | iint {a:Nat} (o:az B p w a) (hw:w4 b) (hp:a+b<=B.length):dw B p w b 6 (de b (num B a b))
 | iuint {a:Nat} (o:az B p w a) (hw:w4 b) (hp:a+b<=B.length):dw B p w b 7 (num B a b)
 | str {a m:Nat} {x:Str} (o:az B p w a) (s:aX B a b m) (h:a+m<=B.length) (h1:x.cps.toList.all c7=true) (h2:aZ x=sl B a m) (h3:x.cps.toList.length<=16000000):dw B p w b 5 x.cps.size
 | key {a m:Nat} {x:Str} (hb:b=1) (o:az B p w a) (h1:a+m<B.length) (h2:B[a+m]? =some 0) (h3:∀i,i<m->∀d,B[a+i]? =some d->d≠0)
  (h4:(x.cps.toList.all λc=>Nat.blt c 128)=true) (h5:aY x=sl B a m) (h6:x.cps.toList.length<=16000000):dw B p w b 4 x.cps.size
 | blob {a m:Nat} (o:az B p w a) (s:aX B a b m) (h:a+m<=B.length):dw B p w b 25 m
 | vec {a m:Nat} {t:Int} (ht:t=10\/t=9) (o:az B p w a) (s:aX B a b m) (h:a<=B.length) (hm:m<=16000000):dw B p w b t m
 | tv {a m:Nat} {t:Int} (ht:dm t=true) (o:az B p w a) (s:aX B a b m) (h:a<=B.length) (hm:m<=16000000):dw B p w b t m
 | fv {a:Nat} {t:Int} (ht:cY t=true) (o:az B p w a) (h:a<=B.length):dw B p w b t ((t-16)/3+2)
theorem rS{t a b:Int}(h:a≠t)(h':b≠t):in2 t a b=false:=by unfold in2;rw[decide_eq_false h,decide_eq_false h'];rfl
theorem za{t:Int}(h:dm t=true):(11<=t/\t<=15)\/t=36:=by
 unfold dm at h
 rcases Bool.or_eq_true_iff.mp h with h|h
 ·exact .inl ⟨of_decide_eq_true (Bool.and_eq_true_iff.mp h).1,of_decide_eq_true (Bool.and_eq_true_iff.mp h).2⟩
 ·exact .inr (of_decide_eq_true h)
theorem qI{t:Int}(h:cY t=true):16<=t/\t<=24:=⟨of_decide_eq_true (Bool.and_eq_true_iff.mp h).1,of_decide_eq_true (Bool.and_eq_true_iff.mp h).2⟩
noncomputable def HV:Stmt:=match sgn 696 with
 | some (s,_)=>s
 | none=>default
noncomputable def Hm(t:Int):Nat:=bif decide (t=0)then 0 else bif decide (t=26)then 1 else bif decide (t=1)then 2 else bif decide (t=6)then 3 else bif decide (t=2)then 4 else bif decide (t=7)then 5 else
 bif decide (t=5)then 6 else bif decide (t=4)then 7 else bif decide (t=25)then 8 else bif in2 t 10 9 then 9 else bif dm t then 10 else bif cY t then 11 else 12
theorem vV{t:Int}(h:dm t=true):Hm t=10:=by
 rcases za h with h|rfl
 ·rcases Ge 4 11 h.1 h.2 with rfl|rfl|rfl|rfl|rfl<;>rfl
 ·rfl
theorem wc{t:Int}(h:cY t=true):Hm t=11:=by
 have:=qI h
 rcases Ge 8 16 this.1 this.2 with rfl|rfl|rfl|rfl|rfl|rfl|rfl|rfl|rfl<;>rfl
noncomputable def LD(j:Nat):List Stmt:=bif Nat.blt j 4 then Fu j (fu (bodyOf HV) 0)else Fu (j-4) (fu (bodyOf HV) 1)
theorem d6(Z:Std c){j:Nat}(hj:Hm t=j)(h10:j≠12)(q:∀R:Fo->aa->St->Prop,(∀o ρ S,vK Q S o->R (.ret o) ρ S)->ev c T0 (n+3) (bif Nat.blt j 4 then 58-2*j else 65-2*j) (.B (aq HV) (LD j) (dj ["self"] [.v (aO k B p w b t)]) ⟨sh,[]⟩ R (λq0 S=>X S.sh))):
  ae c (n+4) 696 [.v (aO k B p w b t)] [] sh Q X:=by
 refine Z.call (f:=696) rfl rfl rfl ?_
 have q':=λR h i (e:i=j)=>(e▸q R h:ev c T0 (n+3) (bif Nat.blt i 4 then 58-2*i else 65-2*i) (.B (aq HV) (LD i) (dj ["self"] [.v (aO k B p w b t)]) ⟨sh,[]⟩ R (λq0 S=>X S.sh)))
 have he:∀o ρ S,vK Q S o->(dk Q) (.ret o) ρ S:=λq0 q1 q2 h=>h
 clear q
 revert he
 generalize dk Q=R
 intro he
 refine dW (k:=58) 1 rfl λP hP=>?_
 unfold Hm at hj
 have he':∀o ρ S,vK Q S o->(λfo ρ S=>nextK fo (P ρ S) (R fo ρ S)) (.ret o) ρ S:=he
 revert he'
 generalize hR:(λfo ρ S=>nextK fo (P ρ S) (R fo ρ S))=R'
 intro he'
 refine cW ?_
 walk_at"nf"
 refine fJ Z.soft ?_
 walk_at"nf"
 refine aD (λh=>?_) (λh=>?_)
 ·exact q' _ he' _ (c8 h hj)
 replace hj:=cZ h hj
 refine cW ?_
 walk_at"nf"
 refine gg Z.soft ?_
 walk_at"nf"
 refine aD (λh=>?_) (λh=>?_)
 ·exact q' _ he' _ (c8 h hj)
 replace hj:=cZ h hj
 refine cW ?_
 walk_at"nf"
 refine aD (λh=>?_) (λh=>?_)
 ·exact q' _ he' _ (c8 h hj)
 replace hj:=cZ h hj
 refine cW ?_
 walk_at"nf"
 refine aD (λh=>?_) (λh=>?_)
 ·exact q' _ he' _ (c8 h hj)
 replace hj:=cZ h hj
 show R' .next _ _
 rw[<-hR]
 refine hP _ _ ?_
 refine cW ?_
 walk_at"nf"
 refine aD (λh=>?_) (λh=>?_)
 ·exact q' _ he _ (c8 h hj)
 replace hj:=cZ h hj
 refine cW ?_
 walk_at"nf"
 refine aD (λh=>?_) (λh=>?_)
 ·exact q' _ he _ (c8 h hj)
 replace hj:=cZ h hj
 refine cW ?_
 walk_at"nf"
 refine dS Z.soft ?_
 walk_at"nf"
 refine aD (λh=>?_) (λh=>?_)
 ·exact q' _ he _ (c8 h hj)
 replace hj:=cZ h hj
 refine cW ?_
 walk_at"nf"
 refine iB Z.soft ?_
 walk_at"nf"
 refine aD (λh=>?_) (λh=>?_)
 ·exact q' _ he _ (c8 h hj)
 replace hj:=cZ h hj
 refine cW ?_
 walk_at"nf"
 refine gh Z.soft ?_
 walk_at"nf"
 refine aD (λh=>?_) (λh=>?_)
 ·exact q' _ he _ (c8 h hj)
 replace hj:=cZ h hj
 refine cW ?_
 walk_at"nf"
 refine dJ Z.soft ?_
 walk_at"nf"
 refine aD (λh=>?_) (λh=>?_)
 ·exact q' _ he _ (c8 h hj)
 replace hj:=cZ h hj
 refine cW ?_
 walk_at"nf"
 refine eX Z.soft ?_
 walk_at"nf"
 refine aD (λh=>?_) (λh=>?_)
 ·exact q' _ he _ (c8 h hj)
 replace hj:=cZ h hj
 refine cW ?_
 walk_at"nf"
 refine eY Z.soft ?_
 walk_at"nf"
 refine aD (λh=>?_) (λh=>?_)
 ·exact q' _ he _ (c8 h hj)
 replace hj:=cZ h hj
 exact absurd hj.symm h10
theorem mh(Z:Std c)(hz:B.length<=16000000)(h:dw B p w b t i)(q:Q (.int i) sh):ae c (n+20) 696 [.v (aO k B p w b t)] [] sh Q X:=by
 cases h with
 | nul=>
  refine d6 (j:=0) Z rfl (by decide) λR hR=>?_
  walk_at"ev"
  exact hR _ _ _ q
 | boo hw hp=>
  refine d6 (j:=1) Z rfl (by decide) λR hR=>?_
  walk_at"ev"
  refine fG Z.soft hz hw hp ?_
  walk_at"ev"
  exact hR _ _ _ q
 | int hw hp=>
  refine d6 (j:=2) Z rfl (by decide) λR hR=>?_
  walk_at"ev"
  refine mm Z.soft hz hp ?_
  walk_at"ev"
  refine mA Z (by rw[aS hp];exact hw) ?_
  rw[aS hp]
  walk_at"ev"
  exact hR _ _ _ q
 | uint hw hp=>
  refine d6 (j:=4) Z rfl (by decide) λR hR=>?_
  walk_at"ev"
  refine mm Z.soft hz hp ?_
  walk_at"ev"
  refine dP Z (by rw[aS hp];exact hw) ?_
  walk_at"ev"
  exact hR _ _ _ q
 | @iint a o hw hp=>
  refine d6 (j:=3) Z rfl (by decide) λR hR=>?_
  walk_at"ev"
  refine er Z o.z o.hw o.hp o.ha ?_
  walk_at"ev"
  refine dq Z (a:=a) (b:=a+b) hz (by exact Int.le_antisymm (uA 0x200000020059) (uA 0x8016009)) (by exact Int.le_antisymm (uB 0x40064410059) (uB 0x410058800c9)) (by exact uB 0x800c00) hp ?_
  walk_at"ev"
  rw[show a+b-a=b by exact Nat.le_antisymm (uC 0x400020218800dffe (Nat.sub_add_cancel (n:=a+b) (m:=a) (uB 0x800c00))) (uC 0x8020218800e00e (Nat.sub_add_cancel (n:=a+b) (m:=a) (uB 0x800c00)))]
  refine mA Z (by rw[aS hp];exact hw) ?_
  rw[aS hp]
  walk_at"ev"
  exact hR _ _ _ q
 | @iuint a o hw hp=>
  refine d6 (j:=5) Z rfl (by decide) λR hR=>?_
  walk_at"ev"
  refine er Z o.z o.hw o.hp o.ha ?_
  walk_at"ev"
  refine dq Z (a:=a) (b:=a+b) hz (by exact Int.le_antisymm (uA 0x200000020059) (uA 0x8016009)) (by exact Int.le_antisymm (uB 0x40064410059) (uB 0x410058800c9)) (by exact uB 0x800c00) hp ?_
  walk_at"ev"
  rw[show a+b-a=b by exact Nat.le_antisymm (uC 0x400020218800dffe (Nat.sub_add_cancel (n:=a+b) (m:=a) (uB 0x800c00))) (uC 0x8020218800e00e (Nat.sub_add_cancel (n:=a+b) (m:=a) (uB 0x800c00)))]
  refine dP Z (by rw[aS hp];exact hw) ?_
  walk_at"ev"
  exact hR _ _ _ q
 | str o s h h1 h2 h3=>
  have h4:=h3
  rw[Array.length_toList]at h4
  refine d6 (j:=6) Z rfl (by decide) λR hR=>?_
  walk_at"ev"
  refine eB Z.soft o s h h1 h2 h3 ?_
  walk_at"ev"
  exact hR _ _ _ q
 | key hb o h1 h2 h3 h4 h5 h6=>
  subst hb
  have h7:=h6
  rw[Array.length_toList]at h7
  refine d6 (j:=7) Z rfl (by decide) λR hR=>?_
  walk_at"ev"
  refine fP Z.soft o h1 h2 h3 h4 h5 h6 ?_
  walk_at"ev"
  exact hR _ _ _ q
 | blob o s h=>
  have e:=aS h
  refine d6 (j:=8) Z rfl (by decide) λR hR=>?_
  walk_at"ev"
  refine iY Z.soft o s h ?_
  cases k
  all_goals
   walk_at"ev"
   rw[e]
   walk_at"ev"
   exact hR _ _ _ q
 | vec ht o s h hm=>
  have e1:9<=t:=by lia
  refine d6 (j:=9) Z (by rcases ht with rfl|rfl<;>rfl) (by decide) λR hR=>?_
  walk_at"ev"
  refine dY Z.soft ht o s h ?_
  walk_at"ev"
  refine aA Z.soft (by decide) rfl ?_
  walk_at"ev"
  exact hR _ _ _ q
 | tv ht o s h hm=>
  have e1:=za ht
  refine d6 (j:=10) Z (vV ht) (by decide) λR hR=>?_
  walk_at"ev"
  refine jz Z.soft ht o s h ?_
  walk_at"ev"
  refine aA Z.soft (by decide) rfl ?_
  walk_at"ev"
  exact hR _ _ _ q
 | fv ht o h=>
  have e1:=qI ht
  refine d6 (j:=11) Z (wc ht) (by decide) λR hR=>?_
  walk_at"ev"
  refine pL Z.soft ht o h ?_
  walk_at"ev"
  refine aA Z.soft (by decide) rfl ?_
  walk_at"ev"
  exact hR _ _ _ q
end
theorem ae.hard{f:Addr}{args:List Op}{kw:List (Str×Op)}(k:ae c.soft n f args kw sh Q X):ae c n f args kw sh Q X:=
 ⟨λA all sl I h tk vals kvals R a s ro rk hR=>aC.weak (k.run A all sl I h tk vals kvals R a s ro rk λr s' i=>hR r s' (by
  cases i with
  | ok t c r q=>exact .ok t c r q
  | ex t c x q=>exact .ex t c x q))⟩
section
variable {k:Bool}{B:List UInt8}{p w a b m:Nat}{t i:Int}
structure gx(B:List UInt8)(p w b:Nat)(a m:Nat)(x:Str):Prop where
 o:az B p w a
 s:aX B a b m
 h:a+m<=B.length
 h1:x.cps.toList.all c7=true
 h2:aZ x=sl B a m
 h3:x.cps.toList.length<=16000000
structure c9(B:List UInt8)(p w:Nat)(a m:Nat)(x:Str):Prop where
 o:az B p w a
 h1:a+m<B.length
 h2:B[a+m]? =some 0
 h3:∀i,i<m->∀d,B[a+i]? =some d->d≠0
 h4:(x.cps.toList.all λc=>Nat.blt c 128)=true
 h5:aY x=sl B a m
 h6:x.cps.toList.length<=16000000
def NU(B:List UInt8)(p w b:Nat)(i:Int)(n:Nat):Prop:=match n with
 | 1=>w4 w/\p+w<=B.length/\(!decide (num B p w=0))=(!decide (i=0))
 | 6=>∃a m x,gx B p w b a m x
 | 7=>b=1/\∃a m x,c9 B p w a m x
 | 8=>∃a m,az B p w a/\aX B a b m/\a+m<=B.length
 | 9=>∃a m,az B p w a/\aX B a b m/\a<=B.length/\m<=16000000
 | 10=>∃a m,az B p w a/\aX B a b m/\a<=B.length
 | 11=>∃a,az B p w a/\a<=B.length
 | _=>True
theorem dw.inv(h:dw B p w b t i):NU B p w b i (Hm t):=by
 cases h with
 | boo hw hp=>exact⟨hw,hp,by cases h:decide (num B p w=0)<;>rfl⟩
 | str o s h h1 h2 h3=>exact⟨_,_,_,o,s,h,h1,h2,h3⟩
 | key hb o h1 h2 h3 h4 h5 h6=>exact⟨hb,_,_,_,o,h1,h2,h3,h4,h5,h6⟩
 | blob o s h=>exact⟨_,_,o,s,h⟩
 | vec ht o s h hm=>rcases ht with rfl|rfl<;>exact⟨_,_,o,s,h,hm⟩
 | tv ht o s h hm=>rw[vV ht];exact⟨_,_,o,s,h⟩
 | fv ht o h=>rw[wc ht];exact⟨_,o,h⟩
 | _=>exact True.intro
theorem dw.boo_i(h:dw B p w b 26 i):w4 w/\p+w<=B.length/\(!decide (num B p w=0))=(!decide (i=0)):=h.inv
theorem yx(Z:Std c)(hz:B.length<=16000000)(h:dw B p w b t i)(q:Q (.bool (!decide (i=0))) sh):ae c (n+23) 665 [.v (aO k B p w b t)] [] sh Q X:=by
 by_cases e:t=26
 ·subst e
  obtain⟨h1,h2,h3⟩:=h.boo_i
  exact fG Z hz h1 h2 (by rw[h3];exact q)
 ·refine Z.call (f:=665) rfl rfl rfl ?_
  walk_at"go"
  refine mh Z.soft hz h ?_
  walk_at"ev"
  exact q
theorem A8(Z:Std c)(hc:c.clean=false)(ht:0<=t/\t<100)(h:t≠9)(q:X sh):ae c (n+6) 846 [.v (aO k B p w b t)] [] sh Q X:=by
 refine Z.call (f:=846) rfl rfl rfl ?_
 walk_at"go"
 refine fZ Z hc ht (by decide) ?_
 exact q
theorem wV(Z:Std c)(hc:c.clean=false)(ht:0<=t/\t<100)(h:t≠25)(q:X sh):ae c (n+6) 782 [.v (aO k B p w b t)] [] sh Q X:=by
 refine Z.call (f:=782) rfl rfl rfl ?_
 walk_at"go"
 refine fZ Z hc ht (by decide) ?_
 exact q
theorem pU(Z:Std c)(hc:c.clean=false)(ht:0<=t/\t<100)(h:t≠4/\t≠5)(q:X sh):ae c (n+6) 759 [.v (aO k B p w b t)] [] sh Q X:=by
 refine Z.call (f:=759) rfl rfl rfl ?_
 walk_at"go"
 refine fZ Z hc ht (by decide) ?_
 exact q
theorem z8(Z:Std c)(hc:c.clean=false)(ht:0<=t/\t<100)(h:t≠4)(q:X sh):ae c (n+6) 735 [.v (aO k B p w b t)] [] sh Q X:=by
 refine Z.call (f:=735) rfl rfl rfl ?_
 walk_at"go"
 refine fZ Z hc ht (by decide) ?_
 exact q
theorem qy(Z:Std c)(hc:c.clean=false)(ht:0<=t/\t<100)(h:in2 t 10 9=false)(q:X sh):ae c (n+6) 798 [.v (aO k B p w b t)] [] sh Q X:=by
 refine Z.call (f:=798) rfl rfl rfl ?_
 walk_at"go"
 try refine cF h ?_
 walk_at"ev"
 refine fZ Z hc ht (by decide) ?_
 exact q
theorem DS(Z:Std c)(hc:c.clean=false)(ht:0<=t/\t<100)(h:dm t=false)(q:X sh):ae c (n+6) 814 [.v (aO k B p w b t)] [] sh Q X:=by
 refine Z.call (f:=814) rfl rfl rfl ?_
 walk_at"go"
 try refine cF h ?_
 walk_at"ev"
 refine rK Z hc ht (by decide +kernel) ?_
 exact q
theorem E8(Z:Std c)(hc:c.clean=false)(ht:0<=t/\t<100)(h:cY t=false)(q:X sh):ae c (n+6) 830 [.v (aO k B p w b t)] [] sh Q X:=by
 refine Z.call (f:=830) rfl rfl rfl ?_
 walk_at"go"
 try refine cF h ?_
 walk_at"ev"
 refine rK Z hc ht (by decide +kernel) ?_
 exact q
noncomputable def aE(t:Int)(turn:Nat):Bool:=match turn with
 | 0=>decide (t=9)
 | 1=>decide (t=25)
 | 2=>decide (4=t)||(decide (5=t)||false)
 | 3=>decide (t=4)
 | 4=>in2 t 9 10
 | 5=>decide (11=t)||(decide (12=t)||(decide (14=t)||(decide (15=t)||(decide (36=t)||false))))
 | _=>decide (15<t)&&decide (t<25)
theorem dw.isV(h:dw B p w b t i)(ht:t=10\/t=9):∃a m,az B p w a/\aX B a b m/\a<=B.length/\m<=16000000:=by
 rcases ht with rfl|rfl<;>exact h.inv
theorem dw.isBlob(h:dw B p w b t i)(ht:t=25):∃a m,az B p w a/\aX B a b m/\a+m<=B.length:=by subst ht;exact h.inv
theorem dw.isTyped(h:dw B p w b t i)(ht:dm t=true):∃a m,az B p w a/\aX B a b m/\a<=B.length:=by
 have:=h.inv
 rw[vV ht]at this;exact this
theorem dw.isFixed(h:dw B p w b t i)(ht:cY t=true):∃a,az B p w a/\a<=B.length:=by
 have:=h.inv
 rw[wc ht]at this;exact this
theorem dw.isStr(h:dw B p w b t i)(ht:t=5):∃a m x,gx B p w b a m x:=by subst ht;exact h.inv
theorem dw.isKey(h:dw B p w b t i)(ht:t=4):b=1/\∃a m x,c9 B p w a m x:=by subst ht;exact h.inv
theorem CN:((List.range 100).all λn=>Nat.beq n 13||((aE n 5==dm n)&&(aE n 6==cY n)))=true:=by decide +kernel
theorem kQ(ht:0<=t/\t<100)(h13:t≠13):aE t 5=dm t/\aE t 6=cY t:=by
 obtain⟨n,rfl⟩:=Int.eq_ofNat_of_zero_le ht.1
 rcases Bool.or_eq_true_iff.mp (List.all_eq_true.mp CN n (List.mem_range.mpr (Int.ofNat_lt.mp ht.2)))with h|h
 ·exact absurd (congrArg Nat.cast (Nat.eq_of_beq_eq_true h)) h13
 ·exact(Bool.and_eq_true_iff.mp h).imp beq_iff_eq.mp beq_iff_eq.mp
theorem zM(Z:Std c)(hc:c.clean=false)(hz:B.length<=16000000)(ht:0<=t/\t<100)(h13:t≠13)(h:dw B p w b t i){turn:Nat}(hturn:turn<7)(q1:aE t turn=true->∀v,Q v sh)(q2:aE t turn=false->X sh):
  ae c (n+20) 997 [.v (aO k B p w b t),.v (.int turn)] [] sh Q X:=by
 refine Z.call (f:=997) rfl rfl rfl ?_
 rcases Nn 6 0 (Nat.zero_le _) (Nat.le_of_lt_succ hturn)with rfl|rfl|rfl|rfl|rfl|rfl|rfl
 ·walk_at"ev"
  by_cases e:t=9
  ·subst e
   refine bp λGG1 hG1=>?_
   obtain⟨a,m,o,s,h,_⟩:=h.isV (.inr rfl)
   refine hG1 ?_
   refine sA Z.soft o s h ?_
   walk_at"ev"
   exact q1 rfl _
  ·exact A8 Z.soft rfl ht e (q2 (decide_eq_false e))
 ·walk_at"ev"
  by_cases e:t=25
  ·subst e
   refine bp λGG2 hG2=>?_
   obtain⟨a,m,o,s,h⟩:=h.isBlob rfl
   refine hG2 ?_
   refine iY Z.soft o s h ?_
   walk_at"ev"
   exact q1 rfl _
  ·exact wV Z.soft rfl ht e (q2 (decide_eq_false e))
 ·walk_at"ev"
  by_cases e:t=4
  ·subst e
   refine bp λGG3 hG3=>?_
   obtain⟨rfl,a,m,x,y⟩:=h.isKey rfl
   refine hG3 ?_
   refine n8 Z.soft y.o y.h1 y.h2 y.h3 y.h4 y.h5 y.h6 ?_
   walk_at"ev"
   exact q1 rfl _
  ·by_cases e':t=5
   ·subst e'
    refine bp λGG4 hG4=>?_
    obtain⟨a,m,x,y⟩:=h.isStr rfl
    refine hG4 ?_
    refine eB Z.soft y.o y.s y.h y.h1 y.h2 y.h3 ?_
    walk_at"ev"
    exact q1 rfl _
   ·exact pU Z.soft rfl ht ⟨e,e'⟩ (q2 (by unfold aE;rw[decide_eq_false (p:=4=t) (Ne.symm e),decide_eq_false (p:=5=t) (Ne.symm e')];rfl))
 ·walk_at"ev"
  by_cases e:t=4
  ·subst e
   refine bp λGG5 hG5=>?_
   obtain⟨rfl,a,m,x,y⟩:=h.isKey rfl
   refine hG5 ?_
   refine fP Z.soft y.o y.h1 y.h2 y.h3 y.h4 y.h5 y.h6 ?_
   walk_at"ev"
   exact q1 rfl _
  ·exact z8 Z.soft rfl ht e (q2 (decide_eq_false e))
 ·walk_at"ev"
  by_cases e:t=10\/t=9
  ·refine bp λGG6 hG6=>?_
   obtain⟨a,m,o,s,h,_⟩:=h.isV e
   refine hG6 ?_
   refine dY Z.soft e o s h ?_
   walk_at"ev"
   exact q1 (by rcases e with rfl|rfl<;>rfl) _
  ·exact qy Z.soft rfl ht (rS (λz=>e (.inl z.symm)) λz=>e (.inr z.symm)) (q2 (rS (λz=>e (.inr z.symm)) λz=>e (.inl z.symm)))
 ·have e0:aE t 5=dm t:=(kQ ht h13).1
  walk_at"ev"
  cases e:dm t with
  | true=>
   refine bp λGG7 hG7=>?_
   obtain⟨a,m,o,s,h⟩:=h.isTyped e
   refine hG7 ?_
   refine jz Z.soft e o s h ?_
   walk_at"ev"
   exact q1 (e0.trans e) _
  | false=>exact DS Z.soft rfl ht e (q2 (e0.trans e))
 ·have e0:aE t 6=cY t:=(kQ ht h13).2
  walk_at"ev"
  cases e:cY t with
  | true=>
   refine bp λGG8 hG8=>?_
   obtain⟨a,o,h⟩:=h.isFixed e
   refine hG8 ?_
   refine pL Z.soft e o h ?_
   walk_at"ev"
   exact q1 (e0.trans e) _
  | false=>exact E8 Z.soft rfl ht e (q2 (e0.trans e))
theorem b8(Z:Std c)(hc:c.clean=false)(hz:B.length<=16000000)(ht:0<=t/\t<100)(h13:t≠13)(h:dw B p w b t i){turn:Nat}(hturn:turn<7)(q:Q (.bool (!aE t turn)) sh):
  ae c (n+21) 1004 [.v (aO k B p w b t),.v (.int turn)] [] sh Q X:=by
 refine Z.call (f:=1004) rfl rfl rfl ?_
 walk_at"ev"
 refine zM Z hc hz ht h13 h hturn (λe v=>?_) (λe=>?_)
 ·walk_at"ev"
  rw[e]at q
  exact q
 ·walk_at"ev"
  rw[e]at q
  exact q
end
section
variable {k:Bool}{B:List UInt8}{p w a b m:Nat}{t i:Int}{v:AV}
inductive Due:AV->Int->Prop
 | nul:Due .none 0
 | boo (b:Bool):Due (.bool b) (bif b then 1 else 0)
 | int (i:Int):Due (.int i) i
 | str (x:Str) (h:x.cps.size<=16000000):Due (.str x) x.cps.size
 | byt (l:List UInt8) (h:l.length<=16000000):Due (.oc false l) l.length
 | list (l:List AV) (h:l.length<=16000000):Due (.list l) l.length
 | dict (l:List (Str×AV)) (h:l.length<=16000000):Due (.dict l) l.length
noncomputable def JG(s:Stmt):Expr:=if h:s.ctorIdx=5 then Stmt.Assign.elim (motive_2:=λq0=>Expr) s h λq0 v q1=>v else default
noncomputable def Hb:Expr:=JG (fu (bodyOf (D1 43)) 5)
noncomputable def Ie(e:Expr):Expr:=if h:e.ctorIdx=5 then Expr.IfExp.elim (motive_1:=λq0=>Expr) e h λq0 a q1 q2=>a else e
noncomputable def IA(e:Expr):Expr:=if h:e.ctorIdx=5 then Expr.IfExp.elim (motive_1:=λq0=>Expr) e h λq0 q1 b q2=>b else e
theorem Ea{X:aa->St->Prop}{K:Op->St->Prop}{ρ:aa}{S:St}{j:Nat}(hd:Due v i)(hv:aG ρ (Str.ofString "value")=some (.v v))(q:K (.v (.int i)) S):
  pv (isNone v) (ev c T0 n (j+6) (.E (aq (D1 43)) (Ie Hb) ρ S K X)) (ev c T0 n (j+6) (.E (aq (D1 43)) (IA Hb) ρ S K X)):=by
 cases hd
 all_goals
  walk_at"ev"
  try
   rw[hv]
   walk_at"ev"
   rw[hv]
   walk_at"ev"
  exact q
theorem CO(hd:Due v i):(isNone AV.none&& !An v)=true:=by cases hd<;>rfl
theorem Bw{p:Int->Bool}{t:Int}(h:((List.range 100).all λn=>p n)=true)(ht:0<=t/\t<100):p t=true:=by
 obtain⟨n,rfl⟩:=Int.eq_ofNat_of_zero_le ht.1
 exact List.all_eq_true.mp h n (List.mem_range.mpr (Int.ofNat_lt.mp ht.2))
theorem DG{t:Int}(ht:0<=t/\t<100):(decide (1=t)||(decide (2=t)||(decide (6=t)||(decide (7=t)||false))))=(decide (1=t)||(decide (6=t)||(decide (2=t)||(decide (7=t)||false)))):=
 eq_of_beq (Bw (p:=λt=>(decide (1=t)||(decide (2=t)||(decide (6=t)||(decide (7=t)||false))))==(decide (1=t)||(decide (6=t)||(decide (2=t)||(decide (7=t)||false))))) rfl ht)
theorem Bb{t:Int}(ht:0<=t/\t<100)(h:t≠13):(((decide (9=t)||(decide (10=t)||false))==in2 t 10 9)&&(((decide (11=t)||(decide (12=t)||(decide (14=t)||(decide (15=t)||(decide (36=t)||false)))))==dm t)&&((decide (15<t)&&decide (t<25))==cY t)))=true:=by
 have:=Bw (p:=λt=>decide (t=13)||(((decide (9=t)||(decide (10=t)||false))==in2 t 10 9)&&(((decide (11=t)||(decide (12=t)||(decide (14=t)||(decide (15=t)||(decide (36=t)||false)))))==dm t)&&((decide (15<t)&&decide (t<25))==cY t)))) rfl ht
 rwa [decide_eq_false h]at this
theorem My(x:Bool):((!x) != x)=true:=by cases x<;>rfl
theorem nQ{x:Str}(h:(x.cps.toList.all λc=>Nat.blt c 128)=true):x.cps.toList.all c7=true:=by
 rw[List.all_eq_true]at h ⊢
 intro d m
 unfold c7
 rw[h d m];rfl
theorem fM{x:Str}(h:(x.cps.toList.all λc=>Nat.blt c 128)=true):aZ x=aY x:=by
 unfold aZ aY
 rw[List.all_eq_true]at h
 generalize x.cps.toList=l at h
 induction l with
 | nil=>rfl
 | cons a r ih=>
  have ha:a<128:=Nat.blt_eq.mp (h a (.head _))
  rw[List.flatMap_cons,List.map_cons,ih λd m=>h d (.tail _ m)]
  unfold Str.utf8Of
  rw[if_pos (by exact uA 0x40204806000008040900c00c ha)];rfl
noncomputable abbrev FJ(r:AV)(t:Int)(v:AV)(s:aa):aa:=(("told" :Str),.v r)::(("kind" :Str),.v (.int t))::(("value" :Str),.v v)::(("number" :Str),.v (.bool (decide (1=t)||(decide (2=t)||(decide (6=t)||(decide (7=t)||false))))))::(("typed" :Str),.v (.bool (decide (11=t)||(decide (12=t)||(decide (14=t)||(decide (15=t)||(decide (36=t)||false)))))))::s
theorem sQ(Z:Std c)(hc:c.clean=false)(hz:B.length<=16000000)(ht:0<=t/\t<100)(h13:t≠13)(h3:in2 t 3 8=false)(h:dw B p w b t i)(hd:Due v i)
  (h5:t=5->∃a m x,v=.str x/\gx B p w b a m x) (h4:t=4->b=1/\∃a m x,v=.str x/\c9 B p w a m x) (q:Q (.bool true) sh):
  ae c (n+30) 1009 [.v (aO k B p w b t),.v (.int t),.v v] [] sh Q X:=by
 have e:=Bool.and_eq_true_iff.mp (Bb ht h13)
 have f:=Bool.and_eq_true_iff.mp e.2
 have e1:=eq_of_beq e.1
 have e2:=eq_of_beq f.1
 have e3:=eq_of_beq f.2
 clear e f
 refine Z.call (f:=1009) rfl rfl rfl ?_
 refine dW (k:=54) 5 rfl λP1 hP1=>?_
 have f1:P1 (FJ (aO k B p w b t) t v []) ⟨sh,[]⟩:=by
  refine hP1 _ _ (dW (k:=52) 2 rfl λP2 hP2=>?_)
  have f2:P2 (FJ (aO k B p w b t) t v [(("due" :Str),.v (.int i))]) ⟨sh,[]⟩:=by
   refine hP2 _ _ (dW (k:=51) 1 rfl λP3 hP3=>?_)
   have f3:P3 (FJ (aO k B p w b t) t v [(("due" :Str),.v (.int i))]) ⟨sh,[]⟩:=by
    refine hP3 _ _ (dW (k:=50) 1 rfl λP4 hP4=>?_)
    have f4:P4 (FJ (aO k B p w b t) t v [(("due" :Str),.v (.int i))]) ⟨sh,[]⟩:=by
     refine hP4 _ _ (dW (k:=49) 1 rfl λP5 hP5=>?_)
     have f5:∀x,x=aE t 6->P5 (FJ (aO k B p w b t) t v [(("due" :Str),.v (.int i)),(("allowed" :Str),.v (.list [.bool (decide (t=9)),.bool (decide (t=25)),.bool (decide (4=t)||(decide (5=t)||false)),.bool (decide (t=4)),.bool (decide (9=t)||(decide (10=t)||false)),.bool (decide (11=t)||(decide (12=t)||(decide (14=t)||(decide (15=t)||(decide (36=t)||false))))),.bool x]))]) ⟨sh,[]⟩:=λx hx=>by
      subst hx
      refine hP5 _ _ ?_
      walk_at"ev"
      refine b8 Z hc hz ht h13 h (turn:=0) (by decide) ?_
      walk_at"ev"
      refine b8 Z hc hz ht h13 h (turn:=1) (by decide) ?_
      walk_at"ev"
      refine b8 Z hc hz ht h13 h (turn:=2) (by decide) ?_
      walk_at"ev"
      refine b8 Z hc hz ht h13 h (turn:=3) (by decide) ?_
      walk_at"ev"
      refine b8 Z hc hz ht h13 h (turn:=4) (by decide) ?_
      walk_at"ev"
      refine b8 Z hc hz ht h13 h (turn:=5) (by decide) ?_
      walk_at"ev"
      refine b8 Z hc hz ht h13 h (turn:=6) (by decide) ?_
      walk_at"ev"
      have all:List.all [(!aE t 0) != aE t 0,(!aE t 1) != aE t 1,(!aE t 2) != aE t 2,(!aE t 3) != aE t 3,(!aE t 4) != aE t 4,(!aE t 5) != aE t 5,(!aE t 6) != aE t 6] id=true:=by
       simp only[List.all_cons,List.all_nil,id,My,Bool.and_self]
      rw[<-all]at q
      exact q
     by_cases h15:15<t
     ·walk_at"ev"
      exact f5 _ (by unfold aE;rw[decide_eq_true h15];rfl)
     ·walk_at"ev"
      exact f5 false (by unfold aE;rw[decide_eq_false h15];rfl)
    by_cases e:t=4
    ·obtain⟨rfl,a,m,x,rfl,y⟩:=h4 e
     have e8:=fM y.h4
     have hl:(sl B a m).length<=16000000:=by rw[aS (by have:=y.h1;exact uC 0x404006080244006c00c this)];have:=y.h1;exact uC 0x1e8480088000092021b0030f4240040000c hz this
     subst e
     walk_at"ev"
     refine fY Z.soft y.o y.h1 y.h2 y.h3 ?_
     walk_at"ev"
     cases k
     all_goals
      walk_at"ev"
      refine Gd.i (nQ y.h4) (And.intro (by rw[e8,y.h5];exact uA 0x8000002000f4240040000c hl) ?_)
      walk_at"ev"
      refine cF (by rw[decide_eq_true (by rw[e8,y.h5])];rfl) ?_
      exact f4
    ·walk_at"ev"
     exact f4
   by_cases e4:t=4
   ·obtain⟨rfl,a,m,x,rfl,y⟩:=h4 e4
    have e8:=fM y.h4
    have hl:(sl B a m).length<=16000000:=by rw[aS (by have:=y.h1;exact uC 0x404006080244006c00c this)];have:=y.h1;exact uC 0x1e8480088000092021b0030f4240040000c hz this
    subst e4
    walk_at"ev"
    refine gJ Z.soft y.o y.h1 y.h2 y.h3 ?_
    walk_at"ev"
    cases k
    all_goals
     walk_at"ev"
     refine Gd.i (nQ y.h4) (And.intro (by rw[e8,y.h5];exact uA 0x8000002000f4240040000c hl) ?_)
     walk_at"ev"
     refine cF (by rw[decide_eq_true (by rw[e8,y.h5])];rfl) ?_
     exact f3
   by_cases e5:t=5
   ·obtain⟨a,m,x,rfl,y⟩:=h5 e5
    have hl:(sl B a m).length<=16000000:=by rw[aS y.h];have:=y.h;exact uC 0x1e848008800040430030f4240040000c hz this
    subst e5
    walk_at"ev"
    refine gC Z.soft y.o y.s y.h ?_
    walk_at"ev"
    cases k
    all_goals
     walk_at"ev"
     refine Gd.i y.h1 (And.intro (by rw[y.h2];exact uA 0x8000002000f4240040000c hl) ?_)
     walk_at"ev"
     refine cF (by rw[decide_eq_true y.h2.symm];rfl) ?_
     exact f3
   walk_at"ev"
   refine cF (by rw[decide_eq_false (Ne.symm e4),decide_eq_false (Ne.symm e5)];rfl) ?_
   exact f3
  have hbi:=CO hd
  walk_at"ev"
  refine Ea (j:=46) hd rfl ?_
  walk_at"ev"
  refine mh Z.soft hz h ?_
  walk_at"ev"
  refine yx Z.soft hz h ?_
  walk_at"ev"
  refine cF (bne_self_eq_false _) ?_
  exact f2
 walk_at"ev"
 refine fJ Z.soft ?_
 walk_at"ev"
 refine gg Z.soft ?_
 walk_at"ev"
 refine iI Z.soft ?_
 walk_at"ev"
 refine nZ Z.soft h3 ?_
 walk_at"ev"
 refine cF (by rw[DG ht];simp only[beq_self_eq_true,Bool.and_self,Bool.not_true]) ?_
 walk_at"ev"
 refine iB Z.soft ?_
 walk_at"ev"
 refine dS Z.soft ?_
 walk_at"ev"
 refine gh Z.soft ?_
 walk_at"ev"
 refine mF Z.soft ?_
 walk_at"ev"
 refine cF (by simp only[beq_self_eq_true,Bool.and_self,Bool.not_true]) ?_
 walk_at"ev"
 refine dJ Z.soft ?_
 walk_at"ev"
 refine eX Z.soft ?_
 walk_at"ev"
 refine eY Z.soft ?_
 by_cases h15:15<t
 ·rw[decide_eq_true h15,Bool.true_and]at e3
  walk_at"ev"
  refine cF (by rw[e1,e2,e3];simp only[beq_self_eq_true,Bool.and_self,Bool.not_true]) ?_
  exact f1
 ·rw[decide_eq_false h15,Bool.false_and]at e3
  walk_at"ev"
  refine cF (by rw[e1,e2,<-e3];simp only[beq_self_eq_true,Bool.and_self,Bool.not_true]) ?_
  exact f1
end
section
variable {c:Cx}{n:Nat}{sh:Sh}{Q:AV->Sh->Prop}{X:Sh->Prop}
theorem mG{β:Type}(g:AV->β)(f:Nat->β):∀(m a:Nat),(∀i,i<m->g (.int ((a+i:Nat):Int))=f (a+i))->(df a m).map g=(List.range' a m).map f:=by
 intro m
 induction m with
 | zero=>
  intro _ _
  exact rfl
 | succ m ih=>
  intro a h
  show g (.int a)::(df ((a:Int)+1) m).map g=_
  rw[List.range'_succ,List.map_cons]
  have h0:=h 0 (by exact uA 0x2403048058)
  rw[Nat.add_zero]at h0
  rw[h0]
  congr 1
  rw[show((a:Int)+1)=((a+1:Nat):Int) by exact Int.le_antisymm (uA 0x24032000000a0059) (uA 0x280160900c9)]
  exact ih (a+1) λi hi=>by
   have:=h (i+1) (by exact uB 0x910c120900d8100900c00c hi)
   rwa [show a+(i+1)=a+1+i by exact Nat.le_antisymm (uB 0x201201b04886018) (uB 0x910c03100900d8)]at this
theorem dB{β:Type}(g:AV->β)(f:Nat->β)(m:Nat)(h:∀i,i<m->g (.int (i:Int))=f i):(df 0 m).map g=(List.range m).map f:=by
 rw[List.range_eq_range']
 exact mG g f m 0 λi hi=>by rw[Nat.zero_add];exact h i hi
noncomputable def intD(h:Int->AV):AV->AV
 |.int i=>h i
 | a=>a
theorem ry{B:List UInt8}{p q w m:Nat}(h:q+w<=m):sl (sl B p m) q w=sl B (p+q) w:=by
 unfold sl
 rw[List.drop_take,List.drop_drop,List.take_take,Nat.min_eq_left (by exact uD 0x60402000c3803880800c00c h (Nat.sub_add_cancel (n:=m) (m:=q) (uC 0x1000080800c00c h)))]
theorem cU{i m w:Nat}(hi:i<m):i*w+w<=w*m:=by
 have:=Nat.mul_le_mul_right w (show i+1<=m by exact uB 0x2012018100900c00c hi)
 rw[Nat.add_mul,Nat.one_mul,Nat.mul_comm m w]at this
 exact this
section
variable {k:Bool}{B l:List UInt8}{p w a b m:Nat}{t i:Int}{v:AV}
theorem ju(Z:Std c)(s:Bool)(D:List (Int×Str))(hD:D=bif s then tI else tU)(h4:w4 w)(hm:0<m)(hm2:m<=1000000)(hl:l.length=w*m)
  (q:Q (.tuple ((List.range m).map λi=>.int (bif s then de w (iE (sl l (i*w) w))else iE (sl l (i*w) w)))) sh):ae c (n+2) 48 [.v (.tab D),.v (oc k l),.v (.int m)] [] sh Q X:=by
 have h8:w<=8/\0<w:=by unfold w4 at h4;lia
 have hl2:l.length<=8000000:=by rw[hl];exact Nat.le_trans (Nat.mul_le_mul h8.1 hm2) (by decide)
 have e1:(l.length:Int)/m=w:=by
  rw[hl,Int.natCast_mul];exact Int.mul_ediv_cancel _ (by lia)
 have e2:(!KTD.inKeys (w:Int) D)=false:=by
  subst hD
  unfold w4 at h4
  rcases h4 with rfl|rfl|rfl|rfl<;>cases s<;>decide
 have e3:(l.length:Int)=m*w:=by rw[hl,Int.natCast_mul,Int.mul_comm]
 refine Z.call (f:=48) rfl rfl rfl ?_
 cases k
 all_goals
  have zq0:l.length<=16777216:=by exact uA 0x80000020007a120040000c hl2
  walk_at"ev"
  rw[e1]
  have zq0:l.length<=16777216:=by exact uA 0x80000020007a120040000c hl2
  walk_at"ev"
  walk_at"ev"
  rw[Int.toNat_natCast]
  refine bx (intD λj=>.int (bif s then de w (iE (sl l (j.toNat*w) w))else iE (sl l (j.toNat*w) w))) _ (λa ha K kk=>?_) ?_
  ·obtain⟨j,hj,rfl⟩:=b7 ha
   have hs:=cU (w:=w) hj
   have e:part l (some ((j:Int)*w)) (some (((j:Int)+1)*w))=sl l (j*w) w:=by
    rw[rz (a:=j*w) (b:=j*w+w) (by rw[Int.natCast_mul]) (by rw[Int.add_mul,Int.one_mul,Int.natCast_add,Int.natCast_mul]) (by exact uB 0x800c00) (by exact uD 0xc106041820c00c100200e hl hs)]
    rw[show j*w+w-j*w=w by exact Nat.le_antisymm (uC 0x400020218800dffe (Nat.sub_add_cancel (n:=j*w+w) (m:=j*w) (uB 0x800c00))) (uC 0x8020218800e00e (Nat.sub_add_cancel (n:=j*w+w) (m:=j*w) (uB 0x800c00)))]
   have el:(sl l (j*w) w).length=w:=aS (by exact uD 0xc106041820c00c100200e hl hs)
   have zq0:l.length<=16777216:=by exact uA 0x80000020007a120040000c hl2
   walk_at"ev"
   rw[e]
   cases s
   ·subst hD
    first|refine dP (k:=false) Z (by rw[el];exact h4) ?_|refine dP (k:=true) Z (by rw[el];exact h4) ?_
    exact kk
   ·subst hD
    first|refine mA (k:=false) Z (by rw[el];exact h4) ?_|refine mA (k:=true) Z (by rw[el];exact h4) ?_
    rw[el]
    exact kk
  ·rw[dB _ (λj=>AV.int (bif s then de w (iE (sl l (j*w) w))else iE (sl l (j*w) w))) m λj hj=>rfl]
   refine And.intro (by rw[List.length_map,List.length_range];exact uA 0x80000020000f424040000c hm2) ?_
   walk_at"ev"
   refine And.intro (by rw[List.length_map,List.length_range];exact uA 0x80000020000f424040000c hm2) ?_
   exact q
theorem nv(Z:Std c)(s:Bool)(ht:t=bif s then 1 else 2)(hz:B.length<=16000000)(h4:w4 w)(hm:0<m)(hm2:m<=1000000)(hp:p+w*m<=B.length)
  (q:Q (.list ((List.range m).map λi=>.int (bif s then de w (num B (p+i*w) w)else num B (p+i*w) w))) sh):ae c (n+6) 518 [.v (g9 k B p w m t)] [] sh Q X:=by
 have h8:w<=8:=by unfold w4 at h4;lia
 refine Z.call (f:=518) rfl rfl rfl ?_
 have e:((List.range m).map λi=>AV.int (bif s then de w (iE (sl (sl B p (w*m)) (i*w) w))else iE (sl (sl B p (w*m)) (i*w) w)))=(List.range m).map λi=>AV.int (bif s then de w (num B (p+i*w) w)else num B (p+i*w) w):=by
  refine List.map_congr_left λj hj=>?_
  have hs:=cU (w:=w) (List.mem_range.mp hj)
  rw[ry hs];rfl
 have el:((List.range m).map λi=>AV.int (bif s then de w (num B (p+i*w) w)else num B (p+i*w) w)).length=m:=by rw[List.length_map,List.length_range]
 cases s
 all_goals
  subst ht
  walk_at"ev"
  refine aA Z.soft (by decide) rfl ?_
  walk_at"ev"
  refine lr Z.soft hz h8 (by exact uA 0x7a120020000f424040000c hm2) hp ?_
  walk_at"ev"
  refine aA Z.soft (by decide) rfl ?_
  walk_at"ev"
 ·refine ju Z false tU rfl h4 hm hm2 (aS hp) ?_
  rw[e]
  have zq0:(List.map (λi=>AV.int (bif false then de w (num B (p+i*w) w)else num B (p+i*w) w)) (List.range m)).length<=16777216:=by exact uB 0x80000021000087ff80f424040000c hm2 el
  walk_at"ev"
  exact q
 ·refine ju Z true tI rfl h4 hm hm2 (aS hp) ?_
  rw[e]
  have zq0:(List.map (λi=>AV.int (bif true then de w (num B (p+i*w) w)else num B (p+i*w) w)) (List.range m)).length<=16777216:=by exact uB 0x80000021000087ff80f424040000c hm2 el
  walk_at"ev"
  exact q
theorem vD(Z:Std c)(hz:B.length<=16000000)(h4:w4 w)(hm:0<m)(hm2:m<=1000000)(hp:p+w*m<=B.length)
  (q:Q (.list ((List.range m).map λi=>.bool (!decide (num B (p+i*w) w=0)))) sh):ae c (n+6) 518 [.v (g9 k B p w m 26)] [] sh Q X:=by
 have h8:w<=8:=by unfold w4 at h4;lia
 refine Z.call (f:=518) rfl rfl rfl ?_
 have e:((List.range m).map λi=>AV.int (bif false then de w (iE (sl (sl B p (w*m)) (i*w) w))else iE (sl (sl B p (w*m)) (i*w) w)))=(List.range m).map λi=>AV.int (num B (p+i*w) w):=by
  refine List.map_congr_left λj hj=>?_
  have hs:=cU (w:=w) (List.mem_range.mp hj)
  rw[ry hs];rfl
 walk_at"ev"
 refine aA Z.soft (by decide) rfl ?_
 walk_at"ev"
 walk_at"ev"
 refine lr Z.soft hz h8 (by exact uA 0x7a120020000f424040000c hm2) hp ?_
 walk_at"ev"
 refine aA Z.soft (by decide) rfl ?_
 walk_at"ev"
 refine ju Z false tU rfl h4 hm hm2 (aS hp) ?_
 rw[e]
 walk_at"ev"
 refine And.intro (by rw[List.length_map,List.length_range];exact uA 0x80000020480600f424040000c hm2) ?_
 refine bx (intD λj=>.bool (!decide (j=0))) _ (λa ha K kk=>?_) ?_
 ·obtain⟨j,hj,rfl⟩:=List.mem_map.mp ha
  walk_at"ev"
  exact kk
 ·rw[List.map_map]
  refine And.intro (by rw[List.length_map,List.length_range];exact uA 0x80000020000f424040000c hm2) ?_
  exact q
theorem zm(Z:Std c)(hz:B.length<=16000000)(h4:w4 w)(hm:0<m)(hm2:m<=1000000)(ks:Nat->Str)(hk:∀i,i<m->∃a l,c9 B (p+i*w) w a l (ks i))
  (q:Q (.list ((List.range m).map λi=>.str (ks i))) sh):ae c (n+20) 518 [.v (g9 k B p w m 4)] [] sh Q X:=by
 refine Z.call (f:=518) rfl rfl rfl ?_
 walk_at"ev"
 refine aA Z.soft (by decide) rfl ?_
 walk_at"ev"
 walk_at"ev"
 refine aA Z.soft (by decide) rfl ?_
 walk_at"ev"
 rw[Int.toNat_natCast]
 refine bx (intD λj=>.str (ks j.toNat)) _ (λa ha K kk=>?_) ?_
 ·obtain⟨j,hj,rfl⟩:=b7 ha
  obtain⟨a,l,y⟩:=hk j hj
  walk_at"ev"
  refine wb Z.soft hz (by exact uA 0x7a120020000f424040000c hm2) hj ?_
  walk_at"ev"
  refine fP Z.soft y.o y.h1 y.h2 y.h3 y.h4 y.h5 y.h6 ?_
  exact kk
 ·rw[dB _ (λj=>AV.str (ks j)) m λj hj=>rfl]
  refine And.intro (by rw[List.length_map,List.length_range];exact uA 0x80000020000f424040000c hm2) ?_
  exact q
end
end
section
variable {c:Cx}{n:Nat}{sh:Sh}{Q:AV->Sh->Prop}{X:Sh->Prop}
def Bg(c:Cx)(N:Nat)(k:Bool)(B:List UInt8)(p w b:Nat)(t:Int)(r:AV):Prop:=
 ∀(sh:Sh) (Q:AV->Sh->Prop) (X:Sh->Prop),Q r sh->ae c N 854 [.v (aO k B p w b t)] [] sh Q X
structure gT(B:List UInt8)(q:Nat)(t:Int)(e:Nat):Prop where
 d:∃d:UInt8,B[q]? =some d/\(d.toNat:Int)=4*t+e
 t:fh t
 e:e<=3
noncomputable def Jh(h:Int->Str):AV->Str
 |.int i=>h i
 | _=>default
theorem bA(e:Nat):(2:Int)^e=((2^e:Nat):Int):=by rw[Int.natCast_pow];rfl
section
variable {k:Bool}{B l:List UInt8}{p w a b m:Nat}{t i:Int}{v:AV}
theorem xw(Z:Std c)(hz:B.length<=16000000)(h4:w4 w)(hm:m<=1000000)(ts:Nat->Int)(es:Nat->Nat)(rs:Nat->AV)(he:∀i,i<m->gT B (p+m*w+i) (ts i) (es i))
  (hv:∀i,i<m->Bg c.soft (n+6) k B (p+i*w) w (2^es i) (ts i) (rs i)) (q:Q (.list ((List.range m).map rs)) sh):ae c (n+8) 460 [.v (cw 471 k B p w m)] [] sh Q X:=by
 refine Z.call (f:=460) rfl rfl rfl ?_
 walk_at"ev"
 walk_at"ev"
 refine aA Z.soft (by decide) rfl ?_
 walk_at"ev"
 rw[Int.toNat_natCast]
 refine bx (intD λj=>rs j.toNat) _ (λa ha K kk=>?_) ?_
 ·refine bp λGG1 hG1=>?_
  obtain⟨j,hj,rfl⟩:=b7 ha
  obtain⟨⟨d,hd,ed⟩,ht,he⟩:=he j hj
  refine hG1 ?_
  walk_at"ev"
  refine lH Z.soft hz h4 (by exact uA 0x7a120020000f424040000c hm) hj hd ht he ed ?_
  walk_at"ev"
  rw[bA]
  exact hv j hj _ _ _ kk
 ·rw[dB _ rs m λj hj=>rfl]
  refine And.intro (by rw[List.length_map,List.length_range];exact uA 0x80000020000f424040000c hm) ?_
  exact q
theorem xG{x:Str}{a:AV}:∀{l:List (Str×AV)},x∉l.map (·.1)->bq l x a=l++[(x,a)]:=by
 intro l
 induction l with
 | nil=>
  intro _
  exact rfl
 | cons p r ih=>
  intro h
  rw[List.map_cons,List.mem_cons,not_or]at h
  unfold bq
  cases w:Fast.sEq p.1 x with
  | true=>exact absurd (Fast.sEq_iff.mp w).symm h.1
  | false=>show p::bq r x a=_;rw[ih h.2];rfl
theorem sW{ks:AV->Str}{g:AV->AV}:∀{l:List AV} {acc:List (Str×AV)},(acc.map (·.1)++l.map ks).Nodup->l.foldl (λacc a=>bq acc (ks a) (g a)) acc=acc++l.map λa=>(ks a,g a):=by
 intro l
 induction l with
 | nil=>
  intro acc _
  rw[List.foldl_nil,List.map_nil,List.append_nil]
 | cons a r ih=>
  intro acc h
  have h0:ks a∉acc.map (·.1):=by
   rw[List.map_cons,List.nodup_append]at h
   exactλm=>h.2.2 _ m _ (.head _) rfl
  rw[List.foldl_cons,xG h0,ih (by rw[List.map_append,List.append_assoc];exact h),List.append_assoc];rfl
noncomputable def Fw:Stmt:=match sgn 854 with
 | some (s,_)=>s
 | none=>default
noncomputable def IF(t:Int):Nat:=bif decide (t=0)then 0 else bif decide (t=26)then 1 else bif decide (1=t)||(decide (6=t)||(decide (2=t)||(decide (7=t)||false)))then 2 else bif decide (t=5)then 3 else bif decide (t=4)then 4 else
 bif decide (t=25)then 5 else bif decide (t=9)then 6 else bif in2 t 10 9 then 7 else bif dm t then 8 else bif cY t then 9 else 10
theorem ij(Z:Std c){j:Nat}(hj:IF t=j)(h10:j≠10)(q:∀R:Fo->aa->St->Prop,(∀o ρ S,vK Q S o->R (.ret o) ρ S)->ev c T0 (n+3) (58-2*j) (.B (aq Fw) (Fu j (fu (bodyOf Fw) 0)) (dj ["self"] [.v (aO k B p w b t)]) ⟨sh,[]⟩ R (λq0 S=>X S.sh))):
  ae c (n+4) 854 [.v (aO k B p w b t)] [] sh Q X:=by
 refine Z.call (f:=854) rfl rfl rfl ?_
 replace q:=q (dk Q) λq0 q1 q2 h=>h
 revert q
 generalize dk Q=R
 intro q
 have F:∀{i},i=j->ev c T0 (n+3) (58-2*j) (.B (aq Fw) (Fu j (fu (bodyOf Fw) 0)) (dj ["self"] [.v (aO k B p w b t)]) ⟨sh,[]⟩ R (λq0 S=>X S.sh))->ev c T0 (n+3) (58-2*i) (.B (aq Fw) (Fu i (fu (bodyOf Fw) 0)) (dj ["self"] [.v (aO k B p w b t)]) ⟨sh,[]⟩ R (λq0 S=>X S.sh)):=λe x=>e▸x
 refine cW ?_
 walk_at"nf"
 unfold IF at hj
 refine fJ Z.soft ?_
 walk_at"nf"
 refine aD (λh=>?_) (λh=>?_)
 ·exact F (c8 h hj) q
 replace hj:=cZ h hj
 refine cW ?_
 walk_at"nf"
 refine gg Z.soft ?_
 walk_at"nf"
 refine aD (λh=>?_) (λh=>?_)
 ·exact F (c8 h hj) q
 replace hj:=cZ h hj
 refine cW ?_
 walk_at"nf"
 refine iI Z.soft ?_
 walk_at"nf"
 refine aD (λh=>?_) (λh=>?_)
 ·exact F (c8 h hj) q
 replace hj:=cZ h hj
 refine cW ?_
 walk_at"nf"
 refine dS Z.soft ?_
 walk_at"nf"
 refine aD (λh=>?_) (λh=>?_)
 ·exact F (c8 h hj) q
 replace hj:=cZ h hj
 refine cW ?_
 walk_at"nf"
 refine iB Z.soft ?_
 walk_at"nf"
 refine aD (λh=>?_) (λh=>?_)
 ·exact F (c8 h hj) q
 replace hj:=cZ h hj
 refine cW ?_
 walk_at"nf"
 refine gh Z.soft ?_
 walk_at"nf"
 refine aD (λh=>?_) (λh=>?_)
 ·exact F (c8 h hj) q
 replace hj:=cZ h hj
 refine cW ?_
 walk_at"nf"
 refine mF Z.soft ?_
 walk_at"nf"
 refine aD (λh=>?_) (λh=>?_)
 ·exact F (c8 h hj) q
 replace hj:=cZ h hj
 refine cW ?_
 walk_at"nf"
 refine dJ Z.soft ?_
 walk_at"nf"
 refine aD (λh=>?_) (λh=>?_)
 ·exact F (c8 h hj) q
 replace hj:=cZ h hj
 refine cW ?_
 walk_at"nf"
 refine eX Z.soft ?_
 walk_at"nf"
 refine aD (λh=>?_) (λh=>?_)
 ·exact F (c8 h hj) q
 replace hj:=cZ h hj
 refine cW ?_
 walk_at"nf"
 refine eY Z.soft ?_
 walk_at"nf"
 refine aD (λh=>?_) (λh=>?_)
 ·exact F (c8 h hj) q
 ·exact absurd (cZ h hj).symm h10
theorem nH(Z:Std c){x:Str}(y:c9 B p w a m x):Bg c (n+14) k B p w 1 4 (.str x):=λsh Q X q=>by
 refine ij (j:=4) Z rfl (by decide) λR hR=>?_
 walk_at"ev"
 refine fP Z.soft y.o y.h1 y.h2 y.h3 y.h4 y.h5 y.h6 ?_
 exact hR _ _ _ q
structure vm(B:List UInt8)(p w m a v:Nat)(ks:Nat->Str):Prop where
 z:B.length<=16000000
 h4:w4 w
 hw:3*w<=p
 hp:p<=B.length
 hm:m<=1000000
 hn:num B (p-w) w=m
 hv:num B (p-2*w) w=v
 hv4:w4 v
 ha:(p:Int)-3*w-num B (p-3*w) w=a
 hva:v<=a
 hap:a<=B.length
 hk:num B (a-v) v=m
 keys:∀i,i<m->∃a' l,c9 B (a+i*v) v a' l (ks i)
 nd:((List.range m).map ks).Nodup
theorem wZ(Z:Std c){ks:Nat->Str}(M:vm B p w m a b ks)(ts:Nat->Int)(es:Nat->Nat)(rs:Nat->AV)(he:∀i,i<m->gT B (p+m*w+i) (ts i) (es i))
  (hv:∀i,i<m->Bg c.soft (n+14) k B (p+i*w) w (2^es i) (ts i) (rs i)) (q:Q (.dict ((List.range m).map λi=>(ks i,rs i))) sh):ae c (n+16) 576 [.v (cw 587 k B p w m)] [] sh Q X:=by
 have hm:=M.hm
 refine Z.call (f:=576) rfl rfl rfl ?_
 walk_at"ev"
 refine Df Z.soft M.z M.h4 M.hw M.hp M.hv M.hv4 M.ha M.hva M.hap ?_
 rw[M.hk]
 walk_at"ev"
 refine wC Z.soft M.z M.h4 (by have:=M.hw;lia) M.hp ?_
 rw[M.hn]
 walk_at"ev"
 walk_at"ev"
 refine aA Z.soft (by decide) rfl ?_
 walk_at"ev"
 refine aA Z.soft (by decide) rfl ?_
 walk_at"ev"
 rw[show(bif decide ((m:Int)<m)then(m:Int)else m)=m by rw[decide_eq_false (by exact Int.not_lt.mpr (uA 0x2009))];rfl]
 walk_at"ev"
 rw[Int.toNat_natCast]
 refine sU (Jh λj=>ks j.toNat) (intD λj=>rs j.toNat) _ _ (λa' ha K kk=>?_) (λa' ha K kk=>?_) ?_
 ·refine bp λGG1 hG1=>?_
  obtain⟨j,hj,rfl⟩:=b7 ha
  obtain⟨a',l,y⟩:=M.keys j hj
  refine hG1 ?_
  walk_at"ev"
  refine wb Z.soft M.z (by exact uA 0x7a120020000f424040000c hm) hj ?_
  walk_at"ev"
  refine nH Z.soft y _ _ _ ?_
  exact kk
 ·refine bp λGG2 hG2=>?_
  obtain⟨j,hj,rfl⟩:=b7 ha
  obtain⟨⟨d,hd,ed⟩,ht,he⟩:=he j hj
  refine hG2 ?_
  walk_at"ev"
  refine lH Z.soft M.z M.h4 (by exact uA 0x7a120020000f424040000c hm) hj hd ht he ed ?_
  walk_at"ev"
  rw[bA]
  exact hv j hj _ _ _ kk
 ·rw[sW (by rw[List.map_nil,List.nil_append,dB _ ks m λj hj=>rfl];exact M.nd),List.nil_append,dB _ (λj=>(ks j,rs j)) m λj hj=>rfl]
  exact q
inductive Val(k:Bool)(B:List UInt8):Nat->Nat->Nat->Nat->Int->AV->Prop
 | nul {d p w b}:Val k B d p w b 0 .none
 | boo {d p w b} {r:Bool} (hw:w4 w) (hp:p+w<=B.length) (hr:(!decide (num B p w=0))=r):Val k B d p w b 26 (.bool r)
 | num {d p w b t i} (ht:t=1\/t=2\/t=6\/t=7) (h:dw B p w b t i):Val k B d p w b t (.int i)
 | str {d p w b a m x} (h:gx B p w b a m x):Val k B d p w b 5 (.str x)
 | key {d p w a m x} (h:c9 B p w a m x):Val k B d p w 1 4 (.str x)
 | blob {d p w b a m} (o:az B p w a) (s:aX B a b m) (h:a+m<=B.length):Val k B d p w b 25 (oc k (sl B a m))
 | vec {d p w b a m} {ts:Nat->Int} {es:Nat->Nat} {rs:Nat->AV} (o:az B p w a) (s:aX B a b m) (h:a<=B.length) (hm:m<=1000000) (he:∀i,i<m->gT B (a+m*b+i) (ts i) (es i))
  (hv:∀i,i<m->Val k B d (a+i*b) b (2^es i) (ts i) (rs i)):Val k B (d+1) p w b 10 (.list ((List.range m).map rs))
 | map {d p w b a m a' v} {ks:Nat->Str} {ts:Nat->Int} {es:Nat->Nat} {rs:Nat->AV} (o:az B p w a) (M:vm B a b m a' v ks) (he:∀i,i<m->gT B (a+m*b+i) (ts i) (es i))
  (hv:∀i,i<m->Val k B d (a+i*b) b (2^es i) (ts i) (rs i)):Val k B (d+1) p w b 9 (.dict ((List.range m).map λi=>(ks i,rs i)))
 | tvN {d p w b a m t} (s:Bool) (ht:t=bif s then 11 else 12) (o:az B p w a) (z:aX B a b m) (hm:0<m) (hm2:m<=1000000) (h:a+b*m<=B.length):
  Val k B d p w b t (.list ((List.range m).map λi=>.int (bif s then de b (num B (a+i*b) b)else num B (a+i*b) b)))
 | tvB {d p w b a m} (o:az B p w a) (z:aX B a b m) (hm:0<m) (hm2:m<=1000000) (h:a+b*m<=B.length):
  Val k B d p w b 36 (.list ((List.range m).map λi=>.bool (!decide (num B (a+i*b) b=0))))
 | tvK {d p w b a m t} {ks:Nat->Str} (ht:t=14\/t=15) (o:az B p w a) (z:aX B a b m) (hm:0<m) (hm2:m<=1000000) (h:a<=B.length) (hk:∀i,i<m->∃a' l,c9 B (a+i*b) b a' l (ks i)):
  Val k B d p w b t (.list ((List.range m).map λi=>.str (ks i)))
 | fvN {d p w b a:Nat} {m:Nat} {t:Int} (s:Bool) (hm:2<=m/\m<=4) (ht:t=16+3*((m:Int)-2)+bif s then 0 else 1) (o:az B p w a) (hb:w4 b) (h:a+b*m<=B.length):
  Val k B d p w b t (.list ((List.range m).map λi=>.int (bif s then de b (num B (a+i*b) b)else num B (a+i*b) b)))
theorem ip{d N:Nat}(h:30*(d+1)<=N):∃n,N=n+30:=⟨N-30,by exact Nat.le_antisymm (uB 0xf100c4010f100e00e (Nat.sub_add_cancel (n:=N) (m:=30) (uB 0x10f1020120183d000c h))) (uB 0x21e201810f100dffe (Nat.sub_add_cancel (n:=N) (m:=30) (uB 0x10f1020120183d000c h)))⟩
theorem rM(hz:B.length<=16000000){d:Nat}{r:AV}(h:Val k B d p w b t r):∀(c:Cx) (N:Nat),Std c->30*(d+1)<=N->Bg c N k B p w b t r:=by
 induction h with
 | nul=>
  intro c N Z hN sh Q X q
  obtain⟨n,rfl⟩:=ip hN
  refine ij (j:=0) Z rfl (by decide) λR hR=>?_
  exact hR _ _ _ q
 | boo hw hp hr=>
  intro c N Z hN sh Q X q
  obtain⟨n,rfl⟩:=ip hN
  refine ij (j:=1) Z rfl (by decide) λR hR=>?_
  walk_at"ev"
  refine fG Z.soft hz hw hp ?_
  rw[hr]
  exact hR _ _ _ q
 | num ht h=>
  intro c N Z hN sh Q X q
  obtain⟨n,rfl⟩:=ip hN
  refine ij (j:=2) Z (by rcases ht with rfl|rfl|rfl|rfl<;>rfl) (by decide) λR hR=>?_
  walk_at"ev"
  refine mh Z.soft hz h ?_
  exact hR _ _ _ q
 | str y=>
  intro c N Z hN sh Q X q
  obtain⟨n,rfl⟩:=ip hN
  refine ij (j:=3) Z rfl (by decide) λR hR=>?_
  walk_at"ev"
  refine eB Z.soft y.o y.s y.h y.h1 y.h2 y.h3 ?_
  exact hR _ _ _ q
 | key y=>
  intro c N Z hN sh Q X q
  obtain⟨n,rfl⟩:=ip hN
  exact(nH (n:=n+16) Z y) _ _ _ q
 | blob o s h=>
  intro c N Z hN sh Q X q
  obtain⟨n,rfl⟩:=ip hN
  refine ij (j:=5) Z rfl (by decide) λR hR=>?_
  walk_at"ev"
  refine iY Z.soft o s h ?_
  exact hR _ _ _ q
 | vec o s h hm he hv ih=>
  intro c N Z hN sh Q X q
  obtain⟨n,rfl⟩:=ip hN
  refine ij (j:=7) Z rfl (by decide) λR hR=>?_
  walk_at"ev"
  refine dY Z.soft (.inl rfl) o s h ?_
  walk_at"ev"
  refine xw Z.soft hz s.hb hm _ _ _ he (λi hi=>ih i hi _ _ Z.soft (by exact uB 0xc54221b048060f40f110c120900d83d000c hN)) ?_
  exact hR _ _ _ q
 | map o M he hv ih=>
  intro c N Z hN sh Q X q
  obtain⟨n,rfl⟩:=ip hN
  refine ij (j:=6) Z rfl (by decide) λR hR=>?_
  walk_at"ev"
  refine sA Z.soft o ⟨M.h4,by have:=M.hw;lia,M.hn⟩ M.hp ?_
  walk_at"ev"
  refine wZ Z.soft M _ _ _ he (λi hi=>ih i hi _ _ Z.soft (by exact uB 0x1c4c221b048060f40f110c120900d83d000c hN)) ?_
  exact hR _ _ _ q
 | tvN s ht o z hm hm2 h=>
  intro c N Z hN sh Q X q
  obtain⟨n,rfl⟩:=ip hN
  refine ij (j:=8) Z (by cases s<;>subst ht<;>rfl) (by decide) λR hR=>?_
  walk_at"ev"
  refine jz Z.soft (by cases s<;>subst ht<;>rfl) o z (by exact uC 0x1000080800c00c h) ?_
  walk_at"ev"
  subst ht
  refine nv Z.soft s (by cases s<;>rfl) hz z.hb hm hm2 h ?_
  exact hR _ _ _ q
 | tvB o z hm hm2 h=>
  intro c N Z hN sh Q X q
  obtain⟨n,rfl⟩:=ip hN
  refine ij (j:=8) Z rfl (by decide) λR hR=>?_
  walk_at"ev"
  refine jz Z.soft rfl o z (by exact uC 0x1000080800c00c h) ?_
  walk_at"ev"
  refine vD Z.soft hz z.hb hm hm2 h ?_
  exact hR _ _ _ q
 | tvK ht o z hm hm2 h hk=>
  intro c N Z hN sh Q X q
  obtain⟨n,rfl⟩:=ip hN
  refine ij (j:=8) Z (by rcases ht with rfl|rfl<;>rfl) (by decide) λR hR=>?_
  walk_at"ev"
  refine jz Z.soft (by rcases ht with rfl|rfl<;>rfl) o z (by exact uB 0x2000100000c h) ?_
  walk_at"ev"
  rcases ht with rfl|rfl
  all_goals
   refine zm Z.soft hz z.hb hm hm2 _ hk ?_
   exact hR _ _ _ q
 | @fvN d p w b a m t s hm ht o hb h=>
  intro c N Z hN sh Q X q
  obtain⟨n,rfl⟩:=ip hN
  have m3:m=2\/m=3\/m=4:=by lia
  have hf:cY t=true/\IF t=9/\(t-16)/3+2=m/\pR ((t-16)%3+1)=bif s then 1 else 2:=by subst ht;rcases m3 with rfl|rfl|rfl<;>cases s<;>exact⟨rfl,rfl,rfl,rfl⟩
  refine ij (j:=9) Z hf.2.1 (by decide) λR hR=>?_
  walk_at"ev"
  refine pL Z.soft hf.1 o (by exact uC 0x1000080800c00c h) ?_
  walk_at"ev"
  rw[hf.2.2.1]
  refine nv Z.soft s hf.2.2.2 hz hb (by lia) (by exact uA 0x7a1202000420000c hm.2) h ?_
  exact hR _ _ _ q
end
end
section
variable {c:Cx}{n:Nat}{sh:Sh}{Q:AV->Sh->Prop}{X:Sh->Prop}
theorem kD{α:Type}{l:List α}{j:Nat}{x:α}(h1:0<j)(h2:j<=l.length)(h:l[l.length-j]? =some x):dT l (-(j:Int))=some x:=by
 unfold dT
 rw[decide_eq_false (by exact Int.not_le.mpr (uA 0x8000001400f64002402c00c h1)),decide_eq_true (by exact uB 0xf1079100000c h2),show(-(j:Int)+l.length).toNat=l.length-j by lia]
 exact h
theorem uL(Z:Std c){k:Bool}{B:List UInt8}{w e:Nat}{t:Int}{d d2:UInt8}(hz:B.length<=16000000)(h3:3<=B.length)(hw:2+w<=B.length)(h1:B[B.length-1]? =some d)(hd:d.toNat=w)(h2:B[B.length-2]? =some d2)(hd2:(d2.toNat:Int)=4*t+e)(ht:fh t)(he:e<=3)
  (q:Q (aO k B (B.length-2-w:Nat) w (2^e:Nat) t) sh):ae c (n+6) 869 [.v (oc k B)] [] sh Q X:=by
 have e1:dT B (-1)=some d:=kD (j:=1) (by decide) (by lia) h1
 have e2:dT B (-2)=some d2:=kD (j:=2) (by decide) (by lia) h2
 have w8:(d.toNat:Int)=w:=by rw[hd]
 refine Z.call (f:=869) rfl rfl rfl ?_
 cases k
 all_goals
  have zq0:B.length<=16777216:=by exact uA 0x8000002000f4240040000c hz
  walk_at"ev"
  rw[e1]
  walk_at"ev"
  refine kW (p:=((B.length-2-w:Nat):Int)) Z.soft hz (.inr ⟨by exact uA 0x2000000500200000127d9,by lia⟩) ?_
  have zq0:B.length<=16777216:=by exact uA 0x8000002000f4240040000c hz
  walk_at"ev"
  rw[e2]
  walk_at"ev"
  rw[show iM d2=.int (4*t+e) by unfold iM;rw[hd2]]
  refine qn Z ht he ?_
  walk_at"ev"
  rw[bA,w8]
  exact q
end
section
variable {c:Cx}{n:Nat}{sh:Sh}{Q:AV->Sh->Prop}{X:Sh->Prop}
inductive ng:Nat->AV->AV->Prop
 | nul {d}:ng d .none .none
 | boo {d} (b:Bool):ng d (.bool b) (.bool b)
 | int {d} (i:Int):ng d (.int i) (.int i)
 | str {d} (x:Str):ng d (.str x) (.str x)
 | byt {d} (k:Bool) (l:List UInt8) (h:l.length<=16000000):ng d (oc k l) (.oc false l)
 | list {d} (m:Nat) (f g:Nat->AV) (hm:m<=1000000) (h:∀i,i<m->ng d (f i) (g i)):ng (d+1) (.list ((List.range m).map f)) (.list ((List.range m).map g))
 | dict {d} (la ld:List (Str×AV)) (hm:ld.length<64) (hk:la.map (·.1)=a8 (ld.map (·.1))) (ha:la.length<=1000000) (f g:Str->AV)
  (hf:∀x∈ld.map (·.1),a7 la x=some (f x)) (hg:∀x∈ld.map (·.1),a7 ld x=some (g x)) (h:∀x∈ld.map (·.1),ng d (f x) (g x)):ng (d+1) (.dict la) (.dict ld)
theorem oj:∀(l:List Str) (K:Bool->Prop),K true->zx (l.map .str) (l.map .str) K
 | [],_,k=>k
 | x::r,K,k=>by
  show(λa=>zx (r.map AV.str) (r.map AV.str) λb=>K (a&&b)) (decide (x=x))
  rw[decide_eq_true rfl]
  exact oj r _ k
theorem jd{α:Type}:∀(l:List α) (K:List Bool->Prop),K (l.map λq0=>true)->boolsOf (l.map λq0=>AV.bool true) K:=by
 intro l
 induction l with
 | nil=>
  intro _ k
  exact k
 | cons _ r ih=>
  intro K k
  exact ih (λl=>K (true::l)) k
theorem xl{α:Type}(l:List α):(l.map λq0=>true).all id=true:=by
 rw[List.all_eq_true];intro x m;obtain⟨_,_,rfl⟩:=List.mem_map.mp m;rfl
theorem eZ{m:Nat}{f:Nat->AV}{j:Nat}(h:j<m):pJ ((List.range m).map f) (j:Int)=some (f j):=by
 unfold pJ
 rw[decide_eq_true (by exact uA 0x100000011)]
 show((List.range m).map f)[((j:Int)).toNat]? =_
 rw[Int.toNat_natCast,List.getElem?_map,List.getElem?_range h];rfl
theorem wy{d:Nat}{a b:AV}(h:ng d a b):∀(c:Cx) (N:Nat),Std c->d+1<=N->∀(sh:Sh) (Q:AV->Sh->Prop) (X:Sh->Prop),Q (.bool true) sh->ae c N 907 [.v a,.v b] [] sh Q X:=by
 induction h with
 | nul=>
  intro c N Z hN sh Q X q
  obtain⟨n,rfl⟩:∃n,N=n+1:=⟨N-1,by exact Nat.le_antisymm (uB 0x900c40100900e00e (Nat.sub_add_cancel (n:=N) (m:=1) (uB 0x8048100900c00c hN))) (uB 0x2012018100900dffe (Nat.sub_add_cancel (n:=N) (m:=1) (uB 0x8048100900c00c hN)))⟩
  refine Z.call (f:=907) rfl rfl rfl ?_
  walk_at"ev"
  exact q
 | boo b=>
  intro c N Z hN sh Q X q
  obtain⟨n,rfl⟩:∃n,N=n+1:=⟨N-1,by exact Nat.le_antisymm (uB 0x900c40100900e00e (Nat.sub_add_cancel (n:=N) (m:=1) (uB 0x8048100900c00c hN))) (uB 0x2012018100900dffe (Nat.sub_add_cancel (n:=N) (m:=1) (uB 0x8048100900c00c hN)))⟩
  refine Z.call (f:=907) rfl rfl rfl ?_
  walk_at"ev"
  rw[beq_self_eq_true]
  exact q
 | int i=>
  intro c N Z hN sh Q X q
  obtain⟨n,rfl⟩:∃n,N=n+1:=⟨N-1,by exact Nat.le_antisymm (uB 0x900c40100900e00e (Nat.sub_add_cancel (n:=N) (m:=1) (uB 0x8048100900c00c hN))) (uB 0x2012018100900dffe (Nat.sub_add_cancel (n:=N) (m:=1) (uB 0x8048100900c00c hN)))⟩
  refine Z.call (f:=907) rfl rfl rfl ?_
  walk_at"ev"
  rw[decide_eq_true rfl]
  exact q
 | str x=>
  intro c N Z hN sh Q X q
  obtain⟨n,rfl⟩:∃n,N=n+1:=⟨N-1,by exact Nat.le_antisymm (uB 0x900c40100900e00e (Nat.sub_add_cancel (n:=N) (m:=1) (uB 0x8048100900c00c hN))) (uB 0x2012018100900dffe (Nat.sub_add_cancel (n:=N) (m:=1) (uB 0x8048100900c00c hN)))⟩
  refine Z.call (f:=907) rfl rfl rfl ?_
  walk_at"ev"
  rw[decide_eq_true rfl]
  exact q
 | byt k l h=>
  intro c N Z hN sh Q X q
  obtain⟨n,rfl⟩:∃n,N=n+1:=⟨N-1,by exact Nat.le_antisymm (uB 0x900c40100900e00e (Nat.sub_add_cancel (n:=N) (m:=1) (uB 0x8048100900c00c hN))) (uB 0x2012018100900dffe (Nat.sub_add_cancel (n:=N) (m:=1) (uB 0x8048100900c00c hN)))⟩
  refine Z.call (f:=907) rfl (by cases k<;>rfl) (by cases k<;>rfl) ?_
  cases k
  all_goals
   have zq0:l.length<=16777216:=by exact uA 0x8000002000f4240040000c h
   walk_at"ev"
   rw[decide_eq_true rfl]
   exact q
 | list m f g hm h ih=>
  intro c N Z hN sh Q X q
  obtain⟨n,rfl⟩:∃n,N=n+1:=⟨N-1,by lia⟩
  have lf:((List.range m).map f).length=m:=by rw[List.length_map,List.length_range]
  have lg:((List.range m).map g).length=m:=by rw[List.length_map,List.length_range]
  refine Z.call (f:=907) rfl rfl rfl ?_
  have zq0:(List.map f (List.range m)).length<=16777216:=by exact uB 0x80000021000087ff80f424040000c hm lf
  have zq1:(List.map g (List.range m)).length<=16777216:=by exact uB 0x80000021000087ff80f424040000c hm lg
  walk_at"ev"
  walk_at"ev"
  rw[lg,Int.toNat_natCast]
  refine bx (λq0=>.bool true) _ (λa ha K kk=>?_) ?_
  ·obtain⟨j,hj,rfl⟩:=b7 ha
   have zq0:(List.map f (List.range m)).length<=16777216:=by exact uB 0x80000021000087ff80f424040000c hm lf
   walk_at"ev"
   rw[eZ hj]
   have zq0:(List.map g (List.range m)).length<=16777216:=by exact uB 0x80000021000087ff80f424040000c hm lg
   walk_at"ev"
   rw[eZ hj]
   walk_at"ev"
   refine ih j hj _ _ Z (by exact uB 0x2012018048860904806c00c hN) _ _ _ ?_
   exact kk
  ·refine And.intro (by rw[List.length_map,bc];exact uA 0x80000020000f424040000c hm) ?_
   walk_at"ev"
   refine jd _ _ ?_
   walk_at"ev"
   rw[xl]
   exact q
 | dict la ld hm hk hla f g hf hg h ih=>
  intro c N Z hN sh Q X q
  obtain⟨n,rfl⟩:∃n,N=n+1:=⟨N-1,by lia⟩
  refine Z.call (f:=907) rfl rfl rfl ?_
  have zq0:la.length<=16777216:=by exact uA 0x80000020000f424040000c hla
  walk_at"ev"
  rw[show(la.map λp=>AV.str p.1)=(a8 (ld.map (·.1))).map .str by rw[<-hk,List.map_map];rfl]
  rw[beq_self_eq_true]
  walk_at"nf"
  refine oj _ _ ?_
  have zq0:ld.length<16777216:=by exact uA 0x800000204806000004040900c00c hm
  walk_at"ev"
  walk_at"ev"
  refine bx (λq0=>.bool true) _ (λa ha K kk=>?_) ?_
  ·obtain⟨p,hp,rfl⟩:=List.mem_map.mp ha
   have m1:p.1∈ld.map (·.1):=List.mem_map_of_mem hp
   walk_at"ev"
   rw[hf _ m1]
   walk_at"ev"
   rw[hg _ m1]
   walk_at"ev"
   refine ih _ m1 _ _ Z (by exact uB 0x2012018048860904806c00c hN) _ _ _ ?_
   exact kk
  ·refine And.intro (by rw[List.length_map,List.length_map];exact uA 0x800000200000004040900c00c hm) ?_
   walk_at"ev"
   refine jd _ _ ?_
   walk_at"ev"
   rw[xl]
   exact q
end
section
variable {c:Cx}{n:Nat}{sh:Sh}{Q:AV->Sh->Prop}{X:Sh->Prop}
theorem y4(d:UInt8)(r:List UInt8):iE (d::r)=d.toNat+256*iE r:=by
 unfold iE KFB.value
 rw[List.map_cons,List.reverse_cons,List.foldl_append]
 show List.foldl _ _ _*256+(d.toNat:Int)=_
 rw[Int.mul_comm,Int.add_comm]
theorem xW(k:Nat)(x:Int):leB (k+1) x=(x%256).toNat.toUInt8::leB k (x/256):=rfl
theorem aW(k:Nat)(x:Int):(leB k x).length=k:=by unfold leB;rw[List.length_map,KTBy.little_length]
theorem zy:∀(k:Nat) (x:Int),0<=x->x<256^k->iE (leB k x)=x:=by
 intro k
 induction k with
 | zero=>
  intro x h0 h
  rw[Int.pow_zero]at h;show(0:Int)=x;exact Int.le_antisymm (uI 0x4400000000800d h0) (uI 0x20040000014000000a00c00d h)
 | succ k ih=>
  intro x h0 h
  rw[xW,y4,ih (x/256) (Int.ediv_nonneg h0 (by decide)) (Int.ediv_lt_of_lt_mul (by decide) (by rw[<-Int.pow_succ];exact h))]
  have e:((x%256).toNat.toUInt8).toNat=(x%256).toNat:=by
   show(x%256).toNat%256=_
   exact Nat.mod_eq_of_lt (by exact uK 0x40102403000017ffc0001004000000a00c00d (gH (x) 256 rfl) (cV (x%256) (uI 0x4400000000800d (jm (x) 256 rfl))))
  rw[e];exact Int.le_antisymm (nl [_] [_,_,_] 0x400201001644002fff901001008dfff (Kk (x) 256) (cV (x%256) (uI 0x4400000000800d (jm (x) 256 rfl)))) (nl [_] [_,_,_] 0x100800b2044003007901001008e00f (Kk (x) 256) (cV (x%256) (uI 0x4400000000800d (jm (x) 256 rfl))))
theorem bH{e:Nat}(h:e<=3):w4 (2^e):=by
 have:e=0\/e=1\/e=2\/e=3:=by lia
 unfold w4
 rcases this with rfl|rfl|rfl|rfl<;>decide
theorem a4{e:Nat}(h:e<=3):2^e<=8:=by have:=bH h;unfold w4 at this;lia
theorem bF(e:Nat):0<2^e:=Nat.two_pow_pos e
theorem rn(w:Nat):(256:Int)^w=2^(8*w):=by rw[Int.pow_mul];rfl
abbrev Pre(b B:List UInt8):Prop:=b <+:B
theorem Pre.len{b B:List UInt8}(h:Pre b B):b.length<=B.length:=h.length_le
theorem yL{b B:List UInt8}{p m:Nat}(h:Pre b B)(hp:p+m<=b.length):sl B p m=sl b p m:=by
 obtain⟨r,rfl⟩:=h
 unfold sl
 rw[List.drop_append_of_le_length (by exact uC 0x1000080800c00c hp),List.take_append_of_le_length (by rw[List.length_drop];exact uD 0x60402000c3803880800c00c hp (Nat.sub_add_cancel (n:=b.length) (m:=p) (uC 0x1000080800c00c hp)))]
theorem ru{b B:List UInt8}{p w:Nat}(h:Pre b B)(hp:p+w<=b.length):num B p w=num b p w:=congrArg iE (yL h hp)
theorem zP{b B:List UInt8}{p:Nat}(h:Pre b B)(hp:p<b.length):B[p]? =b[p]? :=by
 obtain⟨r,rfl⟩:=h
 exact List.getElem?_append_left hp
theorem yw(b c r:List UInt8):sl (b++(c++r)) b.length c.length=c:=by
 unfold sl
 rw[List.drop_left,List.take_left]
theorem Bc(b:List UInt8)(w:Nat)(x:Int)(r:List UInt8)(h0:0<=x)(h:x<2^(8*w)):num (b++(leB w x++r)) b.length w=x:=by
 unfold num
 have:=yw b (leB w x) r
 rw[aW]at this
 rw[show List.take w (List.drop b.length (b++(leB w x++r)))=leB w x from this]
 exact zy w x h0 (by rw[rn];exact h)
theorem vW{B:List UInt8}{p m i:Nat}(hi:i<m):(sl B p m)[i]? =B[p+i]? :=by
 unfold sl
 rw[List.getElem?_take_of_lt hi,List.getElem?_drop]
def du(s:Bool)(x:Int)(e:Nat):Prop:=bif s then(0-(2:Int)^(8*2^e-1)<=x/\x<2^(8*2^e-1))else(0<=x/\x<(2:Int)^(8*2^e))
theorem cI{a b:Nat}(h:a<=b):(2:Int)^a<=2^b:=by
 have:=Nat.pow_le_pow_right (n:=2) (by decide) h
 have e:∀k:Nat,(2:Int)^k=((2^k:Nat):Int):=bA
 rw[e,e];exact uB 0x82009100000c this
theorem du.up{s:Bool}{x:Int}{e E:Nat}(h:du s x e)(he:e<=E):du s x E:=by
 have h1:2^e<=2^E:=Nat.pow_le_pow_right (by decide) he
 unfold du at h ⊢
 cases s with
 | true=>
  have:=cI (show 8*2^e-1<=8*2^E-1 by lia)
  have h:0-(2:Int)^(8*2^e-1)<=x/\x<2^(8*2^e-1):=h
  show 0-(2:Int)^(8*2^E-1)<=x/\x<2^(8*2^E-1)
  lia
 | false=>
  have:=cI (show 8*2^e<=8*2^E by exact uB 0x80220002201000044 h1)
  have h:0<=x/\x<(2:Int)^(8*2^e):=h
  show 0<=x/\x<(2:Int)^(8*2^E)
  lia
theorem oM(w:Nat)(h:0<w):(2:Int)^(8*w)=2*2^(8*w-1):=by
 rw[<-Int.pow_succ',show 8*w-1+1=8*w by exact Nat.le_antisymm (uB 0x8022024030200880900dffe (Nat.sub_add_cancel (n:=8*w) (m:=1) (uA 0x110120002402c00c h))) (uB 0x2403100440200880900e00e (Nat.sub_add_cancel (n:=8*w) (m:=1) (uA 0x110120002402c00c h)))]
theorem du.signed{x:Int}{e:Nat}(h:du true x e):de (2^e) (x%2^(8*2^e))=x:=by
 have h:0-(2:Int)^(8*2^e-1)<=x/\x<2^(8*2^e-1):=h
 have p:=oM (2^e) (bF e)
 have p0:(0:Int)<2^(8*2^e-1):=Int.pow_pos (by decide)
 unfold de
 by_cases hx:0<=x
 ·rw[Int.emod_eq_of_lt hx (by lia),decide_eq_false (by exact Int.not_le.mpr (uJ 0x20000001401910000000a00c00d h.2))];rfl
 ·have e1:x%2^(8*2^e)=x+2^(8*2^e):=by
   rw[<-Int.add_emod_right,Int.emod_eq_of_lt (by lia) (by exact uJ 0x2000000142003640000004000000a00c00d (Int.not_le.mp hx))]
  rw[e1,decide_eq_true (by exact nl [] [_,_,_] 0x2021802000284200f10000000005800d h.1 p)]
  show x+2^(8*2^e)-2^(8*2^e)=x
  exact Int.le_antisymm (uJ 0x40800f1) (uJ 0x204007801)
theorem du.unsigned{x:Int}{e:Nat}(h:du false x e):x%2^(8*2^e)=x:=Int.emod_eq_of_lt h.1 h.2
end
section
variable {c:Cx}{n:Nat}{sh:Sh}{Q:AV->Sh->Prop}{X:Sh->Prop}
theorem mU{x:Int}(e:Nat):du true x e↔(0-(2:Int)^(8*2^e-1)<=x/\x<0-(2:Int)^(8*2^e-1)+2^(8*2^e)):=by
 show(0-(2:Int)^(8*2^e-1)<=x/\x<2^(8*2^e-1))↔_
 rw[oM (2^e) (bF e)];lia
theorem IJ{j:Nat}(h:j<4):(0<(2:Int)^(j:Int).toNat/\(2:Int)^(j:Int).toNat<=8)/\(8*(2:Int)^(j:Int).toNat).toNat=8*2^j/\(8*(2:Int)^(j:Int).toNat-1).toNat=8*2^j-1:=by
 have:j=0\/j=1\/j=2\/j=3:=by lia
 rcases this with rfl|rfl|rfl|rfl<;>decide
theorem dK(Z:Std c){s:Bool}{x:Int}(h:du s x 3)(q:∀e:Nat,e<=3->du s x e->Q (.int e) sh):ae c (n+1) 914 [.v (.int x),.v (.bool s)] [] sh Q X:=by
 refine Z.call (f:=914) rfl rfl rfl ?_
 walk_at"ev"
 refine fR (λj ρ S=>S=⟨sh,[]⟩/\(∀i,i<j->¬du s x i)/\ρ=[(("number" :Str),.v (.int x)),(("signed" :Str),.v (.bool s))])
  (λo ρ S=>S=⟨sh,[]⟩/\∃e:Nat,e<=3/\du s x e/\o=.v (.int e)) (λo ρ S r=>?_) _ (λj a ρ S K ja jj k1 k2=>?_) (λρ S jj=>?_) _ _ ⟨rfl,λi hi=>absurd hi (Nat.not_lt_zero i),rfl⟩
 ·obtain⟨rfl,e,he,hf,rfl⟩:=r
  exact q e he hf
 ·obtain⟨hj,rfl⟩:=b0 ja
  obtain⟨rfl,hn,rfl⟩:=jj
  obtain⟨p0,pa,pb⟩:=IJ hj
  have s8:small 8:=by show Int.natAbs _<2^62;decide
  have no:¬du s x j->∀i,i<j+1->¬du s x i:=λz i hi=>(Nat.lt_succ_iff_lt_or_eq.mp hi).elim (hn i) λe=>e▸z
  have hj3:j<=3:=Nat.le_of_lt_succ hj
  cases s
  ·have h0:0<=x:=h.1
   walk_at"ev"
   rw[pa]
   refine aD (λw=>?_) (λw=>?_)
   ·walk_at"ev"
    exact k2 _ _ _ ⟨rfl,j,hj3,⟨h0,by have:=of_decide_eq_true w;rwa [Int.zero_add]at this⟩,rfl⟩
   ·walk_at"ev"
    exact k1 _ _ ⟨rfl,no λz=>of_decide_eq_false w (by rw[Int.zero_add];exact z.2),rfl⟩
  ·walk_at"ev"
   rw[pb]
   refine aD (λw=>?_) (λw=>?_)
   ·walk_at"ev"
    rw[pa]
    refine aD (λw2=>?_) (λw2=>?_)
    ·walk_at"ev"
     exact k2 _ _ _ ⟨rfl,j,hj3,(mU j).mpr ⟨of_decide_eq_true w,of_decide_eq_true w2⟩,rfl⟩
    ·walk_at"ev"
     exact k1 _ _ ⟨rfl,no λz=>of_decide_eq_false w2 ((mU j).mp z).2,rfl⟩
   ·walk_at"ev"
    exact k1 _ _ ⟨rfl,no λz=>of_decide_eq_false w ((mU j).mp z).1,rfl⟩
 ·obtain⟨_,hn,_⟩:=jj
  exact absurd h (hn 3 (by decide))
end
section
variable {c:Cx}{n:Nat}{sh:Sh}{Q:AV->Sh->Prop}{X:Sh->Prop}
section
variable {b:List UInt8}{dr:Option (List Int)}{sf:Option (List (Str×AV))}{e:Nat}{x:Int}
theorem a5(e:Nat):((e:Int)).toNat=e:=Int.toNat_natCast e
theorem lA(e:Nat):((2:Int)^e).toNat=2^e:=by rw[bA];exact Int.toNat_natCast _
theorem qf(e:Nat):(8*(2:Int)^e).toNat=8*2^e:=by rw[bA,show(8:Int)*((2^e:Nat):Int)=((8*2^e:Nat):Int) by rw[Int.natCast_mul];rfl];exact Int.toNat_natCast _
theorem ir(Z:Std c)(hc:c.clean=true)(hb:b.length<=16000000)(he:e<=3)(q:Q .none ⟨some (b++leB (2^e) (x%2^(8*2^e))),dr,sf⟩):
  ae c (n+1) 921 [.oct,.v (.int x),.v (.int e)] [] ⟨some b,dr,sf⟩ Q X:=by
 have p1:(0:Int)<2^(8*2^e):=Int.pow_pos (by decide)
 have p2:=Int.emod_nonneg x (Int.ne_of_gt p1)
 have p3:=Int.emod_lt_of_pos x p1
 have p4:(2:Int)^e<=8/\0<(2:Int)^e:=by rw[bA];have:=a4 he;have:=bF e;lia
 have p5:x%2^(8*2^e)<256^(2^e):=by rw[rn];exact p3
 have p6:(leB (2^e) (x%2^(8*2^e))).length<=8:=by rw[aW];exact a4 he
 have s8:small 8:=by show Int.natAbs _<2^62;decide
 refine Z.call (f:=921) rfl rfl rfl ?_
 walk_at"ev"
 rw[a5]
 walk_at"ev"
 rw[qf]
 walk_at"ev"
 rw[a5]
 walk_at"ev"
 rw[lA]
 have zq0:b.length+(leB (2^e) (x%2^(8*2^e))).length<16777216:=by exact uB 0x8000002048800d820880030f4240040000c hb p6
 walk_at"ev"
 exact q
theorem iA(Z:Std c)(hc:c.clean=true)(hb:b.length<=16000000)(he:e<=3)(q:∀m,m<=7->Q .none ⟨some (b++List.replicate m 0),dr,sf⟩):
  ae c (n+1) 928 [.oct,.v (.int e)] [] ⟨some b,dr,sf⟩ Q X:=by
 have p4:(2:Int)^e<=8/\0<(2:Int)^e:=by rw[bA];have:=a4 he;have:=bF e;lia
 have p2:=Int.emod_nonneg (0-(b.length:Int)) (Int.ne_of_gt p4.2)
 have p3:=Int.emod_lt_of_pos (0-(b.length:Int)) p4.2
 have p6:(List.replicate ((0-(b.length:Int))%2^e).toNat (0:UInt8)).length<=7:=by rw[List.length_replicate];lia
 refine Z.call (f:=928) rfl rfl rfl ?_
 have zq0:b.length<=16777216:=by exact uA 0x8000002000f4240040000c hb
 walk_at"ev"
 rw[a5]
 walk_at"ev"
 exact q _ (by lia)
theorem iD(Z:Std c)(hc:c.clean=true){d:List UInt8}(hb:b.length<=15000000)(hd:d.length<=60000)(he:e<=3)
  (q:∀m,m<=7->Q (.int (b.length+m+2^e:Nat)) ⟨some (b++List.replicate m 0++leB (2^e) (d.length%2^(8*2^e))++d),dr,sf⟩):
  ae c (n+2) 935 [.oct,.v (.oc false d),.v (.int e)] [] ⟨some b,dr,sf⟩ Q X:=by
 have p8:=a4 he
 refine Z.call (f:=935) rfl rfl rfl ?_
 walk_at"ev"
 refine iA Z hc (by exact uA 0x7a12002000e4e1c040000c hb) he λm hm=>?_
 have l1:(b++List.replicate m (0:UInt8)).length<=15500000:=by rw[List.length_append,List.length_replicate];exact uB 0x7641702100181c880030e4e1c040000c hb hm
 have l2:(b++List.replicate m (0:UInt8)++leB (2^e) (d.length%2^(8*2^e))).length=b.length+m+2^e:=by rw[List.length_append,List.length_append,List.length_replicate,aW]
 have zq0:d.length<=16777216:=by exact uA 0x800000200000ea6040000c hd
 walk_at"ev"
 refine ir Z hc (by exact uA 0x7a12002000ec82e040000c l1) he ?_
 walk_at"ev"
 rw[l2]
 exact q m hm
end
end
section
variable {c:Cx}{n:Nat}{sh:Sh}{Q:AV->Sh->Prop}{X:Sh->Prop}
def Slot(B:List UInt8)(p E:Nat)(x:Int)(e:Nat)(inl:Bool):Prop:=
 E<=3/\p+2^E<=B.length/\(bif inl then e<=E/\num B p (2^E)=x%2^(8*2^E)else∃a:Nat,x=a/\(p:Int)-num B p (2^E)=a)
structure Told(B:List UInt8)(p w b:Nat)(t:Int)(v:AV):Prop where
 ht:fh t
 nt:t≠13
 nf:in2 t 3 8=false
 hi:∃i,dw B p w b t i/\Due v i
 hs:t=5->∃a m x,v=.str x/\gx B p w b a m x
 hk:t=4->b=1/\∃a m x,v=.str x/\c9 B p w a m x
inductive Jo(B:List UInt8)(x:Int)(e:Nat)(v:AV):Prop
 | mk (a m:Nat) (vs:Nat->AV) (ts:Nat->Int) (es:Nat->Nat) (hx:x=a) (hv:v=.list ((List.range m).map vs)) (hm:m<=1000000) (ha:2^e<=a) (hn:num B (a-2^e) (2^e)=m) (hB:a<=B.length)
  (kids:∀i,i<m->gT B (a+m*2^e+i) (ts i) (es i)/\Told B (a+i*2^e) (2^e) (2^es i) (ts i) (vs i))
structure Reads(d:Nat)(B:List UInt8)(p E:Nat)(v:AV)(k x:Int)(e:Nat)(inl:Bool):Prop where
 rv:∀kb,∃r,Val kb B d p (2^E) (2^(bif inl then E else e)) k r/\ng d r v
 td:Told B p (2^E) (2^(bif inl then E else e)) k v
 kid:k=10->inl=false/\Jo B x e v
structure aR(d:Nat)(b:List UInt8)(v:AV)(k x:Int)(e:Nat)(inl:Bool):Prop where
 hk:fh k
 he:e<=3
 hx:inl=false->∃a:Nat,x=a/\a<=b.length
 go:∀B,Pre b B->B.length<=16000000->∀p E,Slot B p E x e inl->Reads d B p E v k x e inl
theorem aR.up{d:Nat}{b b':List UInt8}{v:AV}{k x:Int}{e:Nat}{inl:Bool}(h:Pre b b')(c:aR d b v k x e inl):aR d b' v k x e inl:=
 ⟨c.hk,c.he,λz=>by obtain⟨a,h1,h2⟩:=c.hx z;exact⟨a,h1,Nat.le_trans h2 h.len⟩,λB hB=>c.go B (h.trans hB)⟩
section
variable {d:Nat}{b:List UInt8}{e a m:Nat}{i:Int}{x:Str}
theorem F7:aR d b .none 0 0 0 true:=⟨.inl (by decide),by decide,nofun,λB q0 q1 p E s=>⟨λkb=>⟨_,.nul,.nul⟩,⟨.inl (by decide),by decide,rfl,⟨_,.nul,.nul⟩,nofun,nofun⟩,nofun⟩⟩
theorem Gq(r:Bool):aR d b (.bool r) 26 (bif r then 1 else 0) 0 true:=by
 refine⟨.inl (by decide),by decide,nofun,λB q0 q1 p E s=>?_⟩
 obtain⟨hE,hp,_,hn⟩:=s
 have p2:=bF E
 have p0:(2:Int)<=2^(8*2^E):=by have:=cI (show 1<=8*2^E by exact uA 0x110120002402c00c p2);rwa [Int.pow_succ,Int.pow_zero,Int.one_mul]at this
 have e1:num B p (2^E)=bif r then 1 else 0:=by rw[hn];cases r;exact Int.zero_emod _;exact Int.emod_eq_of_lt (by decide) (by show(1:Int)<_;exact uI 0x14000000a6400000004800d p0)
 have e2:(!decide (num B p (2^E)=0))=r:=by rw[e1];cases r<;>rfl
 refine⟨λkb=>⟨_,.boo (bH hE) hp e2,.boo r⟩,⟨.inl (by decide),by decide,rfl,⟨_,.boo (bH hE) hp,?_⟩,nofun,nofun⟩,nofun⟩
 rw[e2];exact .boo r
theorem BF(h:du true i e)(he:e<=3):aR d b (.int i) 1 i e true:=by
 refine⟨.inl (by decide),he,nofun,λB q0 q1 p E s=>?_⟩
 obtain⟨hE,hp,hle,hn⟩:=s
 have A:dw B p (2^E) (2^E) 1 i:=by
  have:=dw.int (b:=2^E) (bH hE) hp
  rw[hn,(h.up hle).signed]at this;exact this
 exact⟨λkb=>⟨_,.num (.inl rfl) A,.int i⟩,⟨.inl (by decide),by decide,rfl,⟨_,A,.int i⟩,nofun,nofun⟩,nofun⟩
theorem EJ(h:du false i e)(he:e<=3):aR d b (.int i) 2 i e true:=by
 refine⟨.inl (by decide),he,nofun,λB q0 q1 p E s=>?_⟩
 obtain⟨hE,hp,hle,hn⟩:=s
 have A:dw B p (2^E) (2^E) 2 i:=by
  have:=dw.uint (b:=2^E) (bH hE) hp
  rw[hn,(h.up hle).unsigned]at this;exact this
 exact⟨λkb=>⟨_,.num (.inr (.inl rfl)) A,.int i⟩,⟨.inl (by decide),by decide,rfl,⟨_,A,.int i⟩,nofun,nofun⟩,nofun⟩
structure cX(b:List UInt8)(p w:Nat)(y:Int):Prop where
 hp:p+w<=b.length
 hn:num b p w=y
theorem cX.up{b B:List UInt8}{p w:Nat}{y:Int}(P:Pre b B)(h:cX b p w y):cX B p w y:=⟨Nat.le_trans h.hp P.len,by rw[ru P h.hp];exact h.hn⟩
theorem az.of{B:List UInt8}{p E:Nat}(hz:B.length<=16000000)(hE:E<=3)(hp:p+2^E<=B.length)(h:(p:Int)-num B p (2^E)=a):az B p (2^E) a:=⟨hz,bH hE,hp,h⟩
theorem DV(s:Bool)(h:du s i e)(he:e<=3)(hh:cX b a (2^e) (i%2^(8*2^e))):aR d b (.int i) (bif s then 6 else 7) a e false:=by
 have hk:fh (bif s then 6 else 7):=by cases s<;>exact .inl (by decide)
 refine⟨hk,he,λq0=>⟨a,rfl,by have:=hh.hp;have:=bF e;lia⟩,λB P hz p E sl=>?_⟩
 obtain⟨hE,hp,a',ea,hn⟩:=sl
 obtain rfl:a'=a:=by exact Nat.le_antisymm (uB 0x1004100600f ea) (uB 0x800041005fff ea)
 have H:=hh.up P
 have o:=az.of hz hE hp hn
 have A:dw B p (2^E) (2^e) (bif s then 6 else 7) i:=by
  cases s with
  | true=>have:=dw.iint o (bH he) H.hp;rw[H.hn,h.signed]at this;exact this
  | false=>have:=dw.iuint o (bH he) H.hp;rw[H.hn,h.unsigned]at this;exact this
 refine⟨λkb=>⟨_,.num (by cases s;exact .inr (.inr (.inr rfl));exact .inr (.inr (.inl rfl))) A,.int i⟩,⟨hk,by cases s<;>decide,by cases s<;>rfl,⟨_,A,.int i⟩,λz=>?_,λz=>?_⟩,λz=>?_⟩
 all_goals cases s<;>cases z
structure Lies(b:List UInt8)(p:Nat)(c:List UInt8):Prop where
 hp:p+c.length<=b.length
 hc:sl b p c.length=c
theorem Lies.up{b B:List UInt8}{p:Nat}{c:List UInt8}(P:Pre b B)(h:Lies b p c):Lies B p c:=⟨Nat.le_trans h.hp P.len,by rw[yL P h.hp];exact h.hc⟩
theorem aX.of{B:List UInt8}(he:e<=3)(ha:2^e<=a)(h:cX B (a-2^e) (2^e) m):aX B a (2^e) m:=⟨bH he,ha,h.hn⟩
theorem Hf(he:e<=3)(ha:2^e<=a)(hm:cX b (a-2^e) (2^e) (aZ x).length)(hl:Lies b a (aZ x))(h1:x.cps.toList.all c7=true)(h3:x.cps.toList.length<=16000000):aR d b (.str x) 5 a e false:=by
 refine⟨.inl (by decide),he,λq0=>⟨a,rfl,by have:=hl.hp;exact uC 0x1000080800c00c this⟩,λB P hz p E s=>?_⟩
 obtain⟨hE,hp,a',ea,hn⟩:=s
 obtain rfl:a'=a:=by exact Nat.le_antisymm (uB 0x1004100600f ea) (uB 0x800041005fff ea)
 have o:=az.of hz hE hp hn
 have T:gx B p (2^E) (2^e) a' (aZ x).length x:=⟨o,.of he ha (hm.up P),(hl.up P).hp,h1,(hl.up P).hc.symm,h3⟩
 exact⟨λkb=>⟨_,.str T,.str x⟩,⟨.inl (by decide),by decide,rfl,⟨_,.str T.o T.s T.h T.h1 T.h2 T.h3,.str x (by rw[<-Array.length_toList];exact h3)⟩,λq0=>⟨_,_,x,rfl,T⟩,nofun⟩,nofun⟩
theorem C6{c:List UInt8}(he:e<=3)(ha:2^e<=a)(hm:cX b (a-2^e) (2^e) c.length)(hl:Lies b a c)(h3:c.length<=16000000):aR d b (.oc false c) 25 a e false:=by
 refine⟨.inl (by decide),he,λq0=>⟨a,rfl,by have:=hl.hp;exact uC 0x1000080800c00c this⟩,λB P hz p E s=>?_⟩
 obtain⟨hE,hp,a',ea,hn⟩:=s
 obtain rfl:a'=a:=by exact Nat.le_antisymm (uB 0x1004100600f ea) (uB 0x800041005fff ea)
 have o:=az.of hz hE hp hn
 have z:aX B a' (2^e) c.length:=.of he ha (hm.up P)
 refine⟨λkb=>⟨_,.blob o z (hl.up P).hp,?_⟩,⟨.inl (by decide),by decide,rfl,⟨_,.blob o z (hl.up P).hp,.byt c h3⟩,nofun,nofun⟩,nofun⟩
 rw[(hl.up P).hc];exact .byt kb c h3
def j9(x:Str):Prop:=∀c∈x.cps.toList,0<c/\c<128
theorem j9.all(h:j9 x):(x.cps.toList.all λc=>Nat.blt c 128)=true:=by
 rw[List.all_eq_true];intro c m;exact Nat.blt_eq.mpr (h c m).2
theorem c9.of{B:List UInt8}{p E:Nat}(o:az B p (2^E) a)(hx:j9 x)(hl:Lies B a (aY x++[0]))(h3:x.cps.toList.length<=16000000):c9 B p (2^E) a (aY x).length x:=by
 have hp:a+((aY x).length+1)<=B.length:=by have:=hl.hp;rwa [List.length_append]at this
 have get:∀i,i<(aY x).length+1->B[a+i]? =(aY x++[0])[i]? :=λi hi=>by
  have:=vW (B:=B) (p:=a) (m:=(aY x++[0]).length) (i:=i) (by rw[List.length_append];exact hi)
  rw[hl.hc]at this;exact this.symm
 refine⟨o,by exact uC 0x401220036080244300c00c hp,by rw[get _ (by exact uA 0x900c12018),List.getElem?_append_right (Nat.le_refl _),Nat.sub_self];rfl,λi hi dd hd=>?_,hx.all,?_,h3⟩
 ·rw[get i (by exact uB 0x910c12018100900c00c hi),List.getElem?_append_left hi]at hd
  have m:=List.mem_of_getElem? hd
  obtain⟨c,mc,rfl⟩:=List.mem_map.mp m
  obtain⟨c0,c1⟩:=hx c mc
  intro z
  have:=congrArg UInt8.toNat z
  have e:(Nat.toUInt8 c).toNat=c:=by show c%256=c;exact Nat.mod_eq_of_lt (by exact uA 0x80204806000008040900c00c c1)
  rw[e]at this
  have z0:(0:UInt8).toNat=0:=rfl
  lia
 ·refine List.ext_getElem? λi=>?_
  by_cases hi:i<(aY x).length
  ·rw[vW hi,get i (by exact uB 0x910c12018100900c00c hi),List.getElem?_append_left hi]
  ·rw[List.getElem?_eq_none (by exact uB 0x2000100000c (Nat.not_lt.mp hi)),List.getElem?_eq_none (by unfold sl;rw[List.length_take];lia)]
theorem HI(hx:j9 x)(hl:Lies b a (aY x++[0]))(h3:x.cps.toList.length<=16000000):aR d b (.str x) 4 a 0 false:=by
 refine⟨.inl (by decide),by decide,λq0=>⟨a,rfl,by have:=hl.hp;exact uC 0x1000080800c00c this⟩,λB P hz p E s=>?_⟩
 obtain⟨hE,hp,a',ea,hn⟩:=s
 obtain rfl:a'=a:=by exact Nat.le_antisymm (uB 0x1004100600f ea) (uB 0x800041005fff ea)
 have o:=az.of hz hE hp hn
 have K:=c9.of o hx (hl.up P) h3
 exact⟨λkb=>⟨_,.key K,.str x⟩,⟨.inl (by decide),by decide,rfl,⟨_,.key rfl K.o K.h1 K.h2 K.h3 K.h4 K.h5 K.h6,.str x (by rw[<-Array.length_toList];exact h3)⟩,nofun,λq0=>⟨rfl,_,_,x,rfl,K⟩⟩,nofun⟩
end
end
section
variable {c:Cx}{n:Nat}{sh:Sh}{Q:AV->Sh->Prop}{X:Sh->Prop}
theorem Slot.up{b B:List UInt8}{p E:Nat}{x:Int}{e:Nat}{inl:Bool}(P:Pre b B)(h:Slot b p E x e inl):Slot B p E x e inl:=by
 obtain⟨h1,h2,h3⟩:=h
 refine⟨h1,Nat.le_trans h2 P.len,?_⟩
 rw[ru P h2];exact h3
theorem gT.up{b B:List UInt8}{q:Nat}{t:Int}{e:Nat}(P:Pre b B)(h:gT b q t e):gT B q t e:=by
 obtain⟨⟨d,h1,h2⟩,h3,h4⟩:=h
 have hq:q<b.length:=(List.getElem?_eq_some_iff.mp h1).1
 exact⟨⟨d,by rw[zP P hq];exact h1,h2⟩,h3,h4⟩
structure Row(d:Nat)(b:List UInt8)(a m e:Nat)(vs:Nat->AV)(ks xs:Nat->Int)(es:Nat->Nat)(inl:Nat->Bool):Prop where
 he:1<=e/\e<=3
 hm:m<=1000000
 ha:2^e<=a
 hl:a<=b.length
 hn:cX b (a-2^e) (2^e) m
 slot:∀i,i<m->Slot b (a+i*2^e) e (xs i) (es i) (inl i)
 el:∀i,i<m->gT b (a+m*2^e+i) (ks i) (bif inl i then e else es i)
 ch:∀i,i<m->aR d b (vs i) (ks i) (xs i) (es i) (inl i)
section
variable {d:Nat}{b:List UInt8}{e a m:Nat}{i:Int}{x:Str}{vs:Nat->AV}{ks xs:Nat->Int}{es:Nat->Nat}{inl:Nat->Bool}
theorem Row.reads(R:Row d b a m e vs ks xs es inl){B:List UInt8}(P:Pre b B)(hz:B.length<=16000000)(i:Nat)(hi:i<m):Reads d B (a+i*2^e) e (vs i) (ks i) (xs i) (es i) (inl i):=
 (R.ch i hi).go B P hz _ _ ((R.slot i hi).up P)
theorem Row.vals(R:Row d b a m e vs ks xs es inl){B:List UInt8}(P:Pre b B)(hz:B.length<=16000000)(kb:Bool):∃rs:Nat->AV,∀i,i<m->Val kb B d (a+i*2^e) (2^e) (2^(bif inl i then e else es i)) (ks i) (rs i)/\ng d (rs i) (vs i):=by
 have h:∀i,∃r,i<m->Val kb B d (a+i*2^e) (2^e) (2^(bif inl i then e else es i)) (ks i) r/\ng d r (vs i):=λi=>by
  by_cases hi:i<m
  ·obtain⟨r,h1,h2⟩:=(R.reads P hz i hi).rv kb
   exact⟨r,λq0=>⟨h1,h2⟩⟩
  ·exact⟨.none,λz=>absurd z hi⟩
 exact⟨λi=>Classical.choose (h i),λi=>Classical.choose_spec (h i)⟩
theorem Hi(R:Row d b a m e vs ks xs es inl):aR (d+1) b (.list ((List.range m).map vs)) 10 a e false:=by
 refine⟨.inl (by decide),R.he.2,λq0=>⟨a,rfl,R.hl⟩,λB P hz p E s=>?_⟩
 obtain⟨hE,hp,a',ea,hn⟩:=s
 obtain rfl:a'=a:=by exact Nat.le_antisymm (uB 0x1004100600f ea) (uB 0x800041005fff ea)
 have o:=az.of hz hE hp hn
 have z:aX B a' (2^e) m:=.of R.he.2 R.ha (R.hn.up P)
 have hl:=Nat.le_trans R.hl P.len
 have hm:=R.hm
 refine⟨λkb=>?_,⟨.inl (by decide),by decide,rfl,⟨_,.vec (.inl rfl) o z hl (by exact uA 0x7a120020000f424040000c hm),?_⟩,nofun,nofun⟩,λq0=>⟨rfl,a',m,vs,ks,λi=>bif inl i then e else es i,rfl,rfl,R.hm,R.ha,(R.hn.up P).hn,hl,λi hi=>⟨(R.el i hi).up P,(R.reads P hz i hi).td⟩⟩⟩
 ·obtain⟨rs,hr⟩:=R.vals P hz kb
  exact⟨_,.vec (ts:=ks) (es:=λi=>bif inl i then e else es i) (rs:=rs) o z hl R.hm (λi hi=>(R.el i hi).up P) (λi hi=>(hr i hi).1),.list m rs vs R.hm λi hi=>(hr i hi).2⟩
 ·have:=Due.list ((List.range m).map vs) (by rw[List.length_map,List.length_range];exact uA 0x7a120020000f424040000c hm)
  rwa [List.length_map,List.length_range]at this
theorem i7:∀{l:List (Str×AV)} {x:Str} {a:AV},(l.map (·.1)).Nodup->(x,a)∈l->a7 l x=some a:=by
 intro l
 induction l with
 | cons p r ih=>
  intro x a nd h
  rw[List.map_cons,List.nodup_cons]at nd
  unfold a7
  rcases List.mem_cons.mp h with rfl|h
  ·rw[Fast.sEq_iff.mpr rfl];rfl
  ·have:p.1≠x:=λz=>nd.1 (by rw[z];exact List.mem_map_of_mem (f:=(·.1)) h)
   rw[show Fast.sEq p.1 x=false from by cases w:Fast.sEq p.1 x with|true=>exact absurd (Fast.sEq_iff.mp w) this|false=>rfl]
   exact ih nd.2 h
 | nil=>intros;nomatch ‹_∈[]›
structure Jv(b:List UInt8)(a m e st wd:Nat)(ns:Nat->Str):Prop where
 hw:wd<=3
 h3:3*2^e<=a
 ho:cX b (a-3*2^e) (2^e) ((a:Int)-3*2^e-st)
 hv:cX b (a-2*2^e) (2^e) (2^wd:Nat)
 hs:2^wd<=st
 hl:st<=b.length
 hk:cX b (st-2^wd) (2^wd) m
 keys:∀i,i<m->∃pl:Nat,cX b (st+i*2^wd) (2^wd) ((st+i*2^wd:Nat)-(pl:Int))/\j9 (ns i)/\Lies b pl (aY (ns i)++[0])/\(ns i).cps.toList.length<=16000000
 nd:((List.range m).map ns).Nodup
theorem FM{ld:List (Str×AV)}{st wd:Nat}{ns:Nat->Str}(hld:ld.length=m)(hm:m<64)(nd:(ld.map (·.1)).Nodup)(hs:a8 (ld.map (·.1))=(List.range m).map ns)(hv:∀i,i<m->a7 ld (ns i)=some (vs i))
  (R:Row d b a m e vs ks xs es inl) (K:Jv b a m e st wd ns):aR (d+1) b (.dict ld) 9 a e false:=by
 refine⟨.inl (by decide),R.he.2,λq0=>⟨a,rfl,R.hl⟩,λB P hz p E s=>?_⟩
 obtain⟨hE,hp,a',ea,hn⟩:=s
 obtain rfl:a'=a:=by exact Nat.le_antisymm (uB 0x1004100600f ea) (uB 0x800041005fff ea)
 have o:=az.of hz hE hp hn
 have z:aX B a' (2^e) m:=.of R.he.2 R.ha (R.hn.up P)
 have hl:=Nat.le_trans R.hl P.len
 have h3:=K.h3
 have M:vm B a' (2^e) m st (2^wd) ns:={
  z:=hz,h4:=bH R.he.2,hw:=h3,hp:=hl,hm:=R.hm,hn:=(R.hn.up P).hn,hv:=(K.hv.up P).hn,hv4:=bH K.hw,
  ha:=by
   have:=(K.ho.up P).hn
   rw[this,Int.natCast_pow]
   show(a':Int)-3*2^e-(a'-3*2^e-st)=st
   exact Int.le_antisymm (nl [_,_] [_] 0x82208000e003b0000e003b1) (nl [_,_] [_] 0x20003820ec0003820ec009)
  hva:=K.hs,hap:=Nat.le_trans K.hl P.len,hk:=(K.hk.up P).hn,
  keys:=λi hi=>by
   obtain⟨pl,h1,h2,h3,h4⟩:=K.keys i hi
   have H:=h1.up P
   exact⟨pl,_,c9.of ⟨hz,bH K.hw,H.hp,by rw[H.hn];exact Int.le_antisymm (uC 0x40902200338400671) (uC 0x9010ce20219c009)⟩ h2 (h3.up P) h4⟩
  nd:=K.nd}
 refine⟨λkb=>?_,⟨.inl (by decide),by decide,rfl,⟨_,.vec (.inr rfl) o z hl (by exact uA 0x7a1200200000004040900c00c hm),?_⟩,nofun,nofun⟩,nofun⟩
 ·obtain⟨rs,hr⟩:=R.vals P hz kb
  have la:((List.range m).map λi=>(ns i,rs i)).map (·.1)=(List.range m).map ns:=by rw[List.map_map];rfl
  have mem:∀x∈ld.map (·.1),∃i,i<m/\x=ns i:=λx hx=>by
   have:=(dR (ld.map (·.1))).mem_iff.mpr hx
   rw[hs]at this
   obtain⟨i,hi,rfl⟩:=List.mem_map.mp this
   exact⟨i,List.mem_range.mp hi,rfl⟩
  have fa:∀i,i<m->a7 ((List.range m).map λi=>(ns i,rs i)) (ns i)=some (rs i):=λi hi=>
   i7 (by rw[la];exact K.nd) (List.mem_map.mpr ⟨i,List.mem_range.mpr hi,rfl⟩)
  refine⟨_,.map (ts:=ks) (es:=λi=>bif inl i then e else es i) (rs:=rs) (ks:=ns) o M (λi hi=>(R.el i hi).up P) (λi hi=>(hr i hi).1),?_⟩
  refine .dict _ ld (by exact uB 0x20204806000004040910c00c1001ffe hld hm) (by rw[la,hs]) (by rw[List.length_map,List.length_range];exact R.hm) (λx=>(a7 ((List.range m).map λi=>(ns i,rs i)) x).getD .none) (λx=>(a7 ld x).getD .none) (λx hx=>?_) (λx hx=>?_) (λx hx=>?_)
  ·obtain⟨i,hi,rfl⟩:=mem x hx;rw[fa i hi];rfl
  ·obtain⟨i,hi,rfl⟩:=mem x hx;rw[hv i hi];rfl
  ·obtain⟨i,hi,rfl⟩:=mem x hx
   rw[fa i hi,hv i hi];exact(hr i hi).2
 ·have:=Due.dict ld (by exact uB 0x7a1200200000004040910c00c1001ffe hld hm)
  rwa [hld]at this
theorem FN(s:Bool){ns:Nat->Int}(he:e<=3)(ha:2^e<=a)(hm:0<m)(hm2:m<=1000000)(hn:cX b (a-2^e) (2^e) m)(hl:a+2^e*m<=b.length)(h:∀i,i<m->du s (ns i) e/\cX b (a+i*2^e) (2^e) (ns i%2^(8*2^e))):
  aR (d+1) b (.list ((List.range m).map λi=>.int (ns i))) (bif s then 11 else 12) a e false:=by
 have hk:fh (bif s then 11 else 12):=by cases s<;>exact .inl (by decide)
 refine⟨hk,he,λq0=>⟨a,rfl,by exact uC 0x1000080800c00c hl⟩,λB P hz p E sl=>?_⟩
 obtain⟨hE,hp,a',ea,hnn⟩:=sl
 obtain rfl:a'=a:=by exact Nat.le_antisymm (uB 0x1004100600f ea) (uB 0x800041005fff ea)
 have o:=az.of hz hE hp hnn
 have z:aX B a' (2^e) m:=.of he ha (hn.up P)
 have hl:=Nat.le_trans hl P.len
 refine⟨λkb=>⟨_,.tvN s rfl o z hm hm2 hl,.list m _ _ hm2 λi hi=>?_⟩,⟨hk,by cases s<;>decide,by cases s<;>rfl,⟨_,.tv (by cases s<;>rfl) o z (by exact uC 0x1000080800c00c hl) (by exact uA 0x7a120020000f424040000c hm2),?_⟩,λz=>?_,λz=>?_⟩,λz=>?_⟩
 ·obtain⟨hf,hh⟩:=h i hi
  simp only[cond_false]
  rw[(hh.up P).hn]
  cases s with
  | true=>show ng d (.int (de _ _)) _;rw[hf.signed];exact .int _
  | false=>show ng d (.int (ns i%_)) _;rw[hf.unsigned];exact .int _
 ·have:=Due.list ((List.range m).map λi=>AV.int (ns i)) (by rw[List.length_map,List.length_range];exact uA 0x7a120020000f424040000c hm2)
  rwa [List.length_map,List.length_range]at this
 all_goals cases s<;>cases z
theorem G5(s:Bool){ns:Nat->Int}(he:e<=3)(hm:2<=m/\m<=4)(hl:a+2^e*m<=b.length)(h:∀i,i<m->du s (ns i) e/\cX b (a+i*2^e) (2^e) (ns i%2^(8*2^e))):
  aR (d+1) b (.list ((List.range m).map λi=>.int (ns i))) (16+3*((m:Int)-2)+bif s then 0 else 1) a e false:=by
 have hk:fh (16+3*((m:Int)-2)+bif s then 0 else 1):=by cases s<;>exact .inl (by show 0<=16+3*((m:Int)-2)+(_:Int)/\_;dsimp only[cond];lia)
 have hf:cY (16+3*((m:Int)-2)+bif s then 0 else 1)=true:=by unfold cY;rw[Bool.and_eq_true,decide_eq_true_eq,decide_eq_true_eq];cases s<;>(dsimp only[cond];lia)
 have hb:=qI hf
 refine⟨hk,he,λq0=>⟨a,rfl,by exact uC 0x1000080800c00c hl⟩,λB P hz p E sl=>?_⟩
 obtain⟨hE,hp,a',ea,hnn⟩:=sl
 obtain rfl:a'=a:=by exact Nat.le_antisymm (uB 0x1004100600f ea) (uB 0x800041005fff ea)
 have o:=az.of hz hE hp hnn
 have hl:=Nat.le_trans hl P.len
 refine⟨λkb=>⟨_,.fvN s hm rfl o (bH he) hl,.list m _ _ (by exact uA 0x7a1202000420000c hm.2) λi hi=>?_⟩,⟨hk,by lia,rS (by lia) (by lia),⟨_,.fv hf o (by exact uC 0x1000080800c00c hl),?_⟩,λz=>by lia,λz=>by lia⟩,λz=>by lia⟩
 ·obtain⟨hf,hh⟩:=h i hi
  simp only[cond_false]
  rw[(hh.up P).hn]
  cases s with
  | true=>show ng d (.int (de _ _)) _;rw[hf.signed];exact .int _
  | false=>show ng d (.int (ns i%_)) _;rw[hf.unsigned];exact .int _
 ·have:=Due.list ((List.range m).map λi=>AV.int (ns i)) (by rw[List.length_map,List.length_range];exact uA 0x7a12002000420000c hm.2)
  rw[List.length_map,List.length_range]at this
  rw[show(16+3*((m:Int)-2)+(bif s then 0 else 1)-16)/3+2=(m:Int) by cases s<;>(dsimp only[cond];lia)]
  exact this
theorem FD{ns:Nat->Bool}(he:e<=3)(ha:2^e<=a)(hm:0<m)(hm2:m<=1000000)(hn:cX b (a-2^e) (2^e) m)(hl:a+2^e*m<=b.length)(h:∀i,i<m->cX b (a+i*2^e) (2^e) (bif ns i then 1 else 0)):
  aR (d+1) b (.list ((List.range m).map λi=>.bool (ns i))) 36 a e false:=by
 refine⟨.inr rfl,he,λq0=>⟨a,rfl,by exact uC 0x1000080800c00c hl⟩,λB P hz p E sl=>?_⟩
 obtain⟨hE,hp,a',ea,hnn⟩:=sl
 obtain rfl:a'=a:=by exact Nat.le_antisymm (uB 0x1004100600f ea) (uB 0x800041005fff ea)
 have o:=az.of hz hE hp hnn
 have z:aX B a' (2^e) m:=.of he ha (hn.up P)
 have hl:=Nat.le_trans hl P.len
 refine⟨λkb=>⟨_,.tvB o z hm hm2 hl,.list m _ _ hm2 λi hi=>?_⟩,⟨.inr rfl,by decide,rfl,⟨_,.tv rfl o z (by exact uC 0x1000080800c00c hl) (by exact uA 0x7a120020000f424040000c hm2),?_⟩,nofun,nofun⟩,nofun⟩
 ·have e1:(!decide (num B (a'+i*2^e) (2^e)=0))=ns i:=by rw[((h i hi).up P).hn];cases ns i<;>rfl
  show ng d (.bool (!decide (num B (a'+i*2^e) (2^e)=0))) _
  rw[e1];exact .boo _
 ·have:=Due.list ((List.range m).map λi=>AV.bool (ns i)) (by rw[List.length_map,List.length_range];exact uA 0x7a120020000f424040000c hm2)
  rwa [List.length_map,List.length_range]at this
theorem F5{t:Int}(ht:t=14\/t=15){ns:Nat->Str}(he:e<=3)(ha:2^e<=a)(hm:0<m)(hm2:m<=1000000)(hn:cX b (a-2^e) (2^e) m)(hl:a<=b.length)
  (h:∀i,i<m->∃pl:Nat,cX b (a+i*2^e) (2^e) ((a+i*2^e:Nat)-(pl:Int))/\j9 (ns i)/\Lies b pl (aY (ns i)++[0])/\(ns i).cps.toList.length<=16000000):aR (d+1) b (.list ((List.range m).map λi=>.str (ns i))) t a e false:=by
 have hk:fh t:=.inl (by lia)
 refine⟨hk,he,λq0=>⟨a,rfl,hl⟩,λB P hz p E sl=>?_⟩
 obtain⟨hE,hp,a',ea,hnn⟩:=sl
 obtain rfl:a'=a:=by exact Nat.le_antisymm (uB 0x1004100600f ea) (uB 0x800041005fff ea)
 have o:=az.of hz hE hp hnn
 have z:aX B a' (2^e) m:=.of he ha (hn.up P)
 have hl:=Nat.le_trans hl P.len
 refine⟨λkb=>⟨_,.tvK ht o z hm hm2 hl λi hi=>?_,.list m _ _ hm2 λi hi=>.str _⟩,⟨hk,by lia,rS (by lia) (by lia),⟨_,.tv (by rcases ht with rfl|rfl<;>rfl) o z hl (by exact uA 0x7a120020000f424040000c hm2),?_⟩,λz=>by lia,λz=>by lia⟩,λz=>by lia⟩
 ·obtain⟨pl,h1,h2,h3,h4⟩:=h i hi
  have H:=h1.up P
  simp only[cond_false]
  exact⟨pl,_,c9.of ⟨hz,bH he,H.hp,by rw[H.hn];exact Int.le_antisymm (uC 0x40902200338400671) (uC 0x9010ce20219c009)⟩ h2 (h3.up P) h4⟩
 ·have:=Due.list ((List.range m).map λi=>AV.str (ns i)) (by rw[List.length_map,List.length_range];exact uA 0x7a120020000f424040000c hm2)
  rwa [List.length_map,List.length_range]at this
end
end
section
variable {c:Cx}{n:Nat}{sh:Sh}{Q:AV->Sh->Prop}{X:Sh->Prop}
theorem Pre.app(b c:List UInt8):Pre b (b++c):=List.prefix_append b c
theorem cX.new{b:List UInt8}{e:Nat}{y:Int}(h0:0<=y)(h:y<2^(8*2^e)):cX (b++leB (2^e) y) b.length (2^e) y:=
 ⟨by rw[List.length_append,aW];exact Nat.le_refl _,by have:=Bc b (2^e) y [] h0 h;rwa [List.append_nil]at this⟩
theorem v7(x:Int)(e:Nat):0<=x%2^(8*2^e)/\x%2^(8*2^e)<2^(8*2^e):=by
 have p:(0:Int)<2^(8*2^e):=Int.pow_pos (by decide)
 exact⟨Int.emod_nonneg x (by lia),Int.emod_lt_of_pos x p⟩
theorem cX.write(b:List UInt8)(x:Int)(e:Nat):cX (b++leB (2^e) (x%2^(8*2^e))) b.length (2^e) (x%2^(8*2^e)):=.new (v7 x e).1 (v7 x e).2
theorem fS{e0:Nat}{r:Int}(h0:e0<=3)(h1:0<=r)(h2:r<4):∃e:Nat,(bif decide (r>(e0:Int))then r else(e0:Int))=e/\e0<=e/\e<=3/\r<=e:=by
 by_cases h:r>e0
 ·exact⟨r.toNat,by rw[decide_eq_true h];show r=_;exact Int.le_antisymm (uK 0x2008000600f (cV (r) (uI 0x4400000000800d h1))) (uK 0x480005fff (cV (r) (uI 0x4400000000800d h1))),by exact nl [_,_] [_] 0x80000083007800000005002c00d h (cV (r) (uI 0x4400000000800d h1)),by lia,by exact uK 0x2008000600f (cV (r) (uI 0x4400000000800d h1))⟩
 ·exact⟨e0,by rw[decide_eq_false h];rfl,Nat.le_refl _,h0,by exact uK 0x2008020000d (Int.not_lt.mp h)⟩
noncomputable abbrev tup(k x:Int)(e:Nat)(inl:Bool):AV:=.tuple [.int k,.int x,.int e,.bool inl]
section
variable {b:List UInt8}{dr:Option (List Int)}{sf:Option (List (Str×AV))}{e E d:Nat}{x k i draw:Int}{inl:Bool}
theorem du.pos(h:du true i 3)(h0:0<=i)(s:Bool):du s i 3:=by
 cases s with
 | true=>exact h
 | false=>
  have h:0-(2:Int)^(8*2^3-1)<=i/\i<2^(8*2^3-1):=h
  have:=cI (show 8*2^3-1<=8*2^3 by decide)
  exact⟨h0,Int.lt_of_lt_of_le h.2 this⟩
theorem zf(Z:Std c)(hc:c.clean=true)(hb:b.length<=15000000)(hi:du true i 3)
  (q:∀k x e inl b',Pre b b'->b'.length<=b.length+15->aR d b' (.int i) k x e inl->Q (tup k x e inl) ⟨some b',dr,sf⟩):
  ae c (n+3) 942 [.oct,.v (.int i),.v (.int draw)] [] ⟨some b,dr,sf⟩ Q X:=by
 have r3:=Int.emod_nonneg draw (show(3:Int)≠0 by decide)
 have Lz:=Int.emod_nonneg (draw/12) (show(2:Int)≠0 by decide)
 have r4:=Int.emod_nonneg (draw/3) (show(4:Int)≠0 by decide)
 have r4':=Int.emod_lt_of_pos (draw/3) (show(0:Int)<4 by decide)
 refine Z.call (f:=942) rfl rfl rfl ?_
 have tail:∀(s:Bool),du s i 3->∀(e0:Nat),e0<=3->du s i e0->∀e',e0<=e'->e'<=3->∀m,m<=7->Q (tup (bif s then 6 else 7) (b++List.replicate m 0).length e' false) ⟨some (b++List.replicate m 0++leB (2^e') (i%2^(8*2^e'))),dr,sf⟩:=λs q0 e0 q1 hf e' h1 h2 m hm=>by
  refine q _ _ _ _ _ ((Pre.app _ _).trans (Pre.app _ _)) ?_ (DV s (hf.up h1) h2 (cX.write _ i e'))
  rw[List.length_append,List.length_append,aW,List.length_replicate]
  have:=a4 h2;exact uC 0x7920c40020d820880030720000c hm this
 by_cases c1:draw%3=1
 ·by_cases c2:0<=i
  ·walk_at"ev"
   refine dK Z (hi.pos c2 false) λe he hf=>?_
   walk_at"ev"
   exact q _ _ _ _ _ (List.prefix_refl _) (by exact uA 0x7900c00) (EJ hf he)
  ·have c3:draw%3<2:=by rw[c1];decide
   walk_at"nf"
   refine vS (decide_eq_true c1) ?_
   walk_at"nf"
   refine cF (decide_eq_false c2) ?_
   walk_at"nf"
   rw[decide_eq_true c3]
   walk_at"ev"
   refine dK Z hi λe he hf=>?_
   walk_at"ev"
   exact q _ _ _ _ _ (List.prefix_refl _) (by exact uA 0x7900c00) (BF hf he)
 ·walk_at"ev"
  cases w:decide (draw%3<2)with
  | true=>
   walk_at"ev"
   refine dK Z hi λe he hf=>?_
   walk_at"ev"
   exact q _ _ _ _ _ (List.prefix_refl _) (by exact uA 0x7900c00) (BF hf he)
  | false=>
   walk_at"ev"
   refine aD (λw=>?_) (λw=>?_)
   ·rw[w]
    walk_at"ev"
    refine dK Z hi λe0 he0 hf=>?_
    obtain⟨e',ee,h1,h2,_⟩:=fS he0 r4 r4'
    walk_at"ev"
    rw[ee]
    refine iA Z hc (by exact uA 0x7a12002000e4e1c040000c hb) h2 λm hm=>?_
    have l1:(b++List.replicate m (0:UInt8)).length<=15500000:=by rw[List.length_append,List.length_replicate];exact uB 0x7641702100181c880030e4e1c040000c hb hm
    walk_at"ev"
    refine ir Z hc (by exact uA 0x7a12002000ec82e040000c l1) h2 ?_
    walk_at"ev"
    exact tail true hi e0 he0 hf e' h1 h2 m hm
   ·have w:=of_decide_eq_false w
    walk_at"ev"
    generalize decide (draw/12%2=0)=s
    have hf3:du s i 3:=hi.pos (by lia) s
    refine dK Z hf3 λe0 he0 hf=>?_
    obtain⟨e',ee,h1,h2,_⟩:=fS he0 r4 r4'
    walk_at"ev"
    rw[ee]
    refine iA Z hc (by exact uA 0x7a12002000e4e1c040000c hb) h2 λm hm=>?_
    have l1:(b++List.replicate m (0:UInt8)).length<=15500000:=by rw[List.length_append,List.length_replicate];exact uB 0x7641702100181c880030e4e1c040000c hb hm
    walk_at"ev"
    refine ir Z hc (by exact uA 0x7a12002000ec82e040000c l1) h2 ?_
    cases s
    all_goals
     walk_at"ev"
    ·exact tail false hf3 e0 he0 hf e' h1 h2 m hm
    ·exact tail true hf3 e0 he0 hf e' h1 h2 m hm
theorem tH{y:Int}(E:Nat)(h1:1<=E)(h0:0<=y)(h:y<65536):y%2^(8*2^E)=y:=by
 have p1:2^1<=2^E:=Nat.pow_le_pow_right (by decide) h1
 have:=cI (show 16<=8*2^E by exact uA 0x1110200044044 p1)
 have e:(2:Int)^16=65536:=by decide
 exact Int.emod_eq_of_lt h0 (uJ 0x20000001401910008000200340100004000000a00c00d h this)
theorem ny{y:Int}(E:Nat)(h0:0<=y)(h:y<256):y%2^(8*2^E)=y:=by
 have:=bF E
 have:=cI (show 8<=8*2^E by exact uA 0x110820002402c044 this)
 exact Int.emod_eq_of_lt h0 (Int.lt_of_lt_of_le h this)
theorem dz(Z:Std c)(hc:c.clean=true)(hb:b.length<=16000000)(he:e<=3)(q:∀b1,Pre b b1->b.length<=b1.length->b1.length<=b.length+7->Q .none ⟨some b1,dr,sf⟩):ae c (n+1) 928 [.oct,.v (.int e)] [] ⟨some b,dr,sf⟩ Q X:=
 iA Z hc hb he λm hm=>q _ (Pre.app _ _) (Pre.app _ _).len (by rw[List.length_append,List.length_replicate];exact Nat.add_le_add_left hm _)
theorem gj(Z:Std c)(hc:c.clean=true)(hb:b.length<=16000000)(he:e<=3)(q:∀b1,Pre b b1->b1.length=b.length+2^e->cX b1 b.length (2^e) (x%2^(8*2^e))->Q .none ⟨some b1,dr,sf⟩):ae c (n+1) 921 [.oct,.v (.int x),.v (.int e)] [] ⟨some b,dr,sf⟩ Q X:=
 ir Z hc hb he (q _ (Pre.app _ _) (by rw[List.length_append,aW]) (cX.write b x e))
theorem cj(Z:Std c)(hc:c.clean=true)(hb:b.length<=16000000)(he:e<=3)(h1:1<=e)(h0:0<=x)(hx:x<65536)(q:∀b1,Pre b b1->b1.length=b.length+2^e->cX b1 b.length (2^e) x->Q .none ⟨some b1,dr,sf⟩):ae c (n+1) 921 [.oct,.v (.int x),.v (.int e)] [] ⟨some b,dr,sf⟩ Q X:=
 gj Z hc hb he λb1 P l h=>q b1 P l (tH e h1 h0 hx▸h)
theorem vA(Z:Std c)(hc:c.clean=true)(hb:b.length<=16000000)(he:e<=3)(h0:0<=x)(hx:x<256)(q:∀b1,Pre b b1->b1.length=b.length+2^e->cX b1 b.length (2^e) x->Q .none ⟨some b1,dr,sf⟩):ae c (n+1) 921 [.oct,.v (.int x),.v (.int e)] [] ⟨some b,dr,sf⟩ Q X:=
 gj Z hc hb he λb1 P l h=>q b1 P l (ny e h0 hx▸h)
theorem kS(Z:Std c)(hc:c.clean=true)(hb:b.length<=65000)(hE:E<=3)(h1:inl=true->e<=E)(h2:inl=false->1<=E/\∃a:Nat,x=a/\a<=b.length)
  (q:∀b',Pre b b'->b'.length=b.length+2^E->Slot b' b.length E x e inl->Q .none ⟨some b',dr,sf⟩):
  ae c (n+2) 949 [.oct,.v (tup k x e inl),.v (.int E)] [] ⟨some b,dr,sf⟩ Q X:=by
 refine Z.call (f:=949) rfl rfl rfl ?_
 cases inl
 ·obtain⟨h1,a,rfl,ha⟩:=h2 rfl
  have zq0:b.length<=16777216:=by exact uA 0x800000200000fde840000c hb
  walk_at"ev"
  refine cj Z hc (by exact uA 0x7a1200200000fde840000c hb) hE h1 (by exact uB 0x220e00000011100000c ha) (by exact uB 0x80002000000508200e6400fde840000c hb) λb' P l h=>?_
  walk_at"ev"
  exact q b' P l ⟨hE,Nat.le_of_eq l.symm,a,rfl,by have:=h.hn;exact Int.le_antisymm (nl [_,_] [_] 0x2080007110401c0200f this) (nl [_,_] [_] 0x1c20910401c01fff this)⟩
 ·walk_at"ev"
  refine gj Z hc (by exact uA 0x7a1200200000fde840000c hb) hE λb' P l h=>?_
  walk_at"ev"
  exact q b' P l ⟨hE,Nat.le_of_eq l.symm,h1 rfl,h.hn⟩
end
end
section
variable {c:Cx}{n:Nat}{sh:Sh}{Q:AV->Sh->Prop}{X:Sh->Prop}
section
variable {b b1:List UInt8}{dr:Option (List Int)}{sf:Option (List (Str×AV))}{E d m:Nat}{ks xs:Nat->Int}{es:Nat->Nat}{inl:Nat->Bool}{ah:AV}{isn:Bool}
noncomputable abbrev rB(m:Nat)(ks xs:Nat->Int)(es:Nat->Nat)(inl:Nat->Bool):AV:=.list ((List.range m).map λi=>tup (ks i) (xs i) (es i) (inl i))
structure Fits(b:List UInt8)(E m:Nat)(ks xs:Nat->Int)(es:Nat->Nat)(inl:Nat->Bool):Prop where
 k:∀i,i<m->fh (ks i)
 e:∀i,i<m->es i<=3
 t:∀i,i<m->inl i=true->es i<=E
 f:∀i,i<m->inl i=false->∃a:Nat,xs i=a/\a<=b.length
theorem aL{α:Type}{m i:Nat}{f:Nat->α}{a:α}(h:((List.range m).map f)[i]? =some a):i<m/\a=f i:=by
 have hi:i<m:=by have:=(List.getElem?_eq_some_iff.mp h).1;rwa [List.length_map,List.length_range]at this
 rw[List.getElem?_map,List.getElem?_range hi]at h
 cases h;exact⟨hi,rfl⟩
theorem ou(Z:Std c)(hc:c.clean=true)(hb:b1.length+2^E+m*2^E+m<=65000)(hE:1<=E/\E<=3)(hm:m<=1000)(hA:(isNone AV.none&& !An ah)=true)(hN:isNone ah=isn)(hF:Fits b1 E m ks xs es inl)
  (q:∀b',Pre b1 b'->b'.length=b1.length+2^E+m*2^E+m->cX b' b1.length (2^E) m->(∀i,i<m->Slot b' (b1.length+2^E+i*2^E) E (xs i) (es i) (inl i))->
   (∀i,i<m->gT b' (b1.length+2^E+m*2^E+i) (ks i) (bif inl i then E else es i))->Q (tup (bif isn then 10 else 9) (b1.length+2^E:Nat) E false) ⟨some b',dr,sf⟩):
  ev c T0 (n+4) 58 (.B (aq (D1 34)) (List.drop 2 (bodyOf (D1 34))) (dj ["octets","children","exp","ahead"] [.oct,.v (rB m ks xs es inl),.v (.int E),.v ah]) ⟨⟨some b1,dr,sf⟩,[]⟩ (dk Q) (λq0 S=>X S.sh)):=by
 have lk:((List.range m).map λi=>tup (ks i) (xs i) (es i) (inl i)).length=m:=by rw[List.length_map,List.length_range]
 have p8:=a4 hE.2
 have p0:=bF E
 have zq0:(List.map (λi=>tup (ks i) (xs i) (es i) (inl i)) (List.range m)).length<=16777216:=by exact uB 0x80000021000087ff80003e840000c hm lk
 walk_at"ev"
 rw[lk]
 refine cj Z hc (by exact uD 0x1e84800800003f7a1182020036c00c hb) hE.2 hE.1 (by exact uA 0x100000011) (by exact uA 0x400010000002801640003e840000c hm) λb2 P2 l2 hH=>?_
 have zq0:b2.length<=16777216:=by exact uE 0x8000002400400681ffe003f7a1182020036c00c hb l2
 have zq1:(List.map (λi=>tup (ks i) (xs i) (es i) (inl i)) (List.range m)).length<16777216:=by exact uB 0x80000020488600087ff80003e840000c hm lk
 walk_at"ev"
 rw[l2]
 have mE:∀j,j<m->j*2^E+2^E<=m*2^E:=λj hj=>by have:=cU (w:=2^E) hj;rwa [Nat.mul_comm (2^E) m]at this
 refine bR (λj S=>∃bj,S=⟨⟨some bj,dr,sf⟩,[]⟩/\Pre b2 bj/\bj.length=b1.length+2^E+j*2^E/\∀i,i<j->Slot bj (b1.length+2^E+i*2^E) E (xs i) (es i) (inl i)) _ (λa=>rfl) _
  (λj a S K ja jj k1=>?_) (λS jj=>?_) _ ⟨b2,rfl,List.prefix_refl _,by exact Nat.le_antisymm (uC 0x200042021b000808601ffe l2) (uC 0x4000840436080860200e l2),λi hi=>absurd hi (Nat.not_lt_zero i)⟩
 ·obtain⟨hj,rfl⟩:=aL ja
  obtain⟨bj,rfl,j2,j3,j4⟩:=jj
  have:=mE j hj
  walk_at"ev"
  refine kS Z hc (by exact nl [_,_,_,_,_,_] [] 0x7ef4240080850c00c502003681ffe003f7a1182020036c00c hb j3 this) hE.2 (hF.t j hj) (λz=>⟨hE.1,by obtain⟨a,h1,h2⟩:=hF.f j hj z;exact⟨a,h1,by exact uE 0x100108000c30404360200e j3 h2⟩⟩) λb' P l s=>?_
  walk_at"ev"
  refine k1 _ ⟨b',rfl,j2.trans P,by rw[l,j3,Nat.add_mul];exact Nat.le_antisymm (uC 0x40030831001b10404006d8) (uC 0x4101001b620018418800d8),λi hi=>?_⟩
  by_cases w:i<j
  ·exact(j4 i w).up P
  ·obtain rfl:i=j:=by exact Nat.le_antisymm (uB 0x2000048860900c00c hi) (uB 0x2000100000c (Nat.not_lt.mp w))
   rw[j3]at s;exact s
 rw[lk]at jj
 obtain⟨b3,rfl,j2,j3,j4⟩:=jj
 have zq0:(List.map (λi=>tup (ks i) (xs i) (es i) (inl i)) (List.range m)).length<16777216:=by exact uB 0x80000020488600087ff80003e840000c hm lk
 walk_at"ev"
 refine bR (λj S=>∃bj,S=⟨⟨some bj,dr,sf⟩,[]⟩/\Pre b3 bj/\bj.length=b1.length+2^E+m*2^E+j/\∀i,i<j->gT bj (b1.length+2^E+m*2^E+i) (ks i) (bif inl i then E else es i)) _ (λa=>rfl) _
  (λj a S K ja jj k1=>?_) (λS jj=>?_) _ ⟨b3,rfl,List.prefix_refl _,by exact Nat.le_antisymm (uD 0x13040436c00304043601ffe j3) (uD 0x2608086d830404360200e j3),λi hi=>absurd hi (Nat.not_lt_zero i)⟩
 ·obtain⟨hj,rfl⟩:=aL ja
  obtain⟨bj,rfl,j5,j6,j7⟩:=jj
  have ok:=hF.k j hj
  have ee:=hF.e j hj
  have fin:∀t:Nat,t<=3->t=(bif inl j then E else es j)->∀y:Int,y=4*ks j+t->∃b',⟨⟨some (bj++[y.toNat.toUInt8]),dr,sf⟩,[]⟩=(⟨⟨some b',dr,sf⟩,[]⟩:St)/\Pre b3 b'/\b'.length=b1.length+2^E+m*2^E+(j+1)/\∀i,i<j+1->gT b' (b1.length+2^E+m*2^E+i) (ks i) (bif inl i then E else es i):=λt ht te y hy=>by
   have y1:0<=y/\y<256:=by rcases ok with ok|ok<;>lia
   refine⟨_,rfl,j5.trans (Pre.app _ _),by rw[List.length_append,j6];rfl,λi hi=>?_⟩
   by_cases w:i<j
   ·exact(j7 i w).up (Pre.app _ _)
   ·obtain rfl:i=j:=by exact Nat.le_antisymm (uB 0x2000048860900c00c hi) (uB 0x2000100000c (Nat.not_lt.mp w))
    refine⟨⟨y.toNat.toUInt8,?_,?_⟩,ok,by rw[<-te];exact ht⟩
    ·rw[<-j6,List.getElem?_append_right (Nat.le_refl _),Nat.sub_self];rfl
    ·rw[<-te,<-hy]
     show((y.toNat%256:Nat):Int)=y
     rw[Nat.mod_eq_of_lt (by exact uK 0x40102403000017ffc0001004000000a00c00d y1.2 (cV (y) (uI 0x4400000000800d y1.1)))];exact Int.le_antisymm (uK 0x480005fff (cV (y) (uI 0x4400000000800d y1.1))) (uK 0x2008000600f (cV (y) (uI 0x4400000000800d y1.1)))
  have y1:0<=4*ks j/\4*ks j<200:=by rcases ok with ok|ok<;>lia
  cases hin:inl j with
  | true=>
   have le:=hF.t j hj hin
   rw[hin]at fin k1
   have emax:(bif decide ((E:Int)>(es j:Int))then(E:Int)else(es j:Int))=E:=by
    by_cases w:(E:Int)>es j
    ·rw[decide_eq_true w];rfl
    ·rw[decide_eq_false w];show(es j:Int)=E;exact Int.le_antisymm (uB 0x82009100000c le) (uB 0x2080244100400d (Int.not_lt.mp w))
   walk_at"ev"
   rw[emax]
   walk_at"ev"
   refine And.intro (show bj.length+1<16777216 by exact nl [_,_,_,_,_,_] [] 0x80000020482543610101001b6a1ffe300940c00c003f7a1182020036c00c hb hj j6) ?_
   walk_at"ev"
   exact k1 _ (fin E hE.2 rfl _ rfl)
  | false=>
   rw[hin]at fin k1
   have zq0:0<=4*ks j+ ↑(es j):=by exact uK 0x40009180000008800120000000800d y1.1
   have zq1:4*ks j+ ↑(es j)<256:=by exact uK 0x1004000000a00400091b2000064200000050001230034320000c ee y1.2
   walk_at"ev"
   refine And.intro (show bj.length+1<16777216 by exact nl [_,_,_,_,_,_] [] 0x80000020482543610101001b6a1ffe300940c00c003f7a1182020036c00c hb hj j6) ?_
   walk_at"ev"
   exact k1 _ (fin (es j) ee rfl _ rfl)
 rw[lk]at jj
 obtain⟨b4,rfl,j5,j6,j7⟩:=jj
 walk_at"ev"
 rw[hN]
 have q:=q b4 (P2.trans (j2.trans j5)) (by exact Nat.le_antisymm (uE 0x80c1010db0010182021b601ffe j6) (uE 0x10182021b610182021b60200e j6)) (hH.up (j2.trans j5)) (λi hi=>(j4 i hi).up j5) j7
 cases isn
 all_goals
  walk_at"ev"
  exact q
end
end
section
variable {c:Cx}{n:Nat}{sh:Sh}{Q:AV->Sh->Prop}{X:Sh->Prop}
section
variable {b:List UInt8}{dr:Option (List Int)}{sf:Option (List (Str×AV))}{E d m:Nat}{ks xs:Nat->Int}{es:Nat->Nat}{inl:Nat->Bool}{vs:Nat->AV}
structure gf(d:Nat)(b:List UInt8)(E m:Nat)(vs:Nat->AV)(ks xs:Nat->Int)(es:Nat->Nat)(inl:Nat->Bool):Prop where
 ch:∀i,i<m->aR d b (vs i) (ks i) (xs i) (es i) (inl i)
 t:∀i,i<m->inl i=true->es i<=E
theorem gf.up{b':List UInt8}(P:Pre b b')(h:gf d b E m vs ks xs es inl):gf d b' E m vs ks xs es inl:=⟨λi hi=>(h.ch i hi).up P,h.t⟩
theorem gf.fits(h:gf d b E m vs ks xs es inl):Fits b E m ks xs es inl:=⟨λi hi=>(h.ch i hi).hk,λi hi=>(h.ch i hi).he,h.t,λi hi=>(h.ch i hi).hx⟩
theorem gf.row{b1 b':List UInt8}(h:gf d b1 E m vs ks xs es inl)(hE:1<=E/\E<=3)(hm:m<=1000000)(P:Pre b1 b')(hl:b'.length=b1.length+2^E+m*2^E+m)(hn:cX b' b1.length (2^E) m)
  (h1:∀i,i<m->Slot b' (b1.length+2^E+i*2^E) E (xs i) (es i) (inl i)) (h2:∀i,i<m->gT b' (b1.length+2^E+m*2^E+i) (ks i) (bif inl i then E else es i)):Row d b' (b1.length+2^E) m E vs ks xs es inl:=
 ⟨hE,hm,by exact uB 0x10c00,by exact uE 0x808610182021b60200e hl,by rw[Nat.add_sub_cancel];exact hn,h1,h2,λi hi=>(h.ch i hi).up P⟩
theorem El(Z:Std c)(hc:c.clean=true)(hE:1<=E/\E<=3)(hm:m<=1000)(hb:b.length+7+8+m*8+m<=65000)(hB:gf d b E m vs ks xs es inl)
  (q:∀k x e b',Pre b b'->b'.length<=b.length+15+m*9->aR (d+1) b' (.list ((List.range m).map vs)) k x e false->Q (tup k x e false) ⟨some b',dr,sf⟩):
  ae c (n+5) 956 [.oct,.v (rB m ks xs es inl),.v (.int E),.v .none] [] ⟨some b,dr,sf⟩ Q X:=by
 have p8:=a4 hE.2
 have pm:m*2^E<=m*8:=Nat.mul_le_mul_left m p8
 refine Z.call (f:=956) rfl rfl rfl ?_
 refine dW (k:=57) 2 rfl λPP hP=>?_
 walk_at"ev"
 refine dz Z hc (by exact uB 0xf42400400001fbd084080229047201b6c00c hb) hE.2 λb1 P1 z1 z2=>?_
 walk_at"ev"
 refine hP _ _ (ou (n:=n) (b1:=b1) (dr:=dr) (sf:=sf) (ah:=.none) (isn:=true) (Q:=Q) (X:=X) Z hc (by exact uE 0x1fbd084182081b607201a0003040114c00184120006001fbd084080229047201b6c00c hb p8 pm z2) hE hm rfl rfl (hB.up P1).fits λb' P hl hn h1 h2=>
  q _ _ _ b' (P1.trans P) (by exact nl [_,_,_,_,_,_] [] 0x4009a7940da804040030db50fff0e5033000610022880030820000c p8 pm z2 hl) (Hi ((hB.up P1).row hE (by exact uA 0x7a12020000003e840000c hm) P hl hn h1 h2)))
theorem EZ(Z:Std c)(hc:c.clean=true)(hE:1<=E/\E<=3)(hm:m<64){st wd:Nat}{ns:Nat->Str}{ld:List (Str×AV)}(hb:b.length+7+24+m*8+m<=65000)(hB:gf d b E m vs ks xs es inl)
  (hw:wd<=3) (hs:2^wd<=st) (hst:st<=b.length) (hk:cX b (st-2^wd) (2^wd) m)
  (keys:∀i,i<m->∃pl:Nat,cX b (st+i*2^wd) (2^wd) ((st+i*2^wd:Nat)-(pl:Int))/\j9 (ns i)/\Lies b pl (aY (ns i)++[0])/\(ns i).cps.toList.length<=16000000) (knd:((List.range m).map ns).Nodup)
  (hld:ld.length=m) (nd:(ld.map (·.1)).Nodup) (hsrt:a8 (ld.map (·.1))=(List.range m).map ns) (hv:∀i,i<m->a7 ld (ns i)=some (vs i))
  (q:∀k x e b',Pre b b'->b'.length<=b.length+31+m*9->aR (d+1) b' (.dict ld) k x e false->k=9->Q (tup k x e false) ⟨some b',dr,sf⟩):
  ae c (n+5) 956 [.oct,.v (rB m ks xs es inl),.v (.int E),.v (.tuple [.int st,.int wd])] [] ⟨some b,dr,sf⟩ Q X:=by
 have p8:=a4 hE.2
 have p0:=bF E
 have w8:=a4 hw
 have pm:m*2^E<=m*8:=Nat.mul_le_mul_left m p8
 refine Z.call (f:=956) rfl rfl rfl ?_
 refine dW (k:=57) 2 rfl λPP hP=>?_
 walk_at"ev"
 refine dz Z hc (by exact uB 0xf42400400001fbd08408022b047201b6c00c hb) hE.2 λb1 P1 z1 z2=>?_
 have zq0:b1.length<=16777216:=by exact uC 0x10000004400e40320006001fbd08408022b047201b6c00c hb z2
 walk_at"ev"
 refine cj Z hc (by exact uC 0xf424004400e40320006001fbd08408022b047201b6c00c hb z2) hE.2 hE.1 (by exact uC 0x240e00000011202000c100000c hst z1) (by exact uD 0x100004000000a30481cc8e40320006001fbd08408022b047201b6c00c hb z2) λb2 P2 l2 h1=>?_
 walk_at"ev"
 rw[a5,bA]
 refine cj Z hc (by exact uE 0xf424004801030d03ffc3900cc00184120006001fbd08408022b047201b6c00c hb p8 z2 l2) hE.2 hE.1 (Int.natCast_nonneg _) (by exact uA 0x40001000000280164820000c w8) λb3 P3 l3 h2=>?_
 have PA:=P1.trans (P2.trans P3)
 walk_at"ev"
 refine hP _ _ (ou (n:=n) (b1:=b3) (dr:=dr) (sf:=sf) (ah:=.tuple [.int st,.int wd]) (isn:=false) (Q:=Q) (X:=X) Z hc (by exact nl [_,_,_,_,_,_,_] [] 0x1fbd0841820c1b608286c1ffe2081a87ff87201a0003040114c0018412000e001fbd08408022b047201b6c00c hb p8 pm z2 l2 l3) hE (by exact uA 0x1f4200000004040900c00c hm) rfl rfl (hB.up PA).fits λb' P hl hn h5 h6=>
  q _ _ _ b' (PA.trans P) (by exact nl [_,_,_,_,_,_,_,_] [] 0x4009af940db804040060db70fff0050d83ffc00c350fff0e5033000610022880030820001c p8 pm z2 l2 l3 hl) (FM hld (by exact uA 0x20204806000004040900c00c hm) nd hsrt hv ((hB.up PA).row hE (by exact uA 0x7a120200000004040900c00c hm) P hl hn h5 h6) {
   hw:=hw,h3:=by exact uD 0x20619000e0200198803880860200e l2 l3
   ho:=by
    rw[show b3.length+2^E-3*2^E=b1.length by exact Nat.le_antisymm (uE 0x420040c32001c40dffe2001987ff8808601ffe l2 l3 (Nat.sub_add_cancel (n:=b3.length+2^E) (m:=3*2^E) (uD 0x20619000e0200198803880860200e l2 l3))) (uE 0x1008040c32001c40e00e200198803880860200e l2 l3 (Nat.sub_add_cancel (n:=b3.length+2^E) (m:=3*2^E) (uD 0x20619000e0200198803880860200e l2 l3))),show(((b3.length+2^E:Nat):Int)-3*2^E-st)=(b1.length:Int)-st by rw[bA];exact Int.le_antisymm (uE 0x8088390120403840c33b12001987ff8808601ffe l2 l3) (uE 0x8090201c20619d9011071200198803880860200e l2 l3)]
    exact h1.up (P3.trans P)
   hv:=by
    rw[show b3.length+2^E-2*2^E=b2.length by exact Nat.le_antisymm (uD 0x10601000c80050c37ff8808601ffe l3 (Nat.sub_add_cancel (n:=b3.length+2^E) (m:=2*2^E) (uC 0x800640028080860200e l3))) (uD 0x30201000c80050c3803880860200e l3 (Nat.sub_add_cancel (n:=b3.length+2^E) (m:=2*2^E) (uC 0x800640028080860200e l3)))]
    exact h2.up P
   hs:=hs,hl:=Nat.le_trans hst (Pre.len (PA.trans P)),hk:=hk.up (PA.trans P)
   keys:=λi hi=>by obtain⟨pl,k1,k2,k3,k4⟩:=keys i hi;exact⟨pl,k1.up (PA.trans P),k2,k3.up (PA.trans P),k4⟩
   nd:=knd}) rfl)
end
end
section
variable {c:Cx}{n:Nat}{sh:Sh}{Q:AV->Sh->Prop}{X:Sh->Prop}
theorem iC{i j:Int}(h:AV.int i=.int j):i=j:=by cases h;rfl
theorem y9{i j:Bool}(h:AV.bool i=.bool j):i=j:=by cases h;rfl
theorem DU{α:Type}{l:List α}{m:Nat}(h:l.length=m)(hm:0<m):(!l.isEmpty)=true:=by
 cases l with
 | nil=>exact absurd h (Nat.ne_of_lt hm)
 | cons _ _=>rfl
theorem bK:∀(L:List Int) (K:List Int->Prop),K L->intsOf (L.map .int) K
 | [],_,k=>k
 | x::r,K,k=>bK r (λl=>K (x::l)) k
theorem oh:∀{vs:List AV},(∀v∈vs,∃i,v=.int i)->∃L:List Int,vs=L.map .int:=by
 intro vs
 induction vs with
 | nil=>
  intro _
  exact⟨[],rfl⟩
 | cons v r ih=>
  intro h
  obtain⟨i,rfl⟩:=h v (.head _)
  obtain⟨L,rfl⟩:=ih λw m=>h w (.tail _ m)
  exact⟨i::L,rfl⟩
theorem fold_max:∀(l:List Int) (x:Int),(l.foldl (λa b=>bif decide (b>a)then b else a) x∈x::l)/\x<=l.foldl (λa b=>bif decide (b>a)then b else a) x/\∀y∈l,y<=l.foldl (λa b=>bif decide (b>a)then b else a) x:=by
 intro l
 induction l with
 | nil=>
  intro x
  exact⟨.head _,Int.le_refl _,nofun⟩
 | cons b r ih=>
  intro x
  rw[List.foldl_cons]
  by_cases h:b>x
  ·rw[decide_eq_true h]
   obtain⟨h1,h2,h3⟩:=ih b
   refine⟨.tail _ h1,Int.le_trans (Int.le_of_lt h) h2,λy m=>?_⟩
   rcases List.mem_cons.mp m with rfl|m
   ·exact h2
   ·exact h3 y m
  ·rw[decide_eq_false h]
   obtain⟨h1,h2,h3⟩:=ih x
   refine⟨?_,h2,λy m=>?_⟩
   ·rcases List.mem_cons.mp h1 with h1|h1
    ·exact List.mem_cons.mpr (.inl h1)
    ·exact .tail _ (.tail _ h1)
   ·rcases List.mem_cons.mp m with rfl|m
    ·exact Int.le_trans (by exact uJ 0x2001100000d (Int.not_lt.mp h)) h2
    ·exact h3 y m
theorem kK{L:List Int}(h:L≠[]):best ie L∈L/\∀y∈L,y<=best ie L:=by
 cases L with
 | nil=>exact absurd rfl h
 | cons x r=>
  obtain⟨h1,h2,h3⟩:=fold_max r x
  refine⟨h1,λy m=>?_⟩
  rcases List.mem_cons.mp m with rfl|m
  ·exact h2
  ·exact h3 y m
theorem fold_min:∀(l:List Int) (x:Int),l.foldl (λa b=>bif decide (b<a)then b else a) x<=x/\∀y∈l,l.foldl (λa b=>bif decide (b<a)then b else a) x<=y:=by
 intro l
 induction l with
 | nil=>
  intro x
  exact⟨Int.le_refl _,nofun⟩
 | cons b r ih=>
  intro x
  rw[List.foldl_cons]
  by_cases h:b<x
  ·rw[decide_eq_true h]
   obtain⟨h2,h3⟩:=ih b
   refine⟨Int.le_trans h2 (Int.le_of_lt h),λy m=>?_⟩
   rcases List.mem_cons.mp m with rfl|m
   ·exact h2
   ·exact h3 y m
  ·rw[decide_eq_false h]
   obtain⟨h2,h3⟩:=ih x
   refine⟨h2,λy m=>?_⟩
   rcases List.mem_cons.mp m with rfl|m
   ·exact Int.le_trans h2 (by exact uJ 0x2001100000d (Int.not_lt.mp h))
   ·exact h3 y m
theorem AI{L:List Int}{y:Int}(m:y∈L):F0 L<=y:=by
 cases L with
 | nil=>cases m
 | cons x r=>
  obtain⟨h2,h3⟩:=fold_min r x
  rcases List.mem_cons.mp m with rfl|m
  ·exact h2
  ·exact h3 y m
section
variable {f:fe->Prop}{sc:Scope}{x:Str}{elt:Expr}{ρ:aa}{S:St}
theorem gz(P:Nat->AV->Prop)(l:List AV){K:List AV->St->Prop}(step:∀j a (K:Op->St->Prop),l[j]? =some a->(∀v,P j v->K (.v v) S)->f (.E sc elt ((x,.v a)::ρ) S K iF))
  (done:∀vs,vs.length=l.length->(∀j v,vs[j]? =some v->P j v)->K vs S):eG f sc x [] elt ρ l S K:=by
 refine gY (λj acc S'=>S'=S/\acc.length=j/\∀i v,acc[i]? =some v->P i v) l 0 (λj a S' vs K e jj k=>?_) [] (λvs S' jj=>?_) ⟨rfl,rfl,λi v e=>by cases e⟩
 ·obtain⟨rfl,h1,h2⟩:=jj
  rw[Nat.zero_add]at h1 k
  refine step j a K e λv hv=>k v _ ⟨rfl,by rw[List.length_append,h1];rfl,λi w e=>?_⟩
  by_cases hi:i<vs.length
  ·rw[List.getElem?_append_left hi]at e;exact h2 i w e
  ·have hlt:=(List.getElem?_eq_some_iff.mp e).1
   rw[List.length_append]at hlt
   have hlt:i<vs.length+1:=hlt
   obtain rfl:i=vs.length:=by exact Nat.le_antisymm (uB 0x2000048860900c00c hlt) (uB 0x2000100000c (Nat.not_lt.mp hi))
   rw[List.getElem?_append_right (Nat.le_refl _),Nat.sub_self]at e
   cases e;rw[h1];exact hv
 ·obtain⟨rfl,h1,h2⟩:=jj
  rw[List.nil_append]at h1 h2
  exact done vs (by rw[h1,Nat.zero_add]) h2
end
theorem n7{m:Nat}{f:Nat->AV}(h:0<m):pJ ((List.range m).map f) 0=some (f 0):=eZ (j:=0) h
theorem widths{s:Bool}{m:Nat}{ns:Nat->Int}{vs:List AV}{r:Int}(hl:vs.length=m)(h:∀j v,vs[j]? =some v->∃e:Nat,v=.int e/\e<=3/\du s (ns j) e)(r0:0<=r)(r1:r<4):
  ∃(L:List Int) (e:Nat),(∀K:List Int->Prop,K L->intsOf (vs++[.int r]) K)/\(!L.isEmpty)=true/\best ie L=e/\e<=3/\∀i,i<m->du s (ns i) e:=by
 obtain⟨L,rfl⟩:=oh (vs:=vs) λv mv=>by
  obtain⟨j,hj⟩:=List.mem_iff_getElem?.mp mv
  obtain⟨e,rfl,_⟩:=h j v hj
  exact⟨e,rfl⟩
 have hne:L++[r]≠[]:=by simp
 obtain⟨m1,m2⟩:=kK hne
 have b:0<=best ie (L++[r])/\best ie (L++[r])<=3:=by
  rcases List.mem_append.mp m1 with m1|m1
  ·obtain⟨j,hj⟩:=List.mem_iff_getElem?.mp m1
   obtain⟨e,e1,e2,_⟩:=h j (.int (best ie (L++[r]))) (by rw[List.getElem?_map,hj];rfl)
   have e1:=iC e1;exact⟨uK 0x88020200f e1,uK 0xd00200807ffc320000c e2 e1⟩
  ·have:=List.mem_singleton.mp m1;exact⟨uJ 0x2000000044008803c00000000800d r0 this,uJ 0x1a1040087ffc0000044000000a00c00d r1 this⟩
 refine⟨L++[r],(best ie (L++[r])).toNat,λK k=>by rw[show L.map AV.int++[.int r]=(L++[r]).map .int by rw[List.map_append];rfl];exact bK _ K k,by cases L<;>rfl,by exact Int.le_antisymm (uK 0x2008000600f (cV (best ie (L++[r])) (uI 0x4400000000800d b.1))) (uK 0x480005fff (cV (best ie (L++[r])) (uI 0x4400000000800d b.1))),by exact uK 0xc80000017ffc00000340000d b.2 (cV (best ie (L++[r])) (uI 0x4400000000800d b.1)),λi hi=>?_⟩
 have hi':i<L.length:=by rw[List.length_map]at hl;exact uC 0x12418100920c00c100200e hl hi
 obtain⟨e,e1,e2,e3⟩:=h i (.int L[i]) (by rw[List.getElem?_map,List.getElem?_eq_getElem hi'];rfl)
 have e1:=iC e1
 refine e3.up ?_
 have:=m2 L[i] (List.mem_append_left _ (List.getElem_mem hi'))
 exact nl [_,_] [_,_] 0x8000408300788000068020200f e1 this (cV (best ie (L++[r])) (uI 0x4400000000800d b.1))
end
section
variable {c:Cx}{n:Nat}{sh:Sh}{Q:AV->Sh->Prop}{X:Sh->Prop}
section
variable {b:List UInt8}{dr:Option (List Int)}{sf:Option (List (Str×AV))}{d m:Nat}
def GH(v:AV)(i:Int):Prop:=v=.int i\/∃r,v=.bool r/\i=bif r then 1 else 0
noncomputable abbrev EY(vf:Nat->AV)(m:Nat)(draw:Int)(tr fx:Bool):aa:=[(("octets" :Str),.oct),(("values" :Str),.v (.list ((List.range m).map vf))),(("draw" :Str),.v (.int draw)),(("truths" :Str),.v (.bool tr)),(("fixed" :Str),.v (.bool fx))]
theorem y5(Z:Std c)(hc:c.clean=true){tr fx s:Bool}{draw:Int}{vf:Nat->AV}{ns:Nat->Int}(hv:∀i,i<m->GH (vf i) (ns i))(hx:fx=true->tr=false)(hm:0<m/\m<=100)(hb:b.length+15+m*8<=65000)(hf:∀i,i<m->du s (ns i) 3)
  (q:∀(e b2:Nat) b',e<=3->(fx=false->2^e<=b2/\cX b' (b2-2^e) (2^e) m)->Pre b b'->b'.length<=b.length+15+m*8->b2+2^e*m=b'.length->(∀i,i<m->du s (ns i) e/\cX b' (b2+i*2^e) (2^e) (ns i%2^(8*2^e)))->
   Q (tup (bif tr then 36 else bif fx then 16+3*((m:Int)-2)+(bif s then 0 else 1)else bif s then 11 else 12) b2 e false) ⟨some b',dr,sf⟩):
  ev c T0 (n+1) 57 (.B (aq (D1 35)) (List.drop 3 (bodyOf (D1 35))) (EY vf m draw tr fx++[(("signed" :Str),.v (.bool s))]) ⟨⟨some b,dr,sf⟩,[]⟩ (dk Q) (λq0 S=>X S.sh)):=by
 have r0:=Int.emod_nonneg (draw/6) (show(4:Int)≠0 by decide)
 have r1:=Int.emod_lt_of_pos (draw/6) (show(0:Int)<4 by decide)
 have lv:((List.range m).map vf).length=m:=by rw[List.length_map,List.length_range]
 refine dW (k:=53) 3 rfl λPP hP=>?_
 have zq0:(List.map vf (List.range m)).length<16777216:=by exact uB 0x80000020488600087ff800006440000c hm.2 lv
 walk_at"ev"
 refine gz (λj v=>∃e:Nat,v=.int e/\e<=3/\du s (ns j) e) _ (λj a K ja k=>?_) λvs hl hw=>?_
 ·obtain⟨hj,rfl⟩:=aL ja
  have hvj:=hv j hj
  generalize vf j=v at hvj
  rcases hvj with rfl|⟨r,rfl,hr⟩
  ·walk_at"ev"
   exact dK Z (hf j hj) λe he hfe=>k _ ⟨e,rfl,he,hfe⟩
  ·walk_at"ev"
   rw[<-hr]
   exact dK Z (hf j hj) λe he hfe=>k _ ⟨e,rfl,he,hfe⟩
 rw[lv]at hl
 have hvl:vs.length<=1000:=by exact uB 0x1f421000087ff800006440000c hm.2 hl
 obtain⟨L,e,e1,e2,e3,he,hfe⟩:=widths hl hw r0 r1
 have zq0:vs.length<=16777216:=by exact uB 0x80000021000087ff800006440000c hm.2 hl
 walk_at"ev"
 refine And.intro (show vs.length+1<=16777216 by exact uB 0x80000020488600087ff800006440000c hm.2 hl) ?_
 walk_at"ev"
 refine e1 _ ?_
 walk_at"ev"
 rw[e3]
 have p8:=a4 he
 have pm:m*2^e<=m*8:=Nat.mul_le_mul_left m p8
 refine dz Z hc (by exact uB 0x3d09001000007ef42100453c806c00c hb) he λb1 P1 z1 z2=>?_
 have go:∀b2,Pre b1 b2->b2.length<=b1.length+2^e->(fx=false->2^e<=b2.length/\cX b2 (b2.length-2^e) (2^e) m)->PP (EY vf m draw tr fx++[(("signed" :Str),.v (.bool s)),(("exp" :Str),.v (.int e))]) ⟨⟨some b2,dr,sf⟩,[]⟩:=λb2 P2 l2 h2=>by
  refine hP _ _ ?_
  have P12:=P1.trans P2
  have zq0:b2.length<=16777216:=by exact uE 0x400000120040c3400060e4033000610480018007ef42100453c806c00c hb p8 z2 l2
  have zq1:(List.map vf (List.range m)).length<16777216:=by exact uB 0x80000020488600087ff800006440000c hm.2 lv
  walk_at"ev"
  refine bR (λj S=>∃bj,S=⟨⟨some bj,dr,sf⟩,[]⟩/\Pre b2 bj/\bj.length=b2.length+j*2^e/\∀i,i<j->cX bj (b2.length+i*2^e) (2^e) (ns i%2^(8*2^e))) _ (λa=>rfl) _
   (λj a S K ja jj k1=>?_) (λS jj=>?_) _ ⟨b2,rfl,List.prefix_refl _,by exact Nat.le_antisymm (uB 0x1000400c00) (uB 0x20008018),λi hi=>absurd hi (Nat.not_lt_zero i)⟩
  ·obtain⟨hj,rfl⟩:=aL ja
   obtain⟨bj,rfl,j2,j3,j4⟩:=jj
   have mE:j*2^e+2^e<=m*2^e:=by have:=cU (w:=2^e) hj;rwa [Nat.mul_comm (2^e) m]at this
   have wr:∀K:Sh->Prop,(∀b',Pre b2 b'->b'.length=b2.length+(j+1)*2^e->(∀i,i<j+1->cX b' (b2.length+i*2^e) (2^e) (ns i%2^(8*2^e)))->K ⟨some b',dr,sf⟩)->ae c (n+1) 921 [.oct,.v (.int (ns j)),.v (.int e)] [] ⟨some bj,dr,sf⟩ (λav sh=>K sh) (λq0=>False):=λK k=>by
    refine gj Z hc (by exact nl [_,_,_,_,_,_,_,_] [] 0x1e8480098020a1c30031c206c1ffe5061a0003072019800304011480018007ef42100453c806c00c hb pm z2 l2 j3 mE) he λb' P l h4=>k b' (j2.trans P) (by rw[l,j3,Nat.add_mul];exact Nat.le_antisymm (uC 0x800304300c80800d8) (uC 0x80800d90006086018)) λi hi=>?_
    by_cases w:i<j
    ·exact(j4 i w).up P
    ·obtain rfl:i=j:=by exact Nat.le_antisymm (uB 0x2000048860900c00c hi) (uB 0x2000100000c (Nat.not_lt.mp w))
     rw[<-j3];exact h4
   have hvj:=hv j hj
   generalize vf j=v at hvj k1
   rcases hvj with rfl|⟨r,rfl,hr⟩
   ·walk_at"ev"
    exact wr _ λb' h1 h2 h3=>k1 _ ⟨b',rfl,h1,h2,h3⟩
   ·walk_at"ev"
    rw[<-hr]
    exact wr _ λb' h1 h2 h3=>k1 _ ⟨b',rfl,h1,h2,h3⟩
  ·rw[lv]at jj
   obtain⟨b3,rfl,j2,j3,j4⟩:=jj
   have q:=q e b2.length b3 he (λz=>⟨(h2 z).1,(h2 z).2.up j2⟩) (P12.trans j2) (by exact nl [_,_,_,_,_,_,_] [] 0x100229e5036c00850d83ffc00c3500060e5033000610022880030820000c p8 pm z2 l2 j3) (by rw[Nat.mul_comm];exact Nat.le_antisymm (uC 0x8086080860200e j3) (uC 0x4043000808601ffe j3)) λi hi=>⟨hfe i hi,j4 i hi⟩
   cases tr
   ·cases fx<;>cases s
    all_goals
     have zq0:(List.map vf (List.range m)).length<=16777216:=by exact uB 0x80000021000087ff800006440000c hm.2 lv
     walk_at"ev"
     try rw[lv]
     try rw[show(16+3*((m:Int)-2)+bif true then(0:Int)else 1)=16+3*((m:Int)-2)from Int.add_zero _]at q
     exact q
   ·cases fx
    ·walk_at"ev"
     exact q
    ·cases hx rfl
 cases fx
 ·have zq0:(List.map vf (List.range m)).length<=16777216:=by exact uB 0x80000021000087ff800006440000c hm.2 lv
  walk_at"ev"
  rw[lv]
  refine vA Z hc (by exact uC 0x3d090011003900c80018007ef42100453c806c00c hb z2) he (by exact uA 0x100000011) (by exact uA 0x40100000028016400006440000c hm.2) λb2 P2 l2 h2=>?_
  walk_at"ev"
  exact go b2 P2 (by exact uC 0x4043000808601ffe l2) λq0=>⟨by exact uC 0x20080860200e l2,by rw[show b2.length-2^e=b1.length by exact Nat.le_antisymm (uD 0x20c00040c37ff8808601ffe l2 (Nat.sub_add_cancel (n:=b2.length) (m:=2^e) (uC 0x20080860200e l2))) (uD 0x60400040c3803880860200e l2 (Nat.sub_add_cancel (n:=b2.length) (m:=2^e) (uC 0x20080860200e l2)))];exact h2⟩
 ·walk_at"ev"
  exact go b1 (List.prefix_refl _) (by exact uB 0x800c00) nofun
theorem mL(Z:Std c)(hc:c.clean=true){tr fx:Bool}{draw:Int}{vf:Nat->AV}{ns:Nat->Int}(hv:∀i,i<m->GH (vf i) (ns i))(hx:fx=true->tr=false)(hm:0<m/\m<=100)(hb:b.length+15+m*8<=65000)(hf:∀i,i<m->du true (ns i) 3)
  (q:∀(s:Bool) (e b2:Nat) b',e<=3->(fx=false->2^e<=b2/\cX b' (b2-2^e) (2^e) m)->Pre b b'->b'.length<=b.length+15+m*8->b2+2^e*m=b'.length->(∀i,i<m->du s (ns i) e/\cX b' (b2+i*2^e) (2^e) (ns i%2^(8*2^e)))->
   Q (tup (bif tr then 36 else bif fx then 16+3*((m:Int)-2)+(bif s then 0 else 1)else bif s then 11 else 12) b2 e false) ⟨some b',dr,sf⟩):
  ev c T0 (n+1) 58 (.B (aq (D1 35)) (List.drop 2 (bodyOf (D1 35))) (EY vf m draw tr fx) ⟨⟨some b,dr,sf⟩,[]⟩ (dk Q) (λq0 S=>X S.sh)):=by
 have lv:((List.range m).map vf).length=m:=by rw[List.length_map,List.length_range]
 have ln:((List.range m).map ns).length=m:=by rw[List.length_map,List.length_range]
 have nonneg:¬F0 ((List.range m).map ns)<0->∀i,i<m->0<=ns i:=λw i hi=>by
  have:=AI (L:=(List.range m).map ns) (y:=ns i) (List.mem_map.mpr ⟨i,List.mem_range.mpr hi,rfl⟩)
  exact uJ 0x2000000044400003400000000800d (Int.not_lt.mp w) this
 have hne:=DU ln hm.1
 refine dW (k:=56) 1 rfl λPP hP=>?_
 have go:∀s,(∀i,i<m->du s (ns i) 3)->PP (EY vf m draw tr fx++[(("signed" :Str),.v (.bool s))]) ⟨⟨some b,dr,sf⟩,[]⟩:=λs h=>hP _ _ (y5 Z hc hv hx hm hb h (q s))
 walk_at"ev"
 refine gz (λj v=>v=.int (ns j)) _ (λj a K ja k=>?_) λvs hl hw=>?_
 ·obtain⟨hj,rfl⟩:=aL ja
  have hvj:=hv j hj
  generalize vf j=v at hvj
  rcases hvj with rfl|⟨r,rfl,hr⟩
  ·walk_at"ev"
   exact k _ rfl
  ·walk_at"ev"
   rw[<-hr]
   exact k _ rfl
 obtain rfl:vs=((List.range m).map ns).map .int:=List.ext_getElem? λi=>by
  rw[lv]at hl
  by_cases hi:i<m
  ·rw[List.getElem?_eq_getElem (by lia),hw i _ (List.getElem?_eq_getElem (by lia)),List.getElem?_map,List.getElem?_map,List.getElem?_range hi];rfl
  ·rw[List.getElem?_eq_none (by exact uC 0x4000202000c1001ffe hl (Nat.not_lt.mp hi)),List.getElem?_eq_none (by rw[List.length_map,ln];exact uB 0x2000100000c (Nat.not_lt.mp hi))]
 refine And.intro (by rw[List.length_map,ln];exact uA 0x800000200000006440000c hm.2) ?_
 walk_at"ev"
 refine bK _ _ ?_
 walk_at"ev"
 refine aD (λw=>?_) (λw=>?_)
 ·rw[w]
  walk_at"ev"
  exact go true hf
 ·walk_at"ev"
  exact go _ λi hi=>(hf i hi).pos (nonneg (of_decide_eq_false w) i hi) _
theorem wk(Z:Std c)(hc:c.clean=true){ns:Nat->Int}{draw:Int}(hm:0<m/\m<=100)(hb:b.length+15+m*8<=65000)(hf:∀i,i<m->du true (ns i) 3)
  (q:∀k x e b',Pre b b'->b'.length<=b.length+15+m*8->aR (d+1) b' (.list ((List.range m).map λi=>.int (ns i))) k x e false->Q (tup k x e false) ⟨some b',dr,sf⟩):
  ae c (n+2) 961 [.oct,.v (.list ((List.range m).map λi=>.int (ns i))),.v (.int draw)] [] ⟨some b,dr,sf⟩ Q X:=by
 have lv:((List.range m).map λj=>AV.int (ns j)).length=m:=by rw[List.length_map,List.length_range]
 have lm:((m:Int)<=4)=(((List.range m).map λj=>AV.int (ns j)).length<=(4:Int)):=by rw[lv]
 refine Z.call (f:=961) rfl rfl rfl ?_
 refine dW (k:=57) 2 rfl λPP hP=>?_
 have t0:PP (EY (λi=>.int (ns i)) m draw false false) ⟨⟨some b,dr,sf⟩,[]⟩:=hP _ _ (mL Z hc (λi q0=>.inl rfl) nofun hm hb hf λs e b2 b' he h P l e1 h2=>q _ _ _ b' P l (FN s he (h rfl).1 hm.1 (by exact uA 0x7a120200000006440000c hm.2) (h rfl).2 (by exact uC 0x404006080800dffe e1) h2))
 have t1:2<=m/\m<=4->PP (EY (λi=>.int (ns i)) m draw false true) ⟨⟨some b,dr,sf⟩,[]⟩:=λh24=>hP _ _ (mL Z hc (λi q0=>.inl rfl) (λq0=>rfl) hm hb hf λs e b2 b' he q0 P l e1 h2=>q _ _ _ b' P l (G5 s he h24 (by exact uC 0x404006080800dffe e1) h2))
 have zq0:(List.map (λi=>AV.int (ns i)) (List.range m)).length<=16777216:=by exact uB 0x80000021000087ff800006440000c hm.2 lv
 walk_at"ev"
 rw[n7 hm.1]
 have zq0:(List.map (λi=>AV.int (ns i)) (List.range m)).length<=16777216:=by exact uB 0x80000021000087ff800006440000c hm.2 lv
 walk_at"ev"
 by_cases h2:2<=m
 ·by_cases h4:m<=4
  ·walk_at"ev"
   refine aD (λw=>?_) (λw=>?_)
   ·walk_at"ev"
    exact t1 ⟨h2,h4⟩
   ·rw[w]
    exact t0
  ·walk_at"ev"
   rw[show decide ((((List.range m).map λj=>AV.int (ns j)).length :Int)<=4)=false from decide_eq_false (by exact Int.not_le.mpr (uB 0x40000014000002264402442c00c100200e lv (Nat.not_le.mp h4)))]
   exact t0
 ·walk_at"ev"
  exact t0
theorem wG(Z:Std c)(hc:c.clean=true){bs:Nat->Bool}{draw:Int}(hm:0<m/\m<=100)(hb:b.length+15+m*8<=65000)
  (q:∀k x e b',Pre b b'->b'.length<=b.length+15+m*8->aR (d+1) b' (.list ((List.range m).map λi=>.bool (bs i))) k x e false->Q (tup k x e false) ⟨some b',dr,sf⟩):
  ae c (n+2) 961 [.oct,.v (.list ((List.range m).map λi=>.bool (bs i))),.v (.int draw)] [] ⟨some b,dr,sf⟩ Q X:=by
 have lv:((List.range m).map λj=>AV.bool (bs j)).length=m:=by rw[List.length_map,List.length_range]
 have hf:∀i,i<m->du true (bif bs i then(1:Int)else 0) 3:=λi q0=>by
  show 0-(2:Int)^(8*2^3-1)<=_/\_<(2:Int)^(8*2^3-1)
  cases bs i<;>decide
 refine Z.call (f:=961) rfl rfl rfl ?_
 refine dW (k:=57) 2 rfl λPP hP=>?_
 have t0:PP (EY (λi=>.bool (bs i)) m draw true false) ⟨⟨some b,dr,sf⟩,[]⟩:=hP _ _ (mL Z hc (λi q0=>.inr ⟨_,rfl,rfl⟩) nofun hm hb hf λs e b2 b' he h P l e1 h2=>q _ _ _ b' P l (FD he (h rfl).1 hm.1 (by exact uA 0x7a120200000006440000c hm.2) (h rfl).2 (by exact uC 0x404006080800dffe e1) λi hi=>by
  have hh:=(h2 i hi).2
  rwa [ny e (by cases bs i<;>decide) (by cases bs i<;>decide)]at hh))
 have zq0:(List.map (λi=>AV.bool (bs i)) (List.range m)).length<=16777216:=by exact uB 0x80000021000087ff800006440000c hm.2 lv
 walk_at"ev"
 rw[n7 hm.1]
 have zq0:(List.map (λi=>AV.bool (bs i)) (List.range m)).length<=16777216:=by exact uB 0x80000021000087ff800006440000c hm.2 lv
 walk_at"ev"
 by_cases h2:2<=m
 ·by_cases h4:m<=4
  ·walk_at"ev"
   refine aD (λw=>?_) (λw=>?_)
   ·walk_at"ev"
    exact t0
   ·rw[w]
    exact t0
  ·walk_at"ev"
   rw[show decide ((((List.range m).map λj=>AV.bool (bs j)).length :Int)<=4)=false from decide_eq_false (by exact Int.not_le.mpr (uB 0x40000014000002264402442c00c100200e lv (Nat.not_le.mp h4)))]
   exact t0
 ·walk_at"ev"
  exact t0
end
end
section
variable {c:Cx}{n:Nat}{sh:Sh}{Q:AV->Sh->Prop}{X:Sh->Prop}
theorem DE{x:Str}(h1:x.cps.toList.all c7=true)(h2:∀o∈aZ x,0<o.toNat/\o.toNat<128):j9 x:=λd md=>by
 have hd:c7 d=true:=List.all_eq_true.mp h1 d md
 have sub:∀o∈Str.utf8Of d,0<o.toNat/\o.toNat<128:=λo mo=>h2 o (List.mem_flatMap.mpr ⟨d,md,mo⟩)
 unfold c7 at hd
 simp only[Bool.or_eq_true]at hd
 rcases hd with((hd|hd)|hd)|hd
 ·have hd:=Nat.blt_eq.mp hd
  have:=sub d.toUInt8 (by unfold Str.utf8Of;rw[if_pos (by exact uA 0x40204806000008040900c00c hd)];exact .head _)
  have e:d.toUInt8.toNat=d:=by show d%256=d;exact Nat.mod_eq_of_lt (by exact uA 0x80204806000008040900c00c hd)
  rw[e]at this;exact this
 ·have hd:=Nat.eq_of_beq_eq_true hd;subst hd
  exact absurd (sub 0xC3 (by decide)).2 (by decide)
 ·have hd:=Nat.eq_of_beq_eq_true hd;subst hd
  exact absurd (sub 0xE6 (by decide)).2 (by decide)
 ·have hd:=Nat.eq_of_beq_eq_true hd;subst hd
  exact absurd (sub 0xE6 (by decide)).2 (by decide)
theorem bo:∀(L:List Bool) (K:List Bool->Prop),K L->boolsOf (L.map .bool) K
 | [],_,k=>k
 | x::r,K,k=>bo r (λl=>K (x::l)) k
theorem sv(Z:Std c){x:Str}(h1:x.cps.toList.all c7=true)(h2:(aZ x).length<=1000000)(q:∀r,(r=true->(aZ x).length<41/\j9 x)->Q (.bool r) sh):ae c (n+1) 966 [.v (.str x)] [] sh Q X:=by
 refine Z.call (f:=966) rfl rfl rfl ?_
 walk_at"ev"
 refine aD (λw=>?_) (λw=>?_)
 ·have w:=of_decide_eq_true w
  walk_at"ev"
  walk_at"ev"
  refine bx (λa=>match a with|.int o=>.bool (decide (0<o)&&decide (o<128))|a=>a) _ (λa ha K k=>?_) ?_
  ·obtain⟨o,ho,rfl⟩:=List.mem_map.mp ha
   have k:K (.v (.bool (decide (0<(o.toNat:Int))&&decide ((o.toNat:Int)<128)))) _:=k
   walk_at"ev"
   refine aD (λw=>?_) (λw=>?_)
   ·rw[w]at k
    walk_at"ev"
    exact k
   ·rw[w]at k
    walk_at"ev"
    exact k
  ·rw[List.map_map]
   rw[show List.map _ (aZ x)=((aZ x).map λo=>decide (0<(o.toNat:Int))&&decide ((o.toNat:Int)<128)).map .bool from by rw[List.map_map];rfl]
   refine And.intro (by rw[List.length_map,List.length_map];lia) ?_
   walk_at"ev"
   refine bo _ _ ?_
   walk_at"ev"
   refine q _ λe=>⟨by lia,DE h1 λo mo=>?_⟩
   have:=List.all_eq_true.mp e _ (List.mem_map_of_mem (f:=λo:UInt8=>decide (0<(o.toNat:Int))&&decide ((o.toNat:Int)<128)) mo)
   simp only[id,Bool.and_eq_true,decide_eq_true_eq]at this
   exact⟨uA 0x900b000800000280000004c00d this.1,uA 0x20102403000004020000005002c00d this.2⟩
 ·rw[w]
  exact q _ (λz=>by cases z)
end
section
variable {c:Cx}{n:Nat}{sh:Sh}{Q:AV->Sh->Prop}{X:Sh->Prop}
section
variable {b b1:List UInt8}{dr:Option (List Int)}{sf:Option (List (Str×AV))}{d m:Nat}{ns:Nat->Str}{draw:Int}{ps:List Nat}
noncomputable abbrev oO(m:Nat)(ns:Nat->Str):AV:=.list ((List.range m).map λi=>.str (ns i))
noncomputable abbrev bX(ps:List Nat):List AV:=ps.map λ(p:Nat)=>.int p
theorem pk{ps:List Nat}{i:Nat}{a:AV}(h:(bX ps)[i]? =some a):∃p:Nat,ps[i]? =some p/\a=.int p:=by
 rw[List.getElem?_map]at h
 obtain⟨p,hp,rfl⟩:=Option.map_eq_some_iff.mp h
 exact⟨p,hp,rfl⟩
theorem qa(Z:Std c)(hc:c.clean=true)(hm:0<m/\m<=100)(hps:ps.length=m)(hb:b1.length+15+m*8<=65000)(hp:∀(i p:Nat),ps[i]? =some p->p<=b1.length)
  (q:∀(e st:Nat) b',e<=3->2^e<=st->st<=b'.length->Pre b1 b'->b'.length<=b1.length+15+m*8->cX b' (st-2^e) (2^e) m->(∀(i p:Nat),ps[i]? =some p->cX b' (st+i*2^e) (2^e) ((st+i*2^e:Nat)-(p:Int)))->
   Q (tup (14+draw/3%2) st e false) ⟨some b',dr,sf⟩):
  ev c T0 (n+1) 58 (.B (aq (D1 37)) (List.drop 2 (bodyOf (D1 37))) [(("octets" :Str),.oct),(("values" :Str),.v (oO m ns)),(("draw" :Str),.v (.int draw)),(("places" :Str),.loc 0)]
   ⟨⟨some b1,dr,sf⟩,[.list (bX ps)]⟩ (dk Q) (λq0 S=>X S.sh)):=by
 have lv:((List.range m).map λi=>AV.str (ns i)).length=m:=by rw[List.length_map,List.length_range]
 have lp:(bX ps).length=m:=by rw[List.length_map,hps]
 have r0:=Int.emod_nonneg (draw/24) (show(3:Int)≠0 by decide)
 have r1:=Int.emod_lt_of_pos (draw/24) (show(0:Int)<3 by decide)
 refine bp λGG1 hG1=>?_
 obtain⟨e,he,e1,e3⟩:∃e:Nat,1+draw/24%3=e/\1<=e/\e<=3:=⟨(1+draw/24%3).toNat,by exact Int.le_antisymm (uK 0x2000000014c800000005300600f (cV (1+draw/24%3) (uI 0x14c0000004400000000800d r0))) (uK 0x530048000000053005fff (cV (1+draw/24%3) (uI 0x14c0000004400000000800d r0))),by exact uK 0x90000000014c01803c00000000800d r0 (cV (1+draw/24%3) (uI 0x14c0000004400000000800d r0)),by exact uK 0xc800000000014c017ffc0000034000000a00c00d (gH (draw/24) 3 rfl) (cV (1+draw/24%3) (uI 0x14c0000004400000000800d (jm (draw/24) 3 rfl)))⟩
 refine hG1 ?_
 have p8:=a4 e3
 have pm:m*2^e<=m*8:=Nat.mul_le_mul_left m p8
 walk_at"ev"
 rw[he]
 refine dz Z hc (by exact uB 0x3d09001000007ef42100453c806c00c hb) e3 λb2 P1 z1 z2=>?_
 have zq0:(List.map (λi=>AV.str (ns i)) (List.range m)).length<=16777216:=by exact uB 0x80000021000087ff800006440000c hm.2 lv
 walk_at"ev"
 rw[lv]
 refine cj Z hc (by exact uC 0x3d090011003900c80018007ef42100453c806c00c hb z2) e3 e1 (by exact uA 0x100000011) (by exact uA 0x4000100000028016400006440000c hm.2) λb3 P2 l2 h2=>?_
 have zq0:b3.length<=16777216:=by exact uE 0x400000120040c340fff0e4033000610480018007ef42100453c806c00c hb p8 z2 l2
 have zq1:(bX ps).length<16777216:=by exact uB 0x80000020488600087ff800006440000c hm.2 lp
 walk_at"ev"
 refine bR (λj S=>∃bj,S=⟨⟨some bj,dr,sf⟩,[]⟩/\Pre b3 bj/\bj.length=b3.length+j*2^e/\∀(i p:Nat),i<j->ps[i]? =some p->cX bj (b3.length+i*2^e) (2^e) ((b3.length+i*2^e:Nat)-(p:Int))) _ (λa=>rfl) _
  (λj a S K ja jj k1=>?_) (λS jj=>?_) _ ⟨b3,rfl,List.prefix_refl _,by exact Nat.le_antisymm (uB 0x1000400c00) (uB 0x20008018),λi p hi=>absurd hi (Nat.not_lt_zero i)⟩
 ·refine bp λGG2 hG2=>?_
  obtain⟨pl,hpl,rfl⟩:=pk ja
  have hj:j<m:=by have:=(List.getElem?_eq_some_iff.mp hpl).1;exact uC 0x2012418000920c00c1001ffe hps this
  have hle:=hp j pl hpl
  obtain⟨bj,rfl,j2,j3,j4⟩:=jj
  refine hG2 ?_
  have mE:j*2^e+2^e<=m*2^e:=by have:=cU (w:=2^e) hj;rwa [Nat.mul_comm (2^e) m]at this
  have zq0:bj.length<=16777216:=by exact nl [_,_,_,_,_,_,_,_] [] 0x200000098020a1c30031c206c1ffe5061a07ff872019800304011480018007ef42100453c806c00c hb pm z2 l2 j3 mE
  walk_at"ev"
  refine cj Z hc (by exact nl [_,_,_,_,_,_,_,_] [] 0x1e8480098020a1c30031c206c1ffe5061a07ff872019800304011480018007ef42100453c806c00c hb pm z2 l2 j3 mE) e3 e1 (by exact nl [_,_,_,_,_,_,_] [] 0x202a0e000000116041a880380200030c0864200e100000c z1 l2 hle j3) (by exact nl [_,_,_,_,_,_,_,_,_] [] 0x200008000001500b039920a1c30031c206c1ffe5061a07ff872019800304011480018007ef42100453c806c00c hb pm z2 l2 j3 mE) λb' P l h4=>?_
  walk_at"ev"
  refine k1 _ ⟨b',rfl,j2.trans P,by rw[l,j3,Nat.add_mul];exact Nat.le_antisymm (uC 0x800304300c80800d8) (uC 0x80800d90006086018),λi p hi hip=>?_⟩
  by_cases w:i<j
  ·exact(j4 i p w hip).up P
  ·obtain rfl:i=j:=by exact Nat.le_antisymm (uB 0x2000048860900c00c hi) (uB 0x2000100000c (Nat.not_lt.mp w))
   rw[hpl]at hip;cases hip
   rw[<-j3];exact h4
 ·rw[lp]at jj
  refine bp λGG3 hG3=>?_
  obtain⟨b4,rfl,j2,j3,j4⟩:=jj
  refine hG3 ?_
  walk_at"ev"
  exact q e b3.length b4 e3 (by exact uC 0x20080860200e l2) j2.len (P1.trans (P2.trans j2)) (by exact nl [_,_,_,_,_,_,_] [] 0x100229e5036c00850d83ffc00c350fff0e5033000610022880030820000c p8 pm z2 l2 j3) (by rw[show b3.length-2^e=b2.length by exact Nat.le_antisymm (uD 0x20c00040c37ff8808601ffe l2 (Nat.sub_add_cancel (n:=b3.length) (m:=2^e) (uC 0x20080860200e l2))) (uD 0x60400040c3803880860200e l2 (Nat.sub_add_cancel (n:=b3.length) (m:=2^e) (uC 0x20080860200e l2)))];exact h2.up j2) λi p hip=>j4 i p (by have:=(List.getElem?_eq_some_iff.mp hip).1;exact uC 0x2012418000920c00c1001ffe hps this) hip
theorem rU{ps:List Nat}{j x:Nat}{P:Nat->Nat->Prop}(l:ps.length=j)(h:∀i p:Nat,ps[i]? =some p->P i p)(hx:P j x):∀i p:Nat,(ps++[x])[i]? =some p->P i p:=λi p hip=>by
 by_cases w:i<ps.length
 ·rw[List.getElem?_append_left w]at hip;exact h i p hip
 ·have hlt:=(List.getElem?_eq_some_iff.mp hip).1
  rw[List.length_append]at hlt
  have hlt:i<ps.length+1:=hlt
  obtain rfl:i=ps.length:=by exact Nat.le_antisymm (uB 0x2000048860900c00c hlt) (uB 0x2000100000c (Nat.not_lt.mp w))
  rw[List.getElem?_append_right (Nat.le_refl _),Nat.sub_self]at hip
  cases hip;rw[l];exact hx
theorem lu(ps:List Nat)(x:Nat):bX ps++[.int x]=bX (ps++[x]):=by unfold bX;rw[List.map_append];rfl
theorem Lies.new(b c:List UInt8):Lies (b++c) b.length c:=⟨by rw[List.length_append];exact Nat.le_refl _,by have:=yw b c [];rwa [List.append_nil]at this⟩
theorem Ah(Z:Std c)(hc:c.clean=true)(hm:0<m/\m<=100)(hb:b.length+15+m*65<=65000)(hx:∀i,i<m->j9 (ns i)/\(aZ (ns i)).length<=41)
  (q:∀k x e b',Pre b b'->b'.length<=b.length+15+m*65->aR (d+1) b' (oO m ns) k x e false->Q (tup k x e false) ⟨some b',dr,sf⟩):
  ae c (n+3) 973 [.oct,.v (oO m ns),.v (.int draw)] [] ⟨some b,dr,sf⟩ Q X:=by
 have lv:((List.range m).map λi=>AV.str (ns i)).length=m:=by rw[List.length_map,List.length_range]
 have r0:=Int.emod_nonneg (draw/3) (show(2:Int)≠0 by decide)
 have r1:=Int.emod_lt_of_pos (draw/3) (show(0:Int)<2 by decide)
 have s0:=Int.emod_nonneg (draw/6) (show(4:Int)≠0 by decide)
 have s1:=Int.emod_lt_of_pos (draw/6) (show(0:Int)<4 by decide)
 refine bp λGG1 hG1=>?_
 obtain⟨e6,he6,e63⟩:∃e:Nat,draw/6%4=e/\e<=3:=⟨(draw/6%4).toNat,by exact Int.le_antisymm (uK 0x2008000600f (cV (draw/6%4) (uI 0x4400000000800d s0))) (uK 0x480005fff (cV (draw/6%4) (uI 0x4400000000800d s0))),by exact uK 0xc80000017ffc0000044000000a00c00d (gH (draw/6) 4 rfl) (cV (draw/6%4) (uI 0x4400000000800d (jm (draw/6) 4 rfl)))⟩
 refine hG1 ?_
 have p8:=a4 e63
 refine Z.call (f:=973) rfl rfl rfl ?_
 refine dW (k:=57) 2 rfl λPP hP=>?_
 have zq0:(List.map (λi=>AV.str (ns i)) (List.range m)).length<16777216:=by exact uB 0x80000020488600087ff800006440000c hm.2 lv
 walk_at"ev"
 refine bR (λj S=>∃bj ps,S=⟨⟨some bj,dr,sf⟩,[.list (bX ps)]⟩/\Pre b bj/\bj.length<=b.length+j*57/\ps.length=j/\∀(i p:Nat),ps[i]? =some p->p<=bj.length/\Lies bj p (aY (ns i)++[0])) _ (λa=>rfl) _
  (λj a S K ja jj k1=>?_) (λS jj=>?_) _ ⟨b,[],rfl,List.prefix_refl _,by exact uA 0x39200400c00,rfl,λi p h=>by cases h⟩
 ·refine bp λGG2 hG2=>?_
  obtain⟨hj,rfl⟩:=aL ja
  obtain⟨bj,ps,rfl,j2,j3,j4,j5⟩:=jj
  obtain⟨hasc,hlen⟩:=hx j hj
  refine hG2 ?_
  rw[fM hasc.all]at hlen
  have hlen2:(ns j).cps.toList.length<=41:=by have:(aY (ns j)).length=_:=List.length_map ..;lia
  have lpj:(bX ps).length<=100:=by rw[List.length_map];exact uC 0x3222004107ff8002443003000006440000c hm.2 hj j4
  have step:∀(b':List UInt8) (p:Nat),Pre bj b'->b'.length<=bj.length+57->p<=b'.length->Lies b' p (aY (ns j)++[0])->∃b2 p2,⟨⟨some b',dr,sf⟩,[.list (bX ps++[.int p])]⟩=(⟨⟨some b2,dr,sf⟩,[.list (bX p2)]⟩:St)/\Pre b b2/\b2.length<=b.length+(j+1)*57/\p2.length=j+1/\∀(i p:Nat),p2[i]? =some p->p<=b2.length/\Lies b2 p (aY (ns i)++[0]):=λb' p P l hp hl=>by
   exact⟨b',ps++[p],by rw[lu],j2.trans P,by rw[Nat.add_mul];exact uD 0xe4803080735886607240330006100e68860000c j3 l,by rw[List.length_append,j4];rfl,rU j4 (λi p' h=>⟨Nat.le_trans (j5 i p' h).1 P.len,(j5 i p' h).2.up P⟩) ⟨hp,hl⟩⟩
  have l0:(aY (ns j)++[(0:UInt8)]).length<=42:=by rw[List.length_append];show(aY (ns j)).length+1<=42;exact uA 0x151048062920000c hlen
  by_cases hk:draw/3%2=0
  ·have zq0:bj.length<=16777216:=by exact uD 0x20000008c0201cd00cc00182012418398007ef421020d3c806c00c hb hj j3
   have zq1:(bX ps).length<16777216:=by exact uA 0x800000204806000006440000c lpj
   walk_at"ev"
   refine Gd.i hasc.all ?_
   have zq0:(ns j).cps.toList.length<=16777216:=by exact uA 0x8000002002920000c hlen2
   walk_at"ev"
   refine And.intro (show(aY (ns j)).length+1<=16777216 by exact uA 0x8000002048062920000c hlen) ?_
   have zq0:bj.length+(aY (ns j)++[0]).length<16777216:=by exact uE 0x200000081280c362a28000c201cd00cc00182012418398007ef421020d3c806c00c hb hj j3 l0
   walk_at"ev"
   exact k1 _ (step _ _ (Pre.app _ _) (by rw[List.length_append];exact uB 0x1c910c00862a20000c l0) (by rw[List.length_append];exact uB 0x800c00) (.new _ _))
  ·walk_at"ev"
   refine Gd.i hasc.all ?_
   have zq0:(ns j).cps.toList.length<=16777216:=by exact uA 0x8000002002920000c hlen2
   walk_at"ev"
   rw[he6]
   refine iD Z hc (by exact uD 0x1c9c3808c0201cd00cc00182012418398007ef421020d3c806c00c hb hj j3) (by exact uA 0x75302002920000c hlen) e63 λz hz=>?_
   have ll:(bj++List.replicate z 0++leB (2^e6) ((aY (ns j)).length%2^(8*2^e6))++aY (ns j)).length=bj.length+z+2^e6+(aY (ns j)).length:=by
    rw[List.length_append,List.length_append,List.length_append,List.length_replicate,aW]
   have l4:(bj++List.replicate z 0++leB (2^e6) ((aY (ns j)).length%2^(8*2^e6))).length=bj.length+z+2^e6:=by
    rw[List.length_append,List.length_append,List.length_replicate,aW]
   have zq0:(bX ps).length<16777216:=by exact uA 0x800000204806000006440000c lpj
   walk_at"ev"
   refine And.intro (show List.length _+1<16777216 by rw[ll];exact nl [_,_,_,_,_,_,_] [] 0x20000008120950418206db6072c000ca4a80030c0734034000608049860e610480018007ef421020d3c806c00c hb p8 hj j3 hlen hz) ?_
   walk_at"ev"
   refine k1 _ (step _ _ (((Pre.app _ _).trans (Pre.app _ _)).trans ((Pre.app _ _).trans (Pre.app _ _))) (by rw[List.length_append,ll];show _+1<=_;exact uD 0x1c930c122001030db60724000ca4880030820000c p8 hlen hz) (by rw[List.length_append,ll];exact uE 0x80c101001b6c80800d8) ?_)
   rw[<-l4,List.append_assoc]
   exact .new _ _
 ·rw[lv]at jj
  refine bp λGG3 hG3=>?_
  obtain⟨b1,ps,rfl,j2,j3,j4,j5⟩:=jj
  refine hG3 ?_
  walk_at"ev"
  refine hP _ _ (qa (n:=n+1) (dr:=dr) (sf:=sf) (Q:=Q) (X:=X) (draw:=draw) (ns:=ns) (ps:=ps) Z hc hm j4 (by exact uC 0xfde842008a7920d8101cd00c80018007ef421020d3c806c00c hb j3) (λi p h=>(j5 i p h).1) λe st b' he h1 hst P l h2 h3=>
   q _ _ _ b' (j2.trans P) (by exact uD 0x80834f221b30080114f201b30006100e68860000c j3 l) (F5 (by lia) he h1 hm.1 (by exact uA 0x7a120200000006440000c hm.2) h2 hst λi hi=>by
    have hi':i<ps.length:=by exact uC 0x12418100920c00c100200e j4 hi
    refine bp λGG4 hG4=>?_
    obtain⟨hA,hL⟩:=hx i hi
    obtain⟨k1,k2⟩:=j5 i _ (List.getElem?_eq_getElem hi')
    refine hG4 ?_
    exact⟨ps[i],h3 i _ (List.getElem?_eq_getElem hi'),hA,k2.up P,by rw[fM hA.all]at hL;have:(aY (ns i)).length=_:=List.length_map ..;lia⟩))
end
end
section
variable {c:Cx}{n:Nat}{sh:Sh}{Q:AV->Sh->Prop}{X:Sh->Prop}
noncomputable def bI:Nat->(Nat->Nat)->Nat
 | 0,_=>0
 | m+1,cs=>bI m cs+cs m
inductive Tree:Nat->Nat->AV->Prop
 | nul {d}:Tree d 100 .none
 | boo {d} (b:Bool):Tree d 100 (.bool b)
 | int {d i} (h:du true i 3):Tree d 100 (.int i)
 | str {d x} (h:x.cps.toList.all c7=true) (h2:(aZ x).length<=1000):Tree d (100+(aZ x).length) (.str x)
 | byt {d l} (h:l.length<=1000):Tree d (100+l.length) (.oc false l)
 | list {d m} {vs:Nat->AV} {cs:Nat->Nat} (hm:m<=6) (h:∀i,i<m->Tree d (cs i) (vs i)):Tree (d+1) (100+bI m cs) (.list ((List.range m).map vs))
 | dict {d m} {ld:List (Str×AV)} {ns:Nat->Str} {vs:Nat->AV} {cs:Nat->Nat} (hm:m<=6) (hl:ld.length=m) (nd:(ld.map (·.1)).Nodup) (hs:a8 (ld.map (·.1))=(List.range m).map ns) (hv:∀i,i<m->a7 ld (ns i)=some (vs i))
  (hn:∀i,i<m->j9 (ns i)/\(ns i).cps.toList.length<=3) (h:∀i,i<m->Tree d (cs i) (vs i)):Tree (d+1) (100+bI m cs) (.dict ld)
theorem Tree.min{d c:Nat}{v:AV}(h:Tree d c v):100<=c:=by cases h<;>lia
theorem Tree.kd{d c:Nat}{v:AV}(h:Tree d c v):∃u,kd v=some u:=by cases h<;>exact⟨_,rfl⟩
theorem Tree.int_e{d c:Nat}{i:Int}(h:Tree d c (.int i)):du true i 3:=by cases h;assumption
theorem Tree.str_e{d c:Nat}{x:Str}(h:Tree d c (.str x)):x.cps.toList.all c7=true/\(aZ x).length<=1000:=by cases h;exact⟨by assumption,by assumption⟩
theorem jD{m:Nat}{cs:Nat->Nat}(h:∀i,i<m->100<=cs i):100*m<=bI m cs:=by
 induction m with
 | zero=>exact Nat.zero_le _
 | succ m ih=>have:=ih λi hi=>h i (by exact uB 0x910c12018100900c00c hi);have:=h m (by exact uA 0x900c12018);show 100*(m+1)<=bI m cs+cs m;lia
theorem Ax{j m:Nat}{cs:Nat->Nat}(h:j<=m):bI j cs<=bI m cs:=by
 induction m with
 | zero=>
  have:j=0:=by exact Nat.le_antisymm (uA 0x1000020000c h) (uA 0x8)
  subst this;exact Nat.le_refl _
 | succ m ih=>
  show bI j cs<=bI m cs+cs m
  by_cases w:j=m+1
  ·subst w;exact Nat.le_refl _
  ·have:=ih (by lia);exact uC 0x1010c00100000c this
theorem H4{m:Nat}{acc:List AV}{P:Nat->Int->Int->Nat->Bool->Prop}(hl:acc.length=m)(h:∀i,i<m->∃k x e inl,acc[i]? =some (tup k x e inl)/\P i k x e inl):
  ∃(ks xs:Nat->Int) (es:Nat->Nat) (inl:Nat->Bool),acc=(List.range m).map (λi=>tup (ks i) (xs i) (es i) (inl i))/\∀i,i<m->P i (ks i) (xs i) (es i) (inl i):=by
 have h':∀i,∃r:Int×Int×Nat×Bool,i<m->acc[i]? =some (tup r.1 r.2.1 r.2.2.1 r.2.2.2)/\P i r.1 r.2.1 r.2.2.1 r.2.2.2:=λi=>by
  by_cases hi:i<m
  ·refine bp λGG1 hG1=>?_
   obtain⟨k,x,e,inl,h1,h2⟩:=h i hi
   refine hG1 ?_
   exact⟨(k,x,e,inl),λq0=>⟨h1,h2⟩⟩
  ·exact⟨(0,0,0,true),λz=>absurd z hi⟩
 refine⟨λi=>(Classical.choose (h' i)).1,λi=>(Classical.choose (h' i)).2.1,λi=>(Classical.choose (h' i)).2.2.1,λi=>(Classical.choose (h' i)).2.2.2,?_,λi hi=>(Classical.choose_spec (h' i) hi).2⟩
 refine List.ext_getElem? λi=>?_
 by_cases hi:i<m
 ·rw[(Classical.choose_spec (h' i) hi).1,List.getElem?_map,List.getElem?_range hi];rfl
 ·rw[List.getElem?_eq_none (by exact uC 0x4000202000c1001ffe hl (Nat.not_lt.mp hi)),List.getElem?_eq_none (by rw[List.length_map,List.length_range];exact uB 0x2000100000c (Nat.not_lt.mp hi))]
noncomputable def pZ:AV->Bool
 |.tuple [_,_,_,.bool b]=>b
 | _=>false
noncomputable def p9:AV->AV
 |.tuple [_,_,e,_]=>e
 | a=>a
theorem sq{m:Nat}{ks xs:Nat->Int}{es:Nat->Nat}{inl:Nat->Bool}{r:Int}(he:∀i,i<m->es i<=3)(r0:0<=r)(r1:r<4):
  ∃(L:List Int) (E:Nat),(∀K:List Int->Prop,K L->intsOf ((List.append [] ((((List.range m).map λi=>tup (ks i) (xs i) (es i) (inl i)).filter pZ).map p9)).append [.int r]) K)/\best ie (1::L)=E/\1<=E/\E<=3/\∀i,i<m->inl i=true->es i<=E:=by
 have mem:∀v∈(((List.range m).map λi=>tup (ks i) (xs i) (es i) (inl i)).filter pZ).map p9,∃i,i<m/\v=.int (es i):=λv mv=>by
  obtain⟨t,mt,rfl⟩:=List.mem_map.mp mv
  obtain⟨i,hi,rfl⟩:=List.mem_map.mp (List.mem_filter.mp mt).1
  exact⟨i,List.mem_range.mp hi,rfl⟩
 obtain⟨L0,e0⟩:=oh λv mv=>by obtain⟨i,_,e⟩:=mem v mv;exact⟨_,e⟩
 have e1:[AV.int 1]++((((List.range m).map λi=>tup (ks i) (xs i) (es i) (inl i)).filter pZ).map p9)++[.int r]=([1]++L0++[r]).map .int:=by rw[e0,List.map_append,List.map_append];rfl
 have hne:[1]++L0++[r]≠[]:=by simp
 obtain⟨m1,m2⟩:=kK hne
 have h1:=m2 1 (by simp)
 have h3:best ie ([1]++L0++[r])<=3:=by
  rw[List.mem_append,List.mem_append]at m1
  rcases m1 with(m1|m1)|m1
  ·have:=List.mem_singleton.mp m1;exact uI 0x1a004000001401fff this
  ·obtain⟨i,hi,e⟩:=mem (.int (best ie ([1]++L0++[r]))) (by rw[e0];exact List.mem_map_of_mem m1)
   have:=iC e;have:=he i hi;lia
  ·have:=List.mem_singleton.mp m1;exact uJ 0x1a1040087ffc0000044000000a00c00d r1 this
 refine⟨_,(best ie ([1]++L0++[r])).toNat,λK k=>by
  have h:=bK (L0++[r]) K k
  rw[List.map_append,<-e0]at h
  exact h,(show best ie ([1]++L0++[r])=_ by exact Int.le_antisymm (uK 0x2008000600f (cV (best ie ([1]++L0++[r])) (uI 0x4400000002800d h1))) (uK 0x480005fff (cV (best ie ([1]++L0++[r])) (uI 0x4400000002800d h1)))),by exact uK 0x900001803c00000002800d h1 (cV (best ie ([1]++L0++[r])) (uI 0x4400000002800d h1)),by lia,λi hi hin=>?_⟩
 have:(es i:Int)∈L0:=by
  have:AV.int (es i)∈L0.map AV.int:=by
   rw[<-e0]
   exact List.mem_map.mpr ⟨tup (ks i) (xs i) (es i) (inl i),List.mem_filter.mpr ⟨List.mem_map.mpr ⟨i,List.mem_range.mpr hi,rfl⟩,hin⟩,rfl⟩
  obtain⟨y,hy,e⟩:=List.mem_map.mp this
  rw[<-iC e];exact hy
 have:=m2 (es i) (by simp[this])
 exact nl [_,_] [_] 0x800000830078000400d this (cV (best ie ([1]++L0++[r])) (uK 0x88000400d this))
def qK(c:Cx)(N d:Nat):Prop:=∀(v:AV) (cost:Nat) (b:List UInt8) (ns:List Int) (sf:Option (List (Str×AV))) (Q:AV->Sh->Prop) (X:Sh->Prop),Tree d cost v->b.length+cost<=63900->ns.length<=1000->
 (∀k x e inl b' ns',Pre b b'->b'.length+40<=b.length+cost->aR d b' v k x e inl->ns'.length<=1000->Q (tup k x e inl) ⟨some b',some ns',sf⟩)->ae c N 990 [.oct,.v v,.drw] [] ⟨some b,some ns,sf⟩ Q X
end
section
variable {c:Cx}{n:Nat}{sh:Sh}{Q:AV->Sh->Prop}{X:Sh->Prop}
section
variable {b:List UInt8}{ns0:List Int}{sf:Option (List (Str×AV))}{d m:Nat}{vs:Nat->AV}{cs:Nat->Nat}{draw:Int}
theorem Gw(L:qK c N d){f:fe->Prop}{sc:Scope}{x:Str}{elt:Expr}{ρ:aa}{l:List AV}{K:List AV->St->Prop}(hl:l.length=m)(hb:b.length+bI m cs<=63900)(hn:ns0.length<=1000)(ht:∀i,i<m->Tree d (cs i) (vs i))
  (step:∀j a (bj:List UInt8) (nj:List Int) (K:Op->St->Prop),j<m->l[j]? =some a->ae c N 990 [.oct,.v (vs j),.drw] [] ⟨some bj,some nj,sf⟩ (λav sh=>K (.v av) ⟨sh,[]⟩) (λq0=>False)->f (.E sc elt ((x,.v a)::ρ) ⟨⟨some bj,some nj,sf⟩,[]⟩ K iF))
  (done:∀(ks xs:Nat->Int) (es:Nat->Nat) (inl:Nat->Bool) b' ns',Pre b b'->b'.length+40*m<=b.length+bI m cs->ns'.length<=1000->(∀i,i<m->aR d b' (vs i) (ks i) (xs i) (es i) (inl i))->K ((List.range m).map λi=>tup (ks i) (xs i) (es i) (inl i)) ⟨⟨some b',some ns',sf⟩,[]⟩):
  eG f sc x [] elt ρ l ⟨⟨some b,some ns0,sf⟩,[]⟩ K:=by
 refine gY (λj acc S=>∃bj nj,S=⟨⟨some bj,some nj,sf⟩,[]⟩/\Pre b bj/\bj.length+40*j<=b.length+bI j cs/\nj.length<=1000/\acc.length=j/\∀i,i<j->∃k x e inl,acc[i]? =some (tup k x e inl)/\aR d bj (vs i) k x e inl) l 0
  (λj a S acc K ja jj k=>?_) [] (λvs' S jj=>?_) ⟨b,ns0,rfl,List.prefix_refl _,by exact uB 0x1001804288018,hn,rfl,λi hi=>absurd hi (Nat.not_lt_zero i)⟩
 ·obtain⟨bj,nj,rfl,P,h1,h2,h3,h4⟩:=jj
  rw[Nat.zero_add]at h1 h3 h4 k
  have hj:j<m:=by have:=(List.getElem?_eq_some_iff.mp ja).1;exact uC 0x2012418000920c00c1001ffe hl this
  have hT:=ht j hj
  have s1:bI (j+1) cs=bI j cs+cs j:=rfl
  have s2:=Ax (cs:=cs) (show j+1<=m from hj)
  have c100:=hT.min
  refine step j a bj nj K hj ja (L _ _ bj nj sf _ _ hT (by exact nl [_,_,_,_,_,_,_] [] 0x3e6713020c08500063040d4401c80033014420c00c003e6710800c00c hb h1 s1 s2) h2 λkk x e inl b' ns' P' hl hC hn'=>?_)
  refine k _ _ ⟨b',ns',rfl,P.trans P',by exact nl [_,_,_,_,_,_,_] [] 0x2020c12218511830a003a0b060062830d0401c60831014400c00c h1 s1 hl,hn',by rw[List.length_append,h3];rfl,λi hi=>?_⟩
  by_cases w:i<j
  ·obtain⟨k',x',e',i',h5,h6⟩:=h4 i w
   exact⟨k',x',e',i',by rw[List.getElem?_append_left (by exact uC 0x12418100920c00c100200e h3 w)];exact h5,h6.up P'⟩
  ·obtain rfl:i=j:=by exact Nat.le_antisymm (uB 0x2000048860900c00c hi) (uB 0x2000100000c (Nat.not_lt.mp w))
   exact⟨kk,x,e,inl,by rw[List.getElem?_append_right (by exact uB 0x20001001ffe h3),h3,Nat.sub_self];rfl,hC⟩
 ·obtain⟨b',ns',rfl,P,h1,h2,h3,h4⟩:=jj
  rw[List.nil_append]at h3 h4
  rw[Nat.zero_add,hl]at h1 h3 h4
  obtain⟨ks,xs,es,inl,rfl,hC⟩:=H4 (P:=λi k x e inl=>aR d b' (vs i) k x e inl) h3 h4
  exact done ks xs es inl b' ns' P h1 h2 hC
theorem zh(Z:Std c)(hc:c.clean=true)(L:qK c (n+5) d){tr nu:AV}(hm:m<=6)(hb:b.length+bI m cs<=63900)(hn:ns0.length<=1000)(ht:∀i,i<m->Tree d (cs i) (vs i))
  (q:∀k x e b' ns',Pre b b'->b'.length+40<=b.length+bI m cs+98->aR (d+1) b' (.list ((List.range m).map vs)) k x e false->ns'.length<=1000->Q (tup k x e false) ⟨some b',some ns',sf⟩):
  ev c T0 (n+5) 56 (.B (aq (D1 38)) (List.drop 4 (bodyOf (D1 38))) [(("octets" :Str),.oct),(("values" :Str),.v (.list ((List.range m).map vs))),(("draws" :Str),.drw),(("draw" :Str),.v (.int draw)),(("truths" :Str),.v tr),(("numbers" :Str),.v nu)]
   ⟨⟨some b,some ns0,sf⟩,[]⟩ (dk Q) (λq0 S=>X S.sh)):=by
 have lv:((List.range m).map vs).length=m:=by rw[List.length_map,List.length_range]
 have r0:=Int.emod_nonneg (draw/3) (show(4:Int)≠0 by decide)
 have r1:=Int.emod_lt_of_pos (draw/3) (show(0:Int)<4 by decide)
 have zq0:(List.map vs (List.range m)).length<16777216:=by exact uB 0x80000020488600087ff8620000c hm lv
 walk_at"ev"
 walk_at"ev"
 refine Gw L lv hb hn ht (λj a bj nj K hj ja k=>?_) λks xs es inl b' ns' P hl hn' hC=>?_
 ·refine bp λGG1 hG1=>?_
  obtain⟨_,rfl⟩:=aL ja
  refine hG1 ?_
  walk_at"ev"
  exact k
 refine bp λGG2 hG2=>?_
 obtain⟨Ls,E,e1,e3,E1,E3,hE⟩:=sq (m:=m) (ks:=ks) (xs:=xs) (es:=es) (inl:=inl) (λi hi=>(hC i hi).he) r0 r1
 refine hG2 ?_
 have lk:((List.range m).map λi=>tup (ks i) (xs i) (es i) (inl i)).length=m:=by rw[List.length_map,List.length_range]
 have lf:((((List.range m).map λi=>tup (ks i) (xs i) (es i) (inl i)).filter pZ).map p9).length<=6:=by rw[List.length_map];exact Nat.le_trans (List.length_filter_le _ _) (by exact uB 0x311000087ff8620000c hm lk)
 refine And.intro (by exact uB 0x80000021000087ff8620000c hm lk) ?_
 have zq0:(List.map (λi=>tup (ks i) (xs i) (es i) (inl i)) (List.range m)).length<16777216:=by exact uB 0x80000020488600087ff8620000c hm lk
 walk_at"ev"
 walk_at"ev"
 refine ni pZ p9 _ (λa ha K k=>?_) (λa ha hp K k=>?_) ?_
 ·refine bp λGG3 hG3=>?_
  obtain⟨i,hi,rfl⟩:=List.mem_map.mp ha
  refine hG3 ?_
  walk_at"ev"
  exact k
 ·refine bp λGG4 hG4=>?_
  obtain⟨i,hi,rfl⟩:=List.mem_map.mp ha
  refine hG4 ?_
  walk_at"ev"
  exact k
 refine And.intro (by exact uA 0x8000002000620000c lf) ?_
 walk_at"ev"
 refine And.intro (show 1+_<=16777216 by exact uA 0x8000002000960620000c lf) ?_
 walk_at"ev"
 refine And.intro (show([AV.int 1]++_:List AV).length+1<=16777216 by rw[List.length_append];show 1+_+1<=_;exact uA 0x8000002048004b60620000c lf) ?_
 walk_at"ev"
 refine e1 _ ?_
 walk_at"ev"
 rw[e3]
 have m9:=jD (m:=m) (cs:=cs) λi hi=>(ht i hi).min
 refine El Z hc ⟨E1,E3⟩ (by exact uA 0x1f42000620000c hm) (by exact uD 0x7ef42306008a411c906db020033014420c00c003e6710800c00c hb hl) ⟨hC,hE⟩ λk x e b2 P2 l2 C2=>?_
 walk_at"ev"
 exact q k x e b2 ns' (P.trans P2) (by exact uE 0xc48c106e828181004d3c806d0001860831014400c00c hl l2) C2 hn'
end
end
section
variable {c:Cx}{n:Nat}{sh:Sh}{Q:AV->Sh->Prop}{X:Sh->Prop}
noncomputable def w9(v:AV):Bool:=(kd v).elim false λu=>under u .bool
noncomputable def y8(v:AV):Bool:=(kd v).elim false λu=>under u .int&& !under u .bool
theorem EC{v:AV}{u:Ty}(h:kd v=some u):w9 v=under u .bool:=by unfold w9;rw[h];rfl
theorem Dm{v:AV}{u:Ty}(h:kd v=some u):y8 v=(under u .int&& !under u .bool):=by unfold y8;rw[h];rfl
theorem Dw{v:AV}{u:Ty}(h:kd v=some u)(k:under u .str=true):∃x,v=.str x:=by
 cases v with
 | oc b l=>cases b<;>cases h<;>cases k
 | str x=>exact⟨x,rfl⟩
 | _=>cases h<;>cases k
theorem tW:∀{vs:List AV},(∀v∈vs,∃i,v=.bool i)->∃L:List Bool,vs=L.map .bool:=by
 intro vs
 induction vs with
 | nil=>
  intro _
  exact⟨[],rfl⟩
 | cons v r ih=>
  intro h
  obtain⟨i,rfl⟩:=h v (.head _)
  obtain⟨L,rfl⟩:=ih λw m=>h w (.tail _ m)
  exact⟨i::L,rfl⟩
theorem lY{m:Nat}{p:Nat->Bool}(h:((List.range m).map p).all id=true){i:Nat}(hi:i<m):p i=true:=
 List.all_eq_true.mp h _ (List.mem_map_of_mem (List.mem_range.mpr hi))
theorem cq{m:Nat}{f g:Nat->AV}(h:∀i,i<m->f i=g i):(List.range m).map f=(List.range m).map g:=List.map_congr_left λi hi=>h i (List.mem_range.mp hi)
theorem bL(m:Nat)(f:Nat->AV):((List.range m).map f).isEmpty=decide (m=0):=by
 cases m with
 | zero=>rfl
 | succ m=>rw[List.range_succ_eq_map];rfl
section
variable {b:List UInt8}{ns0:List Int}{sf:Option (List (Str×AV))}{d m:Nat}{vs:Nat->AV}{cs:Nat->Nat}{draw:Int}
theorem FE(Z:Std c)(hc:c.clean=true)(L:qK c (n+5) d)(hm:m<=6)(hb:b.length+bI m cs<=63900)(hn:ns0.length<=1000)(ht:∀i,i<m->Tree d (cs i) (vs i))
  (q:∀k x e b' ns',Pre b b'->b'.length+40<=b.length+bI m cs+98->aR (d+1) b' (.list ((List.range m).map vs)) k x e false->ns'.length<=1000->Q (tup k x e false) ⟨some b',some ns',sf⟩):
  ae c (n+6) 978 [.oct,.v (.list ((List.range m).map vs)),.drw,.v (.int draw)] [] ⟨some b,some ns0,sf⟩ Q X:=by
 have lv:((List.range m).map vs).length=m:=by rw[List.length_map,List.length_range]
 have m9:=jD (m:=m) (cs:=cs) λi hi=>(ht i hi).min
 refine Z.call (f:=978) rfl rfl rfl ?_
 refine dW (k:=55) 4 rfl λPP hP=>?_
 have t:∀tr nu,PP [(("octets" :Str),.oct),(("values" :Str),.v (.list ((List.range m).map vs))),(("draws" :Str),.drw),(("draw" :Str),.v (.int draw)),(("truths" :Str),.v tr),(("numbers" :Str),.v nu)] ⟨⟨some b,some ns0,sf⟩,[]⟩:=λtr nu=>hP _ _ (zh (n:=n) (draw:=draw) (tr:=tr) (nu:=nu) Z hc L hm hb hn ht q)
 have zq0:(List.map vs (List.range m)).length<16777216:=by exact uB 0x80000020488600087ff8620000c hm lv
 walk_at"ev"
 walk_at"ev"
 refine bx (λa=>.bool (w9 a)) _ (λa ha K k=>?_) ?_
 ·obtain⟨i,hi,rfl⟩:=List.mem_map.mp ha
  obtain⟨u,e⟩:=(ht i (List.mem_range.mp hi)).kd
  walk_at"ev"
  rw[e]
  walk_at"ev"
  exact EC e▸k
 refine And.intro (by rw[List.length_map,lv];exact uA 0x8000002000620000c hm) ?_
 have zq0:(List.map vs (List.range m)).length<16777216:=by exact uB 0x80000020488600087ff8620000c hm lv
 walk_at"ev"
 walk_at"ev"
 refine bx (λa=>.bool (y8 a)) _ (λa ha K k=>?_) ?_
 ·obtain⟨i,hi,rfl⟩:=List.mem_map.mp ha
  obtain⟨u,e⟩:=(ht i (List.mem_range.mp hi)).kd
  rw[Dm e]at k
  walk_at"ev"
  rw[e]
  walk_at"ev"
  refine aD (λh=>?_) (λh=>?_)<;>rw[h]at k
  ·walk_at"ev"
   rw[e]
   walk_at"ev"
   exact k
  ·walk_at"ev"
   rw[h]
   exact k
 refine And.intro (by rw[List.length_map,lv];exact uA 0x8000002000620000c hm) ?_
 have zq0:(List.map vs (List.range m)).length<16777216:=by exact uB 0x80000020488600087ff8620000c hm lv
 walk_at"ev"
 rw[show List.map (λa=>AV.bool (w9 a)) ((List.range m).map vs)=((List.range m).map λi=>w9 (vs i)).map .bool by rw[List.map_map,List.map_map];rfl,
  show List.map (λa=>AV.bool (y8 a)) ((List.range m).map vs)=((List.range m).map λi=>y8 (vs i)).map .bool by rw[List.map_map,List.map_map];rfl,bL]
 by_cases hm0:m=0
 ·have zq0:m=0:=by exact Nat.le_antisymm (uA 0x10000201ffe hm0) (uA 0x8)
  have zq1:(List.map vs (List.range m)).length<16777216:=by exact uB 0x80000020480600221ffe1001ffe lv hm0
  walk_at"ev"
  rw[bL]
  have zq0:m=0:=by exact Nat.le_antisymm (uA 0x10000201ffe hm0) (uA 0x8)
  walk_at"ev"
  walk_at"ev"
  exact t _ _
 by_cases hD:draw%3=1
 ·walk_at"ev"
  refine bo _ _ ?_
  walk_at"ev"
  refine aD (λhA=>?_) (λhA=>?_)
  ·have hv:(List.range m).map vs=(List.range m).map λi=>.bool (match vs i with|.bool b=>b|_=>false):=cq λi hi=>by
    have:=lY hA hi
    generalize vs i=v at this ⊢
    cases v with
    | oc b l=>cases b<;>cases this
    | _=>first|rfl|cases this
   walk_at"ev"
   rw[hv]
   refine wG (d:=d) Z hc ⟨by lia,by exact uA 0x322000620000c hm⟩ (by lia) λk x e b' P l C=>?_
   rw[<-hv]at C
   walk_at"ev"
   exact q k x e b' ns0 P (by lia) C hn
  walk_at"ev"
  refine bo _ _ ?_
  walk_at"ev"
  refine aD (λhN=>?_) (λhN=>?_)
  ·have hv:(List.range m).map vs=(List.range m).map λi=>.int (match vs i with|.int b=>b|_=>0):=cq λi hi=>by
    have:=lY hN hi
    generalize vs i=v at this ⊢
    cases v with
    | oc b l=>cases b<;>cases this
    | _=>first|rfl|cases this
   walk_at"ev"
   rw[hv]
   refine wk (d:=d) Z hc ⟨by lia,by exact uA 0x322000620000c hm⟩ (by lia) (λi hi=>?_) λk x e b' P l C=>?_
   ·have:=lY hN hi
    have hT:=ht i hi
    generalize vs i=v at this hT ⊢
    cases v with
    | int i=>exact hT.int_e
    | oc b l=>cases b<;>cases this
    | _=>cases this
   rw[<-hv]at C
   walk_at"ev"
   exact q k x e b' ns0 P (by lia) C hn
  have zq0:(List.map vs (List.range m)).length<16777216:=by exact uB 0x80000020488600087ff8620000c hm lv
  walk_at"ev"
  rw[bL]
  have zq0:(List.map vs (List.range m)).length<16777216:=by exact uB 0x80000020488600087ff8620000c hm lv
  walk_at"ev"
  walk_at"ev"
  refine gz (λj v=>∃r,v=.bool r/\(r=true->∃x,vs j=.str x/\j9 x/\(aZ x).length<=41)) _ (λj a K ja k=>?_) λus hl hu=>?_
  ·obtain⟨hj,rfl⟩:=aL ja
   have hT:=ht j hj
   obtain⟨u,e⟩:=hT.kd
   walk_at"ev"
   rw[e]
   walk_at"ev"
   refine aD (λh=>?_) (λh=>?_)
   ·obtain⟨x,ex⟩:=Dw e h
    obtain⟨h1,h2⟩:=(ex▸hT).str_e
    walk_at"ev"
    rw[ex]
    refine sv Z h1 (by exact uA 0x7a12020000003e840000c h2) λr hr=>?_
    walk_at"ev"
    exact k _ ⟨r,rfl,λe=>⟨x,ex,(hr e).2,by have:=(hr e).1;lia⟩⟩
   ·walk_at"ev"
    rw[h]
    exact k _ ⟨false,rfl,λz=>nomatch z⟩
  rw[lv]at hl
  obtain⟨Lb,rfl⟩:=tW (vs:=us) λv mv=>by
   obtain⟨j,hj⟩:=List.mem_iff_getElem?.mp mv
   obtain⟨r,rfl,_⟩:=hu j v hj
   exact⟨r,rfl⟩
  have zq0:(List.map AV.bool Lb).length<=16777216:=by exact uB 0x80000021000087ff8620000c hm hl
  walk_at"ev"
  refine bo _ _ ?_
  walk_at"ev"
  refine aD (λhS=>?_) (λhS=>?_)
  ·have hs:∀i,i<m->∃x,vs i=.str x/\j9 x/\(aZ x).length<=41:=λi hi=>by
    rw[List.length_map]at hl
    have hi':i<Lb.length:=by exact uC 0x12418100920c00c100200e hl hi
    obtain⟨r,e,h⟩:=hu i (.bool Lb[i]) (by rw[List.getElem?_map,List.getElem?_eq_getElem hi'];rfl)
    have e:=y9 e
    exact h (by rw[<-e];exact List.all_eq_true.mp hS _ (List.getElem_mem hi'))
   have hv:(List.range m).map vs=(List.range m).map λi=>.str (match vs i with|.str b=>b|_=>default):=cq λi hi=>by
    obtain⟨x,e,_⟩:=hs i hi
    rw[e]
   walk_at"ev"
   rw[hv]
   refine Ah (d:=d) Z hc ⟨by lia,by exact uA 0x322000620000c hm⟩ (by lia) (λi hi=>?_) λk x e b' P l C=>?_
   ·obtain⟨x,e,h1,h2⟩:=hs i hi
    rw[e];exact⟨h1,h2⟩
   unfold oO at C
   rw[<-hv]at C
   walk_at"ev"
   exact q k x e b' ns0 P (by lia) C hn
  ·walk_at"ev"
   walk_at"ev"
   exact t _ _
 ·walk_at"ev"
  refine bo _ _ ?_
  walk_at"ev"
  refine aD (λhA=>?_) (λhA=>?_)
  ·have zq0:(List.map vs (List.range m)).length<16777216:=by exact uB 0x80000020488600087ff8620000c hm lv
   walk_at"ev"
   rw[bL]
   walk_at"ev"
   walk_at"ev"
   exact t _ _
  walk_at"ev"
  refine bo _ _ ?_
  walk_at"ev"
  refine aD (λhN=>?_) (λhN=>?_)
  ·have zq0:(List.map vs (List.range m)).length<16777216:=by exact uB 0x80000020488600087ff8620000c hm lv
   walk_at"ev"
   rw[bL]
   walk_at"ev"
   walk_at"ev"
   exact t _ _
  ·have zq0:(List.map vs (List.range m)).length<16777216:=by exact uB 0x80000020488600087ff8620000c hm lv
   walk_at"ev"
   rw[bL]
   walk_at"ev"
   walk_at"ev"
   exact t _ _
end
end
section
variable {c:Cx}{n:Nat}{sh:Sh}{Q:AV->Sh->Prop}{X:Sh->Prop}
section
variable {b:List UInt8}{ns0:List Int}{sf:Option (List (Str×AV))}{d m:Nat}{vs:Nat->AV}{cs:Nat->Nat}{draw:Int}{ld:List (Str×AV)}{ns:Nat->Str}
noncomputable abbrev Ii(ld:List (Str×AV))(draw:Int)(m:Nat)(ns:Nat->Str)(ks xs:Nat->Int)(es:Nat->Nat)(inl:Nat->Bool):aa:=[(("octets" :Str),.oct),(("values" :Str),.v (.dict ld)),(("draws" :Str),.drw),(("draw" :Str),.v (.int draw)),(("names" :Str),.v (oO m ns)),(("children" :Str),.v (rB m ks xs es inl)),(("places" :Str),.loc 0)]
theorem qb(Z:Std c)(hc:c.clean=true){ks xs:Nat->Int}{es:Nat->Nat}{inl:Nat->Bool}{ps:List Nat}{dr:Option (List Int)}(hm:m<=6)(hl:ld.length=m)(nd:(ld.map (·.1)).Nodup)(hs:a8 (ld.map (·.1))=(List.range m).map ns)(hv:∀i,i<m->a7 ld (ns i)=some (vs i))
  (hns:∀i,i<m->j9 (ns i)/\(ns i).cps.toList.length<=3)
  (hps:ps.length=m) (hb:b.length+62+m*17<=65000) (hC:∀i,i<m->aR d b (vs i) (ks i) (xs i) (es i) (inl i))
  (hp:∀(i p:Nat),ps[i]? =some p->p<=b.length/\Lies b p (aY (ns i)++[0]))
  (q:∀k x e b',Pre b b'->b'.length<=b.length+46+m*17->aR (d+1) b' (.dict ld) k x e false->Q (tup k x e false) ⟨some b',dr,sf⟩):
  ev c T0 (n+5) 56 (.B (aq (D1 39)) (List.drop 4 (bodyOf (D1 39))) (Ii ld draw m ns ks xs es inl) ⟨⟨some b,dr,sf⟩,[.list (bX ps)]⟩ (dk Q) (λq0 S=>X S.sh)):=by
 have lv:((List.range m).map λi=>AV.str (ns i)).length=m:=by rw[List.length_map,List.length_range]
 have lp:(bX ps).length=m:=by rw[List.length_map,hps]
 have lk:((List.range m).map λi=>tup (ks i) (xs i) (es i) (inl i)).length=m:=by rw[List.length_map,List.length_range]
 have lf:((((List.range m).map λi=>tup (ks i) (xs i) (es i) (inl i)).filter pZ).map p9).length<=6:=by rw[List.length_map];exact Nat.le_trans (List.length_filter_le _ _) (by rw[List.length_map,List.length_range];exact hm)
 have r0:=Int.emod_nonneg (draw/3) (show(4:Int)≠0 by decide)
 have r1:=Int.emod_lt_of_pos (draw/3) (show(0:Int)<4 by decide)
 have w0:=Int.emod_nonneg draw (show(3:Int)≠0 by decide)
 have w1:=Int.emod_lt_of_pos draw (show(0:Int)<3 by decide)
 refine bp λGG1 hG1=>?_
 obtain⟨wd,hwd,wd1,wd3⟩:∃e:Nat,1+draw%3=e/\1<=e/\e<=3:=⟨(1+draw%3).toNat,by exact Int.le_antisymm (uK 0x2000000014c800000005300600f (cV (1+draw%3) (uI 0x14c0000004400000000800d (jm (draw) 3 rfl)))) (uK 0x530048000000053005fff (cV (1+draw%3) (uI 0x14c0000004400000000800d (jm (draw) 3 rfl)))),by exact uK 0x90000000014c01803c00000000800d (jm (draw) 3 rfl) (cV (1+draw%3) (uI 0x14c0000004400000000800d (jm (draw) 3 rfl))),by exact uK 0xc800000000014c017ffc0000034000000a00c00d (gH (draw) 3 rfl) (cV (1+draw%3) (uI 0x14c0000004400000000800d (jm (draw) 3 rfl)))⟩
 have p8:=a4 wd3
 have pm:m*2^wd<=m*8:=Nat.mul_le_mul_left m p8
 have knd:((List.range m).map ns).Nodup:=by rw[<-hs];exact(dR _).nodup_iff.mpr nd
 obtain⟨Ls,E,e1,e3,E1,E3,hE⟩:=sq (m:=m) (ks:=ks) (xs:=xs) (es:=es) (inl:=inl) (λi hi=>(hC i hi).he) r0 r1
 refine hG1 ?_
 walk_at"ev"
 rw[hwd]
 refine dz Z hc (by exact uB 0x3d09001000007ef421008df8806c00c hb) wd3 λb2 P1 z1 z2=>?_
 have zq0:(List.map (λi=>AV.str (ns i)) (List.range m)).length<=16777216:=by exact uB 0x80000021000087ff8620000c hm lv
 walk_at"ev"
 rw[lv]
 refine cj Z hc (by exact uC 0x3d090011003900c80018007ef421008df8806c00c hb z2) wd3 wd1 (by exact uA 0x100000011) (by exact uA 0x40001000000280164620000c hm) λb3 P2 l2 h2=>?_
 have zq0:b3.length<=16777216:=by exact uE 0x400000120040c340fff0e4033000610480018007ef421008df8806c00c hb p8 z2 l2
 have zq1:(bX ps).length<16777216:=by exact uB 0x80000020488600087ff8620000c hm lp
 walk_at"ev"
 refine bR (λj S=>∃bj,S=⟨⟨some bj,dr,sf⟩,[]⟩/\Pre b3 bj/\bj.length=b3.length+j*2^wd/\∀(i p:Nat),i<j->ps[i]? =some p->cX bj (b3.length+i*2^wd) (2^wd) ((b3.length+i*2^wd:Nat)-(p:Int))) _ (λa=>rfl) _
  (λj a S K ja jj k1=>?_) (λS jj=>?_) _ ⟨b3,rfl,List.prefix_refl _,by exact Nat.le_antisymm (uB 0x1000400c00) (uB 0x20008018),λi p hi=>absurd hi (Nat.not_lt_zero i)⟩
 ·refine bp λGG2 hG2=>?_
  obtain⟨pl,hpl,rfl⟩:=pk ja
  have hj:j<m:=by have:=(List.getElem?_eq_some_iff.mp hpl).1;exact uC 0x2012418000920c00c1001ffe hps this
  have hle:=(hp j pl hpl).1
  obtain⟨bj,rfl,j2,j3,j4⟩:=jj
  refine hG2 ?_
  have mE:j*2^wd+2^wd<=m*2^wd:=by have:=cU (w:=2^wd) hj;rwa [Nat.mul_comm (2^wd) m]at this
  have zq0:bj.length<=16777216:=by exact nl [_,_,_,_,_,_,_,_] [] 0x200000098020a1c30031c206c1ffe5061a07ff872019800304011480018007ef421008df8806c00c hb pm z2 l2 j3 mE
  walk_at"ev"
  refine cj Z hc (by exact nl [_,_,_,_,_,_,_,_] [] 0x1e8480098020a1c30031c206c1ffe5061a07ff872019800304011480018007ef421008df8806c00c hb pm z2 l2 j3 mE) wd3 wd1 (by exact nl [_,_,_,_,_,_,_] [] 0x202a0e000000116041a880380200030c0864200e100000c z1 l2 hle j3) (by exact nl [_,_,_,_,_,_,_,_,_] [] 0x200008000001500b039920a1c30031c206c1ffe5061a07ff872019800304011480018007ef421008df8806c00c hb pm z2 l2 j3 mE) λb' P l h4=>?_
  walk_at"ev"
  refine k1 _ ⟨b',rfl,j2.trans P,by rw[l,j3,Nat.add_mul];exact Nat.le_antisymm (uC 0x800304300c80800d8) (uC 0x80800d90006086018),λi p hi hip=>?_⟩
  by_cases w:i<j
  ·exact(j4 i p w hip).up P
  ·obtain rfl:i=j:=by exact Nat.le_antisymm (uB 0x2000048860900c00c hi) (uB 0x2000100000c (Nat.not_lt.mp w))
   rw[hpl]at hip;cases hip
   rw[<-j3];exact h4
 rw[lp]at jj
 refine bp λGG3 hG3=>?_
 obtain⟨b4,rfl,j2,j3,j4⟩:=jj
 refine hG3 ?_
 have PA:=P1.trans (P2.trans j2)
 have zq0:(List.map (λi=>tup (ks i) (xs i) (es i) (inl i)) (List.range m)).length<16777216:=by exact uB 0x80000020488600087ff8620000c hm lk
 walk_at"ev"
 refine ni pZ p9 _ (λa ha K k=>?_) (λa ha hp K k=>?_) ?_
 ·refine bp λGG4 hG4=>?_
  obtain⟨i,hi,rfl⟩:=List.mem_map.mp ha
  refine hG4 ?_
  walk_at"ev"
  exact k
 ·refine bp λGG5 hG5=>?_
  obtain⟨i,hi,rfl⟩:=List.mem_map.mp ha
  refine hG5 ?_
  walk_at"ev"
  exact k
 refine And.intro (by exact uA 0x8000002000620000c lf) ?_
 walk_at"ev"
 refine And.intro (show 1+_<=16777216 by exact uA 0x8000002000960620000c lf) ?_
 walk_at"ev"
 refine And.intro (show([AV.int 1]++_:List AV).length+1<=16777216 by rw[List.length_append];show 1+_+1<=_;exact uA 0x8000002048004b60620000c lf) ?_
 walk_at"ev"
 refine e1 _ ?_
 walk_at"ev"
 rw[e3]
 refine EZ Z hc ⟨E1,E3⟩ (by exact uA 0x202048060620000c hm) (st:=b3.length) (wd:=wd) (ns:=ns) (ld:=ld) (by exact nl [_,_,_,_,_,_,_] [] 0x3f7a10810045608e5836d830a1b07ff88206a1ffe1c8068000c100453000610480018007ef421008df8806c00c hb p8 pm z2 l2 j3) ⟨λi hi=>(hC i hi).up PA,hE⟩ wd3 (by exact uC 0x20080860200e l2) j2.len (by rw[show b3.length-2^wd=b2.length by exact Nat.le_antisymm (uD 0x20c00040c37ff8808601ffe l2 (Nat.sub_add_cancel (n:=b3.length) (m:=2^wd) (uC 0x20080860200e l2))) (uD 0x60400040c3803880860200e l2 (Nat.sub_add_cancel (n:=b3.length) (m:=2^wd) (uC 0x20080860200e l2)))];exact h2.up j2)
  (λi hi=>by
   have hi':i<ps.length:=by exact uC 0x12418100920c00c100200e hps hi
   obtain⟨k1,k2⟩:=hp i _ (List.getElem?_eq_getElem hi')
   exact⟨ps[i],j4 i _ hi (List.getElem?_eq_getElem hi'),(hns i hi).1,k2.up PA,by have:=(hns i hi).2;exact uA 0x7a12002000320000c this⟩) knd hl nd hs hv λk x e b5 P5 l5 C5 q0=>?_
 walk_at"ev"
 exact q k x e b5 (PA.trans P5) (by exact nl [_,_,_,_,_,_,_,_] [] 0x80236e281b70080135f2c1b700060850d83ffc00c350fff0e5033000610022880030820000c p8 pm z2 l2 j3 l5) C5
theorem Ar(Z:Std c)(hc:c.clean=true)(L:qK c (n+5) d)(hm:m<=6)(hl:ld.length=m)(nd:(ld.map (·.1)).Nodup)(hs:a8 (ld.map (·.1))=(List.range m).map ns)(hv:∀i,i<m->a7 ld (ns i)=some (vs i))
  (hns:∀i,i<m->j9 (ns i)/\(ns i).cps.toList.length<=3)
  (hb:b.length+bI m cs<=63900) (hn:ns0.length<=1000) (ht:∀i,i<m->Tree d (cs i) (vs i))
  (q:∀k x e b' ns',Pre b b'->b'.length+40<=b.length+bI m cs+98->aR (d+1) b' (.dict ld) k x e false->ns'.length<=1000->Q (tup k x e false) ⟨some b',some ns',sf⟩):
  ae c (n+6) 983 [.oct,.v (.dict ld),.drw,.v (.int draw)] [] ⟨some b,some ns0,sf⟩ Q X:=by
 have lv:((List.range m).map λi=>AV.str (ns i)).length=m:=by rw[List.length_map,List.length_range]
 have m9:=jD (m:=m) (cs:=cs) λi hi=>(ht i hi).min
 refine Z.call (f:=983) rfl rfl rfl ?_
 refine dW (k:=55) 4 rfl λPP hP=>?_
 have zq0:ld.length<64:=by exact uB 0x2020488600087ff8620000c hm hl
 walk_at"ev"
 rw[hs,show((List.range m).map ns).map AV.str=(List.range m).map λi=>.str (ns i) by rw[List.map_map];rfl]
 have zq0:(List.map (λi=>AV.str (ns i)) (List.range m)).length<16777216:=by exact uB 0x80000020488600087ff8620000c hm lv
 walk_at"ev"
 refine Gw L lv hb hn ht (λj a bj nj K hj ja k=>?_) λks xs es inl b1 ns' P hl1 hn' hC=>?_
 ·refine bp λGG1 hG1=>?_
  obtain⟨_,rfl⟩:=aL ja
  refine hG1 ?_
  walk_at"ev"
  rw[hv j hj]
  walk_at"ev"
  exact k
 have lk:((List.range m).map λi=>tup (ks i) (xs i) (es i) (inl i)).length=m:=by rw[List.length_map,List.length_range]
 refine And.intro (by exact uB 0x80000021000087ff8620000c hm lk) ?_
 have zq0:(List.map (λi=>AV.str (ns i)) (List.range m)).length<16777216:=by exact uB 0x80000020488600087ff8620000c hm lv
 walk_at"ev"
 refine bR (λj S=>∃bj ps,S=⟨⟨some bj,some ns',sf⟩,[.list (bX ps)]⟩/\Pre b1 bj/\bj.length<=b1.length+j*4/\ps.length=j/\∀(i p:Nat),ps[i]? =some p->p<=bj.length/\Lies bj p (aY (ns i)++[0])) _ (λa=>rfl) _
  (λj a S K ja jj k1=>?_) (λS jj=>?_) _ ⟨b1,[],rfl,List.prefix_refl _,by exact uA 0x4200400c00,rfl,λi p h=>by cases h⟩
 ·refine bp λGG2 hG2=>?_
  obtain⟨hj,rfl⟩:=aL ja
  obtain⟨bj,ps,rfl,j2,j3,j4,j5⟩:=jj
  obtain⟨hasc,hlen⟩:=hns j hj
  refine hG2 ?_
  have hlen2:(aY (ns j)).length<=3:=by have:(aY (ns j)).length=_:=List.length_map ..;lia
  have lpj:(bX ps).length<=100:=by rw[List.length_map];exact uC 0x3222004107ff80024430030620000c hm hj j4
  have l0:(aY (ns j)++[(0:UInt8)]).length<=4:=by rw[List.length_append];show(aY (ns j)).length+1<=4;exact uA 0x21048060320000c hlen2
  have zq0:bj.length<=16777216:=by exact nl [_,_,_,_,_,_] [] 0x20000009404002520d40018601281804820033014420c00c003e6710800c00c hb hl1 hj j3
  have zq1:(bX ps).length<16777216:=by exact uA 0x800000204806000006440000c lpj
  walk_at"ev"
  refine Gd.i hasc.all ?_
  have zq0:(ns j).cps.toList.length<=16777216:=by exact uA 0x8000002000320000c hlen
  walk_at"ev"
  refine And.intro (show(aY (ns j)).length+1<=16777216 by exact uA 0x8000002048060320000c hlen2) ?_
  have zq0:bj.length+(aY (ns j)++[0]).length<16777216:=by exact nl [_,_,_,_,_,_,_] [] 0x2000000812c1436042c000c4002520d40018601281804820033014420c00c003e6710800c00c hb hl1 hj j3 l0
  walk_at"ev"
  have P:=Pre.app bj (aY (ns j)++[0])
  exact k1 _ ⟨_,ps++[bj.length],by rw[<-lu];rfl,j2.trans P,by rw[List.length_append,Nat.add_mul];exact uD 0x10803080095886600302130006100128860000c j3 l0,by rw[List.length_append,j4];rfl,rU j4 (λi p' h=>⟨Nat.le_trans (j5 i p' h).1 P.len,(j5 i p' h).2.up P⟩) ⟨P.len,.new _ _⟩⟩
 rw[lv]at jj
 refine bp λGG3 hG3=>?_
 obtain⟨b2,ps,rfl,j2,j3,j4,j5⟩:=jj
 refine hG3 ?_
 walk_at"ev"
 exact hP _ _ (qb (n:=n) Z hc hm hl nd hs hv hns j4 (by exact uE 0xfde846011bf140d83002520d0001820033014420c00c003e6710800c00c hb hl1 j3) (λi hi=>(hC i hi).up j2) j5 λk x e b' P5 l5 C5=>q k x e b' ns' (P.trans (j2.trans P5)) (by exact nl [_,_,_,_,_,_] [] 0x624608374150c08046dc5036a000c1002500d0001860831014400c00c hl1 j3 l5) C5 hn')
end
end
section
variable {c:Cx}{n:Nat}{sh:Sh}{Q:AV->Sh->Prop}{X:Sh->Prop}
theorem xJ(c:Nat):1<=(Str.utf8Of c).length:=by
 unfold Str.utf8Of
 split
 ·exact Nat.le_refl _
 ·split
  ·exact Nat.succ_le_succ (Nat.zero_le _)
  ·split<;>exact Nat.succ_le_succ (Nat.zero_le _)
theorem Ae(x:Str):x.cps.toList.length<=(aZ x).length:=by
 unfold aZ
 induction x.cps.toList with
 | nil=>exact Nat.zero_le _
 | cons a r ih=>
  rw[List.flatMap_cons,List.length_append,List.length_cons]
  have:=xJ a;exact uC 0x2083048060802400c100000c ih this
theorem g6{b d:List UInt8}{z e:Nat}(he:e<=3)(hd:du false d.length e):
  cX (b++List.replicate z 0++leB (2^e) (d.length%2^(8*2^e))++d) (b.length+z+2^e-2^e) (2^e) d.length/\Lies (b++List.replicate z 0++leB (2^e) (d.length%2^(8*2^e))++d) (b.length+z+2^e) d:=by
 have l1:(b++List.replicate z (0:UInt8)).length=b.length+z:=by rw[List.length_append,List.length_replicate]
 have l2:(b++List.replicate z (0:UInt8)++leB (2^e) (d.length%2^(8*2^e))).length=b.length+z+2^e:=by rw[List.length_append,l1,aW]
 refine⟨?_,by rw[<-l2];exact .new _ _⟩
 have h:=cX.write (b++List.replicate z (0:UInt8)) (d.length:Int) e
 rw[l1]at h
 rw[Nat.add_sub_cancel]
 have h:=h.up (Pre.app _ d)
 rw[show(d.length:Int)%2^(8*2^e)=d.length from hd.unsigned]at h ⊢
 exact h
section
variable {k:Nat}{d:Nat}
theorem sa{n:Nat}(h:n<=1000):du false (n:Int) 3:=⟨Int.natCast_nonneg _,Int.lt_of_le_of_lt (show(n:Int)<=1000 by exact uA 0xfa100240003e840000c h) (by decide)⟩
theorem nR(Z:Std c)(hc:c.clean=true)(hL:∀d',d=d'+1->qK c (k+5) d'):qK c (k+7) d:=λv cost b ns sf Q X hT hb hn q=>by
 have T:∀(b1:List UInt8) (ns1:List Int) (draw:Int),Pre b b1->b1.length<=b.length+2->ns1.length<=1000->
   ev c T0 (k+6) 58 (.B (aq (D1 40)) (List.drop 2 (bodyOf (D1 40))) [(("octets" :Str),.oct),(("value" :Str),.v v),(("draws" :Str),.drw),(("draw" :Str),.v (.int draw))] ⟨⟨some b1,some ns1,sf⟩,[]⟩ (dk Q) (λq0 S=>X S.sh)):=λb1 ns1 draw P hb1 hn1=>by
  have r0:=Int.emod_nonneg draw (show(4:Int)≠0 by decide)
  have r1:=Int.emod_lt_of_pos draw (show(0:Int)<4 by decide)
  cases hT with
  | nul=>
   walk_at"ev"
   exact q _ _ _ _ _ _ P (by exact uB 0x32210e82018088860000c hb1) F7 hn1
  | boo r=>
   walk_at"ev"
   exact q _ _ _ _ _ _ P (by exact uB 0x32210e82018088860000c hb1) (Gq r) hn1
  | int hf=>
   walk_at"ev"
   refine zf (d:=d) Z hc (by exact uB 0x7270e0200000f99c4000032210c00c088860000c hb1 hb) hf λkk x e inl b' P2 l2 C=>?_
   walk_at"ev"
   exact q _ _ _ _ _ _ (P.trans P2) (by exact uC 0x32210e824183c8064000c088860000c hb1 l2) C hn1
  | list hm ht=>
   walk_at"ev"
   refine FE Z hc (hL _ rfl) hm (by exact uC 0x7cce220018003e671100000191310c00c088860000c hb1 hb) hn1 ht λkk x e b' ns' P2 l2 C hn2=>?_
   walk_at"ev"
   exact q _ _ _ _ _ _ (P.trans P2) (by exact uD 0x600000644c43a090600000624600374120c00c088860000c hb1 l2) C hn2
  | dict hm hl nd hs hv hns ht=>
   walk_at"ev"
   refine Ar Z hc (hL _ rfl) hm hl nd hs hv hns (by exact uC 0x7cce220018003e671100000191310c00c088860000c hb1 hb) hn1 ht λkk x e b' ns' P2 l2 C hn2=>?_
   walk_at"ev"
   exact q _ _ _ _ _ _ (P.trans P2) (by exact uD 0x600000644c43a090600000624600374120c00c088860000c hb1 l2) C hn2
  | @str _ x h h2=>
   have h3:x.cps.toList.length<=16000000:=by have:=Ae x;exact uB 0x7a1200210000800300003e840000c h2 this
   have zq0:(aZ x).length<=16777216:=by exact uA 0x80000020000003e840000c h2
   walk_at"ev"
   refine dK Z (sa h2) λe0 he0 hf0=>?_
   refine bp λGG1 hG1=>?_
   obtain⟨E,eE,hE0,hE3,_⟩:=fS he0 r0 r1
   refine hG1 ?_
   have hfE:=hf0.up hE0
   have p8:=a4 hE3
   have sized:∀(z:Nat),z<=7->Q (tup 5 (b1.length+z+2^E:Nat) E false) ⟨some (b1++List.replicate z 0++leB (2^E) ((aZ x).length%2^(8*2^E))++aZ x++[0]),some ns1,sf⟩:=λz hz=>by
    obtain⟨s1,s2⟩:=g6 (b:=b1) (z:=z) hE3 hfE
    refine q _ _ _ _ _ _ (P.trans ((((Pre.app _ _).trans (Pre.app _ _)).trans (Pre.app _ _)).trans (Pre.app _ _))) ?_ (Hf hE3 (by exact uC 0x8086c00) (s1.up (Pre.app _ _)) (s2.up (Pre.app _ _)) h h3) hn1
    rw[List.length_append,List.length_append,List.length_append,List.length_append,List.length_replicate,aW]
    show _+1+40<=_
    exact uE 0x800000644c43a08250103001b6d81c980030824000c088860000c hb1 p8 hz
   have ll:∀z,(b1++List.replicate z 0++leB (2^E) ((aZ x).length%2^(8*2^E))++aZ x).length=b1.length+z+2^E+(aZ x).length:=λz=>by
    rw[List.length_append,List.length_append,List.length_append,List.length_replicate,aW]
   walk_at"ev"
   rw[eE]
   by_cases hd:draw/4%2=1
   ·walk_at"ev"
    refine sv Z h (by exact uA 0x7a12020000003e840000c h2) λr hr=>?_
    cases r
    ·walk_at"ev"
     refine iD Z hc (by exact uC 0x1c9c380800003e671100000191310c00c088860000c hb1 hb) (by exact uA 0x753020000003e840000c h2) hE3 λz hz=>?_
     have ll:=ll z
     walk_at"ev"
     refine And.intro (show _+1<16777216 by exact nl [_,_,_,_,_,_] [] 0x80000020482543608184001b6a1ffe1ca00030826000c003e671100000191310c00c088860000c hb1 hb p8 hz ll) ?_
     walk_at"ev"
     exact sized z hz
    ·obtain⟨_,hasc⟩:=hr rfl
     have e8:=fM hasc.all
     walk_at"ev"
     refine And.intro (show _+1<=16777216 by lia) ?_
     walk_at"ev"
     refine And.intro (show b1.length+(aZ x++[0]).length<16777216 by rw[List.length_append];show _+(_+1)<_;exact uC 0x8000002048248300d8003e671100000191310c00c088860000c hb1 hb) ?_
     walk_at"ev"
     refine And.intro (show(b1++(aZ x++[0])).length<=16777216 by rw[List.length_append,List.length_append];show _+(_+1)<=_;exact uC 0x800000204906018003e671100000191310c00c088860000c hb1 hb) ?_
     walk_at"ev"
     rw[show(((b1++(aZ x++[(0:UInt8)])).length :Nat):Int)-(aZ x).length-1=b1.length from by rw[List.length_append,List.length_append];show((b1.length+((aZ x).length+1):Nat):Int)-_-1=_;exact Int.le_antisymm (uB 0x100000050820910c033b1) (uB 0x14208244300cec009)]
     refine q _ _ _ _ _ _ (P.trans (Pre.app _ _)) (by rw[List.length_append,List.length_append];show _+(_+1)+40<=_;exact uC 0x400000644c43a08248300d8088860000c hb1) (HI hasc (by rw[e8];exact .new _ _) h3) hn1
   ·walk_at"ev"
    refine iD Z hc (by exact uC 0x1c9c380800003e671100000191310c00c088860000c hb1 hb) (by exact uA 0x753020000003e840000c h2) hE3 λz hz=>?_
    have ll:=ll z
    walk_at"ev"
    refine And.intro (show _+1<16777216 by exact nl [_,_,_,_,_,_] [] 0x80000020482543608184001b6a1ffe1ca00030826000c003e671100000191310c00c088860000c hb1 hb p8 hz ll) ?_
    walk_at"ev"
    exact sized z hz
  | @byt _ l h=>
   have zq0:l.length<=16777216:=by exact uA 0x80000020000003e840000c h
   walk_at"ev"
   refine dK Z (sa h) λe0 he0 hf0=>?_
   refine bp λGG2 hG2=>?_
   obtain⟨E,eE,hE0,hE3,_⟩:=fS he0 r0 r1
   refine hG2 ?_
   have hfE:=hf0.up hE0
   have p8:=a4 hE3
   walk_at"ev"
   rw[eE]
   walk_at"ev"
   refine iD Z hc (by exact uC 0x1c9c380800003e671100000191310c00c088860000c hb1 hb) (by exact uA 0x753020000003e840000c h) hE3 λz hz=>?_
   have ll:(b1++List.replicate z 0++leB (2^E) (l.length%2^(8*2^E))++l).length=b1.length+z+2^E+l.length:=by
    rw[List.length_append,List.length_append,List.length_append,List.length_replicate,aW]
   walk_at"ev"
   refine And.intro (show _+0<16777216 by exact nl [_,_,_,_,_,_] [] 0x80000020480543608184001b6a1ffe1ca00030826000c003e671100000191310c00c088860000c hb1 hb p8 hz ll) ?_
   walk_at"ev"
   obtain⟨s1,s2⟩:=g6 (b:=b1) (z:=z) hE3 hfE
   rw[List.append_nil]
   exact q _ _ _ _ _ _ (P.trans (((Pre.app _ _).trans (Pre.app _ _)).trans (Pre.app _ _))) (by exact nl [_,_,_,_,_,_] [] 0xa00000644c43a0a0614103001b681ffe1c980030824000c088860000c hb1 p8 hz ll) (C6 hE3 (by exact uC 0x8086c00) s1 s2 (by exact uA 0x7a120020000003e840000c h)) hn1
 have fl:∀draw:Int,((List.replicate (draw/24%3).toNat [(35:UInt8)]).flatten).length<=2:=λdraw=>by
  have:=Int.emod_lt_of_pos (draw/24) (show(0:Int)<3 by decide)
  rw[List.length_flatten,List.map_replicate,List.sum_replicate_nat]
  show(draw/24%3).toNat*1<=2;exact uK 0x110000d000017ffc0000034000000a00c00d this (cV (draw/24%3) (uI 0x4400000000800d (jm (draw/24) 3 rfl)))
 have r0:∀draw:Int,0<=draw/24%3/\draw/24%3<3:=λdraw=>⟨Int.emod_nonneg _ (by decide),Int.emod_lt_of_pos _ (by decide)⟩
 refine Z.call (f:=990) rfl rfl rfl ?_
 cases ns with
 | nil=>
  have f0:=fl 0
  have t:=T (b++(List.replicate ((0:Int)/24%3).toNat [35]).flatten) [] 0 (Pre.app _ _) (by rw[List.length_append];exact uB 0x1110c00860220000c f0) (Nat.zero_le _)
  (conv at t=>whnf)
  repeat(replace t:=t.2;(conv at t=>whnf))
  walk_at"ev"
  exact t
 | cons x r=>
  have f0:=fl x
  have g0:=r0 x
  have hr:r.length+1<=1000:=hn
  have t:=T (b++(List.replicate (x/24%3).toNat [35]).flatten) r x (Pre.app _ _) (by rw[List.length_append];exact uB 0x1110c00860220000c f0) (by exact uA 0x1f420000003e840900c00c hr)
  (conv at t=>whnf)
  repeat(replace t:=t.2;(conv at t=>whnf))
  have zq0:(x::r).length<16777216:=by exact uA 0x80000020480600003e840000c hn
  have zq1:r.length<16777216:=by exact uA 0x80000020480600003e840900c00c hr
  have zq2:0<=x/24%3:=by exact uI 0x4400000000800d (jm (x/24) 3 rfl)
  have zq3:x/24%3<=1048576:=by exact uI 0x8000020040000034000000a00c00d (gH (x/24) 3 rfl)
  walk_at"ev"
  exact t
theorem Gb(Z:Std c)(hc:c.clean=true):∀(d N:Nat),2*d+7<=N->qK c N d:=by
 intro d
 induction d with
 | zero=>
  intro N h
  obtain⟨k,rfl⟩:∃k,N=k+7:=⟨N-7,by exact Nat.le_antisymm (uB 0x3900c40103900e00e (Nat.sub_add_cancel (n:=N) (m:=7) (uA 0xe4001c804028c00c h))) (uB 0x2072018103900dffe (Nat.sub_add_cancel (n:=N) (m:=7) (uA 0xe4001c804028c00c h)))⟩
  exact nR Z hc λd' e=>by cases e
 | succ d ih=>
  intro N h
  obtain⟨k,rfl⟩:∃k,N=k+7:=⟨N-7,by lia⟩
  exact nR Z hc λd' e=>by
   cases e
   exact ih (k+5) (by exact uB 0xa4431c8000a303910c720900c028c00c h)
end
end
section
variable {c:Cx}{n:Nat}{sh:Sh}{Q:AV->Sh->Prop}{X:Sh->Prop}
section
variable {r:Int}
structure cP(x:Str)(m:Nat):Prop where
 h:x.cps.toList.all c7=true
 l:x.cps.toList.length<=m
 e:(aZ x).length<=m
theorem cP.app{x y:Str}{m k:Nat}(a:cP x m)(b:cP y k):cP (x++y) (m+k):=by
 have e:(x++y).cps.toList=x.cps.toList++y.cps.toList:=Array.toList_append
 refine⟨by rw[e,List.all_append,a.h,b.h];rfl,by rw[e,List.length_append];have:=a.l;have:=b.l;lia,?_⟩
 have e8:aZ (x++y)=aZ x++aZ y:=by unfold aZ;rw[e,List.flatMap_append]
 rw[e8,List.length_append];have:=a.e;have:=b.e;lia
theorem Dj:∀n:Nat,((List.replicate n 120).flatMap Str.utf8Of).length=n:=by
 intro n
 induction n with
 | zero=>
  exact rfl
 | succ n ih=>
  rw[List.replicate_succ,List.flatMap_cons,List.length_append,ih];show 1+n=_;exact Nat.le_antisymm (uA 0x900c00258) (uA 0x12c12018)
theorem cP.xs{n:Int}{m:Nat}(h:n<=m):cP (Txt.mul "x" n) m:=by
 have e:(Txt.mul "x" n).cps.toList=List.replicate n.toNat 120:=mul_one_list 120 n
 refine⟨by rw[e,List.all_eq_true];intro c mc;rw[List.eq_of_mem_replicate mc];rfl,by rw[e,List.length_replicate];lia,?_⟩
 unfold aZ;rw[e,Dj];lia
theorem wN{r:Int}(h0:0<=r)(h1:r<6):∃x:Str,pJ [AV.str "",.str "a",.str "key",.str "é",.str "日本",.str "zero\x00in"] r=some (.str x)/\cP x 8:=by
 rcases Ge 5 0 h0 (Int.le_of_lt_add_one h1)with rfl|rfl|rfl|rfl|rfl|rfl<;>exact⟨_,rfl,by decide +kernel,by decide +kernel,by decide +kernel⟩
theorem CQ(Z:Std c)(q:∀x,cP x 307->Q (.str x) sh):ae c (n+1) 876 [.v (.int r)] [] sh Q X:=by
 have m0:=Int.emod_nonneg (r/6) (show(300:Int)≠0 by decide)
 have m1:=Int.emod_lt_of_pos (r/6) (show(0:Int)<300 by decide)
 obtain⟨x,e,hx⟩:=wN (Int.emod_nonneg r (show(6:Int)≠0 by decide)) (Int.emod_lt_of_pos r (show(0:Int)<6 by decide))
 have lx:=hx.l
 rw[Array.length_toList]at lx
 have fin:∀k:Int,k<=299->cP (x++Txt.mul "x" k) 307:=λk hk=>hx.app (cP.xs (m:=299) hk)
 have lm:∀k:Int,k<=299->(Txt.mul "x" k).length<=299:=λk hk=>by have:=(cP.xs (m:=299) hk).l;rwa [Array.length_toList]at this
 refine Z.call (f:=876) rfl rfl rfl ?_
 walk_at"ev"
 rw[show pJ _ (r%6)=some (.str x)from e]
 walk_at"ev"
 refine aD (λw=>?_) (λw=>?_)
 ·have l1:=lm (r/6%300) (by exact uI 0x95a00400012c4000000a00c00d (gH (r/6) 300 rfl))
  have zq0:r/6%300<=1048576:=by exact uI 0x80000200400012c4000000a00c00d (gH (r/6) 300 rfl)
  walk_at"ev"
  refine And.intro (show x.length+_<=16777216 by show x.cps.size+_<=_;exact uB 0x80000021001800004ad080030820000c lx l1) ?_
  walk_at"ev"
  exact q _ (fin _ (by exact uI 0x95a00400012c4000000a00c00d (gH (r/6) 300 rfl)))
 ·have l1:=lm (r/6%300%5) (by exact uI 0x95a0040000054000000a00c00d (gH (r/6%300) 5 rfl))
  have zq0:0<=r/6%300%5:=by exact uI 0x4400000000800d (jm (r/6%300) 5 rfl)
  have zq1:r/6%300%5<=1048576:=by exact uI 0x8000020040000054000000a00c00d (gH (r/6%300) 5 rfl)
  walk_at"ev"
  refine And.intro (show x.length+_<=16777216 by show x.cps.size+_<=_;exact uB 0x80000021001800004ad080030820000c lx l1) ?_
  walk_at"ev"
  exact q _ (fin _ (by exact uI 0x95a0040000054000000a00c00d (gH (r/6%300) 5 rfl)))
theorem xu(Z:Std c)(q:∀l:List UInt8,l.length<=299->Q (.oc false l) sh):ae c (n+1) 883 [.v (.int r)] [] sh Q X:=by
 have m0:=Int.emod_nonneg r (show(300:Int)≠0 by decide)
 have m1:=Int.emod_lt_of_pos r (show(0:Int)<300 by decide)
 have o0:=Int.emod_nonneg (r/300) (show(256:Int)≠0 by decide)
 have o1:=Int.emod_lt_of_pos (r/300) (show(0:Int)<256 by decide)
 have fl:∀(o:UInt8) (k:Int),k<=299->((List.replicate k.toNat [o]).flatten).length<=299:=λo k hk=>by
  rw[List.length_flatten,List.map_replicate,List.sum_replicate_nat]
  show k.toNat*1<=299;lia
 refine Z.call (f:=883) rfl rfl rfl ?_
 walk_at"ev"
 refine aD (λw=>?_) (λw=>?_)
 ·have zq0:r%300<=1048576:=by exact uI 0x80000200400012c4000000a00c00d (gH (r) 300 rfl)
  walk_at"ev"
  exact q _ (fl _ _ (by exact uI 0x95a00400012c4000000a00c00d (gH (r) 300 rfl)))
 ·have zq0:0<=r%300%5:=by exact uI 0x4400000000800d (jm (r%300) 5 rfl)
  have zq1:r%300%5<=1048576:=by exact uI 0x8000020040000054000000a00c00d (gH (r%300) 5 rfl)
  walk_at"ev"
  exact q _ (fl _ _ (by exact uI 0x95a0040000054000000a00c00d (gH (r%300) 5 rfl)))
theorem AF{r:Int}(h0:0<=r)(h1:r<6):∃d:Nat,pJ (Str.ofString "abAB~ ").cps.toList r=some d/\0<d/\d<128:=by
 rcases Ge 5 0 h0 (Int.le_of_lt_add_one h1)with rfl|rfl|rfl|rfl|rfl|rfl<;>exact⟨_,rfl,by decide,by decide⟩
theorem FQ(Z:Std c)(q:∀x,j9 x->x.cps.toList.length<=3->Q (.str x) sh):ae c (n+1) 890 [.v (.int r)] [] sh Q X:=by
 have m0:=Int.emod_nonneg r (show(4:Int)≠0 by decide)
 have m1:=Int.emod_lt_of_pos r (show(0:Int)<4 by decide)
 refine Z.call (f:=890) rfl rfl rfl ?_
 have zq0:r%4<2^24:=by exact uI 0x8000002000000500640000044000000a00c00d (gH (r) 4 rfl)
 walk_at"ev"
 refine fR (λj ρ S=>S=⟨sh,[]⟩/\∃x:Str,j9 x/\x.cps.toList.length<=j/\ρ=[(("rest" :Str),.v (.int r)),(("text" :Str),.v (.str x))])
  (λo ρ S=>False) (λo ρ S r=>r.elim) _ (λj a ρ S K ja jj k1 k2=>?_) (λρ S jj=>?_) _ _ ⟨rfl,"",(λc m=>by cases m),Nat.le_refl _,rfl⟩
 ·obtain⟨hj,rfl⟩:=b0 ja
  obtain⟨rfl,x,hx,hl,rfl⟩:=jj
  have j3:j<3:=by exact nl [_,_] [_] 0xc82403000417ffc0000044000000a00c00d100900c00c hj (gH (r) 4 rfl) (cV (r%4) (uI 0x4400000000800d (jm (r) 4 rfl)))
  have p6:(0:Int)<6^(j:Int).toNat/\(6:Int)^(j:Int).toNat<1073741824:=by
   have:j=0\/j=1\/j=2:=by lia
   rcases this with rfl|rfl|rfl<;>decide
  have g1:=decide_eq_true p6.1
  have g2:=mw p6.2
  obtain⟨d,e,d0,d1⟩:=AF (Int.emod_nonneg (r/4/6^(j:Int).toNat) (show(6:Int)≠0 by decide)) (Int.emod_lt_of_pos (r/4/6^(j:Int).toNat) (show(0:Int)<6 by decide))
  have lx:=hl
  rw[Array.length_toList]at lx
  walk_at"ev"
  rw[e]
  walk_at"ev"
  refine And.intro (show x.length+1<=16777216 by show x.cps.size+1<=_;exact uB 0x80000020488600080030320900c00c j3 lx) ?_
  walk_at"ev"
  have ex:(x++(⟨#[d]⟩:Str)).cps.toList=x.cps.toList++[d]:=Array.toList_append
  refine k1 _ _ ⟨rfl,x++⟨#[d]⟩,(λc m=>?_),by rw[ex,List.length_append];show _+1<=_;exact uB 0x910c12018100000c hl,rfl⟩
  rw[ex]at m
  rcases List.mem_append.mp m with m|m
  ·exact hx c m
  ·rw[List.mem_singleton.mp m];exact⟨d0,d1⟩
 ·obtain⟨rfl,x,hx,hl,rfl⟩:=jj
  rw[bc]at hl
  walk_at"ev"
  exact q x hx (by exact nl [_,_] [_] 0xc80000417ffc0000044000000a00c00d100000c hl (gH (r) 4 rfl) (cV (r%4) (uI 0x4400000000800d (jm (r) 4 rfl))))
end
end
section
variable {c:Cx}{n:Nat}{sh:Sh}{Q:AV->Sh->Prop}{X:Sh->Prop}
theorem jL(m:Nat)(cs:Nat->Nat):bI m cs=((List.range m).map cs).sum:=by
 induction m with
 | zero=>rfl
 | succ m ih=>rw[List.range_succ,List.map_append,List.sum_append];show bI m cs+cs m=_+(cs m+0);rw[ih];rfl
theorem i5{m:Nat}{cs cs':Nat->Nat}(h:∀i,i<m->cs i=cs' i):bI m cs=bI m cs':=by
 rw[jL,jL,List.map_congr_left λi hi=>h i (List.mem_range.mp hi)]
theorem list_range{α:Type}(l:List α)(a:α):l=(List.range l.length).map λi=>l.getD i a:=by
 refine List.ext_getElem? λi=>?_
 by_cases h:i<l.length
 ·rw[List.getElem?_map,List.getElem?_range h,List.getElem?_eq_getElem h]
  show _=some (l.getD i a)
  rw[List.getD_eq_getElem?_getD,List.getElem?_eq_getElem h];rfl
 ·rw[List.getElem?_eq_none (by exact uB 0x2000100000c (Nat.not_lt.mp h)),List.getElem?_eq_none (by rw[List.length_map,List.length_range];exact uB 0x2000100000c (Nat.not_lt.mp h))]
structure gN(d:Nat)(ld:List (Str×AV))(κ:Str->Nat):Prop where
 nd:(ld.map (·.1)).Nodup
 ok:∀p∈ld,j9 p.1/\p.1.cps.toList.length<=3/\Tree d (κ p.1) p.2
noncomputable def sumK(ld:List (Str×AV))(κ:Str->Nat):Nat:=(ld.map λp=>κ p.1).sum
theorem EG{d:Nat}{x:Str}{v:AV}{cst:Nat}(hx:j9 x)(hl:x.cps.toList.length<=3)(hv:Tree d cst v):∀{ld:List (Str×AV)} {κ:Str->Nat},gN d ld κ->
  ∃κ',gN d (bq ld x v) κ'/\sumK (bq ld x v) κ'<=sumK ld κ+cst/\(bq ld x v).length<=ld.length+1:=λ{ld κ} h=>by
 have key:∀ld:List (Str×AV),(ld.map (·.1)).Nodup->(∀p∈ld,j9 p.1/\p.1.cps.toList.length<=3/\Tree d (κ p.1) p.2)->
   (∀p∈bq ld x v,j9 p.1/\p.1.cps.toList.length<=3/\Tree d (if p.1=x then cst else κ p.1) p.2)/\sumK (bq ld x v) (λy=>if y=x then cst else κ y)<=sumK ld κ+cst/\(bq ld x v).length<=ld.length+1:=by
  intro ld
  induction ld with
  | nil=>intro _ _;exact⟨λp m=>by rw[List.mem_singleton.mp m];exact⟨hx,hl,by rw[if_pos rfl];exact hv⟩,by show(if x=x then cst else κ x)+0<=0+cst;rw[if_pos rfl];exact uA 0x2c02018,Nat.le_refl _⟩
  | cons p r ih=>
   intro nd ok
   rw[List.map_cons,List.nodup_cons]at nd
   unfold bq
   by_cases hp:p.1=x
   ·rw[Fast.sEq_iff.mpr hp]
    have e:∀q∈r,(if q.1=x then cst else κ q.1)=κ q.1:=λq mq=>if_neg λz=>nd.1 (by rw[hp,<-z];exact List.mem_map_of_mem (f:=(·.1)) mq)
    have es:sumK r (λy=>if y=x then cst else κ y)=sumK r κ:=congrArg List.sum (List.map_congr_left e)
    refine⟨λq mq=>?_,?_,Nat.le_succ _⟩
    ·rcases List.mem_cons.mp mq with rfl|mq
     ·have:=ok p (.head _);exact⟨this.1,this.2.1,by show Tree d (if p.1=x then _ else _) v;rw[if_pos hp];exact hv⟩
     ·have:=ok q (.tail _ mq);exact⟨this.1,this.2.1,by rw[e q mq];exact this.2.2⟩
    ·show(if p.1=x then cst else κ p.1)+sumK r (λy=>if y=x then cst else κ y)<=(κ p.1+sumK r κ)+cst
     rw[if_pos hp,es];exact uC 0x1041b10018
   ·rw[show Fast.sEq p.1 x=false from by cases w:Fast.sEq p.1 x with|true=>exact absurd (Fast.sEq_iff.mp w) hp|false=>rfl]
    obtain⟨i1,i2,i3⟩:=ih nd.2 λq mq=>ok q (.tail _ mq)
    refine⟨λq mq=>?_,?_,Nat.succ_le_succ i3⟩
    ·rcases List.mem_cons.mp mq with rfl|mq
     ·have:=ok q (.head _);exact⟨this.1,this.2.1,by rw[if_neg hp];exact this.2.2⟩
     ·exact i1 q mq
    ·show(if p.1=x then cst else κ p.1)+sumK (bq r x v) (λy=>if y=x then cst else κ y)<=(κ p.1+sumK r κ)+cst
     rw[if_neg hp];exact uD 0x404186c0186080860000c i2
 obtain⟨h1,h2,h3⟩:=key ld h.nd h.ok
 exact⟨_,⟨dX h.nd,h1⟩,h2,h3⟩
theorem gN.tree{d:Nat}{ld:List (Str×AV)}{κ:Str->Nat}(h:gN d ld κ)(hm:ld.length<=6):Tree (d+1) (100+sumK ld κ) (.dict ld):=by
 have hp:=dR (ld.map (·.1))
 have hl:(a8 (ld.map (·.1))).length=ld.length:=by rw[hp.length_eq,List.length_map]
 have hs:a8 (ld.map (·.1))=(List.range ld.length).map λi=>(a8 (ld.map (·.1))).getD i "":=by
  have:=list_range (a8 (ld.map (·.1))) (("" :Str))
  rw[hl]at this;exact this
 have mem:∀i,i<ld.length->∃v,((a8 (ld.map (·.1))).getD i "",v)∈ld:=λi hi=>by
  have:(a8 (ld.map (·.1))).getD i "" ∈a8 (ld.map (·.1)):=by
   rw[List.getD_eq_getElem?_getD,List.getElem?_eq_getElem (by exact uC 0x12418100920c00c100200e hl hi)];exact List.getElem_mem _
  obtain⟨p,hp,e⟩:=List.mem_map.mp (hp.mem_iff.mp this)
  exact⟨p.2,by rw[<-e];exact hp⟩
 have sm:bI ld.length (λi=>κ ((a8 (ld.map (·.1))).getD i ""))=sumK ld κ:=by
  have e:(List.range ld.length).map (λi=>κ ((a8 (ld.map (·.1))).getD i ""))=(a8 (ld.map (·.1))).map κ:=by
   rw[show(List.range ld.length).map (λi=>κ ((a8 (ld.map (·.1))).getD i ""))=((List.range ld.length).map λi=>(a8 (ld.map (·.1))).getD i "").map κ by rw[List.map_map];rfl,<-hs]
  rw[jL,e,(hp.map κ).sum_nat,List.map_map];rfl
 rw[<-sm]
 refine .dict (vs:=λi=>(a7 ld ((a8 (ld.map (·.1))).getD i "")).getD .none) hm rfl h.nd hs (λi hi=>?_) (λi hi=>?_) (λi hi=>?_)
 ·obtain⟨v,hv⟩:=mem i hi
  rw[i7 h.nd hv];rfl
 ·obtain⟨v,hv⟩:=mem i hi
  exact⟨(h.ok _ hv).1,(h.ok _ hv).2.1⟩
 ·obtain⟨v,hv⟩:=mem i hi
  rw[i7 h.nd hv];exact(h.ok _ hv).2.2
theorem Tree.up{d c:Nat}{v:AV}(h:Tree d c v):Tree (d+1) c v:=by
 induction h with
 | nul=>exact .nul
 | boo b=>exact .boo b
 | int h=>exact .int h
 | str h h2=>exact .str h h2
 | byt h=>exact .byt h
 | list hm h ih=>exact .list hm ih
 | dict hm hl nd hs hv hn h ih=>exact .dict hm hl nd hs hv hn ih
end
section
variable {c:Cx}{n:Nat}{sh:Sh}{Q:AV->Sh->Prop}{X:Sh->Prop}
def qm(c:Cx)(N d:Nat):Prop:=∀(ot:Option (List UInt8)) (ns:List Int) (sf:Option (List (Str×AV))) (Q:AV->Sh->Prop) (X:Sh->Prop),ns.length<=1000->
 (∀v cost ns',ns'.length<=ns.length->cost+400*ns'.length<=100+400*ns.length->Tree (d+1) cost v->Q v ⟨ot,some ns',sf⟩)->ae c N 895 [.drw,.v (.int d)] [] ⟨ot,some ns,sf⟩ Q X
section
variable {k d:Nat}
theorem Hl{y:Int}:du true (y%2^64-2^63) 3:=by
 have h0:=Int.emod_nonneg y (show(2:Int)^64≠0 by decide)
 have h1:=Int.emod_lt_of_pos y (show(0:Int)<2^64 by decide)
 show 0-(2:Int)^(8*2^3-1)<=_/\_<(2:Int)^(8*2^3-1)
 have e:(2:Int)^(8*2^3-1)=2^63:=by decide
 have e2:(2:Int)^64=2*2^63:=by decide
 rw[e];lia
theorem Eu{y:Int}:du true (y%600-300) 3:=by
 have h0:=Int.emod_nonneg y (show(600:Int)≠0 by decide)
 have h1:=Int.emod_lt_of_pos y (show(0:Int)<600 by decide)
 show 0-(2:Int)^(8*2^3-1)<=_/\_<(2:Int)^(8*2^3-1)
 have e:(400:Int)<=(2:Int)^(8*2^3-1):=by decide
 lia
theorem iS(Z:Std c)(hL:∀d',d=d'+1->qm c (k+3) d'):qm c (k+4) d:=λot ns sf Q X hn q=>by
 refine Z.call (f:=895) rfl rfl rfl ?_
 cases ns with
 | nil=>
  walk_at"ev"
  exact q _ _ _ (Nat.le_refl _) (by show 100+400*0<=_;exact uA 0x1908000032260164200000c898) .nul
 | cons x r=>
  have hr:r.length+1<=1000:=hn
  have m0:=Int.emod_nonneg (x/8) (show(5:Int)≠0 by decide)
  have m1:=Int.emod_lt_of_pos (x/8) (show(0:Int)<5 by decide)
  have k8:x%8=0\/x%8=1\/x%8=2\/x%8=3\/x%8=4\/x%8=5\/x%8=6\/x%8=7:=Ge 7 0 (Int.emod_nonneg x (by decide)) (Int.le_of_lt_add_one (Int.emod_lt_of_pos x (by decide)))
  have leaf:∀v cost,cost<=500->Tree (d+1) cost v->Q v ⟨ot,some r,sf⟩:=λv cost hc hT=>q v cost r (Nat.le_succ _) (by rw[List.length_cons];exact uB 0x244364200000c898864200600001f440000c hc) hT
  refine dW (k:=55) 4 rfl λPP hP=>?_
  have zq0:r.length<16777216:=by exact uA 0x80000020480600003e840900c00c hr
  walk_at"ev"
  refine hP _ _ ?_
  rcases k8 with h|h|h|h|h|h|h|h<;>rw[h]
  ·walk_at"ev"
   exact leaf _ _ (by decide) .nul
  ·walk_at"ev"
   exact leaf _ _ (by decide) (.boo _)
  ·walk_at"ev"
   exact leaf _ _ (by decide) (.int Eu)
  ·walk_at"ev"
   exact leaf _ _ (by decide) (.int Hl)
  ·walk_at"ev"
   refine CQ Z λt ht=>?_
   walk_at"ev"
   exact leaf _ _ (by have:=ht.e;exact uA 0xfa20000003226000013340000c this) (.str ht.h (by have:=ht.e;exact uA 0x1f4200000013340000c this))
  ·walk_at"ev"
   refine xu Z λl hl=>?_
   walk_at"ev"
   exact leaf _ _ (by exact uA 0xfa20000003226000012b40000c hl) (.byt (by exact uA 0x1f4200000012b40000c hl))
  ·cases d with
   | zero=>
    walk_at"ev"
    walk_at"ev"
    exact leaf _ _ (by decide) (.list (m:=0) (vs:=λq0=>.none) (cs:=λq0=>0) (by decide) λi hi=>absurd hi (Nat.not_lt_zero i))
   | succ d'=>
    have L:=hL d' rfl
    have zq1:x/8%5<2^24:=by exact uI 0x8000002000000500640000054000000a00c00d (gH (x/8) 5 rfl)
    walk_at"ev"
    walk_at"ev"
    refine gY (λj acc S=>∃nj cs,S=⟨⟨ot,some nj,sf⟩,[]⟩/\nj.length<=r.length/\acc.length=j/\(∀i,i<j->Tree (d'+1) (cs i) (acc.getD i .none))/\bI j cs+400*nj.length<=100*j+400*r.length) _ 0
     (λj a S acc K ja jj kk=>?_) [] (λvs S jj=>?_) ⟨r,λq0=>0,rfl,Nat.le_refl _,rfl,λi hi=>absurd hi (Nat.not_lt_zero i),by show 0+_<=_;exact uA 0xc84008c91806420058⟩
    ·refine bp λGG1 hG1=>?_
     obtain⟨hj,rfl⟩:=b0 ja
     obtain⟨nj,cs,rfl,j1,j2,j3,j4⟩:=jj
     refine hG1 ?_
     rw[Nat.zero_add]at j2 j3 j4 kk
     walk_at"ev"
     rw[show(((d'+1:Nat):Int)-1)=d' by exact Int.le_antisymm (uA 0x2000000a0480671) (uA 0x2812019c009)]
     refine L ot nj sf _ _ (by exact uB 0x1f4210000800300003e840900c00c hr j1) λv cost n' hn' hc hT=>?_
     refine kk _ _ ⟨n',λi=>if i=j then cost else cs i,rfl,by exact uC 0x2080004000c100000c j1 hn',by rw[List.length_append,j2];rfl,λi hi=>?_,?_⟩
     ·show Tree (d'+1) (if i=j then cost else cs i) _
      by_cases w:i=j
      ·subst w
       rw[if_pos rfl,List.getD_eq_getElem?_getD,List.getElem?_append_right (by exact uB 0x20001001ffe j2),j2,Nat.sub_self];exact hT
      ·rw[if_neg w,List.getD_eq_getElem?_getD,List.getElem?_append_left (by lia),<-List.getD_eq_getElem?_getD];exact j3 i (by lia)
     ·show bI j (λi=>if i=j then cost else cs i)+(if j=j then cost else cs j)+_<=_
      rw[if_pos rfl,i5 (cs':=cs) λi hi=>if_neg (by lia)];exact nl [_,_,_,_,_,_] [] 0x619080920c648d432110006c0864200000c89a86422060061864210192310c8400c00c j4 hc
    ·refine bp λGG2 hG2=>?_
     obtain⟨nj,cs,rfl,j1,j2,j3,j4⟩:=jj
     refine hG2 ?_
     rw[List.nil_append]at j2 j3
     rw[Nat.zero_add,bc]at j2 j3 j4
     refine And.intro (by exact nl [_,_] [_] 0x400000100000417ffc0000054000000a00c00d1001ffe j2 (gH (x/8) 5 rfl) (cV (x/8%5) (uI 0x4400000000800d (jm (x/8) 5 rfl)))) ?_
     walk_at"ev"
     rw[list_range vs .none]
     refine q _ (100+bI vs.length cs) nj (by rw[List.length_cons];exact uB 0x910c00100000c j1) (by rw[List.length_cons,j2];exact nl [_,_,_,_] [_] 0x930d9080000322621908000000644d80040b9ce000002a00000050061929864210192310c8400c00c j4 (gH (x/8) 5 rfl) (cV (x/8%5) (uI 0x4400000000800d (jm (x/8) 5 rfl)))) (.list (by exact nl [_,_] [_] 0x1880000417ffc0000054000000a00c00d1001ffe j2 (gH (x/8) 5 rfl) (cV (x/8%5) (uI 0x4400000000800d (jm (x/8) 5 rfl)))) λi hi=>j3 i (by exact uC 0x2012418000920c00c1001ffe j2 hi))
  ·cases d with
   | zero=>
    walk_at"ev"
    refine⟨_,rfl,?_⟩
    walk_at"ev"
    exact leaf _ _ (by decide) ((gN.tree (d:=0) (ld:=[]) (κ:=λq0=>0) ⟨List.nodup_nil,nofun⟩ (by decide)))
   | succ d'=>
    have L:=hL d' rfl
    have zq1:x/8%5<2^24:=by exact uI 0x8000002000000500640000054000000a00c00d (gH (x/8) 5 rfl)
    walk_at"ev"
    refine bR (λj S=>∃nj ld κ,S=⟨⟨ot,some nj,sf⟩,[.dict ld]⟩/\nj.length<=r.length/\gN (d'+1) ld κ/\ld.length<=j/\sumK ld κ+400*nj.length<=100*j+400*r.length) _ (λa=>rfl) _
     (λj a S K ja jj k1=>?_) (λS jj=>?_) _ ⟨r,[],λq0=>0,rfl,Nat.le_refl _,⟨List.nodup_nil,nofun⟩,Nat.le_refl _,by show 0+_<=_;exact uA 0xc84008c91806420058⟩
    ·refine bp λGG3 hG3=>?_
     obtain⟨hj,rfl⟩:=b0 ja
     obtain⟨nj,ld,κ,rfl,j1,j2,j3,j4⟩:=jj
     refine hG3 ?_
     have j4':j<4:=by exact nl [_,_] [_] 0x1082403000417ffc0000054000000a00c00d100900c00c hj (gH (x/8) 5 rfl) (cV (x/8%5) (uI 0x4400000000800d (jm (x/8) 5 rfl)))
     have p7:(0:Int)<7^j/\(7:Int)^j<1073741824:=by
      have:j=0\/j=1\/j=2\/j=3:=by lia
      rcases this with rfl|rfl|rfl|rfl<;>decide
     have g1:=decide_eq_true p7.1
     have g2:=mw p7.2
     walk_at"ev"
     rw[show(((d'+1:Nat):Int)-1)=d' by exact Int.le_antisymm (uA 0x2000000a0480671) (uA 0x2812019c009)]
     refine L ot nj sf _ _ (by exact uB 0x1f4210000800300003e840900c00c hr j1) λv cost n' hn' hc hT=>?_
     walk_at"ev"
     rw[a5]
     walk_at"ev"
     refine FQ Z λy hy hl=>?_
     have zq0:ld.length<=16777216:=by exact uB 0x8000002000420910c00c100000c j3 j4'
     walk_at"ev"
     refine bp λGG4 hG4=>?_
     obtain⟨κ',h1,h2,h3⟩:=EG hy hl hT j2
     refine hG4 ?_
     exact k1 _ ⟨n',_,κ',rfl,by exact uC 0x2080004000c100000c j1 hn',h1,by exact uC 0x910c80048064000c100000c j3 h3,by exact nl [_,_,_,_,_,_,_] [] 0x619080920c648d432118308003600060864200000c89a86422060061864210192310c8400c00c j4 hc h2⟩
    ·refine bp λGG5 hG5=>?_
     obtain⟨nj,ld,κ,rfl,j1,j2,j3,j4⟩:=jj
     refine hG5 ?_
     rw[bc]at j3 j4
     walk_at"ev"
     exact q _ _ nj (by rw[List.length_cons];exact uB 0x910c00100000c j1) (by rw[List.length_cons];exact nl [_,_,_,_] [_] 0x930d9080000322621908000000644d80040b9ce000002a00000050061929864210192310c8400c00c j4 (gH (x/8) 5 rfl) (cV (x/8%5) (uI 0x4400000000800d (jm (x/8) 5 rfl)))) (j2.tree (by exact nl [_,_] [_] 0x1880000417ffc0000054000000a00c00d100000c j3 (gH (x/8) 5 rfl) (cV (x/8%5) (uI 0x4400000000800d (jm (x/8) 5 rfl)))))
theorem AW(Z:Std c):∀(d N:Nat),d+4<=N->qm c N d:=by
 intro d
 induction d with
 | zero=>
  intro N h
  obtain⟨k,rfl⟩:∃k,N=k+4:=⟨N-4,by exact Nat.le_antisymm (uB 0x2100c40102100e00e (Nat.sub_add_cancel (n:=N) (m:=4) (uA 0x420008402c00c h))) (uB 0x2042018102100dffe (Nat.sub_add_cancel (n:=N) (m:=4) (uA 0x420008402c00c h)))⟩
  exact iS Z λd' e=>by cases e
 | succ d ih=>
  intro N h
  obtain⟨k,rfl⟩:∃k,N=k+4:=⟨N-4,by lia⟩
  exact iS Z λd' e=>by
   cases e
   exact ih (k+3) (by exact uB 0x1910c42018108862104806c00c h)
end
end
section
variable {c:Cx}{n:Nat}{sh:Sh}{Q:AV->Sh->Prop}{X:Sh->Prop}
theorem pO{f:fe->Prop}{sc:Scope}{t:Expr}{body:List Stmt}{Q:Fo->aa->St->Prop}{ρ:aa}(J:Nat->St->Prop)
  (step:∀r S (K:Fo->aa->St->Prop),J r S->(∀S',0<r->J (r-1) S'->K .next ρ S')->f (.T sc t ρ S (λb S=>pv b (f (.B sc body ρ S K iF)) (Q .next ρ S)) iF)):∀r S,J r S->gP f sc t body Q (r+1) ρ S:=by
 intro r
 induction r with
 | zero=>
  intro S j
  exact step 0 S _ j λS' h=>absurd h (Nat.lt_irrefl 0)
 | succ r ih=>
  intro S j
  exact step (r+1) S _ j λS' q0 j'=>ih S' j'
theorem zH(Z:Std c){ot:Option (List UInt8)}{ns:List Int}{sf:Option (List (Str×AV))}(hn:ns.length<=10)(q:∀v cost ns',Tree 4 cost v->cost<=5000->Q v ⟨ot,some ns',sf⟩):ae c (n+7) 902 [.drw] [] ⟨ot,some ns,sf⟩ Q X:=by
 refine Z.call (f:=902) rfl rfl rfl ?_
 walk_at"ev"
 refine⟨7,pO (λr S=>∃nj acc cs,S=⟨⟨ot,some nj,sf⟩,[.list acc]⟩/\nj.length<=10/\acc.length+r=6/\(∀i,i<acc.length->Tree 3 (cs i) (acc.getD i .none))/\bI acc.length cs+400*nj.length<=100*acc.length+4000)
  (λr S K jj kk=>?_) 6 _ ⟨ns,[],λq0=>0,rfl,hn,rfl,λi hi=>absurd hi (Nat.not_lt_zero i),by show 0+400*ns.length<=0+4000;exact uA 0xfa04016019080160a200c84 hn⟩⟩
 obtain⟨nj,acc,cs,rfl,j1,j2,j3,j4⟩:=jj
 have fin:∀v cost,Tree 4 cost v->cost<=5000->Q v ⟨ot,some nj,sf⟩:=λv cost h1 h2=>q v cost nj h1 h2
 have tl:Tree 4 (100+bI acc.length cs) (.list acc):=by
  have:=Tree.list (m:=acc.length) (vs:=λi=>acc.getD i .none) (cs:=cs) (by exact uB 0xc400188800dffe j2) j3
  rw[<-list_range acc .none]at this;exact this
 cases nj with
 | nil=>
  have zq0:acc.length<=16777216:=by exact uB 0x2000000800188800dffe j2
  walk_at"ev"
  match acc,j2,j3,j4,tl with
  | [],j2,j3,j4,tl=>
   walk_at"ev"
   exact fin _ _ .nul (by decide)
  | [v],j2,j3,j4,tl=>
   have zq0:[v].length<16777216:=by exact uB 0x2000000812018188800dffe j2
   have zq1:[v].length<=16777216:=by exact uB 0x2000000800188800dffe j2
   walk_at"ev"
   exact fin _ _ (j3 0 (Nat.zero_lt_one)).up (by have:0+cs 0+400*0<=100*1+4000:=j4;exact uA 0x27108000003e81024648c02c8400016c00c this)
  | a::b::r',j2,j3,j4,tl=>
   have l2:(a::b::r').length=r'.length+2:=rfl
   walk_at"ev"
   exact fin _ _ tl (by exact uD 0x27108800000c8980003e8100192330c8420c00c188800dce6 j2 j4)
 | cons x r'=>
  have hr:r'.length+1<=10:=j1
  by_cases h6:acc.length<6
  ·have zq0:acc.length<=16777216:=by exact uB 0x2000000800188800dffe j2
   walk_at"ev"
   refine AW Z 2 _ (by exact uA 0xc403108458) ot (x::r') sf _ _ (by exact uA 0x1f42000a20000c j1) λv cost n' h1 h2 h3=>?_
   have zq0:acc.length<16777216:=by exact uB 0x2000000812018188800dffe j2
   walk_at"ev"
   refine kk _ (by exact uB 0x20120160620900c00c188800e00e j2 h6) ⟨n',acc++[v],λi=>if i=acc.length then cost else cs i,rfl,by exact uB 0x511000080030a20000c j1 h1,by rw[List.length_append];show acc.length+1+_=6;exact Nat.le_antisymm (uC 0x31200900d8100920dffe188800dffe j2 (Nat.sub_add_cancel (n:=r) (m:=1) (uB 0x20120620900c00c188800e00e j2 h6))) (uC 0x401201b188100920e00e188800e00e j2 (Nat.sub_add_cancel (n:=r) (m:=1) (uB 0x20120620900c00c188800e00e j2 h6))),λi hi=>?_,?_⟩
   ·show Tree 3 (if i=acc.length then cost else cs i) _
    rw[List.length_append]at hi
    have hi:i<acc.length+1:=hi
    by_cases w:i=acc.length
    ·subst w
     rw[if_pos rfl,List.getD_eq_getElem?_getD,List.getElem?_append_right (by exact uA 0x0),Nat.sub_self];exact h3
    ·rw[if_neg w,List.getD_eq_getElem?_getD,List.getElem?_append_left (by lia),<-List.getD_eq_getElem?_getD];exact j3 i (by lia)
   ·rw[List.length_append]
    show bI acc.length (λi=>if i=acc.length then cost else cs i)+(if acc.length=acc.length then cost else cs acc.length)+_<=100*(acc.length+1)+4000
    rw[if_pos rfl,i5 (cs':=cs) λi hi=>if_neg (by lia)]
    exact uE 0x1f40812418c91a06421800d810c840000191340c8430c00c0003e8110192310c8400c00c j4 h2
  ·have zq0:acc.length<=16777216:=by exact uB 0x2000000800188800dffe j2
   walk_at"ev"
   match acc,j2,j3,j4,tl with
   | [],j2,j3,j4,tl=>exact absurd (show 0<6 from by decide) h6
   | [v],j2,j3,j4,tl=>exact absurd (show 1<6 from by decide) h6
   | a::b::r'',j2,j3,j4,tl=>
    have l2:(a::b::r'').length=r''.length+2:=rfl
    walk_at"ev"
    exact fin _ _ tl (by exact uD 0x27108800000c8980003e8100192330c8420c00c188800dce6 j2 j4)
end
section
variable {c:Cx}{n:Nat}{sh:Sh}{Q:AV->Sh->Prop}{X:Sh->Prop}
theorem lj{α:Type}{l:List α}{k:Nat}:part l none (some (k:Int))=l.take k:=by
 unfold part
 show(l.drop 0).take (clipAt l.length (k:Int)-0)=_
 have:clipAt l.length (k:Int)=min k l.length:=by
  unfold clipAt
  rw[if_neg (by exact Int.not_lt.mpr (uA 0x100000011))]
  rcases Nat.le_total k l.length with h|h
  ·rw[Nat.min_eq_left h,Int.min_eq_left (Int.ofNat_le.mpr h),Int.max_eq_right (Int.natCast_nonneg _)];rfl
  ·rw[Nat.min_eq_right h,Int.min_eq_right (Int.ofNat_le.mpr h),Int.max_eq_right (Int.natCast_nonneg _)];rfl
 rw[this,List.drop_zero,Nat.sub_zero]
 by_cases h:k<=l.length
 ·rw[Nat.min_eq_left h]
 ·rw[Nat.min_eq_right (by exact uB 0x2000100900c00c (Nat.not_le.mp h)),List.take_length,List.take_of_length_le (by exact uB 0x2000100900c00c (Nat.not_le.mp h))]
section
variable {b:List UInt8}{v:AV}{k x:Int}{e E:Nat}{inl:Bool}{l0 l2:LO}{scr:AV}
noncomputable abbrev Hw(scr v:AV)(k x:Int)(e:Nat)(inl:Bool)(E:Nat)(B:List UInt8)(r:aa):aa:=(("script" :Str),.v scr)::(("value" :Str),.v v)::(("octets" :Str),.v (.oc true B))::(("root" :Str),.v (tup k x e inl))::(("exp" :Str),.v (.int E))::r
theorem tc(Z:Std c)(hc:c.clean=true){p:Nat}(hb:b.length<=65000)(C:aR 4 b v k x e inl){b2:List UInt8}(P2:Pre b b2)(sl:Slot b2 p E x e inl)(hp:b2.length=p+2^E)(hl2:b2.length<=65000){y:Int}(hy:y=4*k+(bif inl then E else e:Nat))(q:Q (.bool true) ⟨none,none,none⟩):
  ev c T0 (n+200) 53 (.B (aq (D1 44)) (List.drop 7 (bodyOf (D1 44))) [(("script" :Str),.v scr),(("value" :Str),.v v),(("octets" :Str),.loc 1),(("root" :Str),.v (tup k x e inl)),(("exp" :Str),.v (.int E))] ⟨⟨none,none,none⟩,[l0,.ba (b2++[y.toNat.toUInt8]),l2]⟩ (dk Q) (λq0 S=>X S.sh)):=by
 have hE:=sl.1
 have p8:=a4 hE
 have p0:=bF E
 have pE:(0:Int)<=2^E/\(2:Int)^E<256:=by rw[bA];exact⟨uA 0x100000011,uA 0x401000000280164820000c p8⟩
 have ok:=C.hk
 have ee:=C.he
 have we:(bif inl then E else e:Nat)<=3:=by cases inl<;>assumption
 generalize hW:(bif inl then E else e:Nat)=W at hy we
 have y1:0<=y/\y<200:=by rcases ok with ok|ok<;>lia
 have yt:(y.toNat.toUInt8.toNat:Int)=4*k+W:=by show((y.toNat%256:Nat):Int)=_;rw[Nat.mod_eq_of_lt (by exact uK 0x40102403000017ffc0000c84000000a00c00d y1.2 (cV (y) (uI 0x4400000000800d y1.1)))];exact Int.le_antisymm (nl [_,_] [_,_] 0x220048c41200417ffc0110024601fff hy (cV (y) (uI 0x4400000000800d y1.1))) (nl [_,_] [_,_] 0x820088012320041803c011002460200f hy (cV (y) (uI 0x4400000000800d y1.1)))
 have et:(((2:Int)^E).toNat.toUInt8).toNat=2^E:=by rw[lA];show 2^E%256=_;exact Nat.mod_eq_of_lt (by exact uA 0x802048060820000c p8)
 have lB:(b2++[y.toNat.toUInt8]++[((2:Int)^E).toNat.toUInt8]).length=p+2^E+2:=by rw[List.length_append,List.length_append,hp];rfl
 have PB:Pre b2 (b2++[y.toNat.toUInt8]++[((2:Int)^E).toNat.toUInt8]):=(Pre.app _ _).trans (Pre.app _ _)
 have g1:(b2++[y.toNat.toUInt8]++[((2:Int)^E).toNat.toUInt8])[p+2^E+1]? =some (((2:Int)^E).toNat.toUInt8):=by
  rw[List.getElem?_append_right (by rw[List.length_append,hp];exact Nat.le_refl _),List.length_append,hp]
  show [_][p+2^E+1-(p+2^E+1)]? =_
  rw[Nat.sub_self];rfl
 have g2:(b2++[y.toNat.toUInt8]++[((2:Int)^E).toNat.toUInt8])[p+2^E]? =some (y.toNat.toUInt8):=by
  rw[List.getElem?_append_left (by rw[List.length_append,hp];exact Nat.lt_succ_self _),List.getElem?_append_right (by exact uC 0x4043000808601ffe hp),hp,Nat.sub_self];rfl
 refine dW (k:=49) 3 rfl λPP hP=>?_
 walk_at"ev"
 rw[a5]
 walk_at"ev"
 refine And.intro (show(b2++[y.toNat.toUInt8]).length+1<16777216 by rw[List.length_append];show _+1+1<_;exact uA 0x8000002048241201b6000fde840000c hl2) ?_
 have PBB:=PB
 have R:=C.go _ (P2.trans PB) (by rw[lB];exact uC 0x7a12002089010d8003f7a100003080860200e hp hl2) p E (sl.up PB)
 generalize b2++[y.toNat.toUInt8]++[((2:Int)^E).toNat.toUInt8]=B at lB g1 g2 R PBB
 obtain⟨rv,td,kid⟩:=R
 rw[hW]at rv td
 have hz:B.length<=16000000:=by exact uD 0x7a12002300224043661ffe003f7a100003080860200e hp hl2 lB
 have root:∀{c:Cx} (Z:Std c) (kb:Bool) {sh:Sh} {Q:AV->Sh->Prop} {X:Sh->Prop} {n:Nat},Q (aO kb B p (2^E:Nat) (2^W:Nat) k) sh->ae c (n+6) 869 [.v (oc kb B)] [] sh Q X:=λZ kb q0 q1 q2 q3 q=>
  uL Z hz (by exact uC 0x80c8088020d888038002402c00c p0 lB) (w:=2^E) (e:=W) (by exact uC 0x20116022404360200e lB) (by rw[lB];exact g1) et (by rw[lB];exact g2) yt ok we (by rw[show B.length-2-2^E=p by lia];exact q)
 walk_at"ev"
 refine root Z true ?_
 obtain⟨r1,hv1,hs1⟩:=rv true
 obtain⟨r2,hv2,hs2⟩:=rv false
 walk_at"ev"
 refine rM hz hv1 _ _ Z.soft (by exact uA 0x31d0060910b07a0) _ _ _ ?_
 walk_at"ev"
 refine wy hs1 _ _ Z (by exact uA 0x190803048858) _ _ _ ?_
 walk_at"ev"
 refine root Z false ?_
 walk_at"ev"
 refine rM hz hv2 _ _ Z.soft (by exact uA 0x31d0060910b07a0) _ _ _ ?_
 walk_at"ev"
 refine wy hs2 _ _ Z (by exact uA 0x190803048858) _ _ _ ?_
 obtain⟨ht,nt,nf,⟨i,hi,hd⟩,hs,hk⟩:=td
 have kt:0<=k/\k<100:=by rcases ht with ht|ht<;>lia
 have fin:∀r,PP (Hw scr v k x e inl E B r) ⟨⟨none,none,none⟩,[]⟩:=λr=>hP _ _ (by
  walk_at"ev"
  refine root Z true ?_
  walk_at"ev"
  refine ae.hard ?_
  refine sQ Z.soft rfl hz kt nt nf hi hd hs hk ?_
  walk_at"ev"
  exact q)
 by_cases k10:k=10
 ·obtain⟨hin,a,m,vs,ts,es,rfl,rfl,hm,ha,hnum,haB,kids⟩:=kid k10
  subst hin
  have hW:e=W:=hW
  subst hW
  have w4e:=bH we
  obtain⟨_,slp,a',ea,sln⟩:=sl.up (B:=B) PBB
  have ea:a=a':=by exact Nat.le_antisymm (uB 0x800041005fff ea) (uB 0x1004100600f ea)
  subst ea
  have o:az B p (2^E) a:=.of hz hE slp sln
  have sz:aX B a (2^e) m:=⟨w4e,ha,hnum⟩
  have lv:((List.range m).map vs).length=m:=by rw[List.length_map,List.length_range]
  walk_at"ev"
  refine root Z true ?_
  walk_at"ev"
  refine dY Z.soft (.inl k10) o sz haB ?_
  walk_at"ev"
  rw[lv,Int.toNat_natCast]
  refine bR (λj S=>S=⟨⟨none,none,none⟩,[]⟩) (Hw scr (.list ((List.range m).map vs)) k a e false E B [(("told" :Str),.v (cw 471 true B a (2^e:Nat) m))]) (λa=>rfl) _ (λj aj S K ja jj k1=>?_) (λS jj=>?_) _ rfl
  ·obtain⟨hj,rfl⟩:=b0 ja
   subst jj
   obtain⟨⟨⟨dd,hdd,ed⟩,tj,ej⟩,td⟩:=kids j hj
   obtain⟨_,nt',nf',⟨i',hi',hd'⟩,hs',hk'⟩:=td
   have kt':0<=ts j/\ts j<100:=by rcases tj with tj|tj<;>lia
   have nx:dT B ((a:Int)+((List.range m).map vs).length*(2:Int)^e+j)=some dd:=by
    rw[lv,bA,show((a:Int)+(m:Int)*((2^e:Nat):Int)+j)=((a+m*2^e+j:Nat):Int) by rw[Int.natCast_add,Int.natCast_add,Int.natCast_mul]]
    unfold dT;rw[decide_eq_true (by exact uC 0x80800d900000011)];exact hdd
   have q4:(dd.toNat:Int)/4=ts j:=by lia
   walk_at"ev"
   refine lH Z.soft hz w4e (by exact uA 0x7a120020000f424040000c hm) hj hdd tj ej ed ?_
   rw[bA]
   walk_at"ev"
   rw[a5]
   walk_at"ev"
   rw[nx]
   walk_at"ev"
   rw[eZ hj]
   walk_at"ev"
   rw[q4]
   refine ae.hard ?_
   refine sQ Z.soft rfl hz kt' nt' nf' hi' hd' hs' hk' ?_
   walk_at"ev"
   exact k1 _ rfl
  ·subst jj
   walk_at"ev"
   exact fin _
 ·walk_at"ev"
  exact fin []
theorem xD(Z:Std c)(hc:c.clean=true)(hb:b.length<=64000)(C:aR 4 b v k x e inl)(hE:E<=3)(h1:inl=true->e<=E)(h2:inl=false->1<=E)(q:Q (.bool true) ⟨none,none,none⟩):
  ev c T0 (n+200) 56 (.B (aq (D1 44)) (List.drop 4 (bodyOf (D1 44))) [(("script" :Str),.v scr),(("value" :Str),.v v),(("octets" :Str),.loc 1),(("root" :Str),.v (tup k x e inl)),(("exp" :Str),.v (.int E))] ⟨⟨none,none,none⟩,[l0,.ba b,l2]⟩ (dk Q) (λq0 S=>X S.sh)):=by
 have p8:=a4 hE
 refine dW (k:=52) 3 rfl λPP hP=>?_
 walk_at"ev"
 refine dz (b:=b) Z hc (by exact uA 0x7a1200200000fa0040000c hb) hE λb1 P1 z1 z2=>?_
 walk_at"ev"
 refine kS (b:=b1) Z hc (by exact uB 0x7ef42100720188003000fa0040000c hb z2) hE h1 (λz=>⟨h2 z,by obtain⟨a,e1,e2⟩:=C.hx z;exact⟨a,e1,by exact uC 0x2080004000c100000c z1 e2⟩⟩) λb2 P2 hl2 sl=>?_
 have ok:=C.hk
 have ee:=C.he
 have y1:0<=4*k/\4*k<200:=by rcases ok with ok|ok<;>lia
 have go:∀y:Int,y=4*k+(bif inl then E else e:Nat)->PP _ ⟨⟨none,none,none⟩,[l0,.ba (b2++[y.toNat.toUInt8]),l2]⟩:=λy hy=>hP [(("script" :Str),.v scr),(("value" :Str),.v v),(("octets" :Str),.loc 1),(("root" :Str),.v (tup k x e inl)),(("exp" :Str),.v (.int E))] _ (tc (n:=n) Z hc (by exact uB 0x7ef42100720188003000fa0040000c hb z2) (C.up P1) P2 sl hl2 (by exact uD 0x7ef42300410661ffe1c8064000c2088003000fa0040000c hb p8 z2 hl2) hy q)
 cases inl
 ·have zq0:0<=4*k+ ↑e:=by exact uK 0x40009180000008800120000000800d y1.1
  have zq1:4*k+ ↑e<256:=by exact uK 0x1004000000a00400091b2000064200000050001230034320000c ee y1.2
  walk_at"ev"
  refine And.intro (show b2.length+1<16777216 by exact uD 0x800000204824c360410661ffe1c8064000c2088003000fa0040000c hb p8 z2 hl2) ?_
  walk_at"ev"
  exact go _ rfl
 ·have le:=h1 rfl
  have emax:(bif decide ((E:Int)>(e:Int))then(E:Int)else(e:Int))=E:=by
   by_cases w:(E:Int)>e
   ·rw[decide_eq_true w];rfl
   ·rw[decide_eq_false w];show(e:Int)=E;lia
  walk_at"ev"
  rw[emax]
  walk_at"ev"
  refine And.intro (show b2.length+1<16777216 by exact uD 0x800000204824c360410661ffe1c8064000c2088003000fa0040000c hb p8 z2 hl2) ?_
  walk_at"ev"
  exact go _ rfl
theorem G3(Z:Std c)(hc:c.clean=true){ns:List Int}(hn:ns.length<=63)(q:Q (.bool true) ⟨none,none,none⟩):ae c (n+201) 1014 [.v (.list (ns.map .int))] [] ⟨none,none,none⟩ Q X:=by
 have ln:(ns.map AV.int).length=ns.length:=List.length_map ..
 have l10:part (ns.map AV.int) none (some 10)=(ns.take 10).map .int:=by rw[List.map_take];exact lj (k:=10)
 have l20:part (ns.map AV.int) none (some 20)=(ns.take 20).map .int:=by rw[List.map_take];exact lj (k:=20)
 have k10:(ns.take 10).length<=10:=List.length_take_le ..
 have k20:(ns.take 20).length<=20:=List.length_take_le ..
 have m10:((ns.take 10).map AV.int).length<=10:=by rw[List.length_map];exact k10
 have m20:((ns.take 20).map AV.int).length<=20:=by rw[List.length_map];exact k20
 have hcl:oK c (LO.ba [])=true:=hc
 refine Z.call (f:=1014) rfl rfl rfl ?_
 refine dW (k:=55) 4 rfl λPP hP=>?_
 have zq0:(List.map AV.int ns).length<=16777216:=by exact uB 0x80000021000087ffbf20000c hn ln
 walk_at"ev"
 rw[l10]
 walk_at"ev"
 refine bK _ _ ?_
 walk_at"ev"
 refine zH Z k10 λv cost ns1 hT hcost=>?_
 walk_at"ev"
 refine⟨_,_,_,_,qt.mk ..,by decide +kernel,?_⟩
 have zq0:(List.map AV.int ns).length<=16777216:=by exact uB 0x80000021000087ffbf20000c hn ln
 walk_at"ev"
 rw[l20]
 walk_at"ev"
 refine bK _ _ ?_
 have zq0:(List.map AV.int (List.take 20 ns)).length<=16777216:=by exact uA 0x8000002001420000c m20
 walk_at"ev"
 refine bK _ _ ?_
 walk_at"ev"
 refine Gb Z hc 4 _ (by exact uA 0x321006391080518) v cost [] (d3 0 (ns.take 20)) none _ _ hT (by show 0+cost<=63900;exact uA 0x7cce200016000138840000c hcost) (by rw[gR];exact uA 0x1f42001420000c k20) λk x e inl b ns' P hl C hn'=>?_
 have hl:b.length+40<=0+cost:=hl
 have T:=λ(E:Nat) (h1:E<=3) (h2:inl=true->e<=E) (h3:inl=false->1<=E)=>xD (n:=n) (l0:=.list (ns1.map .int)) (l2:=.list (ns'.map .int)) (scr:=.list (ns.map .int)) (X:=X) Z hc (by exact uB 0x7d0021000005d0443003000138840000c hcost hl) C h1 h2 h3 q
 have ee:=C.he
 have mx:∀(e0:Nat) (r:Int),e0<=3->0<=r->r<4->∃E:Nat,(bif decide (r>(e0:Int))then r else(e0:Int))=E/\e0<=E/\E<=3:=λe0 r h0 h1 h2=>by
  refine bp λGG1 hG1=>?_
  obtain⟨E,h1,h2,h3,_⟩:=fS h0 h1 h2
  refine hG1 ?_
  exact⟨E,h1,h2,h3⟩
 rcases ns with _|⟨x0,r0⟩<;>cases inl
 ·refine bp λGG2 hG2=>?_
  obtain⟨E,h1,h2,h3⟩:=mx 1 0 (by decide) (by decide) (by decide)
  refine hG2 ?_
  have zq0:(List.map AV.int []).length<16777216:=by exact uB 0x80000020488600087ffbf20000c hn ln
  walk_at"ev"
  rw[show(bif decide ((0:Int)>1)then(0:Int)else 1)=E from h1]
  exact hP _ _ (T E h3 nofun (λq0=>h2))
 ·refine bp λGG3 hG3=>?_
  obtain⟨E,h1,h2,h3⟩:=mx e 0 ee (by decide) (by decide)
  refine hG3 ?_
  have zq0:(List.map AV.int []).length<16777216:=by exact uB 0x80000020488600087ffbf20000c hn ln
  walk_at"ev"
  rw[h1]
  exact hP _ _ (T E h3 (λq0=>h2) nofun)
 ·have m0:=Int.emod_nonneg (x0/3) (show(4:Int)≠0 by decide)
  have m1:=Int.emod_lt_of_pos (x0/3) (show(0:Int)<4 by decide)
  refine bp λGG4 hG4=>?_
  obtain⟨E,h1,h2,h3⟩:=mx 1 (x0/3%4) (by decide) m0 m1
  refine hG4 ?_
  have zq0:(List.map AV.int (x0::r0)).length<16777216:=by exact uB 0x80000020488600087ffbf20000c hn ln
  have zq1:(List.map AV.int (x0::r0)).length<=16777216:=by exact uB 0x80000021000087ffbf20000c hn ln
  walk_at"ev"
  rw[show(bif decide (x0/3%4>(1:Int))then x0/3%4 else 1)=E from h1]
  exact hP _ _ (T E h3 nofun (λq0=>h2))
 ·have m0:=Int.emod_nonneg (x0/3) (show(4:Int)≠0 by decide)
  have m1:=Int.emod_lt_of_pos (x0/3) (show(0:Int)<4 by decide)
  refine bp λGG5 hG5=>?_
  obtain⟨E,h1,h2,h3⟩:=mx e (x0/3%4) ee m0 m1
  refine hG5 ?_
  have zq0:(List.map AV.int (x0::r0)).length<16777216:=by exact uB 0x80000020488600087ffbf20000c hn ln
  have zq1:(List.map AV.int (x0::r0)).length<=16777216:=by exact uB 0x80000021000087ffbf20000c hn ln
  walk_at"ev"
  rw[h1]
  exact hP _ _ (T E h3 (λq0=>h2) nofun)
end
end
end Mine
namespace Hd
noncomputable abbrev pw:Program:=PySem.Challenge.pw_jm0002_01
noncomputable abbrev S(x:String):Str:=Str.ofString x
noncomputable abbrev I(a t:Nat):Value:=.int (.ofNat a) t
noncomputable abbrev V(x:String)(t:Nat):Value:=.str (Str.ofString x) t
noncomputable abbrev R(a:Addr):Value:=.ref a
noncomputable abbrev B(x:String):Value:=.builtin x
noncomputable abbrev Y(x:String):Value:=.type x
noncomputable abbrev z{α:Type}:Array α:= #[]
noncomputable def E(P:Params)(x:String)(t:Nat)(v:Value):DictEntry:=⟨PyData.keyHash P (Str.ofString x),.str (Str.ofString x) t,v⟩
noncomputable def dT:List Stmt->Nat->Stmt
 | [],_=>default
 | a::_,0=>a
 | _::r,n+1=>dT r n
noncomputable def D1(i:Nat):Stmt:=dT pw.main.body i
noncomputable def D2(i j:Nat):Stmt:=if h:(D1 i).ctorIdx=2 then Stmt.ClassDef.elim (motive_2:=λq0=>Stmt) (D1 i) h λq0 q1 q2 b q3 q4 q5 q6 q7 q8 q9=>dT b j else default
noncomputable def F(st:Stmt)(q:Str)(g:Addr)(cl:List (Str×Addr))(dv kv doc pm:Value)(an:Option Addr)(cd ct:Value)(bl:Addr):FuncData:=
 if h:st.ctorIdx=0 then Stmt.FunctionDef.elim (motive_2:=λq0=>FuncData) st h λn a b q0 q1 q2 sc q3 q4 q5=>⟨n,q,a,.stmts b,sc,g,cl,dv,kv,doc,pm,an,cd,ct,bl⟩else default
noncomputable def u(T:BT)(a:Nat)(o:Obj):BT:=T.set a λq0=>o
noncomputable def ins:BT->Nat->List Obj->BT
 | T,_,[]=>T
 | T,a,o::r=>ins (T.ins a o) (a+1) r
noncomputable def pE(o:Obj)(e:DictEntry):Obj:=match o with
 | ⟨c,d,.dict es n,s⟩=>⟨c,d,.dict (es.push e) (n+1),s⟩
 | o=>o
noncomputable def pN(o:Obj)(e:DictEntry):Obj:=match o with
 | ⟨c,d,.dict es n,s⟩=>⟨c,d,.dict ⟨e::es.toList.tail⟩ n,s⟩
 | o=>o
noncomputable def pF(o:Obj)(a b r:Nat):Obj:=match o with
 | ⟨c,d,.fields vs,s⟩=>⟨c,d,.fields ⟨vs.toList++[I a 0,I b 0,R r]⟩,s⟩
 | o=>o
noncomputable def lf(P:Params):Life:=(boot_heap P).life
noncomputable def aV:Env:={scope:=pw.main.scope,locals:=mainNs,globals:=mainNs,cells:=[],code:=.ref 13,frame:=some 14}
noncomputable abbrev af:Code:=.body (behindTheImports pw) aV
noncomputable abbrev hB:List Frame:=[topFrame ⟨0,0,0,0⟩]
theorem ag{w:World}{n b m:Nat}{an:Option Value}{s:OsState->SharedT}{l:List Stmt}{c:Code}{e:Env}{q:Pos}{B:List Frame}{r:OsState->Option (Flow×SharedT×Code×Pos)}
  (h:(λos=>Fast.tw10110043849684766642 Fast.tw14364793385576792824 pw w m an b n (s os) ⟨(Fast.tw12563942051412417395 l e).wrap doneF deadEnd id id,c,q,B⟩)=r):(λos=>segRunT treeTable pw w m an b n (s os) (piecesOf l e c q B))=r:=by
 rw[Fast.te10110043849684766642,Fast.te14364793385576792824]
 unfold piecesOf;rw[Fast.te12563942051412417395];exact h
noncomputable def f0(x0:String)(x1:Nat)(x2:String)(x3:Nat)(x4:Nat)(x5:Nat)(x6:Nat):Obj:=⟨(Y "code"),none,(.fields #[(V x0 x1),(V x2 (x1+1)),(V "/claim/cut.py" (x1+2)),(I x3 0),(I x4 0),(I 0 0),(I 0 0),(I 3 0),(R x5),(.bool true),(I 181 0),(R (x5+1)),.none,(R (x5+2)),(R (x5+3)),(R (x5+4)),(I x6 0),(I x3 0),(V "/claim/cut.py" (x6+1))]),z⟩
noncomputable def f1(x0:Nat)(x1:Nat)(x2:String):Obj:=⟨.none,none,(.func (F (D2 x0 x1) (S x2) 0 [] .none .none .none .none none .none .none 0)),z⟩
noncomputable def f2(x0:Nat)(x1:Nat)(x2:String)(x3:Nat):Obj:=⟨(Y "function"),none,(.func (F (D2 x0 x1) (S x2) 3 [] .none .none .none (V "flatbuffers.flexbuffers" 194) none (R x3) .none 0)),z⟩
noncomputable def f3:Obj:=⟨(Y "tuple"),none,(.seq z 0),z⟩
noncomputable def f4:Obj:=⟨.none,none,(.fields z),z⟩
noncomputable def f5(x0:Nat)(x1:String)(x2:Nat):Obj:=⟨(Y "property"),none,(.fields #[(R x0),.none,.none,.none,(V x1 x2),(.bool false)]),z⟩
noncomputable def f6(x0:Nat)(x1:String)(x2:String)(x3:Nat)(x4:Nat):Obj:=⟨(Y "function"),none,(.func (F (D1 x0) (S x1) 3 [] .none .none .none (V x2 x3) none (R x4) .none 0)),z⟩
noncomputable def f7(x0:Nat)(x1:String):Obj:=⟨.none,none,(.func (F (D1 x0) (S x1) 0 [] .none .none .none .none none .none .none 0)),z⟩
noncomputable def f8(x0:String)(x1:Nat)(x2:Nat)(x3:Nat):Obj:=⟨(Y "code"),none,(.fields #[(V x0 x1),(V x0 (x1+1)),(V "/claim/cut.py" (x1+2)),(I x2 0),(I 0 0),(I 0 0),(I 0 0),(I 0 0),(R x3),(.bool false),(I 181 0),(R (x3+1)),.none,.none,.none,.none,(I (x1+3) 0),(I x2 0),(V "/claim/cut.py" (x1+4))]),z⟩
noncomputable def f9(x0:String)(x1:Nat)(x2:String)(x3:Nat)(x4:Nat)(x5:Nat):Obj:=⟨(Y "code"),none,(.fields #[(V x0 x1),(V x2 (x1+1)),(V "/claim/cut.py" (x1+2)),(I x3 0),(I x4 0),(I 0 0),(I 0 0),(I 3 0),(R x5),(.bool true),(I 181 0),(R (x5+1)),.none,.none,.none,(R (x5+2)),(I (x1+3) 0),(I x3 0),(V "/claim/cut.py" (x1+4))]),z⟩
noncomputable def bO(x0:String)(x1:Nat):Obj:=⟨(Y "tuple"),none,(.seq #[(V x0 x1)] 0),z⟩
noncomputable def tS(P:Params)(x0:Nat)(x1:String)(x2:String)(x3:Nat):Obj:=⟨(Y "dict"),none,(.dict #[E P "__module__" x0 (V "flatbuffers.flexbuffers" 194),E P "__name__" (x0+3) (V x1 (x0+2)),E P "__qualname__" (x0+6) (V x2 (x0+5)),E P "__doc__" (x0+8) .none,E P "__annotations__" (x0+10) (R x3)] 5),z⟩
noncomputable def ua(x0:Nat)(x1:Nat)(x2:String)(x3:Nat):Obj:=⟨(Y "frame"),none,.plain,#[(some (R x0)),(some (R 3)),(some (R x1)),none,(some (V x2 x3)),none,(some (R 0))]⟩
noncomputable def uQ(x0:Nat)(x1:Nat)(x2:String)(x3:Nat)(x4:Nat):Obj:=⟨(Y "function"),none,(.func (F (D2 x0 x1) (S x2) 3 [] .none .none .none (V "flatbuffers.flexbuffers" 194) (some x3) (R x4) .none 0)),z⟩
noncomputable def nh(x0:String)(x1:Nat)(x2:String):Obj:=⟨(Y "tuple"),none,(.seq #[(V x0 x1),(V x2 (x1+1))] 0),z⟩
noncomputable def qQ(x0:String)(x1:Nat)(x2:String)(x3:String):Obj:=⟨(Y "tuple"),none,(.seq #[(V x0 x1),(V x2 (x1+1)),(V x3 (x1+2))] 0),z⟩
noncomputable def HY(x0:String)(x1:Nat)(x2:Nat)(x3:Nat)(x4:Nat):Obj:=⟨(Y "type"),none,(.cls ⟨(S x0),[(R 321)],[(R x1),(R 321),(R 282),(Y "object")],x2,(S x0),true,[],[],false,none,false⟩),#[(some (R x3)),none,(some (V x0 x4)),(some (V x0 (x4+8))),(some (B "object.__new__")),(some (.bool true))]⟩
noncomputable def uw(x0:Nat)(x1:Nat):Obj:=⟨(Y "staticmethod"),(some x0),(.fields #[(R x1),(.bool false)]),z⟩
noncomputable def HX(x0:String)(x1:Nat)(x2:Nat)(x3:Nat):Obj:=⟨(Y "type"),none,(.cls ⟨(S x0),[(Y "object")],[(R x1),(Y "object")],x2,(S x0),true,[],[],false,none,false⟩),#[none,none,(some (V x0 x3)),(some (V x0 (x3+8))),(some (B "object.__new__")),(some (.bool true))]⟩
noncomputable def uO(x0:Nat):Obj:=⟨(Y "super"),none,(.fields #[(R x0),(R x0),(R x0)]),z⟩
noncomputable def uR:Obj:=⟨(Y "builtin_function_or_method"),none,(.fields #[(B "type.__prepare__"),(Y "type")]),z⟩
noncomputable def uP(x0:Nat):Obj:=⟨(Y "builtin_function_or_method"),none,(.fields #[(B "object.__init_subclass__"),(R x0)]),z⟩
noncomputable def CJ(x0:String)(x1:Nat)(x2:String)(x3:String)(x4:String):Obj:=⟨(Y "tuple"),none,(.seq #[(V x0 x1),(V x2 (x1+1)),(V x3 (x1+2)),(V x4 (x1+3))] 0),z⟩
noncomputable def Kq(x0:String)(x1:Nat)(x2:Nat)(x3:Nat)(x4:Nat)(x5:Nat):Obj:=⟨(Y "type"),none,(.cls ⟨(S x0),[(R 282)],[(R x1),(R 282),(Y "object")],x2,(S x0),true,[],[],false,none,false⟩),#[(some (R x3)),none,(some (V x0 x4)),(some (V x0 x5)),(some (B "object.__new__")),(some (.bool true))]⟩
noncomputable def Kj(P:Params)(x0:Nat)(x1:Nat)(x2:String)(x3:Nat)(x4:Nat)(x5:Nat)(x6:Nat)(x7:String)(x8:Nat)(x9:Nat)(x10:String)(x11:Nat)(x12:Nat)(x13:String)(x14:Nat)(x15:Nat)(x16:String)(x17:Nat)(x18:Nat)(x19:String)(x20:Nat)(x21:Nat)(x22:String)(x23:Nat)(x24:Nat)(x25:String)(x26:Nat)(x27:Nat):Obj:=⟨(Y "dict"),none,(.dict #[E P "__module__" x0 (V "flatbuffers.flexbuffers" 194),E P "__qualname__" x1 (V x2 x3),E P "__firstlineno__" x4 (I x5 x6),E P x7 x8 (R x9),E P x10 x11 (R x12),E P x13 x14 (R x15),E P x16 x17 (R x18),E P x19 x20 (R x21),E P x22 x23 (R x24),E P x25 x26 (R x27)] 10),z⟩
noncomputable def Li(P:Params)(x0:Nat)(x1:Nat)(x2:Nat)(x3:Nat)(x4:String)(x5:Nat)(x6:Nat)(x7:String)(x8:Nat)(x9:Nat)(x10:String)(x11:Nat)(x12:Nat)(x13:String)(x14:Nat)(x15:Nat)(x16:Nat)(x17:Nat)(x18:Nat)(x19:Nat)(x20:Nat)(x21:Nat)(x22:Nat)(x23:Nat):Obj:=⟨(Y "dict"),none,(.dict #[E P "__module__" x0 (V "flatbuffers.flexbuffers" 194),E P "__firstlineno__" x1 (I x2 x3),E P x4 x5 (R x6),E P x7 x8 (R x9),E P x10 x11 (R x12),E P x13 x14 (R x15),E P "Value" x16 (R x17),E P "__repr__" x18 (R x19),E P "__static_attributes__" x20 (R x21),E P "__doc__" x22 .none] x23),z⟩
noncomputable def um:Obj:=⟨(Y "dict"),none,(.dict z 0),z⟩
noncomputable def zu(x0:Nat):Obj:=⟨(Y "tuple"),none,(.seq #[(R x0)] 0),z⟩
noncomputable def KZ(x0:Nat)(x1:Nat)(x2:Nat)(x3:Nat)(x4:Nat)(x5:Nat)(x6:Nat)(x7:Nat)(x8:Nat)(x9:Nat)(x10:Nat)(x11:Nat):Obj:=⟨.none,none,(.fields #[(I x0 0),(I 4 0),(R x1),(I x2 0),(I 4 0),(R x3),(I x4 0),(I 4 0),(R x5),(I x6 0),(I 4 0),(R x7),(I x8 0),(I 4 0),(R x9),(I x10 0),(I 4 0),(R x11)]),z⟩
noncomputable def KN(P:Params)(x0:Nat)(x1:Nat)(x2:String)(x3:Nat)(x4:Nat)(x5:Nat)(x6:Nat)(x7:String)(x8:Nat)(x9:Nat)(x10:String)(x11:Nat)(x12:Nat)(x13:String)(x14:Nat)(x15:Nat)(x16:String)(x17:Nat)(x18:Nat)(x19:String)(x20:Nat)(x21:Nat):Obj:=⟨(Y "dict"),none,(.dict #[E P "__module__" x0 (V "flatbuffers.flexbuffers" 194),E P "__qualname__" x1 (V x2 x3),E P "__firstlineno__" x4 (I x5 x6),E P x7 x8 (R x9),E P x10 x11 (R x12),E P x13 x14 (R x15),E P x16 x17 (R x18),E P x19 x20 (R x21)] 8),z⟩
noncomputable def KU(P:Params)(x0:Nat)(x1:Nat)(x2:Nat)(x3:Nat)(x4:String)(x5:Nat)(x6:Nat)(x7:String)(x8:Nat)(x9:Nat)(x10:String)(x11:Nat)(x12:Nat)(x13:String)(x14:Nat)(x15:Nat)(x16:String)(x17:Nat)(x18:Nat)(x19:Nat)(x20:Nat):Obj:=⟨(Y "dict"),none,(.dict #[E P "__module__" x0 (V "flatbuffers.flexbuffers" 194),E P "__firstlineno__" x1 (I x2 x3),E P x4 x5 (R x6),E P x7 x8 (R x9),E P x10 x11 (R x12),E P x13 x14 (R x15),E P x16 x17 (R x18),E P "__doc__" x19 .none] x20),z⟩
noncomputable def FU(x0:Nat)(x1:Nat):Obj:=⟨(Y "getset_descriptor"),none,(.fields #[(V "__weakref__" x0),(R x1),(B "ExceptionGroup.__weakref__"),.none]),z⟩
noncomputable def KJ(P:Params)(x0:Nat)(x1:Nat)(x2:Nat)(x3:Nat)(x4:String)(x5:Nat)(x6:Nat)(x7:String)(x8:Nat)(x9:Nat)(x10:String)(x11:Nat)(x12:Nat)(x13:Nat)(x14:Nat)(x15:Nat)(x16:Nat):Obj:=⟨(Y "dict"),none,(.dict #[E P "__module__" x0 (V "flatbuffers.flexbuffers" 194),E P "__firstlineno__" x1 (I x2 x3),E P x4 x5 (R x6),E P x7 x8 (R x9),E P x10 x11 (R x12),E P "__static_attributes__" x13 (R x14),E P "__doc__" x15 .none] x16),z⟩
noncomputable def K8(P:Params)(x0:Nat)(x1:Nat)(x2:String)(x3:Nat)(x4:Nat)(x5:Nat)(x6:Nat)(x7:String)(x8:Nat)(x9:Nat)(x10:String)(x11:Nat)(x12:Nat)(x13:Nat)(x14:Nat):Obj:=⟨(Y "dict"),none,(.dict #[E P "__module__" x0 (V "flatbuffers.flexbuffers" 194),E P "__qualname__" x1 (V x2 x3),E P "__firstlineno__" x4 (I x5 x6),E P x7 x8 (R x9),E P x10 x11 (R x12),E P "__static_attributes__" x13 (R x14)] 6),z⟩
noncomputable def J3(x0:Nat)(x1:String)(x2:Nat)(x3:Nat)(x4:String)(x5:Nat)(x6:Nat)(x7:String)(x8:Nat)(x9:Nat)(x10:String)(x11:Nat):Obj:=⟨(Y "dict"),none,(.dict #[⟨1,(I 1 x0),(V x1 x2)⟩,⟨2,(I 2 x3),(V x4 x5)⟩,⟨4,(I 4 x6),(V x7 x8)⟩,⟨8,(I 8 x9),(V x10 x11)⟩] 4),z⟩
noncomputable def HS(x0:Nat)(x1:Nat):Obj:=⟨(Y "getset_descriptor"),none,(.fields #[(V "__dict__" x0),(R x1),(B "function.__dict__"),(B "function.__dict__#set")]),z⟩
noncomputable def Kn(x0:Nat)(x1:String)(x2:Nat)(x3:Nat)(x4:Nat)(x5:Nat):Obj:=⟨(Y "function"),none,(.func (F (D2 x0 0) (S x1) 3 [((S "__class__"),x2)] (R x3) .none .none (V "flatbuffers.flexbuffers" 194) none (R x4) (R x5) 0)),z⟩
noncomputable def H6(x0:String)(x1:Nat)(x2:String)(x3:String)(x4:String)(x5:String):Obj:=⟨(Y "tuple"),none,(.seq #[(V x0 x1),(V x2 (x1+1)),(V x3 (x1+2)),(V x4 (x1+3)),(V x5 (x1+4))] 0),z⟩
noncomputable def Ld(x0:Nat)(x1:Nat)(x2:Nat)(x3:Nat)(x4:Nat)(x5:Nat):Obj:=⟨.none,none,(.fields #[(I x0 0),(I 4 0),(R x1),(I x2 0),(I 4 0),(R x3),(I x4 0),(I 4 0),(R x5)]),z⟩
noncomputable def Kb(x0:String)(x1:Nat)(x2:String)(x3:Nat)(x4:String)(x5:Nat)(x6:String)(x7:Nat)(x8:String)(x9:Nat)(x10:String)(x11:Nat)(x12:String)(x13:Nat)(x14:String)(x15:Nat):Obj:=⟨(Y "tuple"),none,(.seq #[(V x0 x1),(V x2 x3),(V x4 x5),(V x6 x7),(V x8 x9),(V x10 x11),(V x12 x13),(V x14 x15)] 0),z⟩
noncomputable def KG(x0:Nat)(x1:String)(x2:Nat)(x3:String)(x4:Nat)(x5:String)(x6:Nat)(x7:String)(x8:Nat)(x9:String)(x10:Nat):Obj:=⟨(Y "tuple"),none,(.seq #[(V "octets" x0),(V x1 x2),(V x3 x4),(V x5 x6),(V x7 x8),(V x9 x10)] 0),z⟩
noncomputable def J8(x0:Nat)(x1:Nat)(x2:Nat)(x3:Nat):Obj:=⟨.none,none,(.fields #[(I x0 0),(I 4 0),(R x1),(I x2 0),(I 4 0),(R x3)]),z⟩
noncomputable def Jt(x0:Nat):Obj:=⟨(Y "cell"),none,(.cell (some (R x0))),z⟩
noncomputable def IE(x0:Nat):Obj:=⟨(Y "tuple"),none,(.seq #[(I 0 x0)] 0),z⟩
noncomputable def xn(P:Params):Obj:=f3
noncomputable def vp(P:Params):Obj:=f4
noncomputable def y2(P:Params):Obj:=f8 "<module>" 182 1 11
noncomputable def xP(P:Params):Obj:=ua 13 3 "__main__" 164
noncomputable def T0(P:Params):BT:=(((((((((((((((BT.nil).ins 0 (boot_o_0 P)).ins 1 (boot_o_1 P)).ins 2 (boot_o_2 P)).ins 3 (boot_o_3 P)).ins 4 (boot_o_4 P)).ins 5 (boot_o_5 P)).ins 6 (boot_o_6 P)).ins 7 (boot_o_7 P)).ins 8 (boot_o_8 P)).ins 9 (boot_o_9 P)).ins 10 (boot_o_10 P)).ins 11 (xn P)).ins 12 (vp P)).ins 13 (y2 P)).ins 14 (xP P)
noncomputable def GP(P:Params):Obj:=⟨(Y "dict"),none,(.dict #[E P "__name__" 165 (V "__main__" 164),E P "__doc__" 166 .none,E P "__package__" 167 .none,E P "__loader__" 168 (B "__main__.__loader__#opaque"),E P "__spec__" 169 .none,E P "__annotations__" 170 (R 6),E P "__builtins__" 171 (R 4),E P "__file__" 173 (V "/claim/cut.py" 172),E P "__cached__" 174 .none,E P "_wall" 193 (R 21)] 10),z⟩
noncomputable def Bs(P:Params):Obj:=pF (vp P) 1 0 20
noncomputable def L1(P:Params):List Obj:=[f3,f4,bO "k" 190,f3,f7 0 "_wall",f0 "_wall" 187 "_wall" 1 1 15 191,f6 0 "_wall" "__main__" 164 20]
noncomputable def T1(P:Params):BT:=ins (u (u (T0 P) 3 (GP P)) 12 (Bs P)) 15 (L1 P)
noncomputable def Ga(P:Params):Obj:=pN (GP P) (E P "__name__" 165 (V "flatbuffers.flexbuffers" 194))
noncomputable def T2(P:Params):BT:=u (T1 P) 3 (Ga P)
noncomputable def G1(P:Params):Obj:=⟨.none,none,(.dict #[E P "type.__subclasses__.Exception.0" 212 (I 31 0),E P "type.__subclasses__.Exception.n" 213 (I 1 0)] 2),z⟩
noncomputable def Gi(P:Params):Obj:=pE (Ga P) (E P "StructError" 215 (R 31))
noncomputable def BB(P:Params):Obj:=pF (Bs P) 5 0 27
noncomputable def L3(P:Params):List Obj:=[⟨(Y "tuple"),none,(.seq #[(Y "Exception")] 0),z⟩,uR,⟨(Y "dict"),none,(.dict #[E P "__module__" 203 (V "flatbuffers.flexbuffers" 194),E P "__qualname__" 205 (V "StructError" 204),E P "__firstlineno__" 207 (I 5 206),E P "__static_attributes__" 208 (R 29)] 4),z⟩,f3,f4,f8 "StructError" 198 5 25,ua 27 24 "flatbuffers.flexbuffers" 194,f3,⟨(Y "dict"),none,(.dict #[E P "__module__" 203 (V "flatbuffers.flexbuffers" 194),E P "__firstlineno__" 207 (I 5 206),E P "__static_attributes__" 208 (R 29),E P "__weakref__" 210 (R 32),E P "__doc__" 211 .none] 3),z⟩,⟨(Y "type"),none,(.cls ⟨(S "StructError"),[(Y "Exception")],[(R 31),(Y "Exception"),(Y "BaseException"),(Y "object")],30,(S "StructError"),true,[],[],false,none,false⟩),#[(some (R 22)),none,(some (V "StructError" 196)),(some (V "StructError" 204)),(some (B "Exception.__new__")),(some (.bool true))]⟩,FU 209 31,uO 31,uP 31]
noncomputable def T3(P:Params):BT:=ins (u (u (u (T2 P) 2 (G1 P)) 3 (Gi P)) 12 (BB P)) 22 (L3 P)
noncomputable def FR(P:Params):Obj:=pE (Gi P) (E P "I" 228 (R 35))
noncomputable def L4(P:Params):List Obj:=[J3 216 "b" 217 218 "h" 219 220 "i" 221 222 "q" 223]
noncomputable def T4(P:Params):BT:=ins (u (T3 P) 3 (FR P)) 35 (L4 P)
noncomputable def Gm(P:Params):Obj:=pE (FR P) (E P "U" 241 (R 36))
noncomputable def L5(P:Params):List Obj:=[J3 229 "B" 230 231 "H" 232 233 "I" 234 235 "Q" 236]
noncomputable def T5(P:Params):BT:=ins (u (T4 P) 3 (Gm P)) 36 (L5 P)
noncomputable def Gn(P:Params):Obj:=pE (Gm P) (E P "_Unpack" 251 (R 43))
noncomputable def Bm(P:Params):Obj:=pF (BB P) 9 0 42
noncomputable def L6(P:Params):List Obj:=[f3,f4,CJ "fmt" 245 "buf" "signed" "number",f3,f7 5 "_Unpack",f0 "_Unpack" 242 "_Unpack" 9 2 37 249,f6 5 "_Unpack" "flatbuffers.flexbuffers" 194 42]
noncomputable def T6(P:Params):BT:=ins (u (u (T5 P) 3 (Gn P)) 12 (Bm P)) 37 (L6 P)
noncomputable def Ht(P:Params):Obj:=pE (Gn P) (E P "_UnpackVector" 257 (R 48))
noncomputable def Bx(P:Params):Obj:=pF (Bm P) 15 0 47
noncomputable def L7(P:Params):List Obj:=[f3,f4,f7 6 "_UnpackVector",f9 "_UnpackVector" 252 "_UnpackVector" 15 3 44,f6 6 "_UnpackVector" "flatbuffers.flexbuffers" 194 47]
noncomputable def T7(P:Params):BT:=ins (u (u (T6 P) 3 (Ht P)) 12 (Bx P)) 44 (L7 P)
noncomputable def Hu(P:Params):Obj:=pE (Ht P) (E P "_LowerBound" 271 (R 55))
noncomputable def Cm(P:Params):Obj:=pF (Bx P) 22 0 54
noncomputable def L8(P:Params):List Obj:=[f3,f4,Kb "values" 261 "value" 262 "pred" 263 "first" 264 "last" 265 "count" 266 "i" 267 "step" 268,f3,f7 7 "_LowerBound",f0 "_LowerBound" 258 "_LowerBound" 22 3 49 269,f6 7 "_LowerBound" "flatbuffers.flexbuffers" 194 54]
noncomputable def T8(P:Params):BT:=ins (u (u (T7 P) 3 (Hu P)) 12 (Cm P)) 49 (L8 P)
noncomputable def HD(P:Params):Obj:=pE (Hu P) (E P "_BinarySearch" 281 (R 62))
noncomputable def BX(P:Params):Obj:=pF (Cm P) 36 0 61
noncomputable def L9(P:Params):List Obj:=[f3,f4,CJ "values" 275 "value" "pred" "index",f3,f7 8 "_BinarySearch",f0 "_BinarySearch" 272 "_BinarySearch" 36 3 56 279,f6 8 "_BinarySearch" "flatbuffers.flexbuffers" 194 61]
noncomputable def T9(P:Params):BT:=ins (u (u (T8 P) 3 (HD P)) 12 (BX P)) 56 (L9 P)
noncomputable def Br(P:Params):Obj:=pE (HD P) (E P "Type" 570 (R 183))
noncomputable def Cc(P:Params):Obj:=pF (BX P) 41 0 68
noncomputable def KS(P:Params):List Obj:=[f3,uR,⟨(Y "dict"),none,(.dict #[E P "__module__" 289 (V "flatbuffers.flexbuffers" 194),E P "__qualname__" 291 (V "Type" 290),E P "__firstlineno__" 293 (I 41 292),E P "NULL" 295 (I 0 294),E P "INT" 297 (I 1 296),E P "UINT" 299 (I 2 298),E P "FLOAT" 301 (I 3 300),E P "KEY" 303 (I 4 302),E P "STRING" 305 (I 5 304),E P "INDIRECT_INT" 307 (I 6 306),E P "INDIRECT_UINT" 309 (I 7 308),E P "INDIRECT_FLOAT" 311 (I 8 310),E P "MAP" 313 (I 9 312),E P "VECTOR" 315 (I 10 314),E P "VECTOR_INT" 317 (I 11 316),E P "VECTOR_UINT" 319 (I 12 318),E P "VECTOR_FLOAT" 321 (I 13 320),E P "VECTOR_KEY" 323 (I 14 322),E P "VECTOR_STRING_DEPRECATED" 325 (I 15 324),E P "VECTOR_INT2" 327 (I 16 326),E P "VECTOR_UINT2" 329 (I 17 328),E P "VECTOR_FLOAT2" 331 (I 18 330),E P "VECTOR_INT3" 333 (I 19 332),E P "VECTOR_UINT3" 335 (I 20 334),E P "VECTOR_FLOAT3" 337 (I 21 336),E P "VECTOR_INT4" 339 (I 22 338),E P "VECTOR_UINT4" 341 (I 23 340),E P "VECTOR_FLOAT4" 343 (I 24 342),E P "BLOB" 345 (I 25 344),E P "BOOL" 347 (I 26 346),E P "VECTOR_BOOL" 349 (I 36 348),E P "Of" 368 (R 78),E P "Pack" 388 (R 88),E P "Unpack" 407 (R 98),E P "IsInline" 426 (R 108),E P "IsTypedVector" 445 (R 118),E P "IsTypedVectorElementType" 464 (R 128),E P "ToTypedVectorElementType" 483 (R 138),E P "IsFixedTypedVector" 502 (R 148),E P "IsFixedTypedVectorElementType" 521 (R 158),E P "ToFixedTypedVectorElementType" 541 (R 168),E P "ToTypedVector" 562 (R 179),E P "__static_attributes__" 563 (R 181)] 43),z⟩,f3,⟨.none,none,(.fields #[(I 72 0),(I 4 0),(R 75),(I 78 0),(I 4 0),(R 85),(I 82 0),(I 4 0),(R 95),(I 86 0),(I 4 0),(R 105),(I 90 0),(I 4 0),(R 115),(I 94 0),(I 4 0),(R 125),(I 98 0),(I 4 0),(R 135),(I 104 0),(I 4 0),(R 145),(I 108 0),(I 4 0),(R 155),(I 112 0),(I 4 0),(R 165),(I 119 0),(I 4 0),(R 176)]),z⟩,f8 "Type" 284 41 66,ua 68 65 "flatbuffers.flexbuffers" 194,f3,f4,bO "number" 353,f3,f1 9 28 "Type.Of",f0 "Of" 350 "Type.Of" 71 1 70 354,uQ 9 28 "Type.Of" 79 75,tS P 357 "Of" "Type.Of" 79,uw 77 76,um,f3,f4,nh "type_" 372 "bit_width",f3,f1 9 29 "Type.Pack",f0 "Pack" 369 "Type.Pack" 77 2 80 374,uQ 9 29 "Type.Pack" 89 85,tS P 377 "Pack" "Type.Pack" 89,uw 87 86,um,f3,f4,bO "packed_type" 392,f3,f1 9 30 "Type.Unpack",f0 "Unpack" 389 "Type.Unpack" 81 1 90 393,uQ 9 30 "Type.Unpack" 99 95,tS P 396 "Unpack" "Type.Unpack" 99,uw 97 96,um,f3,f4,bO "type_" 411,f3,f1 9 31 "Type.IsInline",f0 "IsInline" 408 "Type.IsInline" 85 1 100 412,uQ 9 31 "Type.IsInline" 109 105,tS P 415 "IsInline" "Type.IsInline" 109,uw 107 106,um,f3,f4,bO "type_" 430,f3,f1 9 32 "Type.IsTypedVector",f0 "IsTypedVector" 427 "Type.IsTypedVector" 89 1 110 431,uQ 9 32 "Type.IsTypedVector" 119 115,tS P 434 "IsTypedVector" "Type.IsTypedVector" 119,uw 117 116,um,f3,f4,bO "type_" 449,f3,f1 9 33 "Type.IsTypedVectorElementType",f0 "IsTypedVectorElementType" 446 "Type.IsTypedVectorElementType" 93 1 120 450,uQ 9 33 "Type.IsTypedVectorElementType" 129 125,tS P 453 "IsTypedVectorElementType" "Type.IsTypedVectorElementType" 129,uw 127 126,um,f3,f4,bO "type_" 468,f3,f1 9 34 "Type.ToTypedVectorElementType",f0 "ToTypedVectorElementType" 465 "Type.ToTypedVectorElementType" 97 1 130 469,uQ 9 34 "Type.ToTypedVectorElementType" 139 135,tS P 472 "ToTypedVectorElementType" "Type.ToTypedVectorElementType" 139,uw 137 136,um,f3,f4,bO "type_" 487,f3,f1 9 35 "Type.IsFixedTypedVector",f0 "IsFixedTypedVector" 484 "Type.IsFixedTypedVector" 103 1 140 488,uQ 9 35 "Type.IsFixedTypedVector" 149 145,tS P 491 "IsFixedTypedVector" "Type.IsFixedTypedVector" 149,uw 147 146,um,f3,f4,bO "type_" 506,f3,f1 9 36 "Type.IsFixedTypedVectorElementType",f0 "IsFixedTypedVectorElementType" 503 "Type.IsFixedTypedVectorElementType" 107 1 150 507,uQ 9 36 "Type.IsFixedTypedVectorElementType" 159 155,tS P 510 "IsFixedTypedVectorElementType" "Type.IsFixedTypedVectorElementType" 159,uw 157 156,um,f3,f4,nh "type_" 525 "fixed_type",f3,f1 9 37 "Type.ToFixedTypedVectorElementType",f0 "ToFixedTypedVectorElementType" 522 "Type.ToFixedTypedVectorElementType" 111 1 160 527,uQ 9 37 "Type.ToFixedTypedVectorElementType" 169 165,tS P 530 "ToFixedTypedVectorElementType" "Type.ToFixedTypedVectorElementType" 169,uw 167 166,um,IE 542,f3,f4,nh "element_type" 546 "fixed_len",f3,f1 9 38 "Type.ToTypedVector",f0 "ToTypedVector" 543 "Type.ToTypedVector" 118 2 171 548,⟨(Y "function"),none,(.func (F (D2 9 38) (S "Type.ToTypedVector") 3 [] (R 170) .none .none (V "flatbuffers.flexbuffers" 194) (some 180) (R 176) .none 0)),z⟩,tS P 551 "ToTypedVector" "Type.ToTypedVector" 180,uw 178 177,um,f3,⟨(Y "dict"),none,(.dict #[E P "__module__" 289 (V "flatbuffers.flexbuffers" 194),E P "__firstlineno__" 293 (I 41 292),E P "NULL" 295 (I 0 294),E P "INT" 297 (I 1 296),E P "UINT" 299 (I 2 298),E P "FLOAT" 301 (I 3 300),E P "KEY" 303 (I 4 302),E P "STRING" 305 (I 5 304),E P "INDIRECT_INT" 307 (I 6 306),E P "INDIRECT_UINT" 309 (I 7 308),E P "INDIRECT_FLOAT" 311 (I 8 310),E P "MAP" 313 (I 9 312),E P "VECTOR" 315 (I 10 314),E P "VECTOR_INT" 317 (I 11 316),E P "VECTOR_UINT" 319 (I 12 318),E P "VECTOR_FLOAT" 321 (I 13 320),E P "VECTOR_KEY" 323 (I 14 322),E P "VECTOR_STRING_DEPRECATED" 325 (I 15 324),E P "VECTOR_INT2" 327 (I 16 326),E P "VECTOR_UINT2" 329 (I 17 328),E P "VECTOR_FLOAT2" 331 (I 18 330),E P "VECTOR_INT3" 333 (I 19 332),E P "VECTOR_UINT3" 335 (I 20 334),E P "VECTOR_FLOAT3" 337 (I 21 336),E P "VECTOR_INT4" 339 (I 22 338),E P "VECTOR_UINT4" 341 (I 23 340),E P "VECTOR_FLOAT4" 343 (I 24 342),E P "BLOB" 345 (I 25 344),E P "BOOL" 347 (I 26 346),E P "VECTOR_BOOL" 349 (I 36 348),E P "Of" 368 (R 78),E P "Pack" 388 (R 88),E P "Unpack" 407 (R 98),E P "IsInline" 426 (R 108),E P "IsTypedVector" 445 (R 118),E P "IsTypedVectorElementType" 464 (R 128),E P "ToTypedVectorElementType" 483 (R 138),E P "IsFixedTypedVector" 502 (R 148),E P "IsFixedTypedVectorElementType" 521 (R 158),E P "ToFixedTypedVectorElementType" 541 (R 168),E P "ToTypedVector" 562 (R 179),E P "__static_attributes__" 563 (R 181),E P "__dict__" 565 (R 184),E P "__weakref__" 567 (R 185),E P "__doc__" 568 .none] 4),z⟩,HX "Type" 183 182 282,HS 564 183,FU 566 183,uO 183,uP 183]
noncomputable def Lf(P:Params):BT:=ins (u (u (T9 P) 3 (Br P)) 12 (Cc P)) 63 (KS P)
noncomputable def Cy(P:Params):Obj:=pE (Br P) (E P "Buf" 662 (R 253))
noncomputable def Bt(P:Params):Obj:=pF (Cc P) 121 0 193
noncomputable def K9(P:Params):List Obj:=[f3,uR,⟨(Y "dict"),none,(.dict #[E P "__module__" 578 (V "flatbuffers.flexbuffers" 194),E P "__qualname__" 580 (V "Buf" 579),E P "__firstlineno__" 582 (I 121 581),E P "__init__" 591 (R 201),E P "__getitem__" 599 (R 208),E P "__repr__" 606 (R 215),E P "Part" 615 (R 222),E P "Put" 625 (R 229),E P "Find" 634 (R 236),E P "Slice" 642 (R 243),E P "Indirect" 651 (R 250),E P "__static_attributes__" 655 (R 251)] 12),z⟩,f3,⟨.none,none,(.fields #[(I 123 0),(I 4 0),(R 200),(I 128 0),(I 4 0),(R 207),(I 134 0),(I 4 0),(R 214),(I 137 0),(I 4 0),(R 221),(I 140 0),(I 4 0),(R 228),(I 143 0),(I 4 0),(R 235),(I 149 0),(I 4 0),(R 242),(I 152 0),(I 4 0),(R 249)]),z⟩,f8 "Buf" 573 121 191,ua 193 190 "flatbuffers.flexbuffers" 194,f3,f4,qQ "self" 586 "buf" "offset",f3,f1 10 0 "Buf.__init__",f0 "__init__" 583 "Buf.__init__" 123 3 195 589,f2 10 0 "Buf.__init__" 200,f3,f4,nh "self" 595 "key",f3,f1 10 1 "Buf.__getitem__",f0 "__getitem__" 592 "Buf.__getitem__" 128 2 202 597,f2 10 1 "Buf.__getitem__" 207,f3,f4,bO "self" 603,f3,f1 10 2 "Buf.__repr__",f0 "__repr__" 600 "Buf.__repr__" 134 1 209 604,f2 10 2 "Buf.__repr__" 214,f3,f4,qQ "self" 610 "start" "stop",f3,f1 10 3 "Buf.Part",f0 "Part" 607 "Buf.Part" 137 3 216 613,f2 10 3 "Buf.Part" 221,f3,f4,CJ "self" 619 "start" "stop" "value",f3,f1 10 4 "Buf.Put",f0 "Put" 616 "Buf.Put" 140 4 223 623,f2 10 4 "Buf.Put" 228,f3,f4,qQ "self" 629 "sub" "k",f3,f1 10 5 "Buf.Find",f0 "Find" 626 "Buf.Find" 143 2 230 632,f2 10 5 "Buf.Find" 235,f3,f4,nh "self" 638 "offset",f3,f1 10 6 "Buf.Slice",f0 "Slice" 635 "Buf.Slice" 149 2 237 640,f2 10 6 "Buf.Slice" 242,f3,f4,qQ "self" 646 "offset" "byte_width",f3,f1 10 7 "Buf.Indirect",f0 "Indirect" 643 "Buf.Indirect" 152 3 244 649,f2 10 7 "Buf.Indirect" 249,qQ "_buf" 652 "_length" "_offset",⟨(Y "dict"),none,(.dict #[E P "__module__" 578 (V "flatbuffers.flexbuffers" 194),E P "__firstlineno__" 582 (I 121 581),E P "__init__" 591 (R 201),E P "__getitem__" 599 (R 208),E P "__repr__" 606 (R 215),E P "Part" 615 (R 222),E P "Put" 625 (R 229),E P "Find" 634 (R 236),E P "Slice" 642 (R 243),E P "Indirect" 651 (R 250),E P "__static_attributes__" 655 (R 251),E P "__dict__" 657 (R 254),E P "__weakref__" 659 (R 255),E P "__doc__" 660 .none] 4),z⟩,HX "Buf" 253 252 571,HS 656 253,FU 658 253,uO 253,uP 253]
noncomputable def JQ(P:Params):BT:=ins (u (u (Lf P) 3 (Cy P)) 12 (Bt P)) 188 (K9 P)
noncomputable def Bu(P:Params):Obj:=pE (Cy P) (E P "Object" 701 (R 282))
noncomputable def vO(P:Params):Obj:=pF (Bt P) 154 0 263
noncomputable def J1(P:Params):List Obj:=[f3,uR,K8 P 670 672 "Object" 671 674 154 673 "__init__" 683 271 "ByteWidth" 691 279 694 280,f3,J8 156 270 161 277,f8 "Object" 665 154 261,ua 263 260 "flatbuffers.flexbuffers" 194,f3,f4,qQ "self" 678 "buf" "byte_width",f3,f1 11 0 "Object.__init__",f0 "__init__" 675 "Object.__init__" 156 3 265 681,f2 11 0 "Object.__init__" 270,f3,f4,bO "self" 687,f3,f1 11 1 "Object.ByteWidth",f0 "ByteWidth" 684 "Object.ByteWidth" 160 1 272 688,f2 11 1 "Object.ByteWidth" 277,f5 278 "ByteWidth" 691,nh "_buf" 692 "_byte_width",KU P 670 674 154 673 "__init__" 683 271 "ByteWidth" 691 279 "__static_attributes__" 694 280 "__dict__" 696 283 "__weakref__" 698 284 699 4,HX "Object" 282 281 663,HS 695 282,FU 697 282,uO 282,uP 282]
noncomputable def KB(P:Params):BT:=ins (u (u (JQ P) 3 (Bu P)) 12 (vO P)) 258 (J1 P)
noncomputable def CG(P:Params):Obj:=pE (Bu P) (E P "Sized" 746 (R 321))
noncomputable def xQ(P:Params):Obj:=pF (vO P) 163 0 293
noncomputable def Dc(P:Params):Obj:=⟨(Y "type"),none,(.cls ⟨(S "Object"),[(Y "object")],[(R 282),(Y "object")],281,(S "Object"),true,[],[(R 321)],false,none,false⟩),#[none,none,(some (V "Object" 663)),(some (V "Object" 671)),(some (B "object.__new__")),(some (.bool true))]⟩
noncomputable def Ll(P:Params):List Obj:=[zu 282,uR,KN P 709 711 "Sized" 710 713 163 712 "__init__" 725 303 "SizeBytes" 733 311 "__len__" 740 318 "__static_attributes__" 742 319 "__classcell__" 743 290,Jt 321,f3,Ld 165 302 173 309 176 317,f8 "Sized" 704 163 291,ua 293 289 "flatbuffers.flexbuffers" 194,IE 714,zu 290,bO "__class__" 718,f4,CJ "self" 719 "buf" "byte_width" "size",f3,f1 12 0 "Sized.__init__",f0 "__init__" 715 "Sized.__init__" 165 4 297 723,Kn 12 "Sized.__init__" 290 295 302 296,f3,f4,bO "self" 729,f3,f1 12 1 "Sized.SizeBytes",f0 "SizeBytes" 726 "Sized.SizeBytes" 172 1 304 730,f2 12 1 "Sized.SizeBytes" 309,f5 310 "SizeBytes" 733,f3,f4,bO "self" 737,f3,f1 12 2 "Sized.__len__",f0 "__len__" 734 "Sized.__len__" 176 1 312 738,f2 12 2 "Sized.__len__" 317,bO "_size" 741,KJ P 709 713 163 712 "__init__" 725 303 "SizeBytes" 733 311 "__len__" 740 318 742 319 744 3,Kq "Sized" 321 320 287 702 710,uO 321,uP 321]
noncomputable def Ky(P:Params):BT:=ins (u (u (u (KB P) 3 (CG P)) 12 (xQ P)) 282 (Dc P)) 287 (Ll P)
noncomputable def BI(P:Params):Obj:=pE (CG P) (E P "Blob" 777 (R 348))
noncomputable def yi(P:Params):Obj:=pF (xQ P) 178 0 329
noncomputable def Fe(P:Params):Obj:=⟨(Y "type"),none,(.cls ⟨(S "Sized"),[(R 282)],[(R 321),(R 282),(Y "object")],320,(S "Sized"),true,[],[(R 348)],false,none,false⟩),#[(some (R 287)),none,(some (V "Sized" 702)),(some (V "Sized" 710)),(some (B "object.__new__")),(some (.bool true))]⟩
noncomputable def Le(P:Params):List Obj:=[zu 321,uR,K8 P 754 756 "Blob" 755 758 178 757 "Bytes" 766 338 "__repr__" 773 345 774 346,f3,J8 181 336 184 344,f8 "Blob" 749 178 327,ua 329 326 "flatbuffers.flexbuffers" 194,f3,f4,bO "self" 762,f3,f1 13 0 "Blob.Bytes",f0 "Bytes" 759 "Blob.Bytes" 180 1 331 763,f2 13 0 "Blob.Bytes" 336,f5 337 "Bytes" 766,f3,f4,bO "self" 770,f3,f1 13 1 "Blob.__repr__",f0 "__repr__" 767 "Blob.__repr__" 184 1 339 771,f2 13 1 "Blob.__repr__" 344,f3,⟨(Y "dict"),none,(.dict #[E P "__module__" 754 (V "flatbuffers.flexbuffers" 194),E P "__firstlineno__" 758 (I 178 757),E P "Bytes" 766 (R 338),E P "__repr__" 773 (R 345),E P "__static_attributes__" 774 (R 346),E P "__doc__" 775 .none] 2),z⟩,HY "Blob" 348 347 324 747,uO 348,uP 348]
noncomputable def J0(P:Params):BT:=ins (u (u (u (Ky P) 3 (BI P)) 12 (yi P)) 321 (Fe P)) 324 (Le P)
noncomputable def BW(P:Params):Obj:=pE (BI P) (E P "String" 823 (R 389))
noncomputable def zk(P:Params):Obj:=pF (yi P) 186 0 356
noncomputable def Fc(P:Params):Obj:=⟨(Y "type"),none,(.cls ⟨(S "Sized"),[(R 282)],[(R 321),(R 282),(Y "object")],320,(S "Sized"),true,[],[(R 348),(R 389)],false,none,false⟩),#[(some (R 287)),none,(some (V "Sized" 702)),(some (V "Sized" 710)),(some (B "object.__new__")),(some (.bool true))]⟩
noncomputable def KV(P:Params):List Obj:=[zu 321,uR,KN P 785 787 "String" 786 789 186 788 "Bytes" 797 365 "Mutate" 805 372 "__str__" 812 379 "__repr__" 819 386 "__static_attributes__" 820 387,f3,⟨.none,none,(.fields #[(I 189 0),(I 4 0),(R 363),(I 192 0),(I 4 0),(R 371),(I 195 0),(I 4 0),(R 378),(I 198 0),(I 4 0),(R 385)]),z⟩,f8 "String" 780 186 354,ua 356 353 "flatbuffers.flexbuffers" 194,f3,f4,bO "self" 793,f3,f1 14 0 "String.Bytes",f0 "Bytes" 790 "String.Bytes" 188 1 358 794,f2 14 0 "String.Bytes" 363,f5 364 "Bytes" 797,f3,f4,nh "self" 801 "value",f3,f1 14 1 "String.Mutate",f0 "Mutate" 798 "String.Mutate" 192 2 366 803,f2 14 1 "String.Mutate" 371,f3,f4,bO "self" 809,f3,f1 14 2 "String.__str__",f0 "__str__" 806 "String.__str__" 195 1 373 810,f2 14 2 "String.__str__" 378,f3,f4,bO "self" 816,f3,f1 14 3 "String.__repr__",f0 "__repr__" 813 "String.__repr__" 198 1 380 817,f2 14 3 "String.__repr__" 385,f3,KU P 785 789 186 788 "Bytes" 797 365 "Mutate" 805 372 "__str__" 812 379 "__repr__" 819 386 "__static_attributes__" 820 387 821 2,HY "String" 389 388 351 778,uO 389,uP 389]
noncomputable def Ly(P:Params):BT:=ins (u (u (u (J0 P) 3 (BW P)) 12 (zk P)) 321 (Fc P)) 351 (KV P)
noncomputable def Bv(P:Params):Obj:=pE (BW P) (E P "Key" 879 (R 439))
noncomputable def yh(P:Params):Obj:=pF (zk P) 200 0 398
noncomputable def vg(P:Params):Obj:=⟨(Y "type"),none,(.cls ⟨(S "Object"),[(Y "object")],[(R 282),(Y "object")],281,(S "Object"),true,[],[(R 321),(R 439)],false,none,false⟩),#[none,none,(some (V "Object" 663)),(some (V "Object" 671)),(some (B "object.__new__")),(some (.bool true))]⟩
noncomputable def KR(P:Params):List Obj:=[zu 282,uR,Kj P 831 833 "Key" 832 835 200 834 "__init__" 845 407 "Bytes" 853 415 "__len__" 860 422 "__str__" 867 429 "__repr__" 874 436 "__static_attributes__" 875 437 "__classcell__" 876 395,Jt 439,f3,⟨.none,none,(.fields #[(I 202 0),(I 4 0),(R 406),(I 207 0),(I 4 0),(R 413),(I 210 0),(I 4 0),(R 421),(I 213 0),(I 4 0),(R 428),(I 216 0),(I 4 0),(R 435)]),z⟩,f8 "Key" 826 200 396,ua 398 394 "flatbuffers.flexbuffers" 194,zu 395,bO "__class__" 839,f4,qQ "self" 840 "buf" "byte_width",f3,f1 15 0 "Key.__init__",f0 "__init__" 836 "Key.__init__" 202 3 401 843,⟨(Y "function"),none,(.func (F (D2 15 0) (S "Key.__init__") 3 [((S "__class__"),395)] .none .none .none (V "flatbuffers.flexbuffers" 194) none (R 406) (R 400) 0)),z⟩,f3,f4,bO "self" 849,f3,f1 15 1 "Key.Bytes",f0 "Bytes" 846 "Key.Bytes" 206 1 408 850,f2 15 1 "Key.Bytes" 413,f5 414 "Bytes" 853,f3,f4,bO "self" 857,f3,f1 15 2 "Key.__len__",f0 "__len__" 854 "Key.__len__" 210 1 416 858,f2 15 2 "Key.__len__" 421,f3,f4,bO "self" 864,f3,f1 15 3 "Key.__str__",f0 "__str__" 861 "Key.__str__" 213 1 423 865,f2 15 3 "Key.__str__" 428,f3,f4,bO "self" 871,f3,f1 15 4 "Key.__repr__",f0 "__repr__" 868 "Key.__repr__" 216 1 430 872,f2 15 4 "Key.__repr__" 435,f3,⟨(Y "dict"),none,(.dict #[E P "__module__" 831 (V "flatbuffers.flexbuffers" 194),E P "__firstlineno__" 835 (I 200 834),E P "__init__" 845 (R 407),E P "Bytes" 853 (R 415),E P "__len__" 860 (R 422),E P "__str__" 867 (R 429),E P "__repr__" 874 (R 436),E P "__static_attributes__" 875 (R 437),E P "__doc__" 877 .none] 3),z⟩,Kq "Key" 439 438 392 824 832,uO 439,uP 439]
noncomputable def La(P:Params):BT:=ins (u (u (u (Ly P) 3 (Bv P)) 12 (yh P)) 282 (vg P)) 392 (KR P)
noncomputable def By(P:Params):Obj:=pE (Bv P) (E P "Vector" 919 (R 471))
noncomputable def uW(P:Params):Obj:=pF (yh P) 218 0 447
noncomputable def EK(P:Params):Obj:=⟨(Y "type"),none,(.cls ⟨(S "Sized"),[(R 282)],[(R 321),(R 282),(Y "object")],320,(S "Sized"),true,[],[(R 348),(R 389),(R 471)],false,none,false⟩),#[(some (R 287)),none,(some (V "Sized" 702)),(some (V "Sized" 710)),(some (B "object.__new__")),(some (.bool true))]⟩
noncomputable def J2(P:Params):List Obj:=[zu 321,uR,⟨(Y "dict"),none,(.dict #[E P "__module__" 887 (V "flatbuffers.flexbuffers" 194),E P "__qualname__" 889 (V "Vector" 888),E P "__firstlineno__" 891 (I 218 890),E P "__getitem__" 901 (R 455),E P "Value" 908 (R 461),E P "__repr__" 915 (R 468),E P "__static_attributes__" 916 (R 469)] 7),z⟩,f3,Ld 220 454 228 459 231 467,f8 "Vector" 882 218 445,ua 447 444 "flatbuffers.flexbuffers" 194,f3,f4,CJ "self" 895 "index" "packed_type" "buf",f3,f1 16 0 "Vector.__getitem__",f0 "__getitem__" 892 "Vector.__getitem__" 220 2 449 899,f2 16 0 "Vector.__getitem__" 454,f3,f4,f1 16 1 "Vector.Value",f9 "Value" 902 "Vector.Value" 227 1 456,f2 16 1 "Vector.Value" 459,f5 460 "Value" 908,f3,f4,bO "self" 912,f3,f1 16 2 "Vector.__repr__",f0 "__repr__" 909 "Vector.__repr__" 231 1 462 913,f2 16 2 "Vector.__repr__" 467,f3,KJ P 887 891 218 890 "__getitem__" 901 455 "Value" 908 461 "__repr__" 915 468 916 469 917 2,HY "Vector" 471 470 442 880,uO 471,uP 471]
noncomputable def Kw(P:Params):BT:=ins (u (u (u (La P) 3 (By P)) 12 (uW P)) 321 (EK P)) 442 (J2 P)
noncomputable def BJ(P:Params):Obj:=pE (By P) (E P "TypedVector" 989 (R 529))
noncomputable def xK(P:Params):Obj:=pF (uW P) 233 0 480
noncomputable def uS(P:Params):Obj:=⟨(Y "type"),none,(.cls ⟨(S "Sized"),[(R 282)],[(R 321),(R 282),(Y "object")],320,(S "Sized"),true,[],[(R 348),(R 389),(R 471),(R 529)],false,none,false⟩),#[(some (R 287)),none,(some (V "Sized" 702)),(some (V "Sized" 710)),(some (B "object.__new__")),(some (.bool true))]⟩
noncomputable def Lc(P:Params):List Obj:=[zu 321,uR,⟨(Y "dict"),none,(.dict #[E P "__module__" 927 (V "flatbuffers.flexbuffers" 194),E P "__qualname__" 929 (V "TypedVector" 928),E P "__firstlineno__" 931 (I 233 930),E P "__init__" 944 (R 490),E P "Bytes" 952 (R 498),E P "ElementType" 960 (R 506),E P "__getitem__" 969 (R 513),E P "Value" 976 (R 519),E P "__repr__" 983 (R 526),E P "__static_attributes__" 985 (R 527),E P "__classcell__" 986 (R 477)] 11),z⟩,Jt 529,f3,KZ 235 489 242 496 246 504 249 512 256 517 272 525,f8 "TypedVector" 922 233 478,ua 480 476 "flatbuffers.flexbuffers" 194,IE 932,zu 477,bO "__class__" 936,f4,H6 "self" 937 "buf" "byte_width" "element_type" "size",f3,f1 17 0 "TypedVector.__init__",f0 "__init__" 933 "TypedVector.__init__" 235 5 484 942,Kn 17 "TypedVector.__init__" 477 482 489 483,f3,f4,bO "self" 948,f3,f1 17 1 "TypedVector.Bytes",f0 "Bytes" 945 "TypedVector.Bytes" 241 1 491 949,f2 17 1 "TypedVector.Bytes" 496,f5 497 "Bytes" 952,f3,f4,bO "self" 956,f3,f1 17 2 "TypedVector.ElementType",f0 "ElementType" 953 "TypedVector.ElementType" 245 1 499 957,f2 17 2 "TypedVector.ElementType" 504,f5 505 "ElementType" 960,f3,f4,qQ "self" 964 "index" "buf",f3,f1 17 3 "TypedVector.__getitem__",f0 "__getitem__" 961 "TypedVector.__getitem__" 249 2 507 967,f2 17 3 "TypedVector.__getitem__" 512,f3,f4,f1 17 4 "TypedVector.Value",f9 "Value" 970 "TypedVector.Value" 255 1 514,f2 17 4 "TypedVector.Value" 517,f5 518 "Value" 976,f3,f4,bO "self" 980,f3,f1 17 5 "TypedVector.__repr__",f0 "__repr__" 977 "TypedVector.__repr__" 272 1 520 981,f2 17 5 "TypedVector.__repr__" 525,bO "_element_type" 984,Li P 927 931 233 930 "__init__" 944 490 "Bytes" 952 498 "ElementType" 960 506 "__getitem__" 969 513 976 519 983 526 985 527 987 3,HY "TypedVector" 529 528 474 920,uO 529,uP 529]
noncomputable def Lu(P:Params):BT:=ins (u (u (u (Kw P) 3 (BJ P)) 12 (xK P)) 321 (uS P)) 474 (Lc P)
noncomputable def Bn(P:Params):Obj:=pE (BJ P) (E P "Map" 1066 (R 587))
noncomputable def v5(P:Params):Obj:=pF (xK P) 274 0 537
noncomputable def wQ(P:Params):Obj:=⟨(Y "type"),none,(.cls ⟨(S "Vector"),[(R 321)],[(R 471),(R 321),(R 282),(Y "object")],470,(S "Vector"),true,[],[(R 587)],false,none,false⟩),#[(some (R 442)),none,(some (V "Vector" 880)),(some (V "Vector" 888)),(some (B "object.__new__")),(some (.bool true))]⟩
noncomputable def KO(P:Params):List Obj:=[zu 471,uR,Kj P 997 999 "Map" 998 1001 274 1000 "CompareKeys" 1021 547 "__getitem__" 1030 555 "Keys" 1040 563 "Values" 1048 571 "Value" 1055 577 "__repr__" 1062 584 "__static_attributes__" 1063 585,f3,KZ 277 544 284 554 293 561 299 569 303 575 308 583,f8 "Map" 992 274 535,ua 537 534 "flatbuffers.flexbuffers" 194,f3,f4,nh "a" 1005 "b",f3,f1 18 0 "Map.CompareKeys",f0 "CompareKeys" 1002 "Map.CompareKeys" 276 2 539 1007,uQ 18 0 "Map.CompareKeys" 548 544,tS P 1010 "CompareKeys" "Map.CompareKeys" 548,uw 546 545,um,f3,f4,qQ "self" 1025 "key" "index",f3,f1 18 1 "Map.__getitem__",f0 "__getitem__" 1022 "Map.__getitem__" 284 2 549 1028,f2 18 1 "Map.__getitem__" 554,f3,f4,qQ "self" 1034 "byte_width" "buf",f3,f1 18 2 "Map.Keys",f0 "Keys" 1031 "Map.Keys" 292 1 556 1037,f2 18 2 "Map.Keys" 561,f5 562 "Keys" 1040,f3,f4,bO "self" 1044,f3,f1 18 3 "Map.Values",f0 "Values" 1041 "Map.Values" 298 1 564 1045,f2 18 3 "Map.Values" 569,f5 570 "Values" 1048,f3,f4,f1 18 4 "Map.Value",f9 "Value" 1049 "Map.Value" 302 1 572,f2 18 4 "Map.Value" 575,f5 576 "Value" 1055,f3,f4,bO "self" 1059,f3,f1 18 5 "Map.__repr__",f0 "__repr__" 1056 "Map.__repr__" 308 1 578 1060,f2 18 5 "Map.__repr__" 583,f3,Li P 997 1001 274 1000 "CompareKeys" 1021 547 "__getitem__" 1030 555 "Keys" 1040 563 "Values" 1048 571 1055 577 1062 584 1063 585 1064 2,⟨(Y "type"),none,(.cls ⟨(S "Map"),[(R 471)],[(R 587),(R 471),(R 321),(R 282),(Y "object")],586,(S "Map"),true,[],[],false,none,false⟩),#[(some (R 532)),none,(some (V "Map" 990)),(some (V "Map" 998)),(some (B "object.__new__")),(some (.bool true))]⟩,uO 587,uP 587]
noncomputable def Kd(P:Params):BT:=ins (u (u (u (Lu P) 3 (Bn P)) 12 (v5 P)) 471 (wQ P)) 532 (KO P)
noncomputable def B3(P:Params):Obj:=pE (Bn P) (E P "Ref" 1372 (R 858))
noncomputable def y7(P:Params):Obj:=pF (v5 P) 310 0 595
noncomputable def J5(P:Params):List Obj:=[f3,uR,⟨(Y "dict"),none,(.dict #[E P "__module__" 1074 (V "flatbuffers.flexbuffers" 194),E P "__qualname__" 1076 (V "Ref" 1075),E P "__firstlineno__" 1078 (I 310 1077),E P "PackedType" 1101 (R 605),E P "__init__" 1112 (R 613),E P "__repr__" 1119 (R 620),E P "_Bytes" 1127 (R 628),E P "_ConvertError" 1135 (R 635),E P "_Indirect" 1142 (R 642),E P "IsNull" 1150 (R 650),E P "IsBool" 1158 (R 658),E P "AsBool" 1166 (R 666),E P "MutateBool" 1174 (R 673),E P "IsNumeric" 1182 (R 681),E P "IsInt" 1190 (R 689),E P "AsInt" 1198 (R 697),E P "MutateInt" 1206 (R 704),E P "IsFloat" 1214 (R 712),E P "IsKey" 1222 (R 720),E P "AsKeyBytes" 1230 (R 728),E P "AsKey" 1238 (R 736),E P "IsString" 1246 (R 744),E P "AsStringBytes" 1254 (R 752),E P "AsString" 1262 (R 760),E P "MutateString" 1270 (R 767),E P "IsBlob" 1278 (R 775),E P "AsBlob" 1286 (R 783),E P "IsVector" 1294 (R 791),E P "AsVector" 1302 (R 799),E P "IsTypedVector" 1310 (R 807),E P "AsTypedVector" 1318 (R 815),E P "IsFixedTypedVector" 1326 (R 823),E P "AsFixedTypedVector" 1336 (R 831),E P "IsMap" 1344 (R 839),E P "AsMap" 1352 (R 847),E P "Value" 1360 (R 855),E P "__static_attributes__" 1365 (R 856)] 37),z⟩,f3,⟨.none,none,(.fields #[(I 313 0),(I 4 0),(R 602),(I 317 0),(I 4 0),(R 612),(I 323 0),(I 4 0),(R 619),(I 327 0),(I 4 0),(R 626),(I 330 0),(I 4 0),(R 634),(I 333 0),(I 4 0),(R 641),(I 337 0),(I 4 0),(R 648),(I 341 0),(I 4 0),(R 656),(I 345 0),(I 4 0),(R 664),(I 351 0),(I 4 0),(R 672),(I 355 0),(I 4 0),(R 679),(I 359 0),(I 4 0),(R 687),(I 363 0),(I 4 0),(R 695),(I 391 0),(I 4 0),(R 703),(I 395 0),(I 4 0),(R 710),(I 399 0),(I 4 0),(R 718),(I 403 0),(I 4 0),(R 726),(I 410 0),(I 4 0),(R 734),(I 417 0),(I 4 0),(R 742),(I 421 0),(I 4 0),(R 750),(I 430 0),(I 4 0),(R 758),(I 438 0),(I 4 0),(R 766),(I 442 0),(I 4 0),(R 773),(I 446 0),(I 4 0),(R 781),(I 453 0),(I 4 0),(R 789),(I 457 0),(I 4 0),(R 797),(I 464 0),(I 4 0),(R 805),(I 468 0),(I 4 0),(R 813),(I 475 0),(I 4 0),(R 821),(I 479 0),(I 4 0),(R 829),(I 487 0),(I 4 0),(R 837),(I 491 0),(I 4 0),(R 845),(I 498 0),(I 4 0),(R 853)]),z⟩,f8 "Ref" 1069 310 593,ua 595 592 "flatbuffers.flexbuffers" 194,f3,f4,H6 "buf" 1082 "parent_width" "packed_type" "byte_width" "type_",f3,f1 19 0 "Ref.PackedType",f0 "PackedType" 1079 "Ref.PackedType" 312 3 597 1087,uQ 19 0 "Ref.PackedType" 606 602,tS P 1090 "PackedType" "Ref.PackedType" 606,uw 604 603,um,f3,f4,H6 "self" 1105 "buf" "parent_width" "byte_width" "type_",f3,f1 19 1 "Ref.__init__",f0 "__init__" 1102 "Ref.__init__" 317 5 607 1110,f2 19 1 "Ref.__init__" 612,f3,f4,bO "self" 1116,f3,f1 19 2 "Ref.__repr__",f0 "__repr__" 1113 "Ref.__repr__" 323 1 614 1117,f2 19 2 "Ref.__repr__" 619,f3,f4,bO "self" 1123,f3,f1 19 3 "Ref._Bytes",f0 "_Bytes" 1120 "Ref._Bytes" 326 1 621 1124,f2 19 3 "Ref._Bytes" 626,f5 627 "_Bytes" 1127,f3,f4,nh "self" 1131 "target_type",f3,f1 19 4 "Ref._ConvertError",f0 "_ConvertError" 1128 "Ref._ConvertError" 330 2 629 1133,f2 19 4 "Ref._ConvertError" 634,f3,f4,bO "self" 1139,f3,f1 19 5 "Ref._Indirect",f0 "_Indirect" 1136 "Ref._Indirect" 333 1 636 1140,f2 19 5 "Ref._Indirect" 641,f3,f4,bO "self" 1146,f3,f1 19 6 "Ref.IsNull",f0 "IsNull" 1143 "Ref.IsNull" 336 1 643 1147,f2 19 6 "Ref.IsNull" 648,f5 649 "IsNull" 1150,f3,f4,bO "self" 1154,f3,f1 19 7 "Ref.IsBool",f0 "IsBool" 1151 "Ref.IsBool" 340 1 651 1155,f2 19 7 "Ref.IsBool" 656,f5 657 "IsBool" 1158,f3,f4,bO "self" 1162,f3,f1 19 8 "Ref.AsBool",f0 "AsBool" 1159 "Ref.AsBool" 344 1 659 1163,f2 19 8 "Ref.AsBool" 664,f5 665 "AsBool" 1166,f3,f4,nh "self" 1170 "value",f3,f1 19 9 "Ref.MutateBool",f0 "MutateBool" 1167 "Ref.MutateBool" 351 2 667 1172,f2 19 9 "Ref.MutateBool" 672,f3,f4,bO "self" 1178,f3,f1 19 10 "Ref.IsNumeric",f0 "IsNumeric" 1175 "Ref.IsNumeric" 354 1 674 1179,f2 19 10 "Ref.IsNumeric" 679,f5 680 "IsNumeric" 1182,f3,f4,bO "self" 1186,f3,f1 19 11 "Ref.IsInt",f0 "IsInt" 1183 "Ref.IsInt" 358 1 682 1187,f2 19 11 "Ref.IsInt" 687,f5 688 "IsInt" 1190,f3,f4,bO "self" 1194,f3,f1 19 12 "Ref.AsInt",f0 "AsInt" 1191 "Ref.AsInt" 362 1 690 1195,f2 19 12 "Ref.AsInt" 695,f5 696 "AsInt" 1198,f3,f4,nh "self" 1202 "value",f3,f1 19 13 "Ref.MutateInt",f0 "MutateInt" 1199 "Ref.MutateInt" 391 2 698 1204,f2 19 13 "Ref.MutateInt" 703,f3,f4,bO "self" 1210,f3,f1 19 14 "Ref.IsFloat",f0 "IsFloat" 1207 "Ref.IsFloat" 394 1 705 1211,f2 19 14 "Ref.IsFloat" 710,f5 711 "IsFloat" 1214,f3,f4,bO "self" 1218,f3,f1 19 15 "Ref.IsKey",f0 "IsKey" 1215 "Ref.IsKey" 398 1 713 1219,f2 19 15 "Ref.IsKey" 718,f5 719 "IsKey" 1222,f3,f4,bO "self" 1226,f3,f1 19 16 "Ref.AsKeyBytes",f0 "AsKeyBytes" 1223 "Ref.AsKeyBytes" 402 1 721 1227,f2 19 16 "Ref.AsKeyBytes" 726,f5 727 "AsKeyBytes" 1230,f3,f4,bO "self" 1234,f3,f1 19 17 "Ref.AsKey",f0 "AsKey" 1231 "Ref.AsKey" 409 1 729 1235,f2 19 17 "Ref.AsKey" 734,f5 735 "AsKey" 1238,f3,f4,bO "self" 1242,f3,f1 19 18 "Ref.IsString",f0 "IsString" 1239 "Ref.IsString" 416 1 737 1243,f2 19 18 "Ref.IsString" 742,f5 743 "IsString" 1246,f3,f4,bO "self" 1250,f3,f1 19 19 "Ref.AsStringBytes",f0 "AsStringBytes" 1247 "Ref.AsStringBytes" 420 1 745 1251,f2 19 19 "Ref.AsStringBytes" 750,f5 751 "AsStringBytes" 1254,f3,f4,bO "self" 1258,f3,f1 19 20 "Ref.AsString",f0 "AsString" 1255 "Ref.AsString" 429 1 753 1259,f2 19 20 "Ref.AsString" 758,f5 759 "AsString" 1262,f3,f4,nh "self" 1266 "value",f3,f1 19 21 "Ref.MutateString",f0 "MutateString" 1263 "Ref.MutateString" 438 2 761 1268,f2 19 21 "Ref.MutateString" 766,f3,f4,bO "self" 1274,f3,f1 19 22 "Ref.IsBlob",f0 "IsBlob" 1271 "Ref.IsBlob" 441 1 768 1275,f2 19 22 "Ref.IsBlob" 773,f5 774 "IsBlob" 1278,f3,f4,bO "self" 1282,f3,f1 19 23 "Ref.AsBlob",f0 "AsBlob" 1279 "Ref.AsBlob" 445 1 776 1283,f2 19 23 "Ref.AsBlob" 781,f5 782 "AsBlob" 1286,f3,f4,bO "self" 1290,f3,f1 19 24 "Ref.IsVector",f0 "IsVector" 1287 "Ref.IsVector" 452 1 784 1291,f2 19 24 "Ref.IsVector" 789,f5 790 "IsVector" 1294,f3,f4,bO "self" 1298,f3,f1 19 25 "Ref.AsVector",f0 "AsVector" 1295 "Ref.AsVector" 456 1 792 1299,f2 19 25 "Ref.AsVector" 797,f5 798 "AsVector" 1302,f3,f4,bO "self" 1306,f3,f1 19 26 "Ref.IsTypedVector",f0 "IsTypedVector" 1303 "Ref.IsTypedVector" 463 1 800 1307,f2 19 26 "Ref.IsTypedVector" 805,f5 806 "IsTypedVector" 1310,f3,f4,bO "self" 1314,f3,f1 19 27 "Ref.AsTypedVector",f0 "AsTypedVector" 1311 "Ref.AsTypedVector" 467 1 808 1315,f2 19 27 "Ref.AsTypedVector" 813,f5 814 "AsTypedVector" 1318,f3,f4,bO "self" 1322,f3,f1 19 28 "Ref.IsFixedTypedVector",f0 "IsFixedTypedVector" 1319 "Ref.IsFixedTypedVector" 474 1 816 1323,f2 19 28 "Ref.IsFixedTypedVector" 821,f5 822 "IsFixedTypedVector" 1326,f3,f4,qQ "self" 1330 "element_type" "size",f3,f1 19 29 "Ref.AsFixedTypedVector",f0 "AsFixedTypedVector" 1327 "Ref.AsFixedTypedVector" 478 1 824 1333,f2 19 29 "Ref.AsFixedTypedVector" 829,f5 830 "AsFixedTypedVector" 1336,f3,f4,bO "self" 1340,f3,f1 19 30 "Ref.IsMap",f0 "IsMap" 1337 "Ref.IsMap" 486 1 832 1341,f2 19 30 "Ref.IsMap" 837,f5 838 "IsMap" 1344,f3,f4,bO "self" 1348,f3,f1 19 31 "Ref.AsMap",f0 "AsMap" 1345 "Ref.AsMap" 490 1 840 1349,f2 19 31 "Ref.AsMap" 845,f5 846 "AsMap" 1352,f3,f4,bO "self" 1356,f3,f1 19 32 "Ref.Value",f0 "Value" 1353 "Ref.Value" 497 1 848 1357,f2 19 32 "Ref.Value" 853,f5 854 "Value" 1360,CJ "_buf" 1361 "_byte_width" "_parent_width" "_type",⟨(Y "dict"),none,(.dict #[E P "__module__" 1074 (V "flatbuffers.flexbuffers" 194),E P "__firstlineno__" 1078 (I 310 1077),E P "PackedType" 1101 (R 605),E P "__init__" 1112 (R 613),E P "__repr__" 1119 (R 620),E P "_Bytes" 1127 (R 628),E P "_ConvertError" 1135 (R 635),E P "_Indirect" 1142 (R 642),E P "IsNull" 1150 (R 650),E P "IsBool" 1158 (R 658),E P "AsBool" 1166 (R 666),E P "MutateBool" 1174 (R 673),E P "IsNumeric" 1182 (R 681),E P "IsInt" 1190 (R 689),E P "AsInt" 1198 (R 697),E P "MutateInt" 1206 (R 704),E P "IsFloat" 1214 (R 712),E P "IsKey" 1222 (R 720),E P "AsKeyBytes" 1230 (R 728),E P "AsKey" 1238 (R 736),E P "IsString" 1246 (R 744),E P "AsStringBytes" 1254 (R 752),E P "AsString" 1262 (R 760),E P "MutateString" 1270 (R 767),E P "IsBlob" 1278 (R 775),E P "AsBlob" 1286 (R 783),E P "IsVector" 1294 (R 791),E P "AsVector" 1302 (R 799),E P "IsTypedVector" 1310 (R 807),E P "AsTypedVector" 1318 (R 815),E P "IsFixedTypedVector" 1326 (R 823),E P "AsFixedTypedVector" 1336 (R 831),E P "IsMap" 1344 (R 839),E P "AsMap" 1352 (R 847),E P "Value" 1360 (R 855),E P "__static_attributes__" 1365 (R 856),E P "__dict__" 1367 (R 859),E P "__weakref__" 1369 (R 860),E P "__doc__" 1370 .none] 4),z⟩,HX "Ref" 858 857 1067,HS 1366 858,FU 1368 858,uO 858,uP 858]
noncomputable def Ki(P:Params):BT:=ins (u (u (Kd P) 3 (B3 P)) 12 (y7 P)) 590 (J5 P)
noncomputable def B4(P:Params):Obj:=pE (B3 P) (E P "GetRoot" 1380 (R 869))
noncomputable def vT(P:Params):Obj:=pF (y7 P) 521 0 868
noncomputable def KQ(P:Params):List Obj:=[f3,f4,nh "buf" 1376 "byte_width",f3,f7 20 "GetRoot",f0 "GetRoot" 1373 "GetRoot" 521 1 863 1378,f6 20 "GetRoot" "flatbuffers.flexbuffers" 194 868]
noncomputable def JT(P:Params):BT:=ins (u (u (Ki P) 3 (B4 P)) 12 (vT P)) 863 (KQ P)
noncomputable def BG(P:Params):Obj:=pN (B4 P) (E P "__name__" 165 (V "law_jm0002_01" 1381))
noncomputable def KW(P:Params):BT:=u (JT P) 3 (BG P)
noncomputable def BZ(P:Params):Obj:=pE (BG P) (E P "_law_text" 1391 (R 876))
noncomputable def xi(P:Params):Obj:=pF (vT P) 527 0 875
noncomputable def Lp(P:Params):List Obj:=[f3,f4,qQ "rest" 1386 "text" "many",f3,f7 22 "_law_text",f0 "_law_text" 1383 "_law_text" 527 1 870 1389,f6 22 "_law_text" "law_jm0002_01" 1381 875]
noncomputable def Lq(P:Params):BT:=ins (u (u (KW P) 3 (BZ P)) 12 (xi P)) 870 (Lp P)
noncomputable def CI(P:Params):Obj:=pE (BZ P) (E P "_law_octets" 1399 (R 883))
noncomputable def yC(P:Params):Obj:=pF (xi P) 531 0 882
noncomputable def KE(P:Params):List Obj:=[f3,f4,nh "rest" 1395 "many",f3,f7 23 "_law_octets",f0 "_law_octets" 1392 "_law_octets" 531 1 877 1397,f6 23 "_law_octets" "law_jm0002_01" 1381 882]
noncomputable def J4(P:Params):BT:=ins (u (u (Lq P) 3 (CI P)) 12 (yC P)) 877 (KE P)
noncomputable def Bk(P:Params):Obj:=pE (CI P) (E P "_law_key" 1408 (R 890))
noncomputable def vH(P:Params):Obj:=pF (yC P) 534 0 889
noncomputable def JO(P:Params):List Obj:=[f3,f4,qQ "rest" 1403 "text" "k",f3,f7 24 "_law_key",f0 "_law_key" 1400 "_law_key" 534 1 884 1406,f6 24 "_law_key" "law_jm0002_01" 1381 889]
noncomputable def Lv(P:Params):BT:=ins (u (u (J4 P) 3 (Bk P)) 12 (vH P)) 884 (JO P)
noncomputable def BC(P:Params):Obj:=pE (Bk P) (E P "_law_value" 1414 (R 895))
noncomputable def zc(P:Params):Obj:=pF (vH P) 539 0 894
noncomputable def Kl(P:Params):List Obj:=[f3,f4,f7 25 "_law_value",f9 "_law_value" 1409 "_law_value" 539 2 891,f6 25 "_law_value" "law_jm0002_01" 1381 894]
noncomputable def LC(P:Params):BT:=ins (u (u (Lv P) 3 (BC P)) 12 (zc P)) 891 (Kl P)
noncomputable def Bo(P:Params):Obj:=pE (BC P) (E P "_law_trees" 1422 (R 902))
noncomputable def y6(P:Params):Obj:=pF (zc P) 564 0 901
noncomputable def KL(P:Params):List Obj:=[f3,f4,nh "draws" 1418 "values",f3,f7 26 "_law_trees",f0 "_law_trees" 1415 "_law_trees" 564 1 896 1420,f6 26 "_law_trees" "law_jm0002_01" 1381 901]
noncomputable def Kr(P:Params):BT:=ins (u (u (LC P) 3 (Bo P)) 12 (y6 P)) 896 (KL P)
noncomputable def Cp(P:Params):Obj:=pE (Bo P) (E P "_law_same" 1428 (R 907))
noncomputable def xt(P:Params):Obj:=pF (y6 P) 571 0 906
noncomputable def JN(P:Params):List Obj:=[f3,f4,f7 27 "_law_same",f9 "_law_same" 1423 "_law_same" 571 2 903,f6 27 "_law_same" "law_jm0002_01" 1381 906]
noncomputable def JS(P:Params):BT:=ins (u (u (Kr P) 3 (Cp P)) 12 (xt P)) 903 (JN P)
noncomputable def Ca(P:Params):Obj:=pE (Cp P) (E P "_law_need" 1438 (R 914))
noncomputable def vM(P:Params):Obj:=pF (xt P) 589 0 913
noncomputable def JR(P:Params):List Obj:=[f3,f4,CJ "number" 1432 "signed" "exp" "low",f3,f7 28 "_law_need",f0 "_law_need" 1429 "_law_need" 589 2 908 1436,f6 28 "_law_need" "law_jm0002_01" 1381 913]
noncomputable def K7(P:Params):BT:=ins (u (u (JS P) 3 (Ca P)) 12 (vM P)) 908 (JR P)
noncomputable def BM(P:Params):Obj:=pE (Ca P) (E P "_law_write" 1447 (R 921))
noncomputable def uX(P:Params):Obj:=pF (vM P) 595 0 920
noncomputable def KX(P:Params):List Obj:=[f3,f4,qQ "octets" 1442 "number" "exp",f3,f7 29 "_law_write",f0 "_law_write" 1439 "_law_write" 595 3 915 1445,f6 29 "_law_write" "law_jm0002_01" 1381 920]
noncomputable def LF(P:Params):BT:=ins (u (u (K7 P) 3 (BM P)) 12 (uX P)) 915 (KX P)
noncomputable def Cj(P:Params):Obj:=pE (BM P) (E P "_law_align" 1455 (R 928))
noncomputable def xm(P:Params):Obj:=pF (uX P) 597 0 927
noncomputable def JY(P:Params):List Obj:=[f3,f4,nh "octets" 1451 "exp",f3,f7 30 "_law_align",f0 "_law_align" 1448 "_law_align" 597 2 922 1453,f6 30 "_law_align" "law_jm0002_01" 1381 927]
noncomputable def LA(P:Params):BT:=ins (u (u (LF P) 3 (Cj P)) 12 (xm P)) 922 (JY P)
noncomputable def BR(P:Params):Obj:=pE (Cj P) (E P "_law_sized" 1465 (R 935))
noncomputable def yp(P:Params):Obj:=pF (xm P) 599 0 934
noncomputable def Kc(P:Params):List Obj:=[f3,f4,CJ "octets" 1459 "content" "exp" "place",f3,f7 31 "_law_sized",f0 "_law_sized" 1456 "_law_sized" 599 3 929 1463,f6 31 "_law_sized" "law_jm0002_01" 1381 934]
noncomputable def Lm(P:Params):BT:=ins (u (u (LA P) 3 (BR P)) 12 (yp P)) 929 (Kc P)
noncomputable def CC(P:Params):Obj:=pE (BR P) (E P "_law_number" 1477 (R 942))
noncomputable def xc(P:Params):Obj:=pF (yp P) 605 0 941
noncomputable def Ku(P:Params):List Obj:=[f3,f4,KG 1469 "value" 1470 "draw" 1471 "signed" 1472 "exp" 1473 "place" 1474,f3,f7 32 "_law_number",f0 "_law_number" 1466 "_law_number" 605 3 936 1475,f6 32 "_law_number" "law_jm0002_01" 1381 941]
noncomputable def Lh(P:Params):BT:=ins (u (u (Lm P) 3 (CC P)) 12 (xc P)) 936 (Ku P)
noncomputable def BP(P:Params):Obj:=pE (CC P) (E P "_law_element" 1486 (R 949))
noncomputable def yO(P:Params):Obj:=pF (xc P) 616 0 948
noncomputable def J7(P:Params):List Obj:=[f3,f4,qQ "octets" 1481 "child" "exp",f3,f7 33 "_law_element",f0 "_law_element" 1478 "_law_element" 616 3 943 1484,f6 33 "_law_element" "law_jm0002_01" 1381 948]
noncomputable def Ke(P:Params):BT:=ins (u (u (Lh P) 3 (BP P)) 12 (yO P)) 943 (J7 P)
noncomputable def Ce(P:Params):Obj:=pE (BP P) (E P "_law_vector" 1498 (R 956))
noncomputable def vQ(P:Params):Obj:=pF (yO P) 618 0 955
noncomputable def Kp(P:Params):List Obj:=[f3,f4,KG 1490 "children" 1491 "exp" 1492 "ahead" 1493 "place" 1494 "child" 1495,f3,f7 34 "_law_vector",f0 "_law_vector" 1487 "_law_vector" 618 4 950 1496,f6 34 "_law_vector" "law_jm0002_01" 1381 955]
noncomputable def JV(P:Params):BT:=ins (u (u (Ke P) 3 (Ce P)) 12 (vQ P)) 950 (Kp P)
noncomputable def CH(P:Params):Obj:=pE (Ce P) (E P "_law_typed" 1504 (R 961))
noncomputable def wo(P:Params):Obj:=pF (vQ P) 630 0 960
noncomputable def Ka(P:Params):List Obj:=[f3,f4,f7 35 "_law_typed",f9 "_law_typed" 1499 "_law_typed" 630 3 957,f6 35 "_law_typed" "law_jm0002_01" 1381 960]
noncomputable def K6(P:Params):BT:=ins (u (u (JV P) 3 (CH P)) 12 (wo P)) 957 (Ka P)
noncomputable def Cd(P:Params):Obj:=pE (CH P) (E P "_law_plain" 1510 (R 966))
noncomputable def yE(P:Params):Obj:=pF (wo P) 645 0 965
noncomputable def Lw(P:Params):List Obj:=[f3,f4,f7 36 "_law_plain",f9 "_law_plain" 1505 "_law_plain" 645 1 962,f6 36 "_law_plain" "law_jm0002_01" 1381 965]
noncomputable def JX(P:Params):BT:=ins (u (u (K6 P) 3 (Cd P)) 12 (yE P)) 962 (Lw P)
noncomputable def Cb(P:Params):Obj:=pE (Cd P) (E P "_law_texts" 1524 (R 973))
noncomputable def vq(P:Params):Obj:=pF (yE P) 648 0 972
noncomputable def Kz(P:Params):List Obj:=[f3,f4,Kb "octets" 1514 "values" 1515 "draw" 1516 "places" 1517 "value" 1518 "exp" 1519 "start" 1520 "place" 1521,f3,f7 37 "_law_texts",f0 "_law_texts" 1511 "_law_texts" 648 3 967 1522,f6 37 "_law_texts" "law_jm0002_01" 1381 972]
noncomputable def JP(P:Params):BT:=ins (u (u (JX P) 3 (Cb P)) 12 (vq P)) 967 (Kz P)
noncomputable def Bj(P:Params):Obj:=pE (Cb P) (E P "_law_row" 1530 (R 978))
noncomputable def vX(P:Params):Obj:=pF (vq P) 664 0 977
noncomputable def Km(P:Params):List Obj:=[f3,f4,f7 38 "_law_row",f9 "_law_row" 1525 "_law_row" 664 4 974,f6 38 "_law_row" "law_jm0002_01" 1381 977]
noncomputable def LB(P:Params):BT:=ins (u (u (JP P) 3 (Bj P)) 12 (vX P)) 974 (Km P)
noncomputable def BK(P:Params):Obj:=pE (Bj P) (E P "_law_table" 1536 (R 983))
noncomputable def zb(P:Params):Obj:=pF (vX P) 674 0 982
noncomputable def Kx(P:Params):List Obj:=[f3,f4,f7 39 "_law_table",f9 "_law_table" 1531 "_law_table" 674 4 979,f6 39 "_law_table" "law_jm0002_01" 1381 982]
noncomputable def KP(P:Params):BT:=ins (u (u (LB P) 3 (BK P)) 12 (zb P)) 979 (Kx P)
noncomputable def Cq(P:Params):Obj:=pE (BK P) (E P "_law_lay" 1549 (R 990))
noncomputable def vh(P:Params):Obj:=pF (zb P) 689 0 989
noncomputable def J9(P:Params):List Obj:=[f3,f4,⟨(Y "tuple"),none,(.seq #[(V "octets" 1540),(V "value" 1541),(V "draws" 1542),(V "draw" 1543),(V "content" 1544),(V "exp" 1545),(V "place" 1546)] 0),z⟩,f3,f7 40 "_law_lay",f0 "_law_lay" 1537 "_law_lay" 689 3 984 1547,f6 40 "_law_lay" "law_jm0002_01" 1381 989]
noncomputable def Ln(P:Params):BT:=ins (u (u (KP P) 3 (Cq P)) 12 (vh P)) 984 (J9 P)
noncomputable def B6(P:Params):Obj:=pE (Cq P) (E P "_law_as" 1557 (R 997))
noncomputable def wm(P:Params):Obj:=pF (vh P) 710 0 996
noncomputable def KC(P:Params):List Obj:=[f3,f4,nh "told" 1553 "turn",f3,f7 41 "_law_as",f0 "_law_as" 1550 "_law_as" 710 2 991 1555,f6 41 "_law_as" "law_jm0002_01" 1381 996]
noncomputable def JU(P:Params):BT:=ins (u (u (Ln P) 3 (B6 P)) 12 (wm P)) 991 (KC P)
noncomputable def Ck(P:Params):Obj:=pE (B6 P) (E P "_law_refused" 1565 (R 1004))
noncomputable def vr(P:Params):Obj:=pF (wm P) 722 0 1003
noncomputable def JW(P:Params):List Obj:=[f3,f4,nh "told" 1561 "turn",f3,f7 42 "_law_refused",f0 "_law_refused" 1558 "_law_refused" 722 2 998 1563,f6 42 "_law_refused" "law_jm0002_01" 1381 1003]
noncomputable def Kh(P:Params):BT:=ins (u (u (JU P) 3 (Ck P)) 12 (vr P)) 998 (JW P)
noncomputable def BD(P:Params):Obj:=pE (Ck P) (E P "_law_told" 1571 (R 1009))
noncomputable def vC(P:Params):Obj:=pF (vr P) 728 0 1008
noncomputable def KM(P:Params):List Obj:=[f3,f4,f7 43 "_law_told",f9 "_law_told" 1566 "_law_told" 728 3 1005,f6 43 "_law_told" "law_jm0002_01" 1381 1008]
noncomputable def Lk(P:Params):BT:=ins (u (u (Kh P) 3 (BD P)) 12 (vC P)) 1005 (KM P)
noncomputable def B5(P:Params):Obj:=pE (BD P) (E P "law" 1577 (R 1014))
noncomputable def yM(P:Params):Obj:=pF (vC P) 746 0 1013
noncomputable def J6(P:Params):List Obj:=[f3,f4,f7 44 "law",f9 "law" 1572 "law" 746 1 1010,f6 44 "law" "law_jm0002_01" 1381 1013]
noncomputable def Ih(P:Params):BT:=ins (u (u (Lk P) 3 (B5 P)) 12 (yM P)) 1010 (J6 P)
noncomputable def Ha(P:Params):Heap:=⟨#[boot_o_0 P,boot_o_1 P,boot_o_2 P,boot_o_3 P,boot_o_4 P,boot_o_5 P,boot_o_6 P,boot_o_7 P,boot_o_8 P,boot_o_9 P,boot_o_10 P,xn P,vp P,y2 P,xP P],lf P⟩
noncomputable def zJ(w:World)(os:OsState):SharedT:=⟨T0 w.params,15,lf w.params,z,boot_drawn,187,os⟩
noncomputable def AE(w:World)(os:OsState):SharedT:=⟨T1 w.params,22,lf w.params,z,boot_drawn,194,os⟩
noncomputable def D9(w:World)(os:OsState):SharedT:=⟨T2 w.params,22,lf w.params,z,boot_drawn,196,os⟩
noncomputable def G9(w:World)(os:OsState):SharedT:=⟨T3 w.params,35,lf w.params,z,boot_drawn,216,os⟩
noncomputable def JI(w:World)(os:OsState):SharedT:=⟨T4 w.params,36,lf w.params,z,boot_drawn,229,os⟩
noncomputable def Iz(w:World)(os:OsState):SharedT:=⟨T5 w.params,37,lf w.params,z,boot_drawn,242,os⟩
noncomputable def Gh(w:World)(os:OsState):SharedT:=⟨T6 w.params,44,lf w.params,z,boot_drawn,252,os⟩
noncomputable def H7(w:World)(os:OsState):SharedT:=⟨T7 w.params,49,lf w.params,z,boot_drawn,258,os⟩
noncomputable def Jy(w:World)(os:OsState):SharedT:=⟨T8 w.params,56,lf w.params,z,boot_drawn,272,os⟩
noncomputable def Iv(w:World)(os:OsState):SharedT:=⟨T9 w.params,63,lf w.params,z,boot_drawn,282,os⟩
noncomputable def Dp(w:World)(os:OsState):SharedT:=⟨Lf w.params,188,lf w.params,z,boot_drawn,571,os⟩
noncomputable def EW(w:World)(os:OsState):SharedT:=⟨JQ w.params,258,lf w.params,z,boot_drawn,663,os⟩
noncomputable def Fg(w:World)(os:OsState):SharedT:=⟨KB w.params,287,lf w.params,z,boot_drawn,702,os⟩
noncomputable def Fq(w:World)(os:OsState):SharedT:=⟨Ky w.params,324,lf w.params,z,boot_drawn,747,os⟩
noncomputable def Dz(w:World)(os:OsState):SharedT:=⟨J0 w.params,351,lf w.params,z,boot_drawn,778,os⟩
noncomputable def DQ(w:World)(os:OsState):SharedT:=⟨Ly w.params,392,lf w.params,z,boot_drawn,824,os⟩
noncomputable def E4(w:World)(os:OsState):SharedT:=⟨La w.params,442,lf w.params,z,boot_drawn,880,os⟩
noncomputable def DT(w:World)(os:OsState):SharedT:=⟨Kw w.params,474,lf w.params,z,boot_drawn,920,os⟩
noncomputable def EX(w:World)(os:OsState):SharedT:=⟨Lu w.params,532,lf w.params,z,boot_drawn,990,os⟩
noncomputable def Ff(w:World)(os:OsState):SharedT:=⟨Kd w.params,590,lf w.params,z,boot_drawn,1067,os⟩
noncomputable def E0(w:World)(os:OsState):SharedT:=⟨Ki w.params,863,lf w.params,z,boot_drawn,1373,os⟩
noncomputable def C8(w:World)(os:OsState):SharedT:=⟨JT w.params,870,lf w.params,z,boot_drawn,1381,os⟩
noncomputable def Eb(w:World)(os:OsState):SharedT:=⟨KW w.params,870,lf w.params,z,boot_drawn,1383,os⟩
noncomputable def Dr(w:World)(os:OsState):SharedT:=⟨Lq w.params,877,lf w.params,z,boot_drawn,1392,os⟩
noncomputable def Dx(w:World)(os:OsState):SharedT:=⟨J4 w.params,884,lf w.params,z,boot_drawn,1400,os⟩
noncomputable def EN(w:World)(os:OsState):SharedT:=⟨Lv w.params,891,lf w.params,z,boot_drawn,1409,os⟩
noncomputable def CR(w:World)(os:OsState):SharedT:=⟨LC w.params,896,lf w.params,z,boot_drawn,1415,os⟩
noncomputable def DN(w:World)(os:OsState):SharedT:=⟨Kr w.params,903,lf w.params,z,boot_drawn,1423,os⟩
noncomputable def CL(w:World)(os:OsState):SharedT:=⟨JS w.params,908,lf w.params,z,boot_drawn,1429,os⟩
noncomputable def Ds(w:World)(os:OsState):SharedT:=⟨K7 w.params,915,lf w.params,z,boot_drawn,1439,os⟩
noncomputable def Eg(w:World)(os:OsState):SharedT:=⟨LF w.params,922,lf w.params,z,boot_drawn,1448,os⟩
noncomputable def CS(w:World)(os:OsState):SharedT:=⟨LA w.params,929,lf w.params,z,boot_drawn,1456,os⟩
noncomputable def Ee(w:World)(os:OsState):SharedT:=⟨Lm w.params,936,lf w.params,z,boot_drawn,1466,os⟩
noncomputable def DX(w:World)(os:OsState):SharedT:=⟨Lh w.params,943,lf w.params,z,boot_drawn,1478,os⟩
noncomputable def EA(w:World)(os:OsState):SharedT:=⟨Ke w.params,950,lf w.params,z,boot_drawn,1487,os⟩
noncomputable def Ek(w:World)(os:OsState):SharedT:=⟨JV w.params,957,lf w.params,z,boot_drawn,1499,os⟩
noncomputable def CU(w:World)(os:OsState):SharedT:=⟨K6 w.params,962,lf w.params,z,boot_drawn,1505,os⟩
noncomputable def Ft(w:World)(os:OsState):SharedT:=⟨JX w.params,967,lf w.params,z,boot_drawn,1511,os⟩
noncomputable def Dk(w:World)(os:OsState):SharedT:=⟨JP w.params,974,lf w.params,z,boot_drawn,1525,os⟩
noncomputable def Fm(w:World)(os:OsState):SharedT:=⟨LB w.params,979,lf w.params,z,boot_drawn,1531,os⟩
noncomputable def Dq(w:World)(os:OsState):SharedT:=⟨KP w.params,984,lf w.params,z,boot_drawn,1537,os⟩
noncomputable def EO(w:World)(os:OsState):SharedT:=⟨Ln w.params,991,lf w.params,z,boot_drawn,1550,os⟩
noncomputable def Dg(w:World)(os:OsState):SharedT:=⟨JU w.params,998,lf w.params,z,boot_drawn,1558,os⟩
noncomputable def DH(w:World)(os:OsState):SharedT:=⟨Kh w.params,1005,lf w.params,z,boot_drawn,1566,os⟩
noncomputable def DM(w:World)(os:OsState):SharedT:=⟨Lk w.params,1010,lf w.params,z,boot_drawn,1572,os⟩
noncomputable def tC(w:World)(os:OsState):SharedT:=⟨Ih w.params,1015,lf w.params,z,boot_drawn,1578,os⟩
theorem q0(w:World):(λos=>segRunT treeTable pw w 11 (some (.ref 6)) 1 30 (zJ w os) (piecesOf [D1 0] aV af ⟨0,0,0,0⟩ hB))=λos=>some (.next,AE w os,af,⟨1,0,3,12⟩):=ag (by kernel_rfl)
theorem q1(w:World):(λos=>segRunT treeTable pw w 11 (some (.ref 6)) 1 10 (AE w os) (piecesOf [D1 1] aV af ⟨1,0,3,12⟩ hB))=λos=>some (.next,D9 w os,af,⟨4,0,4,8⟩):=ag (by kernel_rfl)
theorem q2(w:World):(λos=>segRunT treeTable pw w 11 (some (.ref 6)) 1 197 (D9 w os) (piecesOf [D1 2] aV af ⟨4,0,4,8⟩ hB))=λos=>some (.next,G9 w os,af,⟨5,0,6,8⟩):=ag (by kernel_rfl)
theorem q3:∀w:World,(λos=>segRunT treeTable pw w 11 (some (.ref 6)) 1 63 (G9 w os) (piecesOf [D1 3] aV af ⟨5,0,6,8⟩ hB))=λos=>some (.next,JI w os,af,⟨7,0,7,1⟩):=byRow2 "special-get-raises" (λw=>ag (by kernel_rfl)) (λw=>ag (by kernel_rfl))
theorem q4:∀w:World,(λos=>segRunT treeTable pw w 11 (some (.ref 6)) 1 63 (JI w os) (piecesOf [D1 4] aV af ⟨7,0,7,1⟩ hB))=λos=>some (.next,Iz w os,af,⟨8,0,8,1⟩):=byRow2 "special-get-raises" (λw=>ag (by kernel_rfl)) (λw=>ag (by kernel_rfl))
theorem q5(w:World):(λos=>segRunT treeTable pw w 11 (some (.ref 6)) 1 33 (Iz w os) (piecesOf [D1 5] aV af ⟨8,0,8,1⟩ hB))=λos=>some (.next,Gh w os,af,⟨9,0,14,17⟩):=ag (by kernel_rfl)
theorem q6(w:World):(λos=>segRunT treeTable pw w 11 (some (.ref 6)) 1 27 (Gh w os) (piecesOf [D1 6] aV af ⟨9,0,14,17⟩ hB))=λos=>some (.next,H7 w os,af,⟨15,0,21,97⟩):=ag (by kernel_rfl)
theorem q7(w:World):(λos=>segRunT treeTable pw w 11 (some (.ref 6)) 1 37 (H7 w os) (piecesOf [D1 7] aV af ⟨15,0,21,97⟩ hB))=λos=>some (.next,Jy w os,af,⟨22,0,35,16⟩):=ag (by kernel_rfl)
theorem q8(w:World):(λos=>segRunT treeTable pw w 11 (some (.ref 6)) 1 33 (Jy w os) (piecesOf [D1 8] aV af ⟨22,0,35,16⟩ hB))=λos=>some (.next,Iv w os,af,⟨36,0,40,13⟩):=ag (by kernel_rfl)
theorem q9(w:World):(λos=>segRunT treeTable pw w 11 (some (.ref 6)) 1 2268 (Iv w os) (piecesOf [D1 9] aV af ⟨36,0,40,13⟩ hB))=λos=>some (.next,Dp w os,af,⟨41,0,120,16⟩):=ag (by kernel_rfl)
theorem M5(w:World):(λos=>segRunT treeTable pw w 11 (some (.ref 6)) 1 454 (Dp w os) (piecesOf [D1 10] aV af ⟨41,0,120,16⟩ hB))=λos=>some (.next,EW w os,af,⟨121,0,153,86⟩):=ag (by kernel_rfl)
theorem Mb(w:World):(λos=>segRunT treeTable pw w 11 (some (.ref 6)) 1 314 (EW w os) (piecesOf [D1 11] aV af ⟨121,0,153,86⟩ hB))=λos=>some (.next,Fg w os,af,⟨154,0,162,16⟩):=ag (by kernel_rfl)
theorem NV(w:World):(λos=>segRunT treeTable pw w 11 (some (.ref 6)) 1 386 (Fg w os) (piecesOf [D1 12] aV af ⟨154,0,162,16⟩ hB))=λos=>some (.next,Fq w os,af,⟨163,0,177,25⟩):=ag (by kernel_rfl)
theorem MK(w:World):(λos=>segRunT treeTable pw w 11 (some (.ref 6)) 1 347 (Fq w os) (piecesOf [D1 13] aV af ⟨163,0,177,25⟩ hB))=λos=>some (.next,Dz w os,af,⟨178,0,185,59⟩):=ag (by kernel_rfl)
theorem Ny(w:World):(λos=>segRunT treeTable pw w 11 (some (.ref 6)) 1 410 (Dz w os) (piecesOf [D1 14] aV af ⟨178,0,185,59⟩ hB))=λos=>some (.next,DQ w os,af,⟨186,0,199,61⟩):=ag (by kernel_rfl)
theorem Nj(w:World):(λos=>segRunT treeTable pw w 11 (some (.ref 6)) 1 444 (DQ w os) (piecesOf [D1 15] aV af ⟨186,0,199,61⟩ hB))=λos=>some (.next,E4 w os,af,⟨200,0,217,58⟩):=ag (by kernel_rfl)
theorem Ni(w:World):(λos=>segRunT treeTable pw w 11 (some (.ref 6)) 1 378 (E4 w os) (piecesOf [D1 16] aV af ⟨200,0,217,58⟩ hB))=λos=>some (.next,DT w os,af,⟨218,0,232,95⟩):=ag (by kernel_rfl)
theorem MB(w:World):(λos=>segRunT treeTable pw w 11 (some (.ref 6)) 1 609 (DT w os) (piecesOf [D1 17] aV af ⟨218,0,232,95⟩ hB))=λos=>some (.next,EX w os,af,⟨233,0,273,137⟩):=ag (by kernel_rfl)
theorem NO(w:World):(λos=>segRunT treeTable pw w 11 (some (.ref 6)) 1 735 (EX w os) (piecesOf [D1 18] aV af ⟨233,0,273,137⟩ hB))=λos=>some (.next,Ff w os,af,⟨274,0,309,58⟩):=ag (by kernel_rfl)
theorem Mr(w:World):(λos=>segRunT treeTable pw w 11 (some (.ref 6)) 1 2813 (Ff w os) (piecesOf [D1 19] aV af ⟨274,0,309,58⟩ hB))=λos=>some (.next,E0 w os,af,⟨310,0,520,54⟩):=ag (by kernel_rfl)
theorem LL(w:World):(λos=>segRunT treeTable pw w 11 (some (.ref 6)) 1 31 (E0 w os) (piecesOf [D1 20] aV af ⟨310,0,520,54⟩ hB))=λos=>some (.next,C8 w os,af,⟨521,0,525,87⟩):=ag (by kernel_rfl)
theorem MP(w:World):(λos=>segRunT treeTable pw w 11 (some (.ref 6)) 1 10 (C8 w os) (piecesOf [D1 21] aV af ⟨521,0,525,87⟩ hB))=λos=>some (.next,Eb w os,af,⟨526,0,526,8⟩):=ag (by kernel_rfl)
theorem Nd(w:World):(λos=>segRunT treeTable pw w 11 (some (.ref 6)) 1 32 (Eb w os) (piecesOf [D1 22] aV af ⟨526,0,526,8⟩ hB))=λos=>some (.next,Dr w os,af,⟨527,0,530,69⟩):=ag (by kernel_rfl)
theorem NX(w:World):(λos=>segRunT treeTable pw w 11 (some (.ref 6)) 1 31 (Dr w os) (piecesOf [D1 23] aV af ⟨527,0,530,69⟩ hB))=λos=>some (.next,Dx w os,af,⟨531,0,533,86⟩):=ag (by kernel_rfl)
theorem NK(w:World):(λos=>segRunT treeTable pw w 11 (some (.ref 6)) 1 32 (Dx w os) (piecesOf [D1 24] aV af ⟨531,0,533,86⟩ hB))=λos=>some (.next,EN w os,af,⟨534,0,538,15⟩):=ag (by kernel_rfl)
theorem Nb(w:World):(λos=>segRunT treeTable pw w 11 (some (.ref 6)) 1 27 (EN w os) (piecesOf [D1 25] aV af ⟨534,0,538,15⟩ hB))=λos=>some (.next,CR w os,af,⟨539,0,563,16⟩):=ag (by kernel_rfl)
theorem LK(w:World):(λos=>segRunT treeTable pw w 11 (some (.ref 6)) 1 31 (CR w os) (piecesOf [D1 26] aV af ⟨539,0,563,16⟩ hB))=λos=>some (.next,DN w os,af,⟨564,0,570,17⟩):=ag (by kernel_rfl)
theorem MX(w:World):(λos=>segRunT treeTable pw w 11 (some (.ref 6)) 1 27 (DN w os) (piecesOf [D1 27] aV af ⟨564,0,570,17⟩ hB))=λos=>some (.next,CL w os,af,⟨571,0,588,65⟩):=ag (by kernel_rfl)
theorem MV(w:World):(λos=>segRunT treeTable pw w 11 (some (.ref 6)) 1 33 (CL w os) (piecesOf [D1 28] aV af ⟨571,0,588,65⟩ hB))=λos=>some (.next,Ds w os,af,⟨589,0,594,12⟩):=ag (by kernel_rfl)
theorem LX(w:World):(λos=>segRunT treeTable pw w 11 (some (.ref 6)) 1 32 (Ds w os) (piecesOf [D1 29] aV af ⟨589,0,594,12⟩ hB))=λos=>some (.next,Eg w os,af,⟨595,0,596,78⟩):=ag (by kernel_rfl)
theorem NH(w:World):(λos=>segRunT treeTable pw w 11 (some (.ref 6)) 1 31 (Eg w os) (piecesOf [D1 30] aV af ⟨595,0,596,78⟩ hB))=λos=>some (.next,CS w os,af,⟨597,0,598,54⟩):=ag (by kernel_rfl)
theorem M9(w:World):(λos=>segRunT treeTable pw w 11 (some (.ref 6)) 1 33 (CS w os) (piecesOf [D1 31] aV af ⟨597,0,598,54⟩ hB))=λos=>some (.next,Ee w os,af,⟨599,0,604,16⟩):=ag (by kernel_rfl)
theorem NT(w:World):(λos=>segRunT treeTable pw w 11 (some (.ref 6)) 1 35 (Ee w os) (piecesOf [D1 32] aV af ⟨599,0,604,16⟩ hB))=λos=>some (.next,DX w os,af,⟨605,0,615,50⟩):=ag (by kernel_rfl)
theorem Mg(w:World):(λos=>segRunT treeTable pw w 11 (some (.ref 6)) 1 32 (DX w os) (piecesOf [D1 33] aV af ⟨605,0,615,50⟩ hB))=λos=>some (.next,EA w os,af,⟨616,0,617,77⟩):=ag (by kernel_rfl)
theorem LN(w:World):(λos=>segRunT treeTable pw w 11 (some (.ref 6)) 1 35 (EA w os) (piecesOf [D1 34] aV af ⟨616,0,617,77⟩ hB))=λos=>some (.next,Ek w os,af,⟨618,0,629,58⟩):=ag (by kernel_rfl)
theorem NI(w:World):(λos=>segRunT treeTable pw w 11 (some (.ref 6)) 1 27 (Ek w os) (piecesOf [D1 35] aV af ⟨618,0,629,58⟩ hB))=λos=>some (.next,CU w os,af,⟨630,0,644,60⟩):=ag (by kernel_rfl)
theorem MY(w:World):(λos=>segRunT treeTable pw w 11 (some (.ref 6)) 1 27 (CU w os) (piecesOf [D1 36] aV af ⟨630,0,644,60⟩ hB))=λos=>some (.next,Ft w os,af,⟨645,0,647,76⟩):=ag (by kernel_rfl)
theorem Nz(w:World):(λos=>segRunT treeTable pw w 11 (some (.ref 6)) 1 37 (Ft w os) (piecesOf [D1 37] aV af ⟨645,0,647,76⟩ hB))=λos=>some (.next,Dk w os,af,⟨648,0,663,50⟩):=ag (by kernel_rfl)
theorem NJ(w:World):(λos=>segRunT treeTable pw w 11 (some (.ref 6)) 1 27 (Dk w os) (piecesOf [D1 38] aV af ⟨648,0,663,50⟩ hB))=λos=>some (.next,Fm w os,af,⟨664,0,673,51⟩):=ag (by kernel_rfl)
theorem Mm(w:World):(λos=>segRunT treeTable pw w 11 (some (.ref 6)) 1 27 (Fm w os) (piecesOf [D1 39] aV af ⟨664,0,673,51⟩ hB))=λos=>some (.next,Dq w os,af,⟨674,0,688,60⟩):=ag (by kernel_rfl)
theorem NF(w:World):(λos=>segRunT treeTable pw w 11 (some (.ref 6)) 1 36 (Dq w os) (piecesOf [D1 40] aV af ⟨674,0,688,60⟩ hB))=λos=>some (.next,EO w os,af,⟨689,0,709,67⟩):=ag (by kernel_rfl)
theorem LS(w:World):(λos=>segRunT treeTable pw w 11 (some (.ref 6)) 1 31 (EO w os) (piecesOf [D1 41] aV af ⟨689,0,709,67⟩ hB))=λos=>some (.next,Dg w os,af,⟨710,0,721,71⟩):=ag (by kernel_rfl)
theorem Mk(w:World):(λos=>segRunT treeTable pw w 11 (some (.ref 6)) 1 31 (Dg w os) (piecesOf [D1 42] aV af ⟨710,0,721,71⟩ hB))=λos=>some (.next,DH w os,af,⟨722,0,727,19⟩):=ag (by kernel_rfl)
theorem LZ(w:World):(λos=>segRunT treeTable pw w 11 (some (.ref 6)) 1 27 (DH w os) (piecesOf [D1 43] aV af ⟨722,0,727,19⟩ hB))=λos=>some (.next,DM w os,af,⟨728,0,745,80⟩):=ag (by kernel_rfl)
theorem ML(w:World):(λos=>segRunT treeTable pw w 11 (some (.ref 6)) 1 27 (DM w os) (piecesOf [D1 44] aV af ⟨728,0,745,80⟩ hB))=λos=>some (.next,tC w os,af,⟨746,0,762,53⟩):=ag (by kernel_rfl)
end Hd
namespace Hd
theorem Fp:∀w:World,(fencedOpening treeTable pw w 20000).map (λs=>(s.heap,s.gens,s.drawn,s.toks))=some (boot_heap w.params,#[],boot_drawn,boot_toks):=boot_open (by kernel_rfl) (by decide +kernel) (λs=>by kernel_rfl)
theorem Dn:∀w:World,((boot_heap w.params).isNs mainGlobals&&(#[]:Array GenState).size==0,(boot_heap w.params).objs.size,(boot_heap w.params).nsMap mainGlobals "__annotations__")=(true,11,some (.ref 6)):=λw=>by kernel_rfl
theorem HM(w:World)(os:OsState):topGo treeTable pw w 11 (some (.ref 6)) 12 ⟨boot_heap w.params,#[],boot_drawn,boot_toks,os⟩ (topStub pw)=some (⟨Ha w.params,#[],boot_drawn,187,os⟩,⟨denote treeTable af,af,⟨0,0,0,0⟩,hB⟩):=by
 rw[Fast.te15667345088766844465,Fast.te14364793385576792824,Fast.te11892475500146522536];kernel_rfl
theorem Ac(w:World)(os:OsState):segRun treeTable pw w 11 (some (.ref 6)) 1 1 ⟨Ha w.params,#[],boot_drawn,187,os⟩ (blockOf (behindTheImports pw) aV af ⟨0,0,0,0⟩ hB)=some (.next,(zJ w os).abs,af,⟨0,0,0,0⟩):=by
 unfold blockOf
 rw[Fast.te14374325043358763698,Fast.te14364793385576792824,Fast.te1066825118222455980];kernel_rfl
theorem FV(w:World)(os:OsState):topRun treeTable pw w 11 (some (.ref 6)) 2 (tC w os).abs ⟨doneF .next,af,⟨746,0,762,53⟩,hB⟩=some (tC w os).abs:=by
 rw[Fast.te14082659384304107361,Fast.te14364793385576792824];kernel_rfl
theorem Fk{w:World}{N n:Nat}{f g:World->OsState->SharedT}{r:Shared}{st:Stmt}{rest:List Stmt}{pos p':Pos}
  (h:(λos=>segRunT treeTable pw w 11 (some (.ref 6)) 1 n (f w os) (piecesOf [st] aV af pos hB))=λos=>some (.next,g w os,af,p')) (os:OsState)
  (k:topRun treeTable pw w 11 (some (.ref 6)) N (g w os).abs (restOf rest aV af p' hB)=some r):topRun treeTable pw w 11 (some (.ref 6)) (n+N) (f w os).abs (restOf (st::rest) aV af pos hB)=some r:=
 piece_app (l:=[st]) (segRun_of (congrFun h os)) k
noncomputable def nums:Nat->Nat->List Stmt
 | _,0=>[]
 | i,k+1=>D1 i::nums (i+1) k
def RR(N:Nat)(st:World->OsState->SharedT)(l:List Stmt)(p:Pos):Prop:=∀(w:World) (os:OsState),topRun treeTable pw w 11 (some (.ref 6)) N (st w os).abs (restOf l aV af p hB)=some (tC w os).abs
theorem rr{n N M i k:Nat}{f g:World->OsState->SharedT}{pos p':Pos}(e:M=n+N)
  (h:∀w:World,(λos=>segRunT treeTable pw w 11 (some (.ref 6)) 1 n (f w os) (piecesOf [D1 i] aV af pos hB))=λos=>some (.next,g w os,af,p')) (r:RR N g (nums (i+1) k) p'):RR M f (nums i (k+1)) pos:=λw os=>by
 subst e;exact Fk (n:=n) (N:=N) (f:=f) (g:=g) (st:=D1 i) (rest:=nums (i+1) k) (h w) os (r w os)
theorem L2:RR 2 tC [] ⟨746,0,762,53⟩:=λw os=>piece_nil (FV w os)
theorem MJ:RR 29 DM (nums 44 1) ⟨728,0,745,80⟩:=rr (n:=27) rfl ML L2
theorem M3:RR 56 DH (nums 43 2) ⟨722,0,727,19⟩:=rr (n:=27) rfl LZ MJ
theorem MM:RR 87 Dg (nums 42 3) ⟨710,0,721,71⟩:=rr (n:=31) rfl Mk M3
theorem Mx:RR 118 EO (nums 41 4) ⟨689,0,709,67⟩:=rr (n:=31) rfl LS MM
theorem NR:RR 154 Dq (nums 40 5) ⟨674,0,688,60⟩:=rr (n:=36) rfl NF Mx
theorem Mw:RR 181 Fm (nums 39 6) ⟨664,0,673,51⟩:=rr (n:=27) rfl Mm NR
theorem Me:RR 208 Dk (nums 38 7) ⟨648,0,663,50⟩:=rr (n:=27) rfl NJ Mw
theorem Mj:RR 245 Ft (nums 37 8) ⟨645,0,647,76⟩:=rr (n:=37) rfl Nz Me
theorem LM:RR 272 CU (nums 36 9) ⟨630,0,644,60⟩:=rr (n:=27) rfl MY Mj
theorem MO:RR 299 Ek (nums 35 10) ⟨618,0,629,58⟩:=rr (n:=27) rfl NI LM
theorem Nm:RR 334 EA (nums 34 11) ⟨616,0,617,77⟩:=rr (n:=35) rfl LN MO
theorem LW:RR 366 DX (nums 33 12) ⟨605,0,615,50⟩:=rr (n:=32) rfl Mg Nm
theorem NS:RR 401 Ee (nums 32 13) ⟨599,0,604,16⟩:=rr (n:=35) rfl NT LW
theorem LU:RR 434 CS (nums 31 14) ⟨597,0,598,54⟩:=rr (n:=33) rfl M9 NS
theorem Nl:RR 465 Eg (nums 30 15) ⟨595,0,596,78⟩:=rr (n:=31) rfl NH LU
theorem MW:RR 497 Ds (nums 29 16) ⟨589,0,594,12⟩:=rr (n:=32) rfl LX Nl
theorem ME:RR 530 CL (nums 28 17) ⟨571,0,588,65⟩:=rr (n:=33) rfl MV MW
theorem LP:RR 557 DN (nums 27 18) ⟨564,0,570,17⟩:=rr (n:=27) rfl MX ME
theorem LY:RR 588 CR (nums 26 19) ⟨539,0,563,16⟩:=rr (n:=31) rfl LK LP
theorem Ma:RR 615 EN (nums 25 20) ⟨534,0,538,15⟩:=rr (n:=27) rfl Nb LY
theorem MZ:RR 647 Dx (nums 24 21) ⟨531,0,533,86⟩:=rr (n:=32) rfl NK Ma
theorem Nv:RR 678 Dr (nums 23 22) ⟨527,0,530,69⟩:=rr (n:=31) rfl NX MZ
theorem Mf:RR 710 Eb (nums 22 23) ⟨526,0,526,8⟩:=rr (n:=32) rfl Nd Nv
theorem MF:RR 720 C8 (nums 21 24) ⟨521,0,525,87⟩:=rr (n:=10) rfl MP Mf
theorem LQ:RR 751 E0 (nums 20 25) ⟨310,0,520,54⟩:=rr (n:=31) rfl LL MF
theorem Mo:RR 3564 Ff (nums 19 26) ⟨274,0,309,58⟩:=rr (n:=2813) rfl Mr LQ
theorem MC:RR 4299 EX (nums 18 27) ⟨233,0,273,137⟩:=rr (n:=735) rfl NO Mo
theorem Na:RR 4908 DT (nums 17 28) ⟨218,0,232,95⟩:=rr (n:=609) rfl MB MC
theorem NL:RR 5286 E4 (nums 16 29) ⟨200,0,217,58⟩:=rr (n:=378) rfl Ni Na
theorem Mz:RR 5730 DQ (nums 15 30) ⟨186,0,199,61⟩:=rr (n:=444) rfl Nj NL
theorem Ng:RR 6140 Dz (nums 14 31) ⟨178,0,185,59⟩:=rr (n:=410) rfl Ny Mz
theorem NC:RR 6487 Fq (nums 13 32) ⟨163,0,177,25⟩:=rr (n:=347) rfl MK Ng
theorem Lz:RR 6873 Fg (nums 12 33) ⟨154,0,162,16⟩:=rr (n:=386) rfl NV NC
theorem Mi:RR 7187 EW (nums 11 34) ⟨121,0,153,86⟩:=rr (n:=314) rfl Mb Lz
theorem M7:RR 7641 Dp (nums 10 35) ⟨41,0,120,16⟩:=rr (n:=454) rfl M5 Mi
theorem r9:RR 9909 Iv (nums 9 36) ⟨36,0,40,13⟩:=rr (n:=2268) rfl q9 M7
theorem r8:RR 9942 Jy (nums 8 37) ⟨22,0,35,16⟩:=rr (n:=33) rfl q8 r9
theorem r7:RR 9979 H7 (nums 7 38) ⟨15,0,21,97⟩:=rr (n:=37) rfl q7 r8
theorem r6:RR 10006 Gh (nums 6 39) ⟨9,0,14,17⟩:=rr (n:=27) rfl q6 r7
theorem r5:RR 10039 Iz (nums 5 40) ⟨8,0,8,1⟩:=rr (n:=33) rfl q5 r6
theorem r4:RR 10102 JI (nums 4 41) ⟨7,0,7,1⟩:=rr (n:=63) rfl q4 r5
theorem r3:RR 10165 G9 (nums 3 42) ⟨5,0,6,8⟩:=rr (n:=63) rfl q3 r4
theorem r2:RR 10362 D9 (nums 2 43) ⟨4,0,4,8⟩:=rr (n:=197) rfl q2 r3
theorem r1:RR 10372 AE (nums 1 44) ⟨1,0,3,12⟩:=rr (n:=10) rfl q1 r2
theorem r0:RR 10402 zJ (nums 0 45) ⟨0,0,0,0⟩:=rr (n:=30) rfl q0 r1
theorem DJ:behindTheImports pw=nums 0 45:=by kernel_rfl
theorem Hg(w:World)(os:OsState):topRun treeTable pw w 11 (some (.ref 6)) 10415 ⟨boot_heap w.params,#[],boot_drawn,boot_toks,os⟩ (topStub pw)=some (tC w os).abs:=
 go_top (n:=12) (N:=10403) (HM w os) (piece_block (n:=1) (N:=10402) (Ac w os) (by rw[DJ];exact r0 w os))
noncomputable def H1(P:Params):Heap:=absHeap (Ih P) 1015 (lf P)
noncomputable def num:Nat->List Obj->List (Addr×Obj)
 | _,[]=>[]
 | a,o::r=>(a,o)::num (a+1) r
noncomputable def KF(P:Params):List (Addr×Obj):=[(0,boot_o_0 P),(1,boot_o_1 P),(2,G1 P),(3,B5 P),(4,boot_o_4 P),(5,boot_o_5 P),(6,boot_o_6 P),(7,boot_o_7 P),(8,boot_o_8 P),(9,boot_o_9 P),(10,boot_o_10 P),(11,xn P),(12,yM P),(13,y2 P),(14,xP P),(282,vg P),(321,uS P),(471,wQ P)]++(num 15 (L1 P)++num 22 (L3 P)++num 35 (L4 P)++num 36 (L5 P)++num 37 (L6 P)++num 44 (L7 P)++num 49 (L8 P)++num 56 (L9 P)++num 63 (KS P)++num 188 (K9 P)++num 258 (J1 P)++num 287 (Ll P)++num 324 (Le P)++num 351 (KV P)++num 392 (KR P)++num 442 (J2 P)++num 474 (Lc P)++num 532 (KO P)++num 590 (J5 P)++num 863 (KQ P)++num 870 (Lp P)++num 877 (KE P)++num 884 (JO P)++num 891 (Kl P)++num 896 (KL P)++num 903 (JN P)++num 908 (JR P)++num 915 (KX P)++num 922 (JY P)++num 929 (Kc P)++num 936 (Ku P)++num 943 (J7 P)++num 950 (Kp P)++num 957 (Ka P)++num 962 (Lw P)++num 967 (Kz P)++num 974 (Km P)++num 979 (Kx P)++num 984 (J9 P)++num 991 (KC P)++num 998 (JW P)++num 1005 (KM P)++num 1010 (J6 P)).filter λp=>!(Nat.beq p.1 282||(Nat.beq p.1 321||Nat.beq p.1 471))
noncomputable def qv:Program:={pw with main:={pw.main with body:=[D1 44]}}
end Hd
namespace Hd
noncomputable def d9:List Str:=["_wall","StructError","I","U","_Unpack","_UnpackVector","_LowerBound","_BinarySearch","Type","Buf","Object","Sized","Blob","String","Key","Vector","TypedVector","Map","Ref","GetRoot","_law_text","_law_octets","_law_key","_law_value","_law_trees","_law_same","_law_need","_law_write","_law_align","_law_sized","_law_number","_law_element","_law_vector","_law_typed","_law_plain","_law_texts","_law_row","_law_table","_law_lay","_law_as","_law_refused","_law_told"].map Str.ofString
theorem l1(w:World)(os:OsState):(staticsOk (importedModules pw.main.body) (boot_heap w.params) (H1 w.params)&&namesBound pw (H1 w.params)&&gensDone ⟨H1 w.params,#[],boot_drawn,1578,os⟩&&laidKept (boot_heap w.params) (H1 w.params))=true:=by kernel_rfl
theorem l2(w:World)(os:OsState):openSeen qv d9 (importedModules pw.main.body) (λq0=>true) true ⟨H1 w.params,#[],boot_drawn,1578,os⟩=openGood qv d9:=by
 rw[Fast.te4187177175401517315];kernel_rfl
end Hd
namespace Hd
open PySem.Spec
theorem CM(w:World)(os:OsState):topRun treeTable pw w 11 (some (.ref 6)) 10415 ⟨boot_heap w.params,#[],boot_drawn,boot_toks,os⟩ (topStub pw)=some ⟨H1 w.params,#[],boot_drawn,1578,os⟩:=(Hg w os).trans (by kernel_rfl)
theorem Ao(w:World):(λos=>((staticsOk (importedModules pw.main.body) (boot_heap w.params) (H1 w.params)&&namesBound pw (H1 w.params)&&gensDone ⟨H1 w.params,#[],boot_drawn,1578,os⟩&&laidKept (boot_heap w.params) (H1 w.params)),
    openSeen qv d9 (importedModules pw.main.body) (λq0=>true) true ⟨H1 w.params,#[],boot_drawn,1578,os⟩,H1 w.params))=λq0=>(true,openGood qv d9,H1 w.params):=
 funext λos=>looks_pair (l1 w os) (looks_pair (l2 w os) rfl)
theorem Jg:Nat.ble 10415 20000=true:=by decide +kernel
end Hd
namespace Hd
open PySem.Spec
theorem Dv:LeftO pw qv d9 (λq0=>true) (λs=>s.heap) (λw=>H1 w.params) 20000:=
 @LeftO.of_pieces pw qv d9 (λq0=>true) Heap (λs=>s.heap) (λw=>H1 w.params) 20000 true boot_heap H1 #[] #[] boot_drawn boot_drawn boot_toks 1578 11 (some (.ref 6)) 10415 Fp Dn CM Jg Ao
end Hd
namespace Hd
open PySem.Spec Mine
theorem qd:zv (.builtin "claim.caller" {}):=λv p=>rfl
theorem ta:iQ []:=λx m=>nomatch m
theorem jn{M:Model}{A:Around}{Γ:PySem.Ctx}{t:Sem Fin}{R:Result->Shared->Prop}{s:Shared}(hin:Γ.In A)(ok:zv Γ.code/\iQ Γ.below)
  (h:a6 true M A t (λfin s'=>∃f,fin=.done f/\R (.ok f) s') (λe s'=>R (.error e) s') s) (p:Pos):
  Sem.wp M Γ t (Sem.finPost M Γ R) (λe q0 s'=>R (.error e) s') p s:=by
 refine Sem.wp_mono M Γ t (λfin p' s' h'=>?_) (λq0 q1 q2 h'=>h') p s (h Γ p hin λq0=>ok)
 obtain⟨f,rfl,hf⟩:=h'
 exact hf
theorem lJ{prog:Program}{w:World}{t:Sem Fin}{s:Shared}{R:Result->Shared->Prop}(hreg:s.asleep)
  (h:a6 true (model prog w) callerA t (λfin s'=>∃f,fin=.done f/\(R (.ok f) s'/\leftWithCleanup s'.gens=false)) (λe s'=>R (.error e) s'/\leftWithCleanup s'.gens=false) s):
  ∃n r s' s'',runN (denote table) prog w n s ⟨t,.builtin "claim.caller" {},default,[]⟩=.halted (outcomeOf r) s'/\
   schedN (denote table) prog w n (.single s ⟨t,.builtin "claim.caller" {},default,[]⟩)=.halted (outcomeOf r) s'/\s'.forget=s''.forget/\R r s'':=by
 obtain⟨n,r,s₁,s₂,hs,hn,hfo,hR⟩:=wp_halts_full (M:=model prog w) (R:=R) hreg (jn (R:=λr s'=>R r s'/\leftWithCleanup s'.gens=false) caller_in ⟨qd,ta⟩ h default)
 exact⟨n,r,s₂,s₁,hn,hs,hfo,hR⟩
theorem fQ{c:ClaimW}{tree:List Value->Sem Fin}{w:World}{s:Shared}{free:Addr->Prop}{gens:Prop}{kept:Heap->Prop}(hz:s.asleep)(hgens:s.gens= #[])
  (hspec:∀args,c.pre args=true->WData.layableAll args=true->
   ∀ord:List DictEntry->List DictEntry,(∀l,(ord l).Perm l)->
   ∃vs s₁,layAllW c.records (classAt s.heap) w.params ord args s=some (vs,s₁)/\
    a6 true (model c.prog w) callerA (tree vs) (λfin s'=>∃f,fin=.done f/\(c.Ends s args vs s₁ (.ok f) s'/\s'.os=s.os/\AllBare s'.gens/\kept s'.heap))
     (λe s'=>c.Ends s args vs s₁ (.error e) s'/\s'.os=s.os/\AllBare s'.gens/\kept s'.heap) s₁):
  c.CallFrom (λvs=>⟨tree vs,.builtin "claim.caller" {},default,[]⟩) w free gens kept s:=by
 intro args hpre hlay ord hord
 refine bp λG0 hG=>?_
 obtain⟨vs,s₁,hlaid,hcode⟩:=hspec args hpre hlay ord hord
 have hal:=layAllW_rest _ _ _ hlaid
 obtain⟨k,r,s',s'',hrun,hsched,hfo,hcase,hos,hkp⟩:=lJ (prog:=c.prog) (w:=w) (t:=tree vs) (s:=s₁)
  (R:=λr s'=>c.Ends s args vs s₁ r s'/\s'.os=s.os/\kept s'.heap)
  (Shared.asleep_of_life hal.2.2.2 hz)
  (aI hcode (λfin s' ⟨f,e,h1,h2,h3,h4⟩=>⟨f,e,⟨h1,h2,h4⟩,leftWithCleanup_false_of_bare h3⟩) λe s' ⟨h1,h2,h3,h4⟩=>⟨⟨h1,h2,h4⟩,leftWithCleanup_false_of_bare h3⟩)
 obtain⟨eh,_,_,eo,_⟩:=Shared.forget_eq hfo
 have hcase:=hcase.congr eh
 rw[<-eh]at hkp
 rw[<-eo]at hos
 have hlife:s'.heap.life=s.heap.life:=(runN_life _ _ _ hrun).trans hal.2.2.2
 refine hG ⟨vs,s₁,hlaid,k,_,s',hsched,?_,(λq0 i x hx=>by rw[hgens]at hx;simp at hx),hkp,by rw[hlife],Shared.rest_eq hos⟩
 exact hcase.imp (Exists.imp λv=>And.imp (congrArg outcomeOf) (And.imp_right (And.imp_right (And.imp_right (And.imp_left λd4 b o y q0=>d4 b o y))))) (Exists.imp λe=>Exists.imp λob=>Exists.imp λcls=>And.imp (congrArg outcomeOf) (And.imp_right (And.imp_right (And.imp_right (And.imp_right λd5 b o y q0=>d5 b o y)))))
noncomputable abbrev ql:OpenRow:=PySem.Challenge.rw_jm0002_01.row
theorem D0{q:Program}{loose:List Str}{Xt:Shared->Bool}{XP:(Str->Option Value)->Heap->Prop}{α:Type}{Yf:Shared->α}{Ya:World->α}{YP:World->Heap->Prop}{d:DefRec}{kwd:List (Str×Expr)}{N:Nat}{r:OpenRow}
  (left:LeftO r.prog q loose Xt Yf Ya N) (hY:∀w s,Yf s=Ya w->YP w s.heap) (hYk:∀w h h',YP w h->(∀b o,h.get? b=some o->h'.get? b=some o)->YP w h')
  (hX:∀s,Xt s=true->XP (s.heap.nsMap mainGlobals) s.heap) (hXk:∀mg h h',XP mg h->(∀b o,h.get? b=some o->h'.get? b=some o)->XP mg h')
  (hdef:defOf q r.name=some (d,kwd)) (hp:r.prog.theDef r.name=some (d.params,d.body,d.scope)) (hk:kwWritten? d.params.kwonlyargs d.params.kw_defaults=some kwd) (hRf:∀s,Xt s=true->RecFacts r.records s.heap) (hwr:(!r.writes||r.records.isEmpty)=true)
  (k1:r.wellSaid=true) (ok:(chainsOk q&&opensWell r.prog&&(frees r.toRowW&&r.within.isEmpty))=true) (hb:r.prog.bare) (hw:r.toRowW.promised)
  (call:∀(w:World) (s₀ s₁:Shared) (mg mb:Str->Option Value),Ground q loose r.toRowW.records XP w s₀ mg mb s₁.heap->YP w s₁.heap->∀(f:Value),mg d.name=some f->s₁.gens= #[]->
   ∀(args:List WData) (vals:List Value) (as:List Addr),r.toRowW.claim.pre args=true->WData.layableAll args=true->ReadsAllW r.toRowW.records (classAt s₀.heap) s₁.heap vals args as->WellAll w.params s₁.heap vals args->(∀a∈as,(a==sysModules)=false)->
   a6 true (model r.toRowW.prog w) callerA (PySem.call f vals) (λv s'=>GoodWG r.toRowW.claim (classAt s₀.heap) (ExcName.means s₀.heap) args s₁ (.ok (.ret v)) s')
    (λe s'=>GoodWG r.toRowW.claim (classAt s₀.heap) (ExcName.means s₀.heap) args s₁ (.error e) s') s₁):r.Holds:=by
 refine⟨k1,hw,?_⟩
 refine bp λGG hGG=>?_
 obtain⟨ok,k5⟩:=Bool.and_eq_true_iff.mp ok
 obtain⟨hch,o1⟩:=Bool.and_eq_true_iff.mp ok
 obtain⟨k5,k6⟩:=Bool.and_eq_true_iff.mp k5
 obtain⟨hsame,hu,ha,hap,hm⟩:=frees_parts k5
 refine hGG ⟨⟨hb,o1,by show r.toRowW.makers.map _=[];rw[hm];rfl⟩,hw.witness,λw=>⟨(left.behind hX hch w).1,λs' hs'=>?_⟩⟩
 refine bp λGG hGG=>?_
 obtain⟨s₀,hf,hg0,s,hT,hz,hgens,hg,G00,y⟩:=(left.behind (XP:=λmg h=>XP mg h/\RecFacts r.records h) (λs hs=>⟨hX s hs,hRf s hs⟩) hch w).2 s' hs'
 have G0:Ground q loose [] XP w s (s.heap.nsMap mainGlobals) (s.heap.nsMap builtinsNs) s.heap:=⟨G00.T,G00.B,G00.D,G00.TE,G00.TD,G00.W,G00.X.1,G00.cls,G00.has,G00.apart,G00.once,G00.K⟩
 have RF:=G00.X.2
 have hT':=hT
 refine hGG ⟨s₀,hf,hg0,s,hT,λn hn=>?_,RF.1,RF.2.1,?_⟩
 ·obtain rfl:n=r.name:=by split at hn<;>simp_all
  exact pinned_of_view hg G0 hdef hp hk
 have hgens:s.gens= #[]:=Array.eq_empty_of_size_eq_zero (beq_iff_eq.mp hgens)
 have G:Ground q loose r.toRowW.records XP w s _ _ s.heap:=RF.ground G0
 refine fQ (c:=r.toRowW.claim) (tree:=λvs=>do match <-nsGet mainNs r.name with
   | some f=>do ret (<-PySem.call f vs)
   | none=>unsupported "claim.caller:no-such-global") hz hgens λargs hpre hlay ord hord=>?_
 refine bp λGG hGG=>?_
 obtain⟨⟨vs,s₁⟩,hlaid⟩:=Option.isSome_iff_exists.mp (layAllW_isSome (P:=w.params) (ord:=ord) G.has args r.toRowW.args s (pre_splitW hpre).1)
 have keeps:=layAllW_keeps _ _ _ hlaid
 have hal:=layAllW_rest _ _ _ hlaid
 obtain⟨as,hrd,hin,hold⟩:=reads_layAllW hord _ _ _ hlaid hlay s₁.heap (λq0 q1 e=>e)
 have L:Laid r.toRowW.records w s s₁ args vs as:=⟨⟨ord,hord,hlaid⟩,hrd,hin,hold,keeps,hal.1.trans hgens,hal.2.2.1⟩
 have G₁:=G.keeps hXk keeps
 obtain⟨a,o,pm,cd,doc,dV,kV,h1,h2,h3,h4,h5⟩:=G₁.fn hdef
 have hi:=ident_freeW hu ha hap
 have hwi:r.toRowW.claim.within=[]:=List.isEmpty_iff.mp k6
 refine hGG ⟨vs,s₁,hlaid,ab (.of (wpAny_nsGet G₁.T.g ?_))⟩
 rw[show s.heap.nsMap mainGlobals r.name=some (.ref a)from h1]
 refine ab (aI (call w s s₁ _ _ G₁ (hYk _ _ _ (hY w s y) keeps) (.ref a) (defOf_name hdef▸h1) L.gens args vs as hpre hlay L.reads L.well (L.low G.low)) (λv s' g=>ai ⟨_,rfl,?_⟩) λe s' g=>?_)
 ·exact have z:=g.laid (c:=r.toRowW.claim) hsame hwi hi L;⟨z.1,z.2.1,z.2.2,λq=>⟨namesKept_of hT' hg _ keeps g.2.1.old,noTable hwr q⟩⟩
 ·exact have z:=g.laid (c:=r.toRowW.claim) hsame hwi hi L;⟨z.1,z.2.1,z.2.2,λq=>⟨namesKept_of hT' hg _ keeps g.2.1.old,noTable hwr q⟩⟩
end Hd
namespace Hd
open PySem.Spec
noncomputable abbrev lw:OpenLaw:=PySem.Challenge.rw_jm0002_01
theorem Nh:(sreFenced pw.main&&((moduleNames pw.main.body).isEmpty||lookedIntoSs (moduleNames pw.main.body) pw.main.body)&&namesResolve pw)=true:=by kernel_rfl
theorem Mu:pw.boundNames.all (λn=>!worldNames.contains n)=true:=by kernel_rfl
theorem Md:noRoadLSs {strict:=!(importedModules pw.main.body).all cThrough.contains,foot:=none,bare:=(["vars","dir","locals"]:List Str).filter (readsOut pw pw.main.body)} pw.main.body=true:=by kernel_rfl
theorem Nw:(namesMeet pw pw.main.body λq0 n=>attrL n)=true:=by kernel_rfl
theorem M6:(lw.row.toRowW.solid&&lw.row.pre.litsOk&&lw.row.post.litsOk)=true:=by kernel_rfl
theorem Np:(lw.row.prog.boundNames.contains lw.row.name)=true:=by kernel_rfl
theorem Mt:(!startupNames.contains lw.row.name)=true:=by kernel_rfl
theorem Mp:lw.row.wellSaid=true:=by
 have h:looksOpen lw.row.prog=true:=look_both (look_both (look_both Nh Mu) Md) Nw
 have h2:lw.row.partSaid=true:=by
  show(looksOpen lw.row.prog&&true&&true&&true&&true&&true&&true&&lw.row.toRowW.solid&&lw.row.pre.litsOk&&lw.row.post.litsOk&&true&&true&&true&&true)=true
  obtain⟨s1,s2⟩:=Bool.and_eq_true_iff.mp M6
  obtain⟨s0,s1⟩:=Bool.and_eq_true_iff.mp s1
  rw[h,s0,s1,s2];rfl
 exact look_both (look_both h2 Np) Mt
theorem NP:(decide (lw.foot<=(behindTheImports lw.prog).length))=true:=by kernel_rfl
theorem LR:lw.footing.all footLine=true:=by kernel_rfl
theorem NW:noClassBlock lw.prog lw.footing=true:=by kernel_rfl
theorem LG:noRoadLSs {strict:=true,foot:=some lw.bound',writes:=lw.writes,may:=lw.may} lw.footing=true:=by kernel_rfl
theorem NQ:defStands lw.about lw.above=true:=by kernel_rfl
theorem Nq:lw.namesIt=true:=by kernel_rfl
theorem NM:((["type","isinstance","issubclass","getattr","hasattr"]:List Str).all (λn=>lw.about != [n]))=true:=by kernel_rfl
theorem Ms:lw.bound'.all (λn=>!builtinNamed n||lw.about==[n]|| !lw.reads n)=true:=by kernel_rfl
theorem M8:((!lw.writes||(lw.prog.main.body.flatMap importedNames).all λn=>!lw.reads n))=true:=by kernel_rfl
theorem Jz:(lw.prog.main.body.flatMap importedNames).all (λn=>!lw.reads n||(drawsOf n lw.prog.main.body).all λmn=>mn.2 != ("attrgetter" :Str)&&mn.2 != ("methodcaller" :Str))=true:=by kernel_rfl
theorem H9:namesMeet lw.prog lw.footing (λsc n=>(!(["type","isinstance","issubclass","getattr","hasattr"]:List Str).contains n||sc.names.lookup n==some .globalImplicit)&&
  (lw.may != some n||sc.kind== .module||sc.names.lookup n==some .globalImplicit))=true:=by kernel_rfl
theorem IR:lw.own.contains lw.name=true:=by kernel_rfl
theorem JE:(lw.own.eraseDups.length==lw.own.length)=true:=by kernel_rfl
theorem I6:lw.own.all (λn=>!builtinNamed n)=true:=by kernel_rfl
theorem Ju:namesMeet lw.prog lw.above (λq0 n=>!lw.own.contains n)=true:=by kernel_rfl
theorem Jf:(namesMeet lw.prog lw.footing λsc n=>sc.kind== .module||sc.names.lookup n != some .globalExplicit)=true:=by kernel_rfl
theorem IQ:lw.wellSaid=true:=
 look_both (look_both (look_both (look_both (look_both (look_both (look_both (look_both (look_both (look_both (look_both (look_both (look_both (look_both (look_both (look_both (look_both (look_both Mp NP) LR) NW) rfl) rfl) LG) NQ) Nq) NM) Ms) M8) Jz) H9) IR) JE) I6) Ju) Jf
end Hd
namespace Hd
open PySem.Spec Mine
theorem fin(call:∀(w:World) (s₀ s₁:Shared) (mg mb:Str->Option Value),Ground qv d9 ql.toRowW.records (λq0 q1=>True) w s₀ mg mb s₁.heap->(∀a o,(H1 w.params).get? a=some o->s₁.heap.get? a=some o)->∀(f:Value),mg "law" =some f->s₁.gens= #[]->
   ∀(args:List WData) (vals:List Value) (as:List Addr),ql.toRowW.claim.pre args=true->WData.layableAll args=true->ReadsAllW ql.toRowW.records (classAt s₀.heap) s₁.heap vals args as->WellAll w.params s₁.heap vals args->(∀a∈as,(a==sysModules)=false)->
   a6 true (model ql.toRowW.prog w) callerA (PySem.call f vals) (λv s'=>GoodWG ql.toRowW.claim (classAt s₀.heap) (ExcName.means s₀.heap) args s₁ (.ok (.ret v)) s')
    (λe s'=>GoodWG ql.toRowW.claim (classAt s₀.heap) (ExcName.means s₀.heap) args s₁ (.error e) s') s₁):PySem.Challenge.rw_jm0002_01.Holds:=by
 refine holds_law IQ λk1=>?_
 refine D0 (r:=ql) (YP:=λw h=>∀a o,(H1 w.params).get? a=some o->h.get? a=some o) (XP:=λq0 q1=>True) Dv (λw s e a o q=>by rw[e];exact q) (λw h h' y k a o q=>k _ _ (y a o q)) (λq0 q1=>trivial) (λq0 q1 q2 x q3=>x) (by rfl) (by rfl) (by rfl) (λs q0=>recFacts_of rfl) (by rfl) k1 (by kernel_rfl) ⟨rfl,rfl,rfl,rfl,rfl,by decide +kernel⟩ ?_ call
 exact⟨[.list []],by decide +kernel,by decide +kernel⟩
end Hd
namespace Mine
section
noncomputable def rf(v:Value):Addr:=if h:v.ctorIdx=10 then Value.ref.elim (motive:=λq0=>Addr) v h id else 0
noncomputable def vt(v:Value):Tok:=if h:v.ctorIdx=4 then Value.int.elim (motive:=λq0=>Tok) v h λq0 t=>t else 0
noncomputable def IP(o:Option (Option Value)):Addr:=(o.bind id).elim 0 rf
noncomputable def tl(o:Option (List Value)):List Value:=o.elim [] List.tail
noncomputable def Mc(x:CFound):List Value:=match x with
 |.val v=>[v]
 |.get a b c d=>[a,b,c,d]
noncomputable def HW(o:Option CFound):List Value:=o.elim [] Mc
theorem z7{o:Option CFound}{v:Value}(h:HW o=[v]):o=some (.val v):=by
 cases o with
 | none=>cases h
 | some x=>cases x with
  | val w=>cases h;rfl
  | get=>cases h
theorem sy{o:Option CFound}{p q r s:Value}(h:HW o=[p,q,r,s]):o=some (.get p q r s):=by
 cases o with
 | none=>cases h
 | some x=>cases x with
  | val w=>cases h
  | get=>cases h;rfl
theorem bk{a b:Bool}(h:(a&&b)=true):a=true/\b=true:=Bool.and_eq_true_iff.mp h
abbrev I9(K:Frag)(C:Addr)(x:Str):Prop:=plainGet K C x=true/\hasDictIn K C=true
noncomputable def Jj(K:Frag)(C:Addr):Value:=(typeIn K (.ref C)).getD .none
noncomputable def HP(K:Frag)(C:Addr)(x:Str):List Value:=HW (findCls K (.ref C) (Jj K C) x)
abbrev KD(K:Frag)(C:Addr):Prop:=typeIn K (.ref C)=some (Jj K C)/\readsIn K C (Jj K C)=true
noncomputable abbrev Gs(K:Frag)(C:Addr)(x:Str):Addr:=IP (findIn K (.ref C) x)
noncomputable abbrev stI(K:Frag)(C:Addr)(x:Str):Addr:=rf ((HP K C x).getD 1 .none)
noncomputable def Fb(K:Frag)(C:Addr)(x:Str):CA->Bool
 |.field=>decide (I9 K C x/\findIn K (.ref C) x=some none/\copiedNames.contains x=false/\findIn K (.ref C) "__setattr__" =some (some (.builtin "object.__setattr__"))/\plainOver K C=true/\takerIn K C x=some none)
 |.prop f=>decide (I9 K C x/\findIn K (.ref C) x=some (some (.ref (Gs K C x)))/\specialIn K (.ref (Gs K C x)) "__get__" =some (some (.builtin "property.__get__"))/\takesIn K (.ref (Gs K C x))=some true/\recIn K (Gs K C x) "property" =some (.ref f::tl (recIn K (Gs K C x) "property")))
 |.meth f=>decide (I9 K C x/\findIn K (.ref C) x=some (some (.ref f))/\PySem.W.isFn K (.ref f)=true/\keepIn K (.ref f)=true/\fnIn K f=true)
 |.stat f=>decide (KD K C/\HP K C x=[.builtin "staticmethod.__get__",.ref (stI K C x),.none,.ref C]/\recIn K (stI K C x) "staticmethod" =some (.ref f::tl (recIn K (stI K C x) "staticmethod"))/\specialIn K (.ref C) "__getattribute__" =some (some (.builtin "type.__getattribute__"))/\keepIn K (.ref f)=true)
 |.val (.int i)=>decide (KD K C/\HP K C x=[.int i (vt ((HP K C x).getD 0 .none))])
 |.val _=>false
variable {c:Cx}{C:Addr}{x:Str}
theorem CV{a:CA}(h:Fb c.K C x a=true):Cs c C x a:=by
 cases a with
 | field=>exact have h:=of_decide_eq_true h;⟨⟨h.1.1,h.1.2⟩,h.2.1,h.2.2.1,h.2.2.2.1,h.2.2.2.2.1,h.2.2.2.2.2⟩
 | prop f=>exact have h:=of_decide_eq_true h;⟨⟨h.1.1,h.1.2⟩,_,_,h.2.1,h.2.2.1,h.2.2.2.1,h.2.2.2.2⟩
 | meth f=>exact have h:=of_decide_eq_true h;⟨⟨h.1.1,h.1.2⟩,h.2.1,h.2.2.1,h.2.2.2.1,h.2.2.2.2⟩
 | stat f=>exact have h:=of_decide_eq_true h;⟨_,_,_,h.1.1,h.1.2,sy h.2.1,h.2.2.1,h.2.2.2.1,h.2.2.2.2⟩
 | val a=>
  cases a with
  | int i=>exact have h:=of_decide_eq_true h;⟨_,_,h.1.1,h.1.2,z7 h.2,rfl,λI=>⟨_,rfl⟩⟩
  | _=>cases h
noncomputable abbrev Fv(K:Frag)(x:Str):Option (Option Value):=nsIn K mainGlobals x
noncomputable def Do(K:Frag)(x:Str):AV->Bool
 |.ref a=>decide (Fv K x=some (some (.ref a)))
 |.ty n=>decide (Fv K x=some none/\bootBuiltins x=some (.type n.name)/\Fast.sEq x (Str.ofString "__name__")=false)
 |.bi n=>decide (Fv K x=some none/\bootBuiltins x=some (.builtin n.id)/\Fast.sEq x (Str.ofString "__name__")=false)
 |.tab D=>decide (Fv K x=some (some (.ref (IP (Fv K x))))/\KTD.keyedLook (λa=>K.lookup a) (IP (Fv K x)) (D.map λp=>(p.1,PyData.str p.2))=true)
 | _=>false
theorem vZ(h:Fast.sEq x (Str.ofString "__name__")=false):x≠ "__name__":=λe=>by
 rw[Fast.sEq_iff.mpr e]at h;cases h
theorem C7{a:AV}(h:Do c.K x a=true):iZ c x a:=by
 cases a with
 | ref a=>exact⟨_,.inl (mg_of c.kin c.g (of_decide_eq_true h)),λI q0=>rfl⟩
 | ty n=>exact have h:=of_decide_eq_true h;⟨_,.inr ⟨mg_none_of c.kin c.g h.1,(c.builtins x (vZ h.2.2)).trans h.2.1⟩,λI q0=>rfl⟩
 | bi n=>exact have h:=of_decide_eq_true h;⟨_,.inr ⟨mg_none_of c.kin c.g h.1,(c.builtins x (vZ h.2.2)).trans h.2.1⟩,λI q0=>rfl⟩
 | tab D=>exact have h:=of_decide_eq_true h;⟨_,.inl (mg_of c.kin c.g h.1),λI le=>⟨_,c.H0,rfl,KTD.keyed_of_look (get:=λa=>c.K.lookup a) c.kin h.2,le⟩⟩
 | _=>cases h
noncomputable def EL(K:Frag)(C f:Addr):Bool:=decide (makesIn K C=true/\findIn K (.ref C) "__init__" =some (some (.ref f))/\typeIn K (.ref f)=some (.type "function"))
theorem EF{f:Addr}(h:EL c.K C f=true):qj c C f:=have h:=of_decide_eq_true h;⟨h.1,h.2.1,h.2.2⟩
noncomputable def Fd(o:Option CFound):Bool:=decide (HW o=[.builtin "classmethod_descriptor.__get__",.builtin "int.from_bytes",.none,.type "int"])
theorem DK{o:Option CFound}(h:Fd o=true):o=some (.get (.builtin "classmethod_descriptor.__get__") (.builtin "int.from_bytes") .none (.type "int")):=sy (of_decide_eq_true h)
theorem AB{f:Nat}{l:List Nat}:HO f l=true->f∈l:=by
 induction l with
 | nil=>exact nofun
 | cons x r ih=>
  intro h
  have h:(bif Nat.beq x f then true else HO f r)=true:=h
  cases g:Nat.beq x f with
  | true=>exact Nat.eq_of_beq_eq_true g▸ .head _
  | false=>rw[g]at h;exact .tail _ (ih h)
structure nA(K:Frag):Prop where
 g:(JL.all λe=>Do K e.2.1 e.2.2)=true
 k:(wO.all λp=>p.2.all λe=>Fb K p.1 e.2.1 e.2.2)=true
 i:(CZ.all λp=>EL K p.1 p.2)=true
 f:(uZ.all λf=>keepIn K (.ref f))=true
 b:Fd (findCls K (.type "int") (.type "type") (PySem.Str.ofString "from_bytes"))=true
theorem nA.facts(h:nA c.K):aH c T0 where
 gl:=λx a e=>by
  obtain⟨n,m⟩:=kE e
  exact C7 (List.all_eq_true.mp h.g _ m)
 co:=λC x a e=>by
  have e:Hv x (ic wO C)=some a:=e
  cases g:ic wO C with
  | none=>rw[g]at e;cases e
  | some l=>
   rw[g]at e
   obtain⟨n,m⟩:=kE (show fX l x=some a from e)
   exact CV (List.all_eq_true.mp (List.all_eq_true.mp h.k _ (gv g)) _ m)
 ini:=λC f e=>EF (List.all_eq_true.mp h.i _ (gv e))
 keep:=λf e=>List.all_eq_true.mp h.f _ (AB e)
 fb:=DK h.b
end
end Mine
namespace Mine
open Hd
theorem mem_of_lookup{a:Addr}{o:Obj}:∀{K:Frag},K.lookup a=some o->(a,o)∈K
 | (b,x)::r,e=>by
  rw[List.lookup_cons]at e
  cases g:a==b with
  | true=>rw[g]at e;cases e;rw[beq_iff_eq.mp g];exact .head _
  | false=>rw[g]at e;exact .tail _ (mem_of_lookup e)
theorem Jp(P:Params):((KF P).map (·.1)).map (Ih P).get=(KF P).map (λp=>some p.2):=by kernel_rfl
theorem Ig(P:Params):(KF P).map (λp=>alive p.2)=(KF P).map (λp=>some p.2):=by kernel_rfl
theorem I2(P:Params):((KF P).all λp=>Nat.blt p.1 1015)=true:=by kernel_rfl
theorem IT(P:Params):(wO.all λp=>p.2.all λe=>Fb (KF P) p.1 e.2.1 e.2.2)=true:=by kernel_rfl
theorem kf_in(P:Params):Frag.In (KF P) (H1 P):=λa o e=>by
 have m:=mem_of_lookup e
 obtain⟨i,hi⟩:=List.mem_iff_getElem?.mp m
 have t:=congrArg (·[i]?) (Jp P)
 have l:=congrArg (·[i]?) (Ig P)
 simp only[List.getElem?_map,hi,Option.map_some,Option.some.injEq]at t l
 exact(abs_get (Nat.blt_eq.mp (List.all_eq_true.mp (I2 P) _ m)) t).trans l
theorem IK(P:Params):(JL.all λe=>Do (KF P) e.2.1 e.2.2)=true:=by kernel_rfl
theorem JC(P:Params):(CZ.all λp=>EL (KF P) p.1 p.2)=true:=by kernel_rfl
theorem IW(P:Params):(uZ.all λf=>keepIn (KF P) (.ref f))=true:=by kernel_rfl
theorem JA(P:Params):Fd (findCls (KF P) (.type "int") (.type "type") (PySem.Str.ofString "from_bytes"))=true:=by kernel_rfl
end Mine
namespace Mine
open Hd
section
variable {K:Frag}
noncomputable def HA(d:Data):Option FuncData:=if h:d.ctorIdx=7 then Data.func.elim (motive:=λq0=>_) d h some else none
theorem Gg{d:Data}{fd:FuncData}(h:HA d=some fd):d=.func fd:=by
 delta HA at h
 by_cases z:d.ctorIdx=7
 ·rw[dif_pos z]at h
  exact Data.func.elim (motive:=λd=>∀z,Data.func.elim (motive:=λq0=>_) d z some=some fd->d=.func fd) d z (λf q0 h=>congrArg _ (Option.some.inj h)) z h
 ·rw[dif_neg z]at h;cases h
noncomputable def IV(d:Data):Option (Array Value):=if h:d.ctorIdx=9 then Data.fields.elim (motive:=λq0=>_) d h some else none
theorem Hs{d:Data}{vs:Array Value}(h:IV d=some vs):d=.fields vs:=by
 delta IV at h
 by_cases z:d.ctorIdx=9
 ·rw[dif_pos z]at h
  exact Data.fields.elim (motive:=λd=>∀z,Data.fields.elim (motive:=λq0=>_) d z some=some vs->d=.fields vs) d z (λf q0 h=>congrArg _ (Option.some.inj h)) z h
 ·rw[dif_neg z]at h;cases h
noncomputable def Ml(o:Option Obj):Option FuncData:=o.bind λx=>HA x.data
noncomputable def fdOf(o:Option Obj):FuncData:=(Ml o).getD default
noncomputable def rj(o:Option Obj)(k:Value->FuncData->Bool):Bool:=o.any λx=>(HA x.data).any (k x.cls)
theorem mY{o:Option Obj}{k:Value->FuncData->Bool}(h:rj o k=true):∃x fd,o=some x/\x.data=.func fd/\k x.cls fd=true:=by
 obtain⟨x,e,h⟩:=any_some h
 obtain⟨fd,d,h⟩:=any_some h
 exact⟨x,fd,e,Gg d,h⟩
theorem rd{o:Option Obj}{x:Obj}{fd:FuncData}(h:o=some x)(d:x.data=.func fd):fdOf o=fd:=by
 subst h
 show(HA x.data).getD default=fd
 rw[d];rfl
noncomputable def D9(v:Value):Tok:=if h:v.ctorIdx=6 then Value.str.elim (motive:=λq0=>Tok) v h λq0 t=>t else 0
noncomputable def Ci(x:Str)(o:Option Value):Bool:=decide (o=some (.str x (D9 (o.getD .none))))
theorem rA{x:Str}{o:Option Value}(h:Ci x o=true):∃t,o=some (.str x t):=⟨_,of_decide_eq_true h⟩
noncomputable def FW(o:Option Obj)(k:Array Value->Bool):Bool:=o.any λx=>(IV x.data).any k
theorem vj{o:Option Obj}{k:Array Value->Bool}(h:FW o k=true):∃x vs,o=some x/\x.data=.fields vs/\k vs=true:=by
 obtain⟨x,e,h⟩:=any_some h
 obtain⟨vs,d,h⟩:=any_some h
 exact⟨x,vs,e,Hs d,h⟩
noncomputable def GC(v:Value)(k:Addr->Bool):Bool:=decide (v=.ref (rf v))&&k (rf v)
theorem wH{v:Value}{k:Addr->Bool}(h:GC v k=true):∃a,v=.ref a/\k a=true:=⟨_,of_decide_eq_true (bk h).1,(bk h).2⟩
noncomputable def Bq(K:Frag)(i:Nat)(x:Str)(v:Value):Bool:=GC v λc=>FW (K.lookup c) λvs=>Ci x vs[i]?
def HT:Nat->(List Value->Prop)->Prop
 | 0,P=>P []
 | n+1,P=>∀v,HT n λvs=>P (v::vs)
theorem Cr:∀{n:Nat} {P:List Value->Prop},HT n P->∀vs:List Value,vs.length=n->P vs:=by
 intro n
 induction n with
 | zero=>intro P h vs l;cases vs with
  | nil=>exact h
  | cons _ _=>cases l
 | succ n ih=>intro P h vs l;cases vs with
  | nil=>cases l
  | cons v vs=>exact ih (h v) vs (Nat.succ.inj l)
def bindAll(K:Frag)(fd:FuncData)(ps:List Str):Prop:=∀S,HT ps.length λvs=>peek K S (bindArgs fd ⟨vs,[]⟩)=some (ps.zip vs)
theorem oN{P:Params}{sl:Sl}{I:PH}{ps:List Str}:∀{ops:List Op} {vs:List Value},oprs P sl I [] ops vs->ops.length=ps.length->gi P sl I (ps.zip vs) (dj ps ops):=by
 induction ps with
 | nil=>
  intro ops vs r l
  cases ops with
  | nil=>cases r;rfl
  | cons _ _=>cases l
 | cons x ps ih=>
  intro ops vs r l
  cases ops with
  | nil=>cases l
  | cons o ops=>
   obtain⟨v,vs,rfl,r,r'⟩:=r
   exact⟨_,_,rfl,⟨rfl,r⟩,ih r' (Nat.succ.inj l)⟩
theorem pg{P:Params}{sl:Sl}{I:PH}{ops:List Op}:∀{vs:List Value},oprs P sl I [] ops vs->vs.length=ops.length:=by
 induction ops with
 | nil=>exactλr=>by cases r;rfl
 | cons o ops ih=>
  intro vs r
  obtain⟨v,vs,rfl,r,r'⟩:=r
  exact congrArg Nat.succ (ih r')
variable {c:Cx}
theorem qE{s:Shared}(k:∀a o,c.H0.get? a=some o->s.heap.get? a=some o):Frag.In c.K s.heap:=c.kin.keeps k
theorem kR{fd:FuncData}{ps:List Str}(h:bindAll c.K fd ps)(args:List Op)(l:args.length=ps.length):Binds c fd args [] (dj ps args):=λsl I vals kvals ro rk q0=>by
 cases rk
 exact⟨ps.zip vals,λs k=>kp_binds (qE k) λS=>Cr (h S) vals ((pg ro).trans l),oN ro l⟩
noncomputable def MU(sc:Scope)(ps:List Str):Bool:=decide ps.Nodup&&((ps.all λy=>sc.names.lookup y==some .local||sc.names.lookup y==some .cell)&&decide ((cellsFrom 0 sc.names []).map (·.1)).Nodup)
noncomputable def JB(K:Frag)(f:Addr)(sc:Scope):Bool:=rj (K.lookup f) λq0 fd=>Bq K 1 fd.qualname fd.code&&(sc.kind== .function&&(!sc.isGenerator&& !sc.isCoroutine))
noncomputable def Jw(fd:FuncData):FuncBody×Scope×Addr×Addr×List (Str×Addr):=(fd.body,fd.scope,fd.globals,fd.builtins,fd.closure)
theorem BS{f:Addr}{st:Stmt}{ps:List Str}{cl:List (Str×Addr)}(e:Jw (fdOf (c.K.lookup f))=(.stmts (bodyOf st),aq st,mainGlobals,builtinsNs,cl))(b:JB c.K f (aq st)=true):
  FnAt c f (fdOf (c.K.lookup f)) ps (bodyOf st) (aq st) cl:=by
 obtain⟨x,fd,h1,h2,h⟩:=mY b
 rw[rd h1 h2]at e ⊢
 obtain⟨h3,h⟩:=bk h
 obtain⟨h4,h⟩:=bk h
 obtain⟨h5,h6⟩:=bk h
 obtain⟨a,e1,h3⟩:=wH h3
 obtain⟨y,vs,e2,e3,h3⟩:=vj h3
 obtain⟨t,h3⟩:=rA h3
 injection e with z1 e
 injection e with z2 e
 injection e with z3 e
 injection e with z4 z5
 exact⟨⟨x,c.kin _ _ h1,h2⟩,z1,z2,z3,z4,z5,⟨a,y,vs,t,e1,c.kin _ _ e2,e3,h3⟩,beq_iff_eq.mp h4,Bool.not_eq_true' _▸h5,Bool.not_eq_true' _▸h6⟩
structure wR(K:Frag)(e:Nat×Stmt×List Str):Prop where
 t:Jw (fdOf (K.lookup e.1))=(.stmts (bodyOf e.2.1),aq e.2.1,mainGlobals,builtinsNs,[])
 b:(JB K e.1 (aq e.2.1)&&MU (aq e.2.1) e.2.2)=true
 a:bindAll K (fdOf (K.lookup e.1)) e.2.2
theorem wR.ok{f:Nat}{st:Stmt}{ps:List Str}(h:wR c.K (f,st,ps)):K5 c f st ps:=by
 obtain⟨h1,h2⟩:=bk h.b
 obtain⟨h2,h3⟩:=bk h2
 obtain⟨h3,h4⟩:=bk h3
 exact⟨⟨_,BS h.t h1,kR h.a⟩,of_decide_eq_true h2,h3,of_decide_eq_true h4⟩
def AllP{α:Type}(p:α->Prop):List α->Prop
 | []=>True
 | x::r=>p x/\AllP p r
theorem AllP.mem{α:Type}{p:α->Prop}{x:α}{l:List α}(h:AllP p l)(m:x∈l):p x:=by
 induction l with
 | nil=>cases m
 | cons y r ih=>exact(List.mem_cons.mp m).elim (λe=>e▸h.1) (ih h.2)
end
theorem zR(P:Params):AllP (wR (KF P)) Ef:=by
 repeat' first
  | exact True.intro
  | refine And.intro ⟨by kernel_rfl,by kernel_rfl,?_⟩ ?_
  | exactλq0 q1=>by show _=_;kernel_rfl
  | exactλq0 q1 q2=>by show _=_;kernel_rfl
  | exactλq0 q1 q2 q3=>by show _=_;kernel_rfl
  | exactλq0 q1 q2 q3 q4=>by show _=_;kernel_rfl
  | exactλq0 q1 q2 q3 q4 q5=>by show _=_;kernel_rfl
end Mine
namespace Mine
open Hd
section
variable {K:Frag}
noncomputable def Ec(o:Option Obj):Bool:=o.any λx=>decide (x.data.ctorIdx=8)
theorem xY{o:Option Obj}(h:Ec o=true):∃x cd,o=some x/\x.data=.cls cd:=by
 obtain⟨x,e,h⟩:=any_some h
 exact Data.cls.elim (motive:=λd=>x.data=d->∃x cd,o=some x/\x.data=.cls cd) x.data (of_decide_eq_true h) (λcd z=>⟨x,cd,e,z⟩) rfl
noncomputable def H8(d:Data):Option (Option Value):=if h:d.ctorIdx=6 then Data.cell.elim (motive:=λq0=>_) d h some else none
theorem G7{d:Data}{v:Option Value}(h:H8 d=some v):d=.cell v:=by
 delta H8 at h
 by_cases z:d.ctorIdx=6
 ·rw[dif_pos z]at h
  exact Data.cell.elim (motive:=λd=>∀z,Data.cell.elim (motive:=λq0=>_) d z some=some v->d=.cell v) d z (λf q0 h=>congrArg _ (Option.some.inj h)) z h
 ·rw[dif_neg z]at h;cases h
noncomputable def HK(D:Addr)(o:Option Obj):Bool:=o.any λx=>decide (H8 x.data=some (some (.ref D)))
theorem En{D:Addr}{o:Option Obj}(h:HK D o=true):∃x,o=some x/\x.data=.cell (some (.ref D)):=by
 obtain⟨x,e,h⟩:=any_some h
 exact⟨x,e,G7 (of_decide_eq_true h)⟩
noncomputable def Cv(x:Str)(o:Option Arg):Bool:=o.any λa=>Fast.sEq a.arg x
theorem Af{x:Str}{o:Option Arg}(h:Cv x o=true):∃a,o=some a/\a.arg=x:=(any_some h).imp λq0 h=>⟨h.1,Fast.sEq_iff.mp h.2⟩
noncomputable def qq(K:Frag)(C D f2:Addr):Bool:=Ec (K.lookup C)&&(decide (mroIn K C (.ref D)=some true)&&(clsIn K C).any λcd=>decide (alongIn K "__init__" ((cd.mro.dropWhile (· != .ref D)).drop 1)=some (some (.ref f2))))
noncomputable def I5(K:Frag)(file:Str)(f:Addr)(sc:Scope)(cc D f2:Addr)(top:Bool):Bool:=
 rj (K.lookup f) (λq0 fd=>Cv "self" (fd.params.posonlyargs++fd.params.args).head?&&Bq K 2 file fd.code)&&(HK D (K.lookup cc)&&(Ec (K.lookup D)&&(decide (nsIn K cStatics "thirdparty.any" =some none)&&(rj (K.lookup f2) (λc q0=>c== .type "function")&&(!top&&
  (sc.names.lookup ("super" :Str)==some .globalImplicit&&(sc.names.lookup ("__class__" :Str)==some .free&&sc.names.lookup ("self" :Str)==some .local)))))))
noncomputable def MN(sc:Scope)(ps:List Str):Bool:=decide ps.Nodup&&((ps.all λy=>sc.names.lookup y==some .local)&&sc.names.all λx=>x.2 != .cell)
def BH(K:Frag)(fd:FuncData)(t:Nat)(ps:List Str):Prop:=∀S,HT ps.length.pred λvs=>peek K S (bindArgs fd ⟨vs,[]⟩)=some (ps.zip (vs++[.int 0 t]))
theorem tg{P:Params}{sl:Sl}{I:PH}{o:Op}{v:Value}(q:opr P sl I [] o v){ops:List Op}:∀{vs:List Value},oprs P sl I [] ops vs->oprs P sl I [] (ops++[o]) (vs++[v]):=by
 induction ops with
 | nil=>exactλr=>by cases r;exact⟨v,[],rfl,q,rfl⟩
 | cons x ops ih=>
  intro vs r
  obtain⟨u,us,rfl,r,r'⟩:=r
  exact⟨u,us++[v],rfl,r,ih r'⟩
variable {c:Cx}
theorem Be{fd:FuncData}{t:Nat}{ps:List Str}(h:BH c.K fd t ps)(args:List Op)(l:args.length+1=ps.length):Binds c fd args [] (dj ps (args++[.v (.int 0)])):=λsl I vals kvals ro rk q0=>by
 cases rk
 exact⟨ps.zip (vals++[.int 0 t]),λs k=>kp_binds (qE k) λS=>Cr (h S) vals (by rw[pg ro,<-l];rfl),oN (tg (o:=.v (.int 0)) (v:=.int 0 t) ⟨t,rfl⟩ ro) (by rw[List.length_append];exact l)⟩
structure jc(K:Frag)(file:Str)(top:Bool)(f:Addr)(st:Stmt)(ps:List Str)(cc D f2 t:Nat)(b:Bool):Prop where
 ft:Jw (fdOf (K.lookup f))=(FuncBody.stmts (bodyOf st),aq st,mainGlobals,builtinsNs,[(("__class__" :Str),cc)])
 fb:(JB K f (aq st)&&(I5 K file f (aq st) cc D f2 top&&MN (aq st) ps))=true
 fa:bindAll K (fdOf (K.lookup f)) ps
 fd:b=true->BH K (fdOf (K.lookup f)) t ps
theorem jc.ok{f:Addr}{st:Stmt}{ps:List Str}{cc D f2 t:Nat}{b:Bool}{C:Addr}(h:jc c.K c.prog.main.file (c.prog.main.scope.names.lookup ("super" :Str)).isSome f st ps cc D f2 t b)(hC:qq c.K C D f2=true):cu c f st ps C D f2 b:=by
 obtain⟨h1,h2⟩:=bk h.fb
 obtain⟨h2,h3⟩:=bk h2
 obtain⟨h3,h4⟩:=bk h3
 obtain⟨h4,h5⟩:=bk h4
 obtain⟨s1,s2⟩:=bk h2
 obtain⟨s2,s3⟩:=bk s2
 obtain⟨s3,s4⟩:=bk s3
 obtain⟨s4,s5⟩:=bk s4
 obtain⟨s5,s6⟩:=bk s5
 obtain⟨s6,s7⟩:=bk s6
 obtain⟨s7,s8⟩:=bk s7
 obtain⟨s8,s9⟩:=bk s8
 obtain⟨x,fd,e1,e2,z⟩:=mY s1
 obtain⟨z1,z2⟩:=bk z
 obtain⟨ar,a1,a2⟩:=Af z1
 obtain⟨cda,c1,c2⟩:=wH z2
 obtain⟨y,vs,c3,c4,c5⟩:=vj c2
 obtain⟨tk,c6⟩:=rA c5
 obtain⟨w,w1,w2⟩:=En s2
 obtain⟨dx,dd,d1,d2⟩:=xY s3
 obtain⟨f2x,f2d,g1,g2,g3⟩:=mY s5
 obtain⟨k1,k2⟩:=bk hC
 obtain⟨k2,k3⟩:=bk k2
 obtain⟨cx,cd,k4,k5⟩:=xY k1
 obtain⟨cdC,m1,m2⟩:=any_some k3
 have fn:fdOf (c.K.lookup f)=fd:=rd e1 e2
 refine⟨⟨_,cc,BS h.ft h1,⟨⟨x,fd,ar,c.kin _ _ e1,e2,a1,a2⟩,⟨cda,y,vs,_,tk,fn▸c1,c.kin _ _ c3,c4,c6,beq_self_eq_true _⟩,⟨cc,w,rfl,c.kin _ _ w1,w2⟩,⟨dx,dd,c.kin _ _ d1,d2⟩,of_decide_eq_true k2,of_decide_eq_true s4,⟨cdC,m1,of_decide_eq_true m2⟩,⟨cx,cd,c.kin _ _ k4,k5⟩,⟨f2x,f2d,c.kin _ _ g1,beq_iff_eq.mp g3,g2⟩,
  Bool.not_eq_true' _▸s6,beq_iff_eq.mp s7,beq_iff_eq.mp s8,beq_iff_eq.mp s9⟩,kR h.fa,λe=>Be (h.fd e)⟩,of_decide_eq_true h3,h4,h5⟩
def rQ(K:Frag)(fd:FuncData):Prop:=∀S v w u,peek K S (bindArgs fd ⟨[v,w],[("packed_type",u)]⟩)=some [(("buf" :Str),v),(("parent_width" :Str),w),(("packed_type" :Str),u)]
theorem zE{fd:FuncData}(h:rQ c.K fd)(a b d:Op):Binds c fd [a,b] [("packed_type",d)] (dj ["buf","parent_width","packed_type"] [a,b,d]):=λsl I vals kvals ro rk q0=>by
 obtain⟨v,_,rfl,r,w,_,rfl,r2,rfl⟩:=ro
 obtain⟨p,_,rfl,⟨u,rfl,r3⟩,rfl⟩:=rk
 exact⟨_,λs k=>kp_binds (qE k) λS=>h S v w u,_,_,rfl,⟨rfl,r⟩,_,_,rfl,⟨rfl,r2⟩,_,[],rfl,⟨rfl,r3⟩,rfl⟩
end
noncomputable abbrev zg:Str:=pw.main.file
noncomputable abbrev C3:Bool:=(pw.main.scope.names.lookup ("super" :Str)).isSome
theorem zZ(P:Params):jc (KF P) zg C3 303 (D2 12 0) ["self","buf","byte_width","size"] 290 321 271 714 true:=⟨by kernel_rfl,by kernel_rfl,λq0 q1 q2 q3 q4=>by show _=_;kernel_rfl,λq0 q1 q2 q3 q4=>by show _=_;kernel_rfl⟩
theorem CX(P:Params):(subs.all λC=>qq (KF P) C 321 271)=true:=by kernel_rfl
theorem F1(P:Params):jc (KF P) zg C3 407 (D2 15 0) ["self","buf","byte_width"] 395 439 271 0 false:=⟨by kernel_rfl,by kernel_rfl,λq0 q1 q2 q3=>by show _=_;kernel_rfl,nofun⟩
theorem Fh(P:Params):qq (KF P) 439 439 271=true:=by kernel_rfl
theorem CW(P:Params):jc (KF P) zg C3 490 (D2 17 0) ["self","buf","byte_width","element_type","size"] 477 529 303 932 true:=⟨by kernel_rfl,by kernel_rfl,λq0 q1 q2 q3 q4 q5=>by show _=_;kernel_rfl,λq0 q1 q2 q3 q4 q5=>by show _=_;kernel_rfl⟩
theorem Hc(P:Params):qq (KF P) 529 529 303=true:=by kernel_rfl
theorem IB(P:Params):rQ (KF P) (fdOf ((KF P).lookup 603)):=λq0 q1 q2 q3=>by show _=_;kernel_rfl
theorem HB(P:Params):rj ((KF P).lookup 603) (λq0 q1=>true)=true:=by kernel_rfl
theorem GR(P:Params):nA (KF P):=⟨IK P,IT P,JC P,IW P,JA P⟩
section
variable {c:Cx}{P:Params}
theorem DP(h:rQ c.K (fdOf (c.K.lookup 603)))(h2:rj (c.K.lookup 603) (λq0 q1=>true)=true)(fd:FuncData)(e:∃o,c.H0.get? 603=some o/\o.data=.func fd)(a b d:Op):Binds c fd [a,b] [("packed_type",d)] (dj ["buf","parent_width","packed_type"] [a,b,d]):=by
 obtain⟨o,h3,h4⟩:=e
 obtain⟨x,fd',e1,e2,_⟩:=mY h2
 have ex:x=o:=Option.some.inj ((c.kin _ _ e1).symm.trans h3)
 have ef:fd'=fd:=Data.func.inj (e2.symm.trans (ex▸h4))
 exact zE ((rd e1 (ef▸e2))▸h) a b d
theorem Jk(b:Bool)(l:nA c.K)(d:AllP (wR c.K) Ef)(s1:jc c.K c.prog.main.file (c.prog.main.scope.names.lookup ("super" :Str)).isSome 303 (D2 12 0) ["self","buf","byte_width","size"] 290 321 271 714 true)(s2:(subs.all λC=>qq c.K C 321 271)=true)
  (k1:jc c.K c.prog.main.file (c.prog.main.scope.names.lookup ("super" :Str)).isSome 407 (D2 15 0) ["self","buf","byte_width"] 395 439 271 0 false) (k2:qq c.K 439 439 271=true)
  (t1:jc c.K c.prog.main.file (c.prog.main.scope.names.lookup ("super" :Str)).isSome 490 (D2 17 0) ["self","buf","byte_width","element_type","size"] 477 529 303 932 true) (t2:qq c.K 529 529 303=true)
  (w1:rQ c.K (fdOf (c.K.lookup 603))) (w2:rj (c.K.lookup 603) (λq0 q1=>true)=true):E5 {c with clean:=b} where
 fa:=nA.facts (c:={c with clean:=b}) l
 d:=λf st ps e=>wR.ok (c:={c with clean:=b}) (d.mem (gv e))
 sized:=λC m=>jc.ok (c:={c with clean:=b}) s1 (List.all_eq_true.mp s2 C m)
 key:=jc.ok (c:={c with clean:=b}) k1 k2
 tvec:=jc.ok (c:={c with clean:=b}) t1 t2
 kw:=DP (c:={c with clean:=b}) w1 w2
theorem MQ(eK:c.K=KF P)(eP:c.prog=pw):Std c:=λb=>by
 refine Jk b ?_ ?_ ?_ ?_ ?_ ?_ ?_ ?_ ?_ ?_
 all_goals (try rw[eP]);rw[eK]
 ·exact GR P
 ·exact zR P
 ·exact zZ P
 ·exact CX P
 ·exact F1 P
 ·exact Fh P
 ·exact CW P
 ·exact Hc P
 ·exact IB P
 ·exact HB P
end
end Mine
namespace Mine
open Hd
noncomputable section
theorem zL{h:Heap}{cl:Str->Option Addr}{P:Params}{I:PH}{ds:List WData}:∀{vs:List Value} {as:List Addr},(∀d∈ds,WShape.has [] d .int=true)->ReadsAllW [] cl h vs ds as->∃ns:List Int,ns.length=ds.length/\a0 P I (ns.map .int) vs:=by
 induction ds with
 | nil=>exactλq0 r=>⟨[],rfl,(readsAllW_nil_inv r).1⟩
 | cons d ds ih=>
  intro vs as hd r
  obtain⟨v,vs,_,_,rfl,_,r1,r2⟩:=readsAllW_cons_inv r
  obtain⟨i,rfl⟩:=hasW_int (hd d (.head _))
  obtain⟨t,rfl,_⟩:=readsW_int_inv r1
  obtain⟨ns,l,q⟩:=ih (λd m=>hd d (.tail _ m)) r2
  exact⟨i::ns,congrArg Nat.succ l,_,_,rfl,⟨t,rfl⟩,q⟩
theorem Jb{ds:List WData}(p:lw.pre.holds [] {args:=[.list ds]}=true):ds.length<=63:=by
 have h:=condW_of p (w_and (w_not (w_lt w_lit (w_len_list (w_arg rfl)))) w_lit)
 exact Nat.le_of_not_lt λz=>absurd h (by rw[decide_eq_true (show((63:Nat):Int)<ds.length from Int.ofNat_lt.mpr z)];exact nofun)
theorem xf{h:Heap}{cl:Str->Option Addr}{P:Params}{args:List WData}{vals:List Value}{as:List Addr}(p:ql.toRowW.claim.pre args=true)(r:ReadsAllW [] cl h vals args as):
  ∃(ns:List Int) (v:Value),vals=[v]/\ns.length<=63/\rep P (λa=>h.get? a) (.list (ns.map .int)) v:=by
 obtain⟨p1,p2⟩:=pre_splitW p
 obtain⟨d,r',rfl,hd,hr⟩:=hasAllW_cons (show WShape.hasAll [] args [.list .int]=true from p1)
 obtain rfl:=hasAllW_nil hr
 obtain⟨ds,rfl,hi⟩:=hasW_list hd
 obtain⟨v,vs,_,_,rfl,_,r1,r2⟩:=readsAllW_cons_inv r
 obtain⟨rfl,_⟩:=readsAllW_nil_inv r2
 obtain⟨a,xs,_,rfl,⟨o,e1,e2,n,e3⟩,ra,_⟩:=readsW_list_inv r1
 obtain⟨ns,l,q⟩:=zL (P:=P) (I:=λa=>h.get? a) (hasItemsW_at hi) ra
 exact⟨ns,_,rfl,l▸Jb p2,a,o,xs,n,rfl,e1,e2,e3,q⟩
theorem the_call(w:World)(s₀ s₁:Shared)(mg mb:Str->Option Value)(G:Ground qv d9 ql.toRowW.records (λq0 q1=>True) w s₀ mg mb s₁.heap)(Y:∀a o,(H1 w.params).get? a=some o->s₁.heap.get? a=some o)(f:Value)(hf:mg "law" =some f)(hg:s₁.gens= #[])
  (args:List WData) (vals:List Value) (as:List Addr) (hp:ql.toRowW.claim.pre args=true) (hr:ReadsAllW ql.toRowW.records (classAt s₀.heap) s₁.heap vals args as):
  a6 true (model ql.toRowW.prog w) callerA (PySem.call f vals) (λv s'=>GoodWG ql.toRowW.claim (classAt s₀.heap) (ExcName.means s₀.heap) args s₁ (.ok (.ret v)) s')
   (λe s'=>GoodWG ql.toRowW.claim (classAt s₀.heap) (ExcName.means s₀.heap) args s₁ (.error e) s') s₁:=by
 let c:Cx:=⟨true,pw,w,s₁,s₁.heap,KF w.params,mg,mb,(kf_in w.params).keeps Y,G.T.g,G.T.b,G.T.nolimit,G.T.builtins⟩
 have Z:Std c:=MQ (P:=w.params) rfl rfl
 have e1:mg "law" =some (.ref 1014):=mg_of c.kin c.g (show nsIn (KF w.params) mainGlobals "law" =some (some (.ref 1014)) by kernel_rfl)
 cases hf.symm.trans e1
 obtain⟨ns,v,rfl,hn,hv⟩:=xf (P:=w.params) hp hr
 have K:=G3 (c:=c) (n:=0) (Q:=λav sh=>av=.bool true) (X:=λq0=>False) Z rfl hn rfl
 refine bT (K.run callerA [] ⟨none,none,none⟩ (λa=>s₁.heap.get? a) s₁.heap s₁.toks [v] [] _ ⟨rfl,by decide +kernel,by decide +kernel,rfl⟩ ⟨λq0 q1 e=>e,λq0 q1 e=>e,λq0 q1 e=>.inl e,List.nodup_nil,nofun,⟨nofun,nofun,nofun⟩,nofun,trivial,nofun,nofun⟩ ⟨v,[],rfl,hv,rfl⟩ rfl λr s' i=>?_)
 cases i with
 | ex t k x q=>exact q.elim
 | ok t k r q=>
  subst q
  cases r
  exact⟨.inl ⟨_,.bool true,[],rfl,λq0=>rfl,.bool true,(show∀args,ql.toRowW.claim.post args (.bool true) args=true fromλargs=>by kernel_rfl) args,λq0=>⟨List.nodup_nil,nofun⟩⟩,.of_keep λb o e=>k.imm _ _ (k.base _ _ e),rfl,.of_eq hg⟩
end
end Mine
theorem PySem.Challenge.cw_jm0002_01_holds : PySem.Challenge.rw_jm0002_01.Holds :=
 Hd.fin λw s₀ s₁ mg mb G Y f hf hg args vals as hp q0 hr q1 q2=>Mine.the_call w s₀ s₁ mg mb G Y f hf hg args vals as hp hr
