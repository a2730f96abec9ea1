/- Contracts and laws that the last text joins. -/
import Derived.Handy
import Derived.LaidEqlPtr
import Derived.Lib.Builder
import Derived.Outline
import Derived.Deep.DeepCutAuto
import Derived.Laws.BitsLemmas
import Derived.Laws.Bits64b
import Derived.Deep.MidRow
import Derived.Test.YtbmdoinjkligiaaGreatM00
set_option maxRecDepth 100000
set_option maxHeartbeats 40000000
set_option linter.all false
namespace Go.Proofs.YtbmdoinjkligiaaGreat
open Tryz
open Lib(hid)
def zy(a b:Bytes):Int:=if a=[]then (if b=[]then 0 else 1)else if b=[]then -1 else zt a b
theorem Df(a:Bytes):zy a a=0:=by unfold zy;split<;>simp[Jh]
theorem KP(a b:Bytes):zy a b= -1\/zy a b=0\/zy a b=1:=by
 unfold zy;split
 ·split<;>simp
 ·split
  ·simp
  ·exact ZE a b
theorem xa{a b:Bytes}(h:zy a b=0):a=b:=by
 unfold zy at h;split at h
 ·split at h
  ·simp_all
  ·omega
 ·split at h
  ·omega
  ·exact ZF h
theorem yN(a b:Bytes):zy b a= -zy a b:=by unfold zy;by_cases ha:a=[]<;>by_cases hb:b=[]<;>simp[ha,hb,YJ a b]
theorem ZL{a b c:Bytes}(h:zy a b<0)(k:zy b c<0):zy a c<0:=by
 unfold zy at*
 by_cases ha:a=[]<;>by_cases hb:b=[]<;>by_cases hc:c=[]<;>simp_all;exact qM h k
theorem ZM{a b c:Bytes}(h1: ¬zy b a<0)(h2:zy b c<0):zy a c<0:=by
 rcases KP a b with h|h|h
 ·exact ZL (by omega) h2
 ·rw[xa h];exact h2
 ·have:=yN a b;omega
theorem y_{a b c:Bytes}(h1:zy a b<0)(h2: ¬zy c b<0):zy a c<0:=by
 rcases KP b c with h|h|h
 ·exact ZL h1 (by omega)
 ·rw[<-xa h];exact h1
 ·have:=yN b c;omega
theorem ja{a b c:Bytes}(h1: ¬zy b a<0)(h2: ¬zy c b<0): ¬zy c a<0:=λh=>h2 (y_ h h1)
abbrev EV:=Bytes×Value
structure Nd where
 b:EV
 e:EV
 mx:EV
 l:Nat
 r:Nat
 p:Nat
 c:Bool
abbrev Nd.sl(n:Nd)(x:Nat):Nd:=⟨n.b,n.e,n.mx,x,n.r,n.p,n.c⟩
abbrev Nd.sr(n:Nd)(x:Nat):Nd:=⟨n.b,n.e,n.mx,n.l,x,n.p,n.c⟩
abbrev Nd.sp(n:Nd)(x:Nat):Nd:=⟨n.b,n.e,n.mx,n.l,n.r,x,n.c⟩
abbrev Nd.sm(n:Nd)(x:EV):Nd:=⟨n.b,n.e,x,n.l,n.r,n.p,n.c⟩
abbrev Nd.sc(n:Nd)(x:Bool):Nd:=⟨n.b,n.e,n.mx,n.l,n.r,n.p,x⟩
abbrev NM:=Nat->Nd
def NM.set(T:NM)(i:Nat)(n:Nd):NM:=λj=>if j=i then n else T j
theorem NM.set_same(T:NM)(i:Nat)(n:Nd):(T.set i n) i=n:=by simp[NM.set]
variable{j:Nat}
theorem NM.set_ne(T:NM){i:Nat}(n:Nd)(h:j≠i):(T.set i n) j=T j:=by simp[NM.set,h]
inductive Tr where
 |nil
 |node(i:Nat)(l r:Tr)
def Tr.ids:Tr->List Nat
 |.nil=>[]
 |.node i l r=>l.ids++i::r.ids
inductive Fr where
 |L(i:Nat)(r:Tr)
 |R(i:Nat)(l:Tr)
def Fr.i:Fr->Nat
 |.L i _=>i
 |.R i _=>i
def Fr.sib:Fr->Tr
 |.L _ t=>t
 |.R _ t=>t
def Yg(f:Fr)(t:Tr):Tr:=match f with|.L i r=>.node i t r|.R i l=>.node i l t
def vO:List Fr->Tr->Tr
 |[],t=>t
 |f::k,t=>vO k (Yg f t)
def zC(k:List Fr):List Nat:=k.flatMap λf=>f.i::f.sib.ids
def qE(k:List Fr):List Nat:=k.map Fr.i
def Jl:List Fr->List Nat
 |[]=>[]
 |.L _ _::k=>Jl k
 |.R i l::k=>Jl k++(l.ids++[i])
def Jm:List Fr->List Nat
 |[]=>[]
 |.L i r::k=>i::r.ids++Jm k
 |.R _ _::k=>Jm k
theorem jS(k:List Fr):∀t,(vO k t).ids=Jl k++t.ids++Jm k:=by
 induction k with
 |nil=>intro t;simp[vO,Jl,Jm]
 |cons f k ih=>
  intro t;cases f with
  |L i r=>simp[vO,Yg,ih,Jl,Jm,Tr.ids]
  |R i l=>simp[vO,Yg,ih,Jl,Jm,Tr.ids]
theorem Dg(k:List Fr):(zC k).Perm (Jl k++Jm k):=by
 induction k with
 |nil=>exact .refl _
 |cons f k ih=>
  cases f with
  |L i r=>have:zC (.L i r::k)=(i::r.ids)++zC k:=rfl;rw[this];refine(ih.append_left _).trans ?_;simp only[Jl,Jm];refine List.perm_append_comm_assoc _ _ _|>.trans ?_;simp
  |R i l=>have:zC (.R i l::k)=(i::l.ids)++zC k:=rfl;rw[this];refine(ih.append_left _).trans ?_;simp only[Jl,Jm];rw[<-List.append_assoc];refine List.Perm.append_right _ ?_;refine List.perm_append_comm.trans ?_;refine List.Perm.append_left _ ?_;simpa using(List.perm_append_comm (l₁:=[i]) (l₂:=l.ids))
theorem Qs{k:List Fr}{i:Nat}:i∈zC k↔i∈Jl k\/i∈Jm k:=by rw[(Dg k).mem_iff];simp
theorem zq{k:List Fr}{i:Nat}(h:i∈qE k):i∈zC k:=by obtain⟨f,hf,rfl⟩:=List.mem_map.1 h;exact List.mem_flatMap.2 ⟨f,hf,by simp⟩
def Is(T:NM)(s:Nat):Nat->Nat->Tr->Prop
 |_,x,.nil=>x=s
 |q,x,.node i l r=>x=i/\i≠s/\(T i).p=q/\Is T s i (T i).l l/\Is T s i (T i).r r
def Cx(T:NM)(s root:Nat):Nat->Nat->List Fr->Prop
 |q,x,[]=>root=x/\q=s
 |q,x,.L i r::k=>q=i/\i≠s/\(T i).l=x/\Is T s i (T i).r r/\Cx T s root (T i).p i k
 |q,x,.R i l::k=>q=i/\i≠s/\(T i).r=x/\Is T s i (T i).l l/\Cx T s root (T i).p i k
variable{T:NM}
theorem Is.ne{s:Nat}:∀{t:Tr} {q x:Nat},Is T s q x t->∀i∈t.ids,i≠s
 |.nil,_,_,_,i,hi=>by simp[Tr.ids]at hi
 |.node j l r,q,x,h,i,hi=>by
  obtain⟨_,h2,_,h4,h5⟩:=h;simp only[Tr.ids,List.mem_append,List.mem_cons]at hi;rcases hi with hi|hi|hi
  ·exact h4.ne i hi
  ·exact hi▸h2
  ·exact h5.ne i hi
theorem Cx.ne{s root:Nat}:∀{k:List Fr} {q x:Nat},Cx T s root q x k->∀i∈zC k,i≠s
 |[],_,_,_,i,hi=>by simp[zC]at hi
 |.L j r::k,q,x,h,i,hi=>by
  obtain⟨_,h2,_,h4,h5⟩:=h;have:i=j\/i∈r.ids\/i∈zC k:=by simpa[zC,Fr.i,Fr.sib,or_assoc]using hi
  rcases this with hi|hi|hi
  ·exact hi▸h2
  ·exact h4.ne i hi
  ·exact h5.ne i hi
 |.R j r::k,q,x,h,i,hi=>by
  obtain⟨_,h2,_,h4,h5⟩:=h;have:i=j\/i∈r.ids\/i∈zC k:=by simpa[zC,Fr.i,Fr.sib,or_assoc]using hi
  rcases this with hi|hi|hi
  ·exact hi▸h2
  ·exact h4.ne i hi
  ·exact h5.ne i hi
def V4(n n':Nd):Prop:=n'.l=n.l/\n'.r=n.r/\n'.p=n.p
variable{T':NM}
theorem Is.frame{s:Nat}:∀{t:Tr} {q x:Nat},Is T s q x t->(∀i∈t.ids,V4 (T i) (T' i))->Is T' s q x t
 |.nil,_,_,h,_=>h
 |.node j l r,q,x,h,hT=>by
  obtain⟨h1,h2,h3,h4,h5⟩:=h;obtain⟨e1,e2,e3⟩:=hT j (by simp[Tr.ids]);refine⟨h1,h2,e3.trans h3,?_,?_⟩
  ·rw[e1];exact h4.frame λi hi=>hT i (by simp[Tr.ids,hi])
  ·rw[e2];exact h5.frame λi hi=>hT i (by simp[Tr.ids,hi])
theorem Cx.frame{s root:Nat}:∀{k:List Fr} {q x:Nat},Cx T s root q x k->(∀i∈zC k,V4 (T i) (T' i))->Cx T' s root q x k
 |[],_,_,h,_=>h
 |.L j r::k,q,x,h,hT=>by
  obtain⟨h1,h2,h3,h4,h5⟩:=h;obtain⟨e1,e2,e3⟩:=hT j (by simp[zC,Fr.i]);refine⟨h1,h2,e1.trans h3,?_,?_⟩
  ·rw[e2];exact h4.frame λi hi=>hT i (by simp[zC,Fr.sib,hi])
  ·rw[e3];exact h5.frame λi hi=>hT i (by
    have:i∈zC (.L j r::k)↔i=j\/i∈r.ids\/i∈zC k:=by simp[zC,Fr.i,Fr.sib,or_assoc]
    rw[this];exact Or.inr (Or.inr hi))
 |.R j r::k,q,x,h,hT=>by
  obtain⟨h1,h2,h3,h4,h5⟩:=h;obtain⟨e1,e2,e3⟩:=hT j (by simp[zC,Fr.i]);refine⟨h1,h2,e2.trans h3,?_,?_⟩
  ·rw[e1];exact h4.frame λi hi=>hT i (by simp[zC,Fr.sib,hi])
  ·rw[e3];exact h5.frame λi hi=>hT i (by
    have:i∈zC (.R j r::k)↔i=j\/i∈r.ids\/i∈zC k:=by simp[zC,Fr.i,Fr.sib,or_assoc]
    rw[this];exact Or.inr (Or.inr hi))
def xQ(e:Bytes)(a b:Option Bytes):Bytes:=
 let m:=match a with|none=>e|some a=>if zy a e>0 then a else e
 match b with|none=>m|some b=>if zy b m>0 then b else m
def jg(T:NM):Tr->Option Bytes
 |.nil=>none
 |.node i l r=>some (xQ (T i).e.1 (jg T l) (jg T r))
def xd(T:NM):Tr->Prop
 |.nil=>True
 |.node i l r=>(T i).mx.1=xQ (T i).e.1 (jg T l) (jg T r)/\xd T l/\xd T r
def Q8(T:NM):List Fr->Option Bytes->Prop
 |[],_=>True
 |.L i r::k,m=>xd T r/\(T i).mx.1=xQ (T i).e.1 m (jg T r)/\Q8 T k (some (T i).mx.1)
 |.R i l::k,m=>xd T l/\(T i).mx.1=xQ (T i).e.1 (jg T l) m/\Q8 T k (some (T i).mx.1)
theorem zY{T T':NM}:∀{t:Tr},(∀i∈t.ids,(T' i).e.1=(T i).e.1)->jg T' t=jg T t
 |.nil,_=>rfl
 |.node j l r,h=>by simp only[jg];rw[h j (by simp[Tr.ids]),zY (t:=l) λi hi=>h i (by simp[Tr.ids,hi]),zY (t:=r) λi hi=>h i (by simp[Tr.ids,hi])]
def gw(n n':Nd):Prop:=n'.e.1=n.e.1/\n'.mx.1=n.mx.1
theorem xd.frame:∀{t:Tr},xd T t->(∀i∈t.ids,gw (T i) (T' i))->xd T' t
 |.nil,_,_=>trivial
 |.node j l r,h,hT=>by obtain⟨h1,h2,h3⟩:=h;obtain⟨e1,e2⟩:=hT j (by simp[Tr.ids]);refine⟨?_,h2.frame λi hi=>hT i (by simp[Tr.ids,hi]),h3.frame λi hi=>hT i (by simp[Tr.ids,hi])⟩;rw[e1,e2,h1,zY (t:=l) λi hi=>(hT i (by simp[Tr.ids,hi])).1,zY (t:=r) λi hi=>(hT i (by simp[Tr.ids,hi])).1]
theorem qH{i:Nat}{r:Tr}{k:List Fr}:i∈zC (.L j r::k)↔i=j\/i∈r.ids\/i∈zC k:=by simp[zC,Fr.i,Fr.sib,or_assoc]
theorem qz{i:Nat}{r:Tr}{k:List Fr}:i∈zC (.R j r::k)↔i=j\/i∈r.ids\/i∈zC k:=by simp[zC,Fr.i,Fr.sib,or_assoc]
theorem Q8.frame:∀{k:List Fr} {m:Option Bytes},Q8 T k m->(∀i∈zC k,gw (T i) (T' i))->Q8 T' k m
 |[],_,_,_=>trivial
 |.L j r::k,m,h,hT=>by
  obtain⟨h1,h2,h3⟩:=h;obtain⟨e1,e2⟩:=hT j (qH.2 (Or.inl rfl));refine⟨h1.frame λi hi=>hT i (qH.2 (Or.inr (Or.inl hi))),?_,?_⟩
  ·rw[e1,e2,h2,zY (t:=r) λi hi=>(hT i (qH.2 (Or.inr (Or.inl hi)))).1]
  ·rw[e2];exact h3.frame λi hi=>hT i (qH.2 (Or.inr (Or.inr hi)))
 |.R j r::k,m,h,hT=>by
  obtain⟨h1,h2,h3⟩:=h;obtain⟨e1,e2⟩:=hT j (qz.2 (Or.inl rfl));refine⟨h1.frame λi hi=>hT i (qz.2 (Or.inr (Or.inl hi))),?_,?_⟩
  ·rw[e1,e2,h2,zY (t:=r) λi hi=>(hT i (qz.2 (Or.inr (Or.inl hi)))).1]
  ·rw[e2];exact h3.frame λi hi=>hT i (qz.2 (Or.inr (Or.inr hi)))
open Go.RowKit
def kL(r:Rd)(e:EV):Prop:=∃bv,e.2=.iface 283 bv/\Bs r e.1 bv
variable{r r':Rd}
theorem kL.mono(hr:r.le r'){e:EV}(h:kL r e):kL r' e:=by obtain⟨bv,h1,h2⟩:=h;exact⟨bv,h1,h2.mono hr⟩
theorem Uo(v:Value)(w:World):(Instr.typeAssert (.iface 283 v) 228 283 false).run prog w=.ok v w:=by kernel_rfl
variable{v:Value}
theorem yH{l m:Bytes}{u:Value}{w:World}(h1:Z9 w l v)(h2:Z9 w m u):
  Calls prog 187 #[v,.iface 283 u] w λe w'=>e=.returned (.int .i64 (zy l m))/\w=w':=by
 have hc:=yb h1 h2;have hta:=λv=>Uo v w;obtain⟨p,n,c,rfl,hl⟩:=h1.shape;obtain⟨p2,n2,c2,rfl,hl2⟩:=h2.shape;obtain⟨_,_,_,e1,_,e1c,e1m,_,_⟩:=h1;obtain⟨_,_,_,e2,_,e2c,e2m,_,_⟩:=h2;simp only[Value.slice.injEq]at e1 e2;obtain⟨rfl,rfl,rfl⟩:=e1;obtain⟨rfl,rfl,rfl⟩:=e2;have HC:=hid hc;clear hc;have hr:zy l m=if n=0 then (if n2=0 then 0 else 1)else if n2=0 then -1 else zt l m:=by
  unfold zy;have a:(l=[])=(n=0):=by rw[<-hl];simp
  have b:(m=[])=(n2=0):=by rw[<-hl2];simp
  simp only[a,b]
 have HR:=hid hr;clear hr;clear hl hl2;by_cases k1:n=0
 ·by_cases k2:n2=0
  ·subst k1;subst k2;have H1:=hid (show zy l m=0 by rw[HR.out,if_pos rfl,if_pos rfl]);go_enter func187,ntmps187;go_wp2;go_returns;exact⟨by rw[H1.out];rfl,rfl⟩
  ·subst k1;have H1:=hid (show zy l m=1 by rw[HR.out,if_pos rfl,if_neg k2]);have k2':((n2:Int)==0)=false:=by simpa using k2
   go_enter func187,ntmps187;go_wp2;go_returns;exact⟨by rw[H1.out];rfl,rfl⟩
 ·have k1':((n:Int)==0)=false:=by simpa using k1
  by_cases k2:n2=0
  ·subst k2;have H1:=hid (show zy l m= -1 by rw[HR.out,if_neg k1,if_pos rfl]);go_enter func187,ntmps187;go_wp2;go_returns;exact⟨by rw[H1.out];rfl,rfl⟩
  ·have H1:=hid (show zy l m=zt l m by rw[HR.out,if_neg k1,if_neg k2]);have k2':((n2:Int)==0)=false:=by simpa using k2
   go_enter func187,ntmps187;go_wp2_with (go_at_call 104;refine HC.out.mono ?_;rintro e w1 ⟨rfl,rfl⟩);go_returns;exact⟨by rw[H1.out];rfl,rfl⟩
def Hd(T:NM)(s:Nat)(D:Nat->Prop)(c:Nat)(m:Option Bytes):Prop:=(c=s/\m=none)\/(c≠s/\D c/\m=some (T c).mx.1)
def Yu(T:NM)(s x:Nat):EV:=
 let m:=if (T x).l≠s/\zy (T (T x).l).mx.1 (T x).e.1>0 then (T (T x).l).mx else (T x).e
 if (T x).r≠s/\zy (T (T x).r).mx.1 m.1>0 then (T (T x).r).mx else m
theorem gx(c:Prop)[Decidable c](a b:EV):(if c then a else b).1=if c then a.1 else b.1:=by split<;>rfl
variable{D:Nat->Prop}{ml mr:Option Bytes}{x:Nat}
theorem gy{s:Nat}(hl:Hd T s D (T x).l ml)(hr:Hd T s D (T x).r mr):(Yu T s x).1=xQ (T x).e.1 ml mr:=by
 unfold Yu xQ;rcases hl with⟨h1,rfl⟩|⟨h1,_,rfl⟩<;>rcases hr with⟨h2,rfl⟩|⟨h2,_,rfl⟩<;>simp only[h1,h2,ne_eq,not_true_eq_false,not_false_eq_true,false_and,true_and,if_false]
 ·split<;>rfl
 ·split<;>rfl
 ·rw[gx,gx]
def uj(n n':Nd):Prop:=n'.b=n.b/\n'.e=n.e/\n'.l=n.l/\n'.r=n.r/\n'.p=n.p/\n'.c=n.c
theorem uj.refl(n:Nd):uj n n:=⟨rfl,rfl,rfl,rfl,rfl,rfl⟩
theorem uj.trans{a b c:Nd}(h:uj a b)(k:uj b c):uj a c:=
 ⟨k.1.trans h.1,k.2.1.trans h.2.1,k.2.2.1.trans h.2.2.1,k.2.2.2.1.trans h.2.2.2.1,k.2.2.2.2.1.trans h.2.2.2.2.1,k.2.2.2.2.2.trans h.2.2.2.2.2⟩
theorem uj.ptr{n n':Nd}(h:uj n n'):V4 n n':=⟨h.2.2.1,h.2.2.2.1,h.2.2.2.2.1⟩
structure U(T:NM)(s root q x:Nat)(D:Nat->Prop)(k:List Fr)(ml mr:Option Bytes):Prop where
 xs:x≠s
 dx:D x
 p:(T x).p=q
 hl:Hd T s D (T x).l ml
 hr:Hd T s D (T x).r mr
 cx:Cx T s root q x k
 ok:Q8 T k (some (T x).mx.1)
 nd:(x::zC k).Nodup
 lx:(T x).l≠x/\(T x).l∉qE k
 rx:(T x).r≠x/\(T x).r∉qE k
 dk:∀i∈zC k,D i
structure jF(T T':NM)(x:Nat)(k:List Fr)(m:Bytes):Prop where
 out:∀i,i≠x->i∉qE k->T' i=T i
 all:∀i,uj (T i) (T' i)
 mx:(T' x).mx.1=m
 ok:Q8 T' k (some m)
variable{q:Nat}
theorem U.same{s root:Nat}{k:List Fr}(h:U T s root q x D k ml mr)(he:zy (T x).mx.1 (Yu T s x).1=0):jF T T x k (xQ (T x).e.1 ml mr):=by have:=xa he;rw[gy h.hl h.hr]at this;exact⟨λ_ _ _=>rfl,λ_=>uj.refl _,this,this▸h.ok⟩
theorem U.last{s root:Nat}(h:U T s root q x D [] ml mr):jF T (T.set x ((T x).sm (Yu T s x))) x [] (xQ (T x).e.1 ml mr)/\q=s:=by
 refine⟨⟨λi hi _=>NM.set_ne _ _ hi,λi=> ?_,?_,trivial⟩,h.cx.2⟩
 ·by_cases e:i=x
  ·subst e;rw[NM.set_same];exact⟨rfl,rfl,rfl,rfl,rfl,rfl⟩
  ·rw[NM.set_ne _ _ e];exact uj.refl _
 ·rw[NM.set_same];exact gy h.hl h.hr
theorem Is.hd{s:Nat}{t:Tr}(h:Is T s q x t)(hm:xd T t)(hD:∀i∈t.ids,D i):Hd T s D x (jg T t):=by
 cases t with
 |nil=>exact Or.inl ⟨h,rfl⟩
 |node i l r=>obtain⟨rfl,h2,_⟩:=h;refine Or.inr ⟨h2,hD _ (by simp[Tr.ids]),?_⟩;simp only[jg,hm.1]
theorem Is.root{s:Nat}{t:Tr}(h:Is T s q x t):x=s\/x∈t.ids:=by
 cases t with
 |nil=>exact Or.inl h
 |node i l r=>obtain⟨rfl,_⟩:=h;right;simp[Tr.ids]
variable{f:Fr}
theorem U.up{s root:Nat}{k:List Fr}(h:U T s root q x D (f::k) ml mr):
  q=f.i/\∃q' ml' mr',U (T.set x ((T x).sm (Yu T s x))) s root q' q D k ml' mr'/\
   ∀T',jF (T.set x ((T x).sm (Yu T s x))) T' q k (xQ ((T.set x ((T x).sm (Yu T s x))) q).e.1 ml' mr')->jF T T' x (f::k) (xQ (T x).e.1 ml mr):=by
 have hnew:=gy h.hl h.hr;generalize hT1:T.set x ((T x).sm (Yu T s x))=T1;have t1x:T1 x=((T x).sm (Yu T s x)):=by rw[<-hT1];exact NM.set_same _ _ _
 have t1o:∀i,i≠x->T1 i=T i:=λi hi=>by rw[<-hT1];exact NM.set_ne _ _ hi
 have hall:∀i,uj (T i) (T1 i):=λi=>by
  by_cases e:i=x
  ·subst e;rw[t1x];exact⟨rfl,rfl,rfl,rfl,rfl,rfl⟩
  ·rw[t1o i e];exact uj.refl _
 have hnd:=h.nd;have hne:=h.cx.ne;cases f with
 |L i r=>
  obtain⟨hq,hi,hil,hir,hcx⟩:=h.cx;obtain⟨ho1,ho2,ho3⟩:=h.ok;subst hq;simp only[Fr.i,List.nodup_cons,qH,not_or]at hnd;have hnd2:(q::(r.ids++zC k)).Nodup:=hnd.2;simp only[List.nodup_cons,List.mem_append,not_or,List.nodup_append]at hnd2;obtain⟨⟨hx1,hx2,hx3⟩,_⟩:=hnd;obtain⟨⟨hq1,hq2⟩,hr1,hk1,hrk⟩:=hnd2;have hT1q:T1 q=T q:=t1o q (Ne.symm hx1);have hr0:r.ids=[]\/True:=Or.inr trivial;have hrq:(T q).r=s\/(T q).r∈r.ids:=hir.root;have hsk:s∉qE k:=λe=>hcx.ne s (zq e) rfl;refine⟨rfl,(T q).p,some (T1 x).mx.1,jg T1 r,⟨hi,h.dk q (qH.2 (Or.inl rfl)),by rw[hT1q],?_,?_,?_,?_,?_,?_,?_,λj hj=>h.dk j (qH.2 (Or.inr (Or.inr hj)))⟩,λT' hd=> ?_⟩
  ·rw[hT1q,hil];exact Or.inr ⟨h.xs,h.dx,rfl⟩
  ·rw[hT1q];refine(hir.frame λj hj=>(hall j).ptr).hd (ho1.frame λj hj=> ?_) λj hj=>h.dk j (qH.2 (Or.inr (Or.inl hj)));rw[t1o j (λe=>hx2 (e▸hj))];exact⟨rfl,rfl⟩
  ·exact hcx.frame λj hj=>(hall j).ptr
  ·rw[hT1q];refine ho3.frame λj hj=> ?_;rw[t1o j (λe=>hx3 (e▸hj))];exact⟨rfl,rfl⟩
  ·simp only[List.nodup_cons];exact⟨hq2,hk1⟩
  ·rw[hT1q,hil];exact⟨hx1,λe=>hx3 (zq e)⟩
  ·rw[hT1q];rcases hrq with e|e
   ·rw[e];exact⟨Ne.symm hi,hsk⟩
   ·exact⟨λe2=>hq1 (e2▸e),λe2=>hrk _ e _ (zq e2) rfl⟩
  ·have hxq:T' x=T1 x:=hd.out x hx1 (λe=>hx3 (zq e));refine⟨λj h1 h2=> ?_,λj=>(hall j).trans (hd.all j),?_,?_,?_,?_⟩
   ·simp only[qE,List.map_cons,Fr.i,List.mem_cons,not_or]at h2;rw[hd.out j h2.1 h2.2,t1o j h1]
   ·rw[hxq,t1x];exact hnew
   ·refine ho1.frame λj hj=> ?_;rw[hd.out j (λe=>hq1 (e▸hj)) (λe=>hrk _ hj _ (zq e) rfl),t1o j (λe=>hx2 (e▸hj))];exact⟨rfl,rfl⟩
   ·rw[hd.mx];have e1:(T' q).e.1=(T1 q).e.1:=by rw[(hd.all q).2.1]
    have e2:jg T' r=jg T1 r:=zY λj hj=>by rw[(hd.all j).2.1]
    have hmx:(T1 x).mx.1=xQ (T x).e.1 ml mr:=by rw[t1x];exact hnew
    rw[e1,e2,hmx]
   ·rw[hd.mx];exact hd.ok
 |R i r=>
  obtain⟨hq,hi,hil,hir,hcx⟩:=h.cx;obtain⟨ho1,ho2,ho3⟩:=h.ok;subst hq;simp only[Fr.i,List.nodup_cons,qz,not_or]at hnd;have hnd2:(q::(r.ids++zC k)).Nodup:=hnd.2;simp only[List.nodup_cons,List.mem_append,not_or,List.nodup_append]at hnd2;obtain⟨⟨hx1,hx2,hx3⟩,_⟩:=hnd;obtain⟨⟨hq1,hq2⟩,hr1,hk1,hrk⟩:=hnd2;have hT1q:T1 q=T q:=t1o q (Ne.symm hx1);have hrq:(T q).l=s\/(T q).l∈r.ids:=hir.root;have hsk:s∉qE k:=λe=>hcx.ne s (zq e) rfl;refine⟨rfl,(T q).p,jg T1 r,some (T1 x).mx.1,⟨hi,h.dk q (qz.2 (Or.inl rfl)),by rw[hT1q],?_,?_,?_,?_,?_,?_,?_,λj hj=>h.dk j (qz.2 (Or.inr (Or.inr hj)))⟩,λT' hd=> ?_⟩
  ·rw[hT1q];refine(hir.frame λj hj=>(hall j).ptr).hd (ho1.frame λj hj=> ?_) λj hj=>h.dk j (qz.2 (Or.inr (Or.inl hj)));rw[t1o j (λe=>hx2 (e▸hj))];exact⟨rfl,rfl⟩
  ·rw[hT1q,hil];exact Or.inr ⟨h.xs,h.dx,rfl⟩
  ·exact hcx.frame λj hj=>(hall j).ptr
  ·rw[hT1q];refine ho3.frame λj hj=> ?_;rw[t1o j (λe=>hx3 (e▸hj))];exact⟨rfl,rfl⟩
  ·simp only[List.nodup_cons];exact⟨hq2,hk1⟩
  ·rw[hT1q];rcases hrq with e|e
   ·rw[e];exact⟨Ne.symm hi,hsk⟩
   ·exact⟨λe2=>hq1 (e2▸e),λe2=>hrk _ e _ (zq e2) rfl⟩
  ·rw[hT1q,hil];exact⟨hx1,λe=>hx3 (zq e)⟩
  ·have hxq:T' x=T1 x:=hd.out x hx1 (λe=>hx3 (zq e));refine⟨λj h1 h2=> ?_,λj=>(hall j).trans (hd.all j),?_,?_,?_,?_⟩
   ·simp only[qE,List.map_cons,Fr.i,List.mem_cons,not_or]at h2;rw[hd.out j h2.1 h2.2,t1o j h1]
   ·rw[hxq,t1x];exact hnew
   ·refine ho1.frame λj hj=> ?_;rw[hd.out j (λe=>hq1 (e▸hj)) (λe=>hrk _ hj _ (zq e) rfl),t1o j (λe=>hx2 (e▸hj))];exact⟨rfl,rfl⟩
   ·rw[hd.mx];have e1:(T' q).e.1=(T1 q).e.1:=by rw[(hd.all q).2.1]
    have e2:jg T' r=jg T1 r:=zY λj hj=>by rw[(hd.all j).2.1]
    have hmx:(T1 x).mx.1=xQ (T x).e.1 ml mr:=by rw[t1x];exact hnew
    rw[e1,e2,hmx]
   ·rw[hd.mx];exact hd.ok
structure RP(T:NM)(s root q x y:Nat)(D:Nat->Prop)(k:List Fr):Prop where
 cx:Cx T s root q x k
 p:(T x).p=q
 xy:x≠y
 xk:x∉zC k
 yk:y∉zC k
 xs:x≠s
 ys:y≠s
 dx:D x
 dy:D y
 nd:(zC k).Nodup
 dk:∀i∈zC k,D i
 ok:∃m,Q8 T k (some m)
def Z2(n n':Nd):Prop:=n'.b=n.b/\n'.e=n.e/\n'.c=n.c
theorem Z2.refl(n:Nd):Z2 n n:=⟨rfl,rfl,rfl⟩
theorem Z2.trans{a b c:Nd}(h:Z2 a b)(k:Z2 b c):Z2 a c:=⟨k.1.trans h.1,k.2.1.trans h.2.1,k.2.2.trans h.2.2⟩
theorem uj.bec{n n':Nd}(h:uj n n'):Z2 n n':=⟨h.1,h.2.1,h.2.2.2.2.2⟩
structure WA(T T':NM)(s root' q x y:Nat)(k:List Fr):Prop where
 cx:Cx T' s root' q y k
 ok:Q8 T' k (some (T y).mx.1)
 yat:T' y=((T y).sp (q))
 xat:T' x=((T x).sp (y))
 out:∀i,i≠x->i≠y->i∉qE k->T' i=T i
 bec:∀i,Z2 (T i) (T' i)
theorem vM(T:NM)(i:Nat)(n:Nd)(h:Z2 (T i) n)(j:Nat):Z2 (T j) ((T.set i n) j):=by
 by_cases e:j=i
 ·subst e;rw[NM.set_same];exact h
 ·rw[NM.set_ne _ _ e];exact Z2.refl _
variable{y:Nat}
theorem RP.nil{s root:Nat}(h:RP T s root q x y D []):q=s/\WA T ((T.set y ((T y).sp q)).set x ((T x).sp y)) s y q x y []:=by
 have hq:=h.cx.2;have e1:(T.set y ((T y).sp q)) x=T x:=NM.set_ne _ _ h.xy;refine⟨hq,⟨rfl,hq⟩,trivial,?_,?_,λi h1 h2 _=> ?_,λi=> ?_⟩
 ·rw[NM.set_ne _ _ (Ne.symm h.xy),NM.set_same]
 ·rw[NM.set_same]
 ·rw[NM.set_ne _ _ h1,NM.set_ne _ _ h2]
 ·exact(vM T y ((T y).sp q) ⟨rfl,rfl,rfl⟩ i).trans (vM _ x ((T x).sp y) (by rw[e1];exact⟨rfl,rfl,rfl⟩) i)
theorem RP.consL{s root i:Nat}{r:Tr}{k:List Fr}(h:RP T s root q x y D (.L i r::k)):
  q=i/\q≠s/\D q/\q≠x/\q≠y/\(T q).l=x/\∃q' ml mr,∀T2,T2=(T.set y ((T y).sp (q))).set q ((T q).sl (y))->U T2 s root q' q D k ml mr/\
   ∀T3,jF T2 T3 q k (xQ (T2 q).e.1 ml mr)->WA T (T3.set x ((T3 x).sp (y))) s root q x y (.L i r::k):=by
 obtain⟨hq,hi,hil,hir,hcx⟩:=h.cx;obtain⟨m,ho1,ho2,ho3⟩:=h.ok;subst hq;have hxk:=h.xk;have hyk:=h.yk;have hnd2:(q::(r.ids++zC k)).Nodup:=h.nd;simp only[qH,not_or]at hxk hyk;simp only[List.nodup_cons,List.mem_append,not_or,List.nodup_append]at hnd2;obtain⟨hx1,hx2,hx3⟩:=hxk;obtain⟨hy1,hy2,hy3⟩:=hyk;obtain⟨⟨hq1,hq2⟩,hr1,hk1,hrk⟩:=hnd2;have hrq:(T q).r=s\/(T q).r∈r.ids:=hir.root;have hsk:s∉qE k:=λe=>hcx.ne s (zq e) rfl;refine⟨rfl,hi,h.dk q (qH.2 (Or.inl rfl)),Ne.symm hx1,Ne.symm hy1,hil,(T q).p,some (T y).mx.1,jg T r,λT2 hT2=> ?_⟩;have t2q:T2 q=((T q).sl (y)):=by rw[hT2];exact NM.set_same _ _ _
 have t2y:T2 y=((T y).sp (q)):=by rw[hT2,NM.set_ne _ _ hy1];exact NM.set_same _ _ _
 have t2o:∀j,j≠q->j≠y->T2 j=T j:=λj h1 h2=>by rw[hT2,NM.set_ne _ _ h1,NM.set_ne _ _ h2]
 have hrr:∀j∈r.ids,T2 j=T j:=λj hj=>t2o j (λe=>hq1 (e▸hj)) (λe=>hy2 (e▸hj));have hkk:∀j∈zC k,T2 j=T j:=λj hj=>t2o j (λe=>hq2 (e▸hj)) (λe=>hy3 (e▸hj));have ptr_of:∀j,T2 j=T j->V4 (T j) (T2 j):=λj e=>by rw[e];exact⟨rfl,rfl,rfl⟩
 have ends_of:∀j,T2 j=T j->gw (T j) (T2 j):=λj e=>by rw[e];exact⟨rfl,rfl⟩
 refine⟨⟨hi,h.dk q (qH.2 (Or.inl rfl)),by rw[t2q],?_,?_,?_,?_,?_,?_,?_,λj hj=>h.dk j (qH.2 (Or.inr (Or.inr hj)))⟩,λT3 hd=> ?_⟩
 ·rw[t2q];exact Or.inr ⟨h.ys,h.dy,by rw[t2y]⟩
 ·have:=(hir.frame λj hj=>ptr_of j (hrr j hj)).hd (ho1.frame λj hj=>ends_of j (hrr j hj)) λj hj=>h.dk j (qH.2 (Or.inr (Or.inl hj)));rw[t2q,<-zY (T':=T2) (t:=r) λj hj=>by rw[hrr j hj]];exact this
 ·exact hcx.frame λj hj=>ptr_of j (hkk j hj)
 ·rw[t2q];exact ho3.frame λj hj=>ends_of j (hkk j hj)
 ·simp only[List.nodup_cons];exact⟨hq2,hk1⟩
 ·rw[t2q];exact⟨hy1,λe=>hy3 (zq e)⟩
 ·rw[t2q];rcases hrq with e|e
  ·show(T q).r≠q/\(T q).r∉qE k;rw[e];exact⟨Ne.symm hi,hsk⟩
  ·exact⟨λe2=>hq1 (e2▸e),λe2=>hrk _ e _ (zq e2) rfl⟩
 ·have d3y:T3 y=T2 y:=hd.out y hy1 (λe=>hy3 (zq e));have d3x:T3 x=T2 x:=hd.out x hx1 (λe=>hx3 (zq e));have t2x:T2 x=T x:=t2o x hx1 h.xy;have hall:∀j,j≠q->j≠y->j≠x->j∉qE k->(T3.set x ((T3 x).sp (y))) j=T j:=λj h1 h2 h3 h4=>by
   rw[NM.set_ne _ _ h3,hd.out j h1 h4,t2o j h1 h2]
  have h3k:∀j∈zC k,uj (T j) ((T3.set x ((T3 x).sp (y))) j):=λj hj=>by rw[NM.set_ne _ _ (λe:j=x=>hx3 (e▸hj)),<-hkk j hj];exact hd.all j
  have h3q:(T3.set x ((T3 x).sp (y))) q=T3 q:=NM.set_ne _ _ (Ne.symm hx1);have h3r:∀j∈r.ids,(T3.set x ((T3 x).sp (y))) j=T j:=λj hj=>hall j (λe=>hq1 (e▸hj)) (λe=>hy2 (e▸hj)) (λe=>hx2 (e▸hj)) (λe=>hrk _ hj _ (zq e) rfl);have eq:=hd.all q;refine⟨⟨rfl,hi,?_,?_,?_⟩,⟨?_,?_,?_⟩,?_,?_,λj h1 h2 h3=> ?_,λj=> ?_⟩
  ·rw[h3q,eq.2.2.1,t2q]
  ·rw[h3q,eq.2.2.2.1,t2q];exact hir.frame λj hj=>by rw[h3r j hj];exact⟨rfl,rfl,rfl⟩
  ·rw[h3q,eq.2.2.2.2.1,t2q];exact hcx.frame λj hj=>(h3k j hj).ptr
  ·exact ho1.frame λj hj=>by rw[h3r j hj];exact⟨rfl,rfl⟩
  ·rw[h3q,hd.mx,eq.2.1,zY (T:=T) (T':=T3.set x ((T3 x).sp y)) (t:=r) λj hj=>by rw[h3r j hj]]
  ·rw[h3q,hd.mx];exact hd.ok.frame λj hj=>by rw[NM.set_ne _ _ (λe:j=x=>hx3 (e▸hj))];exact⟨rfl,rfl⟩
  ·rw[NM.set_ne _ _ (Ne.symm h.xy),d3y,t2y]
  ·rw[NM.set_same,d3x,t2x]
  ·simp only[qE,List.map_cons,Fr.i,List.mem_cons,not_or]at h3;exact hall j h3.1 h2 h1 h3.2
  ·have b1:Z2 (T j) (T2 j):=by
    rw[hT2];refine(vM T y ((T y).sp q) ⟨rfl,rfl,rfl⟩ j).trans (vM _ q _ ?_ j);rw[NM.set_ne _ _ (Ne.symm hy1)];exact⟨rfl,rfl,rfl⟩
   exact(b1.trans (hd.all j).bec).trans (vM T3 x ((T3 x).sp y) ⟨rfl,rfl,rfl⟩ j)
theorem RP.consR{s root i:Nat}{r:Tr}{k:List Fr}(h:RP T s root q x y D (.R i r::k)):
  q=i/\q≠s/\D q/\q≠x/\q≠y/\(T q).l≠x/\∃q' ml mr,∀T2,T2=(T.set y ((T y).sp (q))).set q ((T q).sr (y))->U T2 s root q' q D k ml mr/\
   ∀T3,jF T2 T3 q k (xQ (T2 q).e.1 ml mr)->WA T (T3.set x ((T3 x).sp (y))) s root q x y (.R i r::k):=by
 obtain⟨hq,hi,hil,hir,hcx⟩:=h.cx;obtain⟨m,ho1,ho2,ho3⟩:=h.ok;subst hq;have hxk:=h.xk;have hyk:=h.yk;have hnd2:(q::(r.ids++zC k)).Nodup:=h.nd;simp only[qz,not_or]at hxk hyk;simp only[List.nodup_cons,List.mem_append,not_or,List.nodup_append]at hnd2;obtain⟨hx1,hx2,hx3⟩:=hxk;obtain⟨hy1,hy2,hy3⟩:=hyk;obtain⟨⟨hq1,hq2⟩,hr1,hk1,hrk⟩:=hnd2;have hrq:(T q).l=s\/(T q).l∈r.ids:=hir.root;have hsk:s∉qE k:=λe=>hcx.ne s (zq e) rfl;refine⟨rfl,hi,h.dk q (qz.2 (Or.inl rfl)),Ne.symm hx1,Ne.symm hy1,?_,(T q).p,jg T r,some (T y).mx.1,λT2 hT2=> ?_⟩
 ·rcases hrq with e|e
  ·rw[e];exact Ne.symm h.xs
  ·exact λe2=>hx2 (e2▸e)
 have t2q:T2 q=((T q).sr (y)):=by rw[hT2];exact NM.set_same _ _ _
 have t2y:T2 y=((T y).sp (q)):=by rw[hT2,NM.set_ne _ _ hy1];exact NM.set_same _ _ _
 have t2o:∀j,j≠q->j≠y->T2 j=T j:=λj h1 h2=>by rw[hT2,NM.set_ne _ _ h1,NM.set_ne _ _ h2]
 have hrr:∀j∈r.ids,T2 j=T j:=λj hj=>t2o j (λe=>hq1 (e▸hj)) (λe=>hy2 (e▸hj));have hkk:∀j∈zC k,T2 j=T j:=λj hj=>t2o j (λe=>hq2 (e▸hj)) (λe=>hy3 (e▸hj));have ptr_of:∀j,T2 j=T j->V4 (T j) (T2 j):=λj e=>by rw[e];exact⟨rfl,rfl,rfl⟩
 have ends_of:∀j,T2 j=T j->gw (T j) (T2 j):=λj e=>by rw[e];exact⟨rfl,rfl⟩
 refine⟨⟨hi,h.dk q (qz.2 (Or.inl rfl)),by rw[t2q],?_,?_,?_,?_,?_,?_,?_,λj hj=>h.dk j (qz.2 (Or.inr (Or.inr hj)))⟩,λT3 hd=> ?_⟩
 ·have:=(hir.frame λj hj=>ptr_of j (hrr j hj)).hd (ho1.frame λj hj=>ends_of j (hrr j hj)) λj hj=>h.dk j (qz.2 (Or.inr (Or.inl hj)));rw[t2q,<-zY (T':=T2) (t:=r) λj hj=>by rw[hrr j hj]];exact this
 ·rw[t2q];exact Or.inr ⟨h.ys,h.dy,by rw[t2y]⟩
 ·exact hcx.frame λj hj=>ptr_of j (hkk j hj)
 ·rw[t2q];exact ho3.frame λj hj=>ends_of j (hkk j hj)
 ·simp only[List.nodup_cons];exact⟨hq2,hk1⟩
 ·rw[t2q];rcases hrq with e|e
  ·show(T q).l≠q/\(T q).l∉qE k;rw[e];exact⟨Ne.symm hi,hsk⟩
  ·exact⟨λe2=>hq1 (e2▸e),λe2=>hrk _ e _ (zq e2) rfl⟩
 ·rw[t2q];exact⟨hy1,λe=>hy3 (zq e)⟩
 ·have d3y:T3 y=T2 y:=hd.out y hy1 (λe=>hy3 (zq e));have d3x:T3 x=T2 x:=hd.out x hx1 (λe=>hx3 (zq e));have t2x:T2 x=T x:=t2o x hx1 h.xy;have hall:∀j,j≠q->j≠y->j≠x->j∉qE k->(T3.set x ((T3 x).sp (y))) j=T j:=λj h1 h2 h3 h4=>by
   rw[NM.set_ne _ _ h3,hd.out j h1 h4,t2o j h1 h2]
  have h3k:∀j∈zC k,uj (T j) ((T3.set x ((T3 x).sp (y))) j):=λj hj=>by rw[NM.set_ne _ _ (λe:j=x=>hx3 (e▸hj)),<-hkk j hj];exact hd.all j
  have h3q:(T3.set x ((T3 x).sp (y))) q=T3 q:=NM.set_ne _ _ (Ne.symm hx1);have h3r:∀j∈r.ids,(T3.set x ((T3 x).sp (y))) j=T j:=λj hj=>hall j (λe=>hq1 (e▸hj)) (λe=>hy2 (e▸hj)) (λe=>hx2 (e▸hj)) (λe=>hrk _ hj _ (zq e) rfl);have eq:=hd.all q;refine⟨⟨rfl,hi,?_,?_,?_⟩,⟨?_,?_,?_⟩,?_,?_,λj h1 h2 h3=> ?_,λj=> ?_⟩
  ·rw[h3q,eq.2.2.2.1,t2q]
  ·rw[h3q,eq.2.2.1,t2q];exact hir.frame λj hj=>by rw[h3r j hj];exact⟨rfl,rfl,rfl⟩
  ·rw[h3q,eq.2.2.2.2.1,t2q];exact hcx.frame λj hj=>(h3k j hj).ptr
  ·exact ho1.frame λj hj=>by rw[h3r j hj];exact⟨rfl,rfl⟩
  ·rw[h3q,hd.mx,eq.2.1,zY (T:=T) (T':=T3.set x ((T3 x).sp y)) (t:=r) λj hj=>by rw[h3r j hj]]
  ·rw[h3q,hd.mx];exact hd.ok.frame λj hj=>by rw[NM.set_ne _ _ (λe:j=x=>hx3 (e▸hj))];exact⟨rfl,rfl⟩
  ·rw[NM.set_ne _ _ (Ne.symm h.xy),d3y,t2y]
  ·rw[NM.set_same,d3x,t2x]
  ·simp only[qE,List.map_cons,Fr.i,List.mem_cons,not_or]at h3;exact hall j h3.1 h2 h1 h3.2
  ·have b1:Z2 (T j) (T2 j):=by
    rw[hT2];refine(vM T y ((T y).sp q) ⟨rfl,rfl,rfl⟩ j).trans (vM _ q _ ?_ j);rw[NM.set_ne _ _ (Ne.symm hy1)];exact⟨rfl,rfl,rfl⟩
   exact(b1.trans (hd.all j).bec).trans (vM T3 x ((T3 x).sp y) ⟨rfl,rfl,rfl⟩ j)
structure TG(T:NM)(s root q x:Nat)(D:Nat->Prop)(k:List Fr)(t:Tr):Prop where
 is:Is T s q x t
 mx:xd T t
 cx:Cx T s root q x k
 ok:Q8 T k (jg T t)
 nd:(t.ids++zC k).Nodup
 dk:∀i∈t.ids++zC k,D i
variable{α:Type}
theorem qa{a b:List α}(h:(a++b).Nodup):a.Nodup/\b.Nodup/\∀x∈a,x∉b:=by rw[List.nodup_append]at h;exact⟨h.1,h.2.1,λx hx hb=>h.2.2 x hx x hb rfl⟩
theorem TG.rotL{s root:Nat}{k:List Fr}{a b c:Tr}(h:TG T s root q x D k (.node x a (.node y b c))):
  (T x).r=y/\x≠s/\y≠s/\x≠y/\D x/\D y/\((T y).l=s\/D (T y).l/\(T y).l≠x/\(T y).l≠y/\(T y).l≠s)/\(T x).p=q/\
  ∀T1,T1=(if (T y).l=s then T.set x ((T x).sr (T y).l)else (T.set x ((T x).sr (T y).l)).set (T y).l ((T (T y).l).sp x))->
   U T1 s root q x D k (jg T a) (jg T b)/\
   ∀T2,jF T1 T2 x k (xQ (T1 x).e.1 (jg T a) (jg T b))->RP T2 s root q x y D k/\
   ∀T4 root',WA T2 T4 s root' q x y k->∀T5,T5=T4.set y ((T4 y).sl x)->U T5 s root' q y D k (some (T5 x).mx.1) (jg T c)/\
   ∀T6,jF T5 T6 y k (xQ (T5 y).e.1 (some (T5 x).mx.1) (jg T c))->
    TG T6 s root' q y D k (.node y (.node x a b) c)/\(∀i,Z2 (T i) (T6 i)):=by
 obtain⟨⟨_,hxs,hxp,hia,hxr,hys,hyp,hib,hic⟩,⟨hmx,hma,hmy,hmb,hmc⟩,hcx,hok,hnd,hdk⟩:=h;subst hxr;generalize hy:(T x).r=y at*
 have hids:(Tr.node x a (.node y b c)).ids=a.ids++x::(b.ids++y::c.ids):=rfl;rw[hids]at hnd hdk;obtain⟨hnd1,hndk,hdis⟩:=qa hnd;obtain⟨hna,hnd2,hda⟩:=qa hnd1;simp only[List.nodup_cons]at hnd2;obtain⟨hx1,hnd3⟩:=hnd2;obtain⟨hnb,hnd4,hdb⟩:=qa hnd3;simp only[List.nodup_cons]at hnd4;obtain⟨hy1,hnc⟩:=hnd4;simp only[List.mem_append,List.mem_cons,not_or]at hx1;obtain⟨hxb,hxy,hxc⟩:=hx1;have hxa:x∉a.ids:=λe=>hda x e (by simp);have hya:y∉a.ids:=λe=>hda y e (by simp);have hyb:y∉b.ids:=λe=>hdb y e (by simp);have hxk:x∉zC k:=hdis x (by simp);have hyk:y∉zC k:=hdis y (by simp);have hak:∀j∈a.ids,j∉zC k:=λj hj=>hdis j (by simp[hj]);have hbk:∀j∈b.ids,j∉zC k:=λj hj=>hdis j (by simp[hj]);have hck:∀j∈c.ids,j∉zC k:=λj hj=>hdis j (by simp[hj]);have hab:∀j∈a.ids,j∉b.ids:=λj hj e=>hda j hj (by simp[e]);have hac:∀j∈a.ids,j∉c.ids:=λj hj e=>hda j hj (by simp[e])
 have hbc:∀j∈b.ids,j∉c.ids:=λj hj e=>hdb j hj (by simp[e]);have dx:D x:=hdk x (by simp);have dy:D y:=hdk y (by simp);have dka:∀j∈a.ids,D j:=λj hj=>hdk j (by simp[hj]);have dkb:∀j∈b.ids,D j:=λj hj=>hdk j (by simp[hj]);have dkc:∀j∈c.ids,D j:=λj hj=>hdk j (by simp[hj]);have dkk:∀j∈zC k,D j:=λj hj=>hdk j (by simp[hj]);have hsk:s∉qE k:=λe=>hcx.ne s (zq e) rfl;have hbr:=hib.root;have har:=hia.root;have hcr:=hic.root;have hyl:(T y).l=s\/D (T y).l/\(T y).l≠x/\(T y).l≠y/\(T y).l≠s:=by
  rcases hbr with e|e
  ·exact Or.inl e
  ·exact Or.inr ⟨dkb _ e,λe2=>hxb (e2▸e),λe2=>hyb (e2▸e),hib.ne _ e⟩
 refine⟨rfl,hxs,hys,hxy,dx,dy,hyl,hxp,λT1 hT1=> ?_⟩;have t1x:T1 x=(T x).sr (T y).l:=by
  rw[hT1];rcases hyl with e|⟨_,e,_,e3⟩
  ·rw[if_pos e];exact NM.set_same _ _ _
  ·rw[if_neg e3,NM.set_ne _ _ (Ne.symm e)];exact NM.set_same _ _ _
 have t1o:∀j,j≠x->j≠(T y).l->T1 j=T j:=λj h1 h2=>by
  rw[hT1];split
  ·exact NM.set_ne _ _ h1
  ·rw[NM.set_ne _ _ h2,NM.set_ne _ _ h1]
 have t1y:T1 y=T y:=by
  rcases hyl with e|⟨_,_,e,_⟩
  ·rw[hT1,if_pos e];exact NM.set_ne _ _ (Ne.symm hxy)
  ·exact t1o y (Ne.symm hxy) (Ne.symm e)
 have t1m:∀j,(T1 j).b=(T j).b/\(T1 j).e=(T j).e/\(T1 j).mx=(T j).mx/\(T1 j).c=(T j).c:=λj=>by
  by_cases e1:j=x
  ·subst e1;rw[t1x];exact⟨rfl,rfl,rfl,rfl⟩
  ·by_cases e2:j=(T y).l
   ·rw[hT1];split
    ·rw[NM.set_ne _ _ e1];exact⟨rfl,rfl,rfl,rfl⟩
    ·rw[<-e2,NM.set_same];exact⟨rfl,rfl,rfl,rfl⟩
   ·rw[t1o j e1 e2];exact⟨rfl,rfl,rfl,rfl⟩
 have ylne:∀{t:Tr},(∀j∈t.ids,j∉b.ids)->(∀j∈t.ids,j≠s)->∀j∈t.ids,j≠(T y).l:=λ{t} h1 h2 j hj e=>by
  rcases hbr with e2|e2
  ·exact h2 j hj (e.trans e2)
  ·exact h1 j hj (e▸e2)
 have ta:∀j∈a.ids,T1 j=T j:=λj hj=>t1o j (λe=>hxa (e▸hj)) (ylne hab hia.ne j hj);have tc:∀j∈c.ids,T1 j=T j:=λj hj=>t1o j (λe=>hxc (e▸hj)) (ylne (λj hj e=>hbc j e hj) hic.ne j hj);have tk:∀j∈zC k,T1 j=T j:=λj hj=>t1o j (λe=>hxk (e▸hj)) (λe=>by
  rcases hbr with e2|e2
  ·exact hcx.ne j hj (e.trans e2)
  ·exact hbk _ e2 (e▸hj))
 have ptr_of:∀j,T1 j=T j->V4 (T j) (T1 j):=λj e=>by rw[e];exact⟨rfl,rfl,rfl⟩
 have ends_of:∀j,gw (T j) (T1 j):=λj=>⟨by rw[(t1m j).2.1],by rw[(t1m j).2.2.1]⟩;have mxTe:∀t,jg T1 t=jg T t:=λt=>zY λj _=>by rw[(t1m j).2.1]
 have isa1:Is T1 s x (T x).l a:=hia.frame λj hj=>ptr_of j (ta j hj);have isc1:Is T1 s y (T y).r c:=hic.frame λj hj=>ptr_of j (tc j hj);have isb1:Is T1 s x (T y).l b:=by
  cases b with
  |nil=>exact hib
  |node i bl br=>
   obtain⟨e1,e2,e3,e4,e5⟩:=hib;have hib':i≠x:=λe=>hxb (by simp[Tr.ids,e]);have nb:(bl.ids++i::br.ids).Nodup:=hnb;obtain⟨n1,n2,n3⟩:=qa nb;simp only[List.nodup_cons]at n2;have t1i:T1 i=(T i).sp x:=by rw[hT1,e1,if_neg e2];exact NM.set_same _ _ _|>.trans (by rw[e1]at*)
   refine⟨e1,e2,by rw[t1i],?_,?_⟩
   ·rw[t1i];exact e4.frame λj hj=>ptr_of j (t1o j (λe=>hxb (by simp[Tr.ids,<-e,hj])) (λe=>n3 j hj (by rw[e,e1];simp)))
   ·rw[t1i];exact e5.frame λj hj=>ptr_of j (t1o j (λe=>hxb (by simp[Tr.ids,<-e,hj])) (λe=>n2.1 (by rw[<-e1,<-e];exact hj)))
 have hok1:Q8 T1 k (some (T1 x).mx.1):=by rw[(t1m x).2.2.1,hmx];exact hok.frame λj _=>ends_of j
 have hcx1:Cx T1 s root q x k:=hcx.frame λj hj=>ptr_of j (tk j hj);have sp_a:∀z,(z=s\/z∈a.ids)->z≠x/\z∉qE k:=λz e=>by
  rcases e with e|e
  ·rw[e];exact⟨Ne.symm hxs,hsk⟩
  ·exact⟨λe2=>hxa (e2▸e),λe2=>hak _ e (zq e2)⟩
 have sp_b:∀z,(z=s\/z∈b.ids)->z≠x/\z∉qE k:=λz e=>by
  rcases e with e|e
  ·rw[e];exact⟨Ne.symm hxs,hsk⟩
  ·exact⟨λe2=>hxb (e2▸e),λe2=>hbk _ e (zq e2)⟩
 refine⟨⟨hxs,dx,by rw[t1x];exact hxp,?_,?_,hcx1,hok1,by simp only[List.nodup_cons];exact⟨hxk,hndk⟩,?_,?_,dkk⟩,λT2 hd2=> ?_⟩
 ·rw[t1x,<-mxTe a];exact isa1.hd (hma.frame λj _=>ends_of j) dka
 ·rw[t1x,<-mxTe b];exact isb1.hd (hmb.frame λj _=>ends_of j) dkb
 ·rw[t1x];exact sp_a _ har
 ·rw[t1x];exact sp_b _ hbr
 have m2:=hd2.all;have t2y:T2 y=T y:=(hd2.out y (Ne.symm hxy) (λe=>hyk (zq e))).trans t1y;have sub2:∀{t:Tr},(∀j∈t.ids,j≠x)->(∀j∈t.ids,j∉zC k)->∀j∈t.ids,T2 j=T1 j:=λ{t} h1 h2 j hj=>hd2.out j (h1 j hj) (λe=>h2 j hj (zq e));have xa':∀j∈a.ids,j≠x:=λj hj e=>hxa (e▸hj);have xb':∀j∈b.ids,j≠x:=λj hj e=>hxb (e▸hj);have xc':∀j∈c.ids,j≠x:=λj hj e=>hxc (e▸hj);have hcx2:Cx T2 s root q x k:=hcx1.frame λj _=>(m2 j).ptr;have px2:(T2 x).p=q:=by rw[(m2 x).2.2.2.2.1,t1x];exact hxp
 refine⟨⟨hcx2,px2,hxy,hxk,hyk,hxs,hys,dx,dy,hndk,dkk,⟨_,hd2.ok⟩⟩,λT4 root' hd4 T5 hT5=> ?_⟩;have t5y:T5 y=(T4 y).sl x:=by rw[hT5];exact NM.set_same _ _ _
 have t5o:∀j,j≠y->T5 j=T4 j:=λj hj=>by rw[hT5];exact NM.set_ne _ _ hj
 have t4:∀{t:Tr},(∀j∈t.ids,j≠x)->(∀j∈t.ids,j≠y)->(∀j∈t.ids,j∉zC k)->∀j∈t.ids,T5 j=T1 j:=λ{t} h1 h2 h3 j hj=>by rw[t5o j (h2 j hj),hd4.out j (h1 j hj) (h2 j hj) (λe=>h3 j hj (zq e)),sub2 h1 h3 j hj]
 have ya':∀j∈a.ids,j≠y:=λj hj e=>hya (e▸hj);have yb':∀j∈b.ids,j≠y:=λj hj e=>hyb (e▸hj);have yc':∀j∈c.ids,j≠y:=λj hj e=>hy1 (e▸hj);have t5a:=t4 xa' ya' hak;have t5b:=t4 xb' yb' hbk;have t5c:=t4 xc' yc' hck;have t5x:T5 x=(T2 x).sp y:=(t5o x hxy).trans hd4.xat
 have t4y:T4 y=(T y).sp q:=by rw[hd4.yat,t2y]
 have t5k:∀j∈zC k,T5 j=T4 j:=λj hj=>t5o j (λe=>hyk (e▸hj));have bec5:∀i,Z2 (T i) (T5 i):=λi=>by have b1:Z2 (T i) (T1 i):=⟨(t1m i).1,(t1m i).2.1,(t1m i).2.2.2⟩;refine((b1.trans (m2 i).bec).trans (hd4.bec i)).trans ?_;rw[hT5];exact vM T4 y ((T4 y).sl x) ⟨rfl,rfl,rfl⟩ i
 have mxT5:∀t,jg T5 t=jg T t:=λt=>zY λj _=>by rw[(bec5 j).2.1]
 have is5a:Is T5 s x (T5 x).l a:=by rw[t5x,show((T2 x).sp y).l=(T x).l from by show(T2 x).l=_;rw[(m2 x).2.2.1,t1x]];exact isa1.frame λj hj=>by rw[t5a j hj];exact⟨rfl,rfl,rfl⟩
 have is5b:Is T5 s x (T5 x).r b:=by rw[t5x,show((T2 x).sp y).r=(T y).l from by show(T2 x).r=_;rw[(m2 x).2.2.2.1,t1x]];exact isb1.frame λj hj=>by rw[t5b j hj];exact⟨rfl,rfl,rfl⟩
 have is5c:Is T5 s y (T5 y).r c:=by rw[t5y,t4y];exact isc1.frame λj hj=>by rw[t5c j hj];exact⟨rfl,rfl,rfl⟩
 have mx5a:xd T5 a:=hma.frame λj hj=>by rw[t5a j hj];exact ends_of j
 have mx5b:xd T5 b:=hmb.frame λj hj=>by rw[t5b j hj];exact ends_of j
 have mx5c:xd T5 c:=hmc.frame λj hj=>by rw[t5c j hj];exact ends_of j
 have mx5x:(T5 x).mx.1=xQ (T5 x).e.1 (jg T5 a) (jg T5 b):=by rw[mxT5,mxT5,t5x];show(T2 x).mx.1=xQ (T2 x).e.1 _ _;rw[hd2.mx,(m2 x).2.1]
 have cx5:Cx T5 s root' q y k:=hd4.cx.frame λj hj=>by rw[t5k j hj];exact⟨rfl,rfl,rfl⟩
 have ok5:Q8 T5 k (some (T5 y).mx.1):=by
  rw[t5y];have:(T4 y).mx.1=(T2 y).mx.1:=by rw[t4y,t2y]
  show Q8 T5 k (some (T4 y).mx.1);rw[this];exact hd4.ok.frame λj hj=>by rw[t5k j hj];exact⟨rfl,rfl⟩
 refine⟨⟨hys,dy,by rw[t5y,t4y],?_,?_,cx5,ok5,by simp only[List.nodup_cons];exact⟨hyk,hndk⟩,?_,?_,dkk⟩,λT6 hd6=> ?_⟩
 ·rw[t5y];exact Or.inr ⟨hxs,dx,rfl⟩
 ·rw[<-mxT5 c];exact is5c.hd mx5c dkc
 ·rw[t5y];exact⟨hxy,λe=>hxk (zq e)⟩
 ·rw[t5y,t4y];rcases hcr with e|e
  ·show(T y).r≠y/\(T y).r∉qE k;rw[e];exact⟨Ne.symm hys,hsk⟩
  ·exact⟨λe2=>hy1 (e2▸e),λe2=>hck _ e (zq e2)⟩
 ·have m6:=hd6.all;have t6:∀{t:Tr},(∀j∈t.ids,j≠y)->(∀j∈t.ids,j∉zC k)->∀j∈t.ids,T6 j=T5 j:=λ{t} h1 h2 j hj=>hd6.out j (h1 j hj) (λe=>h2 j hj (zq e));have t6x:T6 x=T5 x:=hd6.out x hxy (λe=>hxk (zq e));have mxT6:∀t,jg T6 t=jg T5 t:=λt=>zY λj _=>by rw[(m6 j).2.1]
  have fr6:∀{t:Tr} {q x},Is T5 s q x t->Is T6 s q x t:=λ{t q x} h=>h.frame λj _=>(m6 j).ptr;have mk6:∀{t:Tr},xd T5 t->(∀j∈t.ids,j≠y)->(∀j∈t.ids,j∉zC k)->xd T6 t:=λ{t} h h1 h2=>h.frame λj hj=>by rw[t6 h1 h2 j hj];exact⟨rfl,rfl⟩
  refine⟨⟨⟨rfl,hys,?_,⟨?_,hxs,?_,?_,?_⟩,?_⟩,⟨?_,⟨?_,mk6 mx5a ya' hak,mk6 mx5b yb' hbk⟩,mk6 mx5c yc' hck⟩,?_,?_,?_,?_⟩,λi=>(bec5 i).trans (m6 i).bec⟩
  ·rw[(m6 y).2.2.2.2.1,t5y,t4y]
  ·rw[(m6 y).2.2.1,t5y]
  ·rw[(m6 x).2.2.2.2.1,t5x]
  ·rw[t6x];exact fr6 is5a
  ·rw[t6x];exact fr6 is5b
  ·rw[(m6 y).2.2.2.1];exact fr6 is5c
  ·rw[hd6.mx,(m6 y).2.1];have:jg T6 (.node x a b)=some (T5 x).mx.1:=by rw[mxT6];simp only[jg];rw[mx5x]
   rw[this,mxT6,mxT5]
  ·rw[t6x,mx5x,mxT6,mxT6]
  ·exact cx5.frame λj _=>(m6 j).ptr
  ·have:jg T6 (.node y (.node x a b) c)=some (xQ (T5 y).e.1 (some (T5 x).mx.1) (jg T c)):=by
    rw[mxT6];simp only[jg];rw[<-mx5x,<-mxT5 c]
   rw[this];exact hd6.ok
  ·have p:((Tr.node y (.node x a b) c).ids++zC k)=(a.ids++x::(b.ids++y::c.ids))++zC k:=by simp[Tr.ids]
   rw[p];exact hnd
  ·have p:((Tr.node y (.node x a b) c).ids++zC k)=(a.ids++x::(b.ids++y::c.ids))++zC k:=by simp[Tr.ids]
   rw[p];exact hdk
theorem TG.rotR{s root:Nat}{k:List Fr}{a b c:Tr}(h:TG T s root q x D k (.node x (.node y c b) a)):
  (T x).l=y/\x≠s/\y≠s/\x≠y/\D x/\D y/\((T y).r=s\/D (T y).r/\(T y).r≠x/\(T y).r≠y/\(T y).r≠s)/\(T x).p=q/\
  ∀T1,T1=(if (T y).r=s then T.set x ((T x).sl (T y).r)else (T.set x ((T x).sl (T y).r)).set (T y).r ((T (T y).r).sp x))->
   U T1 s root q x D k (jg T b) (jg T a)/\
   ∀T2,jF T1 T2 x k (xQ (T1 x).e.1 (jg T b) (jg T a))->RP T2 s root q x y D k/\
   ∀T4 root',WA T2 T4 s root' q x y k->∀T5,T5=T4.set y ((T4 y).sr x)->U T5 s root' q y D k (jg T c) (some (T5 x).mx.1)/\
   ∀T6,jF T5 T6 y k (xQ (T5 y).e.1 (jg T c) (some (T5 x).mx.1))->
    TG T6 s root' q y D k (.node y c (.node x b a))/\(∀i,Z2 (T i) (T6 i)):=by
 obtain⟨⟨_,hxs,hxp,⟨hxr,hys,hyp,hic,hib⟩,hia⟩,⟨hmx,⟨hmy,hmc,hmb⟩,hma⟩,hcx,hok,hnd,hdk⟩:=h;subst hxr;generalize hy:(T x).l=y at*
 have hids:((Tr.node x (.node y c b) a).ids++zC k).Perm ((a.ids++x::(b.ids++y::c.ids))++zC k):=by refine List.Perm.append_right _ ?_;simp only[Tr.ids];refine List.perm_append_comm.trans ?_;simp only[List.cons_append];refine(List.perm_middle (a:=x) (l₁:=a.ids) (l₂:=c.ids++y::b.ids)).symm.trans ?_;refine List.Perm.append_left _ (List.Perm.cons _ ?_);refine List.perm_append_comm.trans ?_;simpa using(List.perm_middle (a:=y) (l₁:=b.ids) (l₂:=c.ids)).symm
 replace hnd:=hids.nodup_iff.1 hnd
 replace hdk:∀i∈(a.ids++x::(b.ids++y::c.ids))++zC k,D i:=λi hi=>hdk i (hids.mem_iff.2 hi)
 have hids2:((Tr.node y c (.node x b a)).ids++zC k).Perm ((a.ids++x::(b.ids++y::c.ids))++zC k):=by refine List.Perm.append_right _ ?_;simp only[Tr.ids];refine(List.perm_append_comm (l₁:=c.ids)).trans ?_;refine(List.Perm.cons y (List.Perm.append_right c.ids (List.perm_append_comm (l₁:=b.ids) (l₂:=x::a.ids)))).trans ?_;simp only[List.cons_append,List.append_assoc];refine(List.Perm.swap x y _).trans ?_;refine(List.Perm.cons x ?_).trans (List.perm_middle (a:=x) (l₁:=a.ids) (l₂:=b.ids++y::c.ids)).symm;have:=(List.perm_middle (a:=y) (l₁:=a.ids++b.ids) (l₂:=c.ids)).symm;simpa using this
 obtain⟨hnd1,hndk,hdis⟩:=qa hnd;obtain⟨hna,hnd2,hda⟩:=qa hnd1;simp only[List.nodup_cons]at hnd2;obtain⟨hx1,hnd3⟩:=hnd2;obtain⟨hnb,hnd4,hdb⟩:=qa hnd3;simp only[List.nodup_cons]at hnd4;obtain⟨hy1,hnc⟩:=hnd4;simp only[List.mem_append,List.mem_cons,not_or]at hx1;obtain⟨hxb,hxy,hxc⟩:=hx1;have hxa:x∉a.ids:=λe=>hda x e (by simp);have hya:y∉a.ids:=λe=>hda y e (by simp);have hyb:y∉b.ids:=λe=>hdb y e (by simp);have hxk:x∉zC k:=hdis x (by simp);have hyk:y∉zC k:=hdis y (by simp);have hak:∀j∈a.ids,j∉zC k:=λj hj=>hdis j (by simp[hj]);have hbk:∀j∈b.ids,j∉zC k:=λj hj=>hdis j (by simp[hj]);have hck:∀j∈c.ids,j∉zC k:=λj hj=>hdis j (by simp[hj]);have hab:∀j∈a.ids,j∉b.ids:=λj hj e=>hda j hj (by simp[e]);have hac:∀j∈a.ids,j∉c.ids:=λj hj e=>hda j hj (by simp[e]);have hbc:∀j∈b.ids,j∉c.ids:=λj hj e=>hdb j hj (by simp[e]);have dx:D x:=hdk x (by simp);have dy:D y:=hdk y (by simp)
 have dka:∀j∈a.ids,D j:=λj hj=>hdk j (by simp[hj]);have dkb:∀j∈b.ids,D j:=λj hj=>hdk j (by simp[hj]);have dkc:∀j∈c.ids,D j:=λj hj=>hdk j (by simp[hj]);have dkk:∀j∈zC k,D j:=λj hj=>hdk j (by simp[hj]);have hsk:s∉qE k:=λe=>hcx.ne s (zq e) rfl;have hbr:=hib.root;have har:=hia.root;have hcr:=hic.root;have hyl:(T y).r=s\/D (T y).r/\(T y).r≠x/\(T y).r≠y/\(T y).r≠s:=by
  rcases hbr with e|e
  ·exact Or.inl e
  ·exact Or.inr ⟨dkb _ e,λe2=>hxb (e2▸e),λe2=>hyb (e2▸e),hib.ne _ e⟩
 refine⟨rfl,hxs,hys,hxy,dx,dy,hyl,hxp,λT1 hT1=> ?_⟩;have t1x:T1 x=(T x).sl (T y).r:=by
  rw[hT1];rcases hyl with e|⟨_,e,_,e3⟩
  ·rw[if_pos e];exact NM.set_same _ _ _
  ·rw[if_neg e3,NM.set_ne _ _ (Ne.symm e)];exact NM.set_same _ _ _
 have t1o:∀j,j≠x->j≠(T y).r->T1 j=T j:=λj h1 h2=>by
  rw[hT1];split
  ·exact NM.set_ne _ _ h1
  ·rw[NM.set_ne _ _ h2,NM.set_ne _ _ h1]
 have t1y:T1 y=T y:=by
  rcases hyl with e|⟨_,_,e,_⟩
  ·rw[hT1,if_pos e];exact NM.set_ne _ _ (Ne.symm hxy)
  ·exact t1o y (Ne.symm hxy) (Ne.symm e)
 have t1m:∀j,(T1 j).b=(T j).b/\(T1 j).e=(T j).e/\(T1 j).mx=(T j).mx/\(T1 j).c=(T j).c:=λj=>by
  by_cases e1:j=x
  ·subst e1;rw[t1x];exact⟨rfl,rfl,rfl,rfl⟩
  ·by_cases e2:j=(T y).r
   ·rw[hT1];split
    ·rw[NM.set_ne _ _ e1];exact⟨rfl,rfl,rfl,rfl⟩
    ·rw[<-e2,NM.set_same];exact⟨rfl,rfl,rfl,rfl⟩
   ·rw[t1o j e1 e2];exact⟨rfl,rfl,rfl,rfl⟩
 have ylne:∀{t:Tr},(∀j∈t.ids,j∉b.ids)->(∀j∈t.ids,j≠s)->∀j∈t.ids,j≠(T y).r:=λ{t} h1 h2 j hj e=>by
  rcases hbr with e2|e2
  ·exact h2 j hj (e.trans e2)
  ·exact h1 j hj (e▸e2)
 have ta:∀j∈a.ids,T1 j=T j:=λj hj=>t1o j (λe=>hxa (e▸hj)) (ylne hab hia.ne j hj);have tc:∀j∈c.ids,T1 j=T j:=λj hj=>t1o j (λe=>hxc (e▸hj)) (ylne (λj hj e=>hbc j e hj) hic.ne j hj);have tk:∀j∈zC k,T1 j=T j:=λj hj=>t1o j (λe=>hxk (e▸hj)) (λe=>by
  rcases hbr with e2|e2
  ·exact hcx.ne j hj (e.trans e2)
  ·exact hbk _ e2 (e▸hj))
 have ptr_of:∀j,T1 j=T j->V4 (T j) (T1 j):=λj e=>by rw[e];exact⟨rfl,rfl,rfl⟩
 have ends_of:∀j,gw (T j) (T1 j):=λj=>⟨by rw[(t1m j).2.1],by rw[(t1m j).2.2.1]⟩;have mxTe:∀t,jg T1 t=jg T t:=λt=>zY λj _=>by rw[(t1m j).2.1]
 have isa1:Is T1 s x (T x).r a:=hia.frame λj hj=>ptr_of j (ta j hj);have isc1:Is T1 s y (T y).l c:=hic.frame λj hj=>ptr_of j (tc j hj);have isb1:Is T1 s x (T y).r b:=by
  cases b with
  |nil=>exact hib
  |node i bl br=>
   obtain⟨e1,e2,e3,e4,e5⟩:=hib;have hib':i≠x:=λe=>hxb (by simp[Tr.ids,e]);have nb:(bl.ids++i::br.ids).Nodup:=hnb;obtain⟨n1,n2,n3⟩:=qa nb;simp only[List.nodup_cons]at n2;have t1i:T1 i=(T i).sp x:=by rw[hT1,e1,if_neg e2];exact NM.set_same _ _ _|>.trans (by rw[e1]at*)
   refine⟨e1,e2,by rw[t1i],?_,?_⟩
   ·rw[t1i];exact e4.frame λj hj=>ptr_of j (t1o j (λe=>hxb (by simp[Tr.ids,<-e,hj])) (λe=>n3 j hj (by rw[e,e1];simp)))
   ·rw[t1i];exact e5.frame λj hj=>ptr_of j (t1o j (λe=>hxb (by simp[Tr.ids,<-e,hj])) (λe=>n2.1 (by rw[<-e1,<-e];exact hj)))
 have hok1:Q8 T1 k (some (T1 x).mx.1):=by rw[(t1m x).2.2.1,hmx];exact hok.frame λj _=>ends_of j
 have hcx1:Cx T1 s root q x k:=hcx.frame λj hj=>ptr_of j (tk j hj);have sp_a:∀z,(z=s\/z∈a.ids)->z≠x/\z∉qE k:=λz e=>by
  rcases e with e|e
  ·rw[e];exact⟨Ne.symm hxs,hsk⟩
  ·exact⟨λe2=>hxa (e2▸e),λe2=>hak _ e (zq e2)⟩
 have sp_b:∀z,(z=s\/z∈b.ids)->z≠x/\z∉qE k:=λz e=>by
  rcases e with e|e
  ·rw[e];exact⟨Ne.symm hxs,hsk⟩
  ·exact⟨λe2=>hxb (e2▸e),λe2=>hbk _ e (zq e2)⟩
 refine⟨⟨hxs,dx,by rw[t1x];exact hxp,?_,?_,hcx1,hok1,by simp only[List.nodup_cons];exact⟨hxk,hndk⟩,?_,?_,dkk⟩,λT2 hd2=> ?_⟩
 ·rw[t1x,<-mxTe b];exact isb1.hd (hmb.frame λj _=>ends_of j) dkb
 ·rw[t1x,<-mxTe a];exact isa1.hd (hma.frame λj _=>ends_of j) dka
 ·rw[t1x];exact sp_b _ hbr
 ·rw[t1x];exact sp_a _ har
 have m2:=hd2.all;have t2y:T2 y=T y:=(hd2.out y (Ne.symm hxy) (λe=>hyk (zq e))).trans t1y;have sub2:∀{t:Tr},(∀j∈t.ids,j≠x)->(∀j∈t.ids,j∉zC k)->∀j∈t.ids,T2 j=T1 j:=λ{t} h1 h2 j hj=>hd2.out j (h1 j hj) (λe=>h2 j hj (zq e));have xa':∀j∈a.ids,j≠x:=λj hj e=>hxa (e▸hj);have xb':∀j∈b.ids,j≠x:=λj hj e=>hxb (e▸hj);have xc':∀j∈c.ids,j≠x:=λj hj e=>hxc (e▸hj);have hcx2:Cx T2 s root q x k:=hcx1.frame λj _=>(m2 j).ptr;have px2:(T2 x).p=q:=by rw[(m2 x).2.2.2.2.1,t1x];exact hxp
 refine⟨⟨hcx2,px2,hxy,hxk,hyk,hxs,hys,dx,dy,hndk,dkk,⟨_,hd2.ok⟩⟩,λT4 root' hd4 T5 hT5=> ?_⟩;have t5y:T5 y=(T4 y).sr x:=by rw[hT5];exact NM.set_same _ _ _
 have t5o:∀j,j≠y->T5 j=T4 j:=λj hj=>by rw[hT5];exact NM.set_ne _ _ hj
 have t4:∀{t:Tr},(∀j∈t.ids,j≠x)->(∀j∈t.ids,j≠y)->(∀j∈t.ids,j∉zC k)->∀j∈t.ids,T5 j=T1 j:=λ{t} h1 h2 h3 j hj=>by rw[t5o j (h2 j hj),hd4.out j (h1 j hj) (h2 j hj) (λe=>h3 j hj (zq e)),sub2 h1 h3 j hj]
 have ya':∀j∈a.ids,j≠y:=λj hj e=>hya (e▸hj);have yb':∀j∈b.ids,j≠y:=λj hj e=>hyb (e▸hj);have yc':∀j∈c.ids,j≠y:=λj hj e=>hy1 (e▸hj);have t5a:=t4 xa' ya' hak;have t5b:=t4 xb' yb' hbk;have t5c:=t4 xc' yc' hck;have t5x:T5 x=(T2 x).sp y:=(t5o x hxy).trans hd4.xat
 have t4y:T4 y=(T y).sp q:=by rw[hd4.yat,t2y]
 have t5k:∀j∈zC k,T5 j=T4 j:=λj hj=>t5o j (λe=>hyk (e▸hj));have bec5:∀i,Z2 (T i) (T5 i):=λi=>by have b1:Z2 (T i) (T1 i):=⟨(t1m i).1,(t1m i).2.1,(t1m i).2.2.2⟩;refine((b1.trans (m2 i).bec).trans (hd4.bec i)).trans ?_;rw[hT5];exact vM T4 y ((T4 y).sr x) ⟨rfl,rfl,rfl⟩ i
 have mxT5:∀t,jg T5 t=jg T t:=λt=>zY λj _=>by rw[(bec5 j).2.1]
 have is5a:Is T5 s x (T5 x).r a:=by rw[t5x,show((T2 x).sp y).r=(T x).r from by show(T2 x).r=_;rw[(m2 x).2.2.2.1,t1x]];exact isa1.frame λj hj=>by rw[t5a j hj];exact⟨rfl,rfl,rfl⟩
 have is5b:Is T5 s x (T5 x).l b:=by rw[t5x,show((T2 x).sp y).l=(T y).r from by show(T2 x).l=_;rw[(m2 x).2.2.1,t1x]];exact isb1.frame λj hj=>by rw[t5b j hj];exact⟨rfl,rfl,rfl⟩
 have is5c:Is T5 s y (T5 y).l c:=by rw[t5y,t4y];exact isc1.frame λj hj=>by rw[t5c j hj];exact⟨rfl,rfl,rfl⟩
 have mx5a:xd T5 a:=hma.frame λj hj=>by rw[t5a j hj];exact ends_of j
 have mx5b:xd T5 b:=hmb.frame λj hj=>by rw[t5b j hj];exact ends_of j
 have mx5c:xd T5 c:=hmc.frame λj hj=>by rw[t5c j hj];exact ends_of j
 have mx5x:(T5 x).mx.1=xQ (T5 x).e.1 (jg T5 b) (jg T5 a):=by rw[mxT5,mxT5,t5x];show(T2 x).mx.1=xQ (T2 x).e.1 _ _;rw[hd2.mx,(m2 x).2.1]
 have cx5:Cx T5 s root' q y k:=hd4.cx.frame λj hj=>by rw[t5k j hj];exact⟨rfl,rfl,rfl⟩
 have ok5:Q8 T5 k (some (T5 y).mx.1):=by
  rw[t5y];have:(T4 y).mx.1=(T2 y).mx.1:=by rw[t4y,t2y]
  show Q8 T5 k (some (T4 y).mx.1);rw[this];exact hd4.ok.frame λj hj=>by rw[t5k j hj];exact⟨rfl,rfl⟩
 refine⟨⟨hys,dy,by rw[t5y,t4y],?_,?_,cx5,ok5,by simp only[List.nodup_cons];exact⟨hyk,hndk⟩,?_,?_,dkk⟩,λT6 hd6=> ?_⟩
 ·rw[<-mxT5 c];exact is5c.hd mx5c dkc
 ·rw[t5y];exact Or.inr ⟨hxs,dx,rfl⟩
 ·rw[t5y,t4y];rcases hcr with e|e
  ·show(T y).l≠y/\(T y).l∉qE k;rw[e];exact⟨Ne.symm hys,hsk⟩
  ·exact⟨λe2=>hy1 (e2▸e),λe2=>hck _ e (zq e2)⟩
 ·rw[t5y];exact⟨hxy,λe=>hxk (zq e)⟩
 ·have m6:=hd6.all;have t6:∀{t:Tr},(∀j∈t.ids,j≠y)->(∀j∈t.ids,j∉zC k)->∀j∈t.ids,T6 j=T5 j:=λ{t} h1 h2 j hj=>hd6.out j (h1 j hj) (λe=>h2 j hj (zq e));have t6x:T6 x=T5 x:=hd6.out x hxy (λe=>hxk (zq e));have mxT6:∀t,jg T6 t=jg T5 t:=λt=>zY λj _=>by rw[(m6 j).2.1]
  have fr6:∀{t:Tr} {q x},Is T5 s q x t->Is T6 s q x t:=λ{t q x} h=>h.frame λj _=>(m6 j).ptr;have mk6:∀{t:Tr},xd T5 t->(∀j∈t.ids,j≠y)->(∀j∈t.ids,j∉zC k)->xd T6 t:=λ{t} h h1 h2=>h.frame λj hj=>by rw[t6 h1 h2 j hj];exact⟨rfl,rfl⟩
  refine⟨⟨⟨rfl,hys,?_,?_,⟨?_,hxs,?_,?_,?_⟩⟩,⟨?_,mk6 mx5c yc' hck,⟨?_,mk6 mx5b yb' hbk,mk6 mx5a ya' hak⟩⟩,?_,?_,?_,?_⟩,λi=>(bec5 i).trans (m6 i).bec⟩
  ·rw[(m6 y).2.2.2.2.1,t5y,t4y]
  ·rw[(m6 y).2.2.1];exact fr6 is5c
  ·rw[(m6 y).2.2.2.1,t5y]
  ·rw[(m6 x).2.2.2.2.1,t5x]
  ·rw[t6x];exact fr6 is5b
  ·rw[t6x];exact fr6 is5a
  ·rw[hd6.mx,(m6 y).2.1];have:jg T6 (.node x b a)=some (T5 x).mx.1:=by rw[mxT6];simp only[jg];rw[mx5x]
   rw[this,mxT6,mxT5]
  ·rw[t6x,mx5x,mxT6,mxT6]
  ·exact cx5.frame λj _=>(m6 j).ptr
  ·have:jg T6 (.node y c (.node x b a))=some (xQ (T5 y).e.1 (jg T c) (some (T5 x).mx.1)):=by
    rw[mxT6];simp only[jg];rw[<-mx5x,<-mxT5 c]
   rw[this];exact hd6.ok
  ·exact hids2.nodup_iff.2 hnd
  ·exact λi hi=>hdk i (hids2.mem_iff.1 hi)
theorem TG.recol{s root:Nat}{k:List Fr}{t:Tr}(h:TG T s root q x D k t)(hp:∀i,V4 (T i) (T' i))(he:∀i,gw (T i) (T' i)):TG T' s root q x D k t:=
 ⟨h.is.frame λi _=>hp i,h.mx.frame λi _=>he i,h.cx.frame λi _=>hp i,by rw[zY (T:=T) λi _=>(he i).1];exact h.ok.frame λi _=>he i,h.nd,h.dk⟩
theorem TG.upL{s root i:Nat}{k:List Fr}{r t:Tr}(h:TG T s root q x D (.L i r::k) t):q=i/\(T i).l=x/\TG T s root (T i).p i D k (.node i t r):=by
 obtain⟨h1,h2,⟨rfl,c2,c3,c4,c5⟩,⟨o1,o2,o3⟩,h5,h6⟩:=h;refine⟨rfl,c3,⟨⟨rfl,c2,rfl,by rw[c3];exact h1,c4⟩,⟨o2,h2,o1⟩,c5,?_,?_,?_⟩⟩
 ·simp only[jg];rw[<-o2];exact o3
 ·have:(Tr.node q t r).ids++zC k=t.ids++zC (.L q r::k):=by simp[Tr.ids,zC,Fr.i,Fr.sib]
  rw[this];exact h5
 ·have:(Tr.node q t r).ids++zC k=t.ids++zC (.L q r::k):=by simp[Tr.ids,zC,Fr.i,Fr.sib]
  rw[this];exact h6
theorem Gw(i:Nat)(t r:Tr)(k:List Fr):((Tr.node i r t).ids++zC k).Perm (t.ids++zC (.R i r::k)):=by
 have e:t.ids++zC (.R i r::k)=(t.ids++(i::r.ids))++zC k:=by simp[zC,Fr.i,Fr.sib]
 rw[e];refine List.Perm.append_right _ ?_;simp only[Tr.ids];refine(List.perm_middle (a:=i) (l₁:=r.ids) (l₂:=t.ids)).trans ?_;refine(List.Perm.cons i List.perm_append_comm).trans ?_;exact(List.perm_middle (a:=i) (l₁:=t.ids) (l₂:=r.ids)).symm
theorem TG.upR{s root i:Nat}{k:List Fr}{r t:Tr}(h:TG T s root q x D (.R i r::k) t):q=i/\(T i).r=x/\TG T s root (T i).p i D k (.node i r t):=by
 obtain⟨h1,h2,⟨rfl,c2,c3,c4,c5⟩,⟨o1,o2,o3⟩,h5,h6⟩:=h;refine⟨rfl,c3,⟨⟨rfl,c2,rfl,c4,by rw[c3];exact h1⟩,⟨o2,o1,h2⟩,c5,?_,?_,?_⟩⟩
 ·simp only[jg];rw[<-o2];exact o3
 ·exact(Gw q t r k).nodup_iff.2 h5
 ·exact λj hj=>h6 j ((Gw q t r k).mem_iff.1 hj)
theorem TG.downL{s root i:Nat}{k:List Fr}{l r:Tr}(h:TG T s root q x D k (.node i l r)):x=i/\TG T s root i (T i).l D (.L i r::k) l:=by
 obtain⟨⟨rfl,h2,h3,h4,h5⟩,⟨m1,m2,m3⟩,hc,ho,hn,hd⟩:=h;refine⟨rfl,⟨h4,m2,⟨rfl,h2,rfl,h5,by rw[h3];exact hc⟩,⟨m3,m1,?_⟩,?_,?_⟩⟩
 ·simp only[jg]at ho;rw[m1];exact ho
 ·have:(Tr.node x l r).ids++zC k=l.ids++zC (.L x r::k):=by simp[Tr.ids,zC,Fr.i,Fr.sib]
  rw[<-this];exact hn
 ·have:(Tr.node x l r).ids++zC k=l.ids++zC (.L x r::k):=by simp[Tr.ids,zC,Fr.i,Fr.sib]
  rw[<-this];exact hd
theorem TG.downR{s root i:Nat}{k:List Fr}{l r:Tr}(h:TG T s root q x D k (.node i l r)):x=i/\TG T s root i (T i).r D (.R i l::k) r:=by
 obtain⟨⟨rfl,h2,h3,h4,h5⟩,⟨m1,m2,m3⟩,hc,ho,hn,hd⟩:=h;refine⟨rfl,⟨h5,m3,⟨rfl,h2,rfl,h4,by rw[h3];exact hc⟩,⟨m2,m1,?_⟩,?_,?_⟩⟩
 ·simp only[jg]at ho;rw[m1];exact ho
 ·exact(Gw x r l k).nodup_iff.1 hn
 ·exact λj hj=>hd j ((Gw x r l k).mem_iff.2 hj)
theorem Cx.last{s root:Nat}:∀{k:List Fr} {q x:Nat},Cx T s root q x k->(qE k).getLast? =if k=[]then none else some root
 |[],_,_,_=>rfl
 |[.L i r],q,x,h=>by obtain⟨_,_,_,_,h5⟩:=h;simp[qE,Fr.i,h5.1]
 |[.R i r],q,x,h=>by obtain⟨_,_,_,_,h5⟩:=h;simp[qE,Fr.i,h5.1]
 |.L i r::f::k,q,x,h=>by obtain⟨_,_,_,_,h5⟩:=h;have:=h5.last;simpa[qE]using this
 |.R i r::f::k,q,x,h=>by obtain⟨_,_,_,_,h5⟩:=h;have:=h5.last;simpa[qE]using this
theorem Cx.root_eq{s root root':Nat}{k:List Fr}{q' x':Nat}(h:Cx T s root q x k)(h':Cx T' s root' q' x' k)(hk:k≠[]):root'=root:=by have a:=h.last;have b:=h'.last;rw[if_neg hk]at a b;rw[a]at b;exact(Option.some.inj b).symm
theorem Cx.root_mem{s root:Nat}{k:List Fr}(h:Cx T s root q x k)(hk:k≠[]):root∈qE k:=by have a:=h.last;rw[if_neg hk]at a;exact List.mem_of_getLast? a
structure FX(T:NM)(s root z:Nat)(D:Nat->Prop)(k:List Fr)(l r:Tr):Prop where
 tg:∃q,TG T s root q z D k (.node z l r)
 rb:k≠[]->(T root).c=false
variable{z:Nat}
theorem FX.grand{s root:Nat}{k:List Fr}{l r:Tr}(h:FX T s root z D (f::k) l r)(hc:(T f.i).c=true):∃g k2,k=g::k2:=by
 obtain⟨q,htg⟩:=h.tg;cases k with
 |cons g k2=>exact⟨g,k2,rfl⟩
 |nil=>have h1:=h.rb (by simp);have h2:=htg.cx.last;simp[qE]at h2;rw[h2]at hc;rw[hc]at h1;cases h1
def xA(T T':NM):Prop:=∀i,(T' i).b=(T i).b/\(T' i).e=(T i).e/\(T' i).mx=(T i).mx/\(T' i).l=(T i).l/\(T' i).r=(T i).r/\(T' i).p=(T i).p
theorem xA.refl(T:NM):xA T T:=λ_=>⟨rfl,rfl,rfl,rfl,rfl,rfl⟩
theorem xA.set(h:xA T T')(i:Nat)(c:Bool):xA T (T'.set i ((T' i).sc c)):=λj=>by
 by_cases e:j=i
 ·subst e;rw[NM.set_same];exact h j
 ·rw[NM.set_ne _ _ e];exact h j
theorem TG.onlyC{s root:Nat}{k:List Fr}{t:Tr}(h:TG T s root q x D k t)(hc:xA T T'):TG T' s root q x D k t:=
 h.recol (λi=>⟨(hc i).2.2.2.1,(hc i).2.2.2.2.1,(hc i).2.2.2.2.2⟩) λi=>⟨by rw[(hc i).2.1],by rw[(hc i).2.2.1]⟩
theorem TG.up{s root:Nat}{k:List Fr}{t:Tr}(h:TG T s root q x D (f::k) t):q=f.i/\TG T s root (T f.i).p f.i D k (Yg f t):=by
 cases f with
 |L i r=>exact⟨h.upL.1,h.upL.2.2⟩
 |R i r=>exact⟨h.upR.1,h.upR.2.2⟩
theorem FX.red{s root:Nat}{g:Fr}{k:List Fr}{l r:Tr}(h:FX T s root z D (f::g::k) l r)(hc:xA T T')(ho:∀i∈qE k,(T' i).c=(T i).c):
  ∃l' r',FX T' s root g.i D k l' r'/\Tr.node g.i l' r'=Yg g (Yg f (.node z l r)):=by
 obtain⟨q,htg⟩:=h.tg;have h2:=(htg.up.2).up.2;have:∃l' r',Yg g (Yg f (.node z l r))=.node g.i l' r':=by cases g<;>exact⟨_,_,rfl⟩
 obtain⟨l',r',e⟩:=this;rw[e]at h2;refine⟨l',r',⟨⟨_,h2.onlyC hc⟩,λhk=> ?_⟩,e.symm⟩;rw[ho root (h2.cx.root_mem hk)];exact h.rb (by simp)
abbrev Iv:=Bytes×Bytes
def jK(q v:Iv):Int:=if zy q.1 v.1<0/\zy q.2 v.1<=0 then -1 else if zy q.1 v.2>=0 then 1 else 0
def Q9(v:Iv):Prop:=zy v.1 v.2<0
theorem yI(a:Bytes): ¬zy a a<0:=by rw[Df];omega
theorem Q9.ne{v:Iv}(h:Q9 v):v.1≠[]:=λe=>by unfold Q9 zy at h;rw[if_pos e]at h;split at h<;>omega
theorem Gx{a b:Bytes}(h:zy a b<0):a≠[]:=Q9.ne (v:=(a,b)) h
theorem xm{q v:Iv}(hq:Q9 q):jK q v=0↔zy v.1 q.2<0/\zy q.1 v.2<0:=by
 unfold Q9 at hq;unfold jK;have n1:=yN q.2 v.1;have n2:=yN q.1 v.1;constructor
 ·intro h;split at h
  ·omega
  ·split at h
   ·omega
   ·rename_i h1 h2;refine⟨?_,by omega⟩;by_cases e:zy q.1 v.1<0
    ·have: ¬zy q.2 v.1<=0:=λk=>h1 ⟨e,k⟩;omega
    ·exact ZM (b:=q.1) (by omega) hq
 ·rintro⟨h1,h2⟩;rw[if_neg (by omega),if_neg (by omega)]
def Jn(k:Bytes)(v:Iv):Prop:= ¬zy k v.1<0/\zy k v.2<0
def yO(L:List Iv)(q:Iv):Prop:=∀k,Jn k q->∃v∈L,Jn k v
def vh(L:List Iv):Prop:=L.Pairwise λa b=> ¬zy b.1 a.1<0
def Up(m e:Bytes):Bytes:=if zy e m>0 then e else m
def zX:Bytes->List Iv->Bool×Bytes
 |me,[]=>(true,me)
 |me,v::r=>if zy me v.1<0 then (false,me)else zX (Up me v.2) r
def jI(q:Iv)(L:List Iv):Bool:=
 match L.filter λv=>jK q v=0 with
 |[]=>false
 |v::r=>(zX v.2 r).1 && decide (zy (zX v.2 r).2 q.2>=0) && decide (zy v.1 q.1<=0)
theorem x9(m e:Bytes): ¬zy (Up m e) m<0/\¬zy (Up m e) e<0:=by
 unfold Up;split
 ·rename_i h;exact⟨by omega,yI _⟩
 ·rename_i h;exact⟨yI _,by have:=yN e m;omega⟩
theorem zcT{m e k:Bytes}(h:zy k (Up m e)<0):zy k m<0\/zy k e<0:=by
 unfold Up at h;split at h
 ·exact Or.inr h
 ·exact Or.inl h
theorem Yh:∀(r:List Iv) (me:Bytes),(zX me r).1=true->∀k,¬zy k me<0->zy k (zX me r).2<0->∃v∈r,Jn k v
 |[],me,_,k,h1,h2=>absurd h2 h1
 |v::r,me,h,k,h1,h2=>by
  unfold zX at h h2;by_cases hb:zy me v.1<0
  ·rw[if_pos hb]at h;cases h
  ·rw[if_neg hb]at h h2;by_cases hk:zy k v.2<0
   ·exact⟨v,by simp,λe=>(ja hb h1) e,hk⟩
   ·obtain⟨u,hu,hin⟩:=Yh r _ h k (λe=>by
     rcases zcT e with e|e
     ·exact h1 e
     ·exact hk e) h2
    exact⟨u,by simp[hu],hin⟩
theorem KQ{q:Iv}{L:List Iv}(hL:∀k,Jn k q->∃v∈L,Jn k v)(hs:vh L)(hov:∀v∈L,zy v.1 q.2<0):∀(r P:List Iv) (me:Bytes),L=P++r->(∀p∈P,¬zy me p.2<0)->zy q.1 me<0->
  (zX me r).1=true/\zy (zX me r).2 q.2>=0
 |[],P,me,hP,hme,hq=>by refine⟨rfl,?_⟩;show zy me q.2>=0;apply Int.not_lt.1;intro h;have hn:=yN me q.1;obtain⟨v,hv,h1,h2⟩:=hL me ⟨by have:=yN q.1 me;omega,h⟩;rw[hP,List.append_nil]at hv;exact hme v hv h2
 |v::r,P,me,hP,hme,hq=>by
  unfold zX;have hb: ¬zy me v.1<0:=λh=>by
   have hvq:=hov v (by rw[hP];simp);obtain⟨u,hu,h1,h2⟩:=hL me ⟨by have:=yN q.1 me;omega,ZL h hvq⟩;rw[hP]at hu;rcases List.mem_append.1 hu with hu|hu
   ·exact hme u hu h2
   ·have hle: ¬zy u.1 v.1<0:=by
     rcases List.mem_cons.1 hu with e|e
     ·rw[e];exact yI _
     ·have:=hs;unfold vh at this;rw[hP,List.pairwise_append]at this;exact(List.pairwise_cons.1 this.2.1).1 u e
    exact h1 (y_ h hle)
  rw[if_neg hb];have hge:=x9 me v.2;refine KQ hL hs hov r (P++[v]) (Up me v.2) (by rw[hP];simp) (λp hp=> ?_) (y_ hq hge.1);rcases List.mem_append.1 hp with hp|hp
  ·exact ja (hme p hp) hge.1
  ·rw[List.mem_singleton.1 hp];exact hge.2
variable{L:List Iv}
theorem gz{q:Iv}(hq:Q9 q)(hs:vh L):jI q L=true↔yO L q:=by
 have hsf:vh (L.filter λv=>jK q v=0):=List.Pairwise.filter _ hs;have hfm:∀v,v∈(L.filter λv=>jK q v=0)↔v∈L/\(zy v.1 q.2<0/\zy q.1 v.2<0):=λv=>by rw[List.mem_filter,decide_eq_true_eq,xm hq]
 have hcov:yO L q->∀k,Jn k q->∃v∈(L.filter λv=>jK q v=0),Jn k v:=λh k hk=>by obtain⟨v,hv,h1,h2⟩:=h k hk;refine⟨v,(hfm v).2 ⟨hv,ZM h1 hk.2,?_⟩,h1,h2⟩;exact ZM hk.1 h2
 unfold jI;generalize(L.filter λv=>decide (jK q v=0))=F at*
 cases F with
 |nil=>refine⟨λh=>by simp at h,λh=> ?_⟩;obtain⟨v,hv,_⟩:=hcov h q.1 ⟨yI _,hq⟩;simp at hv
 |cons v r=>
  simp only[Bool.and_eq_true,decide_eq_true_eq];constructor
  ·rintro⟨⟨h1,h2⟩,h3⟩ k ⟨k1,k2⟩;have hv:=(hfm v).1 (by simp);by_cases hk:zy k v.2<0
   ·refine⟨v,hv.1,λe=>k1 (y_ e ?_),hk⟩;have:=yN v.1 q.1;omega
   ·obtain⟨u,hu,hin⟩:=Yh r v.2 h1 k hk (y_ k2 (by omega));exact⟨u,((hfm u).1 (by simp[hu])).1,hin⟩
  ·intro h;have hv:=(hfm v).1 (by simp);have:=KQ (q:=q) (L:=v::r) (hcov h) hsf (λu hu=>((hfm u).1 hu).2.1) r [v] v.2 rfl (λp hp=>by rw[List.mem_singleton.1 hp];exact yI _) hv.2.2;refine⟨this,?_⟩;obtain⟨u,hu,h1,h2⟩:=hcov h q.1 ⟨yI _,hq⟩;have hle: ¬zy u.1 v.1<0:=by
    rcases List.mem_cons.1 hu with e|e
    ·rw[e];exact yI _
    ·exact(List.pairwise_cons.1 hsf).1 u e
   have:=ja hle h1;have n:=yN v.1 q.1;omega
theorem Xz:∀(b k:Bytes),zt b (k++[0])<0↔¬zt k b<0
 |[],[]=>by simp[zt]
 |[],_::_=>by simp[zt]
 |x::b,[]=>by
  have h0: ¬x<0:=by simp
  by_cases h:(0:UInt8)<x
  ·cases b<;>simp[zt,h]
  ·have e:x=0:=by
    apply UInt8.toNat_inj.1;have:=UInt8.lt_iff_toNat_lt (a:=0) (b:=x);simp at this;simp at h;exact h▸rfl
   subst e;cases b<;>simp[zt]
 |x::b,y::k=>by
  simp only[List.cons_append,zt];by_cases h:x<y
  ·have: ¬y<x:=UInt8.lt_asymm h;simp[h,this]
  ·by_cases h2:y<x
   ·simp[h,h2]
   ·simp[h,h2];simpa using Xz b k
theorem Jo{b k:Bytes}(hb:b≠[])(hk:k≠[]):zy b (k++[0])<0↔¬zy k b<0:=by unfold zy;rw[if_neg hb,if_neg (by simp),if_neg hk,if_neg hb];exact Xz b k
def pt(k:Bytes):Iv:=(k,k++[0])
theorem KR{k:Bytes}(hk:k≠[]):Q9 (pt k):=(Jo hk hk).2 (yI _)
theorem zcu{k:Bytes}(hk:k≠[]){v:Iv}(hv:Q9 v):jK (pt k) v=0↔Jn k v:=by rw[xm (KR hk)];show zy v.1 (k++[0])<0/\zy k v.2<0↔_;rw[Jo hv.ne hk];rfl
theorem zcv{k j:Bytes}(hk:k≠[]):Jn j (pt k)↔j=k:=by
 unfold Jn pt;constructor
 ·rintro⟨h1,h2⟩;have hj:j≠[]:=Gx h2;have h3:=(Jo hj hk).1 h2;have h4:=yN j k
  replace h1: ¬zy j k<0:=h1
  exact xa (by omega)
 ·rintro rfl;exact⟨yI _,KR hk⟩
def jh(T:NM)(i:Nat):Iv:=((T i).b.1,(T i).e.1)
def zK(T:NM)(l:List Nat):List Iv:=l.map (jh T)
theorem jw(T:NM)(a b:List Nat):zK T (a++b)=zK T a++zK T b:=List.map_append ..
structure vw(L:List Iv):Prop where
 sorted:vh L
 valid:∀v∈L,Q9 v
theorem vw.app{a b:List Iv}(h:vw (a++b)):vw a/\vw b/\∀x∈a,∀y∈b,¬zy y.1 x.1<0:=by have hs:=h.sorted;unfold vh at hs;rw[List.pairwise_append]at hs;exact⟨⟨hs.1,λv hv=>h.valid v (by simp[hv])⟩,⟨hs.2.1,λv hv=>h.valid v (by simp[hv])⟩,hs.2.2⟩
theorem vw.node{l r:Tr}(h:vw (zK T (Tr.node x l r).ids)):vw (zK T l.ids)/\vw (zK T r.ids)/\Q9 (jh T x)/\(∀i∈l.ids,¬zy (T x).b.1 (T i).b.1<0)/\(∀i∈r.ids,¬zy (T i).b.1 (T x).b.1<0):=by simp only[Tr.ids,zK,List.map_append,List.map_cons]at h;obtain⟨h1,h2,h3⟩:=h.app;have h4:=h2.sorted;unfold vh at h4;rw[List.pairwise_cons]at h4;refine⟨h1,⟨h4.2,λv hv=>h2.valid v (List.mem_cons_of_mem _ hv)⟩,h2.valid _ (by simp),λi hi=>h3 (jh T i) (List.mem_map.2 ⟨i,hi,rfl⟩) (jh T x) (by simp),λi hi=>h4.1 (jh T i) (List.mem_map.2 ⟨i,hi,rfl⟩)⟩
theorem zcU(e:Bytes)(a b:Option Bytes): ¬zy (xQ e a b) e<0/\(∀m,a=some m->¬zy (xQ e a b) m<0)/\(∀m,b=some m->¬zy (xQ e a b) m<0):=by
 have key:xQ e a b=(match b with|none=>(match a with|none=>e|some a=>Up e a)|some b=>Up (match a with|none=>e|some a=>Up e a) b):=by unfold xQ Up;cases a<;>cases b<;>rfl
 rw[key];cases a with
 |none=>
  cases b with
  |none=>exact⟨yI _,(λm h=>by cases h),(λm h=>by cases h)⟩
  |some b=>exact⟨(x9 e b).1,(λm h=>by cases h),λm h=>by cases h;exact(x9 e b).2⟩
 |some a=>
  cases b with
  |none=>exact⟨(x9 e a).1,(λm h=>by cases h;exact(x9 e a).2),λm h=>by cases h⟩
  |some b=>exact⟨ja (x9 e a).1 (x9 _ b).1,(λm h=>by cases h;exact ja (x9 e a).2 (x9 _ b).1),λm h=>by cases h;exact(x9 _ b).2⟩
theorem zbv(e:Bytes)(a b:Option Bytes):xQ e a b=e\/a=some (xQ e a b)\/b=some (xQ e a b):=by unfold xQ;cases a<;>cases b<;>simp only<;>(repeat' split)<;>simp
theorem xB{T:NM}:∀{t:Tr} {m:Bytes},jg T t=some m->(∀i∈t.ids,¬zy m (T i).e.1<0)/\∃i∈t.ids,(T i).e.1=m
 |.nil,_,h=>by cases h
 |.node x l r,m,h=>by
  simp only[jg,Option.some.injEq]at h;have hg:=zcU (T x).e.1 (jg T l) (jg T r);have ho:=zbv (T x).e.1 (jg T l) (jg T r);rw[h]at hg ho;refine⟨λi hi=> ?_,?_⟩
  ·simp only[Tr.ids,List.mem_append,List.mem_cons]at hi;rcases hi with hi|rfl|hi
   ·cases hl:jg T l with
    |none=>cases l with
     |nil=>simp[Tr.ids]at hi
     |node=>simp[jg]at hl
    |some n=>exact ja ((xB hl).1 i hi) (hg.2.1 n hl)
   ·exact hg.1
   ·cases hl:jg T r with
    |none=>cases r with
     |nil=>simp[Tr.ids]at hi
     |node=>simp[jg]at hl
    |some n=>exact ja ((xB hl).1 i hi) (hg.2.2 n hl)
  ·rcases ho with e|e|e
   ·exact⟨x,by simp[Tr.ids],e.symm⟩
   ·obtain⟨i,hi,hm⟩:=(xB e).2;exact⟨i,by simp[Tr.ids,hi],hm⟩
   ·obtain⟨i,hi,hm⟩:=(xB e).2;exact⟨i,by simp[Tr.ids,hi],hm⟩
def Ov(T:NM)(q:Iv)(i:Nat):Prop:=jK q (jh T i)=0
instance(T:NM)(q:Iv):DecidablePred (Ov T q):=λi=>by unfold Ov;exact inferInstance
theorem Is.left{s p:Nat}{l r:Tr}(h:Is T s p x (.node x l r))(hm:xd T (.node x l r)):((T x).l=s/\l=.nil)\/((T x).l≠s/\jg T l=some (T (T x).l).mx.1/\(T x).l∈l.ids):=by
 obtain⟨_,_,_,h4,_⟩:=h;cases l with
 |nil=>exact Or.inl ⟨h4,rfl⟩
 |node i a b=>obtain⟨e,e2,_⟩:=h4;right;rw[e];exact⟨e2,by simp only[jg];rw[hm.2.1.1],by simp[Tr.ids]⟩
theorem WB{s p:Nat}{l r:Tr}{q:Iv}(h:Is T s p x (.node x l r))(hm:xd T (.node x l r))(hg:vw (zK T (Tr.node x l r).ids))(hq:Q9 q)(hx: ¬Ov T q x):
  (((T x).l≠s/\zy (T (T x).l).mx.1 q.1>0)->((∃i∈(Tr.node x l r).ids,Ov T q i)↔∃i∈l.ids,Ov T q i))/\(¬((T x).l≠s/\zy (T (T x).l).mx.1 q.1>0)->((∃i∈(Tr.node x l r).ids,Ov T q i)↔∃i∈r.ids,Ov T q i)):=by
 obtain⟨_,_,g3,g4,g5⟩:=hg.node;have mem:∀i,i∈(Tr.node x l r).ids↔i∈l.ids\/i=x\/i∈r.ids:=λi=>by simp[Tr.ids]
 have ov:∀i,Ov T q i↔zy (T i).b.1 q.2<0/\zy q.1 (T i).e.1<0:=λi=>xm hq;constructor
 ·rintro⟨c1,c2⟩;constructor
  ·rintro⟨i,hi,ho⟩;rcases(mem i).1 hi with hi|rfl|hi
   ·exact⟨i,hi,ho⟩
   ·exact absurd ho hx
   ·rcases h.left hm with⟨e,_⟩|⟨_,e,_⟩
    ·exact absurd e c1
    ·obtain⟨j,hj,he⟩:=(xB e).2;refine⟨j,hj,(ov j).2 ⟨?_,by rw[he];have:=yN (T (T x).l).mx.1 q.1;omega⟩⟩;exact ZM (ja (g4 j hj) (g5 i hi)) ((ov i).1 ho).1
  ·rintro⟨i,hi,ho⟩;exact⟨i,(mem i).2 (Or.inl hi),ho⟩
 ·intro c;constructor
  ·rintro⟨i,hi,ho⟩;rcases(mem i).1 hi with hi|rfl|hi
   ·exfalso;rcases h.left hm with⟨_,e⟩|⟨e1,e,_⟩
    ·rw[e]at hi;simp[Tr.ids]at hi
    ·have h1:=(xB e).1 i hi;have h2:=((ov i).1 ho).2;apply c;refine⟨e1,?_⟩;have:=y_ h2 h1;have:=yN (T (T x).l).mx.1 q.1;omega
   ·exact absurd ho hx
   ·exact⟨i,hi,ho⟩
  ·rintro⟨i,hi,ho⟩;exact⟨i,(mem i).2 (Or.inr (Or.inr hi)),ho⟩
def xq(T:NM)(q:Iv)(l:List Nat):List Nat:=l.filter λi=>Ov T q i
theorem Gy{q:Iv}{l:List Nat}(h:∀i∈l,¬Ov T q i):xq T q l=[]:=by unfold xq;rw[List.filter_eq_nil_iff];intro i hi;simpa using h i hi
theorem KS{q:Iv}{l r:Tr}:xq T q (Tr.node x l r).ids=xq T q l.ids++(if Ov T q x then [x]else [])++xq T q r.ids:=by unfold xq;simp only[Tr.ids,List.filter_append,List.filter_cons];by_cases h:Ov T q x<;>simp[h]
theorem Uq{q:Iv}{l r:Tr}(hg:vw (zK T (Tr.node x l r).ids))(hq:Q9 q)(hv:jK q (jh T x)<0):xq T q (Tr.node x l r).ids=xq T q l.ids:=by
 obtain⟨_,_,g3,g4,g5⟩:=hg.node;rw[KS,if_neg (by unfold Ov;omega),Gy (l:=r.ids),List.append_nil,List.append_nil];intro i hi ho;have ho:=(xm hq).1 ho;unfold jK at hv;split at hv
 ·rename_i h;have:zy (jh T i).1 (jh T x).1<0:=y_ ho.1 (by have:=yN q.2 (jh T x).1;omega);exact g5 i hi this
 ·split at hv<;>omega
theorem Ur{q:Iv}{s p:Nat}{l r:Tr}(hm:xd T (.node x l r))(hg:vw (zK T (Tr.node x l r).ids))(hq:Q9 q)(hv:jK q (jh T x)>0)(hc:jK ((T x).b.1,(T x).mx.1) q≠0):xq T q (Tr.node x l r).ids=[]:=by
 obtain⟨_,_,g3,g4,g5⟩:=hg.node;have hmx:jg T (.node x l r)=some (T x).mx.1:=by simp only[jg];rw[hm.1]
 have hsp:=xB hmx;have hqe: ¬zy q.1 (jh T x).2<0:=by
  unfold jK at hv;split at hv
  ·omega
  ·split at hv
   ·omega
   ·omega
 have hVm:Q9 ((T x).b.1,(T x).mx.1):=y_ g3 (hsp.1 x (by simp[Tr.ids]));refine Gy λi hi ho=> ?_;have ho:=(xm hq).1 ho;refine hc ((xm hVm).2 ⟨?_,?_⟩)
 ·exact y_ ho.2 (hsp.1 i hi)
 ·exact ZL (y_ g3 hqe) hq
theorem Us{q:Iv}{l r:Tr}(hv:jK q (jh T x)=0):xq T q (Tr.node x l r).ids=xq T q l.ids++x::xq T q r.ids:=by rw[KS,if_pos (show Ov T q x from hv)];simp
theorem Ut{q:Iv}{l r:Tr}(hv:jK q (jh T x)>0):xq T q (Tr.node x l r).ids=xq T q l.ids++xq T q r.ids:=by rw[KS,if_neg (by unfold Ov;omega)];simp
theorem gB(T:NM)(q:Iv)(l:List Nat):zK T (xq T q l)=(zK T l).filter λv=>jK q v=0:=by unfold zK xq Ov;rw[List.filter_map];rfl
def goL(v x:Iv):Prop:=zy v.1 x.1<0\/(zy v.1 x.1=0/\zy v.2 x.2<0)
instance(v x:Iv):Decidable (goL v x):=by unfold goL;exact inferInstance
structure J9(T:NM)(v:Iv)(k:List Fr):Prop where
 l:∀i∈Jl k,¬zy v.1 (T i).b.1<0
 r:∀i∈Jm k,¬zy (T i).b.1 v.1<0
theorem J9.nil(T:NM)(v:Iv):J9 T v []:=⟨λi hi=>by simp[Jl]at hi,λi hi=>by simp[Jm]at hi⟩
theorem J9.goL{v:Iv}{k:List Fr}{l r:Tr}(h:J9 T v k)(hg:vw (zK T (Tr.node x l r).ids))(hv:goL v (jh T x)):J9 T v (.L x r::k):=by
 obtain⟨_,_,g3,g4,g5⟩:=hg.node;have hle: ¬zy (T x).b.1 v.1<0:=by
  have n:=yN v.1 (T x).b.1;rcases hv with e|⟨e,_⟩
  ·replace e:zy v.1 (T x).b.1<0:=e;omega
  ·replace e:zy v.1 (T x).b.1=0:=e;omega
 refine⟨h.l,λi hi=> ?_⟩;simp only[Jm,List.cons_append,List.mem_cons,List.mem_append]at hi;rcases hi with rfl|hi|hi
 ·exact hle
 ·exact ja hle (g5 i hi)
 ·exact h.r i hi
theorem J9.goR{v:Iv}{k:List Fr}{l r:Tr}(h:J9 T v k)(hg:vw (zK T (Tr.node x l r).ids))(hv: ¬Go.Proofs.YtbmdoinjkligiaaGreat.goL v (jh T x)):J9 T v (.R x l::k):=by
 obtain⟨_,_,g3,g4,g5⟩:=hg.node;have hle: ¬zy v.1 (T x).b.1<0:=λe=>hv (Or.inl e);refine⟨λi hi=> ?_,h.r⟩;simp only[Jl,List.mem_append,List.mem_singleton]at hi;rcases hi with hi|hi|rfl
 ·exact h.l i hi
 ·exact ja (g4 i hi) hle
 ·exact hle
theorem J9.good{v:Iv}{k:List Fr}(h:J9 T v k)(hv:Q9 v)(hg:vw (zK T (Jl k++Jm k))):vw (zK T (Jl k)++v::zK T (Jm k)):=by
 rw[jw]at hg;obtain⟨h1,h2,h3⟩:=hg.app;constructor
 ·unfold vh;rw[List.pairwise_append,List.pairwise_cons];refine⟨h1.sorted,⟨λy hy=> ?_,h2.sorted⟩,λx hx y hy=> ?_⟩
  ·obtain⟨i,hi,rfl⟩:=List.mem_map.1 hy;exact h.r i hi
  ·obtain⟨i,hi,rfl⟩:=List.mem_map.1 hx;rcases List.mem_cons.1 hy with rfl|hy
   ·exact h.l i hi
   ·exact h3 _ hx y hy
 ·intro y hy;rcases List.mem_append.1 hy with hy|hy
  ·exact h1.valid y hy
  ·rcases List.mem_cons.1 hy with rfl|hy
   ·exact hv
   ·exact h2.valid y hy
def yw(b e:EV)(s p:Nat):Nd:=⟨b,e,e,s,s,p,true⟩
abbrev yl(D:Nat->Prop)(z:Nat):Nat->Prop:=λi=>D i\/i=z
theorem TG.hangNil{s root:Nat}(h:TG T s root q x D [] .nil)(hz:z≠s)(b e:EV):q=s/\TG (T.set z (yw b e s q)) s z q z (yl D z) [] (.node z .nil .nil):=by
 obtain⟨h1,h2,h3,h4,h5,h6⟩:=h;refine⟨h3.2,⟨⟨rfl,hz,?_,?_,?_⟩,⟨?_,trivial,trivial⟩,⟨rfl,h3.2⟩,trivial,by simp[Tr.ids,zC],λi hi=> ?_⟩⟩
 ·rw[NM.set_same];rfl
 ·rw[NM.set_same];exact rfl
 ·rw[NM.set_same];exact rfl
 ·rw[NM.set_same];rfl
 ·right;simpa[Tr.ids,zC]using hi
theorem TG.hangL{s root i:Nat}{k:List Fr}{r:Tr}(h:TG T s root q x D (.L i r::k) .nil)(hz:z≠s)(hzk:z∉zC (.L i r::k))(b e:EV):
  q=i/\q≠s/\D q/\q≠z/\∃q' ml mr,∀T2,T2=(T.set z (yw b e s q)).set q ((T q).sl z)->U T2 s root q' q (yl D z) k ml mr/\
   ∀T3,jF T2 T3 q k (xQ (T2 q).e.1 ml mr)->TG T3 s root q z (yl D z) (.L i r::k) (.node z .nil .nil)/\(T3 z).c=true/\(T3 z).b=b/\(T3 z).e=e/\∀j,j≠z->Z2 (T j) (T3 j):=by
 obtain⟨_,_,⟨hq,hi,hil,hir,hcx⟩,⟨ho1,ho2,ho3⟩,hnd,hdk⟩:=h;subst hq;have hzk2:=hzk;have hnd2:(q::(r.ids++zC k)).Nodup:=hnd;simp only[qH,not_or]at hzk2;simp only[List.nodup_cons,List.mem_append,not_or,List.nodup_append]at hnd2;obtain⟨hz1,hz2,hz3⟩:=hzk2;obtain⟨⟨hq1,hq2⟩,hr1,hk1,hrk⟩:=hnd2;have hrq:(T q).r=s\/(T q).r∈r.ids:=hir.root;have hsk:s∉qE k:=λe=>hcx.ne s (zq e) rfl;have hD:∀j∈zC (.L q r::k),D j:=λj hj=>hdk j (by simpa[Tr.ids]using hj);refine⟨rfl,hi,hD q (qH.2 (Or.inl rfl)),Ne.symm hz1,(T q).p,some e.1,jg T r,λT2 hT2=> ?_⟩;have t2q:T2 q=(T q).sl z:=by rw[hT2];exact NM.set_same _ _ _
 have t2z:T2 z=yw b e s q:=by rw[hT2,NM.set_ne _ _ hz1];exact NM.set_same _ _ _
 have t2o:∀j,j≠q->j≠z->T2 j=T j:=λj h1 h2=>by rw[hT2,NM.set_ne _ _ h1,NM.set_ne _ _ h2]
 have hrr:∀j∈r.ids,T2 j=T j:=λj hj=>t2o j (λe=>hq1 (e▸hj)) (λe=>hz2 (e▸hj));have hkk:∀j∈zC k,T2 j=T j:=λj hj=>t2o j (λe=>hq2 (e▸hj)) (λe=>hz3 (e▸hj));have ptr_of:∀j,T2 j=T j->V4 (T j) (T2 j):=λj e=>by rw[e];exact⟨rfl,rfl,rfl⟩
 have ends_of:∀j,T2 j=T j->gw (T j) (T2 j):=λj e=>by rw[e];exact⟨rfl,rfl⟩
 refine⟨⟨hi,Or.inl (hD q (qH.2 (Or.inl rfl))),by rw[t2q],?_,?_,?_,?_,?_,?_,?_,λj hj=>Or.inl (hD j (qH.2 (Or.inr (Or.inr hj))))⟩,λT3 hd=> ?_⟩
 ·rw[t2q];exact Or.inr ⟨hz,Or.inr rfl,by rw[t2z];rfl⟩
 ·have:=(hir.frame λj hj=>ptr_of j (hrr j hj)).hd (D:=yl D z) (ho1.frame λj hj=>ends_of j (hrr j hj)) λj hj=>Or.inl (hD j (qH.2 (Or.inr (Or.inl hj))));rw[t2q,<-zY (T':=T2) (t:=r) λj hj=>by rw[hrr j hj]];exact this
 ·exact hcx.frame λj hj=>ptr_of j (hkk j hj)
 ·rw[t2q];exact ho3.frame λj hj=>ends_of j (hkk j hj)
 ·simp only[List.nodup_cons];exact⟨hq2,hk1⟩
 ·rw[t2q];exact⟨hz1,λe=>hz3 (zq e)⟩
 ·rw[t2q];rcases hrq with e|e
  ·show(T q).r≠q/\(T q).r∉qE k;rw[e];exact⟨Ne.symm hi,hsk⟩
  ·exact⟨λe2=>hq1 (e2▸e),λe2=>hrk _ e _ (zq e2) rfl⟩
 ·have d3z:T3 z=yw b e s q:=(hd.out z hz1 (λe=>hz3 (zq e))).trans t2z;have eq:=hd.all q;have h3r:∀j∈r.ids,T3 j=T j:=λj hj=>(hd.out j (λe=>hq1 (e▸hj)) (λe=>hrk _ hj _ (zq e) rfl)).trans (hrr j hj);refine⟨⟨⟨rfl,hz,by rw[d3z];rfl,by rw[d3z];exact rfl,by rw[d3z];exact rfl⟩,⟨by rw[d3z];rfl,trivial,trivial⟩,⟨rfl,hi,?_,?_,?_⟩,⟨?_,?_,?_⟩,?_,?_⟩,by rw[d3z];rfl,by rw[d3z];rfl,by rw[d3z];rfl,λj hj=> ?_⟩
  ·rw[eq.2.2.1,t2q]
  ·rw[eq.2.2.2.1,t2q];exact hir.frame λj hj=>by rw[h3r j hj];exact⟨rfl,rfl,rfl⟩
  ·rw[eq.2.2.2.2.1,t2q];exact hcx.frame λj hj=>by rw[<-hkk j hj];exact(hd.all j).ptr
  ·exact ho1.frame λj hj=>by rw[h3r j hj];exact⟨rfl,rfl⟩
  ·have e1:jg T3 (.node z .nil .nil)=some e.1:=by simp only[jg];rw[d3z];rfl
   rw[e1,hd.mx,eq.2.1,zY (T:=T) (T':=T3) (t:=r) λj hj=>by rw[h3r j hj]]
  ·rw[hd.mx];exact hd.ok
  ·show(z::zC (.L q r::k)).Nodup;rw[List.nodup_cons];exact⟨hzk,hnd⟩
  ·intro j hj;rcases List.mem_cons.1 (show j∈z::zC (.L q r::k)from hj)with e|e
   ·exact Or.inr e
   ·exact Or.inl (hD j e)
  ·have b1:Z2 (T j) (T2 j):=by
    rw[hT2];by_cases e1:j=q
    ·rw[e1,NM.set_same];exact⟨rfl,rfl,rfl⟩
    ·rw[NM.set_ne _ _ e1,NM.set_ne _ _ hj];exact Z2.refl _
   exact b1.trans (hd.all j).bec
theorem TG.hangR{s root i:Nat}{k:List Fr}{r:Tr}(h:TG T s root q x D (.R i r::k) .nil)(hz:z≠s)(hzk:z∉zC (.R i r::k))(b e:EV):
  q=i/\q≠s/\D q/\q≠z/\∃q' ml mr,∀T2,T2=(T.set z (yw b e s q)).set q ((T q).sr z)->U T2 s root q' q (yl D z) k ml mr/\
   ∀T3,jF T2 T3 q k (xQ (T2 q).e.1 ml mr)->TG T3 s root q z (yl D z) (.R i r::k) (.node z .nil .nil)/\(T3 z).c=true/\(T3 z).b=b/\(T3 z).e=e/\∀j,j≠z->Z2 (T j) (T3 j):=by
 obtain⟨_,_,⟨hq,hi,hil,hir,hcx⟩,⟨ho1,ho2,ho3⟩,hnd,hdk⟩:=h;subst hq;have hzk2:=hzk;have hnd2:(q::(r.ids++zC k)).Nodup:=hnd;simp only[qz,not_or]at hzk2;simp only[List.nodup_cons,List.mem_append,not_or,List.nodup_append]at hnd2;obtain⟨hz1,hz2,hz3⟩:=hzk2;obtain⟨⟨hq1,hq2⟩,hr1,hk1,hrk⟩:=hnd2;have hrq:(T q).l=s\/(T q).l∈r.ids:=hir.root;have hsk:s∉qE k:=λe=>hcx.ne s (zq e) rfl;have hD:∀j∈zC (.R q r::k),D j:=λj hj=>hdk j (by simpa[Tr.ids]using hj);refine⟨rfl,hi,hD q (qz.2 (Or.inl rfl)),Ne.symm hz1,(T q).p,jg T r,some e.1,λT2 hT2=> ?_⟩;have t2q:T2 q=(T q).sr z:=by rw[hT2];exact NM.set_same _ _ _
 have t2z:T2 z=yw b e s q:=by rw[hT2,NM.set_ne _ _ hz1];exact NM.set_same _ _ _
 have t2o:∀j,j≠q->j≠z->T2 j=T j:=λj h1 h2=>by rw[hT2,NM.set_ne _ _ h1,NM.set_ne _ _ h2]
 have hrr:∀j∈r.ids,T2 j=T j:=λj hj=>t2o j (λe=>hq1 (e▸hj)) (λe=>hz2 (e▸hj));have hkk:∀j∈zC k,T2 j=T j:=λj hj=>t2o j (λe=>hq2 (e▸hj)) (λe=>hz3 (e▸hj));have ptr_of:∀j,T2 j=T j->V4 (T j) (T2 j):=λj e=>by rw[e];exact⟨rfl,rfl,rfl⟩
 have ends_of:∀j,T2 j=T j->gw (T j) (T2 j):=λj e=>by rw[e];exact⟨rfl,rfl⟩
 refine⟨⟨hi,Or.inl (hD q (qz.2 (Or.inl rfl))),by rw[t2q],?_,?_,?_,?_,?_,?_,?_,λj hj=>Or.inl (hD j (qz.2 (Or.inr (Or.inr hj))))⟩,λT3 hd=> ?_⟩
 ·have:=(hir.frame λj hj=>ptr_of j (hrr j hj)).hd (D:=yl D z) (ho1.frame λj hj=>ends_of j (hrr j hj)) λj hj=>Or.inl (hD j (qz.2 (Or.inr (Or.inl hj))));rw[t2q,<-zY (T':=T2) (t:=r) λj hj=>by rw[hrr j hj]];exact this
 ·rw[t2q];exact Or.inr ⟨hz,Or.inr rfl,by rw[t2z];rfl⟩
 ·exact hcx.frame λj hj=>ptr_of j (hkk j hj)
 ·rw[t2q];exact ho3.frame λj hj=>ends_of j (hkk j hj)
 ·simp only[List.nodup_cons];exact⟨hq2,hk1⟩
 ·rw[t2q];rcases hrq with e|e
  ·show(T q).l≠q/\(T q).l∉qE k;rw[e];exact⟨Ne.symm hi,hsk⟩
  ·exact⟨λe2=>hq1 (e2▸e),λe2=>hrk _ e _ (zq e2) rfl⟩
 ·rw[t2q];exact⟨hz1,λe=>hz3 (zq e)⟩
 ·have d3z:T3 z=yw b e s q:=(hd.out z hz1 (λe=>hz3 (zq e))).trans t2z;have eq:=hd.all q;have h3r:∀j∈r.ids,T3 j=T j:=λj hj=>(hd.out j (λe=>hq1 (e▸hj)) (λe=>hrk _ hj _ (zq e) rfl)).trans (hrr j hj);refine⟨⟨⟨rfl,hz,by rw[d3z];rfl,by rw[d3z];exact rfl,by rw[d3z];exact rfl⟩,⟨by rw[d3z];rfl,trivial,trivial⟩,⟨rfl,hi,?_,?_,?_⟩,⟨?_,?_,?_⟩,?_,?_⟩,by rw[d3z];rfl,by rw[d3z];rfl,by rw[d3z];rfl,λj hj=> ?_⟩
  ·rw[eq.2.2.2.1,t2q]
  ·rw[eq.2.2.1,t2q];exact hir.frame λj hj=>by rw[h3r j hj];exact⟨rfl,rfl,rfl⟩
  ·rw[eq.2.2.2.2.1,t2q];exact hcx.frame λj hj=>by rw[<-hkk j hj];exact(hd.all j).ptr
  ·exact ho1.frame λj hj=>by rw[h3r j hj];exact⟨rfl,rfl⟩
  ·have e1:jg T3 (.node z .nil .nil)=some e.1:=by simp only[jg];rw[d3z];rfl
   rw[e1,hd.mx,eq.2.1,zY (T:=T) (T':=T3) (t:=r) λj hj=>by rw[h3r j hj]]
  ·rw[hd.mx];exact hd.ok
  ·show(z::zC (.R q r::k)).Nodup;rw[List.nodup_cons];exact⟨hzk,hnd⟩
  ·intro j hj;rcases List.mem_cons.1 (show j∈z::zC (.R q r::k)from hj)with e|e
   ·exact Or.inr e
   ·exact Or.inl (hD j e)
  ·have b1:Z2 (T j) (T2 j):=by
    rw[hT2];by_cases e1:j=q
    ·rw[e1,NM.set_same];exact⟨rfl,rfl,rfl⟩
    ·rw[NM.set_ne _ _ e1,NM.set_ne _ _ hj];exact Z2.refl _
   exact b1.trans (hd.all j).bec
def XA:Value:=.iface 99 (.agg #[])
def J_(c:Bool):Value:=.int .i64 (if c then 1 else 0)
def j8(n:Nd):Array Value:= #[n.b.2,n.e.2,XA,n.mx.2,ptr n.l,ptr n.r,ptr n.p,J_ n.c]
def zbw(w:World)(D:Nat->Prop)(T:NM):Prop:=∀i,D i->w.heap[i]? =some (.cells (j8 (T i)) 279 (0,0))
def WC(w:World)(a:Nat):Prop:=∃c T,w.heap[a]? =some (.cells c T (0,0))
variable{a:Nat}
theorem WC.setCell{w:World}(h:WC w a)(b o:Nat)(v:Value):WC (w.setCell ⟨b,o,none⟩ v) a:=by
 obtain⟨c,T,h⟩:=h;by_cases e:a=b
 ·subst e;exact⟨_,T,heap_setCell_same w a o _ _ _ h⟩
 ·exact⟨c,T,by rw[Below.heap_setCell _ _ _ _ e];exact h⟩
variable{b:Nat}
theorem ZN{w:World}(ha:WC w a)(hb:WC w b):(binOp .eql 274 (ptr a) (ptr b)).run prog w=.ok (.bool (decide (a=b))) w:=by
 obtain⟨_,_,ha⟩:=ha;obtain⟨_,_,hb⟩:=hb;obtain⟨j,hj,hj2⟩:∃j,prog.info? 279=some j/\j.size=8:=by
  have h:(prog.info? 279).map (λi=>i.size)=some 8:=by kernel_rfl
  cases hi:prog.info? 279 with
  |none=>rw[hi]at h;cases h
  |some j=>rw[hi]at h;exact⟨j,rfl,by simpa using h⟩
 by_cases e:a=b
 ·subst e;rw[decide_eq_true rfl];exact run_eql_ptr_same w _ (by kernel_rfl) hj
 ·rw[decide_eq_false e];exact run_eql_ptr_other w (by kernel_rfl) hj (by omega) (λh=>e (by injection h)) ha hb
variable{P:Program}
theorem YM(w:World){tp te:TypeId}{j:TypeInfo}{a b:Addr}{ca cb:Array Value}{ta tb:TypeId}(hp:P.underlying tp=some (.pointer te))(hte:P.info? te=some j)(hsz:j.size≠0)
  (hne:a≠b)(ha:w.heap[a.block]? =some (.cells ca ta (0,0)))(hb:w.heap[b.block]? =some (.cells cb tb (0,0))):
  (binOp .neq tp (.pointer (some a)) (.pointer (some b))).run P w=.ok (.bool true) w:=by
 have h:∀d:Nat,(Op.equalIn (d+1) tp (.pointer (some a)) (.pointer (some b))).run P w=.ok false w:=λd=>by simp[Op.equalIn,run_underlying hp,sizeOf,typeInfo,hte,hsz,run_sameAddr_other w hne ha hb]
 simp only[binOp];simp[Op.equal,Op.maxDepth,h 9999]
theorem xR{w:World}(ha:WC w a)(hb:WC w b):(binOp .neq 274 (ptr a) (ptr b)).run prog w=.ok (.bool (!decide (a=b))) w:=by
 obtain⟨_,_,ha⟩:=ha;obtain⟨_,_,hb⟩:=hb;obtain⟨j,hj,hj2⟩:∃j,prog.info? 279=some j/\j.size=8:=by
  have h:(prog.info? 279).map (λi=>i.size)=some 8:=by kernel_rfl
  cases hi:prog.info? 279 with
  |none=>rw[hi]at h;cases h
  |some j=>rw[hi]at h;exact⟨j,rfl,by simpa using h⟩
 by_cases e:a=b
 ·subst e;rw[decide_eq_true rfl];exact Lib.run_neq_ptr_same w _ (by kernel_rfl) hj
 ·rw[decide_eq_false e];exact YM w (by kernel_rfl) hj (by omega) (λh=>e (by injection h)) ha hb
structure qX where
 w:World
 r:Rd
structure TW(S:Nat->Prop)(w0:qX)(w:World)(D:Nat->Prop)(T:NM)(s:Nat):Prop where
 mod:zo S w0.w w
 nodes:zbw w D T
 ev:∀i,kL w0.r (T i).b/\kL w0.r (T i).e/\kL w0.r (T i).mx
 dS:∀i,D i->S i
 cs:WC w s
 rd:w0.r.le (im S w0.w)
variable{S:Nat->Prop}{w0:qX}
theorem TW.le{w:World}{s:Nat}(h:TW S w0 w D T s):w0.r.le w.cell? :=λ_ _ ha=>by obtain⟨h1,h2⟩:=zi.1 (h.rd _ _ ha);exact h.mod.cell h1 h2
theorem TW.drew{w:World}{s:Nat}(h:TW S w0 w D T s):TW S w0 w.drew D T s:=⟨h.mod.drew,h.nodes,h.ev,h.dS,h.cs,h.rd⟩
theorem TW.drewN{w:World}{s:Nat}(h:TW S w0 w D T s)(n:Nat):TW S w0 (w.drewN n) D T s:=⟨h.mod.drewN n,h.nodes,h.ev,h.dS,h.cs,h.rd⟩
theorem TW.cells{w:World}{s:Nat}(h:TW S w0 w D T s){i:Nat}(hi:D i):
  w.cell? ⟨i,0,none⟩=some (T i).b.2/\w.cell? ⟨i,1,none⟩=some (T i).e.2/\w.cell? ⟨i,3,none⟩=some (T i).mx.2/\w.cell? ⟨i,4,none⟩=some (ptr (T i).l)/\w.cell? ⟨i,5,none⟩=some (ptr (T i).r)/\w.cell? ⟨i,6,none⟩=some (ptr (T i).p)/\w.cell? ⟨i,7,none⟩=some (J_ (T i).c):=by
 have:=h.nodes i hi;refine⟨?_,?_,?_,?_,?_,?_,?_⟩<;>rw[cell_of_row w i _ _ _ (0,0) this]<;>rfl
theorem TW.cel{w:World}{s:Nat}(h:TW S w0 w D T s){i:Nat}(hi:D i):WC w i:=⟨_,_,h.nodes i hi⟩
theorem TW.frozen{w:World}{s:Nat}(h:TW S w0 w D T s){i:Nat}(hi:D i)(k:Nat):w.frozen? ⟨i,k,none⟩=false:=by simp[World.frozen?,h.nodes i hi]
theorem TW.set{w:World}{s:Nat}(h:TW S w0 w D T s){i:Nat}(hi:D i)(k:Nat)(v:Value)(n:Nd)(hn:(j8 (T i)).setIfInBounds k v=j8 n)(he:kL w0.r n.b/\kL w0.r n.e/\kL w0.r n.mx):
  TW S w0 (w.setCell ⟨i,k,none⟩ v) D (T.set i n) s where
 mod:=h.mod.setCell (p:=⟨i,k,none⟩) (λ_=>h.dS i hi) v
 nodes j hj:=by
  by_cases e:j=i
  ·subst e;rw[heap_setCell_same w j k _ _ _ (h.nodes j hj),NM.set_same,hn]
  ·rw[Below.heap_setCell _ _ _ _ e,NM.set_ne _ _ e];exact h.nodes j hj
 ev j:=by
  by_cases e:j=i
  ·subst e;rw[NM.set_same];exact he
  ·rw[NM.set_ne _ _ e];exact h.ev j
 dS:=h.dS
 cs:=h.cs.setCell _ _ _
 rd:=h.rd
theorem TW.setL{w:World}{s:Nat}(h:TW S w0 w D T s){i:Nat}(hi:D i)(x:Nat):TW S w0 (w.setCell ⟨i,4,none⟩ (ptr x)) D (T.set i ((T i).sl x)) s:=h.set hi 4 _ _ rfl (h.ev i)
theorem TW.setR{w:World}{s:Nat}(h:TW S w0 w D T s){i:Nat}(hi:D i)(x:Nat):TW S w0 (w.setCell ⟨i,5,none⟩ (ptr x)) D (T.set i ((T i).sr x)) s:=h.set hi 5 _ _ rfl (h.ev i)
theorem TW.setP{w:World}{s:Nat}(h:TW S w0 w D T s){i:Nat}(hi:D i)(x:Nat):TW S w0 (w.setCell ⟨i,6,none⟩ (ptr x)) D (T.set i ((T i).sp x)) s:=h.set hi 6 _ _ rfl (h.ev i)
theorem TW.setC{w:World}{s:Nat}(h:TW S w0 w D T s){i:Nat}(hi:D i)(c:Bool):TW S w0 (w.setCell ⟨i,7,none⟩ (J_ c)) D (T.set i ((T i).sc c)) s:=h.set hi 7 _ _ rfl (h.ev i)
theorem TW.setM{w:World}{s:Nat}(h:TW S w0 w D T s){i:Nat}(hi:D i)(e:EV)(he:kL w0.r e):TW S w0 (w.setCell ⟨i,3,none⟩ e.2) D (T.set i ((T i).sm e)) s:=h.set hi 3 _ _ rfl ⟨(h.ev i).1,(h.ev i).2.1,he⟩
theorem yF(v:Value)(W:World):(method 608 283 v "Compare").run prog W=.ok (187,v) W:=by kernel_rfl
theorem Gz{w:World}{s:Nat}(h:TW S w0 w D T s)(x:Nat):kL w0.r (Yu T s x):=by have h1:=(h.ev (T x).l).2.2;have h2:=(h.ev (T x).r).2.2;have h3:=(h.ev x).2.1;unfold Yu;dsimp only;split<;>split<;>assumption
def yR(T:NM)(s x:Nat):Bool:=if x=s then false else (T x).c
theorem Yv{w:World}{s:Nat}(h:TW S w0 w D T s)(x:Nat)(hx:x=s\/D x):
  Calls prog 247 #[ptr x,ptr s] w λe w'=>e=.returned (J_ (yR T s x))/\w=w':=by
 by_cases hs:x=s
 ·subst hs;have hpe:=ZN h.cs h.cs;rw[decide_eq_true rfl]at hpe;have hc:yR T x x=false:=if_pos rfl;rw[hc];clear h hx hc;go_enter func247,ntmps247;go_wp2;go_returns;exact⟨rfl,rfl⟩
 ·obtain⟨_,_,_,_,_,_,c7⟩:=h.cells (hx.resolve_left hs);have hpe:=ZN (h.cel (hx.resolve_left hs)) h.cs;rw[decide_eq_false hs]at hpe;have hc:yR T s x=(T x).c:=if_neg hs;rw[hc];clear h hx hc;go_enter func247,ntmps247;go_wp2;go_returns;exact⟨rfl,rfl⟩
theorem kL.iface{e:EV}(h:kL r e):∃p n c,e.2=.iface 283 (.slice p n c)/\Bs r e.1 (.slice p n c):=by obtain⟨bv,h1,h2⟩:=h;obtain⟨p,n,c,rfl,_⟩:=h2.shape;exact⟨p,n,c,h1,h2⟩
theorem jT{w:World}(hle:w0.r.le w.cell?){a b:EV}{av:Value}(ha:kL w0.r a)(hb:kL w0.r b)(hav:a.2=.iface 283 av):
  Calls prog 187 #[av,b.2] w λe w'=>e=.returned (.int .i64 (zy a.1 b.1))/\w=w':=by
 obtain⟨u,h1,h2⟩:=ha;obtain⟨v,h3,h4⟩:=hb;rw[hav]at h1;cases h1;rw[h3];exact yH (h2.mono hle) (h4.mono hle)
theorem zbx(T:NM)(s x:Nat):Yu T s x=(if (T x).r≠s/\zy (T (T x).r).mx.1 (if (T x).l≠s/\zy (T (T x).l).mx.1 (T x).e.1>0 then (T (T x).l).mx else (T x).e).1>0 then (T (T x).r).mx else (if (T x).l≠s/\zy (T (T x).l).mx.1 (T x).e.1>0 then (T (T x).l).mx else (T x).e)):=rfl
variable{c:Nat}
theorem JK{w:World}{s:Nat}{m:Option Bytes}(h:TW S w0 w D T s)(hc:Hd T s D c m):
  (c=s/\(binOp .neq 274 (ptr c) (ptr s)).run prog w=.ok (.bool false) w)\/(c≠s/\(binOp .neq 274 (ptr c) (ptr s)).run prog w=.ok (.bool true) w/\
   ∃p n cc,(T c).mx.2=.iface 283 (.slice p n cc)/\w.cell? ⟨c,3,none⟩=some (.iface 283 (.slice p n cc))/\kL w0.r (T c).mx):=by
 rcases hc with⟨h1,_⟩|⟨h1,h2,_⟩
 ·left;refine⟨h1,?_⟩;rw[h1];have:=xR h.cs h.cs
  rwa [decide_eq_true rfl]at this
 ·right;refine⟨h1,?_,?_⟩
  ·have:=xR (h.cel h2) h.cs
   rwa [decide_eq_false h1]at this
  ·obtain⟨p,n,cc,e,_⟩:=(h.ev c).2.2.iface;exact⟨p,n,cc,e,by rw[(h.cells h2).2.2.1,e],(h.ev c).2.2⟩
variable{wr:World}
theorem zcV{T1:NM}{s root q1 x1:Nat}{k k1:List Fr}{ml1 mr1:Option Bytes}{m:Bytes}(hT:TW S w0 wr D T1 s)(hu:U T1 s root q1 x1 D k1 ml1 mr1)
  (hk:∀T',jF T1 T' x1 k1 (xQ (T1 x1).e.1 ml1 mr1)->jF T T' x k m):
  (zy (T1 x1).mx.1 (Yu T1 s x1).1=0->jF T T1 x k m)/\
  ∃T2,TW S w0 (wr.setCell ⟨x1,3,none⟩ (Yu T1 s x1).2) D T2 s/\(((T1 x1).p=s/\jF T T2 x k m)\/
   (∃q2 k2 ml2 mr2,U T2 s root q2 (T1 x1).p D k2 ml2 mr2/\k2.length<k1.length/\∀T',jF T2 T' (T1 x1).p k2 (xQ (T2 (T1 x1).p).e.1 ml2 mr2)->jF T T' x k m)):=by
 refine⟨λh=>hk _ (hu.same h),_,hT.setM hu.dx _ (Gz hT x1),?_⟩;rw[hu.p];cases k1 with
 |nil=>obtain⟨h1,h2⟩:=hu.last;exact Or.inl ⟨h2,hk _ h1⟩
 |cons f k1=>obtain⟨h1,q',ml',mr',h2,h3⟩:=hu.up;exact Or.inr ⟨q',k1,ml',mr',h2,by simp,λT' h=>hk _ (h3 T' h)⟩
theorem xC{w:World}{s root:Nat}{k:List Fr}(hw:TW S w0 w D T s)(hu:U T s root q x D k ml mr):
  Calls prog 229 #[ptr x,ptr s] w λe w'=>e=.returned (.tuple #[])/\∃T',TW S w0 w' D T' s/\jF T T' x k (xQ (T x).e.1 ml mr)/\zo D w w':=by
 have HW:=hid hw;clear hw;have HU:=hid hu;clear hu;go_enter func229,ntmps229;go_wp2;go_loopg [0] (k.length+1) (λg xv wr=>∃x1 T1,xv=ptr x1/\TW S w0 wr D T1 s/\zo D w wr/\((x1=s/\jF T T1 x k (xQ (T x).e.1 ml mr))\/(∃q1 k1 ml1 mr1,U T1 s root q1 x1 D k1 ml1 mr1/\k1.length<g/\∀T',jF T1 T' x1 k1 (xQ (T1 x1).e.1 ml1 mr1)->jF T T' x k (xQ (T x).e.1 ml mr))))
 case atStart=>exact⟨x,T,rfl,HW.out,zo.refl _ _,Or.inr ⟨q,k,ml,mr,HU.out,by omega,λ_ h=>h⟩⟩
 case round=>
  obtain⟨x1,T1,rfl,hT,hmd,hor⟩:=hrel;have HMD:=hid hmd;clear hmd;rcases hor with⟨rfl,hd⟩|⟨q1,k1,ml1,mr1,hu1,hlen,hk⟩
  ·have hpe:=xR hT.cs hT.cs;rw[decide_eq_true rfl]at hpe;have HT:=hid hT;clear hT;have HD:=hid hd;clear hd;go_wp2;go_returns;exact⟨rfl,T1,HT.out,HD.out,HMD.out⟩
  ·have hend:=zcV (s:=s) (root:=root) hT hu1 hk;obtain⟨c0,c1,c3,c4,c5,c6,_⟩:=hT.cells hu1.dx;have cf:=hT.frozen hu1.dx 3;obtain⟨op,on,oc,hoe,_⟩:=(hT.ev x1).2.2.iface;have hpx:=xR (hT.cel hu1.dx) hT.cs;rw[decide_eq_false hu1.xs]at hpx;have hcmp:=λ(a b:EV) (av:Value) (h1:kL w0.r a) (h2:kL w0.r b) (h3:a.2=.iface 283 av)=>jT hT.le h1 h2 h3;have hmx:=(hT.ev x1).2.2;have he:=(hT.ev x1).2.1;have hn:=Gz hT x1;rw[hoe]at c3;have hnew:=zbx T1 s x1;obtain⟨ep,en,ec,hee,_⟩:=he.iface;rw[hee]at c1;obtain⟨tl,htl⟩:∃b:Bool,b=decide ((T1 x1).l≠s/\zy (T1 (T1 x1).l).mx.1 (T1 x1).e.1>0):=⟨_,rfl⟩;obtain⟨M,hM⟩:∃M:EV,M=(if (T1 x1).l≠s/\zy (T1 (T1 x1).l).mx.1 (T1 x1).e.1>0 then (T1 (T1 x1).l).mx else (T1 x1).e):=⟨_,rfl⟩;have hMt:M=if tl=true then (T1 (T1 x1).l).mx else (T1 x1).e:=by rw[hM,htl];simp only[decide_eq_true_eq]
   have hMv:kL w0.r M:=by
    rw[hMt];split
    ·exact(hT.ev _).2.2
    ·exact he
   rw[<-hM]at hnew;obtain⟨tr,htr⟩:∃b:Bool,b=decide ((T1 x1).r≠s/\zy (T1 (T1 x1).r).mx.1 M.1>0):=⟨_,rfl⟩;obtain⟨mp,mn,mc,hMe,_⟩:=hMv.iface;obtain⟨N,hN⟩:∃N:EV,N=Yu T1 s x1:=⟨_,rfl⟩;have hNt:N=if tr=true then (T1 (T1 x1).r).mx else M:=by rw[hN,hnew,htr];simp only[decide_eq_true_eq]
   rw[<-hN]at hn hend;obtain⟨np,nn,nc,hNe,_⟩:=hn.iface;have hold:=hcmp _ N _ hmx hn hoe;rw[hNe]at hold hend;have HOLD:=hid hold;clear hold;have HEND:=hid hend;clear hend;have HCL:=hid (JK hT hu1.hl);have HCR:=hid (JK hT hu1.hr);have HDX:=hid hu1.dx;have HT:=hid hT;clear hT;have HTL:=hid htl;clear htl;have HTR:=hid htr;clear htr;have HMT:=hid hMt;clear hMt;have HNT:=hid hNt;clear hNt;have HCMP:=hid hcmp;clear hcmp;have HMV:=hid hMv;clear hMv;have HE:=hid he;clear he;have HNE:=hid hNe;clear hNe;have HME:=hid hMe;clear hMe;have HEE:=hid hee;clear hee;clear hmx hn hN hk hu1 hoe hnew hM;go_upto_region 3 with fail
   go_cut [36] (λs36 wx=>s36=.bool tl/\wr=wx)
   case first=>
    rcases HCL.out with⟨hls,hpl⟩|⟨hls,hpl,lp,ln,lc,hle,hlc,hlv⟩
    ·have ht:tl=false:=by rw[HTL.out];exact decide_eq_false λe=>e.1 hls
     subst ht;rw[hls]at hpl c4;clear hls;go_wp2_with fail;go_meet;exact⟨rfl,rfl⟩
    ·have hl0:=HCMP.out _ (T1 x1).e _ hlv HE.out hle;rw[HEE.out]at hl0;have HL:=hid hl0;clear hl0;have ht:tl=decide (0<zy (T1 (T1 x1).l).mx.1 (T1 x1).e.1):=by rw[HTL.out];simp only[hls,ne_eq,not_false_eq_true,true_and]
     subst ht;clear hle hlv;go_wp2_with (go_at_call 187;go_must (refine HL.out.mono ?_);rintro e w9 ⟨rfl,rfl⟩)
     all_goals
      go_meet;exact⟨rfl,rfl⟩
   case rest=>
    obtain⟨rfl,rfl⟩:=hcut;go_upto_if 36 with fail
    go_cut [5] (λs5 wx=>s5=.iface 283 (.slice mp mn mc)/\wr=wx)
    case first=>
     cases tl
     ·have hv:Value.iface 283 (.slice ep en ec)=Value.iface 283 (.slice mp mn mc):=by
       rw[<-HEE.out,<-HME.out,HMT.out];rfl
      have HV:=hid hv;clear hv;go_wp2_with fail;go_meet;exact⟨HV.out,rfl⟩
     ·have hd:=of_decide_eq_true HTL.out.symm;rcases HCL.out with⟨hls,_⟩|⟨hls,hpl,lp,ln,lc,hle,hlc,hlv⟩
      ·exact absurd hls hd.1
      ·have hv:(T1 (T1 x1).l).mx.2=Value.iface 283 (.slice mp mn mc):=by
        rw[<-HME.out,HMT.out];rfl
       rw[<-hle,hv]at hlc;clear hv hle hlv hd hpl;go_wp2_with fail;go_meet;exact⟨rfl,rfl⟩
    case rest=>
     obtain⟨rfl,rfl⟩:=hcut;go_upto_region 5 with fail
     go_cut [61] (λs61 wx=>s61=.bool tr/\wr=wx)
     case first=>
      rcases HCR.out with⟨hls,hpl⟩|⟨hls,hpl,lp,ln,lc,hle,hlc,hlv⟩
      ·have ht:tr=false:=by rw[HTR.out];exact decide_eq_false λe=>e.1 hls
       subst ht;rw[hls]at hpl c5;clear hls;go_wp2_with fail;go_meet;exact⟨rfl,rfl⟩
      ·have hl0:=HCMP.out _ M _ hlv HMV.out hle;rw[HME.out]at hl0;have HL:=hid hl0;clear hl0;have ht:tr=decide (0<zy (T1 (T1 x1).r).mx.1 M.1):=by rw[HTR.out];simp only[hls,ne_eq,not_false_eq_true,true_and]
       subst ht;clear hle hlv;go_wp2_with (go_at_call 187;go_must (refine HL.out.mono ?_);rintro e w9 ⟨rfl,rfl⟩)
       all_goals
        go_meet;exact⟨rfl,rfl⟩
     case rest=>
      obtain⟨rfl,rfl⟩:=hcut;go_upto_if 61 with fail
      go_cut [5] (λs5 wx=>s5=.iface 283 (.slice np nn nc)/\wr=wx)
      case first=>
       cases tr
       ·have hv:Value.iface 283 (.slice mp mn mc)=Value.iface 283 (.slice np nn nc):=by
         rw[<-HME.out,<-HNE.out,HNT.out];rfl
        have HV:=hid hv;clear hv;go_wp2_with fail;go_meet;exact⟨HV.out,rfl⟩
       ·have hd:=of_decide_eq_true HTR.out.symm;rcases HCR.out with⟨hls,_⟩|⟨hls,hpl,lp,ln,lc,hle,hlc,hlv⟩
        ·exact absurd hls hd.1
        ·have hv:(T1 (T1 x1).r).mx.2=Value.iface 283 (.slice np nn nc):=by
          rw[<-HNE.out,HNT.out];rfl
         rw[<-hle,hv]at hlc;clear hv hle hlv hd hpl;go_wp2_with fail;go_meet;exact⟨rfl,rfl⟩
      case rest=>
       obtain⟨rfl,rfl⟩:=hcut;by_cases hz:zy (T1 x1).mx.1 N.1=0
       ·have HD:=hid (HEND.out.1 hz);clear HEND;have hz':(zy (T1 x1).mx.1 N.1==0)=true:=by simpa using hz
        clear hz;go_wp2_with (go_at_call 187;go_must (refine HOLD.out.mono ?_);rintro e w9 ⟨rfl,rfl⟩);go_returns;exact⟨rfl,T1,HT.out,HD.out,HMD.out⟩
       ·have hz':(zy (T1 x1).mx.1 N.1==0)=false:=by simpa using hz
        clear hz;go_wp2_with (go_at_call 187;go_must (refine HOLD.out.mono ?_);rintro e w9 ⟨rfl,rfl⟩);obtain⟨T2,h1,h2⟩:=HEND.out.2;rcases h2 with⟨e1,h2⟩|⟨q2,k2,ml2,mr2,h2,h3,h4⟩
        ·go_roundg 0
         case rel=>exact⟨_,T2,rfl,h1,HMD.out.setCell (p:=⟨x1,3,none⟩) (λ_=>HDX.out) _,Or.inl ⟨e1,h2⟩⟩
         case measure=>omega
        ·go_roundg (gk-1)
         case rel=>exact⟨_,T2,rfl,h1,HMD.out.setCell (p:=⟨x1,3,none⟩) (λ_=>HDX.out) _,Or.inr ⟨q2,k2,ml2,mr2,h2,by omega,h4⟩⟩
         case measure=>omega
structure TI(S:Nat->Prop)(w0:qX)(w:World)(D:Nat->Prop)(T:NM)(s it root:Nat)(n:Int):Prop where
 tw:TW S w0 w D T s
 blk:w.heap[it]? =some (.cells #[ptr root,.int .i64 n,ptr s] 282 (0,0))
 nd: ¬D it
 si:S it
variable{it:Nat}
theorem TI.cells{w:World}{s root:Nat}{n:Int}(h:TI S w0 w D T s it root n):w.cell? ⟨it,0,none⟩=some (ptr root)/\w.cell? ⟨it,1,none⟩=some (.int .i64 n)/\w.cell? ⟨it,2,none⟩=some (ptr s)/\w.frozen? ⟨it,0,none⟩=false/\w.frozen? ⟨it,1,none⟩=false:=by
 have:=h.blk;refine⟨?_,?_,?_,?_,?_⟩
 ·rw[cell_of_row w it _ _ _ (0,0) this];rfl
 ·rw[cell_of_row w it _ _ _ (0,0) this];rfl
 ·rw[cell_of_row w it _ _ _ (0,0) this];rfl
 ·simp[World.frozen?,this]
 ·simp[World.frozen?,this]
theorem TI.drewN{w:World}{s root:Nat}{n:Int}(h:TI S w0 w D T s it root n)(m:Nat):TI S w0 (w.drewN m) D T s it root n:=⟨h.tw.drewN m,h.blk,h.nd,h.si⟩
theorem TI.drew{w:World}{s root:Nat}{n:Int}(h:TI S w0 w D T s it root n):TI S w0 w.drew D T s it root n:=⟨h.tw.drew,h.blk,h.nd,h.si⟩
variable{k:Nat}{w':World}
theorem TI.node{w:World}{s root:Nat}{n:Int}(h:TI S w0 w D T s it root n){i:Nat}(hi:D i)(hw:w'=w.setCell ⟨i,k,none⟩ v)(ht:TW S w0 w' D T' s):TI S w0 w' D T' s it root n:=
 ⟨ht,by rw[hw,Below.heap_setCell _ _ _ _ (λe=>h.nd (by rw[e];exact hi))];exact h.blk,h.nd,h.si⟩
theorem TI.setL{w:World}{s root:Nat}{n:Int}(h:TI S w0 w D T s it root n){i:Nat}(hi:D i)(x:Nat):TI S w0 (w.setCell ⟨i,4,none⟩ (ptr x)) D (T.set i ((T i).sl x)) s it root n:=h.node hi rfl (h.tw.setL hi x)
theorem TI.setR{w:World}{s root:Nat}{n:Int}(h:TI S w0 w D T s it root n){i:Nat}(hi:D i)(x:Nat):TI S w0 (w.setCell ⟨i,5,none⟩ (ptr x)) D (T.set i ((T i).sr x)) s it root n:=h.node hi rfl (h.tw.setR hi x)
theorem TI.setP{w:World}{s root:Nat}{n:Int}(h:TI S w0 w D T s it root n){i:Nat}(hi:D i)(x:Nat):TI S w0 (w.setCell ⟨i,6,none⟩ (ptr x)) D (T.set i ((T i).sp x)) s it root n:=h.node hi rfl (h.tw.setP hi x)
theorem TI.setC{w:World}{s root:Nat}{n:Int}(h:TI S w0 w D T s it root n){i:Nat}(hi:D i)(c:Bool):TI S w0 (w.setCell ⟨i,7,none⟩ (J_ c)) D (T.set i ((T i).sc c)) s it root n:=h.node hi rfl (h.tw.setC hi c)
theorem TI.other{w:World}{s root:Nat}{n:Int}(h:TI S w0 w D T s it root n)(k:Nat)(v:Value):TW S w0 (w.setCell ⟨it,k,none⟩ v) D T s:=
 ⟨h.tw.mod.setCell (p:=⟨it,k,none⟩) (λ_=>h.si) v,λj hj=>by rw[Below.heap_setCell _ _ _ _ (λe=>h.nd (by replace e:j=it:=e;rw[<-e];exact hj))];exact h.tw.nodes j hj,h.tw.ev,h.tw.dS,h.tw.cs.setCell _ _ _,h.tw.rd⟩
theorem TI.setRoot{w:World}{s root:Nat}{n:Int}(h:TI S w0 w D T s it root n)(x:Nat):TI S w0 (w.setCell ⟨it,0,none⟩ (ptr x)) D T s it x n:=
 ⟨h.other 0 _,by rw[heap_setCell_same w it 0 _ _ _ h.blk];rfl,h.nd,h.si⟩
theorem TI.setCount{w:World}{s root:Nat}{n:Int}(h:TI S w0 w D T s it root n)(m:Int):TI S w0 (w.setCell ⟨it,1,none⟩ (.int .i64 m)) D T s it root m:=
 ⟨h.other 1 _,by rw[heap_setCell_same w it 1 _ _ _ h.blk];rfl,h.nd,h.si⟩
theorem TI.frame{w:World}{s root:Nat}{n:Int}(h:TI S w0 w D T s it root n)(ht:TW S w0 w' D T' s)(hi:w'.heap[it]? =w.heap[it]?):TI S w0 w' D T' s it root n:=⟨ht,hi.trans h.blk,h.nd,h.si⟩
theorem TW.eql{w:World}{s:Nat}(h:TW S w0 w D T s)(ha:a=s\/D a)(hb:b=s\/D b)(m:Nat):(binOp .eql 274 (ptr a) (ptr b)).run prog (w.drewN m)=.ok (.bool (decide (a=b))) (w.drewN m):=by
 have hh:=h.drewN m;refine ZN ?_ ?_
 ·rcases ha with e|e
  ·rw[e];exact hh.cs
  ·exact hh.cel e
 ·rcases hb with e|e
  ·rw[e];exact hh.cs
  ·exact hh.cel e
theorem TW.neq{w:World}{s:Nat}(h:TW S w0 w D T s)(ha:a=s\/D a)(hb:b=s\/D b)(m:Nat):(binOp .neq 274 (ptr a) (ptr b)).run prog (w.drewN m)=.ok (.bool (!decide (a=b))) (w.drewN m):=by
 have hh:=h.drewN m;refine xR ?_ ?_
 ·rcases ha with e|e
  ·rw[e];exact hh.cs
  ·exact hh.cel e
 ·rcases hb with e|e
  ·rw[e];exact hh.cs
  ·exact hh.cel e
theorem Ka{w:World}{s root:Nat}{n:Int}(hw:TI S w0 w D T s it root n)(hr:RP T s root q x y D []):
  Calls prog 250 #[ptr it,ptr x,ptr y] w λe w'=>e=.returned (.tuple #[])/\∃T',TI S w0 w' D T' s it y n/\WA T T' s y q x y []:=by
 obtain⟨hq,hd⟩:=hr.nil;subst hq;have hxy:=hr.xy;have hyx:=Ne.symm hxy;obtain⟨x0,x1,x3,x4,x5,x6,_⟩:=hw.tw.cells hr.dx;rw[hr.p]at x6;obtain⟨_,_,_,_,_,y6,_⟩:=hw.tw.cells hr.dy;have xf:=hw.tw.frozen hr.dx 6;have yf:=hw.tw.frozen hr.dy 6;obtain⟨i0,_,i2,if0,_⟩:=hw.cells;have hix:it≠x:=λe=>hw.nd (by rw[e];exact hr.dx);have hiy:it≠y:=λe=>hw.nd (by rw[e];exact hr.dy);have hxi:=Ne.symm hix;have hyi:=Ne.symm hiy;have h1:=hw.setP hr.dy q;have hpe:=λm=>h1.tw.eql (Or.inl rfl) (Or.inl rfl) m;rw[decide_eq_true rfl]at hpe;have H1:=hid h1;clear h1;have HD:=hid hd;clear hd;have HDX:=hid hr.dx;have e1:(T.set y ((T y).sp q)) x=T x:=NM.set_ne _ _ hxy;have E1:=hid e1;clear e1;clear hw hr;go_enter func250,ntmps250;go_wp2;go_quiet (fail);go_wp2;go_returns;refine⟨rfl,_,?_,HD.out⟩;rw[<-E1.out];exact((H1.out.drewN _).setRoot y).setP HDX.out y
theorem V5{w:World}{s root i:Nat}{n:Int}{r:Tr}{k:List Fr}(hw:TI S w0 w D T s it root n)(hr:RP T s root q x y D (.L i r::k)):
  Calls prog 250 #[ptr it,ptr x,ptr y] w λe w'=>e=.returned (.tuple #[])/\∃T',TI S w0 w' D T' s it root n/\WA T T' s root q x y (.L i r::k):=by
 obtain⟨hqi0,hqs,hdq,hqx,hqy,hql,q',ml,mr,hU⟩:=hr.consL;subst hqi0;obtain⟨hu,hd⟩:=hU _ rfl;have hxy:=hr.xy;have hyx:=Ne.symm hxy;have hxq:=Ne.symm hqx;have hyq:=Ne.symm hqy;obtain⟨_,_,_,_,_,x6,_⟩:=hw.tw.cells hr.dx;rw[hr.p]at x6;obtain⟨_,_,_,_,_,y6,_⟩:=hw.tw.cells hr.dy;obtain⟨_,_,_,q4,q5,q6,_⟩:=hw.tw.cells hdq;rw[hql]at q4;have xf:=hw.tw.frozen hr.dx 6;have yf:=hw.tw.frozen hr.dy 6;have qf:=hw.tw.frozen hdq 4;obtain⟨i0,_,i2,if0,_⟩:=hw.cells;have hix:it≠x:=λe=>hw.nd (by rw[e];exact hr.dx);have hiy:it≠y:=λe=>hw.nd (by rw[e];exact hr.dy);have hiq:it≠q:=λe=>hw.nd (by rw[e];exact hdq);have hxi:=Ne.symm hix;have hyi:=Ne.symm hiy;have hqi:=Ne.symm hiq;have h1:=hw.setP hr.dy q;have e1:(T.set y ((T y).sp q)) q=T q:=NM.set_ne _ _ hqy;have h2:=λm=>(h1.drewN m).setL hdq y;rw[e1]at h2;have hup:∀W,TI S w0 W D ((T.set y ((T y).sp q)).set q ((T q).sl y)) s it root n->_:=λW h=>xC h.tw hu
 have hpe:=λm=>h1.tw.eql (a:=q) (b:=s) (Or.inr hdq) (Or.inl rfl) m;rw[decide_eq_false hqs]at hpe;have hpx:=λm=>h1.tw.eql (a:=x) (b:=x) (Or.inr hr.dx) (Or.inr hr.dx) m;rw[decide_eq_true rfl]at hpx;have hx2:∀W,TI S w0 W D ((T.set y ((T y).sp q)).set q ((T q).sl y)) s it root n->W.cell? ⟨x,6,none⟩=some (ptr q)/\W.cell? ⟨it,2,none⟩=some (ptr s):=λW h=>by have:=(h.tw.cells hr.dx).2.2.2.2.2.1;rw[NM.set_ne _ _ hxq,NM.set_ne _ _ hxy,hr.p]at this;exact⟨this,h.cells.2.2.1⟩
 have hfin:∀W W3 T3,TI S w0 W D ((T.set y ((T y).sp q)).set q ((T q).sl y)) s it root n->TW S w0 W3 D T3 s->zo D W W3->TI S w0 W3 D T3 s it root n/\W3.cell? ⟨x,6,none⟩=some (ptr (T3 x).p)/\W3.frozen? ⟨x,6,none⟩=false:=λW W3 T3 h h3 hm=>by exact⟨h.frame h3 (hm.block _ (World.block_lt_of_cell? W _ h.cells.1) h.nd),(h3.cells hr.dx).2.2.2.2.2.1,h3.frozen hr.dx 6⟩
 have HX2:=hid hx2;clear hx2;have HFIN:=hid hfin;clear hfin;have HUP:=hid hup;clear hup;have H2:=hid h2;clear h2;have HD:=hid hd;clear hd;have HDX:=hid hr.dx;clear hw hr hu h1 hU;go_enter func250,ntmps250;go_wp2;go_quiet (fail);go_wp2;have hW:=H2.out nq;generalize((w.setCell {block:=y,off:=6} (ptr q)).drewN nq).setCell {block:=q,off:=4} (ptr y)=W at hW⊢;obtain⟨y1,y2⟩:=HX2.out W hW;have HW:=hid hW;clear hW;clear x6 y6 q4 q5 q6 xf yf qf i0 i2 if0 hpe hpx;go_still_tail 8,(by kernel_rfl);go_wp2_with (go_at_call 229;go_must (refine(HUP.out _ HW.out.drew).mono ?_);rintro e w3 ⟨rfl,T3,h3,hd3,hm3⟩;obtain⟨f1,f2,f3⟩:=HFIN.out _ _ _ HW.out.drew h3 hm3;have F1:=hid f1;have HD3:=hid hd3;clear h3 hd3 hm3 f1);go_returns;exact⟨rfl,_,F1.out.setP HDX.out y,HD.out T3 HD3.out⟩
theorem V6{w:World}{s root i:Nat}{n:Int}{r:Tr}{k:List Fr}(hw:TI S w0 w D T s it root n)(hr:RP T s root q x y D (.R i r::k)):
  Calls prog 250 #[ptr it,ptr x,ptr y] w λe w'=>e=.returned (.tuple #[])/\∃T',TI S w0 w' D T' s it root n/\WA T T' s root q x y (.R i r::k):=by
 obtain⟨hqi0,hqs,hdq,hqx,hqy,hql,q',ml,mr,hU⟩:=hr.consR;subst hqi0;obtain⟨hu,hd⟩:=hU _ rfl;have hxy:=hr.xy;have hyx:=Ne.symm hxy;have hxq:=Ne.symm hqx;have hyq:=Ne.symm hqy;obtain⟨_,_,_,_,_,x6,_⟩:=hw.tw.cells hr.dx;rw[hr.p]at x6;obtain⟨_,_,_,_,_,y6,_⟩:=hw.tw.cells hr.dy;obtain⟨_,_,_,q4,q5,q6,_⟩:=hw.tw.cells hdq;have xf:=hw.tw.frozen hr.dx 6;have yf:=hw.tw.frozen hr.dy 6;have qf:=hw.tw.frozen hdq 5;obtain⟨i0,_,i2,if0,_⟩:=hw.cells;have hix:it≠x:=λe=>hw.nd (by rw[e];exact hr.dx);have hiy:it≠y:=λe=>hw.nd (by rw[e];exact hr.dy);have hiq:it≠q:=λe=>hw.nd (by rw[e];exact hdq);have hxi:=Ne.symm hix;have hyi:=Ne.symm hiy;have hqi:=Ne.symm hiq;have h1:=hw.setP hr.dy q;have e1:(T.set y ((T y).sp q)) q=T q:=NM.set_ne _ _ hqy;have h2:=λm=>(h1.drewN m).setR hdq y;rw[e1]at h2;have hup:∀W,TI S w0 W D ((T.set y ((T y).sp q)).set q ((T q).sr y)) s it root n->_:=λW h=>xC h.tw hu
 have hpe:=λm=>h1.tw.eql (a:=q) (b:=s) (Or.inr hdq) (Or.inl rfl) m;rw[decide_eq_false hqs]at hpe;have hql':(T q).l=s\/D (T q).l:=by
  have:=hr.cx;obtain⟨e1,_,_,e4,_⟩:=this;rcases e4.root with e|e
  ·exact Or.inl e
  ·exact Or.inr (hr.dk _ (qz.2 (Or.inr (Or.inl e))))
 have hpx:=λm=>h1.tw.eql (a:=x) (b:=(T q).l) (Or.inr hr.dx) hql' m;rw[decide_eq_false (λe=>hql e.symm)]at hpx;have hx2:∀W,TI S w0 W D ((T.set y ((T y).sp q)).set q ((T q).sr y)) s it root n->W.cell? ⟨x,6,none⟩=some (ptr q)/\W.cell? ⟨it,2,none⟩=some (ptr s):=λW h=>by have:=(h.tw.cells hr.dx).2.2.2.2.2.1;rw[NM.set_ne _ _ hxq,NM.set_ne _ _ hxy,hr.p]at this;exact⟨this,h.cells.2.2.1⟩
 have hfin:∀W W3 T3,TI S w0 W D ((T.set y ((T y).sp q)).set q ((T q).sr y)) s it root n->TW S w0 W3 D T3 s->zo D W W3->TI S w0 W3 D T3 s it root n/\W3.cell? ⟨x,6,none⟩=some (ptr (T3 x).p)/\W3.frozen? ⟨x,6,none⟩=false:=λW W3 T3 h h3 hm=>by exact⟨h.frame h3 (hm.block _ (World.block_lt_of_cell? W _ h.cells.1) h.nd),(h3.cells hr.dx).2.2.2.2.2.1,h3.frozen hr.dx 6⟩
 have HX2:=hid hx2;clear hx2;have HFIN:=hid hfin;clear hfin;have HUP:=hid hup;clear hup;have H2:=hid h2;clear h2;have HD:=hid hd;clear hd;have HDX:=hid hr.dx;clear hw hr hu h1 hU hql';go_enter func250,ntmps250;go_wp2;go_quiet (fail);go_wp2;have hW:=H2.out nq;generalize((w.setCell {block:=y,off:=6} (ptr q)).drewN nq).setCell {block:=q,off:=5} (ptr y)=W at hW⊢;obtain⟨y1,y2⟩:=HX2.out W hW;have HW:=hid hW;clear hW;clear x6 y6 q4 q5 q6 xf yf qf i0 i2 if0 hpe hpx;go_still_tail 8,(by kernel_rfl);go_wp2_with (go_at_call 229;go_must (refine(HUP.out _ HW.out.drew).mono ?_);rintro e w3 ⟨rfl,T3,h3,hd3,hm3⟩;obtain⟨f1,f2,f3⟩:=HFIN.out _ _ _ HW.out.drew h3 hm3;have F1:=hid f1;have HD3:=hid hd3;clear h3 hd3 hm3 f1);go_returns;exact⟨rfl,_,F1.out.setP HDX.out y,HD.out T3 HD3.out⟩
theorem xe{w:World}{s root:Nat}{n:Int}{k:List Fr}(hw:TI S w0 w D T s it root n)(hr:RP T s root q x y D k):
  Calls prog 250 #[ptr it,ptr x,ptr y] w λe w'=>e=.returned (.tuple #[])/\∃T' root',TI S w0 w' D T' s it root' n/\WA T T' s root' q x y k:=by
 cases k with
 |nil=>exact(Ka hw hr).mono λ_ _ ⟨h1,T',h2,h3⟩=>⟨h1,T',_,h2,h3⟩
 |cons f k=>
  cases f with
  |L i r=>exact(V5 hw hr).mono λ_ _ ⟨h1,T',h2,h3⟩=>⟨h1,T',_,h2,h3⟩
  |R i r=>exact(V6 hw hr).mono λ_ _ ⟨h1,T',h2,h3⟩=>⟨h1,T',_,h2,h3⟩
theorem xS{w:World}{s root root0:Nat}{n:Int}{k:List Fr}(hw:TI S w0 w D T s it root0 n)(hu:U T s root q x D k ml mr):
  Calls prog 229 #[ptr x,ptr s] w λe w'=>e=.returned (.tuple #[])/\∃T',TI S w0 w' D T' s it root0 n/\jF T T' x k (xQ (T x).e.1 ml mr):=
 (xC hw.tw hu).mono λ_ _ ⟨h1,T',h2,h3,h4⟩=>⟨h1,T',hw.frame h2 (h4.block _ (World.block_lt_of_cell? w _ hw.cells.1) hw.nd),h3⟩
theorem YN{w:World}{s root:Nat}{n:Int}{k:List Fr}{a b c:Tr}(hw:TI S w0 w D T s it root n)(hg:TG T s root q x D k (.node x a (.node y b c))):
  Calls prog 248 #[ptr it,ptr x] w λe w'=>e=.returned (.tuple #[])/\∃T' root',TI S w0 w' D T' s it root' n/\TG T' s root' q y D k (.node y (.node x a b) c)/\∀i,Z2 (T i) (T' i):=by
 obtain⟨hxr,hxs,hys,hxy,dx,dy,hyl,hxp,hst⟩:=hg.rotL;have hsx:=Ne.symm hxs;have hsy:=Ne.symm hys;have hyx:=Ne.symm hxy;obtain⟨_,_,_,x4,x5,x6,_⟩:=hw.tw.cells dx;obtain⟨_,_,_,y4,y5,y6,_⟩:=hw.tw.cells dy;rw[hxr]at x5;have xf:=hw.tw.frozen dx 5;obtain⟨_,_,i2,_,_⟩:=hw.cells;have hix:it≠x:=λe=>hw.nd (by rw[e];exact dx);have hiy:it≠y:=λe=>hw.nd (by rw[e];exact dy);have hxi:=Ne.symm hix;have hyi:=Ne.symm hiy;have hp0:=λm=>hw.tw.eql (a:=y) (b:=s) (Or.inr dy) (Or.inl rfl) m;rw[decide_eq_false hys]at hp0;have hS1:∃T1,T1=(if (T y).l=s then T.set x ((T x).sr (T y).l)else (T.set x ((T x).sr (T y).l)).set (T y).l ((T (T y).l).sp x)):=⟨_,rfl⟩;obtain⟨T1,hT1⟩:=hS1;obtain⟨hu1,hst1⟩:=hst T1 hT1;have hc1:∀W,TI S w0 W D T1 s it root n->Calls prog 229 #[ptr x,ptr s] W λe w'=>e=.returned (.tuple #[])/\∃T2,TI S w0 w' D T2 s it root n/\RP T2 s root q x y D k/\
   ∀T4 root',WA T2 T4 s root' q x y k->U (T4.set y ((T4 y).sl x)) s root' q y D k (some ((T4.set y ((T4 y).sl x)) x).mx.1) (jg T c)/\
    ∀T6,jF (T4.set y ((T4 y).sl x)) T6 y k (xQ ((T4.set y ((T4 y).sl x)) y).e.1 (some ((T4.set y ((T4 y).sl x)) x).mx.1) (jg T c))->TG T6 s root' q y D k (.node y (.node x a b) c)/\(∀i,Z2 (T i) (T6 i)):=
  λW h=>(xS h hu1).mono λ_ _ ⟨h1,T2,h2,h3⟩=>⟨h1,T2,h2,(hst1 T2 h3).1,λT4 root' h4=>(hst1 T2 h3).2 T4 root' h4 _ rfl⟩
 have HC1:=hid hc1;clear hc1;have HDY:=hid dy;have HIT:Hid (∀W T4 root',TI S w0 W D T4 s it root' n->W.cell? ⟨it,2,none⟩=some (ptr s)/\W.cell? ⟨y,4,none⟩=some (ptr (T4 y).l)/\W.frozen? ⟨y,4,none⟩=false):=hid λW T4 root' h=>⟨h.cells.2.2.1,(h.tw.cells dy).2.2.2.1,h.tw.frozen dy 4⟩;have hw1:=λm=>(hw.drewN m).setR dx (T y).l;rcases hyl with hls|⟨dl,hlx,hly,hls⟩
 ·have hp1:=λm m2=>((hw1 m).tw.neq (a:=(T y).l) (b:=s) (Or.inl hls) (Or.inl rfl) m2);rw[decide_eq_true hls]at hp1;rw[if_pos hls]at hT1;rw[<-hT1]at hw1;rw[hls]at y4 hp1 hw1;have HW1:=hid hw1;clear hw1;clear hw hg hst hst1 hu1 hT1;go_enter func248,ntmps248;go_wp2;go_quiet (fail);go_wp2;go_quiet (fail);go_wp2_with fail;refine(HC1.out _ ((HW1.out _).drewN _)).mono ?_;rintro e w2 ⟨rfl,T2,g1,g2,g3⟩;have HR:=hid (xe g1 g2);have G3:=hid g3;obtain⟨j2,_,_⟩:=HIT.out _ _ _ g1;clear g1 g2 g3 x4 x5 x6 y4 y5 y6 xf i2 hp0 hp1;go_wp2_with fail;refine HR.out.mono ?_;rintro e w4 ⟨rfl,T4,root',k1,k2⟩;obtain⟨hu5,hst5⟩:=G3.out T4 root' k2;obtain⟨l2,l4,lf⟩:=HIT.out _ _ _ k1;have HU5:=hid (xS (k1.setL HDY.out x) hu5);have HST5:=hid hst5;clear k1 k2 hu5 hst5 j2;go_wp2_with fail;refine HU5.out.mono ?_;rintro e w6 ⟨rfl,T6,m1,m2⟩;have M1:=hid m1;have M2:=hid (HST5.out T6 m2);clear m1 m2;go_wp2;go_returns
  exact⟨rfl,T6,root',M1.out,M2.out⟩
 ·have hp1:=λm m2=>((hw1 m).tw.neq (a:=(T y).l) (b:=s) (Or.inr dl) (Or.inl rfl) m2);rw[decide_eq_false hls]at hp1;rw[if_neg hls]at hT1;have hw2:=λm m2=>(((hw1 m).drewN m2).setP dl x);rw[NM.set_ne _ _ hlx]at hw2;rw[<-hT1]at hw2;obtain⟨_,_,_,_,_,l6,_⟩:=hw.tw.cells dl;have lf:=hw.tw.frozen dl 6;have hli:(T y).l≠it:=λe=>hw.nd (by rw[<-e];exact dl);have hil:=Ne.symm hli;have hxl:=Ne.symm hlx;have hyl':=Ne.symm hly;have HW1:=hid hw2;clear hw2;clear hw hg hst hst1 hu1 hT1 hw1;generalize(T y).l=bl at*
  go_enter func248,ntmps248;go_wp2;go_quiet (fail);go_wp2;go_quiet (fail);go_wp2_with fail;refine(HC1.out _ (HW1.out _ _)).mono ?_;rintro e w2 ⟨rfl,T2,g1,g2,g3⟩;have HR:=hid (xe g1 g2);have G3:=hid g3;obtain⟨j2,_,_⟩:=HIT.out _ _ _ g1;clear g1 g2 g3 x4 x5 x6 y4 y5 y6 xf i2 hp0 hp1 l6 lf;go_wp2_with fail;refine HR.out.mono ?_;rintro e w4 ⟨rfl,T4,root',k1,k2⟩;obtain⟨hu5,hst5⟩:=G3.out T4 root' k2;obtain⟨l2,l4,lf⟩:=HIT.out _ _ _ k1;have HU5:=hid (xS (k1.setL HDY.out x) hu5);have HST5:=hid hst5;clear k1 k2 hu5 hst5 j2;go_wp2_with fail;refine HU5.out.mono ?_;rintro e w6 ⟨rfl,T6,m1,m2⟩;have M1:=hid m1;have M2:=hid (HST5.out T6 m2);clear m1 m2;go_wp2;go_returns;exact⟨rfl,T6,root',M1.out,M2.out⟩
theorem YO{w:World}{s root:Nat}{n:Int}{k:List Fr}{a b c:Tr}(hw:TI S w0 w D T s it root n)(hg:TG T s root q x D k (.node x (.node y c b) a)):
  Calls prog 249 #[ptr it,ptr x] w λe w'=>e=.returned (.tuple #[])/\∃T' root',TI S w0 w' D T' s it root' n/\TG T' s root' q y D k (.node y c (.node x b a))/\∀i,Z2 (T i) (T' i):=by
 obtain⟨hxr,hxs,hys,hxy,dx,dy,hyl,hxp,hst⟩:=hg.rotR;have hsx:=Ne.symm hxs;have hsy:=Ne.symm hys;have hyx:=Ne.symm hxy;obtain⟨_,_,_,x4,x5,x6,_⟩:=hw.tw.cells dx;obtain⟨_,_,_,y4,y5,y6,_⟩:=hw.tw.cells dy;rw[hxr]at x4;have xf:=hw.tw.frozen dx 4;obtain⟨_,_,i2,_,_⟩:=hw.cells;have hix:it≠x:=λe=>hw.nd (by rw[e];exact dx);have hiy:it≠y:=λe=>hw.nd (by rw[e];exact dy);have hxi:=Ne.symm hix;have hyi:=Ne.symm hiy;have hp0:=λm=>hw.tw.eql (a:=y) (b:=s) (Or.inr dy) (Or.inl rfl) m;rw[decide_eq_false hys]at hp0;have hS1:∃T1,T1=(if (T y).r=s then T.set x ((T x).sl (T y).r)else (T.set x ((T x).sl (T y).r)).set (T y).r ((T (T y).r).sp x)):=⟨_,rfl⟩;obtain⟨T1,hT1⟩:=hS1;obtain⟨hu1,hst1⟩:=hst T1 hT1;have hc1:∀W,TI S w0 W D T1 s it root n->Calls prog 229 #[ptr x,ptr s] W λe w'=>e=.returned (.tuple #[])/\∃T2,TI S w0 w' D T2 s it root n/\RP T2 s root q x y D k/\
   ∀T4 root',WA T2 T4 s root' q x y k->U (T4.set y ((T4 y).sr x)) s root' q y D k (jg T c) (some ((T4.set y ((T4 y).sr x)) x).mx.1)/\
    ∀T6,jF (T4.set y ((T4 y).sr x)) T6 y k (xQ ((T4.set y ((T4 y).sr x)) y).e.1 (jg T c) (some ((T4.set y ((T4 y).sr x)) x).mx.1))->TG T6 s root' q y D k (.node y c (.node x b a))/\(∀i,Z2 (T i) (T6 i)):=
  λW h=>(xS h hu1).mono λ_ _ ⟨h1,T2,h2,h3⟩=>⟨h1,T2,h2,(hst1 T2 h3).1,λT4 root' h4=>(hst1 T2 h3).2 T4 root' h4 _ rfl⟩
 have HC1:=hid hc1;clear hc1;have HDY:=hid dy;have HIT:Hid (∀W T4 root',TI S w0 W D T4 s it root' n->W.cell? ⟨it,2,none⟩=some (ptr s)/\W.cell? ⟨y,5,none⟩=some (ptr (T4 y).r)/\W.frozen? ⟨y,5,none⟩=false):=hid λW T4 root' h=>⟨h.cells.2.2.1,(h.tw.cells dy).2.2.2.2.1,h.tw.frozen dy 5⟩;have hw1:=λm=>(hw.drewN m).setL dx (T y).r;rcases hyl with hls|⟨dl,hlx,hly,hls⟩
 ·have hp1:=λm m2=>((hw1 m).tw.neq (a:=(T y).r) (b:=s) (Or.inl hls) (Or.inl rfl) m2);rw[decide_eq_true hls]at hp1;rw[if_pos hls]at hT1;rw[<-hT1]at hw1;rw[hls]at y5 hp1 hw1;have HW1:=hid hw1;clear hw1;clear hw hg hst hst1 hu1 hT1;go_enter func249,ntmps249;go_wp2;go_quiet (fail);go_wp2;go_quiet (fail);go_wp2_with fail;refine(HC1.out _ ((HW1.out _).drewN _)).mono ?_;rintro e w2 ⟨rfl,T2,g1,g2,g3⟩;have HR:=hid (xe g1 g2);have G3:=hid g3;obtain⟨j2,_,_⟩:=HIT.out _ _ _ g1;clear g1 g2 g3 x4 x5 x6 y4 y5 y6 xf i2 hp0 hp1;go_wp2_with fail;refine HR.out.mono ?_;rintro e w4 ⟨rfl,T4,root',k1,k2⟩;obtain⟨hu5,hst5⟩:=G3.out T4 root' k2;obtain⟨l2,l4,lf⟩:=HIT.out _ _ _ k1;have HU5:=hid (xS (k1.setR HDY.out x) hu5);have HST5:=hid hst5;clear k1 k2 hu5 hst5 j2;go_wp2_with fail;refine HU5.out.mono ?_;rintro e w6 ⟨rfl,T6,m1,m2⟩;have M1:=hid m1;have M2:=hid (HST5.out T6 m2);clear m1 m2;go_wp2;go_returns
  exact⟨rfl,T6,root',M1.out,M2.out⟩
 ·have hp1:=λm m2=>((hw1 m).tw.neq (a:=(T y).r) (b:=s) (Or.inr dl) (Or.inl rfl) m2);rw[decide_eq_false hls]at hp1;rw[if_neg hls]at hT1;have hw2:=λm m2=>(((hw1 m).drewN m2).setP dl x);rw[NM.set_ne _ _ hlx]at hw2;rw[<-hT1]at hw2;obtain⟨_,_,_,_,_,l6,_⟩:=hw.tw.cells dl;have lf:=hw.tw.frozen dl 6;have hli:(T y).r≠it:=λe=>hw.nd (by rw[<-e];exact dl);have hil:=Ne.symm hli;have hxl:=Ne.symm hlx;have hyl':=Ne.symm hly;have HW1:=hid hw2;clear hw2;clear hw hg hst hst1 hu1 hT1 hw1;generalize(T y).r=bl at*
  go_enter func249,ntmps249;go_wp2;go_quiet (fail);go_wp2;go_quiet (fail);go_wp2_with fail;refine(HC1.out _ (HW1.out _ _)).mono ?_;rintro e w2 ⟨rfl,T2,g1,g2,g3⟩;have HR:=hid (xe g1 g2);have G3:=hid g3;obtain⟨j2,_,_⟩:=HIT.out _ _ _ g1;clear g1 g2 g3 x4 x5 x6 y4 y5 y6 xf i2 hp0 hp1 l6 lf;go_wp2_with fail;refine HR.out.mono ?_;rintro e w4 ⟨rfl,T4,root',k1,k2⟩;obtain⟨hu5,hst5⟩:=G3.out T4 root' k2;obtain⟨l2,l4,lf⟩:=HIT.out _ _ _ k1;have HU5:=hid (xS (k1.setR HDY.out x) hu5);have HST5:=hid hst5;clear k1 k2 hu5 hst5 j2;go_wp2_with fail;refine HU5.out.mono ?_;rintro e w6 ⟨rfl,T6,m1,m2⟩;have M1:=hid m1;have M2:=hid (HST5.out T6 m2);clear m1 m2;go_wp2;go_returns;exact⟨rfl,T6,root',M1.out,M2.out⟩
theorem TG.whole{s root:Nat}:∀{k:List Fr} {t:Tr} {q x:Nat},TG T s root q x D k t->TG T s root s root D [] (vO k t)
 |[],t,q,x,h=>by have:=h.cx;obtain⟨rfl,rfl⟩:=this;exact h
 |f::k,t,q,x,h=>h.up.2.whole
def qS(T T':NM):Prop:=∀i,(T' i).b=(T i).b/\(T' i).e=(T i).e
theorem qS.refl(T:NM):qS T T:=λ_=>⟨rfl,rfl⟩
theorem qS.trans{a b c:NM}(h:qS a b)(k:qS b c):qS a c:=λi=>⟨(k i).1.trans (h i).1,(k i).2.trans (h i).2⟩
theorem qS.onlyC(h:xA T T'):qS T T':=λi=>⟨(h i).1,(h i).2.1⟩
theorem qS.bec(h:∀i,Z2 (T i) (T' i)):qS T T':=λi=>⟨(h i).1,(h i).2.1⟩
structure Kin(T:NM)(s z p g:Nat)(D:Nat->Prop)(k:List Fr):Prop where
 zp:(T z).p=p
 pg:(T p).p=g
 ne:z≠p/\z≠g/\p≠g/\z≠s/\p≠s/\g≠s
 d:D z/\D p/\D g
 sp:p∉qE k/\g∉qE k
theorem TG.kin{s root:Nat}{g:Fr}{k:List Fr}{l r:Tr}(h:TG T s root q z D (f::g::k) (.node z l r)):Kin T s z f.i g.i D k:=by
 have h1:=h.up;have h2:=h1.2.up;have zz:z∈(Tr.node z l r).ids:=by simp[Tr.ids]
 have pp:f.i∈zC (f::g::k):=by simp[zC]
 have gg:g.i∈zC (f::g::k):=by simp[zC]
 obtain⟨n1,n2,n3⟩:=qa h.nd;have hfk:zC (f::g::k)=f.i::f.sib.ids++zC (g::k):=rfl;have hgk:zC (g::k)=g.i::g.sib.ids++zC k:=rfl;rw[hfk]at n2;obtain⟨m1,m2,m3⟩:=qa n2;rw[hgk]at m2;obtain⟨o1,o2,o3⟩:=qa m2;have pg:f.i≠g.i:=λe=>m3 f.i (by simp) (by rw[hgk,e];simp);refine⟨?_,h2.1,⟨λe=>n3 z zz (by rw[e];exact pp),λe=>n3 z zz (by rw[e];exact gg),pg,h.is.ne z zz,h.cx.ne _ pp,h.cx.ne _ gg⟩,⟨h.dk z (by simp[zz]),h.dk _ (by simp[pp]),h.dk _ (by simp[gg])⟩,λe=>m3 f.i (by simp) (by rw[hgk];simp[zq e]),λe=>o3 g.i (by simp) (zq e)⟩;rw[<-h1.1];exact h.is.2.2.1
theorem TG.uncle{s root:Nat}{g:Fr}{k:List Fr}{l r:Tr}(h:TG T s root q z D (f::g::k) (.node z l r))(u:Nat)(hu:u=s\/u∈g.sib.ids)(hs:u≠s):D u/\u≠z/\u≠f.i/\u≠g.i/\u∉qE k:=by
 have hu:=hu.resolve_left hs;have uu:u∈zC (f::g::k):=by simp[zC,hu]
 obtain⟨n1,n2,n3⟩:=qa h.nd;have hfk:zC (f::g::k)=f.i::f.sib.ids++zC (g::k):=rfl;have hgk:zC (g::k)=g.i::g.sib.ids++zC k:=rfl;rw[hfk]at n2;obtain⟨m1,m2,m3⟩:=qa n2;rw[hgk]at m2;obtain⟨o1,o2,o3⟩:=qa m2;rw[List.nodup_cons]at o1;exact⟨h.dk u (by simp[uu]),λe=>n3 z (by simp[Tr.ids]) (by rw[<-e];exact uu),λe=>m3 f.i (by simp) (by rw[hgk,<-e];simp[hu]),λe=>o1.1 (e▸hu),λe=>o3 u (by simp[hu]) (zq e)⟩
theorem TG.turnR{T5 T6:NM}{s root root' q' p g:Nat}{k:List Fr}{l r b u:Tr}(h:TG T s root q z D (.L p b::.L g u::k) (.node z l r))(hrb:(T root).c=false)
  (h5:T5=(T.set p ((T p).sc false)).set g ((T g).sc true))(h6:TG T6 s root' q' p D k (.node p (.node z l r) (.node g b u)))(hb:∀i,Z2 (T5 i) (T6 i)):
  FX T6 s root' z D (.L p (.node g b u)::k) l r:=by
 obtain⟨_,hd⟩:=h6.downL;have hz:=hd.is.1;rw[hz]at hd;have kin:Kin T s z p g D k:=h.kin;obtain⟨_,_,npg,_,_,_⟩:=kin.ne;have c5p:(T5 p).c=false:=by rw[h5,NM.set_ne _ _ npg,NM.set_same]
 refine⟨⟨_,hd⟩,λ_=> ?_⟩;rw[(hb root').2.2];by_cases hk:k=[]
 ·subst hk;have:=h6.cx.1;rw[this];exact c5p
 ·have hr:=(h.up.2.up.2).cx.root_eq h6.cx hk;have hm:=(h.up.2.up.2).cx.root_mem hk;rw[hr,h5,NM.set_ne _ _ (λe:root=g=>kin.sp.2 (e▸hm)),NM.set_ne _ _ (λe:root=p=>kin.sp.1 (e▸hm))];exact hrb
theorem TG.turnL{T5 T6:NM}{s root root' q' p g:Nat}{k:List Fr}{l r b u:Tr}(h:TG T s root q z D (.R p b::.R g u::k) (.node z l r))(hrb:(T root).c=false)
  (h5:T5=(T.set p ((T p).sc false)).set g ((T g).sc true))(h6:TG T6 s root' q' p D k (.node p (.node g u b) (.node z l r)))(hb:∀i,Z2 (T5 i) (T6 i)):
  FX T6 s root' z D (.R p (.node g u b)::k) l r:=by
 obtain⟨_,hd⟩:=h6.downR;have hz:=hd.is.1;rw[hz]at hd;have kin:Kin T s z p g D k:=h.kin;obtain⟨_,_,npg,_,_,_⟩:=kin.ne;have c5p:(T5 p).c=false:=by rw[h5,NM.set_ne _ _ npg,NM.set_same]
 refine⟨⟨_,hd⟩,λ_=> ?_⟩;rw[(hb root').2.2];by_cases hk:k=[]
 ·subst hk;have:=h6.cx.1;rw[this];exact c5p
 ·have hr:=(h.up.2.up.2).cx.root_eq h6.cx hk;have hm:=(h.up.2.up.2).cx.root_mem hk;rw[hr,h5,NM.set_ne _ _ (λe:root=g=>kin.sp.2 (e▸hm)),NM.set_ne _ _ (λe:root=p=>kin.sp.1 (e▸hm))];exact hrb
theorem XB(k:List Fr)(z p g:Nat)(l r b u:Tr):(vO (.L p (.node g b u)::k) (.node z l r)).ids=(vO (.L p b::.L g u::k) (.node z l r)).ids:=by simp only[jS,Jl,Jm,Tr.ids];simp
theorem XC(k:List Fr)(z p g:Nat)(l r b u:Tr):(vO (.R p (.node g u b)::k) (.node z l r)).ids=(vO (.R p b::.R g u::k) (.node z l r)).ids:=by simp only[jS,Jl,Jm,Tr.ids];simp
theorem zby(k:List Fr)(z p:Nat)(l r a:Tr)(f:Fr):(vO (.L z r::f::k) (.node p a l)).ids=(vO (.R p a::f::k) (.node z l r)).ids:=by cases f<;>(simp only[jS,Jl,Jm,Tr.ids];simp)
theorem zbz(k:List Fr)(z p:Nat)(l r a:Tr)(f:Fr):(vO (.R z l::f::k) (.node p r a)).ids=(vO (.L p a::f::k) (.node z l r)).ids:=by cases f<;>(simp only[jS,Jl,Jm,Tr.ids];simp)
def jb(n:Nat):Bytes:=if n<128 then [UInt8.ofNat n]else [UInt8.ofNat (n % 128+128),UInt8.ofNat (n/128)]
inductive jo where
 |B(k:Nat)(v:Bytes)
 |I(k n:Nat)
def jo.enc:jo->Bytes
 |.B k v=>jb (k*8+2)++(jb v.length++v)
 |.I k n=>jb (k*8)++jb n
def jo.ok:jo->Prop
 |.B k v=>1<=k/\k<=15/\v.length<16384
 |.I k n=>1<=k/\k<=15/\n<128
def zW(fs:List jo):Bytes:=fs.flatMap jo.enc
theorem kW(f:jo)(fs:List jo):zW (f::fs)=f.enc++zW fs:=rfl
theorem jc(a b:List jo):zW (a++b)=zW a++zW b:=List.flatMap_append ..
theorem WH(n:Nat):(jb n).length=if n<128 then 1 else 2:=by unfold jb;split<;>rfl
theorem vj(n:Nat):1<=(jb n).length/\(jb n).length<=2:=by rw[WH];split<;>omega
theorem Kx(f:jo):0<f.enc.length:=by
 cases f with
 |B k v=>simp only[jo.enc,List.length_append];have:=vj (k*8+2);omega
 |I k n=>simp only[jo.enc,List.length_append];have:=vj (k*8);omega
theorem Qt{fs:List jo}:zW fs=[]↔fs=[]:=by
 cases fs with
 |nil=>simp[zW]
 |cons f fs=>
  rw[kW];have:=Kx f;constructor
  ·intro h;have:(f.enc++zW fs).length=0:=by rw[h];rfl
   rw[List.length_append]at this;omega
  ·intro h;cases h
structure zh where
 kind:Nat
 key:Bytes
 stop:Bytes
deriving DecidableEq
structure zj where
 name:Bytes
 roles:List Bytes
structure zm where
 name:Bytes
 perms:List zh
def fB(k:Nat)(v:Bytes):List jo:=if v=[]then []else [.B k v]
def zh.flds(p:zh):List jo:=(if p.kind=0 then []else [.I 1 p.kind])++(fB 2 p.key++fB 3 p.stop)
def zj.flds(u:zj):List jo:=fB 1 u.name++(u.roles.map (jo.B 3)++[.B 4 [8,1]])
def zh.enc(p:zh):Bytes:=zW p.flds
def zj.enc(u:zj):Bytes:=zW u.flds
def zm.flds(r:zm):List jo:=fB 1 r.name++r.perms.map λp=>.B 2 p.enc
def zm.enc(r:zm):Bytes:=zW r.flds
def Yy(w:World)(v:Value)(l:Bytes):Prop:=w.ownsRow 0 5 1 v l.length (l.map qr)
theorem Yy.nil(w:World):Yy w (.slice none 0 0) []:=World.ownsRow_nil _ _ _ _
theorem Yy.bs{w:World}{l:Bytes}(h:Yy w v l):Bs w.cell? l v:=Bs.of_sl (Sl.of_own h)
theorem Yy.shape{w:World}{l:Bytes}(h:Yy w v l):∃p n c,v=.slice p n c:=(Sl.of_own h).shape
structure Zi(w w':World)(v v':Value):Prop where
 mod:zo (λj=>v.ownBlock=some j) w w'
 row:∀b,v'.ownBlock=some b->v.ownBlock=some b\/w.heap.size<=b
theorem Zi.refl(w:World)(v:Value):Zi w w v v:=⟨zo.refl _ _,λ_ h=>Or.inl h⟩
theorem Zi.trans{a b c:World}{u x:Value}(h:Zi a b u v)(k:Zi b c v x):Zi a c u x:=
 ⟨zo.trans h.mod k.mod λj hj e=>(h.row j e).resolve_right (Nat.not_le.2 hj),λj e=>by
  rcases k.row j e with e|e
  ·exact h.row j e
  ·exact Or.inr (Nat.le_trans h.mod.size e)⟩
theorem zdU:∀m,m<256->m|||128=m % 128+128:=by decide
theorem Uw(k:Nat):bits .or .u8 ((k:Int)% 256) 128=(k:Int)% 128+128:=by
 have h1:(k:Int)% 256=((k % 256:Nat):Int):=by omega
 rw[h1];have:=(bits_nat .u8 8 (by decide) wraps_u8 (k % 256) 128 (by omega) (by decide)).2;rw[zdU _ (by omega)]at this;rw[show((128:Int))=((128:Nat):Int)from rfl,this];omega
variable{v5 xv:Value}{w5:World}
theorem gD{w:World}{l xs:Bytes}{x:UInt8}{T:TypeId}(hxs:xs=[x])(hx:qr x=xv)(ho:w5.ownsRow 0 5 1 v5 (l.length+1) (l.map qr++[xv]))(hg:(w.alloc (.cells #[xv] T)).grownBy w5 v.ownBlock)
  (hf:∀b,v5.ownBlock=some b->v.ownBlock=some b\/w.heap.size+1<=b):Yy w5 v5 (l++xs)/\Zi w w5 v v5:=by
 subst hxs;refine⟨?_,⟨?_,λb hb=> ?_⟩⟩
 ·unfold Yy;rw[List.map_append,List.length_append];show w5.ownsRow 0 _ 1 v5 (l.length+1) (l.map qr++[qr x]);rw[hx];exact ho
 ·have h0:za w (w.alloc (.cells #[xv] T)):=(za.refl w).alloc _;have h1:zo (λj=>v.ownBlock=some j) (w.alloc (.cells #[xv] T)) w5:=zo.of_grown hg;exact zo.trans (h0.mod _) h1 λ_ _ e=>e
 ·rcases hf b hb with e|e
  ·exact Or.inl e
  ·right;omega
theorem uq{w:World}{l:Bytes}(hk:k<128)(hl:l.length<=1000000)(hown:Yy w v l):
  Calls prog 289 #[v,.int .u64 k] w λe w'=>∃v',e=.returned v'/\Yy w' v' (l++jb k)/\Zi w w' v v':=by
 obtain⟨p,n,c,rfl⟩:=hown.shape;have hv:jb k=[UInt8.ofNat k]:=by unfold jb;rw[if_pos hk]
 have hb:qr (UInt8.ofNat k)=.int .u8 k:=by show Value.int .u8 ((UInt8.ofNat k).toNat:Int)=_;rw[UInt8.toNat_ofNat',Nat.mod_eq_of_lt (by omega)]
 have hw8:IntKind.u8.wrap (k:Int)=(k:Int):=by rw[IntKind.wrap_u8];omega
 have hlt: ¬(128:Int)<=(k:Int):=by omega
 have HOWN:=hid hown;clear hown;have HV:=hid hv;clear hv;have HB:=hid hb;clear hb;have hbd:(l.length+1)*(1+1)<=140737488355328:=by omega
 go_enter func289,ntmps289;go_wp2;refine wp_loop_rounds 1 ?_;rw[rounds_succ];go_wp2_with (at_builtin;go_must (refine qN jD rfl rfl (World.ownsRow.alloc HOWN.out _) rfl rfl (news:=[.int .u8 k]) (Sl.made w [.int .u8 k] _ 1 1 rfl (by omega)) (by intro u hu;rw[List.mem_singleton]at hu;rw[hu];rfl) (by simpa using hbd) ?_));intro v5 w5 ho hg hf;have HG:=hid (gD (HV.out) HB.out ho hg hf);clear ho hg hf;obtain⟨p5,n5,c5,rfl⟩:=HG.out.1.shape;go_wp2;go_returns;exact⟨_,rfl,HG.out⟩
theorem ut{w:World}{l:Bytes}(hk: ¬k<128)(hk2:k<16384)(hl:l.length<=1000000)(hown:Yy w v l):
  Calls prog 289 #[v,.int .u64 k] w λe w'=>∃v',e=.returned v'/\Yy w' v' (l++jb k)/\Zi w w' v v':=by
 obtain⟨p,n,c,rfl⟩:=hown.shape;have hv:jb k=[UInt8.ofNat (k % 128+128),UInt8.ofNat (k/128)]:=by unfold jb;rw[if_neg hk]
 have hb1:qr (UInt8.ofNat (k % 128+128))=.int .u8 ((k:Int)% 128+128):=by show Value.int .u8 ((UInt8.ofNat (k % 128+128)).toNat:Int)=_;rw[UInt8.toNat_ofNat',Nat.mod_eq_of_lt (by omega)];simp
 have hb2:qr (UInt8.ofNat (k/128))=.int .u8 ((k:Int)/128):=by show Value.int .u8 ((UInt8.ofNat (k/128)).toNat:Int)=_;rw[UInt8.toNat_ofNat',Nat.mod_eq_of_lt (by omega)];simp
 have hor:=Uw k;have hge:(128:Int)<=(k:Int):=by omega
 have hge2: ¬(128:Int)<=(k:Int)/128:=by omega
 have HOWN:=hid hown;clear hown;have HV:=hid hv;clear hv;have HB1:=hid hb1;clear hb1;have HB2:=hid hb2;clear hb2;have hbd:(l.length+1)*(1+1)<=140737488355328:=by omega
 go_enter func289,ntmps289;go_wp2;refine wp_loop_rounds 2 ?_;rw[rounds_succ];go_wp2_with (at_builtin;go_must (refine qN jD rfl rfl (World.ownsRow.alloc HOWN.out _) rfl rfl (news:=[.int .u8 ((k:Int)% 128+128)]) (Sl.made w [.int .u8 ((k:Int)% 128+128)] _ 1 1 rfl (by omega)) (by intro u hu;rw[List.mem_singleton]at hu;rw[hu];rfl) (by simpa using hbd) ?_));intro v5 w5 ho hg hf;obtain⟨g1,g2⟩:=gD (xs:=[UInt8.ofNat (k % 128+128)]) rfl HB1.out ho hg hf;obtain⟨p5,n5,c5,rfl⟩:=g1.shape;have G1:=hid g1;have G2:=hid g2;clear g1 g2 ho hg hf;go_wp2;rw[rounds_succ];go_wp2_with (at_builtin;go_must (refine qN jD rfl rfl (World.ownsRow.alloc G1.out _) rfl rfl (news:=[.int .u8 ((k:Int)/128)]) (Sl.made w5 [.int .u8 ((k:Int)/128)] _ 1 1 rfl (by omega)) (by intro u hu;rw[List.mem_singleton]at hu;rw[hu];rfl) (by simp;omega) ?_));intro v6 w6 ho hg hf
 have ho':w6.ownsRow 0 5 1 v6 ((l++[UInt8.ofNat (k % 128+128)]).length+1) ((l++[UInt8.ofNat (k % 128+128)]).map qr++[.int .u8 ((k:Int)/128)]):=by simpa using ho
 obtain⟨g3,g4⟩:=gD (xs:=[UInt8.ofNat (k/128)]) rfl HB2.out ho' hg hf;obtain⟨p6,n6,c6,rfl⟩:=g3.shape;have G3:=hid g3;have G4:=hid (G2.out.trans g4);clear g3 g4 ho hg hf;go_wp2;go_returns;exact⟨_,rfl,by rw[HV.out];simpa using G3.out,G4.out⟩
theorem ZP{w:World}{l:Bytes}(hk:k<16384)(hl:l.length<=1000000)(hown:Yy w v l):
  Calls prog 289 #[v,.int .u64 k] w λe w'=>∃v',e=.returned v'/\Yy w' v' (l++jb k)/\Zi w w' v v':=by
 by_cases h:k<128
 ·exact uq h hl hown
 ·exact ut h hk hl hown
def GD(v xv:Value):Prop:=∀b,xv.ownBlock=some b->v.ownBlock≠some b
theorem Bs.at{x:Bytes}(h:Bs r x xv)(h0:x≠[]):∃b o n c,xv=.slice (some ⟨b,o,none⟩) n c/\x.length=n/\∃u,r ⟨b,o,none⟩=some u:=by
 obtain⟨p,n,c,rfl,hl,hn,hc,hp,h5⟩:=h;rcases h5 with h5|⟨b,o,rfl,hcc⟩
 ·exact absurd (List.eq_nil_of_length_eq_zero (by omega)) h0
 ·have h1:0<x.length:=by
   cases x with
   |nil=>exact absurd rfl h0
   |cons a l=>simp
  exact⟨b,o,n,c,rfl,hl,_,by simpa using hcc 0 h1⟩
theorem Zi.bs{w:World}{v':Value}{x:Bytes}(h:Zi w w' v v')(hx:Bs w.cell? x xv)(h0:x≠[])(ha:GD v xv):Bs w'.cell? x xv/\GD v' xv:=by
 have h1:Bs (im (λj=>v.ownBlock=some j) w) x xv:=hx.im_of λb hb e=>ha b hb e;refine⟨(h1.mono (h.mod.im (S':=λj=>v.ownBlock=some j) (S:=λj=>v.ownBlock=some j) λ_ _ e=>e)).mono (zd _ _),λb hb e=> ?_⟩;obtain⟨b',o,n,c,rfl,_,u,hu⟩:=hx.at h0;have hbb:b'=b:=by simpa[Value.ownBlock]using hb
 subst hbb;rcases h.row _ e with e|e
 ·exact ha _ hb e
 ·have:=World.block_lt_of_cell? w _ hu;simp at this;omega
theorem or2:∀f,f<16->(f*8)|||2=f*8+2:=by decide
theorem WI{f:Nat}(hf:f<16):bits .or .u64 ((f:Int)*8) 2=(f:Int)*8+2:=by have:=bits_or_u64_nat (f*8) 2 (by omega) (by omega);rw[or2 f hf]at this;rw[show((f:Int)*8)=((f*8:Nat):Int) by omega,show(2:Int)=((2:Nat):Int)from rfl,this];omega
theorem GE{w:World}{l:Bytes}{f:Nat}(hf:f<16)(hk0:0<k)(hk:k<128)(hl:l.length<=900000)(hown:Yy w v l):
  Calls prog 286 #[v,.int .i64 f,.int .i64 k] w λe w'=>∃v',e=.returned v'/\Yy w' v' (l++(jo.I f k).enc)/\Zi w w' v v':=by
 have h1:=ZP (k:=f*8) (by omega) (by omega) hown;have h2:∀W u,Yy W u (l++jb (f*8))->Calls prog 289 #[u,.int .u64 k] W λe w'=>∃v',e=.returned v'/\Yy w' v' ((l++jb (f*8))++jb k)/\Zi W w' u v':=λW u h=>ZP (by omega) (by have:=(vj (f*8)).2;rw[List.length_append];omega) h;rw[show((f*8:Nat):Int)=(f:Int)*8 by omega]at h1;have H1:=hid h1;clear h1;have H2:=hid h2;clear h2;obtain⟨p,n,c,rfl⟩:=hown.shape;have hk0':((k:Int)==0)=false:=by simp;omega
 have hf0:(0:Int)<=f:=by omega
 have hf1:(f:Int)<=15:=by omega
 have hk1:(0:Int)<=k:=by omega
 have hk2:(k:Int)<=127:=by omega
 clear hown;go_enter func286,ntmps286;go_wp2_with fail;refine H1.out.mono ?_;rintro e w1 ⟨v1,rfl,g1,g2⟩;obtain⟨p1,n1,c1,rfl⟩:=g1.shape;have HH:=hid (H2.out _ _ g1);have G2:=hid g2;clear g1 g2;go_wp2_with fail;refine HH.out.mono ?_;rintro e w2 ⟨v2,rfl,g3,g4⟩;obtain⟨p2,n2,c2,rfl⟩:=g3.shape;have G3:=hid g3;have G4:=hid (G2.out.trans g4);clear g3 g4;go_wp2;go_returns;exact⟨_,rfl,by have:=G3.out;rw[List.append_assoc]at this;exact this,G4.out⟩
theorem QY{w:World}{l x:Bytes}{f:Nat}(hf:f<16)(hx0:x≠[])(hxl:x.length<16384)(hl:l.length<=900000)(hown:Yy w v l)(hx:Bs w.cell? x xv)(ha:GD v xv):
  Calls prog 287 #[v,.int .i64 f,xv] w λe w'=>∃v',e=.returned v'/\Yy w' v' (l++(jo.B f x).enc)/\Zi w w' v v':=by
 have h1:=ZP (k:=f*8+2) (by omega) (by omega) hown;have hlen1:(l++jb (f*8+2)).length<=900002:=by have:=(vj (f*8+2)).2;rw[List.length_append];omega
 have h2:∀W u,Yy W u (l++jb (f*8+2))->Calls prog 289 #[u,.int .u64 x.length] W λe w'=>∃v',e=.returned v'/\Yy w' v' ((l++jb (f*8+2))++jb x.length)/\Zi W w' u v':=λW u h=>ZP (by omega) (by omega) h;have hor:=WI hf;rw[show((f*8+2:Nat):Int)=(f:Int)*8+2 by omega]at h1;have H1:=hid h1;clear h1;have H2:=hid h2;clear h2;have HX:=hid (And.intro hx ha);have HX0:=hid hx0;obtain⟨p,n,c,rfl⟩:=hown.shape;obtain⟨xb,xo,xn,xc,rfl,hxn,_⟩:=hx.at hx0;subst hxn;have hf0:(0:Int)<=f:=by omega
 have hf1:(f:Int)<=15:=by omega
 have hx1:(0:Int)<=x.length:=by omega
 have hx2:(x.length:Int)<=16383:=by omega
 have HLEN:Hid ((l++jb (f*8+2)++jb x.length).length<=900004):=hid (by have:=(vj x.length).2;rw[List.length_append];omega);clear hown hx ha hx0 hlen1;go_enter func287,ntmps287;go_wp2_with fail;refine H1.out.mono ?_;rintro e w1 ⟨v1,rfl,g1,g2⟩;obtain⟨p1,n1,c1,rfl⟩:=g1.shape;have HH:=hid (H2.out _ _ g1);have HX1:=hid (g2.bs HX.out.1 HX0.out HX.out.2);have G2:=hid g2;clear g1 g2 H1 H2;go_wp2_with fail;refine HH.out.mono ?_;rintro e w2 ⟨v2,rfl,g3,g4⟩;obtain⟨p2,n2,c2,rfl⟩:=g3.shape;have HX2:=hid (g4.bs HX1.out.1 HX0.out HX1.out.2);have G3:=hid g3;have G4:=hid (G2.out.trans g4);clear g3 g4 HH HX1;have hbd:(((l++jb (f*8+2)++jb x.length).map qr).length+(x.map qr).length)*(1+1)<=140737488355328:=by have:=HLEN.out;rw[List.length_map,List.length_map];omega
 go_wp2_with (at_builtin;go_must (refine qN jD rfl rfl G3.out rfl rfl (news:=x.map qr) HX2.out.1.sl (jH x) hbd ?_));intro v5 w5 ho hg hf5;have G5:Hid (Yy w5 v5 ((l++jb (f*8+2)++jb x.length)++x)/\Zi w2 w5 (.slice p2 n2 c2) v5):=hid ⟨by unfold Yy;rw[List.map_append,List.length_append];simpa using ho,zo.of_grown hg|>.mono λ_ _ e=>e,λb hb=>by rcases hf5 b hb with e|e;exact Or.inl e;exact Or.inr e⟩;obtain⟨p5,n5,c5,rfl⟩:=G5.out.1.shape;clear ho hg hf5 hbd;go_wp2;go_returns;exact⟨_,rfl,by have:=G5.out.1;simp only[List.append_assoc]at this;exact this,G4.out.trans G5.out.2⟩
variable{rest:Bytes}
theorem uw{l:Bytes}(h:Bs r (l++rest) v):
  ∃v',(∀W,(Instr.slice 75 v (some (.int .i64 l.length)) none none).run prog W=.ok v' W)/\Bs r rest v':=by
 obtain⟨v',h1,h2⟩:=k_ jD h.sl l.length (by simp);refine⟨v',h1,Bs.of_sl ?_⟩;have:((l++rest).map qr).drop (l.length*1)=rest.map qr:=by simp
 rw[this]at h2;exact h2
variable{n:Nat}
theorem Bs.cellAt{l:Bytes}{o:Nat}(h:Bs r l (.slice (some ⟨b,o,none⟩) n c))(i:Nat)(hi:i<l.length):r ⟨b,o+i,none⟩=some (qr l[i]):=by
 obtain⟨p,n',c',e,hl,hn,hc,hp,h5⟩:=h;simp only[Value.slice.injEq]at e;obtain⟨rfl,rfl,rfl⟩:=e;rcases h5 with h5|⟨b',o',e,hcc⟩
 ·omega
 ·simp only[Option.some.injEq,Addr.mk.injEq]at e;obtain⟨rfl,rfl,_⟩:=e;exact hcc i hi
theorem zcY:∀m,m<256->m &&& 127=m % 128:=by decide
theorem Qu(k:Nat)(hk:k<256):bits .and .u8 k 127=((k % 128:Nat):Int):=by have:=(bits_nat .u8 8 (by decide) wraps_u8 k 127 (by omega) (by decide)).1;rw[zcY _ hk]at this;rw[<-this];rfl
theorem gE{w:World}(hr:r.le w.cell?)(hk:k<128)(h:Bs r (jb k++rest) v):
  Calls prog 307 #[v] w λe w'=>∃v' m,e=.returned (.tuple #[.int .u64 k,v',.bool true])/\w'=w.drewN m/\Bs r rest v':=by
 have hv:jb k=[UInt8.ofNat k]:=by unfold jb;rw[if_pos hk]
 rw[hv]at h;obtain⟨v',hsl,hb'⟩:=uw h;obtain⟨b,o,n,c,rfl,hn,_⟩:=h.at (by simp);have hc0:=(h.mono hr).cellAt 0 (by simp);have hb1:qr (UInt8.ofNat k)=.int .u8 k:=by show Value.int .u8 ((UInt8.ofNat k).toNat:Int)=_;rw[UInt8.toNat_ofNat',Nat.mod_eq_of_lt (by omega)]
 have hc1:w.cell? ⟨b,o,none⟩=some (.int .u8 k):=by rw[<-hb1];simpa using hc0
 have hn1:1<=n:=by rw[<-hn];simp
 have hand:=Qu k (by omega);rw[Nat.mod_eq_of_lt hk]at hand;have hsl:∀W,(Instr.slice 75 (.slice (some ⟨b,o,none⟩) n c) (some (.int .i64 1)) none none).run prog W=.ok v' W:=hsl;have HSL:=hid hsl;have HB:=hid hb';clear h hc0 hb' hv hn;go_enter func307,ntmps307;go_wp2;refine wp_loop_rounds 1 ?_;rw[rounds_succ];go_wp2_with fail
 ·have hor:bits .or .u64 0 (k:Int)=k:=by
   have:=bits_or_u64_nat 0 k (by decide) (by omega);rw[Nat.zero_or]at this;exact this
  rw[hor];go_quiet (fail);go_wp2;go_returns;exact⟨_,_,rfl,rfl,HB.out⟩
theorem gF{w:World}(hr:r.le w.cell?)(hk: ¬k<128)(hk2:k<16384)(h:Bs r (jb k++rest) v):
  Calls prog 307 #[v] w λe w'=>∃v' m,e=.returned (.tuple #[.int .u64 k,v',.bool true])/\w'=w.drewN m/\Bs r rest v':=by
 have hv:jb k=[UInt8.ofNat (k % 128+128),UInt8.ofNat (k/128)]:=by unfold jb;rw[if_neg hk]
 rw[hv]at h;obtain⟨v',hsl,hb'⟩:=uw h;obtain⟨b,o,n,c,rfl,hn,_⟩:=h.at (by simp);have hc0:=(h.mono hr).cellAt 0 (by simp);have hc1:=(h.mono hr).cellAt 1 (by simp);have hb1:qr (UInt8.ofNat (k % 128+128))=.int .u8 ((k:Int)% 128+128):=by show Value.int .u8 ((UInt8.ofNat (k % 128+128)).toNat:Int)=_;rw[UInt8.toNat_ofNat',Nat.mod_eq_of_lt (by omega)];simp
 have hb2:qr (UInt8.ofNat (k/128))=.int .u8 ((k:Int)/128):=by show Value.int .u8 ((UInt8.ofNat (k/128)).toNat:Int)=_;rw[UInt8.toNat_ofNat',Nat.mod_eq_of_lt (by omega)];simp
 have hc0:w.cell? ⟨b,o,none⟩=some (.int .u8 ((k:Int)% 128+128)):=by rw[<-hb1];simpa using hc0
 have hc1:w.cell? ⟨b,o+1,none⟩=some (.int .u8 ((k:Int)/128)):=by rw[<-hb2];simpa using hc1
 have hn1:2<=n:=by rw[<-hn];simp
 have hand:bits .and .u8 ((k:Int)% 128+128) 127=(k:Int)% 128:=by have:=Qu (k % 128+128) (by omega);rw[show((k:Int)% 128+128)=((k % 128+128:Nat):Int) by omega,this];omega
 have hand2:bits .and .u8 ((k:Int)/128) 127=(k:Int)/128:=by have:=Qu (k/128) (by omega);rw[show((k:Int)/128)=((k/128:Nat):Int) by omega,this];omega
 have hor0:bits .or .u64 0 ((k:Int)% 128)=(k:Int)% 128:=by have:=bits_or_u64_nat 0 (k % 128) (by decide) (by omega);rw[Nat.zero_or]at this;rw[show((k:Int)% 128)=((k % 128:Nat):Int) by omega];exact this
 have hor:bits .or .u64 ((k:Int)% 128) ((k:Int)/128*128)=k:=by
  have:=bits_or_u64_nat (k % 128) (k/128*128) (by omega) (by omega);have h2:(k % 128)|||(k/128*128)=k:=by
   have:=Nat.two_pow_add_eq_or_of_lt (i:=7) (b:=k % 128) (Nat.mod_lt _ (by decide)) (k/128);rw[Nat.or_comm,Nat.mul_comm];rw[show(128:Nat)=2 ^ 7 from rfl]at*
   rw[<-this];omega
  rw[h2]at this;rw[show((k:Int)% 128)=((k % 128:Nat):Int) by omega,show((k:Int)/128*128)=((k/128*128:Nat):Int) by omega,this]
 have hsl:∀W,(Instr.slice 75 (.slice (some ⟨b,o,none⟩) n c) (some (.int .i64 2)) none none).run prog W=.ok v' W:=hsl;have hge:(128:Int)<=(k:Int)% 128+128:=by omega
 have hge2: ¬(128:Int)<=(k:Int)/128:=by omega
 have HSL:=hid hsl;have HB:=hid hb';clear h hb' hv hn;go_enter func307,ntmps307;go_wp2;refine wp_loop_rounds 2 ?_;rw[rounds_succ];go_wp2_with fail;rw[rounds_succ];go_wp2_with fail
 ·go_quiet (fail);go_wp2;go_returns;exact⟨_,_,rfl,rfl,HB.out⟩
theorem xU{w:World}(hr:r.le w.cell?)(hk:k<16384)(h:Bs r (jb k++rest) v):
  Calls prog 307 #[v] w λe w'=>∃v' m,e=.returned (.tuple #[.int .u64 k,v',.bool true])/\w'=w.drewN m/\Bs r rest v':=by
 by_cases h1:k<128
 ·exact gE hr h1 h
 ·exact gF hr h1 hk h
variable{bytes sz:Nat}{e:TypeId}
theorem Zj{w:World}{ops:Array Oper}{o:Oper}{a:Act}{K:Act->World->Prop}{Q:Exit->Act->World->Prop}{EE:Prop}{t:TypeId}{z:Value}
  (E:yB P t e z sz bytes)(hgd:o.guard=none){s x:Operand}(ho:o.op=.call {callee:=.builtin .append,args:= #[s,x],argTypes:= #[t,t]})
  {v:Value}{n:Nat}{xs:List Value}(hown:w.ownsRow 0 e sz v n xs)(hs:a.eval s=v)
  {ad:Addr}{m c:Nat}{news:List Value}(hx:a.eval x=.slice (some ad) m c)(hnews:Sl w.cell? sz news (.slice (some ad) m c))(h1:∀u∈news,u.oneCell'=true)
  (hbytes:(xs.length+news.length)*(bytes+1)<=140737488355328)
  (h:∀v' w',w'.ownsRow 0 e sz v' (n+m) (xs++news)->w.grownBy w' v.ownBlock->(∀b,v'.ownBlock=some b->v.ownBlock=some b\/w.heap.size<=b)->K (a.put o.dst v') w'):
  if Region.wanted o (yielded ops a.tmps)=true then Oper.wp P o a w K Q else EE:=by
 have hw:Region.wanted o (yielded ops a.tmps)=true:=by simp[Region.wanted,hgd]
 rw[if_pos hw];obtain⟨i,hi,hz,hsz,hby⟩:=info_parts E.info;obtain⟨p,m',c',e0,hl,hmc,hc,hpc,hcells⟩:=hnews;simp only[Value.slice.injEq]at e0;obtain⟨rfl,rfl,rfl⟩:=e0;have hlx:xs.length=n*sz:=hown.1;have hpos:=E.pos;have hnx:n<=xs.length:=by rw[hlx];exact Nat.le_mul_of_pos_right _ hpos
 have hmn:m<=news.length:=by rw[hl];exact Nat.le_mul_of_pos_right _ hpos
 have h63:n+m<=maxLen:=by have:(xs.length+news.length)*1<=(xs.length+news.length)*(bytes+1):=Nat.mul_le_mul_left _ (by omega);simp only[maxLen];omega
 have hb2:(n+m)*bytes<=140737488355328:=Nat.le_trans (Nat.mul_le_mul (by omega) (by omega)) hbytes;have hnw:∀j u,news[j]? =some u->w.cell? (ad.add j)=some u:=by
  intro j u hj;rcases hcells with hc0|⟨b,o',hp,hcc⟩
  ·subst hc0;simp at hj
  ·simp only[Option.some.injEq]at hp;subst hp;have hjl:j<news.length:=(List.getElem?_eq_some_iff.1 hj).1;have e1:(⟨b,o',none⟩:Addr).add j=⟨b,o'+j,none⟩:=by unfold Addr.add;split<;>simp_all
   rw[e1,hcc j hjl,<-hj,List.getElem?_eq_getElem hjl]
 obtain⟨v',w',hr,h2,h3,_⟩:=run_append_own (P:=P) w 0 t o.type e i z sz bytes E.under hi hz hsz hby E.zs E.pos v n xs hown ad m c news hl hnw h1 h63 hb2 (Nat.zero_le _);have hbk:=Xs E hown hl hnw h1 h63 hb2 hr;unfold Oper.wp execOp;simp only[ho,resolve,invoke,builtin,Sem.run_bind,Sem.run_pure,Result.andThen_ok,List.map_toArray,List.map_cons,List.map_nil,hs,hx,hr];exact h v' w' h2 h3 hbk
theorem zdV:∀f,f<16->(f*8+2) &&& 7=2/\(f*8) &&& 7=0:=by decide
theorem XH{f:Nat}(hf:f<16):bits .and .u64 ((f:Int)*8+2) 7=2/\bits .and .u64 ((f:Int)*8) 7=0:=by have h1:=bits_and_u64_nat (f*8+2) 7 (by omega) (by decide);have h2:=bits_and_u64_nat (f*8) 7 (by omega) (by decide);rw[(zdV f hf).1]at h1;rw[(zdV f hf).2]at h2;exact⟨by rw[show((f:Int)*8+2)=((f*8+2:Nat):Int) by omega];exact h1,by rw[show((f:Int)*8)=((f*8:Nat):Int) by omega];exact h2⟩
theorem Bs.head{x:Bytes}{p:Option Addr}(h:Bs r (x++rest) (.slice p n c)):Bs r x (.slice p x.length c)/\x.length<=c:=by
 have hn:x.length<=n:=by obtain⟨_,_,_,e,hl,_⟩:=h;simp only[Value.slice.injEq]at e;obtain⟨_,rfl,_⟩:=e;rw[<-hl,List.length_append];omega
 have h1:=h.sl.part 0 x.length (Nat.zero_le _) hn;have e1:(((x++rest).map qr).take (x.length*1)).drop (0*1)=x.map qr:=by rw[List.map_append,Nat.mul_one,List.take_left' (by simp)];rfl
 rw[e1]at h1;have e2:(if c=0 then p else p.map (·.add (0*1)))=p:=by
  split
  ·rfl
  ·cases p with
   |none=>rfl
   |some a=>simp[Addr.add]
 rw[e2,Nat.sub_zero,Nat.sub_zero]at h1;refine⟨Bs.of_sl h1,?_⟩;obtain⟨_,_,_,e,_,q1,_⟩:=h;simp only[Value.slice.injEq]at e;obtain⟨_,rfl,rfl⟩:=e;omega
theorem Bs.tail{x:Bytes}{o:Nat}(h:Bs r (x++rest) (.slice (some ⟨b,o,none⟩) n c)):Bs r rest (.slice (if c=x.length then some ⟨b,o,none⟩else some ⟨b,o+x.length,none⟩) (n-x.length) (c-x.length)):=by
 have hn:n=(x++rest).length:=by obtain⟨_,_,_,e,hl,_⟩:=h;simp only[Value.slice.injEq]at e;obtain⟨_,rfl,_⟩:=e;exact hl.symm
 have h1:=h.sl.part x.length n (by rw[hn,List.length_append];omega) (Nat.le_refl _);have e1:(((x++rest).map qr).take (n*1)).drop (x.length*1)=rest.map qr:=by rw[hn,Nat.mul_one,Nat.mul_one,List.take_of_length_le (by simp),List.map_append,List.drop_left' (by simp)]
 rw[e1]at h1;have e2:(if c=x.length then some (⟨b,o,none⟩:Addr)else (some (⟨b,o,none⟩:Addr)).map (·.add (x.length*1)))=(if c=x.length then some ⟨b,o,none⟩else some ⟨b,o+x.length,none⟩):=by
  split
  ·rfl
  ·simp only[Option.map_some,Nat.mul_one,Option.some.injEq,Addr.add];split<;>simp_all
 rw[e2]at h1;exact Bs.of_sl h1
variable{W:World}
theorem WJ{w:World}{o:Obj}{cs:Obj}(h:W.heap[w.heap.size]? =some cs/\W.heap.size=w.heap.size+1)(hg:(W.alloc o).drew.grownBy w5 (some W.heap.size)):w5.heap[w.heap.size]? =some cs:=by have hm:=zo.of_grown hg;have e1:(W.alloc o).drew.heap=W.heap.push o:=rfl;have h2:=h.2;rw[hm.block _ (by rw[e1,Array.size_push];omega) (by simp only[Option.some.injEq];omega),e1,Array.getElem?_push_lt (by omega),<-h.1,Array.getElem?_eq_getElem]
theorem kZ{w:World}{T:Nat}{x y z u:Value}(h:w.heap[b]? =some (.cells #[x,y,z,u] T (0,0))):
  w.cell? ⟨b,0,none⟩=some x/\w.cell? ⟨b,1,none⟩=some y/\w.cell? ⟨b,2,none⟩=some z/\w.cell? ⟨b,3,none⟩=some u/\w.frozen? ⟨b,0,none⟩=false/\w.frozen? ⟨b,1,none⟩=false/\w.frozen? ⟨b,2,none⟩=false/\w.frozen? ⟨b,3,none⟩=false:=
 ⟨by rw[cell_of_row w b 0 _ _ (0,0) h];rfl,by rw[cell_of_row w b 1 _ _ (0,0) h];rfl,by rw[cell_of_row w b 2 _ _ (0,0) h];rfl,by rw[cell_of_row w b 3 _ _ (0,0) h];rfl,by simp[World.frozen?,h],by simp[World.frozen?,h],by simp[World.frozen?,h],by simp[World.frozen?,h]⟩
theorem WK{w:World}{o:Obj}{x:Bytes}(hN:za w W)(hs:W.heap.size=w.heap.size+1)(ho:w5.ownsRow 0 5 1 v5 (0+x.length) ([]++x.map qr))
  (hg:(W.alloc o).drew.grownBy w5 (Value.slice (some ⟨W.heap.size,0,none⟩) 0 0).ownBlock)(hf:∀b,v5.ownBlock=some b->(Value.slice (some ⟨W.heap.size,0,none⟩) 0 0).ownBlock=some b\/(W.alloc o).drew.heap.size<=b):
  ∀w',zo (λj=>j=w.heap.size) w5 w'->za w w'/\Bs w'.cell? x v5/\(∀b,v5.ownBlock=some b->w.heap.size<=b):=λw' hm=>by
 have hsz:(W.alloc o).drew.heap.size=W.heap.size+1:=Array.size_push ..
 have h5:za w w5:=za.of_grown ((hN.alloc _).drew) hg (λk hk=>by simp only[Value.ownBlock,Option.some.injEq]at hk;omega);have hfr:∀b,v5.ownBlock=some b->w.heap.size<b:=λb hb=>by
  rcases hf b hb with e|e
  ·simp only[Value.ownBlock,Option.some.injEq]at e;omega
  ·omega
 refine⟨zo.trans h5 hm (λj hj e=>by omega),?_,λb hb=>Nat.le_of_lt (hfr b hb)⟩;have hb:Bs w5.cell? x v5:=Bs.of_sl (by simpa using Sl.of_own ho);have h1:Bs (im (λj=>j=w.heap.size) w5) x v5:=hb.im_of λb hb e=>by have:=hfr b hb;omega
 exact(h1.mono (hm.im (S':=λj=>j=w.heap.size) λ_ _ e=>e)).mono (zd _ _)
theorem zcZ{w:World}{T:Nat}{x y z u x' y' z' u':Value}(h:w.heap[b]? =some (.cells #[x,y,z,u] T (0,0)))
  (hw:w'=(((w.setCell ⟨b,0,none⟩ x').setCell ⟨b,1,none⟩ y').setCell ⟨b,2,none⟩ z').setCell ⟨b,3,none⟩ u'):w'.heap[b]? =some (.cells #[x',y',z',u'] T (0,0)):=by
 have h1:=heap_setCell_same w b 0 _ _ x' h;have h2:=heap_setCell_same _ b 1 _ _ y' h1;have h3:=heap_setCell_same _ b 2 _ _ z' h2;have h4:=heap_setCell_same _ b 3 _ _ u' h3;rw[hw];exact h4
theorem KX{w:World}{x' y' z' u':Value}(hw:w'=(((w.setCell ⟨b,0,none⟩ x').setCell ⟨b,1,none⟩ y').setCell ⟨b,2,none⟩ z').setCell ⟨b,3,none⟩ u'):zo (λj=>j=b) w w':=by rw[hw];have h0:=zo.refl (λj=>j=b) w;have h1:=h0.setCell (p:=⟨b,0,none⟩) (λ_=>rfl) x';have h2:=h1.setCell (p:=⟨b,1,none⟩) (λ_=>rfl) y';have h3:=h2.setCell (p:=⟨b,2,none⟩) (λ_=>rfl) z';exact h3.setCell (p:=⟨b,3,none⟩) (λ_=>rfl) u'
theorem zc0{w:World}{f:Nat}{x:Bytes}(hr:r.le w.cell?)(hf0:0<f)(hf:f<16)(hx0:x≠[])(hxl:x.length<16384)(h:Bs r ((jo.B f x).enc++rest) v):
  Calls prog 306 #[v,.int .i64 0] w λe w'=>∃bv v',e=.returned (.tuple #[.agg #[.int .i64 f,.bool true,.int .i64 0,bv],v',.bool true])/\za w w'/\Bs r rest v'/\Bs w'.cell? x bv/\(∀b,bv.ownBlock=some b->w.heap.size<=b):=by
 have h:Bs r (jb (f*8+2)++(jb x.length++(x++rest))) v:=by simpa[jo.enc,List.append_assoc]using h
 have H1:Hid (∀W,r.le W.cell? ->Calls prog 307 #[v] W λe w'=>∃v' m,e=.returned (.tuple #[.int .u64 ((f:Int)*8+2),v',.bool true])/\w'=W.drewN m/\Bs r (jb x.length++(x++rest)) v'):=hid λW hW=>by have:=xU (w:=W) hW (k:=f*8+2) (by omega) h;rw[show((f*8+2:Nat):Int)=(f:Int)*8+2 by omega]at this;exact this
 have H2:Hid (∀W u,r.le W.cell? ->Bs r (jb x.length++(x++rest)) u->Calls prog 307 #[u] W λe w'=>∃v' m,e=.returned (.tuple #[.int .u64 x.length,v',.bool true])/\w'=W.drewN m/\Bs r (x++rest) v'):=hid λW u hW hu=>xU hW hxl hu;have hand:=(XH hf).1;have hx1:(0:Int)<=x.length:=by omega
 have hx2:(x.length:Int)<=16383:=by omega
 have hx3:0<x.length:=List.length_pos_iff.2 hx0;obtain⟨p,n,c,rfl,_⟩:=h.shape;have hR:=hid hr;clear hr h;have HX0:=hid hx0;have hfi0:(0:Int)<f:=by omega
 have hfi1:(f:Int)<=15:=by omega
 have hfb: ¬(536870911:Int)<f:=by omega
 have hfe:((f:Int)==0)=false:=by simp;omega
 have hfd:((f:Int)*8+2)/8=f:=by omega
 go_enter func306,ntmps306;go_wp2_with fail;refine(H1.out _ (hR.out.le_trans (za.le ((za.refl w).alloc _)))).mono ?_;rintro e w1 ⟨v1,m1,rfl,rfl,g1⟩;obtain⟨p1,n1,c1,rfl,_⟩:=g1.shape;have G1:=hid g1;clear g1;go_wp2_with fail;refine(H2.out _ _ (hR.out.le_trans (za.le (((za.refl w).alloc _).drewN _))) G1.out).mono ?_;rintro e w2 ⟨v2,m2,rfl,rfl,g2⟩;obtain⟨b2,o2,n2,c2,rfl,hn2,_⟩:=g2.at (by simp[hx0]);obtain⟨guh,hc2⟩:=g2.head;have gul:=g2.tail;have hn2m:n2<=9223372036854775807:=by obtain⟨_,_,_,e,_,q1,q2,_⟩:=g2;simp only[Value.slice.injEq]at e;obtain⟨_,rfl,rfl⟩:=e;omega
 have hn2:x.length<=n2:=by rw[<-hn2,List.length_append];omega
 have hnw:IntKind.u64.wrap (n2:Int)=n2:=by rw[IntKind.wrap_u64];omega
 have hnn: ¬(n2:Int)<(x.length:Int):=by omega
 have hN0:za w ((w.alloc (.cells #[.int .i64 0,.bool false,.int .i64 0,.slice none 0 0] 488)).drewN (m1+m2)):=((za.refl w).alloc _).drewN _;have hrow0:((w.alloc (.cells #[.int .i64 0,.bool false,.int .i64 0,.slice none 0 0] 488)).drewN (m1+m2)).heap[w.heap.size]? =some (.cells #[.int .i64 0,.bool false,.int .i64 0,.slice none 0 0] 488 (0,0)):=zg w _;have hsz0:((w.alloc (.cells #[.int .i64 0,.bool false,.int .i64 0,.slice none 0 0] 488)).drewN (m1+m2)).heap.size=w.heap.size+1:=Array.size_push ..
 have hwf:IntKind.i64.wrap (f:Int)=f:=by rw[IntKind.wrap_i64];omega
 have GUH:=hid guh;have GUL:=hid gul;clear g2 guh gul;go_wp2;generalize(w.alloc (.cells #[.int .i64 0,.bool false,.int .i64 0,.slice none 0 0] 488)).drewN (m1+m2)=W at hN0 hrow0 hsz0⊢;have HN0:=hid hN0;have HR0:=hid (And.intro hrow0 hsz0);clear hN0 hrow0 hsz0;have HBD:Hid ((([]:List Value).length+(x.map qr).length)*(1+1)<=140737488355328):=hid (by rw[List.length_map,List.length_nil];omega)
 go_region_law (refine Zj jD rfl rfl (s:=.tmp 87) (x:=.tmp 90) (Ze (vJ (Nat.zero_le _) (zg W _))) rfl rfl (news:=x.map qr) (Bs.sl (Bs.mono (hR.out.le_trans (za.le ((HN0.out.alloc _).drew))) GUH.out)) (jH x) HBD.out ?_;intro v5 w5 ho hg hf5;obtain⟨p5,n5,c5,rfl⟩:=(Sl.of_own ho).shape;have hrow:w5.heap[w.heap.size]? =some (.cells #[.int .i64 0,.bool false,.int .i64 0,.slice none 0 0] 488 (0,0)):=WJ HR0.out hg;obtain⟨q0,q1,q2,q3,f0,f1,f2,f3⟩:=kZ hrow;have HO:=hid ho;have HG:=hid hg;have HF:=hid hf5;clear ho hg hf5);have HE:=hid (WK HN0.out HR0.out.2 HO.out HG.out HF.out);obtain⟨w6,hw6⟩:=zex ((((w5.setCell ⟨w.heap.size,0,none⟩ (.int .i64 f)).setCell ⟨w.heap.size,1,none⟩ (.bool true)).setCell ⟨w.heap.size,2,none⟩ (.int .i64 0)).setCell ⟨w.heap.size,3,none⟩ (.slice p5 n5 c5));rw[<-hw6];have hrow6:=zcZ hrow hw6;obtain⟨r0,r1,r2,r3,_⟩:=kZ hrow6;have HM6:=hid (KX hw6)
 clear HO HG HF hrow hw6 q0 q1 q2 q3 f0 f1 f2 f3 hrow6;go_wp2
 all_goals first|(exfalso;omega)|skip
 all_goals(
  refine bodyPost_ret (by simp[results,results306,go_sem,r0,r1,r2,r3];try rfl) rfl ?_;refine⟨_,_,rfl,(HE.out _ HM6.out).1,?_,(HE.out _ HM6.out).2.1,(HE.out _ HM6.out).2.2⟩;have hg9:=GUL.out
  simp_all)
theorem zc1{w:World}{f:Nat}(hr:r.le w.cell?)(hf0:0<f)(hf:f<16)(hk:k<128)(h:Bs r ((jo.I f k).enc++rest) v):
  Calls prog 306 #[v,.int .i64 0] w λe w'=>∃v',e=.returned (.tuple #[.agg #[.int .i64 f,.bool false,.int .i64 k,.slice none 0 0],v',.bool true])/\za w w'/\Bs r rest v':=by
 have h:Bs r (jb (f*8)++(jb k++rest)) v:=by simpa[jo.enc,List.append_assoc]using h
 have H1:Hid (∀W,r.le W.cell? ->Calls prog 307 #[v] W λe w'=>∃v' m,e=.returned (.tuple #[.int .u64 ((f:Int)*8),v',.bool true])/\w'=W.drewN m/\Bs r (jb k++rest) v'):=hid λW hW=>by have:=xU (w:=W) hW (k:=f*8) (by omega) h;rw[show((f*8:Nat):Int)=(f:Int)*8 by omega]at this;exact this
 have H2:Hid (∀W u,r.le W.cell? ->Bs r (jb k++rest) u->Calls prog 307 #[u] W λe w'=>∃v' m,e=.returned (.tuple #[.int .u64 k,v',.bool true])/\w'=W.drewN m/\Bs r rest v'):=hid λW u hW hu=>xU hW (by omega) hu;have hand:=(XH hf).2;obtain⟨p,n,c,rfl,_⟩:=h.shape;have hR:=hid hr;clear hr h;have hfi0:(0:Int)<f:=by omega
 have hfi1:(f:Int)<=15:=by omega
 have hfb: ¬(536870911:Int)<f:=by omega
 have hfe:((f:Int)==0)=false:=by simp;omega
 have hfd:((f:Int)*8)/8=f:=by omega
 have hwk:IntKind.i64.wrap (k:Int)=k:=by rw[IntKind.wrap_i64];omega
 have hwf:IntKind.i64.wrap (f:Int)=f:=by rw[IntKind.wrap_i64];omega
 go_enter func306,ntmps306;go_wp2_with fail;refine(H1.out _ (hR.out.le_trans (za.le ((za.refl w).alloc _)))).mono ?_;rintro e w1 ⟨v1,m1,rfl,rfl,g1⟩;obtain⟨p1,n1,c1,rfl,_⟩:=g1.shape;have G1:=hid g1;clear g1;go_wp2_with fail
 all_goals first|(exfalso;omega)|skip
 refine(H2.out _ _ (hR.out.le_trans (za.le (((za.refl w).alloc _).drewN _))) G1.out).mono ?_;rintro e w2 ⟨v2,m2,rfl,rfl,g2⟩;obtain⟨p2,n2,c2,rfl,_⟩:=g2.shape;have hN0:za w ((w.alloc (.cells #[.int .i64 0,.bool false,.int .i64 0,.slice none 0 0] 488)).drewN (m1+m2)):=((za.refl w).alloc _).drewN _;have hrow0:((w.alloc (.cells #[.int .i64 0,.bool false,.int .i64 0,.slice none 0 0] 488)).drewN (m1+m2)).heap[w.heap.size]? =some (.cells #[.int .i64 0,.bool false,.int .i64 0,.slice none 0 0] 488 (0,0)):=zg w _;have G2:=hid g2;clear g2;go_wp2_with fail
 all_goals first|(exfalso;omega)|skip
 generalize(w.alloc (.cells #[.int .i64 0,.bool false,.int .i64 0,.slice none 0 0] 488)).drewN (m1+m2)=W at hN0 hrow0⊢;obtain⟨w6,hw6⟩:=zex ((((W.setCell ⟨w.heap.size,0,none⟩ (.int .i64 f)).setCell ⟨w.heap.size,1,none⟩ (.bool false)).setCell ⟨w.heap.size,2,none⟩ (.int .i64 k)).setCell ⟨w.heap.size,3,none⟩ (.slice none 0 0));rw[<-hw6];have hrow6:=zcZ hrow0 hw6;obtain⟨r0,r1,r2,r3,_⟩:=kZ hrow6;have hn6:za w w6:=zo.trans hN0 (KX hw6) λj hj e=>by omega
 refine bodyPost_ret (by simp[results,results306,go_sem,r0,r1,r2,r3];try rfl) rfl ?_;exact⟨_,rfl,hn6,G2.out⟩
def Yz(w w':World)(f:jo)(u:Value):Prop:=match f with
 |.B k x=>∃bv,u=.agg #[.int .i64 k,.bool true,.int .i64 0,bv]/\Bs w'.cell? x bv/\(∀b,bv.ownBlock=some b->w.heap.size<=b)
 |.I k n=>u=.agg #[.int .i64 k,.bool false,.int .i64 n,.slice none 0 0]
def uy:jo->Prop
 |.B k x=>0<k/\k<16/\x≠[]/\x.length<16384
 |.I k n=>0<k/\k<16/\n<128
theorem WL{w:World}{f:jo}(hr:r.le w.cell?)(hf:uy f)(h:Bs r (f.enc++rest) v):
  Calls prog 306 #[v,.int .i64 0] w λe w'=>∃u v',e=.returned (.tuple #[u,v',.bool true])/\za w w'/\Bs r rest v'/\Yz w w' f u:=by
 cases f with
 |B k x=>exact(zc0 hr hf.1 hf.2.1 hf.2.2.1 hf.2.2.2 h).mono λe w' ⟨bv,v',h1,h2,h3,h4,h5⟩=>⟨_,v',h1,h2,h3,bv,rfl,h4,h5⟩
 |I k n=>exact(zc1 hr hf.1 hf.2.1 hf.2.2 h).mono λe w' ⟨v',h1,h2,h3⟩=>⟨_,v',h1,h2,h3,rfl⟩
theorem Yz.shape{w:World}{f:jo}{u:Value}(h:Yz w w' f u):∃(a:Int) (b:Bool) (c:Int) (p:Option Addr) (n k:Nat),u=.agg #[.int .i64 a,.bool b,.int .i64 c,.slice p n k]:=by
 cases f with
 |B k x=>obtain⟨bv,h,hb,_⟩:=h;obtain⟨p,n,c,rfl,_⟩:=hb.shape;exact⟨_,_,_,_,_,_,h⟩
 |I k n=>exact⟨_,_,_,_,_,_,h⟩
variable{w1:World}
theorem Yz.mono{w0 w:World}{f:jo}{u:Value}(h:Yz w w0 f u)(hs:w1.heap.size<=w.heap.size)(hm:za w0 w'):Yz w1 w' f u:=by
 cases f with
 |B k x=>obtain⟨bv,h,hb,hf⟩:=h;exact⟨bv,h,hb.mono hm.le,λb hb=>Nat.le_trans hs (hf b hb)⟩
 |I k n=>exact h
theorem KY{w:World}{f:jo}(hr:r.le w.cell?)(hf:uy f)(h:Bs r (f.enc++rest) v):
  Calls prog 305 #[v] w λe w'=>∃u v',e=.returned (.tuple #[u,v',.bool true])/\za w w'/\Bs r rest v'/\Yz w w' f u:=by
 have H1:Hid (∀W,r.le W.cell? ->Calls prog 306 #[v,.int .i64 0] W λe w'=>∃u v',e=.returned (.tuple #[u,v',.bool true])/\za W w'/\Bs r rest v'/\Yz W w' f u):=hid λW hW=>WL hW hf h;obtain⟨p,n,c,rfl,_⟩:=h.shape;have hR:=hid hr;clear hr h;go_enter func305,ntmps305;go_wp2_with fail;refine(H1.out _ (hR.out.le_trans (za.le ((za.refl w).alloc _)))).mono ?_;rintro e w1 ⟨u,v1,rfl,hn1,g1,g2⟩;obtain⟨a,b,d,px,nx,cx,rfl⟩:=g2.shape;obtain⟨p1,n1,c1,rfl,_⟩:=g1.shape;have hrow1:w1.heap[w.heap.size]? =some (.cells #[.int .i64 0,.bool false,.int .i64 0,.slice none 0 0] 488 (0,0)):=hn1.heap (zg w _);obtain⟨q0,q1,q2,q3,f0,f1,f2,f3⟩:=kZ hrow1;have HN1:=hid hn1;have G1:=hid g1;have G2:=hid g2;have HR1:=hid hrow1;clear g1 g2 hn1 hrow1;go_wp2_with fail
 obtain⟨w6,hw6⟩:=zex ((((w1.setCell ⟨w.heap.size,0,none⟩ (.int .i64 a)).setCell ⟨w.heap.size,1,none⟩ (.bool b)).setCell ⟨w.heap.size,2,none⟩ (.int .i64 d)).setCell ⟨w.heap.size,3,none⟩ (.slice px nx cx));rw[<-hw6];have hrow6:=zcZ HR1.out hw6;obtain⟨r0,r1,r2,r3,_⟩:=kZ hrow6;have hm6:=KX hw6;have hn6:za w w6:=zo.trans (za.trans ((za.refl w).alloc _) HN1.out) hm6 λj hj e=>by omega
 refine bodyPost_ret (by simp[results,results305,go_sem,r0,r1,r2,r3];try rfl) rfl ?_;refine⟨_,_,rfl,hn6,G1.out,?_⟩;have hsz:(w.alloc (.cells #[.int .i64 0,.bool false,.int .i64 0,.slice none 0 0] 488)).heap.size=w.heap.size+1:=Array.size_push ..
 have g2:=G2.out;cases f with
 |B k x=>
  obtain⟨bv,e1,hb,hfr⟩:=g2;refine⟨bv,e1,?_,λb hb=>by have:=hfr b hb;omega⟩;have h1:Bs (im (λj=>j=w.heap.size) w1) x bv:=hb.im_of λb hb e=>by have:=hfr b hb;omega
  exact(h1.mono (hm6.im (S':=λj=>j=w.heap.size) λ_ _ e=>e)).mono (zd _ _)
 |I k n=>exact g2
structure jx(r:Rd)(b:Nat)(p:zh):Prop where
 kind:r ⟨b,0,none⟩=some (.int .i32 p.kind)
 key:∃v,r ⟨b,1,none⟩=some v/\Bs r p.key v
 stop:∃v,r ⟨b,2,none⟩=some v/\Bs r p.stop v
variable{p:zh}
theorem jx.mono(h:jx r b p)(hr:r.le r'):jx r' b p:=by obtain⟨h1,⟨v,h2,h3⟩,u,h4,h5⟩:=h;exact⟨hr _ _ h1,⟨v,hr _ _ h2,h3.mono hr⟩,u,hr _ _ h4,h5.mono hr⟩
structure Jq(p:zh):Prop where
 kind:p.kind<128
 key0:p.key≠[]
 key:p.key.length<=1000
 stop:p.stop.length<=1000
theorem Bs.lt{w:World}{x:Bytes}(h:Bs w.cell? x xv)(h0:x≠[]):∀b,xv.ownBlock=some b->b<w.heap.size:=by obtain⟨b',o,n,c,rfl,_,u,hu⟩:=h.at h0;intro b hb;simp only[Value.ownBlock,Option.some.injEq]at hb;subst hb;exact World.block_lt_of_cell? w _ hu
structure yW(w w':World)(v:Value)(l:Bytes):Prop where
 new:za w w'
 own:Yy w' v l
 ge:∀b,v.ownBlock=some b->w.heap.size<=b
theorem yW.nil(w:World):yW w w (.slice none 0 0) []:=⟨za.refl w,Yy.nil w,λb hb=>by cases hb⟩
variable{w2:World}
theorem yW.grew{w:World}{v':Value}{l l':Bytes}(h:yW w w1 v l)(ho:Yy w2 v' l')(hg:Zi w1 w2 v v'):yW w w2 v' l':=
 ⟨zo.trans h.new hg.mod λj hj e=>by have:=h.ge j e;omega,ho,λb hb=>by
  rcases hg.row b hb with e|e
  ·exact h.ge b e
  ·have:=h.new.size;omega⟩
theorem yW.apart{w:World}{l x:Bytes}(h:yW w w1 v l)(hx:Bs w.cell? x xv)(h0:x≠[]):GD v xv:=λb hb e=>by have:=hx.lt h0 b hb;have:=h.ge b e;omega
theorem uz{w:World}{l:Bytes}{f:Nat}(hf:f<16)(hk:k<128)(hl:l.length<=900000)(hown:Yy w v l):
  Calls prog 286 #[v,.int .i64 f,.int .i64 k] w λe w'=>∃v',e=.returned v'/\Yy w' v' (l++zW (if k=0 then []else [.I f k]))/\Zi w w' v v':=by
 by_cases h0:k=0
 ·subst h0;obtain⟨p,n,c,rfl⟩:=hown.shape;have HO:=hid hown;clear hown;go_enter func286,ntmps286;go_wp2;go_returns;exact⟨_,rfl,by simpa[zW]using HO.out,Zi.refl _ _⟩
 ·refine(GE hf (by omega) hk hl hown).mono λe w' ⟨v',h1,h2,h3⟩=>⟨v',h1,?_,h3⟩;rw[if_neg h0];simpa[zW]using h2
theorem jG{w:World}{l x:Bytes}{f:Nat}(hf:f<16)(hx0:x≠[])(hxl:x.length<16384)(hl:l.length<=900000)(h:yW w w1 v l)(hx:Bs w.cell? x xv):
  Calls prog 287 #[v,.int .i64 f,xv] w1 λe w'=>∃v',e=.returned v'/\yW w w' v' (l++(jo.B f x).enc):=
 (QY hf hx0 hxl hl h.own (hx.mono h.new.le) (h.apart hx hx0)).mono λ_ _ ⟨v',h1,h2,h3⟩=>⟨v',h1,h.grew h2 h3⟩
theorem j9(k:Nat)(x:Bytes):((jo.B k x).enc).length<=x.length+4:=by simp only[jo.enc,List.length_append];have h1:=vj (k*8+2);have h2:=vj x.length;omega
theorem XI(k n:Nat):((jo.I k n).enc).length<=4:=by simp only[jo.enc,List.length_append];have h1:=vj (k*8);have h2:=vj n;omega
theorem WM{w:World}(h:jx w.cell? b p)(hok:Jq p):
  Calls prog 143 #[ptr b] w λe w'=>∃v',e=.returned v'/\yW w w' v' p.enc:=by
 obtain⟨hk,⟨kv,h1,hkb⟩,ev,h2,heb⟩:=h;have H1:=hid (uz (f:=1) (by decide) hok.kind (by simp) (Yy.nil w));obtain⟨kb,ko,kn,kc,rfl,hkn,_⟩:=hkb.at hok.key0;have hkn1:(0:Int)<kn:=by have:=List.length_pos_iff.2 hok.key0;omega
 have HK:=hid hkb;have HE:=hid heb;have HOK:=hid hok;obtain⟨ep,en,ec,rfl,hen⟩:=heb.shape;have hk0:(0:Int)<=p.kind:=by omega
 have hk1:(p.kind:Int)<128:=by have:=hok.kind;omega
 clear hkb heb hok;have HL0:Hid (([]++zW (if p.kind=0 then []else [.I 1 p.kind]):Bytes).length<=4):=hid (by
  rw[List.nil_append];split
  ·simp[zW]
  ·simp only[zW,List.flatMap_cons,List.flatMap_nil,List.append_nil];exact XI _ _)
 by_cases hs:p.stop=[]
 ·have hen0: ¬(0:Int)<en:=by rw[<-hen,hs];decide
  have HENC:Hid (p.enc=[]++zW (if p.kind=0 then []else [.I 1 p.kind])++(jo.B 2 p.key).enc):=hid (by unfold zh.enc zh.flds fB;rw[if_neg HOK.out.key0,if_pos hs,List.append_nil,jc];simp[zW])
  clear hs;go_enter func143,ntmps143;go_wp2_with fail;refine H1.out.mono ?_;rintro e w1 ⟨v1,rfl,g1,g2⟩;obtain⟨p1,n1,c1,rfl⟩:=g1.shape;have F1:=hid ((yW.nil w).grew g1 g2);have d1:w1.cell? ⟨b,1,none⟩=some (.slice (some ⟨kb,ko,none⟩) kn kc):=F1.out.new.le _ _ h1;clear g1 g2 H1;go_wp2_with fail;refine(jG (by decide) HOK.out.key0 (by have:=HOK.out.key;omega) (by have:=HL0.out;omega) F1.out HK.out).mono ?_;rintro e w2 ⟨v2,rfl,f2⟩;obtain⟨p2,n2,c2,rfl⟩:=f2.own.shape;have F2:=hid f2;have d2:w2.cell? ⟨b,2,none⟩=some (.slice ep en ec):=f2.new.le _ _ h2;clear f2;go_wp2;go_returns;exact⟨_,rfl,by rw[HENC.out];exact F2.out⟩
 ·have hen0:(0:Int)<en:=by have:=List.length_pos_iff.2 hs;omega
  have HS:=hid hs;have HENC:Hid (p.enc=[]++zW (if p.kind=0 then []else [.I 1 p.kind])++(jo.B 2 p.key).enc++(jo.B 3 p.stop).enc):=hid (by unfold zh.enc zh.flds fB;rw[if_neg HOK.out.key0,if_neg hs,jc];simp[zW])
  clear hs;go_enter func143,ntmps143;go_wp2_with fail;refine H1.out.mono ?_;rintro e w1 ⟨v1,rfl,g1,g2⟩;obtain⟨p1,n1,c1,rfl⟩:=g1.shape;have F1:=hid ((yW.nil w).grew g1 g2);have d1:w1.cell? ⟨b,1,none⟩=some (.slice (some ⟨kb,ko,none⟩) kn kc):=F1.out.new.le _ _ h1;clear g1 g2 H1;go_wp2_with fail;refine(jG (by decide) HOK.out.key0 (by have:=HOK.out.key;omega) (by have:=HL0.out;omega) F1.out HK.out).mono ?_;rintro e w2 ⟨v2,rfl,f2⟩;obtain⟨p2,n2,c2,rfl⟩:=f2.own.shape;have F2:=hid f2;have d2:w2.cell? ⟨b,2,none⟩=some (.slice ep en ec):=f2.new.le _ _ h2;clear f2;go_wp2_with fail;refine(jG (by decide) HS.out (by have:=HOK.out.stop;omega) (by have:=HL0.out;have:=j9 2 p.key;have:=HOK.out.key;rw[List.length_append];omega) F2.out HE.out).mono ?_;rintro e w3 ⟨v3,rfl,f3⟩;obtain⟨p3,n3,c3,rfl⟩:=f3.own.shape;have F3:=hid f3;clear f3;go_wp2;go_returns;exact⟨_,rfl,by rw[HENC.out];exact F3.out⟩
def Zk(p:zh):jo->zh
 |.I _ n=>{p with kind:=n}
 |.B k x=>if k=2 then {p with key:=x}else {p with stop:=x}
def Dl:jo->Prop
 |.I k n=>k=1/\n<128
 |.B k x=>(k=2\/k=3)/\x≠[]/\x.length<16384
theorem Dl.ok{f:jo}(h:Dl f):uy f:=by
 cases f with
 |I k n=>obtain⟨rfl,h⟩:=h;exact⟨by decide,by decide,h⟩
 |B k x=>obtain⟨h1,h2,h3⟩:=h;rcases h1 with rfl|rfl<;>exact⟨by decide,by decide,h2,h3⟩
def XJ(w w':World)(b:Nat)(p:zh):Prop:=zo (λj=>j=b) w w'/\∃kv ev,w'.heap[b]? =some (.cells #[.int .i32 p.kind,kv,ev] 112 (0,0))/\Bs (im (λj=>j=b) w') p.key kv/\Bs (im (λj=>j=b) w') p.stop ev/\(∀j,kv.ownBlock=some j\/ev.ownBlock=some j->w.heap.size<=j)
theorem Ux{w:World}{T:Nat}{x y z:Value}(h:w.heap[b]? =some (.cells #[x,y,z] T (0,0))):
  w.cell? ⟨b,0,none⟩=some x/\w.cell? ⟨b,1,none⟩=some y/\w.cell? ⟨b,2,none⟩=some z/\w.frozen? ⟨b,0,none⟩=false/\w.frozen? ⟨b,1,none⟩=false/\w.frozen? ⟨b,2,none⟩=false:=
 ⟨by rw[cell_of_row w b 0 _ _ (0,0) h];rfl,by rw[cell_of_row w b 1 _ _ (0,0) h];rfl,by rw[cell_of_row w b 2 _ _ (0,0) h];rfl,by simp[World.frozen?,h],by simp[World.frozen?,h],by simp[World.frozen?,h]⟩
theorem XJ.new{w:World}(h:XJ w w1 b p)(hb:b<w.heap.size)(hn:za w1 w2):XJ w w2 b p:=by obtain⟨hm,kv,ev,hr,h1,h2,h3⟩:=h;have hb1:b<w1.heap.size:=Nat.lt_of_lt_of_le hb hm.size;exact⟨zo.trans hm hn λ_ _ e=>e.elim,kv,ev,hn.heap hr,h1.mono (hn.im _),h2.mono (hn.im _),h3⟩
theorem XJ.set{w:World}(h:XJ w w1 b p)(hb:b<w.heap.size)(i:Nat)(u:Value):zo (λj=>j=b) w (w1.setCell ⟨b,i,none⟩ u)/\∀{x:Bytes} {v:Value},Bs (im (λj=>j=b) w1) x v->Bs (im (λj=>j=b) (w1.setCell ⟨b,i,none⟩ u)) x v:=
 ⟨h.1.setCell (λ_=>rfl) u,λhv=>hv.mono ((zo.refl (λj=>j=b) w1|>.setCell (p:=⟨b,i,none⟩) (λ_=>rfl) u).im λ_ _ e=>e)⟩
theorem XJ.set0{w:World}(h:XJ w w1 b p)(hb:b<w.heap.size)(n:Nat):XJ w (w1.setCell ⟨b,0,none⟩ (.int .i32 n)) b {p with kind:=n}:=by obtain⟨h1,h2⟩:=h.set hb 0 (.int .i32 n);obtain⟨_,kv,ev,hr,hk,he,hj⟩:=h;exact⟨h1,kv,ev,heap_setCell_same w1 b 0 _ _ _ hr,h2 hk,h2 he,hj⟩
theorem XJ.set1{w:World}(h:XJ w w1 b p)(hb:b<w.heap.size){x:Bytes}(hx:Bs (im (λj=>j=b) w1) x xv)(hf:∀j,xv.ownBlock=some j->w.heap.size<=j):XJ w (w1.setCell ⟨b,1,none⟩ xv) b {p with key:=x}:=by obtain⟨h1,h2⟩:=h.set hb 1 xv;obtain⟨_,kv,ev,hr,hk,he,hj⟩:=h;exact⟨h1,xv,ev,heap_setCell_same w1 b 1 _ _ _ hr,h2 hx,h2 he,λj e=>e.elim (hf j) λe=>hj j (Or.inr e)⟩
theorem XJ.set2{w:World}(h:XJ w w1 b p)(hb:b<w.heap.size){x:Bytes}(hx:Bs (im (λj=>j=b) w1) x xv)(hf:∀j,xv.ownBlock=some j->w.heap.size<=j):XJ w (w1.setCell ⟨b,2,none⟩ xv) b {p with stop:=x}:=by obtain⟨h1,h2⟩:=h.set hb 2 xv;obtain⟨_,kv,ev,hr,hk,he,hj⟩:=h;exact⟨h1,kv,xv,heap_setCell_same w1 b 2 _ _ _ hr,h2 hk,h2 hx,λj e=>e.elim (λe=>hj j (Or.inl e)) (hf j)⟩
theorem Yz.I{w:World}{a d:Int}{bb:Bool}(h:Yz w w' (.I k n) (.agg #[.int .i64 a,.bool bb,.int .i64 d,v])):a=k/\bb=false/\d=n:=by simp[Yz]at h;exact⟨h.1,h.2.1,h.2.2.1⟩
theorem Yz.B{w:World}{x:Bytes}{a d:Int}{bb:Bool}(h:Yz w w' (.B k x) (.agg #[.int .i64 a,.bool bb,.int .i64 d,v])):a=k/\bb=true/\d=0/\Bs w'.cell? x v/\∀b,v.ownBlock=some b->w.heap.size<=b:=by obtain⟨bv,e,h1,h2⟩:=h;simp at e;obtain⟨rfl,rfl,rfl,rfl⟩:=e;exact⟨rfl,rfl,rfl,h1,h2⟩
theorem Dm{w:World}{p0:zh}{fs:List jo}(h0:XJ w w b p0)(hb:b<w.heap.size)(hr:r.le (im (λj=>j=b) w))(hfs:∀f∈fs,Dl f)(hv:Bs r (zW fs) v):
  Calls prog 304 #[ptr b,v] w λe w'=>e=.returned (.bool true)/\XJ w w' b (fs.foldl Zk p0):=by
 obtain⟨vp,vn,vc,rfl,_⟩:=hv.shape;have HR:=hid hr;clear hr;have H0:=hid h0;clear h0;have HV:=hid hv;clear hv;go_enter func304,ntmps304;go_wp2;go_loopg [1] (fs.length+1) (λgg zv wr=>∃rest p1,Bs r (zW rest) zv/\(∀f∈rest,Dl f)/\XJ w wr b p1/\rest.foldl Zk p1=fs.foldl Zk p0/\rest.length<gg)
 case atStart=>exact⟨fs,p0,HV.out,hfs,H0.out,rfl,by omega⟩
 case round=>
  obtain⟨rest,p1,hbr,hfr,hpt,hfold,hlen⟩:=hrel;cases rest with
  |nil=>obtain⟨zp,zn,zc,rfl,hzn⟩:=hbr.shape;have hz:zn=0:=hzn.symm;subst hz;have HPT:=hid hpt;have HF:=hid hfold;clear hpt hfold hfr hfs;go_wp2;go_returns;exact⟨rfl,by have:=HPT.out;rw[show p1=fs.foldl Zk p0 from HF.out]at this;exact this⟩
  |cons f rest=>
   have hP:=hfr f (by simp);have hfr':∀g∈rest,Dl g:=λg hg=>hfr g (by simp[hg]);rw[kW]at hbr;have HT:=hid (KY (w:=wr) (HR.out.le_trans ((hpt.1.im λ_ _ e=>e).le_trans (zd (λj=>j=b) wr))) hP.ok hbr);obtain⟨zp,zn,zc,rfl,hzn⟩:=hbr.shape;have hz:(0:Int)<zn:=by have:=Kx f;rw[<-hzn,List.length_append];omega
   have HPT:=hid hpt;have HF:=hid hfold;have HFR:=hid hfr';have HP:=hid hP;clear hpt hfold hfr hfs hfr' hP hbr hzn;go_wp2_with fail;refine HT.out.mono ?_;rintro e w1 ⟨u,v1,rfl,hn1,g1,g2⟩;obtain⟨a,bb,d,px,nx,cx,rfl⟩:=g2.shape;obtain⟨p5,n5,c5,rfl,_⟩:=g1.shape;have PT1:=hid (HPT.out.new hb hn1);have hbl:b<w1.heap.size:=by have:=PT1.out.1.size;omega
   obtain⟨kv,ev,hrow,_⟩:=PT1.out.2;obtain⟨x0,x1,x2,y0,y1,y2⟩:=Ux hrow;have G1:=hid g1;have g2k:=g2;clear g1 g2 hn1 hrow x0 x1 x2 y0 y1 y2;go_upto_region 6 with fail
   obtain⟨W,hW⟩:=zex (w1.alloc (.cells #[.int .i64 a,.bool bb,.int .i64 d,.slice px nx cx] 488));rw[<-hW];have hnW:za w1 W:=by rw[hW];exact(za.refl w1).alloc _
   have hrq:W.heap[w1.heap.size]? =some (.cells #[.int .i64 a,.bool bb,.int .i64 d,.slice px nx cx] 488 (0,0)):=by rw[hW];exact zg w1 _
   obtain⟨z0,z1,z2,z3,_⟩:=kZ hrq;have PTW:=hid (PT1.out.new hb hnW);obtain⟨kv,ev,hrow,_⟩:=PTW.out.2;obtain⟨x0,x1,x2,y0,y1,y2⟩:=Ux hrow;have GW:=hid (g2k.mono (Nat.le_refl _) hnW);clear hW hnW hrq hrow;generalize w1.heap.size=q at z0 z1 z2 z3⊢;cases f with
   |I k n=>
    obtain⟨rfl,hn⟩:=HP.out;obtain⟨rfl,rfl,rfl⟩:=GW.out.I;have hwn:IntKind.i32.wrap (n:Int)=n:=by rw[IntKind.wrap_i32];omega
    clear g2k;go_wp2_with fail;go_roundg (gk-1)
    case rel=>exact⟨rest,_,G1.out,HFR.out,PTW.out.set0 hb n,HF.out,by simp at hlen;omega⟩
    case measure=>simp at hlen;omega
   |B k x=>
    obtain⟨rfl,rfl,rfl,hbx,hfx⟩:=GW.out.B;have hbx':Bs (im (λj=>j=b) W) x (.slice px nx cx):=hbx.im_of λj hj e=>by have:=hfx j hj;have:=HPT.out.1.size;omega
    have HBX:=hid hbx';have HFX:=hid (show∀j,(Value.slice px nx cx).ownBlock=some j->w.heap.size<=j from λj hj=>Nat.le_trans HPT.out.1.size (hfx j hj));rcases HP.out.1 with rfl|rfl
    ·clear g2k hbx hfx hbx';go_wp2_with fail;go_roundg (gk-1)
     case rel=>exact⟨rest,_,G1.out,HFR.out,PTW.out.set1 hb HBX.out HFX.out,HF.out,by simp at hlen;omega⟩
     case measure=>simp at hlen;omega
    ·clear g2k hbx hfx hbx';go_wp2_with fail;go_roundg (gk-1)
     case rel=>exact⟨rest,_,G1.out,HFR.out,PTW.out.set2 hb HBX.out HFX.out,HF.out,by simp at hlen;omega⟩
     case measure=>simp at hlen;omega
def zb(l:Bytes):Value:=.string ⟨l.toArray⟩
structure jd(r:Rd)(b:Nat)(u:zj):Prop where
 name:∃v,r ⟨b,0,none⟩=some v/\Bs r u.name v
 pass:∃v,r ⟨b,1,none⟩=some v/\Bs r [] v
 roles:∃v,r ⟨b,2,none⟩=some v/\Sl r 1 (u.roles.map zb) v
 opts:∃o,r ⟨b,3,none⟩=some (ptr o)/\r ⟨o,0,none⟩=some (.bool true)
variable{u:zj}
theorem jd.mono(h:jd r b u)(hr:r.le r'):jd r' b u:=by obtain⟨⟨v,h1,h2⟩,⟨x,h3,h4⟩,⟨y,h5,h6⟩,o,h7,h8⟩:=h;exact⟨⟨v,hr _ _ h1,h2.mono hr⟩,⟨x,hr _ _ h3,h4.mono hr⟩,⟨y,hr _ _ h5,h6.mono hr⟩,o,hr _ _ h7,hr _ _ h8⟩
structure jy(u:zj):Prop where
 name0:u.name≠[]
 name:u.name.length<=1000
 roles0:∀x∈u.roles,x≠[]/\x.length<=1000
 roles:u.roles.length<=100
variable{cs:List Value}
theorem Sl.cellAt{o:Nat}(h:Sl r 1 cs (.slice (some ⟨b,o,none⟩) n c))(i:Nat)(hi:i<cs.length):r ⟨b,o+i,none⟩=some cs[i]:=by
 obtain⟨p,n',c',e,hl,hn,hc,hp,h5⟩:=h;simp only[Value.slice.injEq]at e;obtain⟨rfl,rfl,rfl⟩:=e;rcases h5 with h5|⟨b',o',e,hcc⟩
 ·subst h5;simp at hi
 ·simp only[Option.some.injEq,Addr.mk.injEq]at e;obtain⟨rfl,rfl,_⟩:=e;exact hcc i hi
theorem Sl.addr{p:Option Addr}(h:Sl r 1 cs (.slice p n c)):cs.length=n/\(cs≠[]->∃b o,p=some ⟨b,o,none⟩):=by
 obtain⟨p',n',c',e,hl,hn,hc,hp,h5⟩:=h;simp only[Value.slice.injEq]at e;obtain⟨rfl,rfl,rfl⟩:=e;refine⟨by omega,λh0=> ?_⟩;rcases h5 with h5|⟨b',o',e,hcc⟩
 ·exact absurd h5 h0
 ·exact⟨b',o',e⟩
theorem yW.more{w:World}{l:Bytes}(h:yW w w1 v l)(hn:za w1 w2):yW w w2 v l:=
 ⟨h.new.trans hn,zU h.own (λb hb=>hn.block b (World.ownsRow.lt h.own b hb).2 (λe=>e)),h.ge⟩
theorem yW.lt{w:World}{l:Bytes}(h:yW w w1 v l):∀b,v.ownBlock=some b->b<w1.heap.size:=λb hb=>(World.ownsRow.lt h.own b hb).2
theorem YA{fs:List jo}(h:∀f∈fs,f.enc.length<=1004):(zW fs).length<=fs.length*1004:=by
 induction fs with
 |nil=>simp[zW]
 |cons f fs ih=>rw[kW,List.length_append,List.length_cons];have h1:=h f (by simp);have h2:=ih λg hg=>h g (by simp[hg]);omega
theorem WN{w:World}(h:jd w.cell? b u)(hok:jy u):
  Calls prog 219 #[ptr b] w λe w'=>∃v',e=.returned v'/\yW w w' v' u.enc:=by
 obtain⟨⟨nv,h0,hnb⟩,⟨pv,h1,hpb⟩,⟨rv,h2,hrb⟩,o,h3,h4⟩:=h;obtain⟨nb,no,nn,nc,rfl,hnn,_⟩:=hnb.at hok.name0;have hnn1:(0:Int)<nn:=by have:=List.length_pos_iff.2 hok.name0;omega
 obtain⟨pp,pn,pc,rfl,hpn⟩:=hpb.shape;have hpn:pn=0:=hpn.symm;subst hpn;obtain⟨rp,rn,rc,rfl⟩:=hrb.shape;have hrl:rn=u.roles.length:=by have:=hrb.addr.1;simpa using this.symm
 subst hrl;have HNB:=hid hnb;have HRB:=hid hrb;have HOK:=hid hok;have HL0:Hid ((jo.B 1 u.name).enc.length<=1004):=hid (by have:=j9 1 u.name;have:=hok.name;omega);clear hnb hpb hrb hok;go_enter func219,ntmps219;go_wp2_with fail;refine(jG (by decide) HOK.out.name0 (by have:=HOK.out.name;omega) (by simp) (yW.nil w) HNB.out).mono ?_;rintro e w1 ⟨v1,rfl,f1⟩;obtain⟨p1,n1,c1,rfl⟩:=f1.own.shape;have F1:=hid f1;have d1:w1.cell? ⟨b,1,none⟩=some (.slice pp 0 pc):=f1.new.le _ _ h1;have HC:=hid (And.intro h2 (And.intro h3 h4));clear f1 h0 h1 h2 h3 h4;have HLN:Hid (∀k,([]++(jo.B 1 u.name).enc++zW ((u.roles.take k).map (jo.B 3))).length<=200000):=hid λk=>by
  have h1:=YA (fs:=(u.roles.take k).map (jo.B 3)) (by intro f hf;obtain⟨x,hx,rfl⟩:=List.mem_map.1 hf;have:=j9 3 x;have:=(HOK.out.roles0 x (List.mem_of_mem_take hx)).2;omega)
  have h2:=HL0.out;have h3:=HOK.out.roles;rw[List.length_map,List.length_take]at h1;rw[List.length_append,List.nil_append];have:min k u.roles.length<=100:=by omega
  have:=Nat.mul_le_mul_right 1004 this;omega
 have hrl:(u.roles.length:Int)<=100:=by have:=HOK.out.roles;omega
 go_wp2;go_loopw [3,4] (λv i wr=>∃k:Nat,k<=u.roles.length/\i=.int .i64 k/\yW w wr v ([]++(jo.B 1 u.name).enc++zW ((u.roles.take k).map (jo.B 3)))) (λ_ i _=>u.roles.length-(intOf i).toNat)
 case atStart=>exact⟨0,Nat.zero_le _,rfl,by simpa[zW]using F1.out⟩
 case round=>
  obtain⟨k,hk,rfl,hf⟩:=hrel;have g2:wr.cell? ⟨b,2,none⟩=some (.slice rp u.roles.length rc):=hf.new.le _ _ HC.out.1;obtain⟨qp,qn,qc,rfl⟩:=hf.own.shape;clear d1;by_cases hlt:k<u.roles.length
  ·have hkl:k<(u.roles.map zb).length:=by rw[List.length_map];exact hlt
   obtain⟨ob,oo,rfl⟩:=HRB.out.addr.2 (by intro e;rw[e]at hkl;simp at hkl);have hcell:wr.cell? ⟨ob,oo+k,none⟩=some (.string ⟨(u.roles[k]).toArray⟩):=by have:=hf.new.le _ _ (HRB.out.cellAt k hkl);rw[this];simp[zb]
   have hx:=HOK.out.roles0 _ (List.getElem_mem hlt);have HTK:=hid (show(u.roles.take (k+1)).map (jo.B 3)=(u.roles.take k).map (jo.B 3)++[jo.B 3 u.roles[k]] by rw[List.take_succ_eq_append_getElem hlt,List.map_append];rfl);generalize u.roles[k]=x at hcell hx HTK;have hki:(k:Int)<(u.roles.length:Int):=by omega
   obtain⟨cv,wc,hrun,hnc,hbc,⟨cn,cc,rfl⟩,hltc⟩:=jQ (P:=prog) wr 9 75 5 (l:=x) (u:=.string) (by kernel_rfl) (by kernel_rfl) (by kernel_rfl) (by omega);have HF:=hid hf;have HPB:=hid (QY (f:=3) (by decide) hx.1 (by omega) (by have:=HLN.out k;omega) (hf.more hnc).own hbc (by intro q hq e;simp only[Value.ownBlock,Option.some.injEq]at hq;have:=hf.lt _ e;omega));have HNC:=hid hnc;clear hf hbc hltc hnc hx;generalize(⟨x.toArray⟩:ByteArray)=sx at hcell hrun;go_wp2_with fail;refine HPB.out.mono ?_;rintro e w5 ⟨v5,rfl,g5,g6⟩;obtain⟨p5,n5,c5,rfl⟩:=g5.shape;have F5:=hid ((HF.out.more HNC.out).grew g5 g6);clear g5 g6;go_wp2;go_roundw
   case rel=>exact⟨k+1,by omega,by go_num,by rw[HTK.out,jc];have:=F5.out;simpa[zW]using this⟩
   case measure=>simp[intOf];omega
  ·have hkn:k=u.roles.length:=by omega
   have g3:wr.cell? ⟨b,3,none⟩=some (ptr o):=hf.new.le _ _ HC.out.2.1;have g4:wr.cell? ⟨o,0,none⟩=some (.bool true):=hf.new.le _ _ HC.out.2.2;have H1:=hid (GE (w:=wr) (f:=1) (k:=1) (by decide) (by decide) (by decide) (by simp) (Yy.nil wr));have HF:=hid hf;clear hf;go_wp2_with fail;refine H1.out.mono ?_;rintro e w5 ⟨v5,rfl,g5,g6⟩;have f1:yW wr w5 v5 ([]++(jo.I 1 1).enc):=(yW.nil wr).grew g5 g6;have hx1:([]++(jo.I 1 1).enc:Bytes)=[8,1]:=by decide
   rw[hx1]at f1;have HPB:=hid (QY (f:=4) (x:=[8,1]) (by decide) (by simp) (by simp) (by have:=HLN.out k;omega) (HF.out.more f1.new).own f1.own.bs (by intro q hq e;have:=HF.out.lt _ e;have:=f1.ge _ hq;omega));obtain⟨p5,n5,c5,rfl⟩:=g5.shape;have F1':=hid f1;clear f1 g5 g6 H1;go_wp2_with fail;refine HPB.out.mono ?_;rintro e w6 ⟨v6,rfl,g5,g6⟩;obtain⟨p6,n6,c6,rfl⟩:=g5.shape;have F6:=hid ((HF.out.more F1'.out.new).grew g5 g6);clear g5 g6;go_wp2;go_returns;refine⟨_,rfl,?_⟩;have:=F6.out;rw[hkn,List.take_length]at this;unfold zj.enc zj.flds fB;rw[if_neg HOK.out.name0,jc,jc];simpa[zW]using this
section
variable{α:Type}(nm:α->Bytes)
def yT(l:List α)(x:α):List α:=l.take (zk (l.map nm) (nm x))++[x]++l.drop (zk (l.map nm) (nm x)+if zx (l.map nm) (nm x)then 1 else 0)
def ym(l:List α)(n:Bytes):List α:=if zx (l.map nm) n then l.take (zk (l.map nm) n)++l.drop (zk (l.map nm) n+1)else l
def qU(l:List α)(n:Bytes):Option α:=if zx (l.map nm) n then l[zk (l.map nm) n]? else none
theorem ZQ(y:Bytes)(ns:List Bytes)(x:Bytes):zx (y::ns) x=if zt y x<0 then zx ns x else (y==x):=by
 unfold zx;rw[yU];by_cases h:zt y x<0
 ·rw[if_pos h,if_pos h];rfl
 ·rw[if_neg h,if_neg h];simp
theorem kh(y:α)(l:List α)(x:α):yT nm (y::l) x=if zt (nm y) (nm x)<0 then y::yT nm l x else if nm y=nm x then x::l else x::y::l:=by
 unfold yT;rw[List.map_cons,yU,ZQ];by_cases h:zt (nm y) (nm x)<0
 ·simp only[if_pos h];rw[show zk (l.map nm) (nm x)+1+(if zx (l.map nm) (nm x)=true then 1 else 0)=(zk (l.map nm) (nm x)+(if zx (l.map nm) (nm x)=true then 1 else 0))+1 by omega];rfl
 ·simp only[if_neg h];by_cases e:nm y=nm x
  ·simp[e]
  ·simp[e]
theorem K9(y:α)(l:List α)(n:Bytes):ym nm (y::l) n=if zt (nm y) n<0 then y::ym nm l n else if nm y=n then l else y::l:=by
 unfold ym;rw[List.map_cons,yU,ZQ];by_cases h:zt (nm y) n<0
 ·simp only[if_pos h];by_cases f:zx (l.map nm) n=true
  ·rw[if_pos f,if_pos f];rfl
  ·rw[if_neg f,if_neg f]
 ·simp only[if_neg h];by_cases e:nm y=n
  ·simp[e]
  ·simp[e]
theorem km(y:α)(l:List α)(n:Bytes):qU nm (y::l) n=if zt (nm y) n<0 then qU nm l n else if nm y=n then some y else none:=by
 unfold qU;rw[List.map_cons,yU,ZQ];by_cases h:zt (nm y) n<0
 ·simp only[if_pos h];rfl
 ·simp only[if_neg h];by_cases e:nm y=n
  ·simp[e]
  ·simp[e]
def zE(l:List α):Prop:=zM (l.map nm)
variable{nm}
theorem zE.tail{y:α}{l:List α}(h:zE nm (y::l)):zE nm l:=(List.pairwise_cons.1 h).2
theorem zE.head{y:α}{l:List α}(h:zE nm (y::l)){z:α}(hz:z∈l):zt (nm y) (nm z)<0:=(List.pairwise_cons.1 h).1 _ (List.mem_map.2 ⟨z,hz,rfl⟩)
theorem zE.cons{y:α}{l:List α}(h:zE nm l)(hy:∀z∈l,zt (nm y) (nm z)<0):zE nm (y::l):=List.pairwise_cons.2 ⟨λa ha=>by obtain⟨z,hz,rfl⟩:=List.mem_map.1 ha;exact hy z hz,h⟩
theorem ne_of_lt{a b:Bytes}(h:zt a b<0):a≠b:=λe=>by subst e;exact zI _ h
theorem qO:∀{l:List α} (_:zE nm l) {n:Bytes} {x:α},qU nm l n=some x↔x∈l/\nm x=n
 |[],_,n,x=>by simp[qU,zx]
 |y::l,h,n,x=>by
  rw[km];by_cases h1:zt (nm y) n<0
  ·rw[if_pos h1,qO h.tail];constructor
   ·rintro⟨a,b⟩;exact⟨List.mem_cons_of_mem _ a,b⟩
   ·rintro⟨a,b⟩;rcases List.mem_cons.1 a with rfl|a
    ·exact absurd b (ne_of_lt h1)
    ·exact⟨a,b⟩
  ·rw[if_neg h1];by_cases e:nm y=n
   ·rw[if_pos e];constructor
    ·intro hx;cases hx;exact⟨List.mem_cons_self ..,e⟩
    ·rintro⟨a,b⟩;rcases List.mem_cons.1 a with rfl|a
     ·rfl
     ·exact absurd (e.trans b.symm) (ne_of_lt (h.head a))
   ·rw[if_neg e];refine⟨λhx=>(by cases hx),?_⟩;rintro⟨a,b⟩;rcases List.mem_cons.1 a with rfl|a
    ·exact absurd b e
    ·exact absurd (by rw[<-b];exact h.head a) h1
theorem Zl{l:List α}(h:zE nm l){n:Bytes}:qU nm l n=none↔∀x∈l,nm x≠n:=by
 constructor
 ·intro h0 x hx e;rw[(qO h).2 ⟨hx,e⟩]at h0;cases h0
 ·intro h0;cases hg:qU nm l n with
  |none=>rfl
  |some x=>exact absurd ((qO h).1 hg).2 (h0 x ((qO h).1 hg).1)
theorem qB:∀{l:List α} (_:zE nm l) {x y:α},y∈yT nm l x↔y=x\/y∈l/\nm y≠nm x
 |[],_,x,y=>by simp[yT]
 |z::l,h,x,y=>by
  rw[kh];by_cases h1:zt (nm z) (nm x)<0
  ·rw[if_pos h1,List.mem_cons,qB h.tail,List.mem_cons];constructor
   ·rintro(rfl|rfl|⟨a,b⟩)
    ·exact Or.inr ⟨Or.inl rfl,ne_of_lt h1⟩
    ·exact Or.inl rfl
    ·exact Or.inr ⟨Or.inr a,b⟩
   ·rintro(rfl|⟨rfl|a,b⟩)
    ·exact Or.inr (Or.inl rfl)
    ·exact Or.inl rfl
    ·exact Or.inr (Or.inr ⟨a,b⟩)
  ·rw[if_neg h1];have hl:∀y∈l,zt (nm x) (nm y)<0:=λy hy=>vx h1 (h.head hy);by_cases e:nm z=nm x
   ·rw[if_pos e,List.mem_cons,List.mem_cons];constructor
    ·rintro(rfl|a)
     ·exact Or.inl rfl
     ·exact Or.inr ⟨Or.inr a,(ne_of_lt (hl y a)).symm⟩
    ·rintro(rfl|⟨rfl|a,b⟩)
     ·exact Or.inl rfl
     ·exact absurd e b
     ·exact Or.inr a
   ·rw[if_neg e,List.mem_cons,List.mem_cons];constructor
    ·rintro(rfl|rfl|a)
     ·exact Or.inl rfl
     ·exact Or.inr ⟨Or.inl rfl,e⟩
     ·exact Or.inr ⟨Or.inr a,(ne_of_lt (hl y a)).symm⟩
    ·rintro(rfl|⟨rfl|a,b⟩)
     ·exact Or.inl rfl
     ·exact Or.inr (Or.inl rfl)
     ·exact Or.inr (Or.inr a)
theorem zE.put:∀{l:List α} (_:zE nm l) (x:α),zE nm (yT nm l x)
 |[],_,x=>by simp[yT,zE,zM]
 |z::l,h,x=>by
  rw[kh];by_cases h1:zt (nm z) (nm x)<0
  ·rw[if_pos h1];refine(h.tail.put x).cons λy hy=> ?_;rcases(qB h.tail).1 hy with rfl|⟨a,_⟩
   ·exact h1
   ·exact h.head a
  ·rw[if_neg h1];have hl:∀y∈l,zt (nm x) (nm y)<0:=λy hy=>vx h1 (h.head hy);by_cases e:nm z=nm x
   ·rw[if_pos e];exact h.tail.cons hl
   ·rw[if_neg e];refine h.cons λy hy=> ?_;rcases List.mem_cons.1 hy with rfl|hy
    ·rcases qJ (nm x) (nm y)with c|c|c
     ·exact c
     ·exact absurd c.symm e
     ·exact absurd c h1
    ·exact hl y hy
theorem ji:∀{l:List α} (_:zE nm l) {n:Bytes} {y:α},y∈ym nm l n↔y∈l/\nm y≠n
 |[],_,n,y=>by simp[ym]
 |z::l,h,n,y=>by
  rw[K9];by_cases h1:zt (nm z) n<0
  ·rw[if_pos h1,List.mem_cons,ji h.tail,List.mem_cons];constructor
   ·rintro(rfl|⟨a,b⟩)
    ·exact⟨Or.inl rfl,ne_of_lt h1⟩
    ·exact⟨Or.inr a,b⟩
   ·rintro⟨rfl|a,b⟩
    ·exact Or.inl rfl
    ·exact Or.inr ⟨a,b⟩
  ·rw[if_neg h1];have hl:∀y∈l,zt n (nm y)<0:=λy hy=>vx h1 (h.head hy);by_cases e:nm z=n
   ·rw[if_pos e,List.mem_cons];constructor
    ·exact λa=>⟨Or.inr a,(ne_of_lt (hl y a)).symm⟩
    ·rintro⟨rfl|a,b⟩
     ·exact absurd e b
     ·exact a
   ·rw[if_neg e,List.mem_cons];constructor
    ·rintro(rfl|a)
     ·exact⟨Or.inl rfl,e⟩
     ·exact⟨Or.inr a,(ne_of_lt (hl y a)).symm⟩
    ·exact λa=>a.1
theorem zE.drop:∀{l:List α} (_:zE nm l) (n:Bytes),zE nm (ym nm l n)
 |[],_,n=>by simp[ym,zE,zM]
 |z::l,h,n=>by
  rw[K9];by_cases h1:zt (nm z) n<0
  ·rw[if_pos h1];exact(h.tail.drop n).cons λy hy=>h.head ((ji h.tail).1 hy).1
  ·rw[if_neg h1];by_cases e:nm z=n
   ·rw[if_pos e];exact h.tail
   ·rw[if_neg e];exact h
theorem XN{l:List α}(h:zE nm l)(x:α)(n:Bytes):qU nm (yT nm l x) n=if n=nm x then some x else qU nm l n:=by
 by_cases e:n=nm x
 ·rw[if_pos e];exact(qO (h.put x)).2 ⟨(qB h).2 (Or.inl rfl),e.symm⟩
 ·rw[if_neg e];cases hg:qU nm l n with
  |none=>
   refine(Zl (h.put x)).2 λy hy=> ?_;rcases(qB h).1 hy with rfl|⟨a,_⟩
   ·exact λe2=>e e2.symm
   ·exact(Zl h).1 hg y a
  |some y=>obtain⟨a,b⟩:=(qO h).1 hg;exact(qO (h.put x)).2 ⟨(qB h).2 (Or.inr ⟨a,by rw[b];exact e⟩),b⟩
theorem zE.ext:∀{l m:List α} (_:zE nm l) (_:zE nm m) (_:∀x,x∈l↔x∈m),l=m
 |[],[],_,_,_=>rfl
 |[],y::m,_,_,h=>by have:=(h y).2 (List.mem_cons_self ..);cases this
 |y::l,[],_,_,h=>by have:=(h y).1 (List.mem_cons_self ..);cases this
 |y::l,z::m,hl,hm,h=>by
  have e:y=z:=by
   rcases List.mem_cons.1 ((h y).1 (List.mem_cons_self ..))with a|a
   ·exact a
   ·rcases List.mem_cons.1 ((h z).2 (List.mem_cons_self ..))with b|b
    ·exact b.symm
    ·exact absurd (hl.head b) (y9 (hm.head a))
  subst e;rw[zE.ext hl.tail hm.tail λx=> ?_];constructor
  ·intro a;rcases List.mem_cons.1 ((h x).1 (List.mem_cons_of_mem _ a))with b|b
   ·subst b;exact absurd (hl.head a) (zI _)
   ·exact b
  ·intro a;rcases List.mem_cons.1 ((h x).2 (List.mem_cons_of_mem _ a))with b|b
   ·subst b;exact absurd (hm.head a) (zI _)
   ·exact b
end
section
variable{α:Type}{nm en:α->Bytes}
def VX(nm en:α->Bytes)(l:List α):yu:=l.map λx=>(nm x,en x)
theorem YW(l:List α):zJ (VX nm en l)=l.map nm:=by unfold zJ VX;rw[List.map_map];rfl
theorem gJ(l:List α)(x:α):yj (VX nm en l) (nm x) (en x)=VX nm en (yT nm l x):=by unfold yj yT;rw[YW];simp only[VX,List.map_append,List.map_take,List.map_drop,List.map_cons,List.map_nil]
theorem uB(l:List α)(n:Bytes):js (VX nm en l) n=VX nm en (ym nm l n):=by
 unfold js ym;rw[YW];by_cases h:zx (l.map nm) n=true
 ·rw[if_pos h,if_pos h];simp only[VX,List.map_append,List.map_take,List.map_drop]
 ·rw[if_neg h,if_neg h]
theorem gK(l:List α)(n:Bytes):qZ (VX nm en l) n=(qU nm l n).map en:=by
 unfold qZ qU;rw[YW];by_cases h:zx (l.map nm) n=true
 ·rw[if_pos h,if_pos h];unfold VX;rw[List.getElem?_map,Option.map_map];rfl
 ·rw[if_neg h,if_neg h];rfl
end
structure zH where
 kind:Int
 user:Bytes
 role:Bytes
 pk:Int
 key:Bytes
 stop:Bytes
 noPerm:Bool
 old:Int
 noUser:Bool
structure vE where
 err:Nat
 rev:Nat
 on:Bool
 yes:Bool
 names:List Bytes
 perms:List zh
structure zA where
 on:Bool
 rev:Nat
 users:List zj
 roles:List zm
def zL:Bytes:=[114,111,111,116]
def zA.user(s:zA)(n:Bytes):Option zj:=qU zj.name s.users n
def zA.role(s:zA)(n:Bytes):Option zm:=qU zm.name s.roles n
def zA.putUser(s:zA)(u:zj):zA:={s with users:=yT zj.name s.users u,rev:=s.rev+1}
def zA.putRole(s:zA)(r:zm):zA:={s with roles:=yT zm.name s.roles r,rev:=s.rev+1}
def kq(k e:Bytes):Iv:=if e=[]then pt k else (k,if e=[0]then []else e)
def zT(k e:Bytes):Bool:= !decide (k=[]) && (decide (e=[])||decide (e=[0])||decide (zt k e<0))
def zh.allows(p:zh)(kind:Nat):Bool:=decide (p.kind=kind)||decide (p.kind=2)
def qu(ps:List zh)(kind:Nat):List Iv:=(ps.filter (·.allows kind)).map λp=>kq p.key p.stop
open Classical in
noncomputable def yX(ps:List zh)(kind:Nat)(k e:Bytes):Bool:=decide (yO (qu ps kind) (kq k e))
def zA.permsOf(s:zA)(u:zj):List zh:=u.roles.flatMap λr=>match s.role r with|some x=>x.perms|none=>[]
def Qa(p:zh):List zh->List zh
 |[]=>[p]
 |q::l=>if zt p.key q.key<0 then p::q::l else q::Qa p l
def ZR(l:List zh)(p:zh):Nat:=zk (l.map (·.key)) p.key
def je(l:List zh)(p:zh):List zh:=
 match l[ZR l p]? with
 |some q=>if q.key=p.key/\q.stop=p.stop then l.set (ZR l p) {q with kind:=p.kind}else Qa p l
 |none=>Qa p l
def jj(l:List zh)(k e:Bytes):List zh:=l.filter λq=> !(decide (q.key=k) && decide (q.stop=e))
def vY(l:List Bytes)(x:Bytes):List Bytes:=yT id l x
def yo(l:List Bytes)(x:Bytes):List Bytes:=l.filter λy=> !decide (y=x)
def zj.root(u:zj):Bool:=decide (zL∈u.roles)
noncomputable def zA.ask(s:zA)(o:zH):Nat:=
 if s.on=false then 0
 else if o.noUser=true\/o.kind=18/\o.user=[]then 4
 else if o.kind=18 then (match s.user o.user with|none=>5|some u=>if u.root then 0 else 10)
 else if 0<o.old then 14
 else match s.user o.user with
  |none=>10
  |some u=>if u.root then 0 else if yX (s.permsOf u) (if o.kind=16 then 0 else 1) o.key (if o.kind=15 then []else o.stop)then 0 else 10
def zA.change(s:zA)(o:zH):zA×Nat:=
 if o.kind=1 then
  if s.on then (s,0)
  else match s.user zL with
   |none=>(s,1)
   |some u=>if u.root then ({s with on:=true},0)else (s,2)
 else if o.kind=2 then
  if s.on then ({s with on:=false,rev:=s.rev+1},0)else (s,0)
 else if o.kind=3 then
  if o.user=[]then (s,4)
  else match s.user o.user with
   |some _=>(s,3)
   |none=>(s.putUser ⟨o.user,[]⟩,0)
 else if o.kind=4 then
  if s.on=true/\o.user=zL then (s,15)
  else match s.user o.user with
   |none=>(s,5)
   |some _=>({s with users:=ym zj.name s.users o.user,rev:=s.rev+1},0)
 else if o.kind=5 then
  match s.user o.user with
  |none=>(s,5)
  |some u=>
   if o.role≠zL/\s.role o.role=none then (s,7)
   else if o.role∈u.roles then (s,0)
   else (s.putUser ⟨u.name,vY u.roles o.role⟩,0)
 else if o.kind=6 then
  if s.on=true/\o.user=zL/\o.role=zL then (s,15)
  else match s.user o.user with
   |none=>(s,5)
   |some u=>if o.role∈u.roles then (s.putUser ⟨u.name,yo u.roles o.role⟩,0)else (s,11)
 else if o.kind=9 then
  if o.role=[]then (s,8)
  else match s.role o.role with
   |some _=>(s,6)
   |none=>(s.putRole ⟨o.role,[]⟩,0)
 else if o.kind=10 then
  if s.on=true/\o.role=zL then (s,15)
  else match s.role o.role with
   |none=>(s,7)
   |some _=>({s with roles:=ym zm.name s.roles o.role,users:=s.users.map λu=>⟨u.name,yo u.roles o.role⟩,rev:=s.rev+1},0)
 else if o.kind=11 then
  if o.noPerm then (s,9)
  else if zT o.key o.stop=false then (s,15)
  else match s.role o.role with
   |none=>(s,7)
   |some r=>(s.putRole ⟨r.name,je r.perms ⟨o.pk.toNat,o.key,o.stop⟩⟩,0)
 else if o.kind=12 then
  match s.role o.role with
  |none=>(s,7)
  |some r=>if (jj r.perms o.key o.stop).length=r.perms.length then (s,12)else (s.putRole ⟨r.name,jj r.perms o.key o.stop⟩,0)
 else (s,0)
noncomputable def zA.step(s:zA)(o:zH):zA×vE:=
 let t:=s.change o
 let a:vE:=⟨t.2,t.1.rev,t.1.on,false,[],[]⟩
 if o.kind=7 then (s,match s.user o.user with|none=>{a with err:=5}|some u=>{a with names:=u.roles})
 else if o.kind=8 then (s,{a with names:=s.users.map (·.name)})
 else if o.kind=13 then (s,match s.role o.role with|none=>{a with err:=7}|some r=>{a with perms:=if r.name=zL then [⟨2,[],[0]⟩]else r.perms})
 else if o.kind=14 then (s,{a with names:=s.roles.map (·.name)})
 else if o.kind=15\/o.kind=16\/o.kind=17\/o.kind=18 then (s,{a with err:=s.ask o})
 else if o.kind=19 then (s,{a with yes:=match s.user o.user with|none=>false|some u=>decide (o.role∈u.roles)})
 else (t.1,a)
def zA.start:zA:=⟨false,1,[],[]⟩
noncomputable def zA.run(s:zA):List zH->List vE
 |[]=>[]
 |o::l=>(s.step o).2::(s.step o).1.run l
structure ZD where
 lo:Bytes
 hi:Bytes
 op:Bool
def ZD.iv(s:ZD):Iv:=(s.lo,if s.op then []else s.hi)
def ZD.ok(s:ZD):Prop:=s.lo≠[]/\(s.op=false->s.hi≠[])
def ZD.empty(s:ZD):Bool:= !s.op &&!decide (zt s.lo s.hi<0)
def ZD.has(s:ZD)(k:Bytes):Prop:= ¬zt k s.lo<0/\(s.op=true\/zt k s.hi<0)
theorem Zm{a b:Bytes}(ha:a≠[])(hb:b≠[]):zy a b=zt a b:=by
 cases a with
 |nil=>exact absurd rfl ha
 |cons x a=>
  cases b with
  |nil=>exact absurd rfl hb
  |cons y b=>rfl
theorem uI{a:Bytes}(ha:a≠[]):zy a []<0:=by
 cases a with
 |nil=>exact absurd rfl ha
 |cons x a=>simp[zy]
def gS(l:List ZD)(s:ZD)(a:Bytes):Prop:=∀k,k≠[]->¬zt k s.lo<0->zt k a<0->∃x∈l,x.has k
theorem gS.start(l:List ZD)(s:ZD):gS l s s.lo:=λ_ _ h1 h2=>absurd h2 h1
theorem gS.next{l:List ZD}{s x:ZD}{a:Bytes}(h:gS l s a)(hx:x∈l)(hh:x.has a):gS l s x.hi:=λk hk h1 h2=>by
 by_cases e:zt k a<0
 ·exact h k hk h1 e
 ·exact⟨x,hx,λe2=>hh.1 (vx e e2),Or.inr h2⟩
theorem gS.all{l:List ZD}{s x:ZD}{a:Bytes}(h:gS l s a)(hx:x∈l)(hh:x.has a)(ho:x.op=true):∀k,k≠[]->s.has k->∃x∈l,x.has k:=λk hk hs=>by
 by_cases e:zt k a<0
 ·exact h k hk hs.1 e
 ·exact⟨x,hx,λe2=>hh.1 (vx e e2),Or.inl ho⟩
theorem gS.done{l:List ZD}{s:ZD}{a:Bytes}(h:gS l s a)(ho:s.op=false)(ha: ¬zt a s.hi<0):∀k,k≠[]->s.has k->∃x∈l,x.has k:=λk hk hs=>by
 have h2:zt k s.hi<0:=by
  rcases hs.2 with e|e
  ·rw[ho]at e;cases e
  ·exact e
 exact h k hk hs.1 (f_ h2 ha)
def zH.cells(o:zH):Array Value:= #[.int .i64 o.kind,zb o.user,zb o.role,.int .i64 o.pk,zb o.key,zb o.stop,.bool o.noPerm,.int .i64 o.old,.bool o.noUser]
def zH.val(o:zH):Value:=.agg o.cells
def zas(k:Int)(key stop:Bytes):Value:=.agg #[.int .i64 k,zb key,zb stop]
structure zS where
 kind:Int
 key:Bytes
 stop:Bytes
def zS.cells(p:zS):Array Value:= #[.int .i64 p.kind,zb p.key,zb p.stop]
def yP{α:Type}(f:α->Array Value)(l:List α):List Value:=l.flatMap λx=>(f x).toList
theorem gY(f:α->Array Value)(l m:List α):yP f (l++m)=yP f l++yP f m:=List.flatMap_append
theorem kX{α:Type}{f:α->Array Value}{n:Nat}(hf:∀x,(f x).size=n):∀l:List α,(yP f l).length=l.length*n
 |[]=>by simp[yP]
 |x::l=>by have:=kX hf l;unfold yP at this⊢;rw[List.flatMap_cons,List.length_append,this,Array.length_toList,hf,List.length_cons,Nat.add_mul,Nat.one_mul,Nat.add_comm]
theorem Vy{α:Type}{f:α->Array Value}{n:Nat}(hf:∀x,(f x).size=n):∀(l:List α) (k:Nat) (hk:k<l.length) (j:Nat) (v:Value),(f l[k]).toList[j]? =some v->(yP f l)[k*n+j]? =some v
 |x::l,0,_,j,v,hv=>by have hj:j<(f x).toList.length:=(List.getElem?_eq_some_iff.1 hv).1;unfold yP;rw[List.flatMap_cons,Nat.zero_mul,Nat.zero_add,List.getElem?_append_left hj];exact hv
 |x::l,k+1,hk,j,v,hv=>by have ih:=Vy hf l k (by simpa using hk) j v hv;unfold yP at ih⊢;rw[List.flatMap_cons,List.getElem?_append_right (by rw[Array.length_toList,hf,Nat.add_mul];omega),Array.length_toList,hf];rw[show(k+1)*n+j-n=k*n+j by rw[Nat.add_mul];omega];exact ih
def jW{α:Type}(f:α->Array Value)(n:Nat)(r:Rd)(l:List α)(v:Value):Prop:=Sl r n (yP f l) v
theorem jW.mono{f:α->Array Value}{l:List α}(hr:r.le r')(h:jW f n r l v):jW f n r' l v:=Sl.mono hr h
theorem jW.shape{f:α->Array Value}(hf:∀x,(f x).size=n)(hn:0<n){l:List α}(h:jW f n r l v):
  ∃p c,v=.slice p l.length c/\l.length<=c/\c<=9223372036854775807/\(l≠[]->∃b o,p=some ⟨b,o,none⟩):=by
 obtain⟨p,m,c,rfl,hl,hm,hc,_,h5⟩:=h;rw[kX hf]at hl;have e:l.length=m:=Nat.eq_of_mul_eq_mul_right hn hl;subst e;refine⟨p,c,rfl,hm,hc,λhne=> ?_⟩;rcases h5 with h5|⟨b,o,rfl,_⟩
 ·have:=congrArg List.length h5;rw[kX hf]at this;have h0:0<l.length:=List.length_pos_iff.2 hne;have:0<l.length*n:=Nat.mul_pos h0 hn;simp at*;omega
 ·exact⟨b,o,rfl⟩
theorem jW.range{f:α->Array Value}(hf:∀x,(f x).size=n){w:World}{l:List α}{o m:Nat}(h:jW f n w.cell? l (.slice (some ⟨b,o,none⟩) m c))(hk:k<l.length):w.rangeAt b (o+k*n) (f l[k]).toList:=by
 obtain⟨p,m',c',e,hl,hm,hc,_,h5⟩:=h;simp only[Value.slice.injEq]at e;obtain⟨rfl,rfl,rfl⟩:=e;intro j v hv;have h1:=Vy hf l k hk j v hv;rcases h5 with h5|⟨b',o',e,hcc⟩
 ·rw[h5]at h1;simp at h1
 ·simp only[Option.some.injEq,Addr.mk.injEq,and_true]at e;obtain⟨rfl,rfl⟩:=e;obtain⟨hlt,e⟩:=List.getElem?_eq_some_iff.1 h1;rw[Nat.add_assoc,hcc _ hlt,e]
theorem ZW(o:zH):o.cells.size=9:=rfl
theorem yM(p:zS):p.cells.size=3:=rfl
abbrev zcB(r:Rd)(l:List zH)(v:Value):Prop:=jW zH.cells 9 r l v
abbrev Q4(r:Rd)(l:List zS)(v:Value):Prop:=jW zS.cells 3 r l v
theorem Ju:yB prog 22 35 (.agg #[.int .i64 0,.string ⟨#[]⟩,.string ⟨#[]⟩,.int .i64 0,.string ⟨#[]⟩,.string ⟨#[]⟩,.bool false,.int .i64 0,.bool false]) 9 104:=⟨by kernel_rfl,by kernel_rfl,rfl,by decide⟩
theorem zdf:yB prog 25 42 (.agg #[.int .i64 0,.int .u64 0,.bool false,.bool false,.slice none 0 0,.slice none 0 0]) 6 72:=⟨by kernel_rfl,by kernel_rfl,rfl,by decide⟩
theorem zH.shape(o:zH):∃us ro ke st:ByteArray,zb o.user=.string us/\zb o.role=.string ro/\zb o.key=.string ke/\zb o.stop=.string st:=⟨_,_,_,_,rfl,rfl,rfl,rfl⟩
variable{o:zH}
theorem zat{w:World}(h:w.rangeAt b q o.cells.toList):w.cell? ⟨b,q,none⟩=some (.int .i64 o.kind)/\w.cell? ⟨b,q+1,none⟩=some (zb o.user)/\w.cell? ⟨b,q+2,none⟩=some (zb o.role)/\w.cell? ⟨b,q+3,none⟩=some (.int .i64 o.pk)/\w.cell? ⟨b,q+4,none⟩=some (zb o.key)/\w.cell? ⟨b,q+5,none⟩=some (zb o.stop)/\w.cell? ⟨b,q+6,none⟩=some (.bool o.noPerm)/\w.cell? ⟨b,q+7,none⟩=some (.int .i64 o.old)/\w.cell? ⟨b,q+8,none⟩=some (.bool o.noUser):=
 ⟨h 0 _ rfl,h 1 _ rfl,h 2 _ rfl,h 3 _ rfl,h 4 _ rfl,h 5 _ rfl,h 6 _ rfl,h 7 _ rfl,h 8 _ rfl⟩
theorem Vz{w:World}{o:zS}(h:w.rangeAt b q o.cells.toList):w.cell? ⟨b,q,none⟩=some (.int .i64 o.kind)/\w.cell? ⟨b,q+1,none⟩=some (zb o.key)/\w.cell? ⟨b,q+2,none⟩=some (zb o.stop):=
 ⟨h 0 _ rfl,h 1 _ rfl,h 2 _ rfl⟩
theorem xt{l:List α}(h:k<l.length):l≠[]:=λe=>by rw[e]at h;cases h
def DD(n:Bytes):Prop:=n.head? ≠some 255
def zau(w:World)(P:Bool->Prop)(e:Ending)(w':World):Prop:=∃b,e=.returned (.bool b)/\w=w'/\P b
def zd3(n:Bytes)(b:Bool):Prop:=b=true->n.length<=64
def DE(w:World)(P:Bool->Prop)(e:Ending)(w':World):Prop:=∃b,e=.returned (.bool b)/\za w w'/\P b
theorem zcK{w:World}{k:Value}{ks ss:ByteArray}:Calls prog 35 #[.agg #[k,.string ks,.string ss]] w (DE w λ_=>True):=by
 go_enter func35,ntmps35;go_wp2
 all_goals
  go_returns;exact⟨_,rfl,(za.refl w).alloc _,trivial⟩
theorem zed{w:World}{l:List zS}(h:Q4 w.cell? l v):Calls prog 22 #[v] w (DE w λb=>b=true->l.length<=2147483647):=by
 obtain⟨p,c,rfl,hlc,hc,hp⟩:=jW.shape yM (by decide) h;have HP:=hid hp;have H:=hid h;obtain⟨n,hn⟩:=zex (l.length);rw[<-hn]at hlc⊢;have HN:=hid hn;clear h hp hn;by_cases hbig:2147483647<n
 ·have t1:decide (2147483647<(n:Int))=true:=by simp;omega
  go_enter func22,ntmps22;go_wp2;go_returns;exact⟨_,rfl,za.refl w,λe=>by cases e⟩
 have t1:decide (2147483647<(n:Int))=false:=by simp;omega
 go_enter func22,ntmps22;go_wp2;go_loopw [10] (λi wr=>∃k:Nat,k<=n/\i=.int .i64 k/\za w wr) (λi _=>n-(intOf i).toNat)
 case atStart=>exact⟨0,Nat.zero_le _,rfl,za.refl w⟩
 case round=>
  obtain⟨k,hk,rfl,hnr⟩:=hrel;by_cases hlt:k<n
  ·have hkl:k<l.length:=by rw[<-HN.out];exact hlt
   obtain⟨b,o,rfl⟩:=HP.out (xt hkl);obtain⟨d0,d1,d2⟩:=Vz (jW.range yM (H.out.mono hnr.le) hkl);obtain⟨ke,e1⟩:∃z,zb l[k].key=.string z:=⟨_,rfl⟩;obtain⟨st,e2⟩:∃z,zb l[k].stop=.string z:=⟨_,rfl⟩;rw[e1]at d1;rw[e2]at d2;have HNR:=hid hnr;clear hnr e1 e2;go_wp2_with (refine zcK.mono ?_;rintro e w2 ⟨b2,rfl,hn2,_⟩)
   ·go_returns;exact⟨_,rfl,HNR.out.trans (za.trans ((za.refl wr).alloc _) hn2),λe=>by cases e⟩
   ·go_roundw
    case rel=>exact⟨k+1,by omega,by go_num,HNR.out.trans (za.trans ((za.refl wr).alloc _) hn2)⟩
    case measure=>simp[intOf];omega
  ·go_wp2;go_returns;exact⟨_,rfl,hnr,λ_=>by omega⟩
def GT(l:List zS)(k:Nat):Prop:=∀i j (hi:i<l.length) (_:i<k) (hj:j<i),l[i].key≠l[j].key
def We(l:List zS)(b:Bool):Prop:=b=true->GT l l.length
def zcq(l:List zS)(i j:Nat):Prop:=∀(hi:i<l.length) q (hq:q<i) (_:q<j),l[i].key≠l[q].key
theorem Wf{w:World}{l:List zS}(h:Q4 w.cell? l v):Calls prog 24 #[v] w (DE w (We l)):=by
 obtain⟨p,c,rfl,hlc,hc,hp⟩:=jW.shape yM (by decide) h;have HP:=hid hp;have H:=hid h;obtain⟨n,hn⟩:=zex (l.length);rw[<-hn]at hlc⊢;have HN:=hid hn;clear h hp hn;go_enter func24,ntmps24;go_wp2;go_loopw [7] (λi wr=>∃k:Nat,k<=n/\i=.int .i64 k/\za w wr/\GT l k) (λi _=>n-(intOf i).toNat)
 case atStart=>exact⟨0,Nat.zero_le _,rfl,za.refl w,λi j hi h0=>absurd h0 (Nat.not_lt_zero _)⟩
 case round=>
  obtain⟨k,hk,rfl,hnr,hap⟩:=hrel;by_cases hlt:k<n
  ·have hkl:k<l.length:=by rw[<-HN.out];exact hlt
   obtain⟨b,o,rfl⟩:=HP.out (xt hkl);have HNR:=hid hnr;have HAP:=hid hap;obtain⟨wo,hwo⟩:=zex (wr);rw[<-hwo]at HNR⊢;clear hnr hap hwo;go_wp2;go_loopw [11] (λj wr=>∃q:Nat,q<=k/\j=.int .i64 q/\za w wr/\zcq l k q) (λj _=>k-(intOf j).toNat)
   case atStart=>exact⟨0,Nat.zero_le _,rfl,HNR.out,λhi q hq h0=>absurd h0 (Nat.not_lt_zero _)⟩
   case round=>
    obtain⟨q,hq,rfl,hnq,haq⟩:=hrel;by_cases hqk:q<k
    ·have hql:q<l.length:=by omega
     obtain⟨_,d1,_⟩:=Vz (jW.range yM (H.out.mono hnq.le) hkl);obtain⟨_,d2,_⟩:=Vz (jW.range yM (H.out.mono hnq.le) hql);have HNQ:=hid hnq;have HAQ:=hid haq;have hkn0:(k:Int)<n:=by omega
     have hqn0:(q:Int)<n:=by omega
     clear hnq haq;unfold zb at d1 d2;by_cases heq:l[k].key=l[q].key
     ·have hb1:(l[k].key==l[q].key)=true:=by simp[heq]
      have HEQ:=hid heq;clear heq;go_wp2;go_quiet ((fail));go_wp2;go_returns;exact⟨false,rfl,HNQ.out.drewN _,λe=>by cases e⟩
     ·have hb1:(l[k].key==l[q].key)=false:=by simp[heq]
      have HEQ:=hid heq;clear heq;go_wp2;go_quiet ((fail));go_wp2;go_roundw
      case rel=>
       refine⟨q+1,by omega,by go_num,HNQ.out.drewN _,λhi r hr h0=> ?_⟩;by_cases e:r=q
       ·subst e;exact HEQ.out
       ·exact HAQ.out hi r hr (by omega)
      case measure=>simp[intOf];omega
    ·have hqe:q=k:=by omega
     subst hqe;have HNQ:=hid hnq;have HAQ:=hid haq;clear hnq haq;go_wp2;go_roundw
     case rel=>
      refine⟨q+1,by omega,by go_num,HNQ.out,λi j hi h0 hj=> ?_⟩;by_cases e:i=q
      ·subst e;exact HAQ.out hi j hj hj
      ·exact HAP.out i j hi (by omega) hj
     case measure=>simp[intOf];omega
  ·have hkn:k=n:=by omega
   have HNR:=hid hnr;have HAP:=hid hap;clear hnr hap;go_wp2;go_returns;exact⟨true,rfl,HNR.out,λ_=>by rw[<-HN.out,<-hkn];exact HAP.out⟩
end Go.Proofs.YtbmdoinjkligiaaGreat
