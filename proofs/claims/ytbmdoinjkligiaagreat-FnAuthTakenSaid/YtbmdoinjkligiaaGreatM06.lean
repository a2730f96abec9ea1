/- Contracts and laws that the last text joins. -/
import Derived.LaidEqlPtr
import Derived.Lib.Builder
import Derived.Deep.DeepCutAuto
import Derived.Deep.MidRow
import Derived.Test.YtbmdoinjkligiaaGreatM01
import Derived.Test.YtbmdoinjkligiaaGreatM05
set_option maxRecDepth 100000
set_option maxHeartbeats 40000000
set_option linter.all false
namespace Go.Proofs.YtbmdoinjkligiaaGreat
open Tryz
open Lib(hid)
def zy(a b:Bytes):Int:=if a=[]then (if b=[]then 0 else 1)else if b=[]then -1 else zt a b
theorem GU(a:Bytes):zy a a=0:=by unfold zy;split<;>simp[Jd]
theorem KJ(a b:Bytes):zy a b= -1\/zy a b=0\/zy a b=1:=by
 unfold zy;split
 ·split<;>simp
 ·split
  ·simp
  ·exact Zy a b
theorem vZ{a b:Bytes}(h:zy a b=0):a=b:=by
 unfold zy at h;split at h
 ·split at h
  ·simp_all
  ·omega
 ·split at h
  ·omega
  ·exact Zz h
theorem yK(a b:Bytes):zy b a= -zy a b:=by unfold zy;by_cases ha:a=[]<;>by_cases hb:b=[]<;>simp[ha,hb,YE a b]
theorem ZF{a b c:Bytes}(h:zy a b<0)(k:zy b c<0):zy a c<0:=by
 unfold zy at*
 by_cases ha:a=[]<;>by_cases hb:b=[]<;>by_cases hc:c=[]<;>simp_all;exact qL h k
theorem ZG{a b c:Bytes}(h1: ¬zy b a<0)(h2:zy b c<0):zy a c<0:=by
 rcases KJ a b with h|h|h
 ·exact ZF (by omega) h2
 ·rw[vZ h];exact h2
 ·have:=yK a b;omega
theorem yX{a b c:Bytes}(h1:zy a b<0)(h2: ¬zy c b<0):zy a c<0:=by
 rcases KJ b c with h|h|h
 ·exact ZF h1 (by omega)
 ·rw[<-vZ h];exact h1
 ·have:=yK b c;omega
theorem yY{a b c:Bytes}(h1: ¬zy b a<0)(h2: ¬zy c b<0): ¬zy c a<0:=λh=>h2 (yX h h1)
abbrev EV:=Bytes×Value
structure Nd where
 b:EV
 e:EV
 mx:EV
 l:Nat
 r:Nat
 p:Nat
 c:Bool
abbrev Nd.sl(n:Nd)(x:Nat):Nd:=⟨n.b,n.e,n.mx,x,n.r,n.p,n.c⟩
abbrev Nd.sr(n:Nd)(x:Nat):Nd:=⟨n.b,n.e,n.mx,n.l,x,n.p,n.c⟩
abbrev Nd.sp(n:Nd)(x:Nat):Nd:=⟨n.b,n.e,n.mx,n.l,n.r,x,n.c⟩
abbrev Nd.sm(n:Nd)(x:EV):Nd:=⟨n.b,n.e,x,n.l,n.r,n.p,n.c⟩
abbrev Nd.sc(n:Nd)(x:Bool):Nd:=⟨n.b,n.e,n.mx,n.l,n.r,n.p,x⟩
abbrev NM:=Nat->Nd
def NM.set(T:NM)(i:Nat)(n:Nd):NM:=λj=>if j=i then n else T j
theorem NM.set_same(T:NM)(i:Nat)(n:Nd):(T.set i n) i=n:=by simp[NM.set]
variable{j:Nat}
theorem NM.set_ne(T:NM){i:Nat}(n:Nd)(h:j≠i):(T.set i n) j=T j:=by simp[NM.set,h]
inductive Tr where
 |nil
 |node(i:Nat)(l r:Tr)
def Tr.ids:Tr->List Nat
 |.nil=>[]
 |.node i l r=>l.ids++i::r.ids
inductive Fr where
 |L(i:Nat)(r:Tr)
 |R(i:Nat)(l:Tr)
def Fr.i:Fr->Nat
 |.L i _=>i
 |.R i _=>i
def Fr.sib:Fr->Tr
 |.L _ t=>t
 |.R _ t=>t
def Yc(f:Fr)(t:Tr):Tr:=match f with|.L i r=>.node i t r|.R i l=>.node i l t
def vL:List Fr->Tr->Tr
 |[],t=>t
 |f::k,t=>vL k (Yc f t)
def zC(k:List Fr):List Nat:=k.flatMap λf=>f.i::f.sib.ids
def qC(k:List Fr):List Nat:=k.map Fr.i
def Jh:List Fr->List Nat
 |[]=>[]
 |.L _ _::k=>Jh k
 |.R i l::k=>Jh k++(l.ids++[i])
def Ji:List Fr->List Nat
 |[]=>[]
 |.L i r::k=>i::r.ids++Ji k
 |.R _ _::k=>Ji k
theorem jQ(k:List Fr):∀t,(vL k t).ids=Jh k++t.ids++Ji k:=by
 induction k with
 |nil=>intro t;simp[vL,Jh,Ji]
 |cons f k ih=>
  intro t;cases f with
  |L i r=>simp[vL,Yc,ih,Jh,Ji,Tr.ids]
  |R i l=>simp[vL,Yc,ih,Jh,Ji,Tr.ids]
theorem GV(k:List Fr):(zC k).Perm (Jh k++Ji k):=by
 induction k with
 |nil=>exact .refl _
 |cons f k ih=>
  cases f with
  |L i r=>have:zC (.L i r::k)=(i::r.ids)++zC k:=rfl;rw[this];refine(ih.append_left _).trans ?_;simp only[Jh,Ji];refine List.perm_append_comm_assoc _ _ _|>.trans ?_;simp
  |R i l=>have:zC (.R i l::k)=(i::l.ids)++zC k:=rfl;rw[this];refine(ih.append_left _).trans ?_;simp only[Jh,Ji];rw[<-List.append_assoc];refine List.Perm.append_right _ ?_;refine List.perm_append_comm.trans ?_;refine List.Perm.append_left _ ?_;simpa using(List.perm_append_comm (l₁:=[i]) (l₂:=l.ids))
theorem Ql{k:List Fr}{i:Nat}:i∈zC k↔i∈Jh k\/i∈Ji k:=by rw[(GV k).mem_iff];simp
theorem zo{k:List Fr}{i:Nat}(h:i∈qC k):i∈zC k:=by obtain⟨f,hf,rfl⟩:=List.mem_map.1 h;exact List.mem_flatMap.2 ⟨f,hf,by simp⟩
def Is(T:NM)(s:Nat):Nat->Nat->Tr->Prop
 |_,x,.nil=>x=s
 |q,x,.node i l r=>x=i/\i≠s/\(T i).p=q/\Is T s i (T i).l l/\Is T s i (T i).r r
def Cx(T:NM)(s root:Nat):Nat->Nat->List Fr->Prop
 |q,x,[]=>root=x/\q=s
 |q,x,.L i r::k=>q=i/\i≠s/\(T i).l=x/\Is T s i (T i).r r/\Cx T s root (T i).p i k
 |q,x,.R i l::k=>q=i/\i≠s/\(T i).r=x/\Is T s i (T i).l l/\Cx T s root (T i).p i k
variable{T:NM}
theorem Is.ne{s:Nat}:∀{t:Tr} {q x:Nat},Is T s q x t->∀i∈t.ids,i≠s
 |.nil,_,_,_,i,hi=>by simp[Tr.ids]at hi
 |.node j l r,q,x,h,i,hi=>by
  obtain⟨_,h2,_,h4,h5⟩:=h;simp only[Tr.ids,List.mem_append,List.mem_cons]at hi;rcases hi with hi|hi|hi
  ·exact h4.ne i hi
  ·exact hi▸h2
  ·exact h5.ne i hi
theorem Cx.ne{s root:Nat}:∀{k:List Fr} {q x:Nat},Cx T s root q x k->∀i∈zC k,i≠s
 |[],_,_,_,i,hi=>by simp[zC]at hi
 |.L j r::k,q,x,h,i,hi=>by
  obtain⟨_,h2,_,h4,h5⟩:=h;have:i=j\/i∈r.ids\/i∈zC k:=by simpa[zC,Fr.i,Fr.sib,or_assoc]using hi
  rcases this with hi|hi|hi
  ·exact hi▸h2
  ·exact h4.ne i hi
  ·exact h5.ne i hi
 |.R j r::k,q,x,h,i,hi=>by
  obtain⟨_,h2,_,h4,h5⟩:=h;have:i=j\/i∈r.ids\/i∈zC k:=by simpa[zC,Fr.i,Fr.sib,or_assoc]using hi
  rcases this with hi|hi|hi
  ·exact hi▸h2
  ·exact h4.ne i hi
  ·exact h5.ne i hi
def V0(n n':Nd):Prop:=n'.l=n.l/\n'.r=n.r/\n'.p=n.p
variable{T':NM}
theorem Is.frame{s:Nat}:∀{t:Tr} {q x:Nat},Is T s q x t->(∀i∈t.ids,V0 (T i) (T' i))->Is T' s q x t
 |.nil,_,_,h,_=>h
 |.node j l r,q,x,h,hT=>by
  obtain⟨h1,h2,h3,h4,h5⟩:=h;obtain⟨e1,e2,e3⟩:=hT j (by simp[Tr.ids]);refine⟨h1,h2,e3.trans h3,?_,?_⟩
  ·rw[e1];exact h4.frame λi hi=>hT i (by simp[Tr.ids,hi])
  ·rw[e2];exact h5.frame λi hi=>hT i (by simp[Tr.ids,hi])
theorem Cx.frame{s root:Nat}:∀{k:List Fr} {q x:Nat},Cx T s root q x k->(∀i∈zC k,V0 (T i) (T' i))->Cx T' s root q x k
 |[],_,_,h,_=>h
 |.L j r::k,q,x,h,hT=>by
  obtain⟨h1,h2,h3,h4,h5⟩:=h;obtain⟨e1,e2,e3⟩:=hT j (by simp[zC,Fr.i]);refine⟨h1,h2,e1.trans h3,?_,?_⟩
  ·rw[e2];exact h4.frame λi hi=>hT i (by simp[zC,Fr.sib,hi])
  ·rw[e3];exact h5.frame λi hi=>hT i (by
    have:i∈zC (.L j r::k)↔i=j\/i∈r.ids\/i∈zC k:=by simp[zC,Fr.i,Fr.sib,or_assoc]
    rw[this];exact Or.inr (Or.inr hi))
 |.R j r::k,q,x,h,hT=>by
  obtain⟨h1,h2,h3,h4,h5⟩:=h;obtain⟨e1,e2,e3⟩:=hT j (by simp[zC,Fr.i]);refine⟨h1,h2,e2.trans h3,?_,?_⟩
  ·rw[e1];exact h4.frame λi hi=>hT i (by simp[zC,Fr.sib,hi])
  ·rw[e3];exact h5.frame λi hi=>hT i (by
    have:i∈zC (.R j r::k)↔i=j\/i∈r.ids\/i∈zC k:=by simp[zC,Fr.i,Fr.sib,or_assoc]
    rw[this];exact Or.inr (Or.inr hi))
def xN(e:Bytes)(a b:Option Bytes):Bytes:=
 let m:=match a with|none=>e|some a=>if zy a e>0 then a else e
 match b with|none=>m|some b=>if zy b m>0 then b else m
def jb(T:NM):Tr->Option Bytes
 |.nil=>none
 |.node i l r=>some (xN (T i).e.1 (jb T l) (jb T r))
def v_(T:NM):Tr->Prop
 |.nil=>True
 |.node i l r=>(T i).mx.1=xN (T i).e.1 (jb T l) (jb T r)/\v_ T l/\v_ T r
def Q4(T:NM):List Fr->Option Bytes->Prop
 |[],_=>True
 |.L i r::k,m=>v_ T r/\(T i).mx.1=xN (T i).e.1 m (jb T r)/\Q4 T k (some (T i).mx.1)
 |.R i l::k,m=>v_ T l/\(T i).mx.1=xN (T i).e.1 (jb T l) m/\Q4 T k (some (T i).mx.1)
theorem zX{T T':NM}:∀{t:Tr},(∀i∈t.ids,(T' i).e.1=(T i).e.1)->jb T' t=jb T t
 |.nil,_=>rfl
 |.node j l r,h=>by simp only[jb];rw[h j (by simp[Tr.ids]),zX (t:=l) λi hi=>h i (by simp[Tr.ids,hi]),zX (t:=r) λi hi=>h i (by simp[Tr.ids,hi])]
def gq(n n':Nd):Prop:=n'.e.1=n.e.1/\n'.mx.1=n.mx.1
theorem v_.frame:∀{t:Tr},v_ T t->(∀i∈t.ids,gq (T i) (T' i))->v_ T' t
 |.nil,_,_=>trivial
 |.node j l r,h,hT=>by obtain⟨h1,h2,h3⟩:=h;obtain⟨e1,e2⟩:=hT j (by simp[Tr.ids]);refine⟨?_,h2.frame λi hi=>hT i (by simp[Tr.ids,hi]),h3.frame λi hi=>hT i (by simp[Tr.ids,hi])⟩;rw[e1,e2,h1,zX (t:=l) λi hi=>(hT i (by simp[Tr.ids,hi])).1,zX (t:=r) λi hi=>(hT i (by simp[Tr.ids,hi])).1]
theorem qG{i:Nat}{r:Tr}{k:List Fr}:i∈zC (.L j r::k)↔i=j\/i∈r.ids\/i∈zC k:=by simp[zC,Fr.i,Fr.sib,or_assoc]
theorem qv{i:Nat}{r:Tr}{k:List Fr}:i∈zC (.R j r::k)↔i=j\/i∈r.ids\/i∈zC k:=by simp[zC,Fr.i,Fr.sib,or_assoc]
theorem Q4.frame:∀{k:List Fr} {m:Option Bytes},Q4 T k m->(∀i∈zC k,gq (T i) (T' i))->Q4 T' k m
 |[],_,_,_=>trivial
 |.L j r::k,m,h,hT=>by
  obtain⟨h1,h2,h3⟩:=h;obtain⟨e1,e2⟩:=hT j (qG.2 (Or.inl rfl));refine⟨h1.frame λi hi=>hT i (qG.2 (Or.inr (Or.inl hi))),?_,?_⟩
  ·rw[e1,e2,h2,zX (t:=r) λi hi=>(hT i (qG.2 (Or.inr (Or.inl hi)))).1]
  ·rw[e2];exact h3.frame λi hi=>hT i (qG.2 (Or.inr (Or.inr hi)))
 |.R j r::k,m,h,hT=>by
  obtain⟨h1,h2,h3⟩:=h;obtain⟨e1,e2⟩:=hT j (qv.2 (Or.inl rfl));refine⟨h1.frame λi hi=>hT i (qv.2 (Or.inr (Or.inl hi))),?_,?_⟩
  ·rw[e1,e2,h2,zX (t:=r) λi hi=>(hT i (qv.2 (Or.inr (Or.inl hi)))).1]
  ·rw[e2];exact h3.frame λi hi=>hT i (qv.2 (Or.inr (Or.inr hi)))
open Go.RowKit
def kK(r:Rd)(e:EV):Prop:=∃bv,e.2=.iface 283 bv/\Bs r e.1 bv
variable{r r':Rd}
theorem kK.mono(hr:r.le r'){e:EV}(h:kK r e):kK r' e:=by obtain⟨bv,h1,h2⟩:=h;exact⟨bv,h1,h2.mono hr⟩
theorem Ud(v:Value)(w:World):(Instr.typeAssert (.iface 283 v) 228 283 false).run prog w=.ok v w:=by kernel_rfl
variable{v:Value}
theorem yE{l m:Bytes}{u:Value}{w:World}(h1:Z2 w l v)(h2:Z2 w m u):
  Calls prog 187 #[v,.iface 283 u] w λe w'=>e=.returned (.int .i64 (zy l m))/\w=w':=by
 have hc:=q_ h1 h2;have hta:=λv=>Ud v w;obtain⟨p,n,c,rfl,hl⟩:=h1.shape;obtain⟨p2,n2,c2,rfl,tX⟩:=h2.shape;obtain⟨_,_,_,e1,_,e1c,e1m,_,_⟩:=h1;obtain⟨_,_,_,e2,_,e2c,e2m,_,_⟩:=h2;simp only[Value.slice.injEq]at e1 e2;obtain⟨rfl,rfl,rfl⟩:=e1;obtain⟨rfl,rfl,rfl⟩:=e2;have HC:=hid hc;clear hc;have hr:zy l m=if n=0 then (if n2=0 then 0 else 1)else if n2=0 then -1 else zt l m:=by
  unfold zy;have a:(l=[])=(n=0):=by rw[<-hl];simp
  have b:(m=[])=(n2=0):=by rw[<-tX];simp
  simp only[a,b]
 have HR:=hid hr;clear hr;clear hl tX;by_cases k1:n=0
 ·by_cases k2:n2=0
  ·subst k1;subst k2;have H1:=hid (show zy l m=0 by rw[HR.out,if_pos rfl,if_pos rfl]);go_enter func187,ntmps187;go_wp2;go_returns;exact⟨by rw[H1.out];rfl,rfl⟩
  ·subst k1;have H1:=hid (show zy l m=1 by rw[HR.out,if_pos rfl,if_neg k2]);have k2':((n2:Int)==0)=false:=by simpa using k2
   go_enter func187,ntmps187;go_wp2;go_returns;exact⟨by rw[H1.out];rfl,rfl⟩
 ·have k1':((n:Int)==0)=false:=by simpa using k1
  by_cases k2:n2=0
  ·subst k2;have H1:=hid (show zy l m= -1 by rw[HR.out,if_neg k1,if_pos rfl]);go_enter func187,ntmps187;go_wp2;go_returns;exact⟨by rw[H1.out];rfl,rfl⟩
  ·have H1:=hid (show zy l m=zt l m by rw[HR.out,if_neg k1,if_neg k2]);have k2':((n2:Int)==0)=false:=by simpa using k2
   go_enter func187,ntmps187;go_wp2_with (go_at_call 104;refine HC.out.mono ?_;rintro e w1 ⟨rfl,rfl⟩);go_returns;exact⟨by rw[H1.out];rfl,rfl⟩
def Hd(T:NM)(s:Nat)(D:Nat->Prop)(c:Nat)(m:Option Bytes):Prop:=(c=s/\m=none)\/(c≠s/\D c/\m=some (T c).mx.1)
def Yq(T:NM)(s x:Nat):EV:=
 let m:=if (T x).l≠s/\zy (T (T x).l).mx.1 (T x).e.1>0 then (T (T x).l).mx else (T x).e
 if (T x).r≠s/\zy (T (T x).r).mx.1 m.1>0 then (T (T x).r).mx else m
theorem gr(c:Prop)[Decidable c](a b:EV):(if c then a else b).1=if c then a.1 else b.1:=by split<;>rfl
variable{D:Nat->Prop}{ml mr:Option Bytes}{x:Nat}
theorem gt{s:Nat}(hl:Hd T s D (T x).l ml)(hr:Hd T s D (T x).r mr):(Yq T s x).1=xN (T x).e.1 ml mr:=by
 unfold Yq xN;rcases hl with⟨h1,rfl⟩|⟨h1,_,rfl⟩<;>rcases hr with⟨h2,rfl⟩|⟨h2,_,rfl⟩<;>simp only[h1,h2,ne_eq,not_true_eq_false,not_false_eq_true,false_and,true_and,if_false]
 ·split<;>rfl
 ·split<;>rfl
 ·rw[gr,gr]
def ua(n n':Nd):Prop:=n'.b=n.b/\n'.e=n.e/\n'.l=n.l/\n'.r=n.r/\n'.p=n.p/\n'.c=n.c
theorem ua.refl(n:Nd):ua n n:=⟨rfl,rfl,rfl,rfl,rfl,rfl⟩
theorem ua.trans{a b c:Nd}(h:ua a b)(k:ua b c):ua a c:=
 ⟨k.1.trans h.1,k.2.1.trans h.2.1,k.2.2.1.trans h.2.2.1,k.2.2.2.1.trans h.2.2.2.1,k.2.2.2.2.1.trans h.2.2.2.2.1,k.2.2.2.2.2.trans h.2.2.2.2.2⟩
theorem ua.ptr{n n':Nd}(h:ua n n'):V0 n n':=⟨h.2.2.1,h.2.2.2.1,h.2.2.2.2.1⟩
structure U(T:NM)(s root q x:Nat)(D:Nat->Prop)(k:List Fr)(ml mr:Option Bytes):Prop where
 xs:x≠s
 dx:D x
 p:(T x).p=q
 hl:Hd T s D (T x).l ml
 hr:Hd T s D (T x).r mr
 cx:Cx T s root q x k
 ok:Q4 T k (some (T x).mx.1)
 nd:(x::zC k).Nodup
 lx:(T x).l≠x/\(T x).l∉qC k
 rx:(T x).r≠x/\(T x).r∉qC k
 dk:∀i∈zC k,D i
structure jC(T T':NM)(x:Nat)(k:List Fr)(m:Bytes):Prop where
 out:∀i,i≠x->i∉qC k->T' i=T i
 all:∀i,ua (T i) (T' i)
 mx:(T' x).mx.1=m
 ok:Q4 T' k (some m)
variable{q:Nat}
theorem U.same{s root:Nat}{k:List Fr}(h:U T s root q x D k ml mr)(he:zy (T x).mx.1 (Yq T s x).1=0):jC T T x k (xN (T x).e.1 ml mr):=by have:=vZ he;rw[gt h.hl h.hr]at this;exact⟨λ_ _ _=>rfl,λ_=>ua.refl _,this,this▸h.ok⟩
theorem U.last{s root:Nat}(h:U T s root q x D [] ml mr):jC T (T.set x ((T x).sm (Yq T s x))) x [] (xN (T x).e.1 ml mr)/\q=s:=by
 refine⟨⟨λi hi _=>NM.set_ne _ _ hi,λi=> ?_,?_,trivial⟩,h.cx.2⟩
 ·by_cases e:i=x
  ·subst e;rw[NM.set_same];exact⟨rfl,rfl,rfl,rfl,rfl,rfl⟩
  ·rw[NM.set_ne _ _ e];exact ua.refl _
 ·rw[NM.set_same];exact gt h.hl h.hr
theorem Is.hd{s:Nat}{t:Tr}(h:Is T s q x t)(hm:v_ T t)(hD:∀i∈t.ids,D i):Hd T s D x (jb T t):=by
 cases t with
 |nil=>exact Or.inl ⟨h,rfl⟩
 |node i l r=>obtain⟨rfl,h2,_⟩:=h;refine Or.inr ⟨h2,hD _ (by simp[Tr.ids]),?_⟩;simp only[jb,hm.1]
theorem Is.root{s:Nat}{t:Tr}(h:Is T s q x t):x=s\/x∈t.ids:=by
 cases t with
 |nil=>exact Or.inl h
 |node i l r=>obtain⟨rfl,_⟩:=h;right;simp[Tr.ids]
variable{f:Fr}
theorem U.up{s root:Nat}{k:List Fr}(h:U T s root q x D (f::k) ml mr):
  q=f.i/\∃q' ml' mr',U (T.set x ((T x).sm (Yq T s x))) s root q' q D k ml' mr'/\
   ∀T',jC (T.set x ((T x).sm (Yq T s x))) T' q k (xN ((T.set x ((T x).sm (Yq T s x))) q).e.1 ml' mr')->jC T T' x (f::k) (xN (T x).e.1 ml mr):=by
 have Hp:=gt h.hl h.hr;generalize rQ:T.set x ((T x).sm (Yq T s x))=T1;have t1x:T1 x=((T x).sm (Yq T s x)):=by rw[<-rQ];exact NM.set_same _ _ _
 have t1o:∀i,i≠x->T1 i=T i:=λi hi=>by rw[<-rQ];exact NM.set_ne _ _ hi
 have He:∀i,ua (T i) (T1 i):=λi=>by
  by_cases e:i=x
  ·subst e;rw[t1x];exact⟨rfl,rfl,rfl,rfl,rfl,rfl⟩
  ·rw[t1o i e];exact ua.refl _
 have pX:=h.nd;have Ho:=h.cx.ne;cases f with
 |L i r=>
  obtain⟨hq,hi,Sz,tG,Hz⟩:=h.cx;obtain⟨Sy,Mt,tQ⟩:=h.ok;subst hq;simp only[Fr.i,List.nodup_cons,qG,not_or]at pX;have P3:(q::(r.ids++zC k)).Nodup:=pX.2;simp only[List.nodup_cons,List.mem_append,not_or,List.nodup_append]at P3;obtain⟨⟨pB,rU,tY⟩,_⟩:=pX;obtain⟨⟨pY,PL⟩,Pv,rh,nz⟩:=P3;have sJ:T1 q=T q:=t1o q (Ne.symm pB);have rM:r.ids=[]\/True:=Or.inr trivial;have sK:(T q).r=s\/(T q).r∈r.ids:=tG.root;have RR:s∉qC k:=λe=>Hz.ne s (zo e) rfl;refine⟨rfl,(T q).p,some (T1 x).mx.1,jb T1 r,⟨hi,h.dk q (qG.2 (Or.inl rfl)),by rw[sJ],?_,?_,?_,?_,?_,?_,?_,λj hj=>h.dk j (qG.2 (Or.inr (Or.inr hj)))⟩,λT' hd=> ?_⟩
  ·rw[sJ,Sz];exact Or.inr ⟨h.xs,h.dx,rfl⟩
  ·rw[sJ];refine(tG.frame λj hj=>(He j).ptr).hd (Sy.frame λj hj=> ?_) λj hj=>h.dk j (qG.2 (Or.inr (Or.inl hj)));rw[t1o j (λe=>rU (e▸hj))];exact⟨rfl,rfl⟩
  ·exact Hz.frame λj hj=>(He j).ptr
  ·rw[sJ];refine tQ.frame λj hj=> ?_;rw[t1o j (λe=>tY (e▸hj))];exact⟨rfl,rfl⟩
  ·simp only[List.nodup_cons];exact⟨PL,rh⟩
  ·rw[sJ,Sz];exact⟨pB,λe=>tY (zo e)⟩
  ·rw[sJ];rcases sK with e|e
   ·rw[e];exact⟨Ne.symm hi,RR⟩
   ·exact⟨λe2=>pY (e2▸e),λe2=>nz _ e _ (zo e2) rfl⟩
  ·have bw:T' x=T1 x:=hd.out x pB (λe=>tY (zo e));refine⟨λj h1 h2=> ?_,λj=>(He j).trans (hd.all j),?_,?_,?_,?_⟩
   ·simp only[qC,List.map_cons,Fr.i,List.mem_cons,not_or]at h2;rw[hd.out j h2.1 h2.2,t1o j h1]
   ·rw[bw,t1x];exact Hp
   ·refine Sy.frame λj hj=> ?_;rw[hd.out j (λe=>pY (e▸hj)) (λe=>nz _ hj _ (zo e) rfl),t1o j (λe=>rU (e▸hj))];exact⟨rfl,rfl⟩
   ·rw[hd.mx];have e1:(T' q).e.1=(T1 q).e.1:=by rw[(hd.all q).2.1]
    have e2:jb T' r=jb T1 r:=zX λj hj=>by rw[(hd.all j).2.1]
    have Tp:(T1 x).mx.1=xN (T x).e.1 ml mr:=by rw[t1x];exact Hp
    rw[e1,e2,Tp]
   ·rw[hd.mx];exact hd.ok
 |R i r=>
  obtain⟨hq,hi,Sz,tG,Hz⟩:=h.cx;obtain⟨Sy,Mt,tQ⟩:=h.ok;subst hq;simp only[Fr.i,List.nodup_cons,qv,not_or]at pX;have P3:(q::(r.ids++zC k)).Nodup:=pX.2;simp only[List.nodup_cons,List.mem_append,not_or,List.nodup_append]at P3;obtain⟨⟨pB,rU,tY⟩,_⟩:=pX;obtain⟨⟨pY,PL⟩,Pv,rh,nz⟩:=P3;have sJ:T1 q=T q:=t1o q (Ne.symm pB);have sK:(T q).l=s\/(T q).l∈r.ids:=tG.root;have RR:s∉qC k:=λe=>Hz.ne s (zo e) rfl;refine⟨rfl,(T q).p,jb T1 r,some (T1 x).mx.1,⟨hi,h.dk q (qv.2 (Or.inl rfl)),by rw[sJ],?_,?_,?_,?_,?_,?_,?_,λj hj=>h.dk j (qv.2 (Or.inr (Or.inr hj)))⟩,λT' hd=> ?_⟩
  ·rw[sJ];refine(tG.frame λj hj=>(He j).ptr).hd (Sy.frame λj hj=> ?_) λj hj=>h.dk j (qv.2 (Or.inr (Or.inl hj)));rw[t1o j (λe=>rU (e▸hj))];exact⟨rfl,rfl⟩
  ·rw[sJ,Sz];exact Or.inr ⟨h.xs,h.dx,rfl⟩
  ·exact Hz.frame λj hj=>(He j).ptr
  ·rw[sJ];refine tQ.frame λj hj=> ?_;rw[t1o j (λe=>tY (e▸hj))];exact⟨rfl,rfl⟩
  ·simp only[List.nodup_cons];exact⟨PL,rh⟩
  ·rw[sJ];rcases sK with e|e
   ·rw[e];exact⟨Ne.symm hi,RR⟩
   ·exact⟨λe2=>pY (e2▸e),λe2=>nz _ e _ (zo e2) rfl⟩
  ·rw[sJ,Sz];exact⟨pB,λe=>tY (zo e)⟩
  ·have bw:T' x=T1 x:=hd.out x pB (λe=>tY (zo e));refine⟨λj h1 h2=> ?_,λj=>(He j).trans (hd.all j),?_,?_,?_,?_⟩
   ·simp only[qC,List.map_cons,Fr.i,List.mem_cons,not_or]at h2;rw[hd.out j h2.1 h2.2,t1o j h1]
   ·rw[bw,t1x];exact Hp
   ·refine Sy.frame λj hj=> ?_;rw[hd.out j (λe=>pY (e▸hj)) (λe=>nz _ hj _ (zo e) rfl),t1o j (λe=>rU (e▸hj))];exact⟨rfl,rfl⟩
   ·rw[hd.mx];have e1:(T' q).e.1=(T1 q).e.1:=by rw[(hd.all q).2.1]
    have e2:jb T' r=jb T1 r:=zX λj hj=>by rw[(hd.all j).2.1]
    have Tp:(T1 x).mx.1=xN (T x).e.1 ml mr:=by rw[t1x];exact Hp
    rw[e1,e2,Tp]
   ·rw[hd.mx];exact hd.ok
structure RP(T:NM)(s root q x y:Nat)(D:Nat->Prop)(k:List Fr):Prop where
 cx:Cx T s root q x k
 p:(T x).p=q
 xy:x≠y
 xk:x∉zC k
 yk:y∉zC k
 xs:x≠s
 ys:y≠s
 dx:D x
 dy:D y
 nd:(zC k).Nodup
 dk:∀i∈zC k,D i
 ok:∃m,Q4 T k (some m)
def ZV(n n':Nd):Prop:=n'.b=n.b/\n'.e=n.e/\n'.c=n.c
theorem ZV.refl(n:Nd):ZV n n:=⟨rfl,rfl,rfl⟩
theorem ZV.trans{a b c:Nd}(h:ZV a b)(k:ZV b c):ZV a c:=⟨k.1.trans h.1,k.2.1.trans h.2.1,k.2.2.trans h.2.2⟩
theorem ua.bec{n n':Nd}(h:ua n n'):ZV n n':=⟨h.1,h.2.1,h.2.2.2.2.2⟩
structure We(T T':NM)(s root' q x y:Nat)(k:List Fr):Prop where
 cx:Cx T' s root' q y k
 ok:Q4 T' k (some (T y).mx.1)
 yat:T' y=((T y).sp (q))
 xat:T' x=((T x).sp (y))
 out:∀i,i≠x->i≠y->i∉qC k->T' i=T i
 bec:∀i,ZV (T i) (T' i)
theorem vJ(T:NM)(i:Nat)(n:Nd)(h:ZV (T i) n)(j:Nat):ZV (T j) ((T.set i n) j):=by
 by_cases e:j=i
 ·subst e;rw[NM.set_same];exact h
 ·rw[NM.set_ne _ _ e];exact ZV.refl _
variable{y:Nat}
theorem RP.nil{s root:Nat}(h:RP T s root q x y D []):q=s/\We T ((T.set y ((T y).sp q)).set x ((T x).sp y)) s y q x y []:=by
 have hq:=h.cx.2;have e1:(T.set y ((T y).sp q)) x=T x:=NM.set_ne _ _ h.xy;refine⟨hq,⟨rfl,hq⟩,trivial,?_,?_,λi h1 h2 _=> ?_,λi=> ?_⟩
 ·rw[NM.set_ne _ _ (Ne.symm h.xy),NM.set_same]
 ·rw[NM.set_same]
 ·rw[NM.set_ne _ _ h1,NM.set_ne _ _ h2]
 ·exact(vJ T y ((T y).sp q) ⟨rfl,rfl,rfl⟩ i).trans (vJ _ x ((T x).sp y) (by rw[e1];exact⟨rfl,rfl,rfl⟩) i)
theorem RP.consL{s root i:Nat}{r:Tr}{k:List Fr}(h:RP T s root q x y D (.L i r::k)):
  q=i/\q≠s/\D q/\q≠x/\q≠y/\(T q).l=x/\∃q' ml mr,∀T2,T2=(T.set y ((T y).sp (q))).set q ((T q).sl (y))->U T2 s root q' q D k ml mr/\
   ∀T3,jC T2 T3 q k (xN (T2 q).e.1 ml mr)->We T (T3.set x ((T3 x).sp (y))) s root q x y (.L i r::k):=by
 obtain⟨hq,hi,Sz,tG,Hz⟩:=h.cx;obtain⟨m,Sy,Mt,tQ⟩:=h.ok;subst hq;have SC:=h.xk;have Ns:=h.yk;have P3:(q::(r.ids++zC k)).Nodup:=h.nd;simp only[qG,not_or]at SC Ns;simp only[List.nodup_cons,List.mem_append,not_or,List.nodup_append]at P3;obtain⟨pB,rU,tY⟩:=SC;obtain⟨Sd,Nk,bz⟩:=Ns;obtain⟨⟨pY,PL⟩,Pv,rh,nz⟩:=P3;have sK:(T q).r=s\/(T q).r∈r.ids:=tG.root;have RR:s∉qC k:=λe=>Hz.ne s (zo e) rfl;refine⟨rfl,hi,h.dk q (qG.2 (Or.inl rfl)),Ne.symm pB,Ne.symm Sd,Sz,(T q).p,some (T y).mx.1,jb T r,λT2 S5=> ?_⟩;have t2q:T2 q=((T q).sl (y)):=by rw[S5];exact NM.set_same _ _ _
 have t2y:T2 y=((T y).sp (q)):=by rw[S5,NM.set_ne _ _ Sd];exact NM.set_same _ _ _
 have t2o:∀j,j≠q->j≠y->T2 j=T j:=λj h1 h2=>by rw[S5,NM.set_ne _ _ h1,NM.set_ne _ _ h2]
 have SL:∀j∈r.ids,T2 j=T j:=λj hj=>t2o j (λe=>pY (e▸hj)) (λe=>Nk (e▸hj));have Rk:∀j∈zC k,T2 j=T j:=λj hj=>t2o j (λe=>PL (e▸hj)) (λe=>bz (e▸hj));have ptr_of:∀j,T2 j=T j->V0 (T j) (T2 j):=λj e=>by rw[e];exact⟨rfl,rfl,rfl⟩
 have ends_of:∀j,T2 j=T j->gq (T j) (T2 j):=λj e=>by rw[e];exact⟨rfl,rfl⟩
 refine⟨⟨hi,h.dk q (qG.2 (Or.inl rfl)),by rw[t2q],?_,?_,?_,?_,?_,?_,?_,λj hj=>h.dk j (qG.2 (Or.inr (Or.inr hj)))⟩,λT3 hd=> ?_⟩
 ·rw[t2q];exact Or.inr ⟨h.ys,h.dy,by rw[t2y]⟩
 ·have:=(tG.frame λj hj=>ptr_of j (SL j hj)).hd (Sy.frame λj hj=>ends_of j (SL j hj)) λj hj=>h.dk j (qG.2 (Or.inr (Or.inl hj)));rw[t2q,<-zX (T':=T2) (t:=r) λj hj=>by rw[SL j hj]];exact this
 ·exact Hz.frame λj hj=>ptr_of j (Rk j hj)
 ·rw[t2q];exact tQ.frame λj hj=>ends_of j (Rk j hj)
 ·simp only[List.nodup_cons];exact⟨PL,rh⟩
 ·rw[t2q];exact⟨Sd,λe=>bz (zo e)⟩
 ·rw[t2q];rcases sK with e|e
  ·show(T q).r≠q/\(T q).r∉qC k;rw[e];exact⟨Ne.symm hi,RR⟩
  ·exact⟨λe2=>pY (e2▸e),λe2=>nz _ e _ (zo e2) rfl⟩
 ·have d3y:T3 y=T2 y:=hd.out y Sd (λe=>bz (zo e));have d3x:T3 x=T2 x:=hd.out x pB (λe=>tY (zo e));have t2x:T2 x=T x:=t2o x pB h.xy;have He:∀j,j≠q->j≠y->j≠x->j∉qC k->(T3.set x ((T3 x).sp (y))) j=T j:=λj h1 h2 h3 h4=>by
   rw[NM.set_ne _ _ h3,hd.out j h1 h4,t2o j h1 h2]
  have IM:∀j∈zC k,ua (T j) ((T3.set x ((T3 x).sp (y))) j):=λj hj=>by rw[NM.set_ne _ _ (λe:j=x=>tY (e▸hj)),<-Rk j hj];exact hd.all j
  have lq:(T3.set x ((T3 x).sp (y))) q=T3 q:=NM.set_ne _ _ (Ne.symm pB);have Nt:∀j∈r.ids,(T3.set x ((T3 x).sp (y))) j=T j:=λj hj=>He j (λe=>pY (e▸hj)) (λe=>Nk (e▸hj)) (λe=>rU (e▸hj)) (λe=>nz _ hj _ (zo e) rfl);have eq:=hd.all q;refine⟨⟨rfl,hi,?_,?_,?_⟩,⟨?_,?_,?_⟩,?_,?_,λj h1 h2 h3=> ?_,λj=> ?_⟩
  ·rw[lq,eq.2.2.1,t2q]
  ·rw[lq,eq.2.2.2.1,t2q];exact tG.frame λj hj=>by rw[Nt j hj];exact⟨rfl,rfl,rfl⟩
  ·rw[lq,eq.2.2.2.2.1,t2q];exact Hz.frame λj hj=>(IM j hj).ptr
  ·exact Sy.frame λj hj=>by rw[Nt j hj];exact⟨rfl,rfl⟩
  ·rw[lq,hd.mx,eq.2.1,zX (T:=T) (T':=T3.set x ((T3 x).sp y)) (t:=r) λj hj=>by rw[Nt j hj]]
  ·rw[lq,hd.mx];exact hd.ok.frame λj hj=>by rw[NM.set_ne _ _ (λe:j=x=>tY (e▸hj))];exact⟨rfl,rfl⟩
  ·rw[NM.set_ne _ _ (Ne.symm h.xy),d3y,t2y]
  ·rw[NM.set_same,d3x,t2x]
  ·simp only[qC,List.map_cons,Fr.i,List.mem_cons,not_or]at h3;exact He j h3.1 h2 h1 h3.2
  ·have b1:ZV (T j) (T2 j):=by
    rw[S5];refine(vJ T y ((T y).sp q) ⟨rfl,rfl,rfl⟩ j).trans (vJ _ q _ ?_ j);rw[NM.set_ne _ _ (Ne.symm Sd)];exact⟨rfl,rfl,rfl⟩
   exact(b1.trans (hd.all j).bec).trans (vJ T3 x ((T3 x).sp y) ⟨rfl,rfl,rfl⟩ j)
theorem RP.consR{s root i:Nat}{r:Tr}{k:List Fr}(h:RP T s root q x y D (.R i r::k)):
  q=i/\q≠s/\D q/\q≠x/\q≠y/\(T q).l≠x/\∃q' ml mr,∀T2,T2=(T.set y ((T y).sp (q))).set q ((T q).sr (y))->U T2 s root q' q D k ml mr/\
   ∀T3,jC T2 T3 q k (xN (T2 q).e.1 ml mr)->We T (T3.set x ((T3 x).sp (y))) s root q x y (.R i r::k):=by
 obtain⟨hq,hi,Sz,tG,Hz⟩:=h.cx;obtain⟨m,Sy,Mt,tQ⟩:=h.ok;subst hq;have SC:=h.xk;have Ns:=h.yk;have P3:(q::(r.ids++zC k)).Nodup:=h.nd;simp only[qv,not_or]at SC Ns;simp only[List.nodup_cons,List.mem_append,not_or,List.nodup_append]at P3;obtain⟨pB,rU,tY⟩:=SC;obtain⟨Sd,Nk,bz⟩:=Ns;obtain⟨⟨pY,PL⟩,Pv,rh,nz⟩:=P3;have sK:(T q).l=s\/(T q).l∈r.ids:=tG.root;have RR:s∉qC k:=λe=>Hz.ne s (zo e) rfl;refine⟨rfl,hi,h.dk q (qv.2 (Or.inl rfl)),Ne.symm pB,Ne.symm Sd,?_,(T q).p,jb T r,some (T y).mx.1,λT2 S5=> ?_⟩
 ·rcases sK with e|e
  ·rw[e];exact Ne.symm h.xs
  ·exact λe2=>rU (e2▸e)
 have t2q:T2 q=((T q).sr (y)):=by rw[S5];exact NM.set_same _ _ _
 have t2y:T2 y=((T y).sp (q)):=by rw[S5,NM.set_ne _ _ Sd];exact NM.set_same _ _ _
 have t2o:∀j,j≠q->j≠y->T2 j=T j:=λj h1 h2=>by rw[S5,NM.set_ne _ _ h1,NM.set_ne _ _ h2]
 have SL:∀j∈r.ids,T2 j=T j:=λj hj=>t2o j (λe=>pY (e▸hj)) (λe=>Nk (e▸hj));have Rk:∀j∈zC k,T2 j=T j:=λj hj=>t2o j (λe=>PL (e▸hj)) (λe=>bz (e▸hj));have ptr_of:∀j,T2 j=T j->V0 (T j) (T2 j):=λj e=>by rw[e];exact⟨rfl,rfl,rfl⟩
 have ends_of:∀j,T2 j=T j->gq (T j) (T2 j):=λj e=>by rw[e];exact⟨rfl,rfl⟩
 refine⟨⟨hi,h.dk q (qv.2 (Or.inl rfl)),by rw[t2q],?_,?_,?_,?_,?_,?_,?_,λj hj=>h.dk j (qv.2 (Or.inr (Or.inr hj)))⟩,λT3 hd=> ?_⟩
 ·have:=(tG.frame λj hj=>ptr_of j (SL j hj)).hd (Sy.frame λj hj=>ends_of j (SL j hj)) λj hj=>h.dk j (qv.2 (Or.inr (Or.inl hj)));rw[t2q,<-zX (T':=T2) (t:=r) λj hj=>by rw[SL j hj]];exact this
 ·rw[t2q];exact Or.inr ⟨h.ys,h.dy,by rw[t2y]⟩
 ·exact Hz.frame λj hj=>ptr_of j (Rk j hj)
 ·rw[t2q];exact tQ.frame λj hj=>ends_of j (Rk j hj)
 ·simp only[List.nodup_cons];exact⟨PL,rh⟩
 ·rw[t2q];rcases sK with e|e
  ·show(T q).l≠q/\(T q).l∉qC k;rw[e];exact⟨Ne.symm hi,RR⟩
  ·exact⟨λe2=>pY (e2▸e),λe2=>nz _ e _ (zo e2) rfl⟩
 ·rw[t2q];exact⟨Sd,λe=>bz (zo e)⟩
 ·have d3y:T3 y=T2 y:=hd.out y Sd (λe=>bz (zo e));have d3x:T3 x=T2 x:=hd.out x pB (λe=>tY (zo e));have t2x:T2 x=T x:=t2o x pB h.xy;have He:∀j,j≠q->j≠y->j≠x->j∉qC k->(T3.set x ((T3 x).sp (y))) j=T j:=λj h1 h2 h3 h4=>by
   rw[NM.set_ne _ _ h3,hd.out j h1 h4,t2o j h1 h2]
  have IM:∀j∈zC k,ua (T j) ((T3.set x ((T3 x).sp (y))) j):=λj hj=>by rw[NM.set_ne _ _ (λe:j=x=>tY (e▸hj)),<-Rk j hj];exact hd.all j
  have lq:(T3.set x ((T3 x).sp (y))) q=T3 q:=NM.set_ne _ _ (Ne.symm pB);have Nt:∀j∈r.ids,(T3.set x ((T3 x).sp (y))) j=T j:=λj hj=>He j (λe=>pY (e▸hj)) (λe=>Nk (e▸hj)) (λe=>rU (e▸hj)) (λe=>nz _ hj _ (zo e) rfl);have eq:=hd.all q;refine⟨⟨rfl,hi,?_,?_,?_⟩,⟨?_,?_,?_⟩,?_,?_,λj h1 h2 h3=> ?_,λj=> ?_⟩
  ·rw[lq,eq.2.2.2.1,t2q]
  ·rw[lq,eq.2.2.1,t2q];exact tG.frame λj hj=>by rw[Nt j hj];exact⟨rfl,rfl,rfl⟩
  ·rw[lq,eq.2.2.2.2.1,t2q];exact Hz.frame λj hj=>(IM j hj).ptr
  ·exact Sy.frame λj hj=>by rw[Nt j hj];exact⟨rfl,rfl⟩
  ·rw[lq,hd.mx,eq.2.1,zX (T:=T) (T':=T3.set x ((T3 x).sp y)) (t:=r) λj hj=>by rw[Nt j hj]]
  ·rw[lq,hd.mx];exact hd.ok.frame λj hj=>by rw[NM.set_ne _ _ (λe:j=x=>tY (e▸hj))];exact⟨rfl,rfl⟩
  ·rw[NM.set_ne _ _ (Ne.symm h.xy),d3y,t2y]
  ·rw[NM.set_same,d3x,t2x]
  ·simp only[qC,List.map_cons,Fr.i,List.mem_cons,not_or]at h3;exact He j h3.1 h2 h1 h3.2
  ·have b1:ZV (T j) (T2 j):=by
    rw[S5];refine(vJ T y ((T y).sp q) ⟨rfl,rfl,rfl⟩ j).trans (vJ _ q _ ?_ j);rw[NM.set_ne _ _ (Ne.symm Sd)];exact⟨rfl,rfl,rfl⟩
   exact(b1.trans (hd.all j).bec).trans (vJ T3 x ((T3 x).sp y) ⟨rfl,rfl,rfl⟩ j)
structure TG(T:NM)(s root q x:Nat)(D:Nat->Prop)(k:List Fr)(t:Tr):Prop where
 is:Is T s q x t
 mx:v_ T t
 cx:Cx T s root q x k
 ok:Q4 T k (jb T t)
 nd:(t.ids++zC k).Nodup
 dk:∀i∈t.ids++zC k,D i
variable{α:Type}
theorem z_{a b:List α}(h:(a++b).Nodup):a.Nodup/\b.Nodup/\∀x∈a,x∉b:=by rw[List.nodup_append]at h;exact⟨h.1,h.2.1,λx hx hb=>h.2.2 x hx x hb rfl⟩
theorem TG.rotL{s root:Nat}{k:List Fr}{a b c:Tr}(h:TG T s root q x D k (.node x a (.node y b c))):
  (T x).r=y/\x≠s/\y≠s/\x≠y/\D x/\D y/\((T y).l=s\/D (T y).l/\(T y).l≠x/\(T y).l≠y/\(T y).l≠s)/\(T x).p=q/\
  ∀T1,T1=(if (T y).l=s then T.set x ((T x).sr (T y).l)else (T.set x ((T x).sr (T y).l)).set (T y).l ((T (T y).l).sp x))->
   U T1 s root q x D k (jb T a) (jb T b)/\
   ∀T2,jC T1 T2 x k (xN (T1 x).e.1 (jb T a) (jb T b))->RP T2 s root q x y D k/\
   ∀T4 root',We T2 T4 s root' q x y k->∀T5,T5=T4.set y ((T4 y).sl x)->U T5 s root' q y D k (some (T5 x).mx.1) (jb T c)/\
   ∀T6,jC T5 T6 y k (xN (T5 y).e.1 (some (T5 x).mx.1) (jb T c))->
    TG T6 s root' q y D k (.node y (.node x a b) c)/\(∀i,ZV (T i) (T6 i)):=by
 obtain⟨⟨_,SM,wB,RS,bA,Tq,hyp,Rs,LH⟩,⟨Tp,Aw,hmy,N1,CI⟩,Hz,pV,pX,Si⟩:=h;subst bA;generalize hy:(T x).r=y at*
 have tH:(Tr.node x a (.node y b c)).ids=a.ids++x::(b.ids++y::c.ids):=rfl;rw[tH]at pX Si;obtain⟨bB,Nu,SN⟩:=z_ pX;obtain⟨mL,P3,wC⟩:=z_ bB;simp only[List.nodup_cons]at P3;obtain⟨pB,bC⟩:=P3;obtain⟨rV,nj,rE⟩:=z_ bC;simp only[List.nodup_cons]at nj;obtain⟨Sd,P5⟩:=nj;simp only[List.mem_append,List.mem_cons,not_or]at pB;obtain⟨tS,RJ,Ax⟩:=pB;have bD:x∉a.ids:=λe=>wC x e (by simp);have IN:y∉a.ids:=λe=>wC y e (by simp);have Ay:y∉b.ids:=λe=>rE y e (by simp);have SC:x∉zC k:=SN x (by simp);have Ns:y∉zC k:=SN y (by simp);have cy:∀j∈a.ids,j∉zC k:=λj hj=>SN j (by simp[hj]);have PA:∀j∈b.ids,j∉zC k:=λj hj=>SN j (by simp[hj]);have Nb:∀j∈c.ids,j∉zC k:=λj hj=>SN j (by simp[hj]);have th:∀j∈a.ids,j∉b.ids:=λj hj e=>wC j hj (by simp[e]);have Az:∀j∈a.ids,j∉c.ids:=λj hj e=>wC j hj (by simp[e]);have sV:∀j∈b.ids,j∉c.ids:=λj hj e=>rE j hj (by simp[e]);have dx:D x:=Si x (by simp);have dy:D y:=Si y (by simp)
 have dka:∀j∈a.ids,D j:=λj hj=>Si j (by simp[hj]);have dkb:∀j∈b.ids,D j:=λj hj=>Si j (by simp[hj]);have dkc:∀j∈c.ids,D j:=λj hj=>Si j (by simp[hj]);have dkk:∀j∈zC k,D j:=λj hj=>Si j (by simp[hj]);have RR:s∉qC k:=λe=>Hz.ne s (zo e) rfl;have Rx:=Rs.root;have IP:=RS.root;have mM:=LH.root;have N2:(T y).l=s\/D (T y).l/\(T y).l≠x/\(T y).l≠y/\(T y).l≠s:=by
  rcases Rx with e|e
  ·exact Or.inl e
  ·exact Or.inr ⟨dkb _ e,λe2=>tS (e2▸e),λe2=>Ay (e2▸e),Rs.ne _ e⟩
 refine⟨rfl,SM,Tq,RJ,dx,dy,N2,wB,λT1 rQ=> ?_⟩;have t1x:T1 x=(T x).sr (T y).l:=by
  rw[rQ];rcases N2 with e|⟨_,e,_,e3⟩
  ·rw[if_pos e];exact NM.set_same _ _ _
  ·rw[if_neg e3,NM.set_ne _ _ (Ne.symm e)];exact NM.set_same _ _ _
 have t1o:∀j,j≠x->j≠(T y).l->T1 j=T j:=λj h1 h2=>by
  rw[rQ];split
  ·exact NM.set_ne _ _ h1
  ·rw[NM.set_ne _ _ h2,NM.set_ne _ _ h1]
 have t1y:T1 y=T y:=by
  rcases N2 with e|⟨_,_,e,_⟩
  ·rw[rQ,if_pos e];exact NM.set_ne _ _ (Ne.symm RJ)
  ·exact t1o y (Ne.symm RJ) (Ne.symm e)
 have t1m:∀j,(T1 j).b=(T j).b/\(T1 j).e=(T j).e/\(T1 j).mx=(T j).mx/\(T1 j).c=(T j).c:=λj=>by
  by_cases e1:j=x
  ·subst e1;rw[t1x];exact⟨rfl,rfl,rfl,rfl⟩
  ·by_cases e2:j=(T y).l
   ·rw[rQ];split
    ·rw[NM.set_ne _ _ e1];exact⟨rfl,rfl,rfl,rfl⟩
    ·rw[<-e2,NM.set_same];exact⟨rfl,rfl,rfl,rfl⟩
   ·rw[t1o j e1 e2];exact⟨rfl,rfl,rfl,rfl⟩
 have ylne:∀{t:Tr},(∀j∈t.ids,j∉b.ids)->(∀j∈t.ids,j≠s)->∀j∈t.ids,j≠(T y).l:=λ{t} h1 h2 j hj e=>by
  rcases Rx with e2|e2
  ·exact h2 j hj (e.trans e2)
  ·exact h1 j hj (e▸e2)
 have ta:∀j∈a.ids,T1 j=T j:=λj hj=>t1o j (λe=>bD (e▸hj)) (ylne th RS.ne j hj);have tc:∀j∈c.ids,T1 j=T j:=λj hj=>t1o j (λe=>Ax (e▸hj)) (ylne (λj hj e=>sV j e hj) LH.ne j hj);have tk:∀j∈zC k,T1 j=T j:=λj hj=>t1o j (λe=>SC (e▸hj)) (λe=>by
  rcases Rx with e2|e2
  ·exact Hz.ne j hj (e.trans e2)
  ·exact PA _ e2 (e▸hj))
 have ptr_of:∀j,T1 j=T j->V0 (T j) (T1 j):=λj e=>by rw[e];exact⟨rfl,rfl,rfl⟩
 have ends_of:∀j,gq (T j) (T1 j):=λj=>⟨by rw[(t1m j).2.1],by rw[(t1m j).2.2.1]⟩;have mxTe:∀t,jb T1 t=jb T t:=λt=>zX λj _=>by rw[(t1m j).2.1]
 have isa1:Is T1 s x (T x).l a:=RS.frame λj hj=>ptr_of j (ta j hj);have isc1:Is T1 s y (T y).r c:=LH.frame λj hj=>ptr_of j (tc j hj);have isb1:Is T1 s x (T y).l b:=by
  cases b with
  |nil=>exact Rs
  |node i bl br=>
   obtain⟨e1,e2,e3,e4,e5⟩:=Rs;have IQ:i≠x:=λe=>tS (by simp[Tr.ids,e]);have nb:(bl.ids++i::br.ids).Nodup:=rV;obtain⟨n1,n2,n3⟩:=z_ nb;simp only[List.nodup_cons]at n2;have t1i:T1 i=(T i).sp x:=by rw[rQ,e1,if_neg e2];exact NM.set_same _ _ _|>.trans (by rw[e1]at*)
   refine⟨e1,e2,by rw[t1i],?_,?_⟩
   ·rw[t1i];exact e4.frame λj hj=>ptr_of j (t1o j (λe=>tS (by simp[Tr.ids,<-e,hj])) (λe=>n3 j hj (by rw[e,e1];simp)))
   ·rw[t1i];exact e5.frame λj hj=>ptr_of j (t1o j (λe=>tS (by simp[Tr.ids,<-e,hj])) (λe=>n2.1 (by rw[<-e1,<-e];exact hj)))
 have bE:Q4 T1 k (some (T1 x).mx.1):=by rw[(t1m x).2.2.1,Tp];exact pV.frame λj _=>ends_of j
 have lu:Cx T1 s root q x k:=Hz.frame λj hj=>ptr_of j (tk j hj);have sp_a:∀z,(z=s\/z∈a.ids)->z≠x/\z∉qC k:=λz e=>by
  rcases e with e|e
  ·rw[e];exact⟨Ne.symm SM,RR⟩
  ·exact⟨λe2=>bD (e2▸e),λe2=>cy _ e (zo e2)⟩
 have sp_b:∀z,(z=s\/z∈b.ids)->z≠x/\z∉qC k:=λz e=>by
  rcases e with e|e
  ·rw[e];exact⟨Ne.symm SM,RR⟩
  ·exact⟨λe2=>tS (e2▸e),λe2=>PA _ e (zo e2)⟩
 refine⟨⟨SM,dx,by rw[t1x];exact wB,?_,?_,lu,bE,by simp only[List.nodup_cons];exact⟨SC,Nu⟩,?_,?_,dkk⟩,λT2 Pe=> ?_⟩
 ·rw[t1x,<-mxTe a];exact isa1.hd (Aw.frame λj _=>ends_of j) dka
 ·rw[t1x,<-mxTe b];exact isb1.hd (N1.frame λj _=>ends_of j) dkb
 ·rw[t1x];exact sp_a _ IP
 ·rw[t1x];exact sp_b _ Rx
 have m2:=Pe.all;have t2y:T2 y=T y:=(Pe.out y (Ne.symm RJ) (λe=>Ns (zo e))).trans t1y;have sub2:∀{t:Tr},(∀j∈t.ids,j≠x)->(∀j∈t.ids,j∉zC k)->∀j∈t.ids,T2 j=T1 j:=λ{t} h1 h2 j hj=>Pe.out j (h1 j hj) (λe=>h2 j hj (zo e));have xa':∀j∈a.ids,j≠x:=λj hj e=>bD (e▸hj);have xb':∀j∈b.ids,j≠x:=λj hj e=>tS (e▸hj);have xc':∀j∈c.ids,j≠x:=λj hj e=>Ax (e▸hj);have bF:Cx T2 s root q x k:=lu.frame λj _=>(m2 j).ptr;have px2:(T2 x).p=q:=by rw[(m2 x).2.2.2.2.1,t1x];exact wB
 refine⟨⟨bF,px2,RJ,SC,Ns,SM,Tq,dx,dy,Nu,dkk,⟨_,Pe.ok⟩⟩,λT4 root' Sv T5 Mg=> ?_⟩;have t5y:T5 y=(T4 y).sl x:=by rw[Mg];exact NM.set_same _ _ _
 have t5o:∀j,j≠y->T5 j=T4 j:=λj hj=>by rw[Mg];exact NM.set_ne _ _ hj
 have t4:∀{t:Tr},(∀j∈t.ids,j≠x)->(∀j∈t.ids,j≠y)->(∀j∈t.ids,j∉zC k)->∀j∈t.ids,T5 j=T1 j:=λ{t} h1 h2 h3 j hj=>by rw[t5o j (h2 j hj),Sv.out j (h1 j hj) (h2 j hj) (λe=>h3 j hj (zo e)),sub2 h1 h3 j hj]
 have ya':∀j∈a.ids,j≠y:=λj hj e=>IN (e▸hj);have yb':∀j∈b.ids,j≠y:=λj hj e=>Ay (e▸hj);have yc':∀j∈c.ids,j≠y:=λj hj e=>Sd (e▸hj);have t5a:=t4 xa' ya' cy;have t5b:=t4 xb' yb' PA;have t5c:=t4 xc' yc' Nb;have t5x:T5 x=(T2 x).sp y:=(t5o x RJ).trans Sv.xat
 have t4y:T4 y=(T y).sp q:=by rw[Sv.yat,t2y]
 have t5k:∀j∈zC k,T5 j=T4 j:=λj hj=>t5o j (λe=>Ns (e▸hj));have bec5:∀i,ZV (T i) (T5 i):=λi=>by have b1:ZV (T i) (T1 i):=⟨(t1m i).1,(t1m i).2.1,(t1m i).2.2.2⟩;refine((b1.trans (m2 i).bec).trans (Sv.bec i)).trans ?_;rw[Mg];exact vJ T4 y ((T4 y).sl x) ⟨rfl,rfl,rfl⟩ i
 have mxT5:∀t,jb T5 t=jb T t:=λt=>zX λj _=>by rw[(bec5 j).2.1]
 have is5a:Is T5 s x (T5 x).l a:=by rw[t5x,show((T2 x).sp y).l=(T x).l from by show(T2 x).l=_;rw[(m2 x).2.2.1,t1x]];exact isa1.frame λj hj=>by rw[t5a j hj];exact⟨rfl,rfl,rfl⟩
 have is5b:Is T5 s x (T5 x).r b:=by rw[t5x,show((T2 x).sp y).r=(T y).l from by show(T2 x).r=_;rw[(m2 x).2.2.2.1,t1x]];exact isb1.frame λj hj=>by rw[t5b j hj];exact⟨rfl,rfl,rfl⟩
 have is5c:Is T5 s y (T5 y).r c:=by rw[t5y,t4y];exact isc1.frame λj hj=>by rw[t5c j hj];exact⟨rfl,rfl,rfl⟩
 have mx5a:v_ T5 a:=Aw.frame λj hj=>by rw[t5a j hj];exact ends_of j
 have mx5b:v_ T5 b:=N1.frame λj hj=>by rw[t5b j hj];exact ends_of j
 have mx5c:v_ T5 c:=CI.frame λj hj=>by rw[t5c j hj];exact ends_of j
 have mx5x:(T5 x).mx.1=xN (T5 x).e.1 (jb T5 a) (jb T5 b):=by rw[mxT5,mxT5,t5x];show(T2 x).mx.1=xN (T2 x).e.1 _ _;rw[Pe.mx,(m2 x).2.1]
 have cx5:Cx T5 s root' q y k:=Sv.cx.frame λj hj=>by rw[t5k j hj];exact⟨rfl,rfl,rfl⟩
 have ok5:Q4 T5 k (some (T5 y).mx.1):=by
  rw[t5y];have:(T4 y).mx.1=(T2 y).mx.1:=by rw[t4y,t2y]
  show Q4 T5 k (some (T4 y).mx.1);rw[this];exact Sv.ok.frame λj hj=>by rw[t5k j hj];exact⟨rfl,rfl⟩
 refine⟨⟨Tq,dy,by rw[t5y,t4y],?_,?_,cx5,ok5,by simp only[List.nodup_cons];exact⟨Ns,Nu⟩,?_,?_,dkk⟩,λT6 hd6=> ?_⟩
 ·rw[t5y];exact Or.inr ⟨SM,dx,rfl⟩
 ·rw[<-mxT5 c];exact is5c.hd mx5c dkc
 ·rw[t5y];exact⟨RJ,λe=>SC (zo e)⟩
 ·rw[t5y,t4y];rcases mM with e|e
  ·show(T y).r≠y/\(T y).r∉qC k;rw[e];exact⟨Ne.symm Tq,RR⟩
  ·exact⟨λe2=>Sd (e2▸e),λe2=>Nb _ e (zo e2)⟩
 ·have m6:=hd6.all;have t6:∀{t:Tr},(∀j∈t.ids,j≠y)->(∀j∈t.ids,j∉zC k)->∀j∈t.ids,T6 j=T5 j:=λ{t} h1 h2 j hj=>hd6.out j (h1 j hj) (λe=>h2 j hj (zo e));have t6x:T6 x=T5 x:=hd6.out x RJ (λe=>SC (zo e));have mxT6:∀t,jb T6 t=jb T5 t:=λt=>zX λj _=>by rw[(m6 j).2.1]
  have fr6:∀{t:Tr} {q x},Is T5 s q x t->Is T6 s q x t:=λ{t q x} h=>h.frame λj _=>(m6 j).ptr;have mk6:∀{t:Tr},v_ T5 t->(∀j∈t.ids,j≠y)->(∀j∈t.ids,j∉zC k)->v_ T6 t:=λ{t} h h1 h2=>h.frame λj hj=>by rw[t6 h1 h2 j hj];exact⟨rfl,rfl⟩
  refine⟨⟨⟨rfl,Tq,?_,⟨?_,SM,?_,?_,?_⟩,?_⟩,⟨?_,⟨?_,mk6 mx5a ya' cy,mk6 mx5b yb' PA⟩,mk6 mx5c yc' Nb⟩,?_,?_,?_,?_⟩,λi=>(bec5 i).trans (m6 i).bec⟩
  ·rw[(m6 y).2.2.2.2.1,t5y,t4y]
  ·rw[(m6 y).2.2.1,t5y]
  ·rw[(m6 x).2.2.2.2.1,t5x]
  ·rw[t6x];exact fr6 is5a
  ·rw[t6x];exact fr6 is5b
  ·rw[(m6 y).2.2.2.1];exact fr6 is5c
  ·rw[hd6.mx,(m6 y).2.1];have:jb T6 (.node x a b)=some (T5 x).mx.1:=by rw[mxT6];simp only[jb];rw[mx5x]
   rw[this,mxT6,mxT5]
  ·rw[t6x,mx5x,mxT6,mxT6]
  ·exact cx5.frame λj _=>(m6 j).ptr
  ·have:jb T6 (.node y (.node x a b) c)=some (xN (T5 y).e.1 (some (T5 x).mx.1) (jb T c)):=by
    rw[mxT6];simp only[jb];rw[<-mx5x,<-mxT5 c]
   rw[this];exact hd6.ok
  ·have p:((Tr.node y (.node x a b) c).ids++zC k)=(a.ids++x::(b.ids++y::c.ids))++zC k:=by simp[Tr.ids]
   rw[p];exact pX
  ·have p:((Tr.node y (.node x a b) c).ids++zC k)=(a.ids++x::(b.ids++y::c.ids))++zC k:=by simp[Tr.ids]
   rw[p];exact Si
theorem TG.rotR{s root:Nat}{k:List Fr}{a b c:Tr}(h:TG T s root q x D k (.node x (.node y c b) a)):
  (T x).l=y/\x≠s/\y≠s/\x≠y/\D x/\D y/\((T y).r=s\/D (T y).r/\(T y).r≠x/\(T y).r≠y/\(T y).r≠s)/\(T x).p=q/\
  ∀T1,T1=(if (T y).r=s then T.set x ((T x).sl (T y).r)else (T.set x ((T x).sl (T y).r)).set (T y).r ((T (T y).r).sp x))->
   U T1 s root q x D k (jb T b) (jb T a)/\
   ∀T2,jC T1 T2 x k (xN (T1 x).e.1 (jb T b) (jb T a))->RP T2 s root q x y D k/\
   ∀T4 root',We T2 T4 s root' q x y k->∀T5,T5=T4.set y ((T4 y).sr x)->U T5 s root' q y D k (jb T c) (some (T5 x).mx.1)/\
   ∀T6,jC T5 T6 y k (xN (T5 y).e.1 (jb T c) (some (T5 x).mx.1))->
    TG T6 s root' q y D k (.node y c (.node x b a))/\(∀i,ZV (T i) (T6 i)):=by
 obtain⟨⟨_,SM,wB,⟨bA,Tq,hyp,LH,Rs⟩,RS⟩,⟨Tp,⟨hmy,CI,N1⟩,Aw⟩,Hz,pV,pX,Si⟩:=h;subst bA;generalize hy:(T x).l=y at*
 have tH:((Tr.node x (.node y c b) a).ids++zC k).Perm ((a.ids++x::(b.ids++y::c.ids))++zC k):=by refine List.Perm.append_right _ ?_;simp only[Tr.ids];refine List.perm_append_comm.trans ?_;simp only[List.cons_append];refine(List.perm_middle (a:=x) (l₁:=a.ids) (l₂:=c.ids++y::b.ids)).symm.trans ?_;refine List.Perm.append_left _ (List.Perm.cons _ ?_);refine List.perm_append_comm.trans ?_;simpa using(List.perm_middle (a:=y) (l₁:=b.ids) (l₂:=c.ids)).symm
 replace pX:=tH.nodup_iff.1 pX
 replace Si:∀i∈(a.ids++x::(b.ids++y::c.ids))++zC k,D i:=λi hi=>Si i (tH.mem_iff.2 hi)
 have Ca:((Tr.node y c (.node x b a)).ids++zC k).Perm ((a.ids++x::(b.ids++y::c.ids))++zC k):=by refine List.Perm.append_right _ ?_;simp only[Tr.ids];refine(List.perm_append_comm (l₁:=c.ids)).trans ?_;refine(List.Perm.cons y (List.Perm.append_right c.ids (List.perm_append_comm (l₁:=b.ids) (l₂:=x::a.ids)))).trans ?_;simp only[List.cons_append,List.append_assoc];refine(List.Perm.swap x y _).trans ?_;refine(List.Perm.cons x ?_).trans (List.perm_middle (a:=x) (l₁:=a.ids) (l₂:=b.ids++y::c.ids)).symm;have:=(List.perm_middle (a:=y) (l₁:=a.ids++b.ids) (l₂:=c.ids)).symm;simpa using this
 obtain⟨bB,Nu,SN⟩:=z_ pX;obtain⟨mL,P3,wC⟩:=z_ bB;simp only[List.nodup_cons]at P3;obtain⟨pB,bC⟩:=P3;obtain⟨rV,nj,rE⟩:=z_ bC;simp only[List.nodup_cons]at nj;obtain⟨Sd,P5⟩:=nj;simp only[List.mem_append,List.mem_cons,not_or]at pB;obtain⟨tS,RJ,Ax⟩:=pB;have bD:x∉a.ids:=λe=>wC x e (by simp);have IN:y∉a.ids:=λe=>wC y e (by simp);have Ay:y∉b.ids:=λe=>rE y e (by simp);have SC:x∉zC k:=SN x (by simp);have Ns:y∉zC k:=SN y (by simp);have cy:∀j∈a.ids,j∉zC k:=λj hj=>SN j (by simp[hj]);have PA:∀j∈b.ids,j∉zC k:=λj hj=>SN j (by simp[hj]);have Nb:∀j∈c.ids,j∉zC k:=λj hj=>SN j (by simp[hj]);have th:∀j∈a.ids,j∉b.ids:=λj hj e=>wC j hj (by simp[e]);have Az:∀j∈a.ids,j∉c.ids:=λj hj e=>wC j hj (by simp[e]);have sV:∀j∈b.ids,j∉c.ids:=λj hj e=>rE j hj (by simp[e]);have dx:D x:=Si x (by simp);have dy:D y:=Si y (by simp);have dka:∀j∈a.ids,D j:=λj hj=>Si j (by simp[hj]);have dkb:∀j∈b.ids,D j:=λj hj=>Si j (by simp[hj])
 have dkc:∀j∈c.ids,D j:=λj hj=>Si j (by simp[hj]);have dkk:∀j∈zC k,D j:=λj hj=>Si j (by simp[hj]);have RR:s∉qC k:=λe=>Hz.ne s (zo e) rfl;have Rx:=Rs.root;have IP:=RS.root;have mM:=LH.root;have N2:(T y).r=s\/D (T y).r/\(T y).r≠x/\(T y).r≠y/\(T y).r≠s:=by
  rcases Rx with e|e
  ·exact Or.inl e
  ·exact Or.inr ⟨dkb _ e,λe2=>tS (e2▸e),λe2=>Ay (e2▸e),Rs.ne _ e⟩
 refine⟨rfl,SM,Tq,RJ,dx,dy,N2,wB,λT1 rQ=> ?_⟩;have t1x:T1 x=(T x).sl (T y).r:=by
  rw[rQ];rcases N2 with e|⟨_,e,_,e3⟩
  ·rw[if_pos e];exact NM.set_same _ _ _
  ·rw[if_neg e3,NM.set_ne _ _ (Ne.symm e)];exact NM.set_same _ _ _
 have t1o:∀j,j≠x->j≠(T y).r->T1 j=T j:=λj h1 h2=>by
  rw[rQ];split
  ·exact NM.set_ne _ _ h1
  ·rw[NM.set_ne _ _ h2,NM.set_ne _ _ h1]
 have t1y:T1 y=T y:=by
  rcases N2 with e|⟨_,_,e,_⟩
  ·rw[rQ,if_pos e];exact NM.set_ne _ _ (Ne.symm RJ)
  ·exact t1o y (Ne.symm RJ) (Ne.symm e)
 have t1m:∀j,(T1 j).b=(T j).b/\(T1 j).e=(T j).e/\(T1 j).mx=(T j).mx/\(T1 j).c=(T j).c:=λj=>by
  by_cases e1:j=x
  ·subst e1;rw[t1x];exact⟨rfl,rfl,rfl,rfl⟩
  ·by_cases e2:j=(T y).r
   ·rw[rQ];split
    ·rw[NM.set_ne _ _ e1];exact⟨rfl,rfl,rfl,rfl⟩
    ·rw[<-e2,NM.set_same];exact⟨rfl,rfl,rfl,rfl⟩
   ·rw[t1o j e1 e2];exact⟨rfl,rfl,rfl,rfl⟩
 have ylne:∀{t:Tr},(∀j∈t.ids,j∉b.ids)->(∀j∈t.ids,j≠s)->∀j∈t.ids,j≠(T y).r:=λ{t} h1 h2 j hj e=>by
  rcases Rx with e2|e2
  ·exact h2 j hj (e.trans e2)
  ·exact h1 j hj (e▸e2)
 have ta:∀j∈a.ids,T1 j=T j:=λj hj=>t1o j (λe=>bD (e▸hj)) (ylne th RS.ne j hj);have tc:∀j∈c.ids,T1 j=T j:=λj hj=>t1o j (λe=>Ax (e▸hj)) (ylne (λj hj e=>sV j e hj) LH.ne j hj);have tk:∀j∈zC k,T1 j=T j:=λj hj=>t1o j (λe=>SC (e▸hj)) (λe=>by
  rcases Rx with e2|e2
  ·exact Hz.ne j hj (e.trans e2)
  ·exact PA _ e2 (e▸hj))
 have ptr_of:∀j,T1 j=T j->V0 (T j) (T1 j):=λj e=>by rw[e];exact⟨rfl,rfl,rfl⟩
 have ends_of:∀j,gq (T j) (T1 j):=λj=>⟨by rw[(t1m j).2.1],by rw[(t1m j).2.2.1]⟩;have mxTe:∀t,jb T1 t=jb T t:=λt=>zX λj _=>by rw[(t1m j).2.1]
 have isa1:Is T1 s x (T x).r a:=RS.frame λj hj=>ptr_of j (ta j hj);have isc1:Is T1 s y (T y).l c:=LH.frame λj hj=>ptr_of j (tc j hj);have isb1:Is T1 s x (T y).r b:=by
  cases b with
  |nil=>exact Rs
  |node i bl br=>
   obtain⟨e1,e2,e3,e4,e5⟩:=Rs;have IQ:i≠x:=λe=>tS (by simp[Tr.ids,e]);have nb:(bl.ids++i::br.ids).Nodup:=rV;obtain⟨n1,n2,n3⟩:=z_ nb;simp only[List.nodup_cons]at n2;have t1i:T1 i=(T i).sp x:=by rw[rQ,e1,if_neg e2];exact NM.set_same _ _ _|>.trans (by rw[e1]at*)
   refine⟨e1,e2,by rw[t1i],?_,?_⟩
   ·rw[t1i];exact e4.frame λj hj=>ptr_of j (t1o j (λe=>tS (by simp[Tr.ids,<-e,hj])) (λe=>n3 j hj (by rw[e,e1];simp)))
   ·rw[t1i];exact e5.frame λj hj=>ptr_of j (t1o j (λe=>tS (by simp[Tr.ids,<-e,hj])) (λe=>n2.1 (by rw[<-e1,<-e];exact hj)))
 have bE:Q4 T1 k (some (T1 x).mx.1):=by rw[(t1m x).2.2.1,Tp];exact pV.frame λj _=>ends_of j
 have lu:Cx T1 s root q x k:=Hz.frame λj hj=>ptr_of j (tk j hj);have sp_a:∀z,(z=s\/z∈a.ids)->z≠x/\z∉qC k:=λz e=>by
  rcases e with e|e
  ·rw[e];exact⟨Ne.symm SM,RR⟩
  ·exact⟨λe2=>bD (e2▸e),λe2=>cy _ e (zo e2)⟩
 have sp_b:∀z,(z=s\/z∈b.ids)->z≠x/\z∉qC k:=λz e=>by
  rcases e with e|e
  ·rw[e];exact⟨Ne.symm SM,RR⟩
  ·exact⟨λe2=>tS (e2▸e),λe2=>PA _ e (zo e2)⟩
 refine⟨⟨SM,dx,by rw[t1x];exact wB,?_,?_,lu,bE,by simp only[List.nodup_cons];exact⟨SC,Nu⟩,?_,?_,dkk⟩,λT2 Pe=> ?_⟩
 ·rw[t1x,<-mxTe b];exact isb1.hd (N1.frame λj _=>ends_of j) dkb
 ·rw[t1x,<-mxTe a];exact isa1.hd (Aw.frame λj _=>ends_of j) dka
 ·rw[t1x];exact sp_b _ Rx
 ·rw[t1x];exact sp_a _ IP
 have m2:=Pe.all;have t2y:T2 y=T y:=(Pe.out y (Ne.symm RJ) (λe=>Ns (zo e))).trans t1y;have sub2:∀{t:Tr},(∀j∈t.ids,j≠x)->(∀j∈t.ids,j∉zC k)->∀j∈t.ids,T2 j=T1 j:=λ{t} h1 h2 j hj=>Pe.out j (h1 j hj) (λe=>h2 j hj (zo e));have xa':∀j∈a.ids,j≠x:=λj hj e=>bD (e▸hj);have xb':∀j∈b.ids,j≠x:=λj hj e=>tS (e▸hj);have xc':∀j∈c.ids,j≠x:=λj hj e=>Ax (e▸hj);have bF:Cx T2 s root q x k:=lu.frame λj _=>(m2 j).ptr;have px2:(T2 x).p=q:=by rw[(m2 x).2.2.2.2.1,t1x];exact wB
 refine⟨⟨bF,px2,RJ,SC,Ns,SM,Tq,dx,dy,Nu,dkk,⟨_,Pe.ok⟩⟩,λT4 root' Sv T5 Mg=> ?_⟩;have t5y:T5 y=(T4 y).sr x:=by rw[Mg];exact NM.set_same _ _ _
 have t5o:∀j,j≠y->T5 j=T4 j:=λj hj=>by rw[Mg];exact NM.set_ne _ _ hj
 have t4:∀{t:Tr},(∀j∈t.ids,j≠x)->(∀j∈t.ids,j≠y)->(∀j∈t.ids,j∉zC k)->∀j∈t.ids,T5 j=T1 j:=λ{t} h1 h2 h3 j hj=>by rw[t5o j (h2 j hj),Sv.out j (h1 j hj) (h2 j hj) (λe=>h3 j hj (zo e)),sub2 h1 h3 j hj]
 have ya':∀j∈a.ids,j≠y:=λj hj e=>IN (e▸hj);have yb':∀j∈b.ids,j≠y:=λj hj e=>Ay (e▸hj);have yc':∀j∈c.ids,j≠y:=λj hj e=>Sd (e▸hj);have t5a:=t4 xa' ya' cy;have t5b:=t4 xb' yb' PA;have t5c:=t4 xc' yc' Nb;have t5x:T5 x=(T2 x).sp y:=(t5o x RJ).trans Sv.xat
 have t4y:T4 y=(T y).sp q:=by rw[Sv.yat,t2y]
 have t5k:∀j∈zC k,T5 j=T4 j:=λj hj=>t5o j (λe=>Ns (e▸hj));have bec5:∀i,ZV (T i) (T5 i):=λi=>by have b1:ZV (T i) (T1 i):=⟨(t1m i).1,(t1m i).2.1,(t1m i).2.2.2⟩;refine((b1.trans (m2 i).bec).trans (Sv.bec i)).trans ?_;rw[Mg];exact vJ T4 y ((T4 y).sr x) ⟨rfl,rfl,rfl⟩ i
 have mxT5:∀t,jb T5 t=jb T t:=λt=>zX λj _=>by rw[(bec5 j).2.1]
 have is5a:Is T5 s x (T5 x).r a:=by rw[t5x,show((T2 x).sp y).r=(T x).r from by show(T2 x).r=_;rw[(m2 x).2.2.2.1,t1x]];exact isa1.frame λj hj=>by rw[t5a j hj];exact⟨rfl,rfl,rfl⟩
 have is5b:Is T5 s x (T5 x).l b:=by rw[t5x,show((T2 x).sp y).l=(T y).r from by show(T2 x).l=_;rw[(m2 x).2.2.1,t1x]];exact isb1.frame λj hj=>by rw[t5b j hj];exact⟨rfl,rfl,rfl⟩
 have is5c:Is T5 s y (T5 y).l c:=by rw[t5y,t4y];exact isc1.frame λj hj=>by rw[t5c j hj];exact⟨rfl,rfl,rfl⟩
 have mx5a:v_ T5 a:=Aw.frame λj hj=>by rw[t5a j hj];exact ends_of j
 have mx5b:v_ T5 b:=N1.frame λj hj=>by rw[t5b j hj];exact ends_of j
 have mx5c:v_ T5 c:=CI.frame λj hj=>by rw[t5c j hj];exact ends_of j
 have mx5x:(T5 x).mx.1=xN (T5 x).e.1 (jb T5 b) (jb T5 a):=by rw[mxT5,mxT5,t5x];show(T2 x).mx.1=xN (T2 x).e.1 _ _;rw[Pe.mx,(m2 x).2.1]
 have cx5:Cx T5 s root' q y k:=Sv.cx.frame λj hj=>by rw[t5k j hj];exact⟨rfl,rfl,rfl⟩
 have ok5:Q4 T5 k (some (T5 y).mx.1):=by
  rw[t5y];have:(T4 y).mx.1=(T2 y).mx.1:=by rw[t4y,t2y]
  show Q4 T5 k (some (T4 y).mx.1);rw[this];exact Sv.ok.frame λj hj=>by rw[t5k j hj];exact⟨rfl,rfl⟩
 refine⟨⟨Tq,dy,by rw[t5y,t4y],?_,?_,cx5,ok5,by simp only[List.nodup_cons];exact⟨Ns,Nu⟩,?_,?_,dkk⟩,λT6 hd6=> ?_⟩
 ·rw[<-mxT5 c];exact is5c.hd mx5c dkc
 ·rw[t5y];exact Or.inr ⟨SM,dx,rfl⟩
 ·rw[t5y,t4y];rcases mM with e|e
  ·show(T y).l≠y/\(T y).l∉qC k;rw[e];exact⟨Ne.symm Tq,RR⟩
  ·exact⟨λe2=>Sd (e2▸e),λe2=>Nb _ e (zo e2)⟩
 ·rw[t5y];exact⟨RJ,λe=>SC (zo e)⟩
 ·have m6:=hd6.all;have t6:∀{t:Tr},(∀j∈t.ids,j≠y)->(∀j∈t.ids,j∉zC k)->∀j∈t.ids,T6 j=T5 j:=λ{t} h1 h2 j hj=>hd6.out j (h1 j hj) (λe=>h2 j hj (zo e));have t6x:T6 x=T5 x:=hd6.out x RJ (λe=>SC (zo e));have mxT6:∀t,jb T6 t=jb T5 t:=λt=>zX λj _=>by rw[(m6 j).2.1]
  have fr6:∀{t:Tr} {q x},Is T5 s q x t->Is T6 s q x t:=λ{t q x} h=>h.frame λj _=>(m6 j).ptr;have mk6:∀{t:Tr},v_ T5 t->(∀j∈t.ids,j≠y)->(∀j∈t.ids,j∉zC k)->v_ T6 t:=λ{t} h h1 h2=>h.frame λj hj=>by rw[t6 h1 h2 j hj];exact⟨rfl,rfl⟩
  refine⟨⟨⟨rfl,Tq,?_,?_,⟨?_,SM,?_,?_,?_⟩⟩,⟨?_,mk6 mx5c yc' Nb,⟨?_,mk6 mx5b yb' PA,mk6 mx5a ya' cy⟩⟩,?_,?_,?_,?_⟩,λi=>(bec5 i).trans (m6 i).bec⟩
  ·rw[(m6 y).2.2.2.2.1,t5y,t4y]
  ·rw[(m6 y).2.2.1];exact fr6 is5c
  ·rw[(m6 y).2.2.2.1,t5y]
  ·rw[(m6 x).2.2.2.2.1,t5x]
  ·rw[t6x];exact fr6 is5b
  ·rw[t6x];exact fr6 is5a
  ·rw[hd6.mx,(m6 y).2.1];have:jb T6 (.node x b a)=some (T5 x).mx.1:=by rw[mxT6];simp only[jb];rw[mx5x]
   rw[this,mxT6,mxT5]
  ·rw[t6x,mx5x,mxT6,mxT6]
  ·exact cx5.frame λj _=>(m6 j).ptr
  ·have:jb T6 (.node y c (.node x b a))=some (xN (T5 y).e.1 (jb T c) (some (T5 x).mx.1)):=by
    rw[mxT6];simp only[jb];rw[<-mx5x,<-mxT5 c]
   rw[this];exact hd6.ok
  ·exact Ca.nodup_iff.2 pX
  ·exact λi hi=>Si i (Ca.mem_iff.1 hi)
theorem TG.recol{s root:Nat}{k:List Fr}{t:Tr}(h:TG T s root q x D k t)(hp:∀i,V0 (T i) (T' i))(he:∀i,gq (T i) (T' i)):TG T' s root q x D k t:=
 ⟨h.is.frame λi _=>hp i,h.mx.frame λi _=>he i,h.cx.frame λi _=>hp i,by rw[zX (T:=T) λi _=>(he i).1];exact h.ok.frame λi _=>he i,h.nd,h.dk⟩
theorem TG.upL{s root i:Nat}{k:List Fr}{r t:Tr}(h:TG T s root q x D (.L i r::k) t):q=i/\(T i).l=x/\TG T s root (T i).p i D k (.node i t r):=by
 obtain⟨h1,h2,⟨rfl,c2,c3,c4,c5⟩,⟨o1,o2,o3⟩,h5,h6⟩:=h;refine⟨rfl,c3,⟨⟨rfl,c2,rfl,by rw[c3];exact h1,c4⟩,⟨o2,h2,o1⟩,c5,?_,?_,?_⟩⟩
 ·simp only[jb];rw[<-o2];exact o3
 ·have:(Tr.node q t r).ids++zC k=t.ids++zC (.L q r::k):=by simp[Tr.ids,zC,Fr.i,Fr.sib]
  rw[this];exact h5
 ·have:(Tr.node q t r).ids++zC k=t.ids++zC (.L q r::k):=by simp[Tr.ids,zC,Fr.i,Fr.sib]
  rw[this];exact h6
theorem Gi(i:Nat)(t r:Tr)(k:List Fr):((Tr.node i r t).ids++zC k).Perm (t.ids++zC (.R i r::k)):=by
 have e:t.ids++zC (.R i r::k)=(t.ids++(i::r.ids))++zC k:=by simp[zC,Fr.i,Fr.sib]
 rw[e];refine List.Perm.append_right _ ?_;simp only[Tr.ids];refine(List.perm_middle (a:=i) (l₁:=r.ids) (l₂:=t.ids)).trans ?_;refine(List.Perm.cons i List.perm_append_comm).trans ?_;exact(List.perm_middle (a:=i) (l₁:=t.ids) (l₂:=r.ids)).symm
theorem TG.upR{s root i:Nat}{k:List Fr}{r t:Tr}(h:TG T s root q x D (.R i r::k) t):q=i/\(T i).r=x/\TG T s root (T i).p i D k (.node i r t):=by
 obtain⟨h1,h2,⟨rfl,c2,c3,c4,c5⟩,⟨o1,o2,o3⟩,h5,h6⟩:=h;refine⟨rfl,c3,⟨⟨rfl,c2,rfl,c4,by rw[c3];exact h1⟩,⟨o2,o1,h2⟩,c5,?_,?_,?_⟩⟩
 ·simp only[jb];rw[<-o2];exact o3
 ·exact(Gi q t r k).nodup_iff.2 h5
 ·exact λj hj=>h6 j ((Gi q t r k).mem_iff.1 hj)
theorem TG.downL{s root i:Nat}{k:List Fr}{l r:Tr}(h:TG T s root q x D k (.node i l r)):x=i/\TG T s root i (T i).l D (.L i r::k) l:=by
 obtain⟨⟨rfl,h2,h3,h4,h5⟩,⟨m1,m2,m3⟩,hc,ho,hn,hd⟩:=h;refine⟨rfl,⟨h4,m2,⟨rfl,h2,rfl,h5,by rw[h3];exact hc⟩,⟨m3,m1,?_⟩,?_,?_⟩⟩
 ·simp only[jb]at ho;rw[m1];exact ho
 ·have:(Tr.node x l r).ids++zC k=l.ids++zC (.L x r::k):=by simp[Tr.ids,zC,Fr.i,Fr.sib]
  rw[<-this];exact hn
 ·have:(Tr.node x l r).ids++zC k=l.ids++zC (.L x r::k):=by simp[Tr.ids,zC,Fr.i,Fr.sib]
  rw[<-this];exact hd
theorem TG.downR{s root i:Nat}{k:List Fr}{l r:Tr}(h:TG T s root q x D k (.node i l r)):x=i/\TG T s root i (T i).r D (.R i l::k) r:=by
 obtain⟨⟨rfl,h2,h3,h4,h5⟩,⟨m1,m2,m3⟩,hc,ho,hn,hd⟩:=h;refine⟨rfl,⟨h5,m3,⟨rfl,h2,rfl,h4,by rw[h3];exact hc⟩,⟨m2,m1,?_⟩,?_,?_⟩⟩
 ·simp only[jb]at ho;rw[m1];exact ho
 ·exact(Gi x r l k).nodup_iff.1 hn
 ·exact λj hj=>hd j ((Gi x r l k).mem_iff.2 hj)
theorem Cx.last{s root:Nat}:∀{k:List Fr} {q x:Nat},Cx T s root q x k->(qC k).getLast? =if k=[]then none else some root
 |[],_,_,_=>rfl
 |[.L i r],q,x,h=>by obtain⟨_,_,_,_,h5⟩:=h;simp[qC,Fr.i,h5.1]
 |[.R i r],q,x,h=>by obtain⟨_,_,_,_,h5⟩:=h;simp[qC,Fr.i,h5.1]
 |.L i r::f::k,q,x,h=>by obtain⟨_,_,_,_,h5⟩:=h;have:=h5.last;simpa[qC]using this
 |.R i r::f::k,q,x,h=>by obtain⟨_,_,_,_,h5⟩:=h;have:=h5.last;simpa[qC]using this
theorem Cx.root_eq{s root root':Nat}{k:List Fr}{q' x':Nat}(h:Cx T s root q x k)(h':Cx T' s root' q' x' k)(hk:k≠[]):root'=root:=by have a:=h.last;have b:=h'.last;rw[if_neg hk]at a b;rw[a]at b;exact(Option.some.inj b).symm
theorem Cx.root_mem{s root:Nat}{k:List Fr}(h:Cx T s root q x k)(hk:k≠[]):root∈qC k:=by have a:=h.last;rw[if_neg hk]at a;exact List.mem_of_getLast? a
structure FX(T:NM)(s root z:Nat)(D:Nat->Prop)(k:List Fr)(l r:Tr):Prop where
 tg:∃q,TG T s root q z D k (.node z l r)
 rb:k≠[]->(T root).c=false
variable{z:Nat}
theorem FX.grand{s root:Nat}{k:List Fr}{l r:Tr}(h:FX T s root z D (f::k) l r)(hc:(T f.i).c=true):∃g k2,k=g::k2:=by
 obtain⟨q,sj⟩:=h.tg;cases k with
 |cons g k2=>exact⟨g,k2,rfl⟩
 |nil=>have h1:=h.rb (by simp);have h2:=sj.cx.last;simp[qC]at h2;rw[h2]at hc;rw[hc]at h1;cases h1
def xx(T T':NM):Prop:=∀i,(T' i).b=(T i).b/\(T' i).e=(T i).e/\(T' i).mx=(T i).mx/\(T' i).l=(T i).l/\(T' i).r=(T i).r/\(T' i).p=(T i).p
theorem xx.refl(T:NM):xx T T:=λ_=>⟨rfl,rfl,rfl,rfl,rfl,rfl⟩
theorem xx.set(h:xx T T')(i:Nat)(c:Bool):xx T (T'.set i ((T' i).sc c)):=λj=>by
 by_cases e:j=i
 ·subst e;rw[NM.set_same];exact h j
 ·rw[NM.set_ne _ _ e];exact h j
theorem TG.onlyC{s root:Nat}{k:List Fr}{t:Tr}(h:TG T s root q x D k t)(hc:xx T T'):TG T' s root q x D k t:=
 h.recol (λi=>⟨(hc i).2.2.2.1,(hc i).2.2.2.2.1,(hc i).2.2.2.2.2⟩) λi=>⟨by rw[(hc i).2.1],by rw[(hc i).2.2.1]⟩
theorem TG.up{s root:Nat}{k:List Fr}{t:Tr}(h:TG T s root q x D (f::k) t):q=f.i/\TG T s root (T f.i).p f.i D k (Yc f t):=by
 cases f with
 |L i r=>exact⟨h.upL.1,h.upL.2.2⟩
 |R i r=>exact⟨h.upR.1,h.upR.2.2⟩
theorem FX.red{s root:Nat}{g:Fr}{k:List Fr}{l r:Tr}(h:FX T s root z D (f::g::k) l r)(hc:xx T T')(ho:∀i∈qC k,(T' i).c=(T i).c):
  ∃l' r',FX T' s root g.i D k l' r'/\Tr.node g.i l' r'=Yc g (Yc f (.node z l r)):=by
 obtain⟨q,sj⟩:=h.tg;have h2:=(sj.up.2).up.2;have:∃l' r',Yc g (Yc f (.node z l r))=.node g.i l' r':=by cases g<;>exact⟨_,_,rfl⟩
 obtain⟨l',r',e⟩:=this;rw[e]at h2;refine⟨l',r',⟨⟨_,h2.onlyC hc⟩,λhk=> ?_⟩,e.symm⟩;rw[ho root (h2.cx.root_mem hk)];exact h.rb (by simp)
abbrev Iv:=Bytes×Bytes
def jI(q v:Iv):Int:=if zy q.1 v.1<0/\zy q.2 v.1<=0 then -1 else if zy q.1 v.2>=0 then 1 else 0
def Q5(v:Iv):Prop:=zy v.1 v.2<0
theorem yF(a:Bytes): ¬zy a a<0:=by rw[GU];omega
theorem Q5.ne{v:Iv}(h:Q5 v):v.1≠[]:=λe=>by unfold Q5 zy at h;rw[if_pos e]at h;split at h<;>omega
theorem Gj{a b:Bytes}(h:zy a b<0):a≠[]:=Q5.ne (v:=(a,b)) h
theorem xj{q v:Iv}(hq:Q5 q):jI q v=0↔zy v.1 q.2<0/\zy q.1 v.2<0:=by
 unfold Q5 at hq;unfold jI;have n1:=yK q.2 v.1;have n2:=yK q.1 v.1;constructor
 ·intro h;split at h
  ·omega
  ·split at h
   ·omega
   ·rename_i h1 h2;refine⟨?_,by omega⟩;by_cases e:zy q.1 v.1<0
    ·have: ¬zy q.2 v.1<=0:=λk=>h1 ⟨e,k⟩;omega
    ·exact ZG (b:=q.1) (by omega) hq
 ·rintro⟨h1,h2⟩;rw[if_neg (by omega),if_neg (by omega)]
def Jj(k:Bytes)(v:Iv):Prop:= ¬zy k v.1<0/\zy k v.2<0
def yL(L:List Iv)(q:Iv):Prop:=∀k,Jj k q->∃v∈L,Jj k v
def vf(L:List Iv):Prop:=L.Pairwise λa b=> ¬zy b.1 a.1<0
def Ue(m e:Bytes):Bytes:=if zy e m>0 then e else m
def zW:Bytes->List Iv->Bool×Bytes
 |me,[]=>(true,me)
 |me,v::r=>if zy me v.1<0 then (false,me)else zW (Ue me v.2) r
def jG(q:Iv)(L:List Iv):Bool:=
 match L.filter λv=>jI q v=0 with
 |[]=>false
 |v::r=>(zW v.2 r).1 && decide (zy (zW v.2 r).2 q.2>=0) && decide (zy v.1 q.1<=0)
theorem xZ(m e:Bytes): ¬zy (Ue m e) m<0/\¬zy (Ue m e) e<0:=by
 unfold Ue;split
 ·rename_i h;exact⟨by omega,yF _⟩
 ·rename_i h;exact⟨yF _,by have:=yK e m;omega⟩
theorem zco{m e k:Bytes}(h:zy k (Ue m e)<0):zy k m<0\/zy k e<0:=by
 unfold Ue at h;split at h
 ·exact Or.inr h
 ·exact Or.inl h
theorem Yd:∀(r:List Iv) (me:Bytes),(zW me r).1=true->∀k,¬zy k me<0->zy k (zW me r).2<0->∃v∈r,Jj k v
 |[],me,_,k,h1,h2=>absurd h2 h1
 |v::r,me,h,k,h1,h2=>by
  unfold zW at h h2;by_cases hb:zy me v.1<0
  ·rw[if_pos hb]at h;cases h
  ·rw[if_neg hb]at h h2;by_cases hk:zy k v.2<0
   ·exact⟨v,by simp,λe=>(yY hb h1) e,hk⟩
   ·obtain⟨u,hu,Ri⟩:=Yd r _ h k (λe=>by
     rcases zco e with e|e
     ·exact h1 e
     ·exact hk e) h2
    exact⟨u,by simp[hu],Ri⟩
theorem KL{q:Iv}{L:List Iv}(hL:∀k,Jj k q->∃v∈L,Jj k v)(hs:vf L)(Nc:∀v∈L,zy v.1 q.2<0):∀(r P:List Iv) (me:Bytes),L=P++r->(∀p∈P,¬zy me p.2<0)->zy q.1 me<0->
  (zW me r).1=true/\zy (zW me r).2 q.2>=0
 |[],P,me,hP,sL,hq=>by refine⟨rfl,?_⟩;show zy me q.2>=0;apply Int.not_lt.1;intro h;have hn:=yK me q.1;obtain⟨v,hv,h1,h2⟩:=hL me ⟨by have:=yK q.1 me;omega,h⟩;rw[hP,List.append_nil]at hv;exact sL v hv h2
 |v::r,P,me,hP,sL,hq=>by
  unfold zW;have hb: ¬zy me v.1<0:=λh=>by
   have hvq:=Nc v (by rw[hP];simp);obtain⟨u,hu,h1,h2⟩:=hL me ⟨by have:=yK q.1 me;omega,ZF h hvq⟩;rw[hP]at hu;rcases List.mem_append.1 hu with hu|hu
   ·exact sL u hu h2
   ·have hY: ¬zy u.1 v.1<0:=by
     rcases List.mem_cons.1 hu with e|e
     ·rw[e];exact yF _
     ·have:=hs;unfold vf at this;rw[hP,List.pairwise_append]at this;exact(List.pairwise_cons.1 this.2.1).1 u e
    exact h1 (yX h hY)
  rw[if_neg hb];have pD:=xZ me v.2;refine KL hL hs Nc r (P++[v]) (Ue me v.2) (by rw[hP];simp) (λp hp=> ?_) (yX hq pD.1);rcases List.mem_append.1 hp with hp|hp
  ·exact yY (sL p hp) pD.1
  ·rw[List.mem_singleton.1 hp];exact pD.2
variable{L:List Iv}
theorem gu{q:Iv}(hq:Q5 q)(hs:vf L):jG q L=true↔yL L q:=by
 have hsf:vf (L.filter λv=>jI q v=0):=List.Pairwise.filter _ hs;have AA:∀v,v∈(L.filter λv=>jI q v=0)↔v∈L/\(zy v.1 q.2<0/\zy q.1 v.2<0):=λv=>by rw[List.mem_filter,decide_eq_true_eq,xj hq]
 have mN:yL L q->∀k,Jj k q->∃v∈(L.filter λv=>jI q v=0),Jj k v:=λh k hk=>by obtain⟨v,hv,h1,h2⟩:=h k hk;refine⟨v,(AA v).2 ⟨hv,ZG h1 hk.2,?_⟩,h1,h2⟩;exact ZG hk.1 h2
 unfold jG;generalize(L.filter λv=>decide (jI q v=0))=F at*
 cases F with
 |nil=>refine⟨λh=>by simp at h,λh=> ?_⟩;obtain⟨v,hv,_⟩:=mN h q.1 ⟨yF _,hq⟩;simp at hv
 |cons v r=>
  simp only[Bool.and_eq_true,decide_eq_true_eq];constructor
  ·rintro⟨⟨h1,h2⟩,h3⟩ k ⟨k1,k2⟩;have hv:=(AA v).1 (by simp);by_cases hk:zy k v.2<0
   ·refine⟨v,hv.1,λe=>k1 (yX e ?_),hk⟩;have:=yK v.1 q.1;omega
   ·obtain⟨u,hu,Ri⟩:=Yd r v.2 h1 k hk (yX k2 (by omega));exact⟨u,((AA u).1 (by simp[hu])).1,Ri⟩
  ·intro h;have hv:=(AA v).1 (by simp);have:=KL (q:=q) (L:=v::r) (mN h) hsf (λu hu=>((AA u).1 hu).2.1) r [v] v.2 rfl (λp hp=>by rw[List.mem_singleton.1 hp];exact yF _) hv.2.2;refine⟨this,?_⟩;obtain⟨u,hu,h1,h2⟩:=mN h q.1 ⟨yF _,hq⟩;have hY: ¬zy u.1 v.1<0:=by
    rcases List.mem_cons.1 hu with e|e
    ·rw[e];exact yF _
    ·exact(List.pairwise_cons.1 hsf).1 u e
   have:=yY hY h1;have n:=yK v.1 q.1;omega
theorem Xv:∀(b k:Bytes),zt b (k++[0])<0↔¬zt k b<0
 |[],[]=>by simp[zt]
 |[],_::_=>by simp[zt]
 |x::b,[]=>by
  have h0: ¬x<0:=by simp
  by_cases h:(0:UInt8)<x
  ·cases b<;>simp[zt,h]
  ·have e:x=0:=by
    apply UInt8.toNat_inj.1;have:=UInt8.lt_iff_toNat_lt (a:=0) (b:=x);simp at this;simp at h;exact h▸rfl
   subst e;cases b<;>simp[zt]
 |x::b,y::k=>by
  simp only[List.cons_append,zt];by_cases h:x<y
  ·have: ¬y<x:=UInt8.lt_asymm h;simp[h,this]
  ·by_cases h2:y<x
   ·simp[h,h2]
   ·simp[h,h2];simpa using Xv b k
theorem Jk{b k:Bytes}(hb:b≠[])(hk:k≠[]):zy b (k++[0])<0↔¬zy k b<0:=by unfold zy;rw[if_neg hb,if_neg (by simp),if_neg hk,if_neg hb];exact Xv b k
def pt(k:Bytes):Iv:=(k,k++[0])
theorem KM{k:Bytes}(hk:k≠[]):Q5 (pt k):=(Jk hk hk).2 (yF _)
theorem zbZ{k:Bytes}(hk:k≠[]){v:Iv}(hv:Q5 v):jI (pt k) v=0↔Jj k v:=by rw[xj (KM hk)];show zy v.1 (k++[0])<0/\zy k v.2<0↔_;rw[Jk hv.ne hk];rfl
theorem zb0{k j:Bytes}(hk:k≠[]):Jj j (pt k)↔j=k:=by
 unfold Jj pt;constructor
 ·rintro⟨h1,h2⟩;have hj:j≠[]:=Gj h2;have h3:=(Jk hj hk).1 h2;have h4:=yK j k
  replace h1: ¬zy j k<0:=h1
  exact vZ (by omega)
 ·rintro rfl;exact⟨yF _,KM hk⟩
def jd(T:NM)(i:Nat):Iv:=((T i).b.1,(T i).e.1)
def zK(T:NM)(l:List Nat):List Iv:=l.map (jd T)
theorem jt(T:NM)(a b:List Nat):zK T (a++b)=zK T a++zK T b:=List.map_append ..
structure vt(L:List Iv):Prop where
 sorted:vf L
 valid:∀v∈L,Q5 v
theorem vt.app{a b:List Iv}(h:vt (a++b)):vt a/\vt b/\∀x∈a,∀y∈b,¬zy y.1 x.1<0:=by have hs:=h.sorted;unfold vf at hs;rw[List.pairwise_append]at hs;exact⟨⟨hs.1,λv hv=>h.valid v (by simp[hv])⟩,⟨hs.2.1,λv hv=>h.valid v (by simp[hv])⟩,hs.2.2⟩
theorem vt.node{l r:Tr}(h:vt (zK T (Tr.node x l r).ids)):vt (zK T l.ids)/\vt (zK T r.ids)/\Q5 (jd T x)/\(∀i∈l.ids,¬zy (T x).b.1 (T i).b.1<0)/\(∀i∈r.ids,¬zy (T i).b.1 (T x).b.1<0):=by simp only[Tr.ids,zK,List.map_append,List.map_cons]at h;obtain⟨h1,h2,h3⟩:=h.app;have h4:=h2.sorted;unfold vf at h4;rw[List.pairwise_cons]at h4;refine⟨h1,⟨h4.2,λv hv=>h2.valid v (List.mem_cons_of_mem _ hv)⟩,h2.valid _ (by simp),λi hi=>h3 (jd T i) (List.mem_map.2 ⟨i,hi,rfl⟩) (jd T x) (by simp),λi hi=>h4.1 (jd T i) (List.mem_map.2 ⟨i,hi,rfl⟩)⟩
theorem zcp(e:Bytes)(a b:Option Bytes): ¬zy (xN e a b) e<0/\(∀m,a=some m->¬zy (xN e a b) m<0)/\(∀m,b=some m->¬zy (xN e a b) m<0):=by
 have key:xN e a b=(match b with|none=>(match a with|none=>e|some a=>Ue e a)|some b=>Ue (match a with|none=>e|some a=>Ue e a) b):=by unfold xN Ue;cases a<;>cases b<;>rfl
 rw[key];cases a with
 |none=>
  cases b with
  |none=>exact⟨yF _,(λm h=>by cases h),(λm h=>by cases h)⟩
  |some b=>exact⟨(xZ e b).1,(λm h=>by cases h),λm h=>by cases h;exact(xZ e b).2⟩
 |some a=>
  cases b with
  |none=>exact⟨(xZ e a).1,(λm h=>by cases h;exact(xZ e a).2),λm h=>by cases h⟩
  |some b=>exact⟨yY (xZ e a).1 (xZ _ b).1,(λm h=>by cases h;exact yY (xZ e a).2 (xZ _ b).1),λm h=>by cases h;exact(xZ _ b).2⟩
theorem za3(e:Bytes)(a b:Option Bytes):xN e a b=e\/a=some (xN e a b)\/b=some (xN e a b):=by unfold xN;cases a<;>cases b<;>simp only<;>(repeat' split)<;>simp
theorem xz{T:NM}:∀{t:Tr} {m:Bytes},jb T t=some m->(∀i∈t.ids,¬zy m (T i).e.1<0)/\∃i∈t.ids,(T i).e.1=m
 |.nil,_,h=>by cases h
 |.node x l r,m,h=>by
  simp only[jb,Option.some.injEq]at h;have hg:=zcp (T x).e.1 (jb T l) (jb T r);have ho:=za3 (T x).e.1 (jb T l) (jb T r);rw[h]at hg ho;refine⟨λi hi=> ?_,?_⟩
  ·simp only[Tr.ids,List.mem_append,List.mem_cons]at hi;rcases hi with hi|rfl|hi
   ·cases hl:jb T l with
    |none=>cases l with
     |nil=>simp[Tr.ids]at hi
     |node=>simp[jb]at hl
    |some n=>exact yY ((xz hl).1 i hi) (hg.2.1 n hl)
   ·exact hg.1
   ·cases hl:jb T r with
    |none=>cases r with
     |nil=>simp[Tr.ids]at hi
     |node=>simp[jb]at hl
    |some n=>exact yY ((xz hl).1 i hi) (hg.2.2 n hl)
  ·rcases ho with e|e|e
   ·exact⟨x,by simp[Tr.ids],e.symm⟩
   ·obtain⟨i,hi,hm⟩:=(xz e).2;exact⟨i,by simp[Tr.ids,hi],hm⟩
   ·obtain⟨i,hi,hm⟩:=(xz e).2;exact⟨i,by simp[Tr.ids,hi],hm⟩
def Ov(T:NM)(q:Iv)(i:Nat):Prop:=jI q (jd T i)=0
instance(T:NM)(q:Iv):DecidablePred (Ov T q):=λi=>by unfold Ov;exact inferInstance
theorem Is.left{s p:Nat}{l r:Tr}(h:Is T s p x (.node x l r))(hm:v_ T (.node x l r)):((T x).l=s/\l=.nil)\/((T x).l≠s/\jb T l=some (T (T x).l).mx.1/\(T x).l∈l.ids):=by
 obtain⟨_,_,_,h4,_⟩:=h;cases l with
 |nil=>exact Or.inl ⟨h4,rfl⟩
 |node i a b=>obtain⟨e,e2,_⟩:=h4;right;rw[e];exact⟨e2,by simp only[jb];rw[hm.2.1.1],by simp[Tr.ids]⟩
theorem Wf{s p:Nat}{l r:Tr}{q:Iv}(h:Is T s p x (.node x l r))(hm:v_ T (.node x l r))(hg:vt (zK T (Tr.node x l r).ids))(hq:Q5 q)(hx: ¬Ov T q x):
  (((T x).l≠s/\zy (T (T x).l).mx.1 q.1>0)->((∃i∈(Tr.node x l r).ids,Ov T q i)↔∃i∈l.ids,Ov T q i))/\(¬((T x).l≠s/\zy (T (T x).l).mx.1 q.1>0)->((∃i∈(Tr.node x l r).ids,Ov T q i)↔∃i∈r.ids,Ov T q i)):=by
 obtain⟨_,_,g3,g4,g5⟩:=hg.node;have mem:∀i,i∈(Tr.node x l r).ids↔i∈l.ids\/i=x\/i∈r.ids:=λi=>by simp[Tr.ids]
 have ov:∀i,Ov T q i↔zy (T i).b.1 q.2<0/\zy q.1 (T i).e.1<0:=λi=>xj hq;constructor
 ·rintro⟨c1,c2⟩;constructor
  ·rintro⟨i,hi,ho⟩;rcases(mem i).1 hi with hi|rfl|hi
   ·exact⟨i,hi,ho⟩
   ·exact absurd ho hx
   ·rcases h.left hm with⟨e,_⟩|⟨_,e,_⟩
    ·exact absurd e c1
    ·obtain⟨j,hj,he⟩:=(xz e).2;refine⟨j,hj,(ov j).2 ⟨?_,by rw[he];have:=yK (T (T x).l).mx.1 q.1;omega⟩⟩;exact ZG (yY (g4 j hj) (g5 i hi)) ((ov i).1 ho).1
  ·rintro⟨i,hi,ho⟩;exact⟨i,(mem i).2 (Or.inl hi),ho⟩
 ·intro c;constructor
  ·rintro⟨i,hi,ho⟩;rcases(mem i).1 hi with hi|rfl|hi
   ·exfalso;rcases h.left hm with⟨_,e⟩|⟨e1,e,_⟩
    ·rw[e]at hi;simp[Tr.ids]at hi
    ·have h1:=(xz e).1 i hi;have h2:=((ov i).1 ho).2;apply c;refine⟨e1,?_⟩;have:=yX h2 h1;have:=yK (T (T x).l).mx.1 q.1;omega
   ·exact absurd ho hx
   ·exact⟨i,hi,ho⟩
  ·rintro⟨i,hi,ho⟩;exact⟨i,(mem i).2 (Or.inr (Or.inr hi)),ho⟩
def xl(T:NM)(q:Iv)(l:List Nat):List Nat:=l.filter λi=>Ov T q i
theorem Gk{q:Iv}{l:List Nat}(h:∀i∈l,¬Ov T q i):xl T q l=[]:=by unfold xl;rw[List.filter_eq_nil_iff];intro i hi;simpa using h i hi
theorem KN{q:Iv}{l r:Tr}:xl T q (Tr.node x l r).ids=xl T q l.ids++(if Ov T q x then [x]else [])++xl T q r.ids:=by unfold xl;simp only[Tr.ids,List.filter_append,List.filter_cons];by_cases h:Ov T q x<;>simp[h]
theorem Uf{q:Iv}{l r:Tr}(hg:vt (zK T (Tr.node x l r).ids))(hq:Q5 q)(hv:jI q (jd T x)<0):xl T q (Tr.node x l r).ids=xl T q l.ids:=by
 obtain⟨_,_,g3,g4,g5⟩:=hg.node;rw[KN,if_neg (by unfold Ov;omega),Gk (l:=r.ids),List.append_nil,List.append_nil];intro i hi ho;have ho:=(xj hq).1 ho;unfold jI at hv;split at hv
 ·rename_i h;have:zy (jd T i).1 (jd T x).1<0:=yX ho.1 (by have:=yK q.2 (jd T x).1;omega);exact g5 i hi this
 ·split at hv<;>omega
theorem Ug{q:Iv}{s p:Nat}{l r:Tr}(hm:v_ T (.node x l r))(hg:vt (zK T (Tr.node x l r).ids))(hq:Q5 q)(hv:jI q (jd T x)>0)(hc:jI ((T x).b.1,(T x).mx.1) q≠0):xl T q (Tr.node x l r).ids=[]:=by
 obtain⟨_,_,g3,g4,g5⟩:=hg.node;have Tp:jb T (.node x l r)=some (T x).mx.1:=by simp only[jb];rw[hm.1]
 have Cb:=xz Tp;have lw: ¬zy q.1 (jd T x).2<0:=by
  unfold jI at hv;split at hv
  ·omega
  ·split at hv
   ·omega
   ·omega
 have hVm:Q5 ((T x).b.1,(T x).mx.1):=yX g3 (Cb.1 x (by simp[Tr.ids]));refine Gk λi hi ho=> ?_;have ho:=(xj hq).1 ho;refine hc ((xj hVm).2 ⟨?_,?_⟩)
 ·exact yX ho.2 (Cb.1 i hi)
 ·exact ZF (yX g3 lw) hq
theorem Uh{q:Iv}{l r:Tr}(hv:jI q (jd T x)=0):xl T q (Tr.node x l r).ids=xl T q l.ids++x::xl T q r.ids:=by rw[KN,if_pos (show Ov T q x from hv)];simp
theorem Ui{q:Iv}{l r:Tr}(hv:jI q (jd T x)>0):xl T q (Tr.node x l r).ids=xl T q l.ids++xl T q r.ids:=by rw[KN,if_neg (by unfold Ov;omega)];simp
theorem gv(T:NM)(q:Iv)(l:List Nat):zK T (xl T q l)=(zK T l).filter λv=>jI q v=0:=by unfold zK xl Ov;rw[List.filter_map];rfl
def goL(v x:Iv):Prop:=zy v.1 x.1<0\/(zy v.1 x.1=0/\zy v.2 x.2<0)
instance(v x:Iv):Decidable (goL v x):=by unfold goL;exact inferInstance
structure J4(T:NM)(v:Iv)(k:List Fr):Prop where
 l:∀i∈Jh k,¬zy v.1 (T i).b.1<0
 r:∀i∈Ji k,¬zy (T i).b.1 v.1<0
theorem J4.nil(T:NM)(v:Iv):J4 T v []:=⟨λi hi=>by simp[Jh]at hi,λi hi=>by simp[Ji]at hi⟩
theorem J4.goL{v:Iv}{k:List Fr}{l r:Tr}(h:J4 T v k)(hg:vt (zK T (Tr.node x l r).ids))(hv:goL v (jd T x)):J4 T v (.L x r::k):=by
 obtain⟨_,_,g3,g4,g5⟩:=hg.node;have hY: ¬zy (T x).b.1 v.1<0:=by
  have n:=yK v.1 (T x).b.1;rcases hv with e|⟨e,_⟩
  ·replace e:zy v.1 (T x).b.1<0:=e;omega
  ·replace e:zy v.1 (T x).b.1=0:=e;omega
 refine⟨h.l,λi hi=> ?_⟩;simp only[Ji,List.cons_append,List.mem_cons,List.mem_append]at hi;rcases hi with rfl|hi|hi
 ·exact hY
 ·exact yY hY (g5 i hi)
 ·exact h.r i hi
theorem J4.goR{v:Iv}{k:List Fr}{l r:Tr}(h:J4 T v k)(hg:vt (zK T (Tr.node x l r).ids))(hv: ¬Go.Proofs.YtbmdoinjkligiaaGreat.goL v (jd T x)):J4 T v (.R x l::k):=by
 obtain⟨_,_,g3,g4,g5⟩:=hg.node;have hY: ¬zy v.1 (T x).b.1<0:=λe=>hv (Or.inl e);refine⟨λi hi=> ?_,h.r⟩;simp only[Jh,List.mem_append,List.mem_singleton]at hi;rcases hi with hi|hi|rfl
 ·exact h.l i hi
 ·exact yY (g4 i hi) hY
 ·exact hY
theorem J4.good{v:Iv}{k:List Fr}(h:J4 T v k)(hv:Q5 v)(hg:vt (zK T (Jh k++Ji k))):vt (zK T (Jh k)++v::zK T (Ji k)):=by
 rw[jt]at hg;obtain⟨h1,h2,h3⟩:=hg.app;constructor
 ·unfold vf;rw[List.pairwise_append,List.pairwise_cons];refine⟨h1.sorted,⟨λy hy=> ?_,h2.sorted⟩,λx hx y hy=> ?_⟩
  ·obtain⟨i,hi,rfl⟩:=List.mem_map.1 hy;exact h.r i hi
  ·obtain⟨i,hi,rfl⟩:=List.mem_map.1 hx;rcases List.mem_cons.1 hy with rfl|hy
   ·exact h.l i hi
   ·exact h3 _ hx y hy
 ·intro y hy;rcases List.mem_append.1 hy with hy|hy
  ·exact h1.valid y hy
  ·rcases List.mem_cons.1 hy with rfl|hy
   ·exact hv
   ·exact h2.valid y hy
def yt(b e:EV)(s p:Nat):Nd:=⟨b,e,e,s,s,p,true⟩
abbrev yi(D:Nat->Prop)(z:Nat):Nat->Prop:=λi=>D i\/i=z
theorem TG.hangNil{s root:Nat}(h:TG T s root q x D [] .nil)(hz:z≠s)(b e:EV):q=s/\TG (T.set z (yt b e s q)) s z q z (yi D z) [] (.node z .nil .nil):=by
 obtain⟨h1,h2,h3,h4,h5,h6⟩:=h;refine⟨h3.2,⟨⟨rfl,hz,?_,?_,?_⟩,⟨?_,trivial,trivial⟩,⟨rfl,h3.2⟩,trivial,by simp[Tr.ids,zC],λi hi=> ?_⟩⟩
 ·rw[NM.set_same];rfl
 ·rw[NM.set_same];exact rfl
 ·rw[NM.set_same];exact rfl
 ·rw[NM.set_same];rfl
 ·right;simpa[Tr.ids,zC]using hi
theorem TG.hangL{s root i:Nat}{k:List Fr}{r:Tr}(h:TG T s root q x D (.L i r::k) .nil)(hz:z≠s)(nB:z∉zC (.L i r::k))(b e:EV):
  q=i/\q≠s/\D q/\q≠z/\∃q' ml mr,∀T2,T2=(T.set z (yt b e s q)).set q ((T q).sl z)->U T2 s root q' q (yi D z) k ml mr/\
   ∀T3,jC T2 T3 q k (xN (T2 q).e.1 ml mr)->TG T3 s root q z (yi D z) (.L i r::k) (.node z .nil .nil)/\(T3 z).c=true/\(T3 z).b=b/\(T3 z).e=e/\∀j,j≠z->ZV (T j) (T3 j):=by
 obtain⟨_,_,⟨hq,hi,Sz,tG,Hz⟩,⟨Sy,Mt,tQ⟩,pX,Si⟩:=h;subst hq;have ly:=nB;have P3:(q::(r.ids++zC k)).Nodup:=pX;simp only[qG,not_or]at ly;simp only[List.nodup_cons,List.mem_append,not_or,List.nodup_append]at P3;obtain⟨PZ,Cc,bG⟩:=ly;obtain⟨⟨pY,PL⟩,Pv,rh,nz⟩:=P3;have sK:(T q).r=s\/(T q).r∈r.ids:=tG.root;have RR:s∉qC k:=λe=>Hz.ne s (zo e) rfl;have hD:∀j∈zC (.L q r::k),D j:=λj hj=>Si j (by simpa[Tr.ids]using hj);refine⟨rfl,hi,hD q (qG.2 (Or.inl rfl)),Ne.symm PZ,(T q).p,some e.1,jb T r,λT2 S5=> ?_⟩;have t2q:T2 q=(T q).sl z:=by rw[S5];exact NM.set_same _ _ _
 have t2z:T2 z=yt b e s q:=by rw[S5,NM.set_ne _ _ PZ];exact NM.set_same _ _ _
 have t2o:∀j,j≠q->j≠z->T2 j=T j:=λj h1 h2=>by rw[S5,NM.set_ne _ _ h1,NM.set_ne _ _ h2]
 have SL:∀j∈r.ids,T2 j=T j:=λj hj=>t2o j (λe=>pY (e▸hj)) (λe=>Cc (e▸hj));have Rk:∀j∈zC k,T2 j=T j:=λj hj=>t2o j (λe=>PL (e▸hj)) (λe=>bG (e▸hj));have ptr_of:∀j,T2 j=T j->V0 (T j) (T2 j):=λj e=>by rw[e];exact⟨rfl,rfl,rfl⟩
 have ends_of:∀j,T2 j=T j->gq (T j) (T2 j):=λj e=>by rw[e];exact⟨rfl,rfl⟩
 refine⟨⟨hi,Or.inl (hD q (qG.2 (Or.inl rfl))),by rw[t2q],?_,?_,?_,?_,?_,?_,?_,λj hj=>Or.inl (hD j (qG.2 (Or.inr (Or.inr hj))))⟩,λT3 hd=> ?_⟩
 ·rw[t2q];exact Or.inr ⟨hz,Or.inr rfl,by rw[t2z];rfl⟩
 ·have:=(tG.frame λj hj=>ptr_of j (SL j hj)).hd (D:=yi D z) (Sy.frame λj hj=>ends_of j (SL j hj)) λj hj=>Or.inl (hD j (qG.2 (Or.inr (Or.inl hj))));rw[t2q,<-zX (T':=T2) (t:=r) λj hj=>by rw[SL j hj]];exact this
 ·exact Hz.frame λj hj=>ptr_of j (Rk j hj)
 ·rw[t2q];exact tQ.frame λj hj=>ends_of j (Rk j hj)
 ·simp only[List.nodup_cons];exact⟨PL,rh⟩
 ·rw[t2q];exact⟨PZ,λe=>bG (zo e)⟩
 ·rw[t2q];rcases sK with e|e
  ·show(T q).r≠q/\(T q).r∉qC k;rw[e];exact⟨Ne.symm hi,RR⟩
  ·exact⟨λe2=>pY (e2▸e),λe2=>nz _ e _ (zo e2) rfl⟩
 ·have d3z:T3 z=yt b e s q:=(hd.out z PZ (λe=>bG (zo e))).trans t2z;have eq:=hd.all q;have Nt:∀j∈r.ids,T3 j=T j:=λj hj=>(hd.out j (λe=>pY (e▸hj)) (λe=>nz _ hj _ (zo e) rfl)).trans (SL j hj);refine⟨⟨⟨rfl,hz,by rw[d3z];rfl,by rw[d3z];exact rfl,by rw[d3z];exact rfl⟩,⟨by rw[d3z];rfl,trivial,trivial⟩,⟨rfl,hi,?_,?_,?_⟩,⟨?_,?_,?_⟩,?_,?_⟩,by rw[d3z];rfl,by rw[d3z];rfl,by rw[d3z];rfl,λj hj=> ?_⟩
  ·rw[eq.2.2.1,t2q]
  ·rw[eq.2.2.2.1,t2q];exact tG.frame λj hj=>by rw[Nt j hj];exact⟨rfl,rfl,rfl⟩
  ·rw[eq.2.2.2.2.1,t2q];exact Hz.frame λj hj=>by rw[<-Rk j hj];exact(hd.all j).ptr
  ·exact Sy.frame λj hj=>by rw[Nt j hj];exact⟨rfl,rfl⟩
  ·have e1:jb T3 (.node z .nil .nil)=some e.1:=by simp only[jb];rw[d3z];rfl
   rw[e1,hd.mx,eq.2.1,zX (T:=T) (T':=T3) (t:=r) λj hj=>by rw[Nt j hj]]
  ·rw[hd.mx];exact hd.ok
  ·show(z::zC (.L q r::k)).Nodup;rw[List.nodup_cons];exact⟨nB,pX⟩
  ·intro j hj;rcases List.mem_cons.1 (show j∈z::zC (.L q r::k)from hj)with e|e
   ·exact Or.inr e
   ·exact Or.inl (hD j e)
  ·have b1:ZV (T j) (T2 j):=by
    rw[S5];by_cases e1:j=q
    ·rw[e1,NM.set_same];exact⟨rfl,rfl,rfl⟩
    ·rw[NM.set_ne _ _ e1,NM.set_ne _ _ hj];exact ZV.refl _
   exact b1.trans (hd.all j).bec
theorem TG.hangR{s root i:Nat}{k:List Fr}{r:Tr}(h:TG T s root q x D (.R i r::k) .nil)(hz:z≠s)(nB:z∉zC (.R i r::k))(b e:EV):
  q=i/\q≠s/\D q/\q≠z/\∃q' ml mr,∀T2,T2=(T.set z (yt b e s q)).set q ((T q).sr z)->U T2 s root q' q (yi D z) k ml mr/\
   ∀T3,jC T2 T3 q k (xN (T2 q).e.1 ml mr)->TG T3 s root q z (yi D z) (.R i r::k) (.node z .nil .nil)/\(T3 z).c=true/\(T3 z).b=b/\(T3 z).e=e/\∀j,j≠z->ZV (T j) (T3 j):=by
 obtain⟨_,_,⟨hq,hi,Sz,tG,Hz⟩,⟨Sy,Mt,tQ⟩,pX,Si⟩:=h;subst hq;have ly:=nB;have P3:(q::(r.ids++zC k)).Nodup:=pX;simp only[qv,not_or]at ly;simp only[List.nodup_cons,List.mem_append,not_or,List.nodup_append]at P3;obtain⟨PZ,Cc,bG⟩:=ly;obtain⟨⟨pY,PL⟩,Pv,rh,nz⟩:=P3;have sK:(T q).l=s\/(T q).l∈r.ids:=tG.root;have RR:s∉qC k:=λe=>Hz.ne s (zo e) rfl;have hD:∀j∈zC (.R q r::k),D j:=λj hj=>Si j (by simpa[Tr.ids]using hj);refine⟨rfl,hi,hD q (qv.2 (Or.inl rfl)),Ne.symm PZ,(T q).p,jb T r,some e.1,λT2 S5=> ?_⟩;have t2q:T2 q=(T q).sr z:=by rw[S5];exact NM.set_same _ _ _
 have t2z:T2 z=yt b e s q:=by rw[S5,NM.set_ne _ _ PZ];exact NM.set_same _ _ _
 have t2o:∀j,j≠q->j≠z->T2 j=T j:=λj h1 h2=>by rw[S5,NM.set_ne _ _ h1,NM.set_ne _ _ h2]
 have SL:∀j∈r.ids,T2 j=T j:=λj hj=>t2o j (λe=>pY (e▸hj)) (λe=>Cc (e▸hj));have Rk:∀j∈zC k,T2 j=T j:=λj hj=>t2o j (λe=>PL (e▸hj)) (λe=>bG (e▸hj));have ptr_of:∀j,T2 j=T j->V0 (T j) (T2 j):=λj e=>by rw[e];exact⟨rfl,rfl,rfl⟩
 have ends_of:∀j,T2 j=T j->gq (T j) (T2 j):=λj e=>by rw[e];exact⟨rfl,rfl⟩
 refine⟨⟨hi,Or.inl (hD q (qv.2 (Or.inl rfl))),by rw[t2q],?_,?_,?_,?_,?_,?_,?_,λj hj=>Or.inl (hD j (qv.2 (Or.inr (Or.inr hj))))⟩,λT3 hd=> ?_⟩
 ·have:=(tG.frame λj hj=>ptr_of j (SL j hj)).hd (D:=yi D z) (Sy.frame λj hj=>ends_of j (SL j hj)) λj hj=>Or.inl (hD j (qv.2 (Or.inr (Or.inl hj))));rw[t2q,<-zX (T':=T2) (t:=r) λj hj=>by rw[SL j hj]];exact this
 ·rw[t2q];exact Or.inr ⟨hz,Or.inr rfl,by rw[t2z];rfl⟩
 ·exact Hz.frame λj hj=>ptr_of j (Rk j hj)
 ·rw[t2q];exact tQ.frame λj hj=>ends_of j (Rk j hj)
 ·simp only[List.nodup_cons];exact⟨PL,rh⟩
 ·rw[t2q];rcases sK with e|e
  ·show(T q).l≠q/\(T q).l∉qC k;rw[e];exact⟨Ne.symm hi,RR⟩
  ·exact⟨λe2=>pY (e2▸e),λe2=>nz _ e _ (zo e2) rfl⟩
 ·rw[t2q];exact⟨PZ,λe=>bG (zo e)⟩
 ·have d3z:T3 z=yt b e s q:=(hd.out z PZ (λe=>bG (zo e))).trans t2z;have eq:=hd.all q;have Nt:∀j∈r.ids,T3 j=T j:=λj hj=>(hd.out j (λe=>pY (e▸hj)) (λe=>nz _ hj _ (zo e) rfl)).trans (SL j hj);refine⟨⟨⟨rfl,hz,by rw[d3z];rfl,by rw[d3z];exact rfl,by rw[d3z];exact rfl⟩,⟨by rw[d3z];rfl,trivial,trivial⟩,⟨rfl,hi,?_,?_,?_⟩,⟨?_,?_,?_⟩,?_,?_⟩,by rw[d3z];rfl,by rw[d3z];rfl,by rw[d3z];rfl,λj hj=> ?_⟩
  ·rw[eq.2.2.2.1,t2q]
  ·rw[eq.2.2.1,t2q];exact tG.frame λj hj=>by rw[Nt j hj];exact⟨rfl,rfl,rfl⟩
  ·rw[eq.2.2.2.2.1,t2q];exact Hz.frame λj hj=>by rw[<-Rk j hj];exact(hd.all j).ptr
  ·exact Sy.frame λj hj=>by rw[Nt j hj];exact⟨rfl,rfl⟩
  ·have e1:jb T3 (.node z .nil .nil)=some e.1:=by simp only[jb];rw[d3z];rfl
   rw[e1,hd.mx,eq.2.1,zX (T:=T) (T':=T3) (t:=r) λj hj=>by rw[Nt j hj]]
  ·rw[hd.mx];exact hd.ok
  ·show(z::zC (.R q r::k)).Nodup;rw[List.nodup_cons];exact⟨nB,pX⟩
  ·intro j hj;rcases List.mem_cons.1 (show j∈z::zC (.R q r::k)from hj)with e|e
   ·exact Or.inr e
   ·exact Or.inl (hD j e)
  ·have b1:ZV (T j) (T2 j):=by
    rw[S5];by_cases e1:j=q
    ·rw[e1,NM.set_same];exact⟨rfl,rfl,rfl⟩
    ·rw[NM.set_ne _ _ e1,NM.set_ne _ _ hj];exact ZV.refl _
   exact b1.trans (hd.all j).bec
def Xw:Value:=.iface 99 (.agg #[])
def J5(c:Bool):Value:=.int .i64 (if c then 1 else 0)
def jZ(n:Nd):Array Value:= #[n.b.2,n.e.2,Xw,n.mx.2,ptr n.l,ptr n.r,ptr n.p,J5 n.c]
def za4(w:World)(D:Nat->Prop)(T:NM):Prop:=∀i,D i->w.heap[i]? =some (.cells (jZ (T i)) 279 (0,0))
def Wg(w:World)(a:Nat):Prop:=∃c T,w.heap[a]? =some (.cells c T (0,0))
variable{a:Nat}
theorem Wg.setCell{w:World}(h:Wg w a)(b o:Nat)(v:Value):Wg (w.setCell ⟨b,o,none⟩ v) a:=by
 obtain⟨c,T,h⟩:=h;by_cases e:a=b
 ·subst e;exact⟨_,T,heap_setCell_same w a o _ _ _ h⟩
 ·exact⟨c,T,by rw[Below.heap_setCell _ _ _ _ e];exact h⟩
variable{b:Nat}
theorem ZH{w:World}(ha:Wg w a)(hb:Wg w b):(binOp .eql 274 (ptr a) (ptr b)).run prog w=.ok (.bool (decide (a=b))) w:=by
 obtain⟨_,_,ha⟩:=ha;obtain⟨_,_,hb⟩:=hb;obtain⟨j,hj,IR⟩:∃j,prog.info? 279=some j/\j.size=8:=by
  have h:(prog.info? 279).map (λi=>i.size)=some 8:=by kernel_rfl
  cases hi:prog.info? 279 with
  |none=>rw[hi]at h;cases h
  |some j=>rw[hi]at h;exact⟨j,rfl,by simpa using h⟩
 by_cases e:a=b
 ·subst e;rw[decide_eq_true rfl];exact run_eql_ptr_same w _ (by kernel_rfl) hj
 ·rw[decide_eq_false e];exact run_eql_ptr_other w (by kernel_rfl) hj (by omega) (λh=>e (by injection h)) ha hb
variable{P:Program}
theorem YH(w:World){tp te:TypeId}{j:TypeInfo}{a b:Addr}{ca cb:Array Value}{ta tb:TypeId}(hp:P.underlying tp=some (.pointer te))(hte:P.info? te=some j)(pL:j.size≠0)
  (Ho:a≠b)(ha:w.heap[a.block]? =some (.cells ca ta (0,0)))(hb:w.heap[b.block]? =some (.cells cb tb (0,0))):
  (binOp .neq tp (.pointer (some a)) (.pointer (some b))).run P w=.ok (.bool true) w:=by
 have h:∀d:Nat,(Op.equalIn (d+1) tp (.pointer (some a)) (.pointer (some b))).run P w=.ok false w:=λd=>by simp[Op.equalIn,run_underlying hp,sizeOf,typeInfo,hte,pL,run_sameAddr_other w Ho ha hb]
 simp only[binOp];simp[Op.equal,Op.maxDepth,h 9999]
theorem xO{w:World}(ha:Wg w a)(hb:Wg w b):(binOp .neq 274 (ptr a) (ptr b)).run prog w=.ok (.bool (!decide (a=b))) w:=by
 obtain⟨_,_,ha⟩:=ha;obtain⟨_,_,hb⟩:=hb;obtain⟨j,hj,IR⟩:∃j,prog.info? 279=some j/\j.size=8:=by
  have h:(prog.info? 279).map (λi=>i.size)=some 8:=by kernel_rfl
  cases hi:prog.info? 279 with
  |none=>rw[hi]at h;cases h
  |some j=>rw[hi]at h;exact⟨j,rfl,by simpa using h⟩
 by_cases e:a=b
 ·subst e;rw[decide_eq_true rfl];exact Lib.run_neq_ptr_same w _ (by kernel_rfl) hj
 ·rw[decide_eq_false e];exact YH w (by kernel_rfl) hj (by omega) (λh=>e (by injection h)) ha hb
structure qV where
 w:World
 r:Rd
structure TW(S:Nat->Prop)(w0:qV)(w:World)(D:Nat->Prop)(T:NM)(s:Nat):Prop where
 mod:zq S w0.w w
 nodes:za4 w D T
 ev:∀i,kK w0.r (T i).b/\kK w0.r (T i).e/\kK w0.r (T i).mx
 dS:∀i,D i->S i
 cs:Wg w s
 rd:w0.r.le (im S w0.w)
variable{S:Nat->Prop}{w0:qV}
theorem TW.le{w:World}{s:Nat}(h:TW S w0 w D T s):w0.r.le w.cell? :=λ_ _ ha=>by obtain⟨h1,h2⟩:=zi.1 (h.rd _ _ ha);exact h.mod.cell h1 h2
theorem TW.drew{w:World}{s:Nat}(h:TW S w0 w D T s):TW S w0 w.drew D T s:=⟨h.mod.drew,h.nodes,h.ev,h.dS,h.cs,h.rd⟩
theorem TW.drewN{w:World}{s:Nat}(h:TW S w0 w D T s)(n:Nat):TW S w0 (w.drewN n) D T s:=⟨h.mod.drewN n,h.nodes,h.ev,h.dS,h.cs,h.rd⟩
theorem TW.cells{w:World}{s:Nat}(h:TW S w0 w D T s){i:Nat}(hi:D i):
  w.cell? ⟨i,0,none⟩=some (T i).b.2/\w.cell? ⟨i,1,none⟩=some (T i).e.2/\w.cell? ⟨i,3,none⟩=some (T i).mx.2/\w.cell? ⟨i,4,none⟩=some (ptr (T i).l)/\w.cell? ⟨i,5,none⟩=some (ptr (T i).r)/\w.cell? ⟨i,6,none⟩=some (ptr (T i).p)/\w.cell? ⟨i,7,none⟩=some (J5 (T i).c):=by
 have:=h.nodes i hi;refine⟨?_,?_,?_,?_,?_,?_,?_⟩<;>rw[cell_of_row w i _ _ _ (0,0) this]<;>rfl
theorem TW.cel{w:World}{s:Nat}(h:TW S w0 w D T s){i:Nat}(hi:D i):Wg w i:=⟨_,_,h.nodes i hi⟩
theorem TW.frozen{w:World}{s:Nat}(h:TW S w0 w D T s){i:Nat}(hi:D i)(k:Nat):w.frozen? ⟨i,k,none⟩=false:=by simp[World.frozen?,h.nodes i hi]
theorem TW.set{w:World}{s:Nat}(h:TW S w0 w D T s){i:Nat}(hi:D i)(k:Nat)(v:Value)(n:Nd)(hn:(jZ (T i)).setIfInBounds k v=jZ n)(he:kK w0.r n.b/\kK w0.r n.e/\kK w0.r n.mx):
  TW S w0 (w.setCell ⟨i,k,none⟩ v) D (T.set i n) s where
 mod:=h.mod.setCell (p:=⟨i,k,none⟩) (λ_=>h.dS i hi) v
 nodes j hj:=by
  by_cases e:j=i
  ·subst e;rw[heap_setCell_same w j k _ _ _ (h.nodes j hj),NM.set_same,hn]
  ·rw[Below.heap_setCell _ _ _ _ e,NM.set_ne _ _ e];exact h.nodes j hj
 ev j:=by
  by_cases e:j=i
  ·subst e;rw[NM.set_same];exact he
  ·rw[NM.set_ne _ _ e];exact h.ev j
 dS:=h.dS
 cs:=h.cs.setCell _ _ _
 rd:=h.rd
theorem TW.setL{w:World}{s:Nat}(h:TW S w0 w D T s){i:Nat}(hi:D i)(x:Nat):TW S w0 (w.setCell ⟨i,4,none⟩ (ptr x)) D (T.set i ((T i).sl x)) s:=h.set hi 4 _ _ rfl (h.ev i)
theorem TW.setR{w:World}{s:Nat}(h:TW S w0 w D T s){i:Nat}(hi:D i)(x:Nat):TW S w0 (w.setCell ⟨i,5,none⟩ (ptr x)) D (T.set i ((T i).sr x)) s:=h.set hi 5 _ _ rfl (h.ev i)
theorem TW.setP{w:World}{s:Nat}(h:TW S w0 w D T s){i:Nat}(hi:D i)(x:Nat):TW S w0 (w.setCell ⟨i,6,none⟩ (ptr x)) D (T.set i ((T i).sp x)) s:=h.set hi 6 _ _ rfl (h.ev i)
theorem TW.setC{w:World}{s:Nat}(h:TW S w0 w D T s){i:Nat}(hi:D i)(c:Bool):TW S w0 (w.setCell ⟨i,7,none⟩ (J5 c)) D (T.set i ((T i).sc c)) s:=h.set hi 7 _ _ rfl (h.ev i)
theorem TW.setM{w:World}{s:Nat}(h:TW S w0 w D T s){i:Nat}(hi:D i)(e:EV)(he:kK w0.r e):TW S w0 (w.setCell ⟨i,3,none⟩ e.2) D (T.set i ((T i).sm e)) s:=h.set hi 3 _ _ rfl ⟨(h.ev i).1,(h.ev i).2.1,he⟩
theorem yC(v:Value)(W:World):(method 608 283 v "Compare").run prog W=.ok (187,v) W:=by kernel_rfl
theorem Gl{w:World}{s:Nat}(h:TW S w0 w D T s)(x:Nat):kK w0.r (Yq T s x):=by have h1:=(h.ev (T x).l).2.2;have h2:=(h.ev (T x).r).2.2;have h3:=(h.ev x).2.1;unfold Yq;dsimp only;split<;>split<;>assumption
def yM(T:NM)(s x:Nat):Bool:=if x=s then false else (T x).c
theorem Yr{w:World}{s:Nat}(h:TW S w0 w D T s)(x:Nat)(hx:x=s\/D x):
  Calls prog 247 #[ptr x,ptr s] w λe w'=>e=.returned (J5 (yM T s x))/\w=w':=by
 by_cases hs:x=s
 ·subst hs;have pN:=ZH h.cs h.cs;rw[decide_eq_true rfl]at pN;have hc:yM T x x=false:=if_pos rfl;rw[hc];clear h hx hc;go_enter func247,ntmps247;go_wp2;go_returns;exact⟨rfl,rfl⟩
 ·obtain⟨_,_,_,_,_,_,c7⟩:=h.cells (hx.resolve_left hs);have pN:=ZH (h.cel (hx.resolve_left hs)) h.cs;rw[decide_eq_false hs]at pN;have hc:yM T s x=(T x).c:=if_neg hs;rw[hc];clear h hx hc;go_enter func247,ntmps247;go_wp2;go_returns;exact⟨rfl,rfl⟩
theorem kK.iface{e:EV}(h:kK r e):∃p n c,e.2=.iface 283 (.slice p n c)/\Bs r e.1 (.slice p n c):=by obtain⟨bv,h1,h2⟩:=h;obtain⟨p,n,c,rfl,_⟩:=h2.shape;exact⟨p,n,c,h1,h2⟩
theorem jR{w:World}(hY:w0.r.le w.cell?){a b:EV}{av:Value}(ha:kK w0.r a)(hb:kK w0.r b)(hav:a.2=.iface 283 av):
  Calls prog 187 #[av,b.2] w λe w'=>e=.returned (.int .i64 (zy a.1 b.1))/\w=w':=by
 obtain⟨u,h1,h2⟩:=ha;obtain⟨v,h3,h4⟩:=hb;rw[hav]at h1;cases h1;rw[h3];exact yE (h2.mono hY) (h4.mono hY)
theorem za5(T:NM)(s x:Nat):Yq T s x=(if (T x).r≠s/\zy (T (T x).r).mx.1 (if (T x).l≠s/\zy (T (T x).l).mx.1 (T x).e.1>0 then (T (T x).l).mx else (T x).e).1>0 then (T (T x).r).mx else (if (T x).l≠s/\zy (T (T x).l).mx.1 (T x).e.1>0 then (T (T x).l).mx else (T x).e)):=rfl
variable{c:Nat}
theorem JF{w:World}{s:Nat}{m:Option Bytes}(h:TW S w0 w D T s)(hc:Hd T s D c m):
  (c=s/\(binOp .neq 274 (ptr c) (ptr s)).run prog w=.ok (.bool false) w)\/(c≠s/\(binOp .neq 274 (ptr c) (ptr s)).run prog w=.ok (.bool true) w/\
   ∃p n cc,(T c).mx.2=.iface 283 (.slice p n cc)/\w.cell? ⟨c,3,none⟩=some (.iface 283 (.slice p n cc))/\kK w0.r (T c).mx):=by
 rcases hc with⟨h1,_⟩|⟨h1,h2,_⟩
 ·left;refine⟨h1,?_⟩;rw[h1];have:=xO h.cs h.cs
  rwa [decide_eq_true rfl]at this
 ·right;refine⟨h1,?_,?_⟩
  ·have:=xO (h.cel h2) h.cs
   rwa [decide_eq_false h1]at this
  ·obtain⟨p,n,cc,e,_⟩:=(h.ev c).2.2.iface;exact⟨p,n,cc,e,by rw[(h.cells h2).2.2.1,e],(h.ev c).2.2⟩
variable{wr:World}
theorem zcq{T1:NM}{s root q1 x1:Nat}{k k1:List Fr}{ml1 mr1:Option Bytes}{m:Bytes}(hT:TW S w0 wr D T1 s)(hu:U T1 s root q1 x1 D k1 ml1 mr1)
  (hk:∀T',jC T1 T' x1 k1 (xN (T1 x1).e.1 ml1 mr1)->jC T T' x k m):
  (zy (T1 x1).mx.1 (Yq T1 s x1).1=0->jC T T1 x k m)/\
  ∃T2,TW S w0 (wr.setCell ⟨x1,3,none⟩ (Yq T1 s x1).2) D T2 s/\(((T1 x1).p=s/\jC T T2 x k m)\/
   (∃q2 k2 ml2 mr2,U T2 s root q2 (T1 x1).p D k2 ml2 mr2/\k2.length<k1.length/\∀T',jC T2 T' (T1 x1).p k2 (xN (T2 (T1 x1).p).e.1 ml2 mr2)->jC T T' x k m)):=by
 refine⟨λh=>hk _ (hu.same h),_,hT.setM hu.dx _ (Gl hT x1),?_⟩;rw[hu.p];cases k1 with
 |nil=>obtain⟨h1,h2⟩:=hu.last;exact Or.inl ⟨h2,hk _ h1⟩
 |cons f k1=>obtain⟨h1,q',ml',mr',h2,h3⟩:=hu.up;exact Or.inr ⟨q',k1,ml',mr',h2,by simp,λT' h=>hk _ (h3 T' h)⟩
theorem xA{w:World}{s root:Nat}{k:List Fr}(hw:TW S w0 w D T s)(hu:U T s root q x D k ml mr):
  Calls prog 229 #[ptr x,ptr s] w λe w'=>e=.returned (.tuple #[])/\∃T',TW S w0 w' D T' s/\jC T T' x k (xN (T x).e.1 ml mr)/\zq D w w':=by
 have HW:=hid hw;clear hw;have HU:=hid hu;clear hu;go_enter func229,ntmps229;go_wp2;go_loopg [0] (k.length+1) (λg xv wr=>∃x1 T1,xv=ptr x1/\TW S w0 wr D T1 s/\zq D w wr/\((x1=s/\jC T T1 x k (xN (T x).e.1 ml mr))\/(∃q1 k1 ml1 mr1,U T1 s root q1 x1 D k1 ml1 mr1/\k1.length<g/\∀T',jC T1 T' x1 k1 (xN (T1 x1).e.1 ml1 mr1)->jC T T' x k (xN (T x).e.1 ml mr))))
 case atStart=>exact⟨x,T,rfl,HW.out,zq.refl _ _,Or.inr ⟨q,k,ml,mr,HU.out,by omega,λ_ h=>h⟩⟩
 case round=>
  obtain⟨x1,T1,rfl,hT,AB,BV⟩:=hrel;have Nf:=hid AB;clear AB;rcases BV with⟨rfl,hd⟩|⟨q1,k1,ml1,mr1,nC,h_,hk⟩
  ·have pN:=xO hT.cs hT.cs;rw[decide_eq_true rfl]at pN;have HT:=hid hT;clear hT;have HD:=hid hd;clear hd;go_wp2;go_returns;exact⟨rfl,T1,HT.out,HD.out,Nf.out⟩
  ·have Hk:=zcq (s:=s) (root:=root) hT nC hk;obtain⟨c0,c1,c3,c4,c5,c6,_⟩:=hT.cells nC.dx;have cf:=hT.frozen nC.dx 3;obtain⟨op,on,oc,IS,_⟩:=(hT.ev x1).2.2.iface;have sk:=xO (hT.cel nC.dx) hT.cs;rw[decide_eq_false nC.xs]at sk;have P9:=λ(a b:EV) (av:Value) (h1:kK w0.r a) (h2:kK w0.r b) (h3:a.2=.iface 283 av)=>jR hT.le h1 h2 h3;have Tp:=(hT.ev x1).2.2;have he:=(hT.ev x1).2.1;have hn:=Gl hT x1;rw[IS]at c3;have Hp:=za5 T1 s x1;obtain⟨ep,en,ec,rW,_⟩:=he.iface;rw[rW]at c1;obtain⟨tl,Mz⟩:∃b:Bool,b=decide ((T1 x1).l≠s/\zy (T1 (T1 x1).l).mx.1 (T1 x1).e.1>0):=⟨_,rfl⟩;obtain⟨M,hM⟩:∃M:EV,M=(if (T1 x1).l≠s/\zy (T1 (T1 x1).l).mx.1 (T1 x1).e.1>0 then (T1 (T1 x1).l).mx else (T1 x1).e):=⟨_,rfl⟩;have IT:M=if tl=true then (T1 (T1 x1).l).mx else (T1 x1).e:=by rw[hM,Mz];simp only[decide_eq_true_eq]
   have IU:kK w0.r M:=by
    rw[IT];split
    ·exact(hT.ev _).2.2
    ·exact he
   rw[<-hM]at Hp;obtain⟨tr,IV⟩:∃b:Bool,b=decide ((T1 x1).r≠s/\zy (T1 (T1 x1).r).mx.1 M.1>0):=⟨_,rfl⟩;obtain⟨mp,mn,mc,Cd,_⟩:=IU.iface;obtain⟨N,hN⟩:∃N:EV,N=Yq T1 s x1:=⟨_,rfl⟩;have hNt:N=if tr=true then (T1 (T1 x1).r).mx else M:=by rw[hN,Hp,IV];simp only[decide_eq_true_eq]
   rw[<-hN]at hn Hk;obtain⟨np,nn,nc,IW,_⟩:=hn.iface;have pF:=P9 _ N _ Tp hn IS;rw[IW]at pF Hk;have AC:=hid pF;clear pF;have Hn:=hid Hk;clear Hk;have TY:=hid (JF hT nC.hl);have BW:=hid (JF hT nC.hr);have Ce:=hid nC.dx;have HT:=hid hT;clear hT;have IX:=hid Mz;clear Mz;have IY:=hid IV;clear IV;have HMT:=hid IT;clear IT;have HNT:=hid hNt;clear hNt;have lz:=hid P9;clear P9;have bH:=hid IU;clear IU;have HE:=hid he;clear he;have nZ:=hid IW;clear IW;have BX:=hid Cd;clear Cd;have TP:=hid rW;clear rW;clear Tp hn hN hk nC IS Hp hM;go_upto_region 3 with fail
   go_cut [36] (λs36 wx=>s36=.bool tl/\wr=wx)
   case first=>
    rcases TY.out with⟨PY,pS⟩|⟨PY,pS,lp,ln,lc,hY,mO,wD⟩
    ·have ht:tl=false:=by rw[IX.out];exact decide_eq_false λe=>e.1 PY
     subst ht;rw[PY]at pS c4;clear PY;go_wp2_with fail;go_meet;exact⟨rfl,rfl⟩
    ·have S7:=lz.out _ (T1 x1).e _ wD HE.out hY;rw[TP.out]at S7;have HL:=hid S7;clear S7;have ht:tl=decide (0<zy (T1 (T1 x1).l).mx.1 (T1 x1).e.1):=by rw[IX.out];simp only[PY,ne_eq,not_false_eq_true,true_and]
     subst ht;clear hY wD;go_wp2_with (go_at_call 187;go_must (refine HL.out.mono ?_);rintro e w9 ⟨rfl,rfl⟩)
     all_goals
      go_meet;exact⟨rfl,rfl⟩
   case rest=>
    obtain⟨rfl,rfl⟩:=hcut;go_upto_if 36 with fail
    go_cut [5] (λs5 wx=>s5=.iface 283 (.slice mp mn mc)/\wr=wx)
    case first=>
     cases tl
     ·have hv:Value.iface 283 (.slice ep en ec)=Value.iface 283 (.slice mp mn mc):=by
       rw[<-TP.out,<-BX.out,HMT.out];rfl
      have HV:=hid hv;clear hv;go_wp2_with fail;go_meet;exact⟨HV.out,rfl⟩
     ·have hd:=of_decide_eq_true IX.out.symm;rcases TY.out with⟨PY,_⟩|⟨PY,pS,lp,ln,lc,hY,mO,wD⟩
      ·exact absurd PY hd.1
      ·have hv:(T1 (T1 x1).l).mx.2=Value.iface 283 (.slice mp mn mc):=by
        rw[<-BX.out,HMT.out];rfl
       rw[<-hY,hv]at mO;clear hv hY wD hd pS;go_wp2_with fail;go_meet;exact⟨rfl,rfl⟩
    case rest=>
     obtain⟨rfl,rfl⟩:=hcut;go_upto_region 5 with fail
     go_cut [61] (λs61 wx=>s61=.bool tr/\wr=wx)
     case first=>
      rcases BW.out with⟨PY,pS⟩|⟨PY,pS,lp,ln,lc,hY,mO,wD⟩
      ·have ht:tr=false:=by rw[IY.out];exact decide_eq_false λe=>e.1 PY
       subst ht;rw[PY]at pS c5;clear PY;go_wp2_with fail;go_meet;exact⟨rfl,rfl⟩
      ·have S7:=lz.out _ M _ wD bH.out hY;rw[BX.out]at S7;have HL:=hid S7;clear S7;have ht:tr=decide (0<zy (T1 (T1 x1).r).mx.1 M.1):=by rw[IY.out];simp only[PY,ne_eq,not_false_eq_true,true_and]
       subst ht;clear hY wD;go_wp2_with (go_at_call 187;go_must (refine HL.out.mono ?_);rintro e w9 ⟨rfl,rfl⟩)
       all_goals
        go_meet;exact⟨rfl,rfl⟩
     case rest=>
      obtain⟨rfl,rfl⟩:=hcut;go_upto_if 61 with fail
      go_cut [5] (λs5 wx=>s5=.iface 283 (.slice np nn nc)/\wr=wx)
      case first=>
       cases tr
       ·have hv:Value.iface 283 (.slice mp mn mc)=Value.iface 283 (.slice np nn nc):=by
         rw[<-BX.out,<-nZ.out,HNT.out];rfl
        have HV:=hid hv;clear hv;go_wp2_with fail;go_meet;exact⟨HV.out,rfl⟩
       ·have hd:=of_decide_eq_true IY.out.symm;rcases BW.out with⟨PY,_⟩|⟨PY,pS,lp,ln,lc,hY,mO,wD⟩
        ·exact absurd PY hd.1
        ·have hv:(T1 (T1 x1).r).mx.2=Value.iface 283 (.slice np nn nc):=by
          rw[<-nZ.out,HNT.out];rfl
         rw[<-hY,hv]at mO;clear hv hY wD hd pS;go_wp2_with fail;go_meet;exact⟨rfl,rfl⟩
      case rest=>
       obtain⟨rfl,rfl⟩:=hcut;by_cases hz:zy (T1 x1).mx.1 N.1=0
       ·have HD:=hid (Hn.out.1 hz);clear Hn;have IZ:(zy (T1 x1).mx.1 N.1==0)=true:=by simpa using hz
        clear hz;go_wp2_with (go_at_call 187;go_must (refine AC.out.mono ?_);rintro e w9 ⟨rfl,rfl⟩);go_returns;exact⟨rfl,T1,HT.out,HD.out,Nf.out⟩
       ·have IZ:(zy (T1 x1).mx.1 N.1==0)=false:=by simpa using hz
        clear hz;go_wp2_with (go_at_call 187;go_must (refine AC.out.mono ?_);rintro e w9 ⟨rfl,rfl⟩);obtain⟨T2,h1,h2⟩:=Hn.out.2;rcases h2 with⟨e1,h2⟩|⟨q2,k2,ml2,mr2,h2,h3,h4⟩
        ·go_roundg 0
         case rel=>exact⟨_,T2,rfl,h1,Nf.out.setCell (p:=⟨x1,3,none⟩) (λ_=>Ce.out) _,Or.inl ⟨e1,h2⟩⟩
         case measure=>omega
        ·go_roundg (gk-1)
         case rel=>exact⟨_,T2,rfl,h1,Nf.out.setCell (p:=⟨x1,3,none⟩) (λ_=>Ce.out) _,Or.inr ⟨q2,k2,ml2,mr2,h2,by omega,h4⟩⟩
         case measure=>omega
structure TI(S:Nat->Prop)(w0:qV)(w:World)(D:Nat->Prop)(T:NM)(s it root:Nat)(n:Int):Prop where
 tw:TW S w0 w D T s
 blk:w.heap[it]? =some (.cells #[ptr root,.int .i64 n,ptr s] 282 (0,0))
 nd: ¬D it
 si:S it
variable{it:Nat}
theorem TI.cells{w:World}{s root:Nat}{n:Int}(h:TI S w0 w D T s it root n):w.cell? ⟨it,0,none⟩=some (ptr root)/\w.cell? ⟨it,1,none⟩=some (.int .i64 n)/\w.cell? ⟨it,2,none⟩=some (ptr s)/\w.frozen? ⟨it,0,none⟩=false/\w.frozen? ⟨it,1,none⟩=false:=by
 have:=h.blk;refine⟨?_,?_,?_,?_,?_⟩
 ·rw[cell_of_row w it _ _ _ (0,0) this];rfl
 ·rw[cell_of_row w it _ _ _ (0,0) this];rfl
 ·rw[cell_of_row w it _ _ _ (0,0) this];rfl
 ·simp[World.frozen?,this]
 ·simp[World.frozen?,this]
theorem TI.drewN{w:World}{s root:Nat}{n:Int}(h:TI S w0 w D T s it root n)(m:Nat):TI S w0 (w.drewN m) D T s it root n:=⟨h.tw.drewN m,h.blk,h.nd,h.si⟩
theorem TI.drew{w:World}{s root:Nat}{n:Int}(h:TI S w0 w D T s it root n):TI S w0 w.drew D T s it root n:=⟨h.tw.drew,h.blk,h.nd,h.si⟩
variable{k:Nat}{w':World}
theorem TI.node{w:World}{s root:Nat}{n:Int}(h:TI S w0 w D T s it root n){i:Nat}(hi:D i)(hw:w'=w.setCell ⟨i,k,none⟩ v)(ht:TW S w0 w' D T' s):TI S w0 w' D T' s it root n:=
 ⟨ht,by rw[hw,Below.heap_setCell _ _ _ _ (λe=>h.nd (by rw[e];exact hi))];exact h.blk,h.nd,h.si⟩
theorem TI.setL{w:World}{s root:Nat}{n:Int}(h:TI S w0 w D T s it root n){i:Nat}(hi:D i)(x:Nat):TI S w0 (w.setCell ⟨i,4,none⟩ (ptr x)) D (T.set i ((T i).sl x)) s it root n:=h.node hi rfl (h.tw.setL hi x)
theorem TI.setR{w:World}{s root:Nat}{n:Int}(h:TI S w0 w D T s it root n){i:Nat}(hi:D i)(x:Nat):TI S w0 (w.setCell ⟨i,5,none⟩ (ptr x)) D (T.set i ((T i).sr x)) s it root n:=h.node hi rfl (h.tw.setR hi x)
theorem TI.setP{w:World}{s root:Nat}{n:Int}(h:TI S w0 w D T s it root n){i:Nat}(hi:D i)(x:Nat):TI S w0 (w.setCell ⟨i,6,none⟩ (ptr x)) D (T.set i ((T i).sp x)) s it root n:=h.node hi rfl (h.tw.setP hi x)
theorem TI.setC{w:World}{s root:Nat}{n:Int}(h:TI S w0 w D T s it root n){i:Nat}(hi:D i)(c:Bool):TI S w0 (w.setCell ⟨i,7,none⟩ (J5 c)) D (T.set i ((T i).sc c)) s it root n:=h.node hi rfl (h.tw.setC hi c)
theorem TI.other{w:World}{s root:Nat}{n:Int}(h:TI S w0 w D T s it root n)(k:Nat)(v:Value):TW S w0 (w.setCell ⟨it,k,none⟩ v) D T s:=
 ⟨h.tw.mod.setCell (p:=⟨it,k,none⟩) (λ_=>h.si) v,λj hj=>by rw[Below.heap_setCell _ _ _ _ (λe=>h.nd (by replace e:j=it:=e;rw[<-e];exact hj))];exact h.tw.nodes j hj,h.tw.ev,h.tw.dS,h.tw.cs.setCell _ _ _,h.tw.rd⟩
theorem TI.setRoot{w:World}{s root:Nat}{n:Int}(h:TI S w0 w D T s it root n)(x:Nat):TI S w0 (w.setCell ⟨it,0,none⟩ (ptr x)) D T s it x n:=
 ⟨h.other 0 _,by rw[heap_setCell_same w it 0 _ _ _ h.blk];rfl,h.nd,h.si⟩
theorem TI.setCount{w:World}{s root:Nat}{n:Int}(h:TI S w0 w D T s it root n)(m:Int):TI S w0 (w.setCell ⟨it,1,none⟩ (.int .i64 m)) D T s it root m:=
 ⟨h.other 1 _,by rw[heap_setCell_same w it 1 _ _ _ h.blk];rfl,h.nd,h.si⟩
theorem TI.frame{w:World}{s root:Nat}{n:Int}(h:TI S w0 w D T s it root n)(ht:TW S w0 w' D T' s)(hi:w'.heap[it]? =w.heap[it]?):TI S w0 w' D T' s it root n:=⟨ht,hi.trans h.blk,h.nd,h.si⟩
theorem TW.eql{w:World}{s:Nat}(h:TW S w0 w D T s)(ha:a=s\/D a)(hb:b=s\/D b)(m:Nat):(binOp .eql 274 (ptr a) (ptr b)).run prog (w.drewN m)=.ok (.bool (decide (a=b))) (w.drewN m):=by
 have hh:=h.drewN m;refine ZH ?_ ?_
 ·rcases ha with e|e
  ·rw[e];exact hh.cs
  ·exact hh.cel e
 ·rcases hb with e|e
  ·rw[e];exact hh.cs
  ·exact hh.cel e
theorem TW.neq{w:World}{s:Nat}(h:TW S w0 w D T s)(ha:a=s\/D a)(hb:b=s\/D b)(m:Nat):(binOp .neq 274 (ptr a) (ptr b)).run prog (w.drewN m)=.ok (.bool (!decide (a=b))) (w.drewN m):=by
 have hh:=h.drewN m;refine xO ?_ ?_
 ·rcases ha with e|e
  ·rw[e];exact hh.cs
  ·exact hh.cel e
 ·rcases hb with e|e
  ·rw[e];exact hh.cs
  ·exact hh.cel e
theorem J6{w:World}{s root:Nat}{n:Int}(hw:TI S w0 w D T s it root n)(hr:RP T s root q x y D []):
  Calls prog 250 #[ptr it,ptr x,ptr y] w λe w'=>e=.returned (.tuple #[])/\∃T',TI S w0 w' D T' s it y n/\We T T' s y q x y []:=by
 obtain⟨hq,hd⟩:=hr.nil;subst hq;have RJ:=hr.xy;have E4:=Ne.symm RJ;obtain⟨x0,x1,x3,x4,x5,x6,_⟩:=hw.tw.cells hr.dx;rw[hr.p]at x6;obtain⟨_,_,_,_,_,y6,_⟩:=hw.tw.cells hr.dy;have xf:=hw.tw.frozen hr.dx 6;have yf:=hw.tw.frozen hr.dy 6;obtain⟨i0,_,i2,if0,_⟩:=hw.cells;have Nv:it≠x:=λe=>hw.nd (by rw[e];exact hr.dx);have wE:it≠y:=λe=>hw.nd (by rw[e];exact hr.dy);have E7:=Ne.symm Nv;have E8:=Ne.symm wE;have h1:=hw.setP hr.dy q;have pN:=λm=>h1.tw.eql (Or.inl rfl) (Or.inl rfl) m;rw[decide_eq_true rfl]at pN;have H1:=hid h1;clear h1;have HD:=hid hd;clear hd;have Ce:=hid hr.dx;have e1:(T.set y ((T y).sp q)) x=T x:=NM.set_ne _ _ RJ;have E1:=hid e1;clear e1;clear hw hr;go_enter func250,ntmps250;go_wp2;go_quiet (fail);go_wp2;go_returns;refine⟨rfl,_,?_,HD.out⟩;rw[<-E1.out];exact((H1.out.drewN _).setRoot y).setP Ce.out y
theorem V1{w:World}{s root i:Nat}{n:Int}{r:Tr}{k:List Fr}(hw:TI S w0 w D T s it root n)(hr:RP T s root q x y D (.L i r::k)):
  Calls prog 250 #[ptr it,ptr x,ptr y] w λe w'=>e=.returned (.tuple #[])/\∃T',TI S w0 w' D T' s it root n/\We T T' s root q x y (.L i r::k):=by
 obtain⟨wn,N3,lA,I0,AD,MO,q',ml,mr,hU⟩:=hr.consL;subst wn;obtain⟨hu,hd⟩:=hU _ rfl;have RJ:=hr.xy;have E4:=Ne.symm RJ;have bw:=Ne.symm I0;have hyq:=Ne.symm AD;obtain⟨_,_,_,_,_,x6,_⟩:=hw.tw.cells hr.dx;rw[hr.p]at x6;obtain⟨_,_,_,_,_,y6,_⟩:=hw.tw.cells hr.dy;obtain⟨_,_,_,q4,q5,q6,_⟩:=hw.tw.cells lA;rw[MO]at q4;have xf:=hw.tw.frozen hr.dx 6;have yf:=hw.tw.frozen hr.dy 6;have qf:=hw.tw.frozen lA 4;obtain⟨i0,_,i2,if0,_⟩:=hw.cells;have Nv:it≠x:=λe=>hw.nd (by rw[e];exact hr.dx);have wE:it≠y:=λe=>hw.nd (by rw[e];exact hr.dy);have AE:it≠q:=λe=>hw.nd (by rw[e];exact lA);have E7:=Ne.symm Nv;have E8:=Ne.symm wE;have n0:=Ne.symm AE;have h1:=hw.setP hr.dy q;have e1:(T.set y ((T y).sp q)) q=T q:=NM.set_ne _ _ AD;have h2:=λm=>(h1.drewN m).setL lA y;rw[e1]at h2;have S9:∀W,TI S w0 W D ((T.set y ((T y).sp q)).set q ((T q).sl y)) s it root n->_:=λW h=>xA h.tw hu
 have pN:=λm=>h1.tw.eql (a:=q) (b:=s) (Or.inr lA) (Or.inl rfl) m;rw[decide_eq_false N3]at pN;have sk:=λm=>h1.tw.eql (a:=x) (b:=x) (Or.inr hr.dx) (Or.inr hr.dx) m;rw[decide_eq_true rfl]at sk;have rU:∀W,TI S w0 W D ((T.set y ((T y).sp q)).set q ((T q).sl y)) s it root n->W.cell? ⟨x,6,none⟩=some (ptr q)/\W.cell? ⟨it,2,none⟩=some (ptr s):=λW h=>by have:=(h.tw.cells hr.dx).2.2.2.2.2.1;rw[NM.set_ne _ _ bw,NM.set_ne _ _ RJ,hr.p]at this;exact⟨this,h.cells.2.2.1⟩
 have Hv:∀W W3 T3,TI S w0 W D ((T.set y ((T y).sp q)).set q ((T q).sl y)) s it root n->TW S w0 W3 D T3 s->zq D W W3->TI S w0 W3 D T3 s it root n/\W3.cell? ⟨x,6,none⟩=some (ptr (T3 x).p)/\W3.frozen? ⟨x,6,none⟩=false:=λW W3 T3 h h3 hm=>by exact⟨h.frame h3 (hm.block _ (World.block_lt_of_cell? W _ h.cells.1) h.nd),(h3.cells hr.dx).2.2.2.2.2.1,h3.frozen hr.dx 6⟩
 have MQ:=hid rU;clear rU;have pj:=hid Hv;clear Hv;have Nr:=hid S9;clear S9;have H2:=hid h2;clear h2;have HD:=hid hd;clear hd;have Ce:=hid hr.dx;clear hw hr hu h1 hU;go_enter func250,ntmps250;go_wp2;go_quiet (fail);go_wp2;have hW:=H2.out nq;generalize((w.setCell {block:=y,off:=6} (ptr q)).drewN nq).setCell {block:=q,off:=4} (ptr y)=W at hW⊢;obtain⟨y1,y2⟩:=MQ.out W hW;have HW:=hid hW;clear hW;clear x6 y6 q4 q5 q6 xf yf qf i0 i2 if0 pN sk;go_still_tail 8,(by kernel_rfl);go_wp2_with (go_at_call 229;go_must (refine(Nr.out _ HW.out.drew).mono ?_);rintro e w3 ⟨rfl,T3,h3,nD,r6⟩;obtain⟨f1,f2,f3⟩:=pj.out _ _ _ HW.out.drew h3 r6;have F1:=hid f1;have Cf:=hid nD;clear h3 nD r6 f1);go_returns;exact⟨rfl,_,F1.out.setP Ce.out y,HD.out T3 Cf.out⟩
theorem V2{w:World}{s root i:Nat}{n:Int}{r:Tr}{k:List Fr}(hw:TI S w0 w D T s it root n)(hr:RP T s root q x y D (.R i r::k)):
  Calls prog 250 #[ptr it,ptr x,ptr y] w λe w'=>e=.returned (.tuple #[])/\∃T',TI S w0 w' D T' s it root n/\We T T' s root q x y (.R i r::k):=by
 obtain⟨wn,N3,lA,I0,AD,MO,q',ml,mr,hU⟩:=hr.consR;subst wn;obtain⟨hu,hd⟩:=hU _ rfl;have RJ:=hr.xy;have E4:=Ne.symm RJ;have bw:=Ne.symm I0;have hyq:=Ne.symm AD;obtain⟨_,_,_,_,_,x6,_⟩:=hw.tw.cells hr.dx;rw[hr.p]at x6;obtain⟨_,_,_,_,_,y6,_⟩:=hw.tw.cells hr.dy;obtain⟨_,_,_,q4,q5,q6,_⟩:=hw.tw.cells lA;have xf:=hw.tw.frozen hr.dx 6;have yf:=hw.tw.frozen hr.dy 6;have qf:=hw.tw.frozen lA 5;obtain⟨i0,_,i2,if0,_⟩:=hw.cells;have Nv:it≠x:=λe=>hw.nd (by rw[e];exact hr.dx);have wE:it≠y:=λe=>hw.nd (by rw[e];exact hr.dy);have AE:it≠q:=λe=>hw.nd (by rw[e];exact lA);have E7:=Ne.symm Nv;have E8:=Ne.symm wE;have n0:=Ne.symm AE;have h1:=hw.setP hr.dy q;have e1:(T.set y ((T y).sp q)) q=T q:=NM.set_ne _ _ AD;have h2:=λm=>(h1.drewN m).setR lA y;rw[e1]at h2;have S9:∀W,TI S w0 W D ((T.set y ((T y).sp q)).set q ((T q).sr y)) s it root n->_:=λW h=>xA h.tw hu
 have pN:=λm=>h1.tw.eql (a:=q) (b:=s) (Or.inr lA) (Or.inl rfl) m;rw[decide_eq_false N3]at pN;have AF:(T q).l=s\/D (T q).l:=by
  have:=hr.cx;obtain⟨e1,_,_,e4,_⟩:=this;rcases e4.root with e|e
  ·exact Or.inl e
  ·exact Or.inr (hr.dk _ (qv.2 (Or.inr (Or.inl e))))
 have sk:=λm=>h1.tw.eql (a:=x) (b:=(T q).l) (Or.inr hr.dx) AF m;rw[decide_eq_false (λe=>MO e.symm)]at sk;have rU:∀W,TI S w0 W D ((T.set y ((T y).sp q)).set q ((T q).sr y)) s it root n->W.cell? ⟨x,6,none⟩=some (ptr q)/\W.cell? ⟨it,2,none⟩=some (ptr s):=λW h=>by have:=(h.tw.cells hr.dx).2.2.2.2.2.1;rw[NM.set_ne _ _ bw,NM.set_ne _ _ RJ,hr.p]at this;exact⟨this,h.cells.2.2.1⟩
 have Hv:∀W W3 T3,TI S w0 W D ((T.set y ((T y).sp q)).set q ((T q).sr y)) s it root n->TW S w0 W3 D T3 s->zq D W W3->TI S w0 W3 D T3 s it root n/\W3.cell? ⟨x,6,none⟩=some (ptr (T3 x).p)/\W3.frozen? ⟨x,6,none⟩=false:=λW W3 T3 h h3 hm=>by exact⟨h.frame h3 (hm.block _ (World.block_lt_of_cell? W _ h.cells.1) h.nd),(h3.cells hr.dx).2.2.2.2.2.1,h3.frozen hr.dx 6⟩
 have MQ:=hid rU;clear rU;have pj:=hid Hv;clear Hv;have Nr:=hid S9;clear S9;have H2:=hid h2;clear h2;have HD:=hid hd;clear hd;have Ce:=hid hr.dx;clear hw hr hu h1 hU AF;go_enter func250,ntmps250;go_wp2;go_quiet (fail);go_wp2;have hW:=H2.out nq;generalize((w.setCell {block:=y,off:=6} (ptr q)).drewN nq).setCell {block:=q,off:=5} (ptr y)=W at hW⊢;obtain⟨y1,y2⟩:=MQ.out W hW;have HW:=hid hW;clear hW;clear x6 y6 q4 q5 q6 xf yf qf i0 i2 if0 pN sk;go_still_tail 8,(by kernel_rfl);go_wp2_with (go_at_call 229;go_must (refine(Nr.out _ HW.out.drew).mono ?_);rintro e w3 ⟨rfl,T3,h3,nD,r6⟩;obtain⟨f1,f2,f3⟩:=pj.out _ _ _ HW.out.drew h3 r6;have F1:=hid f1;have Cf:=hid nD;clear h3 nD r6 f1);go_returns;exact⟨rfl,_,F1.out.setP Ce.out y,HD.out T3 Cf.out⟩
theorem xa{w:World}{s root:Nat}{n:Int}{k:List Fr}(hw:TI S w0 w D T s it root n)(hr:RP T s root q x y D k):
  Calls prog 250 #[ptr it,ptr x,ptr y] w λe w'=>e=.returned (.tuple #[])/\∃T' root',TI S w0 w' D T' s it root' n/\We T T' s root' q x y k:=by
 cases k with
 |nil=>exact(J6 hw hr).mono λ_ _ ⟨h1,T',h2,h3⟩=>⟨h1,T',_,h2,h3⟩
 |cons f k=>
  cases f with
  |L i r=>exact(V1 hw hr).mono λ_ _ ⟨h1,T',h2,h3⟩=>⟨h1,T',_,h2,h3⟩
  |R i r=>exact(V2 hw hr).mono λ_ _ ⟨h1,T',h2,h3⟩=>⟨h1,T',_,h2,h3⟩
theorem xP{w:World}{s root root0:Nat}{n:Int}{k:List Fr}(hw:TI S w0 w D T s it root0 n)(hu:U T s root q x D k ml mr):
  Calls prog 229 #[ptr x,ptr s] w λe w'=>e=.returned (.tuple #[])/\∃T',TI S w0 w' D T' s it root0 n/\jC T T' x k (xN (T x).e.1 ml mr):=
 (xA hw.tw hu).mono λ_ _ ⟨h1,T',h2,h3,h4⟩=>⟨h1,T',hw.frame h2 (h4.block _ (World.block_lt_of_cell? w _ hw.cells.1) hw.nd),h3⟩
theorem YI{w:World}{s root:Nat}{n:Int}{k:List Fr}{a b c:Tr}(hw:TI S w0 w D T s it root n)(hg:TG T s root q x D k (.node x a (.node y b c))):
  Calls prog 248 #[ptr it,ptr x] w λe w'=>e=.returned (.tuple #[])/\∃T' root',TI S w0 w' D T' s it root' n/\TG T' s root' q y D k (.node y (.node x a b) c)/\∀i,ZV (T i) (T' i):=by
 obtain⟨bA,SM,Tq,RJ,dx,dy,N2,wB,Hi⟩:=hg.rotL;have Ht:=Ne.symm SM;have Nw:=Ne.symm Tq;have E4:=Ne.symm RJ;obtain⟨_,_,_,x4,x5,x6,_⟩:=hw.tw.cells dx;obtain⟨_,_,_,y4,y5,y6,_⟩:=hw.tw.cells dy;rw[bA]at x5;have xf:=hw.tw.frozen dx 5;obtain⟨_,_,i2,_,_⟩:=hw.cells;have Nv:it≠x:=λe=>hw.nd (by rw[e];exact dx);have wE:it≠y:=λe=>hw.nd (by rw[e];exact dy);have E7:=Ne.symm Nv;have E8:=Ne.symm wE;have Nx:=λm=>hw.tw.eql (a:=y) (b:=s) (Or.inr dy) (Or.inl rfl) m;rw[decide_eq_false Tq]at Nx;have aX:∃T1,T1=(if (T y).l=s then T.set x ((T x).sr (T y).l)else (T.set x ((T x).sr (T y).l)).set (T y).l ((T (T y).l).sp x)):=⟨_,rfl⟩;obtain⟨T1,rQ⟩:=aX;obtain⟨nC,Re⟩:=Hi T1 rQ;have r8:∀W,TI S w0 W D T1 s it root n->Calls prog 229 #[ptr x,ptr s] W λe w'=>e=.returned (.tuple #[])/\∃T2,TI S w0 w' D T2 s it root n/\RP T2 s root q x y D k/\
   ∀T4 root',We T2 T4 s root' q x y k->U (T4.set y ((T4 y).sl x)) s root' q y D k (some ((T4.set y ((T4 y).sl x)) x).mx.1) (jb T c)/\
    ∀T6,jC (T4.set y ((T4 y).sl x)) T6 y k (xN ((T4.set y ((T4 y).sl x)) y).e.1 (some ((T4.set y ((T4 y).sl x)) x).mx.1) (jb T c))->TG T6 s root' q y D k (.node y (.node x a b) c)/\(∀i,ZV (T i) (T6 i)):=
  λW h=>(xP h nC).mono λ_ _ ⟨h1,T2,h2,h3⟩=>⟨h1,T2,h2,(Re T2 h3).1,λT4 root' h4=>(Re T2 h3).2 T4 root' h4 _ rfl⟩
 have Tg:=hid r8;clear r8;have AG:=hid dy;have wF:Hid (∀W T4 root',TI S w0 W D T4 s it root' n->W.cell? ⟨it,2,none⟩=some (ptr s)/\W.cell? ⟨y,4,none⟩=some (ptr (T4 y).l)/\W.frozen? ⟨y,4,none⟩=false):=hid λW T4 root' h=>⟨h.cells.2.2.1,(h.tw.cells dy).2.2.2.1,h.tw.frozen dy 4⟩;have Hh:=λm=>(hw.drewN m).setR dx (T y).l;rcases N2 with PY|⟨dl,mh,I_,PY⟩
 ·have Ng:=λm m2=>((Hh m).tw.neq (a:=(T y).l) (b:=s) (Or.inl PY) (Or.inl rfl) m2);rw[decide_eq_true PY]at Ng;rw[if_pos PY]at rQ;rw[<-rQ]at Hh;rw[PY]at y4 Ng Hh;have Pr:=hid Hh;clear Hh;clear hw hg Hi Re nC rQ;go_enter func248,ntmps248;go_wp2;go_quiet (fail);go_wp2;go_quiet (fail);go_wp2_with fail;refine(Tg.out _ ((Pr.out _).drewN _)).mono ?_;rintro e w2 ⟨rfl,T2,g1,g2,g3⟩;have HR:=hid (xa g1 g2);have G3:=hid g3;obtain⟨j2,_,_⟩:=wF.out _ _ _ g1;clear g1 g2 g3 x4 x5 x6 y4 y5 y6 xf i2 Nx Ng;go_wp2_with fail;refine HR.out.mono ?_;rintro e w4 ⟨rfl,T4,root',k1,k2⟩;obtain⟨lB,rA⟩:=G3.out T4 root' k2;obtain⟨l2,l4,lf⟩:=wF.out _ _ _ k1;have RT:=hid (xP (k1.setL AG.out x) lB);have Ny:=hid rA;clear k1 k2 lB rA j2;go_wp2_with fail;refine RT.out.mono ?_;rintro e w6 ⟨rfl,T6,m1,m2⟩;have M1:=hid m1;have M2:=hid (Ny.out T6 m2);clear m1 m2;go_wp2;go_returns;exact⟨rfl,T6,root',M1.out,M2.out⟩
 ·have Ng:=λm m2=>((Hh m).tw.neq (a:=(T y).l) (b:=s) (Or.inr dl) (Or.inl rfl) m2);rw[decide_eq_false PY]at Ng;rw[if_neg PY]at rQ;have PO:=λm m2=>(((Hh m).drewN m2).setP dl x);rw[NM.set_ne _ _ mh]at PO;rw[<-rQ]at PO;obtain⟨_,_,_,_,_,l6,_⟩:=hw.tw.cells dl;have lf:=hw.tw.frozen dl 6;have oa:(T y).l≠it:=λe=>hw.nd (by rw[<-e];exact dl);have Sz:=Ne.symm oa;have RQ:=Ne.symm mh;have oe:=Ne.symm I_;have Pr:=hid PO;clear PO;clear hw hg Hi Re nC rQ Hh;generalize(T y).l=bl at*
  go_enter func248,ntmps248;go_wp2;go_quiet (fail);go_wp2;go_quiet (fail);go_wp2_with fail;refine(Tg.out _ (Pr.out _ _)).mono ?_;rintro e w2 ⟨rfl,T2,g1,g2,g3⟩;have HR:=hid (xa g1 g2);have G3:=hid g3;obtain⟨j2,_,_⟩:=wF.out _ _ _ g1;clear g1 g2 g3 x4 x5 x6 y4 y5 y6 xf i2 Nx Ng l6 lf;go_wp2_with fail;refine HR.out.mono ?_;rintro e w4 ⟨rfl,T4,root',k1,k2⟩;obtain⟨lB,rA⟩:=G3.out T4 root' k2;obtain⟨l2,l4,lf⟩:=wF.out _ _ _ k1;have RT:=hid (xP (k1.setL AG.out x) lB);have Ny:=hid rA;clear k1 k2 lB rA j2;go_wp2_with fail;refine RT.out.mono ?_;rintro e w6 ⟨rfl,T6,m1,m2⟩;have M1:=hid m1;have M2:=hid (Ny.out T6 m2);clear m1 m2;go_wp2;go_returns;exact⟨rfl,T6,root',M1.out,M2.out⟩
theorem YJ{w:World}{s root:Nat}{n:Int}{k:List Fr}{a b c:Tr}(hw:TI S w0 w D T s it root n)(hg:TG T s root q x D k (.node x (.node y c b) a)):
  Calls prog 249 #[ptr it,ptr x] w λe w'=>e=.returned (.tuple #[])/\∃T' root',TI S w0 w' D T' s it root' n/\TG T' s root' q y D k (.node y c (.node x b a))/\∀i,ZV (T i) (T' i):=by
 obtain⟨bA,SM,Tq,RJ,dx,dy,N2,wB,Hi⟩:=hg.rotR;have Ht:=Ne.symm SM;have Nw:=Ne.symm Tq;have E4:=Ne.symm RJ;obtain⟨_,_,_,x4,x5,x6,_⟩:=hw.tw.cells dx;obtain⟨_,_,_,y4,y5,y6,_⟩:=hw.tw.cells dy;rw[bA]at x4;have xf:=hw.tw.frozen dx 4;obtain⟨_,_,i2,_,_⟩:=hw.cells;have Nv:it≠x:=λe=>hw.nd (by rw[e];exact dx);have wE:it≠y:=λe=>hw.nd (by rw[e];exact dy);have E7:=Ne.symm Nv;have E8:=Ne.symm wE;have Nx:=λm=>hw.tw.eql (a:=y) (b:=s) (Or.inr dy) (Or.inl rfl) m;rw[decide_eq_false Tq]at Nx;have aX:∃T1,T1=(if (T y).r=s then T.set x ((T x).sl (T y).r)else (T.set x ((T x).sl (T y).r)).set (T y).r ((T (T y).r).sp x)):=⟨_,rfl⟩;obtain⟨T1,rQ⟩:=aX;obtain⟨nC,Re⟩:=Hi T1 rQ;have r8:∀W,TI S w0 W D T1 s it root n->Calls prog 229 #[ptr x,ptr s] W λe w'=>e=.returned (.tuple #[])/\∃T2,TI S w0 w' D T2 s it root n/\RP T2 s root q x y D k/\
   ∀T4 root',We T2 T4 s root' q x y k->U (T4.set y ((T4 y).sr x)) s root' q y D k (jb T c) (some ((T4.set y ((T4 y).sr x)) x).mx.1)/\
    ∀T6,jC (T4.set y ((T4 y).sr x)) T6 y k (xN ((T4.set y ((T4 y).sr x)) y).e.1 (jb T c) (some ((T4.set y ((T4 y).sr x)) x).mx.1))->TG T6 s root' q y D k (.node y c (.node x b a))/\(∀i,ZV (T i) (T6 i)):=
  λW h=>(xP h nC).mono λ_ _ ⟨h1,T2,h2,h3⟩=>⟨h1,T2,h2,(Re T2 h3).1,λT4 root' h4=>(Re T2 h3).2 T4 root' h4 _ rfl⟩
 have Tg:=hid r8;clear r8;have AG:=hid dy;have wF:Hid (∀W T4 root',TI S w0 W D T4 s it root' n->W.cell? ⟨it,2,none⟩=some (ptr s)/\W.cell? ⟨y,5,none⟩=some (ptr (T4 y).r)/\W.frozen? ⟨y,5,none⟩=false):=hid λW T4 root' h=>⟨h.cells.2.2.1,(h.tw.cells dy).2.2.2.2.1,h.tw.frozen dy 5⟩;have Hh:=λm=>(hw.drewN m).setL dx (T y).r;rcases N2 with PY|⟨dl,mh,I_,PY⟩
 ·have Ng:=λm m2=>((Hh m).tw.neq (a:=(T y).r) (b:=s) (Or.inl PY) (Or.inl rfl) m2);rw[decide_eq_true PY]at Ng;rw[if_pos PY]at rQ;rw[<-rQ]at Hh;rw[PY]at y5 Ng Hh;have Pr:=hid Hh;clear Hh;clear hw hg Hi Re nC rQ;go_enter func249,ntmps249;go_wp2;go_quiet (fail);go_wp2;go_quiet (fail);go_wp2_with fail;refine(Tg.out _ ((Pr.out _).drewN _)).mono ?_;rintro e w2 ⟨rfl,T2,g1,g2,g3⟩;have HR:=hid (xa g1 g2);have G3:=hid g3;obtain⟨j2,_,_⟩:=wF.out _ _ _ g1;clear g1 g2 g3 x4 x5 x6 y4 y5 y6 xf i2 Nx Ng;go_wp2_with fail;refine HR.out.mono ?_;rintro e w4 ⟨rfl,T4,root',k1,k2⟩;obtain⟨lB,rA⟩:=G3.out T4 root' k2;obtain⟨l2,l4,lf⟩:=wF.out _ _ _ k1;have RT:=hid (xP (k1.setR AG.out x) lB);have Ny:=hid rA;clear k1 k2 lB rA j2;go_wp2_with fail;refine RT.out.mono ?_;rintro e w6 ⟨rfl,T6,m1,m2⟩;have M1:=hid m1;have M2:=hid (Ny.out T6 m2);clear m1 m2;go_wp2;go_returns;exact⟨rfl,T6,root',M1.out,M2.out⟩
 ·have Ng:=λm m2=>((Hh m).tw.neq (a:=(T y).r) (b:=s) (Or.inr dl) (Or.inl rfl) m2);rw[decide_eq_false PY]at Ng;rw[if_neg PY]at rQ;have PO:=λm m2=>(((Hh m).drewN m2).setP dl x);rw[NM.set_ne _ _ mh]at PO;rw[<-rQ]at PO;obtain⟨_,_,_,_,_,l6,_⟩:=hw.tw.cells dl;have lf:=hw.tw.frozen dl 6;have oa:(T y).r≠it:=λe=>hw.nd (by rw[<-e];exact dl);have Sz:=Ne.symm oa;have RQ:=Ne.symm mh;have oe:=Ne.symm I_;have Pr:=hid PO;clear PO;clear hw hg Hi Re nC rQ Hh;generalize(T y).r=bl at*
  go_enter func249,ntmps249;go_wp2;go_quiet (fail);go_wp2;go_quiet (fail);go_wp2_with fail;refine(Tg.out _ (Pr.out _ _)).mono ?_;rintro e w2 ⟨rfl,T2,g1,g2,g3⟩;have HR:=hid (xa g1 g2);have G3:=hid g3;obtain⟨j2,_,_⟩:=wF.out _ _ _ g1;clear g1 g2 g3 x4 x5 x6 y4 y5 y6 xf i2 Nx Ng l6 lf;go_wp2_with fail;refine HR.out.mono ?_;rintro e w4 ⟨rfl,T4,root',k1,k2⟩;obtain⟨lB,rA⟩:=G3.out T4 root' k2;obtain⟨l2,l4,lf⟩:=wF.out _ _ _ k1;have RT:=hid (xP (k1.setR AG.out x) lB);have Ny:=hid rA;clear k1 k2 lB rA j2;go_wp2_with fail;refine RT.out.mono ?_;rintro e w6 ⟨rfl,T6,m1,m2⟩;have M1:=hid m1;have M2:=hid (Ny.out T6 m2);clear m1 m2;go_wp2;go_returns;exact⟨rfl,T6,root',M1.out,M2.out⟩
theorem TG.whole{s root:Nat}:∀{k:List Fr} {t:Tr} {q x:Nat},TG T s root q x D k t->TG T s root s root D [] (vL k t)
 |[],t,q,x,h=>by have:=h.cx;obtain⟨rfl,rfl⟩:=this;exact h
 |f::k,t,q,x,h=>h.up.2.whole
def qR(T T':NM):Prop:=∀i,(T' i).b=(T i).b/\(T' i).e=(T i).e
theorem qR.refl(T:NM):qR T T:=λ_=>⟨rfl,rfl⟩
theorem qR.trans{a b c:NM}(h:qR a b)(k:qR b c):qR a c:=λi=>⟨(k i).1.trans (h i).1,(k i).2.trans (h i).2⟩
theorem qR.onlyC(h:xx T T'):qR T T':=λi=>⟨(h i).1,(h i).2.1⟩
theorem qR.bec(h:∀i,ZV (T i) (T' i)):qR T T':=λi=>⟨(h i).1,(h i).2.1⟩
structure Kin(T:NM)(s z p g:Nat)(D:Nat->Prop)(k:List Fr):Prop where
 zp:(T z).p=p
 pg:(T p).p=g
 ne:z≠p/\z≠g/\p≠g/\z≠s/\p≠s/\g≠s
 d:D z/\D p/\D g
 sp:p∉qC k/\g∉qC k
theorem TG.kin{s root:Nat}{g:Fr}{k:List Fr}{l r:Tr}(h:TG T s root q z D (f::g::k) (.node z l r)):Kin T s z f.i g.i D k:=by
 have h1:=h.up;have h2:=h1.2.up;have zz:z∈(Tr.node z l r).ids:=by simp[Tr.ids]
 have pp:f.i∈zC (f::g::k):=by simp[zC]
 have gg:g.i∈zC (f::g::k):=by simp[zC]
 obtain⟨n1,n2,n3⟩:=z_ h.nd;have og:zC (f::g::k)=f.i::f.sib.ids++zC (g::k):=rfl;have t_:zC (g::k)=g.i::g.sib.ids++zC k:=rfl;rw[og]at n2;obtain⟨m1,m2,m3⟩:=z_ n2;rw[t_]at m2;obtain⟨o1,o2,o3⟩:=z_ m2;have pg:f.i≠g.i:=λe=>m3 f.i (by simp) (by rw[t_,e];simp);refine⟨?_,h2.1,⟨λe=>n3 z zz (by rw[e];exact pp),λe=>n3 z zz (by rw[e];exact gg),pg,h.is.ne z zz,h.cx.ne _ pp,h.cx.ne _ gg⟩,⟨h.dk z (by simp[zz]),h.dk _ (by simp[pp]),h.dk _ (by simp[gg])⟩,λe=>m3 f.i (by simp) (by rw[t_];simp[zo e]),λe=>o3 g.i (by simp) (zo e)⟩;rw[<-h1.1];exact h.is.2.2.1
theorem TG.uncle{s root:Nat}{g:Fr}{k:List Fr}{l r:Tr}(h:TG T s root q z D (f::g::k) (.node z l r))(u:Nat)(hu:u=s\/u∈g.sib.ids)(hs:u≠s):D u/\u≠z/\u≠f.i/\u≠g.i/\u∉qC k:=by
 have hu:=hu.resolve_left hs;have uu:u∈zC (f::g::k):=by simp[zC,hu]
 obtain⟨n1,n2,n3⟩:=z_ h.nd;have og:zC (f::g::k)=f.i::f.sib.ids++zC (g::k):=rfl;have t_:zC (g::k)=g.i::g.sib.ids++zC k:=rfl;rw[og]at n2;obtain⟨m1,m2,m3⟩:=z_ n2;rw[t_]at m2;obtain⟨o1,o2,o3⟩:=z_ m2;rw[List.nodup_cons]at o1;exact⟨h.dk u (by simp[uu]),λe=>n3 z (by simp[Tr.ids]) (by rw[<-e];exact uu),λe=>m3 f.i (by simp) (by rw[t_,<-e];simp[hu]),λe=>o1.1 (e▸hu),λe=>o3 u (by simp[hu]) (zo e)⟩
theorem TG.turnR{T5 T6:NM}{s root root' q' p g:Nat}{k:List Fr}{l r b u:Tr}(h:TG T s root q z D (.L p b::.L g u::k) (.node z l r))(Py:(T root).c=false)
  (h5:T5=(T.set p ((T p).sc false)).set g ((T g).sc true))(h6:TG T6 s root' q' p D k (.node p (.node z l r) (.node g b u)))(hb:∀i,ZV (T5 i) (T6 i)):
  FX T6 s root' z D (.L p (.node g b u)::k) l r:=by
 obtain⟨_,hd⟩:=h6.downL;have hz:=hd.is.1;rw[hz]at hd;have kin:Kin T s z p g D k:=h.kin;obtain⟨_,_,npg,_,_,_⟩:=kin.ne;have c5p:(T5 p).c=false:=by rw[h5,NM.set_ne _ _ npg,NM.set_same]
 refine⟨⟨_,hd⟩,λ_=> ?_⟩;rw[(hb root').2.2];by_cases hk:k=[]
 ·subst hk;have:=h6.cx.1;rw[this];exact c5p
 ·have hr:=(h.up.2.up.2).cx.root_eq h6.cx hk;have hm:=(h.up.2.up.2).cx.root_mem hk;rw[hr,h5,NM.set_ne _ _ (λe:root=g=>kin.sp.2 (e▸hm)),NM.set_ne _ _ (λe:root=p=>kin.sp.1 (e▸hm))];exact Py
theorem TG.turnL{T5 T6:NM}{s root root' q' p g:Nat}{k:List Fr}{l r b u:Tr}(h:TG T s root q z D (.R p b::.R g u::k) (.node z l r))(Py:(T root).c=false)
  (h5:T5=(T.set p ((T p).sc false)).set g ((T g).sc true))(h6:TG T6 s root' q' p D k (.node p (.node g u b) (.node z l r)))(hb:∀i,ZV (T5 i) (T6 i)):
  FX T6 s root' z D (.R p (.node g u b)::k) l r:=by
 obtain⟨_,hd⟩:=h6.downR;have hz:=hd.is.1;rw[hz]at hd;have kin:Kin T s z p g D k:=h.kin;obtain⟨_,_,npg,_,_,_⟩:=kin.ne;have c5p:(T5 p).c=false:=by rw[h5,NM.set_ne _ _ npg,NM.set_same]
 refine⟨⟨_,hd⟩,λ_=> ?_⟩;rw[(hb root').2.2];by_cases hk:k=[]
 ·subst hk;have:=h6.cx.1;rw[this];exact c5p
 ·have hr:=(h.up.2.up.2).cx.root_eq h6.cx hk;have hm:=(h.up.2.up.2).cx.root_mem hk;rw[hr,h5,NM.set_ne _ _ (λe:root=g=>kin.sp.2 (e▸hm)),NM.set_ne _ _ (λe:root=p=>kin.sp.1 (e▸hm))];exact Py
theorem Xx(k:List Fr)(z p g:Nat)(l r b u:Tr):(vL (.L p (.node g b u)::k) (.node z l r)).ids=(vL (.L p b::.L g u::k) (.node z l r)).ids:=by simp only[jQ,Jh,Ji,Tr.ids];simp
theorem Xy(k:List Fr)(z p g:Nat)(l r b u:Tr):(vL (.R p (.node g u b)::k) (.node z l r)).ids=(vL (.R p b::.R g u::k) (.node z l r)).ids:=by simp only[jQ,Jh,Ji,Tr.ids];simp
theorem za6(k:List Fr)(z p:Nat)(l r a:Tr)(f:Fr):(vL (.L z r::f::k) (.node p a l)).ids=(vL (.R p a::f::k) (.node z l r)).ids:=by cases f<;>(simp only[jQ,Jh,Ji,Tr.ids];simp)
theorem za7(k:List Fr)(z p:Nat)(l r a:Tr)(f:Fr):(vL (.R z l::f::k) (.node p r a)).ids=(vL (.L p a::f::k) (.node z l r)).ids:=by cases f<;>(simp only[jQ,Jh,Ji,Tr.ids];simp)
variable{rest:Bytes}
theorem zcw{w:World}{f:Nat}(hr:r.le w.cell?)(wN:0<f)(hf:f<16)(hk:k<128)(h:Bs r ((jl.I f k).enc++rest) v):
  Calls prog 306 #[v,.int .i64 0] w λe w'=>∃v',e=.returned (.tuple #[.agg #[.int .i64 f,.bool false,.int .i64 k,.slice none 0 0],v',.bool true])/\za w w'/\Bs r rest v':=by
 have h:Bs r (yZ (f*8)++(yZ k++rest)) v:=by simpa[jl.enc,List.append_assoc]using h
 have H1:Hid (∀W,r.le W.cell? ->Calls prog 307 #[v] W λe w'=>∃v' m,e=.returned (.tuple #[.int .u64 ((f:Int)*8),v',.bool true])/\w'=W.drewN m/\Bs r (yZ k++rest) v'):=hid λW hW=>by have:=xR (w:=W) hW (k:=f*8) (by omega) h;rw[show((f*8:Nat):Int)=(f:Int)*8 by omega]at this;exact this
 have H2:Hid (∀W u,r.le W.cell? ->Bs r (yZ k++rest) u->Calls prog 307 #[u] W λe w'=>∃v' m,e=.returned (.tuple #[.int .u64 k,v',.bool true])/\w'=W.drewN m/\Bs r rest v'):=hid λW u hW hu=>xR hW (by omega) hu;have wO:=(XD hf).2;obtain⟨p,n,c,rfl,_⟩:=h.shape;have hR:=hid hr;clear hr h;have oF:(0:Int)<f:=by omega
 have oG:(f:Int)<=15:=by omega
 have oz: ¬(536870911:Int)<f:=by omega
 have MS:((f:Int)==0)=false:=by simp;omega
 have RI:((f:Int)*8)/8=f:=by omega
 have LL:IntKind.i64.wrap (k:Int)=k:=by rw[IntKind.wrap_i64];omega
 have hwf:IntKind.i64.wrap (f:Int)=f:=by rw[IntKind.wrap_i64];omega
 go_enter func306,ntmps306;go_wp2_with fail;refine(H1.out _ (hR.out.le_trans (za.le ((za.refl w).alloc _)))).mono ?_;rintro e w1 ⟨v1,m1,rfl,rfl,g1⟩;obtain⟨p1,n1,c1,rfl,_⟩:=g1.shape;have G1:=hid g1;clear g1;go_wp2_with fail
 all_goals first|(exfalso;omega)|skip
 refine(H2.out _ _ (hR.out.le_trans (za.le (((za.refl w).alloc _).drewN _))) G1.out).mono ?_;rintro e w2 ⟨v2,m2,rfl,rfl,g2⟩;obtain⟨p2,n2,c2,rfl,_⟩:=g2.shape;have B7:za w ((w.alloc (.cells #[.int .i64 0,.bool false,.int .i64 0,.slice none 0 0] 488)).drewN (m1+m2)):=((za.refl w).alloc _).drewN _;have R8:((w.alloc (.cells #[.int .i64 0,.bool false,.int .i64 0,.slice none 0 0] 488)).drewN (m1+m2)).heap[w.heap.size]? =some (.cells #[.int .i64 0,.bool false,.int .i64 0,.slice none 0 0] 488 (0,0)):=zg w _;have G2:=hid g2;clear g2;go_wp2_with fail
 all_goals first|(exfalso;omega)|skip
 generalize(w.alloc (.cells #[.int .i64 0,.bool false,.int .i64 0,.slice none 0 0] 488)).drewN (m1+m2)=W at B7 R8⊢;obtain⟨w6,Sc⟩:=zex ((((W.setCell ⟨w.heap.size,0,none⟩ (.int .i64 f)).setCell ⟨w.heap.size,1,none⟩ (.bool false)).setCell ⟨w.heap.size,2,none⟩ (.int .i64 k)).setCell ⟨w.heap.size,3,none⟩ (.slice none 0 0));rw[<-Sc];have Tb:=zcu R8 Sc;obtain⟨r0,r1,r2,r3,_⟩:=kX Tb;have tZ:za w w6:=zq.trans B7 (KS Sc) λj hj e=>by omega
 refine bodyPost_ret (by simp[results,results306,go_sem,r0,r1,r2,r3];try rfl) rfl ?_;exact⟨_,rfl,tZ,G2.out⟩
def Yv(w w':World)(f:jl)(u:Value):Prop:=match f with
 |.B k x=>∃bv,u=.agg #[.int .i64 k,.bool true,.int .i64 0,bv]/\Bs w'.cell? x bv/\(∀b,bv.ownBlock=some b->w.heap.size<=b)
 |.I k n=>u=.agg #[.int .i64 k,.bool false,.int .i64 n,.slice none 0 0]
def uk:jl->Prop
 |.B k x=>0<k/\k<16/\x≠[]/\x.length<16384
 |.I k n=>0<k/\k<16/\n<128
theorem Wp{w:World}{f:jl}(hr:r.le w.cell?)(hf:uk f)(h:Bs r (f.enc++rest) v):
  Calls prog 306 #[v,.int .i64 0] w λe w'=>∃u v',e=.returned (.tuple #[u,v',.bool true])/\za w w'/\Bs r rest v'/\Yv w w' f u:=by
 cases f with
 |B k x=>exact(zcv hr hf.1 hf.2.1 hf.2.2.1 hf.2.2.2 h).mono λe w' ⟨bv,v',h1,h2,h3,h4,h5⟩=>⟨_,v',h1,h2,h3,bv,rfl,h4,h5⟩
 |I k n=>exact(zcw hr hf.1 hf.2.1 hf.2.2 h).mono λe w' ⟨v',h1,h2,h3⟩=>⟨_,v',h1,h2,h3,rfl⟩
theorem Yv.shape{w:World}{f:jl}{u:Value}(h:Yv w w' f u):∃(a:Int) (b:Bool) (c:Int) (p:Option Addr) (n k:Nat),u=.agg #[.int .i64 a,.bool b,.int .i64 c,.slice p n k]:=by
 cases f with
 |B k x=>obtain⟨bv,h,hb,_⟩:=h;obtain⟨p,n,c,rfl,_⟩:=hb.shape;exact⟨_,_,_,_,_,_,h⟩
 |I k n=>exact⟨_,_,_,_,_,_,h⟩
variable{w1:World}
theorem Yv.mono{w0 w:World}{f:jl}{u:Value}(h:Yv w w0 f u)(hs:w1.heap.size<=w.heap.size)(hm:za w0 w'):Yv w1 w' f u:=by
 cases f with
 |B k x=>obtain⟨bv,h,hb,hf⟩:=h;exact⟨bv,h,hb.mono hm.le,λb hb=>Nat.le_trans hs (hf b hb)⟩
 |I k n=>exact h
theorem KT{w:World}{f:jl}(hr:r.le w.cell?)(hf:uk f)(h:Bs r (f.enc++rest) v):
  Calls prog 305 #[v] w λe w'=>∃u v',e=.returned (.tuple #[u,v',.bool true])/\za w w'/\Bs r rest v'/\Yv w w' f u:=by
 have H1:Hid (∀W,r.le W.cell? ->Calls prog 306 #[v,.int .i64 0] W λe w'=>∃u v',e=.returned (.tuple #[u,v',.bool true])/\za W w'/\Bs r rest v'/\Yv W w' f u):=hid λW hW=>Wp hW hf h;obtain⟨p,n,c,rfl,_⟩:=h.shape;have hR:=hid hr;clear hr h;go_enter func305,ntmps305;go_wp2_with fail;refine(H1.out _ (hR.out.le_trans (za.le ((za.refl w).alloc _)))).mono ?_;rintro e w1 ⟨u,v1,rfl,hQ,g1,g2⟩;obtain⟨a,b,d,px,nx,cx,rfl⟩:=g2.shape;obtain⟨p1,n1,c1,rfl,_⟩:=g1.shape;have Ps:w1.heap[w.heap.size]? =some (.cells #[.int .i64 0,.bool false,.int .i64 0,.slice none 0 0] 488 (0,0)):=hQ.heap (zg w _);obtain⟨q0,q1,q2,q3,f0,f1,f2,f3⟩:=kX Ps;have Hs:=hid hQ;have G1:=hid g1;have G2:=hid g2;have tD:=hid Ps;clear g1 g2 hQ Ps;go_wp2_with fail
 obtain⟨w6,Sc⟩:=zex ((((w1.setCell ⟨w.heap.size,0,none⟩ (.int .i64 a)).setCell ⟨w.heap.size,1,none⟩ (.bool b)).setCell ⟨w.heap.size,2,none⟩ (.int .i64 d)).setCell ⟨w.heap.size,3,none⟩ (.slice px nx cx));rw[<-Sc];have Tb:=zcu tD.out Sc;obtain⟨r0,r1,r2,r3,_⟩:=kX Tb;have PP:=KS Sc;have tZ:za w w6:=zq.trans (za.trans ((za.refl w).alloc _) Hs.out) PP λj hj e=>by omega
 refine bodyPost_ret (by simp[results,results305,go_sem,r0,r1,r2,r3];try rfl) rfl ?_;refine⟨_,_,rfl,tZ,G1.out,?_⟩;have pL:(w.alloc (.cells #[.int .i64 0,.bool false,.int .i64 0,.slice none 0 0] 488)).heap.size=w.heap.size+1:=Array.size_push ..
 have g2:=G2.out;cases f with
 |B k x=>
  obtain⟨bv,e1,hb,Pw⟩:=g2;refine⟨bv,e1,?_,λb hb=>by have:=Pw b hb;omega⟩;have h1:Bs (im (λj=>j=w.heap.size) w1) x bv:=hb.im_of λb hb e=>by have:=Pw b hb;omega
  exact(h1.mono (PP.im (S':=λj=>j=w.heap.size) λ_ _ e=>e)).mono (zd _ _)
 |I k n=>exact g2
structure ju(r:Rd)(b:Nat)(p:zh):Prop where
 kind:r ⟨b,0,none⟩=some (.int .i32 p.kind)
 key:∃v,r ⟨b,1,none⟩=some v/\Bs r p.key v
 stop:∃v,r ⟨b,2,none⟩=some v/\Bs r p.stop v
variable{p:zh}
theorem ju.mono(h:ju r b p)(hr:r.le r'):ju r' b p:=by obtain⟨h1,⟨v,h2,h3⟩,u,h4,h5⟩:=h;exact⟨hr _ _ h1,⟨v,hr _ _ h2,h3.mono hr⟩,u,hr _ _ h4,h5.mono hr⟩
structure Jm(p:zh):Prop where
 kind:p.kind<128
 key0:p.key≠[]
 key:p.key.length<=1000
 stop:p.stop.length<=1000
variable{xv:Value}
theorem Bs.lt{w:World}{x:Bytes}(h:Bs w.cell? x xv)(h0:x≠[]):∀b,xv.ownBlock=some b->b<w.heap.size:=by obtain⟨b',o,n,c,rfl,_,u,hu⟩:=h.at h0;intro b hb;simp only[Value.ownBlock,Option.some.injEq]at hb;subst hb;exact World.block_lt_of_cell? w _ hu
structure yS(w w':World)(v:Value)(l:Bytes):Prop where
 new:za w w'
 own:Yu w' v l
 ge:∀b,v.ownBlock=some b->w.heap.size<=b
theorem yS.nil(w:World):yS w w (.slice none 0 0) []:=⟨za.refl w,Yu.nil w,λb hb=>by cases hb⟩
variable{w2:World}
theorem yS.grew{w:World}{v':Value}{l l':Bytes}(h:yS w w1 v l)(ho:Yu w2 v' l')(hg:Zf w1 w2 v v'):yS w w2 v' l':=
 ⟨zq.trans h.new hg.mod λj hj e=>by have:=h.ge j e;omega,ho,λb hb=>by
  rcases hg.row b hb with e|e
  ·exact h.ge b e
  ·have:=h.new.size;omega⟩
theorem yS.apart{w:World}{l x:Bytes}(h:yS w w1 v l)(hx:Bs w.cell? x xv)(h0:x≠[]):Gq v xv:=λb hb e=>by have:=hx.lt h0 b hb;have:=h.ge b e;omega
theorem um{w:World}{l:Bytes}{f:Nat}(hf:f<16)(hk:k<128)(hl:l.length<=900000)(Ha:Yu w v l):
  Calls prog 286 #[v,.int .i64 f,.int .i64 k] w λe w'=>∃v',e=.returned v'/\Yu w' v' (l++zV (if k=0 then []else [.I f k]))/\Zf w w' v v':=by
 by_cases h0:k=0
 ·subst h0;obtain⟨p,n,c,rfl⟩:=Ha.shape;have HO:=hid Ha;clear Ha;go_enter func286,ntmps286;go_wp2;go_returns;exact⟨_,rfl,by simpa[zV]using HO.out,Zf.refl _ _⟩
 ·refine(Gr hf (by omega) hk hl Ha).mono λe w' ⟨v',h1,h2,h3⟩=>⟨v',h1,?_,h3⟩;rw[if_neg h0];simpa[zV]using h2
theorem jD{w:World}{l x:Bytes}{f:Nat}(hf:f<16)(TN:x≠[])(RQ:x.length<16384)(hl:l.length<=900000)(h:yS w w1 v l)(hx:Bs w.cell? x xv):
  Calls prog 287 #[v,.int .i64 f,xv] w1 λe w'=>∃v',e=.returned v'/\yS w w' v' (l++(jl.B f x).enc):=
 (QS hf TN RQ hl h.own (hx.mono h.new.le) (h.apart hx TN)).mono λ_ _ ⟨v',h1,h2,h3⟩=>⟨v',h1,h.grew h2 h3⟩
theorem j4(k:Nat)(x:Bytes):((jl.B k x).enc).length<=x.length+4:=by simp only[jl.enc,List.length_append];have h1:=vh (k*8+2);have h2:=vh x.length;omega
theorem XE(k n:Nat):((jl.I k n).enc).length<=4:=by simp only[jl.enc,List.length_append];have h1:=vh (k*8);have h2:=vh n;omega
theorem Wq{w:World}(h:ju w.cell? b p)(pV:Jm p):
  Calls prog 143 #[ptr b] w λe w'=>∃v',e=.returned v'/\yS w w' v' p.enc:=by
 obtain⟨hk,⟨kv,h1,PX⟩,ev,h2,bV⟩:=h;have H1:=hid (um (f:=1) (by decide) pV.kind (by simp) (Yu.nil w));obtain⟨kb,ko,kn,kc,rfl,ph,_⟩:=PX.at pV.key0;have hfD:(0:Int)<kn:=by have:=List.length_pos_iff.2 pV.key0;omega
 have HK:=hid PX;have HE:=hid bV;have Sk:=hid pV;obtain⟨ep,en,ec,rfl,MT⟩:=bV.shape;have tP:(0:Int)<=p.kind:=by omega
 have rh:(p.kind:Int)<128:=by have:=pV.kind;omega
 clear PX bV pV;have bW:Hid (([]++zV (if p.kind=0 then []else [.I 1 p.kind]):Bytes).length<=4):=hid (by
  rw[List.nil_append];split
  ·simp[zV]
  ·simp only[zV,List.flatMap_cons,List.flatMap_nil,List.append_nil];exact XE _ _)
 by_cases hs:p.stop=[]
 ·have oH: ¬(0:Int)<en:=by rw[<-MT,hs];decide
  have bX:Hid (p.enc=[]++zV (if p.kind=0 then []else [.I 1 p.kind])++(jl.B 2 p.key).enc):=hid (by unfold zh.enc zh.flds fB;rw[if_neg Sk.out.key0,if_pos hs,List.append_nil,y8];simp[zV])
  clear hs;go_enter func143,ntmps143;go_wp2_with fail;refine H1.out.mono ?_;rintro e w1 ⟨v1,rfl,g1,g2⟩;obtain⟨p1,n1,c1,rfl⟩:=g1.shape;have F1:=hid ((yS.nil w).grew g1 g2);have d1:w1.cell? ⟨b,1,none⟩=some (.slice (some ⟨kb,ko,none⟩) kn kc):=F1.out.new.le _ _ h1;clear g1 g2 H1;go_wp2_with fail;refine(jD (by decide) Sk.out.key0 (by have:=Sk.out.key;omega) (by have:=bW.out;omega) F1.out HK.out).mono ?_;rintro e w2 ⟨v2,rfl,f2⟩;obtain⟨p2,n2,c2,rfl⟩:=f2.own.shape;have F2:=hid f2;have d2:w2.cell? ⟨b,2,none⟩=some (.slice ep en ec):=f2.new.le _ _ h2;clear f2;go_wp2;go_returns;exact⟨_,rfl,by rw[bX.out];exact F2.out⟩
 ·have oH:(0:Int)<en:=by have:=List.length_pos_iff.2 hs;omega
  have HS:=hid hs;have bX:Hid (p.enc=[]++zV (if p.kind=0 then []else [.I 1 p.kind])++(jl.B 2 p.key).enc++(jl.B 3 p.stop).enc):=hid (by unfold zh.enc zh.flds fB;rw[if_neg Sk.out.key0,if_neg hs,y8];simp[zV])
  clear hs;go_enter func143,ntmps143;go_wp2_with fail;refine H1.out.mono ?_;rintro e w1 ⟨v1,rfl,g1,g2⟩;obtain⟨p1,n1,c1,rfl⟩:=g1.shape;have F1:=hid ((yS.nil w).grew g1 g2);have d1:w1.cell? ⟨b,1,none⟩=some (.slice (some ⟨kb,ko,none⟩) kn kc):=F1.out.new.le _ _ h1;clear g1 g2 H1;go_wp2_with fail;refine(jD (by decide) Sk.out.key0 (by have:=Sk.out.key;omega) (by have:=bW.out;omega) F1.out HK.out).mono ?_;rintro e w2 ⟨v2,rfl,f2⟩;obtain⟨p2,n2,c2,rfl⟩:=f2.own.shape;have F2:=hid f2;have d2:w2.cell? ⟨b,2,none⟩=some (.slice ep en ec):=f2.new.le _ _ h2;clear f2;go_wp2_with fail;refine(jD (by decide) HS.out (by have:=Sk.out.stop;omega) (by have:=bW.out;have:=j4 2 p.key;have:=Sk.out.key;rw[List.length_append];omega) F2.out HE.out).mono ?_;rintro e w3 ⟨v3,rfl,f3⟩;obtain⟨p3,n3,c3,rfl⟩:=f3.own.shape;have F3:=hid f3;clear f3;go_wp2;go_returns;exact⟨_,rfl,by rw[bX.out];exact F3.out⟩
def Zh(p:zh):jl->zh
 |.I _ n=>{p with kind:=n}
 |.B k x=>if k=2 then {p with key:=x}else {p with stop:=x}
def G7:jl->Prop
 |.I k n=>k=1/\n<128
 |.B k x=>(k=2\/k=3)/\x≠[]/\x.length<16384
theorem G7.ok{f:jl}(h:G7 f):uk f:=by
 cases f with
 |I k n=>obtain⟨rfl,h⟩:=h;exact⟨by decide,by decide,h⟩
 |B k x=>obtain⟨h1,h2,h3⟩:=h;rcases h1 with rfl|rfl<;>exact⟨by decide,by decide,h2,h3⟩
def XF(w w':World)(b:Nat)(p:zh):Prop:=zq (λj=>j=b) w w'/\∃kv ev,w'.heap[b]? =some (.cells #[.int .i32 p.kind,kv,ev] 112 (0,0))/\Bs (im (λj=>j=b) w') p.key kv/\Bs (im (λj=>j=b) w') p.stop ev/\(∀j,kv.ownBlock=some j\/ev.ownBlock=some j->w.heap.size<=j)
theorem Um{w:World}{T:Nat}{x y z:Value}(h:w.heap[b]? =some (.cells #[x,y,z] T (0,0))):
  w.cell? ⟨b,0,none⟩=some x/\w.cell? ⟨b,1,none⟩=some y/\w.cell? ⟨b,2,none⟩=some z/\w.frozen? ⟨b,0,none⟩=false/\w.frozen? ⟨b,1,none⟩=false/\w.frozen? ⟨b,2,none⟩=false:=
 ⟨by rw[cell_of_row w b 0 _ _ (0,0) h];rfl,by rw[cell_of_row w b 1 _ _ (0,0) h];rfl,by rw[cell_of_row w b 2 _ _ (0,0) h];rfl,by simp[World.frozen?,h],by simp[World.frozen?,h],by simp[World.frozen?,h]⟩
theorem XF.new{w:World}(h:XF w w1 b p)(hb:b<w.heap.size)(hn:za w1 w2):XF w w2 b p:=by obtain⟨hm,kv,ev,hr,h1,h2,h3⟩:=h;have Pb:b<w1.heap.size:=Nat.lt_of_lt_of_le hb hm.size;exact⟨zq.trans hm hn λ_ _ e=>e.elim,kv,ev,hn.heap hr,h1.mono (hn.im _),h2.mono (hn.im _),h3⟩
theorem XF.set{w:World}(h:XF w w1 b p)(hb:b<w.heap.size)(i:Nat)(u:Value):zq (λj=>j=b) w (w1.setCell ⟨b,i,none⟩ u)/\∀{x:Bytes} {v:Value},Bs (im (λj=>j=b) w1) x v->Bs (im (λj=>j=b) (w1.setCell ⟨b,i,none⟩ u)) x v:=
 ⟨h.1.setCell (λ_=>rfl) u,λhv=>hv.mono ((zq.refl (λj=>j=b) w1|>.setCell (p:=⟨b,i,none⟩) (λ_=>rfl) u).im λ_ _ e=>e)⟩
theorem XF.set0{w:World}(h:XF w w1 b p)(hb:b<w.heap.size)(n:Nat):XF w (w1.setCell ⟨b,0,none⟩ (.int .i32 n)) b {p with kind:=n}:=by obtain⟨h1,h2⟩:=h.set hb 0 (.int .i32 n);obtain⟨_,kv,ev,hr,hk,he,hj⟩:=h;exact⟨h1,kv,ev,heap_setCell_same w1 b 0 _ _ _ hr,h2 hk,h2 he,hj⟩
theorem XF.set1{w:World}(h:XF w w1 b p)(hb:b<w.heap.size){x:Bytes}(hx:Bs (im (λj=>j=b) w1) x xv)(hf:∀j,xv.ownBlock=some j->w.heap.size<=j):XF w (w1.setCell ⟨b,1,none⟩ xv) b {p with key:=x}:=by obtain⟨h1,h2⟩:=h.set hb 1 xv;obtain⟨_,kv,ev,hr,hk,he,hj⟩:=h;exact⟨h1,xv,ev,heap_setCell_same w1 b 1 _ _ _ hr,h2 hx,h2 he,λj e=>e.elim (hf j) λe=>hj j (Or.inr e)⟩
theorem XF.set2{w:World}(h:XF w w1 b p)(hb:b<w.heap.size){x:Bytes}(hx:Bs (im (λj=>j=b) w1) x xv)(hf:∀j,xv.ownBlock=some j->w.heap.size<=j):XF w (w1.setCell ⟨b,2,none⟩ xv) b {p with stop:=x}:=by obtain⟨h1,h2⟩:=h.set hb 2 xv;obtain⟨_,kv,ev,hr,hk,he,hj⟩:=h;exact⟨h1,kv,xv,heap_setCell_same w1 b 2 _ _ _ hr,h2 hk,h2 hx,λj e=>e.elim (λe=>hj j (Or.inl e)) (hf j)⟩
variable{n:Nat}
theorem Yv.I{w:World}{a d:Int}{bb:Bool}(h:Yv w w' (.I k n) (.agg #[.int .i64 a,.bool bb,.int .i64 d,v])):a=k/\bb=false/\d=n:=by simp[Yv]at h;exact⟨h.1,h.2.1,h.2.2.1⟩
theorem Yv.B{w:World}{x:Bytes}{a d:Int}{bb:Bool}(h:Yv w w' (.B k x) (.agg #[.int .i64 a,.bool bb,.int .i64 d,v])):a=k/\bb=true/\d=0/\Bs w'.cell? x v/\∀b,v.ownBlock=some b->w.heap.size<=b:=by obtain⟨bv,e,h1,h2⟩:=h;simp at e;obtain⟨rfl,rfl,rfl,rfl⟩:=e;exact⟨rfl,rfl,rfl,h1,h2⟩
theorem G8{w:World}{p0:zh}{fs:List jl}(h0:XF w w b p0)(hb:b<w.heap.size)(hr:r.le (im (λj=>j=b) w))(lM:∀f∈fs,G7 f)(hv:Bs r (zV fs) v):
  Calls prog 304 #[ptr b,v] w λe w'=>e=.returned (.bool true)/\XF w w' b (fs.foldl Zh p0):=by
 obtain⟨vp,vn,vc,rfl,_⟩:=hv.shape;have HR:=hid hr;clear hr;have H0:=hid h0;clear h0;have HV:=hid hv;clear hv;go_enter func304,ntmps304;go_wp2;go_loopg [1] (fs.length+1) (λgg zv wr=>∃rest p1,Bs r (zV rest) zv/\(∀f∈rest,G7 f)/\XF w wr b p1/\rest.foldl Zh p1=fs.foldl Zh p0/\rest.length<gg)
 case atStart=>exact⟨fs,p0,HV.out,lM,H0.out,rfl,by omega⟩
 case round=>
  obtain⟨rest,p1,Rx,Pw,nG,rf,h_⟩:=hrel;cases rest with
  |nil=>obtain⟨zp,zn,zc,rfl,TQ⟩:=Rx.shape;have hz:zn=0:=TQ.symm;subst hz;have Nh:=hid nG;have HF:=hid rf;clear nG rf Pw lM;go_wp2;go_returns;exact⟨rfl,by have:=Nh.out;rw[show p1=fs.foldl Zh p0 from HF.out]at this;exact this⟩
  |cons f rest=>
   have hP:=Pw f (by simp);have nH:∀g∈rest,G7 g:=λg hg=>Pw g (by simp[hg]);rw[kV]at Rx;have HT:=hid (KT (w:=wr) (HR.out.le_trans ((nG.1.im λ_ _ e=>e).le_trans (zd (λj=>j=b) wr))) hP.ok Rx);obtain⟨zp,zn,zc,rfl,TQ⟩:=Rx.shape;have hz:(0:Int)<zn:=by have:=Ks f;rw[<-TQ,List.length_append];omega
   have Nh:=hid nG;have HF:=hid rf;have Rl:=hid nH;have HP:=hid hP;clear nG rf Pw lM nH hP Rx TQ;go_wp2_with fail;refine HT.out.mono ?_;rintro e w1 ⟨u,v1,rfl,hQ,g1,g2⟩;obtain⟨a,bb,d,px,nx,cx,rfl⟩:=g2.shape;obtain⟨p5,n5,c5,rfl,_⟩:=g1.shape;have PT1:=hid (Nh.out.new hb hQ);have Ro:b<w1.heap.size:=by have:=PT1.out.1.size;omega
   obtain⟨kv,ev,hZ,_⟩:=PT1.out.2;obtain⟨x0,x1,x2,y0,y1,y2⟩:=Um hZ;have G1:=hid g1;have g2k:=g2;clear g1 g2 hQ hZ x0 x1 x2 y0 y1 y2;go_upto_region 6 with fail
   obtain⟨W,hW⟩:=zex (w1.alloc (.cells #[.int .i64 a,.bool bb,.int .i64 d,.slice px nx cx] 488));rw[<-hW];have Pz:za w1 W:=by rw[hW];exact(za.refl w1).alloc _
   have sK:W.heap[w1.heap.size]? =some (.cells #[.int .i64 a,.bool bb,.int .i64 d,.slice px nx cx] 488 (0,0)):=by rw[hW];exact zg w1 _
   obtain⟨z0,z1,z2,z3,_⟩:=kX sK;have PTW:=hid (PT1.out.new hb Pz);obtain⟨kv,ev,hZ,_⟩:=PTW.out.2;obtain⟨x0,x1,x2,y0,y1,y2⟩:=Um hZ;have GW:=hid (g2k.mono (Nat.le_refl _) Pz);clear hW Pz sK hZ;generalize w1.heap.size=q at z0 z1 z2 z3⊢;cases f with
   |I k n=>
    obtain⟨rfl,hn⟩:=HP.out;obtain⟨rfl,rfl,rfl⟩:=GW.out.I;have hwn:IntKind.i32.wrap (n:Int)=n:=by rw[IntKind.wrap_i32];omega
    clear g2k;go_wp2_with fail;go_roundg (gk-1)
    case rel=>exact⟨rest,_,G1.out,Rl.out,PTW.out.set0 hb n,HF.out,by simp at h_;omega⟩
    case measure=>simp at h_;omega
   |B k x=>
    obtain⟨rfl,rfl,rfl,SS,sF⟩:=GW.out.B;have ST:Bs (im (λj=>j=b) W) x (.slice px nx cx):=SS.im_of λj hj e=>by have:=sF j hj;have:=Nh.out.1.size;omega
    have B8:=hid ST;have BY:=hid (show∀j,(Value.slice px nx cx).ownBlock=some j->w.heap.size<=j from λj hj=>Nat.le_trans Nh.out.1.size (sF j hj));rcases HP.out.1 with rfl|rfl
    ·clear g2k SS sF ST;go_wp2_with fail;go_roundg (gk-1)
     case rel=>exact⟨rest,_,G1.out,Rl.out,PTW.out.set1 hb B8.out BY.out,HF.out,by simp at h_;omega⟩
     case measure=>simp at h_;omega
    ·clear g2k SS sF ST;go_wp2_with fail;go_roundg (gk-1)
     case rel=>exact⟨rest,_,G1.out,Rl.out,PTW.out.set2 hb B8.out BY.out,HF.out,by simp at h_;omega⟩
     case measure=>simp at h_;omega
def zb(l:Bytes):Value:=.string ⟨l.toArray⟩
structure y9(r:Rd)(b:Nat)(u:zj):Prop where
 name:∃v,r ⟨b,0,none⟩=some v/\Bs r u.name v
 pass:∃v,r ⟨b,1,none⟩=some v/\Bs r [] v
 roles:∃v,r ⟨b,2,none⟩=some v/\Sl r 1 (u.roles.map zb) v
 opts:∃o,r ⟨b,3,none⟩=some (ptr o)/\r ⟨o,0,none⟩=some (.bool true)
variable{u:zj}
theorem y9.mono(h:y9 r b u)(hr:r.le r'):y9 r' b u:=by obtain⟨⟨v,h1,h2⟩,⟨x,h3,h4⟩,⟨y,h5,h6⟩,o,h7,h8⟩:=h;exact⟨⟨v,hr _ _ h1,h2.mono hr⟩,⟨x,hr _ _ h3,h4.mono hr⟩,⟨y,hr _ _ h5,h6.mono hr⟩,o,hr _ _ h7,hr _ _ h8⟩
structure jv(u:zj):Prop where
 name0:u.name≠[]
 name:u.name.length<=1000
 roles0:∀x∈u.roles,x≠[]/\x.length<=1000
 roles:u.roles.length<=100
variable{cs:List Value}
theorem Sl.cellAt{o:Nat}(h:Sl r 1 cs (.slice (some ⟨b,o,none⟩) n c))(i:Nat)(hi:i<cs.length):r ⟨b,o+i,none⟩=some cs[i]:=by
 obtain⟨p,n',c',e,hl,hn,hc,hp,h5⟩:=h;simp only[Value.slice.injEq]at e;obtain⟨rfl,rfl,rfl⟩:=e;rcases h5 with h5|⟨b',o',e,Hc⟩
 ·subst h5;simp at hi
 ·simp only[Option.some.injEq,Addr.mk.injEq]at e;obtain⟨rfl,rfl,_⟩:=e;exact Hc i hi
theorem Sl.addr{p:Option Addr}(h:Sl r 1 cs (.slice p n c)):cs.length=n/\(cs≠[]->∃b o,p=some ⟨b,o,none⟩):=by
 obtain⟨p',n',c',e,hl,hn,hc,hp,h5⟩:=h;simp only[Value.slice.injEq]at e;obtain⟨rfl,rfl,rfl⟩:=e;refine⟨by omega,λh0=> ?_⟩;rcases h5 with h5|⟨b',o',e,Hc⟩
 ·exact absurd h5 h0
 ·exact⟨b',o',e⟩
theorem yS.more{w:World}{l:Bytes}(h:yS w w1 v l)(hn:za w1 w2):yS w w2 v l:=
 ⟨h.new.trans hn,zS h.own (λb hb=>hn.block b (World.ownsRow.lt h.own b hb).2 (λe=>e)),h.ge⟩
theorem yS.lt{w:World}{l:Bytes}(h:yS w w1 v l):∀b,v.ownBlock=some b->b<w1.heap.size:=λb hb=>(World.ownsRow.lt h.own b hb).2
theorem Yw{fs:List jl}(h:∀f∈fs,f.enc.length<=1004):(zV fs).length<=fs.length*1004:=by
 induction fs with
 |nil=>simp[zV]
 |cons f fs ih=>rw[kV,List.length_append,List.length_cons];have h1:=h f (by simp);have h2:=ih λg hg=>h g (by simp[hg]);omega
theorem Wr{w:World}(h:y9 w.cell? b u)(pV:jv u):
  Calls prog 219 #[ptr b] w λe w'=>∃v',e=.returned v'/\yS w w' v' u.enc:=by
 obtain⟨⟨nv,h0,rV⟩,⟨pv,h1,wQ⟩,⟨rv,h2,Py⟩,o,h3,h4⟩:=h;obtain⟨nb,no,nn,nc,rfl,My,_⟩:=rV.at pV.name0;have oI:(0:Int)<nn:=by have:=List.length_pos_iff.2 pV.name0;omega
 obtain⟨pp,pn,pc,rfl,bY⟩:=wQ.shape;have bY:pn=0:=bY.symm;subst bY;obtain⟨rp,rn,rc,rfl⟩:=Py.shape;have pZ:rn=u.roles.length:=by have:=Py.addr.1;simpa using this.symm
 subst pZ;have B9:=hid rV;have Rr:=hid Py;have Sk:=hid pV;have bW:Hid ((jl.B 1 u.name).enc.length<=1004):=hid (by have:=j4 1 u.name;have:=pV.name;omega);clear rV wQ Py pV;go_enter func219,ntmps219;go_wp2_with fail;refine(jD (by decide) Sk.out.name0 (by have:=Sk.out.name;omega) (by simp) (yS.nil w) B9.out).mono ?_;rintro e w1 ⟨v1,rfl,f1⟩;obtain⟨p1,n1,c1,rfl⟩:=f1.own.shape;have F1:=hid f1;have d1:w1.cell? ⟨b,1,none⟩=some (.slice pp 0 pc):=f1.new.le _ _ h1;have HC:=hid (And.intro h2 (And.intro h3 h4));clear f1 h0 h1 h2 h3 h4;have ig:Hid (∀k,([]++(jl.B 1 u.name).enc++zV ((u.roles.take k).map (jl.B 3))).length<=200000):=hid λk=>by
  have h1:=Yw (fs:=(u.roles.take k).map (jl.B 3)) (by intro f hf;obtain⟨x,hx,rfl⟩:=List.mem_map.1 hf;have:=j4 3 x;have:=(Sk.out.roles0 x (List.mem_of_mem_take hx)).2;omega)
  have h2:=bW.out;have h3:=Sk.out.roles;rw[List.length_map,List.length_take]at h1;rw[List.length_append,List.nil_append];have:min k u.roles.length<=100:=by omega
  have:=Nat.mul_le_mul_right 1004 this;omega
 have pZ:(u.roles.length:Int)<=100:=by have:=Sk.out.roles;omega
 go_wp2;go_loopw [3,4] (λv i wr=>∃k:Nat,k<=u.roles.length/\i=.int .i64 k/\yS w wr v ([]++(jl.B 1 u.name).enc++zV ((u.roles.take k).map (jl.B 3)))) (λ_ i _=>u.roles.length-(intOf i).toNat)
 case atStart=>exact⟨0,Nat.zero_le _,rfl,by simpa[zV]using F1.out⟩
 case round=>
  obtain⟨k,hk,rfl,hf⟩:=hrel;have g2:wr.cell? ⟨b,2,none⟩=some (.slice rp u.roles.length rc):=hf.new.le _ _ HC.out.1;obtain⟨qp,qn,qc,rfl⟩:=hf.own.shape;clear d1;by_cases Hb:k<u.roles.length
  ·have pE:k<(u.roles.map zb).length:=by rw[List.length_map];exact Hb
   obtain⟨ob,oo,rfl⟩:=Rr.out.addr.2 (by intro e;rw[e]at pE;simp at pE);have Hw:wr.cell? ⟨ob,oo+k,none⟩=some (.string ⟨(u.roles[k]).toArray⟩):=by have:=hf.new.le _ _ (Rr.out.cellAt k pE);rw[this];simp[zb]
   have hx:=Sk.out.roles0 _ (List.getElem_mem Hb);have tA:=hid (show(u.roles.take (k+1)).map (jl.B 3)=(u.roles.take k).map (jl.B 3)++[jl.B 3 u.roles[k]] by rw[List.take_succ_eq_append_getElem Hb,List.map_append];rfl);generalize u.roles[k]=x at Hw hx tA;have Lw:(k:Int)<(u.roles.length:Int):=by omega
   obtain⟨cv,wc,pQ,P5,sV,⟨cn,cc,rfl⟩,oJ⟩:=jO (P:=prog) wr 9 75 5 (l:=x) (u:=.string) (by kernel_rfl) (by kernel_rfl) (by kernel_rfl) (by omega);have HF:=hid hf;have LM:=hid (QS (f:=3) (by decide) hx.1 (by omega) (by have:=ig.out k;omega) (hf.more P5).own sV (by intro q hq e;simp only[Value.ownBlock,Option.some.injEq]at hq;have:=hf.lt _ e;omega));have lN:=hid P5;clear hf sV oJ P5 hx;generalize(⟨x.toArray⟩:ByteArray)=sx at Hw pQ;go_wp2_with fail;refine LM.out.mono ?_;rintro e w5 ⟨v5,rfl,g5,g6⟩;obtain⟨p5,n5,c5,rfl⟩:=g5.shape;have F5:=hid ((HF.out.more lN.out).grew g5 g6);clear g5 g6;go_wp2;go_roundw
   case rel=>exact⟨k+1,by omega,by go_num,by rw[tA.out,y8];have:=F5.out;simpa[zV]using this⟩
   case measure=>simp[intOf];omega
  ·have ph:k=u.roles.length:=by omega
   have g3:wr.cell? ⟨b,3,none⟩=some (ptr o):=hf.new.le _ _ HC.out.2.1;have g4:wr.cell? ⟨o,0,none⟩=some (.bool true):=hf.new.le _ _ HC.out.2.2;have H1:=hid (Gr (w:=wr) (f:=1) (k:=1) (by decide) (by decide) (by decide) (by simp) (Yu.nil wr));have HF:=hid hf;clear hf;go_wp2_with fail;refine H1.out.mono ?_;rintro e w5 ⟨v5,rfl,g5,g6⟩;have f1:yS wr w5 v5 ([]++(jl.I 1 1).enc):=(yS.nil wr).grew g5 g6;have pB:([]++(jl.I 1 1).enc:Bytes)=[8,1]:=by decide
   rw[pB]at f1;have LM:=hid (QS (f:=4) (x:=[8,1]) (by decide) (by simp) (by simp) (by have:=ig.out k;omega) (HF.out.more f1.new).own f1.own.bs (by intro q hq e;have:=HF.out.lt _ e;have:=f1.ge _ hq;omega));obtain⟨p5,n5,c5,rfl⟩:=g5.shape;have F1':=hid f1;clear f1 g5 g6 H1;go_wp2_with fail;refine LM.out.mono ?_;rintro e w6 ⟨v6,rfl,g5,g6⟩;obtain⟨p6,n6,c6,rfl⟩:=g5.shape;have F6:=hid ((HF.out.more F1'.out.new).grew g5 g6);clear g5 g6;go_wp2;go_returns;refine⟨_,rfl,?_⟩;have:=F6.out;rw[ph,List.take_length]at this;unfold zj.enc zj.flds fB;rw[if_neg Sk.out.name0,y8,y8];simpa[zV]using this
structure zH where
 kind:Int
 user:Bytes
 role:Bytes
 pk:Int
 key:Bytes
 stop:Bytes
 noPerm:Bool
 old:Int
 noUser:Bool
structure vN where
 err:Nat
 rev:Nat
 on:Bool
 yes:Bool
 names:List Bytes
 perms:List zh
structure zA where
 on:Bool
 rev:Nat
 users:List zj
 roles:List zm
def zL:Bytes:=[114,111,111,116]
def zA.user(s:zA)(n:Bytes):Option zj:=qT zj.name s.users n
def zA.role(s:zA)(n:Bytes):Option zm:=qT zm.name s.roles n
def zA.putUser(s:zA)(u:zj):zA:={s with users:=yO zj.name s.users u,rev:=s.rev+1}
def zA.putRole(s:zA)(r:zm):zA:={s with roles:=yO zm.name s.roles r,rev:=s.rev+1}
def kg(k e:Bytes):Iv:=if e=[]then pt k else (k,if e=[0]then []else e)
def zU(k e:Bytes):Bool:= !decide (k=[]) && (decide (e=[])||decide (e=[0])||decide (zt k e<0))
def zh.allows(p:zh)(kind:Nat):Bool:=decide (p.kind=kind)||decide (p.kind=2)
def qq(ps:List zh)(kind:Nat):List Iv:=(ps.filter (·.allows kind)).map λp=>kg p.key p.stop
open Classical in
noncomputable def yT(ps:List zh)(kind:Nat)(k e:Bytes):Bool:=decide (yL (qq ps kind) (kg k e))
def zA.permsOf(s:zA)(u:zj):List zh:=u.roles.flatMap λr=>match s.role r with|some x=>x.perms|none=>[]
def Z4(p:zh):List zh->List zh
 |[]=>[p]
 |q::l=>if zt p.key q.key<0 then p::q::l else q::Z4 p l
def ZL(l:List zh)(p:zh):Nat:=zk (l.map (·.key)) p.key
def y_(l:List zh)(p:zh):List zh:=
 match l[ZL l p]? with
 |some q=>if q.key=p.key/\q.stop=p.stop then l.set (ZL l p) {q with kind:=p.kind}else Z4 p l
 |none=>Z4 p l
def jf(l:List zh)(k e:Bytes):List zh:=l.filter λq=> !(decide (q.key=k) && decide (q.stop=e))
def vW(l:List Bytes)(x:Bytes):List Bytes:=yO id l x
def yl(l:List Bytes)(x:Bytes):List Bytes:=l.filter λy=> !decide (y=x)
def zj.root(u:zj):Bool:=decide (zL∈u.roles)
noncomputable def zA.ask(s:zA)(o:zH):Nat:=
 if s.on=false then 0
 else if o.noUser=true\/o.kind=18/\o.user=[]then 4
 else if o.kind=18 then (match s.user o.user with|none=>5|some u=>if u.root then 0 else 10)
 else if 0<o.old then 14
 else match s.user o.user with
  |none=>10
  |some u=>if u.root then 0 else if yT (s.permsOf u) (if o.kind=16 then 0 else 1) o.key (if o.kind=15 then []else o.stop)then 0 else 10
def zA.change(s:zA)(o:zH):zA×Nat:=
 if o.kind=1 then
  if s.on then (s,0)
  else match s.user zL with
   |none=>(s,1)
   |some u=>if u.root then ({s with on:=true},0)else (s,2)
 else if o.kind=2 then
  if s.on then ({s with on:=false,rev:=s.rev+1},0)else (s,0)
 else if o.kind=3 then
  if o.user=[]then (s,4)
  else match s.user o.user with
   |some _=>(s,3)
   |none=>(s.putUser ⟨o.user,[]⟩,0)
 else if o.kind=4 then
  if s.on=true/\o.user=zL then (s,15)
  else match s.user o.user with
   |none=>(s,5)
   |some _=>({s with users:=yj zj.name s.users o.user,rev:=s.rev+1},0)
 else if o.kind=5 then
  match s.user o.user with
  |none=>(s,5)
  |some u=>
   if o.role≠zL/\s.role o.role=none then (s,7)
   else if o.role∈u.roles then (s,0)
   else (s.putUser ⟨u.name,vW u.roles o.role⟩,0)
 else if o.kind=6 then
  if s.on=true/\o.user=zL/\o.role=zL then (s,15)
  else match s.user o.user with
   |none=>(s,5)
   |some u=>if o.role∈u.roles then (s.putUser ⟨u.name,yl u.roles o.role⟩,0)else (s,11)
 else if o.kind=9 then
  if o.role=[]then (s,8)
  else match s.role o.role with
   |some _=>(s,6)
   |none=>(s.putRole ⟨o.role,[]⟩,0)
 else if o.kind=10 then
  if s.on=true/\o.role=zL then (s,15)
  else match s.role o.role with
   |none=>(s,7)
   |some _=>({s with roles:=yj zm.name s.roles o.role,users:=s.users.map λu=>⟨u.name,yl u.roles o.role⟩,rev:=s.rev+1},0)
 else if o.kind=11 then
  if o.noPerm then (s,9)
  else if zU o.key o.stop=false then (s,15)
  else match s.role o.role with
   |none=>(s,7)
   |some r=>(s.putRole ⟨r.name,y_ r.perms ⟨o.pk.toNat,o.key,o.stop⟩⟩,0)
 else if o.kind=12 then
  match s.role o.role with
  |none=>(s,7)
  |some r=>if (jf r.perms o.key o.stop).length=r.perms.length then (s,12)else (s.putRole ⟨r.name,jf r.perms o.key o.stop⟩,0)
 else (s,0)
noncomputable def zA.step(s:zA)(o:zH):zA×vN:=
 let t:=s.change o
 let a:vN:=⟨t.2,t.1.rev,t.1.on,false,[],[]⟩
 if o.kind=7 then (s,match s.user o.user with|none=>{a with err:=5}|some u=>{a with names:=u.roles})
 else if o.kind=8 then (s,{a with names:=s.users.map (·.name)})
 else if o.kind=13 then (s,match s.role o.role with|none=>{a with err:=7}|some r=>{a with perms:=if r.name=zL then [⟨2,[],[0]⟩]else r.perms})
 else if o.kind=14 then (s,{a with names:=s.roles.map (·.name)})
 else if o.kind=15\/o.kind=16\/o.kind=17\/o.kind=18 then (s,{a with err:=s.ask o})
 else if o.kind=19 then (s,{a with yes:=match s.user o.user with|none=>false|some u=>decide (o.role∈u.roles)})
 else (t.1,a)
def zA.start:zA:=⟨false,1,[],[]⟩
noncomputable def zA.run(s:zA):List zH->List vN
 |[]=>[]
 |o::l=>(s.step o).2::(s.step o).1.run l
structure Zx where
 lo:Bytes
 hi:Bytes
 op:Bool
def Zx.iv(s:Zx):Iv:=(s.lo,if s.op then []else s.hi)
def Zx.ok(s:Zx):Prop:=s.lo≠[]/\(s.op=false->s.hi≠[])
def Zx.empty(s:Zx):Bool:= !s.op &&!decide (zt s.lo s.hi<0)
def Zx.has(s:Zx)(k:Bytes):Prop:= ¬zt k s.lo<0/\(s.op=true\/zt k s.hi<0)
theorem Zj{a b:Bytes}(ha:a≠[])(hb:b≠[]):zy a b=zt a b:=by
 cases a with
 |nil=>exact absurd rfl ha
 |cons x a=>
  cases b with
  |nil=>exact absurd rfl hb
  |cons y b=>rfl
theorem uB{a:Bytes}(ha:a≠[]):zy a []<0:=by
 cases a with
 |nil=>exact absurd rfl ha
 |cons x a=>simp[zy]
def gM(l:List Zx)(s:Zx)(a:Bytes):Prop:=∀k,k≠[]->¬zt k s.lo<0->zt k a<0->∃x∈l,x.has k
theorem gM.start(l:List Zx)(s:Zx):gM l s s.lo:=λ_ _ h1 h2=>absurd h2 h1
theorem gM.next{l:List Zx}{s x:Zx}{a:Bytes}(h:gM l s a)(hx:x∈l)(hh:x.has a):gM l s x.hi:=λk hk h1 h2=>by
 by_cases e:zt k a<0
 ·exact h k hk h1 e
 ·exact⟨x,hx,λe2=>hh.1 (vu e e2),Or.inr h2⟩
theorem gM.all{l:List Zx}{s x:Zx}{a:Bytes}(h:gM l s a)(hx:x∈l)(hh:x.has a)(ho:x.op=true):∀k,k≠[]->s.has k->∃x∈l,x.has k:=λk hk hs=>by
 by_cases e:zt k a<0
 ·exact h k hk hs.1 e
 ·exact⟨x,hx,λe2=>hh.1 (vu e e2),Or.inl ho⟩
theorem gM.done{l:List Zx}{s:Zx}{a:Bytes}(h:gM l s a)(ho:s.op=false)(ha: ¬zt a s.hi<0):∀k,k≠[]->s.has k->∃x∈l,x.has k:=λk hk hs=>by
 have h2:zt k s.hi<0:=by
  rcases hs.2 with e|e
  ·rw[ho]at e;cases e
  ·exact e
 exact h k hk hs.1 (fS h2 ha)
def zH.cells(o:zH):Array Value:= #[.int .i64 o.kind,zb o.user,zb o.role,.int .i64 o.pk,zb o.key,zb o.stop,.bool o.noPerm,.int .i64 o.old,.bool o.noUser]
def zH.val(o:zH):Value:=.agg o.cells
def WY(k:Int)(key stop:Bytes):Value:=.agg #[.int .i64 k,zb key,zb stop]
structure qE where
 kind:Int
 key:Bytes
 stop:Bytes
def qE.cells(p:qE):Array Value:= #[.int .i64 p.kind,zb p.key,zb p.stop]
def jc{α:Type}(f:α->Array Value)(l:List α):List Value:=l.flatMap λx=>(f x).toList
theorem gS(f:α->Array Value)(l m:List α):jc f (l++m)=jc f l++jc f m:=List.flatMap_append
theorem xq{α:Type}{f:α->Array Value}{n:Nat}(hf:∀x,(f x).size=n):∀l:List α,(jc f l).length=l.length*n
 |[]=>by simp[jc]
 |x::l=>by have:=xq hf l;unfold jc at this⊢;rw[List.flatMap_cons,List.length_append,this,Array.length_toList,hf,List.length_cons,Nat.add_mul,Nat.one_mul,Nat.add_comm]
theorem Vu{α:Type}{f:α->Array Value}{n:Nat}(hf:∀x,(f x).size=n):∀(l:List α) (k:Nat) (hk:k<l.length) (j:Nat) (v:Value),(f l[k]).toList[j]? =some v->(jc f l)[k*n+j]? =some v
 |x::l,0,_,j,v,hv=>by have hj:j<(f x).toList.length:=(List.getElem?_eq_some_iff.1 hv).1;unfold jc;rw[List.flatMap_cons,Nat.zero_mul,Nat.zero_add,List.getElem?_append_left hj];exact hv
 |x::l,k+1,hk,j,v,hv=>by have ih:=Vu hf l k (by simpa using hk) j v hv;unfold jc at ih⊢;rw[List.flatMap_cons,List.getElem?_append_right (by rw[Array.length_toList,hf,Nat.add_mul];omega),Array.length_toList,hf];rw[show(k+1)*n+j-n=k*n+j by rw[Nat.add_mul];omega];exact ih
def kw{α:Type}(f:α->Array Value)(n:Nat)(r:Rd)(l:List α)(v:Value):Prop:=Sl r n (jc f l) v
theorem kw.mono{f:α->Array Value}{l:List α}(hr:r.le r')(h:kw f n r l v):kw f n r' l v:=Sl.mono hr h
theorem kw.shape{f:α->Array Value}(hf:∀x,(f x).size=n)(hn:0<n){l:List α}(h:kw f n r l v):
  ∃p c,v=.slice p l.length c/\l.length<=c/\c<=9223372036854775807/\(l≠[]->∃b o,p=some ⟨b,o,none⟩):=by
 obtain⟨p,m,c,rfl,hl,hm,hc,_,h5⟩:=h;rw[xq hf]at hl;have e:l.length=m:=Nat.eq_of_mul_eq_mul_right hn hl;subst e;refine⟨p,c,rfl,hm,hc,λHo=> ?_⟩;rcases h5 with h5|⟨b,o,rfl,_⟩
 ·have:=congrArg List.length h5;rw[xq hf]at this;have h0:0<l.length:=List.length_pos_iff.2 Ho;have:0<l.length*n:=Nat.mul_pos h0 hn;simp at*;omega
 ·exact⟨b,o,rfl⟩
theorem kw.range{f:α->Array Value}(hf:∀x,(f x).size=n){w:World}{l:List α}{o m:Nat}(h:kw f n w.cell? l (.slice (some ⟨b,o,none⟩) m c))(hk:k<l.length):w.rangeAt b (o+k*n) (f l[k]).toList:=by
 obtain⟨p,m',c',e,hl,hm,hc,_,h5⟩:=h;simp only[Value.slice.injEq]at e;obtain⟨rfl,rfl,rfl⟩:=e;intro j v hv;have h1:=Vu hf l k hk j v hv;rcases h5 with h5|⟨b',o',e,Hc⟩
 ·rw[h5]at h1;simp at h1
 ·simp only[Option.some.injEq,Addr.mk.injEq,and_true]at e;obtain⟨rfl,rfl⟩:=e;obtain⟨Hb,e⟩:=List.getElem?_eq_some_iff.1 h1;rw[Nat.add_assoc,Hc _ Hb,e]
theorem Y1(o:zH):o.cells.size=9:=rfl
theorem yP(p:qE):p.cells.size=3:=rfl
abbrev zb6(r:Rd)(l:List zH)(v:Value):Prop:=kw zH.cells 9 r l v
abbrev Y2(r:Rd)(l:List qE)(v:Value):Prop:=kw qE.cells 3 r l v
theorem gT:yy prog 22 35 (.agg #[.int .i64 0,.string ⟨#[]⟩,.string ⟨#[]⟩,.int .i64 0,.string ⟨#[]⟩,.string ⟨#[]⟩,.bool false,.int .i64 0,.bool false]) 9 104:=⟨by kernel_rfl,by kernel_rfl,rfl,by decide⟩
theorem zcK:yy prog 25 42 (.agg #[.int .i64 0,.int .u64 0,.bool false,.bool false,.slice none 0 0,.slice none 0 0]) 6 72:=⟨by kernel_rfl,by kernel_rfl,rfl,by decide⟩
theorem zH.shape(o:zH):∃us ro ke st:ByteArray,zb o.user=.string us/\zb o.role=.string ro/\zb o.key=.string ke/\zb o.stop=.string st:=⟨_,_,_,_,rfl,rfl,rfl,rfl⟩
variable{o:zH}
theorem WZ{w:World}(h:w.rangeAt b q o.cells.toList):w.cell? ⟨b,q,none⟩=some (.int .i64 o.kind)/\w.cell? ⟨b,q+1,none⟩=some (zb o.user)/\w.cell? ⟨b,q+2,none⟩=some (zb o.role)/\w.cell? ⟨b,q+3,none⟩=some (.int .i64 o.pk)/\w.cell? ⟨b,q+4,none⟩=some (zb o.key)/\w.cell? ⟨b,q+5,none⟩=some (zb o.stop)/\w.cell? ⟨b,q+6,none⟩=some (.bool o.noPerm)/\w.cell? ⟨b,q+7,none⟩=some (.int .i64 o.old)/\w.cell? ⟨b,q+8,none⟩=some (.bool o.noUser):=
 ⟨h 0 _ rfl,h 1 _ rfl,h 2 _ rfl,h 3 _ rfl,h 4 _ rfl,h 5 _ rfl,h 6 _ rfl,h 7 _ rfl,h 8 _ rfl⟩
theorem Vv{w:World}{o:qE}(h:w.rangeAt b q o.cells.toList):w.cell? ⟨b,q,none⟩=some (.int .i64 o.kind)/\w.cell? ⟨b,q+1,none⟩=some (zb o.key)/\w.cell? ⟨b,q+2,none⟩=some (zb o.stop):=
 ⟨h 0 _ rfl,h 1 _ rfl,h 2 _ rfl⟩
theorem xr{l:List α}(h:k<l.length):l≠[]:=λe=>by rw[e]at h;cases h
def Dn(n:Bytes):Prop:=n.head? ≠some 255
def W8(w:World)(P:Bool->Prop)(e:Ending)(w':World):Prop:=∃b,e=.returned (.bool b)/\w=w'/\P b
def zdC(n:Bytes)(b:Bool):Prop:=b=true->n.length<=64
def Do(w:World)(P:Bool->Prop)(e:Ending)(w':World):Prop:=∃b,e=.returned (.bool b)/\za w w'/\P b
theorem zcg{w:World}{k:Value}{ks ss:ByteArray}:Calls prog 35 #[.agg #[k,.string ks,.string ss]] w (Do w λ_=>True):=by
 go_enter func35,ntmps35;go_wp2
 all_goals
  go_returns;exact⟨_,rfl,(za.refl w).alloc _,trivial⟩
theorem zem{w:World}{l:List qE}(h:Y2 w.cell? l v):Calls prog 22 #[v] w (Do w λb=>b=true->l.length<=2147483647):=by
 obtain⟨p,c,rfl,mO,hc,hp⟩:=kw.shape yP (by decide) h;have HP:=hid hp;have H:=hid h;obtain⟨n,hn⟩:=zex (l.length);rw[<-hn]at mO⊢;have HN:=hid hn;clear h hp hn;by_cases hbig:2147483647<n
 ·have t1:decide (2147483647<(n:Int))=true:=by simp;omega
  go_enter func22,ntmps22;go_wp2;go_returns;exact⟨_,rfl,za.refl w,λe=>by cases e⟩
 have t1:decide (2147483647<(n:Int))=false:=by simp;omega
 go_enter func22,ntmps22;go_wp2;go_loopw [10] (λi wr=>∃k:Nat,k<=n/\i=.int .i64 k/\za w wr) (λi _=>n-(intOf i).toNat)
 case atStart=>exact⟨0,Nat.zero_le _,rfl,za.refl w⟩
 case round=>
  obtain⟨k,hk,rfl,sS⟩:=hrel;by_cases Hb:k<n
  ·have pE:k<l.length:=by rw[<-HN.out];exact Hb
   obtain⟨b,o,rfl⟩:=HP.out (xr pE);obtain⟨d0,d1,d2⟩:=Vv (kw.range yP (H.out.mono sS.le) pE);obtain⟨ke,e1⟩:∃z,zb l[k].key=.string z:=⟨_,rfl⟩;obtain⟨st,e2⟩:∃z,zb l[k].stop=.string z:=⟨_,rfl⟩;rw[e1]at d1;rw[e2]at d2;have TE:=hid sS;clear sS e1 e2;go_wp2_with (refine zcg.mono ?_;rintro e w2 ⟨b2,rfl,Hj,_⟩)
   ·go_returns;exact⟨_,rfl,TE.out.trans (za.trans ((za.refl wr).alloc _) Hj),λe=>by cases e⟩
   ·go_roundw
    case rel=>exact⟨k+1,by omega,by go_num,TE.out.trans (za.trans ((za.refl wr).alloc _) Hj)⟩
    case measure=>simp[intOf];omega
  ·go_wp2;go_returns;exact⟨_,rfl,sS,λ_=>by omega⟩
def GE(l:List qE)(k:Nat):Prop:=∀i j (hi:i<l.length) (_:i<k) (hj:j<i),l[i].key≠l[j].key
def DU(l:List qE)(b:Bool):Prop:=b=true->GE l l.length
def zbW(l:List qE)(i j:Nat):Prop:=∀(hi:i<l.length) q (hq:q<i) (_:q<j),l[i].key≠l[q].key
theorem zdn{w:World}{l:List qE}(h:Y2 w.cell? l v):Calls prog 24 #[v] w (Do w (DU l)):=by
 obtain⟨p,c,rfl,mO,hc,hp⟩:=kw.shape yP (by decide) h;have HP:=hid hp;have H:=hid h;obtain⟨n,hn⟩:=zex (l.length);rw[<-hn]at mO⊢;have HN:=hid hn;clear h hp hn;go_enter func24,ntmps24;go_wp2;go_loopw [7] (λi wr=>∃k:Nat,k<=n/\i=.int .i64 k/\za w wr/\GE l k) (λi _=>n-(intOf i).toNat)
 case atStart=>exact⟨0,Nat.zero_le _,rfl,za.refl w,λi j hi h0=>absurd h0 (Nat.not_lt_zero _)⟩
 case round=>
  obtain⟨k,hk,rfl,sS,Rj⟩:=hrel;by_cases Hb:k<n
  ·have pE:k<l.length:=by rw[<-HN.out];exact Hb
   obtain⟨b,o,rfl⟩:=HP.out (xr pE);have TE:=hid sS;have HAP:=hid Rj;obtain⟨wo,CC⟩:=zex (wr);rw[<-CC]at TE⊢;clear sS Rj CC;go_wp2;go_loopw [11] (λj wr=>∃q:Nat,q<=k/\j=.int .i64 q/\za w wr/\zbW l k q) (λj _=>k-(intOf j).toNat)
   case atStart=>exact⟨0,Nat.zero_le _,rfl,TE.out,λhi q hq h0=>absurd h0 (Nat.not_lt_zero _)⟩
   case round=>
    obtain⟨q,hq,rfl,P2,iG⟩:=hrel;by_cases hqk:q<k
    ·have MO:q<l.length:=by omega
     obtain⟨_,d1,_⟩:=Vv (kw.range yP (H.out.mono P2.le) pE);obtain⟨_,d2,_⟩:=Vv (kw.range yP (H.out.mono P2.le) MO);have LV:=hid P2;have HAQ:=hid iG;have hgS:(k:Int)<n:=by omega
     have hgT:(q:Int)<n:=by omega
     clear P2 iG;unfold zb at d1 d2;by_cases S8:l[k].key=l[q].key
     ·have Pb:(l[k].key==l[q].key)=true:=by simp[S8]
      have HEQ:=hid S8;clear S8;go_wp2;go_quiet ((fail));go_wp2;go_returns;exact⟨false,rfl,LV.out.drewN _,λe=>by cases e⟩
     ·have Pb:(l[k].key==l[q].key)=false:=by simp[S8]
      have HEQ:=hid S8;clear S8;go_wp2;go_quiet ((fail));go_wp2;go_roundw
      case rel=>
       refine⟨q+1,by omega,by go_num,LV.out.drewN _,λhi r hr h0=> ?_⟩;by_cases e:r=q
       ·subst e;exact HEQ.out
       ·exact HAQ.out hi r hr (by omega)
      case measure=>simp[intOf];omega
    ·have lw:q=k:=by omega
     subst lw;have LV:=hid P2;have HAQ:=hid iG;clear P2 iG;go_wp2;go_roundw
     case rel=>
      refine⟨q+1,by omega,by go_num,LV.out,λi j hi h0 hj=> ?_⟩;by_cases e:i=q
      ·subst e;exact HAQ.out hi j hj hj
      ·exact HAP.out i j hi (by omega) hj
     case measure=>simp[intOf];omega
  ·have ph:k=n:=by omega
   have TE:=hid sS;have HAP:=hid Rj;clear sS Rj;go_wp2;go_returns;exact⟨true,rfl,TE.out,λ_=>by rw[<-HN.out,<-ph];exact HAP.out⟩
end Go.Proofs.YtbmdoinjkligiaaGreat
