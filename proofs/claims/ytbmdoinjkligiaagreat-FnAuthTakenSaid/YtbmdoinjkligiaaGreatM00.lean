/- Contracts and laws that the last text joins. -/
import Derived.WalkKit
import Derived.WalkSpells
import Derived.WalkLawsBesides
import Derived.Lib.Hide
import Derived.Laws.AppendOwnNone
import Derived.Deep.QuietTactic
import Derived.BigQuiet
import Derived.StillTailTactics
import Derived.Deep.RegionWith
import Derived.Deep.DeepMust
import Derived.Deep.DeepFit
import Derived.Deep.LoopGhost
import Derived.Test.YtbmdoinjkligiaaGreatProg
import Derived.Deep.RegionLaw
import Derived.Laws.CopyOwn
import Derived.Maps.RangeRun
import Derived.Maps.Keyed
import Derived.Maps.OwnSet
import Derived.Maps.Range
set_option maxRecDepth 100000
set_option maxHeartbeats 40000000
set_option linter.all false
namespace Go.Proofs.YtbmdoinjkligiaaGreat
open Tryz
open Lib(hid)
theorem zex.{u}{α:Sort u}(a:α): ∃x,x=a:=⟨a,rfl⟩
open Go.RowKit
abbrev Rd:=Addr->Option Value
def Rd.le(r r':Rd):Prop:=∀a v,r a=some v->r' a=some v
theorem Rd.le_refl(r:Rd):r.le r:=λ_ _ h=>h
theorem Rd.le.le_trans{a b c:Rd}(h:a.le b)(k:b.le c):a.le c:=λx v hx=>k x v (h x v hx)
structure zq(S:Nat->Prop)(w w':World):Prop where
 os:w'.os=w.os
 tape:w'.tape=w.tape
 output:w'.output=w.output
 size:w.heap.size<=w'.heap.size
 block:∀k,k<w.heap.size->¬S k->w'.heap[k]? =w.heap[k]?
theorem zq.refl(S:Nat->Prop)(w:World):zq S w w:=⟨rfl,rfl,rfl,Nat.le_refl _,λ_ _ _=>rfl⟩
variable{S:Nat->Prop}
theorem zq.trans{S':Nat->Prop}{a b c:World}(h:zq S a b)(k:zq S' b c)(hs:∀x,x<a.heap.size->S' x->S x):zq S a c:=
 ⟨k.os.trans h.os,k.tape.trans h.tape,k.output.trans h.output,Nat.le_trans h.size k.size,λi hi hn=>(k.block i (Nat.lt_of_lt_of_le hi h.size) (λe=>hn (hs i hi e))).trans (h.block i hi hn)⟩
variable{w':World}
theorem zq.mono{S':Nat->Prop}{w:World}(h:zq S w w')(hs:∀x,x<w.heap.size->S x->S' x):zq S' w w':=⟨h.os,h.tape,h.output,h.size,λk hk hn=>h.block k hk (λe=>hn (hs k hk e))⟩
theorem zq.drew{a w:World}(h:zq S a w):zq S a w.drew:=⟨h.os,h.tape,h.output,h.size,h.block⟩
theorem zq.drewN{a w:World}(h:zq S a w)(n:Nat):zq S a (w.drewN n):=⟨h.os,h.tape,h.output,h.size,h.block⟩
theorem zq.alloc{a w:World}(h:zq S a w)(o:Obj):zq S a (w.alloc o):=
 ⟨h.os,h.tape,h.output,by have:=h.size;simp;omega,λk hk hn=>(Below.heap_alloc _ _ _ (Nat.lt_of_lt_of_le hk h.size)).trans (h.block k hk hn)⟩
theorem zq.setCell{a w:World}(h:zq S a w){p:Addr}(hp:p.block<a.heap.size->S p.block)(u:Value):zq S a (w.setCell p u):=
 ⟨h.os,h.tape,h.output,by have:=h.size;simpa[World.setCell]using this,λk hk hn=>(Below.heap_setCell _ _ _ _ (λe=>hn (by subst e;exact hp hk))).trans (h.block k hk hn)⟩
variable{v:Value}
theorem zq.cell{w:World}(h:zq S w w'){p:Addr}(hs: ¬S p.block)(hc:w.cell? p=some v):w'.cell? p=some v:=by rw[World.cell?_of_block (w:=w) (h.block p.block (World.block_lt_of_cell? w p hc) hs)];exact hc
noncomputable def im(S:Nat->Prop)(w:World):Rd:=λa=>by classical exact if S a.block then none else w.cell? a
theorem zi{w:World}{a:Addr}:im S w a=some v↔¬S a.block/\w.cell? a=some v:=by unfold im;classical by_cases h:S a.block<;>simp[h]
theorem zd(S:Nat->Prop)(w:World):(im S w).le w.cell? :=λ_ _ h=>(zi.1 h).2
theorem zq.im{S':Nat->Prop}{w:World}(h:zq S w w')(hs:∀x,x<w.heap.size->S' x->S x):(im S w).le (im S' w'):=λa v ha=>by obtain⟨hn,hc⟩:=zi.1 ha;exact zi.2 ⟨λe=>hn (hs _ (World.block_lt_of_cell? w a hc) e),h.cell hn hc⟩
theorem jn{S':Nat->Prop}{w:World}(hs:∀x,S' x->S x):(im S w).le (im S' w):=λa v ha=>by obtain⟨hn,hc⟩:=zi.1 ha;exact zi.2 ⟨λe=>hn (hs _ e),hc⟩
def Bs(r:Rd)(l:List UInt8)(v:Value):Prop:=
 ∃p n c,v=.slice p n c/\l.length=n/\n<=c/\c<=9223372036854775807/\(p=none->c=0)/\(n=0\/∃b o,p=some ⟨b,o,none⟩/\∀i (h:i<l.length),r ⟨b,o+i,none⟩=some (.int .u8 l[i].toNat))
variable{r r':Rd}
theorem Bs.mono(hr:r.le r'){l:List UInt8}(h:Bs r l v):Bs r' l v:=by
 obtain⟨p,n,c,h1,h2,h3,h4,h6,h5⟩:=h;refine⟨p,n,c,h1,h2,h3,h4,h6,?_⟩;rcases h5 with h5|⟨b,o,hp,hc⟩
 ·exact Or.inl h5
 ·exact Or.inr ⟨b,o,hp,λi hi=>hr _ _ (hc i hi)⟩
theorem Bs.nil(r:Rd):Bs r [] (.slice none 0 0):=⟨none,0,0,rfl,rfl,Nat.le_refl _,by omega,λ_=>rfl,Or.inl rfl⟩
def Gb(r:Rd)(p:Option Addr)(cs:List Value):Prop:=cs=[]\/∃b o,p=some ⟨b,o,none⟩/\∀i (h:i<cs.length),r ⟨b,o+i,none⟩=some cs[i]
def Sl(r:Rd)(sz:Nat)(cs:List Value)(v:Value):Prop:=∃p n c,v=.slice p n c/\cs.length=n*sz/\n<=c/\c<=9223372036854775807/\(p=none->c=0)/\Gb r p cs
variable{cs:List Value}
theorem Gb.mono(hr:r.le r'){p:Option Addr}(h:Gb r p cs):Gb r' p cs:=by
 rcases h with h|⟨b,o,hp,hc⟩
 ·exact Or.inl h
 ·exact Or.inr ⟨b,o,hp,λi hi=>hr _ _ (hc i hi)⟩
variable{sz:Nat}
theorem Sl.mono(hr:r.le r')(h:Sl r sz cs v):Sl r' sz cs v:=by obtain⟨p,n,c,h1,h2,h3,h4,h6,h5⟩:=h;exact⟨p,n,c,h1,h2,h3,h4,h6,h5.mono hr⟩
theorem Sl.nil(r:Rd)(sz:Nat):Sl r sz [] (.slice none 0 0):=⟨none,0,0,rfl,by simp,Nat.le_refl _,by omega,λ_=>rfl,Or.inl rfl⟩
def zt:List UInt8->List UInt8->Int
 |[],[]=>0
 |[],_::_=> -1
 |_::_,[]=>1
 |a::c,b::d=>if a<b then -1 else if b<a then 1 else zt c d
structure yy(P:Program)(t e:TypeId)(z:Value)(sz bytes:Nat):Prop where
 under:P.underlying t=some (.slice e)
 info:(P.info? e).map (λi=>(i.zero,i.size,i.bytes))=some (some z,sz,bytes)
 zs:z.cells.size=sz
 pos:0<sz
theorem zq.of_grown{w:World}{row:Option Nat}(h:w.grownBy w' row):zq (λb=>row=some b) w w':=
 ⟨h.os,h.tape,h.output,h.size,λk hk hn=>h.block k hk (λe=>hn e.symm)⟩
variable{base n:Nat}{e:TypeId}{xs:List Value}
theorem Sl.of_own{w:World}(h:w.ownsRow base e sz v n xs):Sl w.cell? sz xs v:=by
 rcases h.2 with⟨rfl,rfl⟩|⟨g,cap,cur,rfl,hb,hg,hn,hm,hs,ht⟩
 ·have:xs=[]:=List.eq_nil_of_length_eq_zero (by simpa using h.1);subst this;exact Sl.nil _ _
 ·refine⟨_,n,cap,rfl,h.1,hn,by simpa[maxLen]using hm,(λh=>by cases h),Or.inr ⟨g,0,rfl,λi hi=> ?_⟩⟩;have:=World.ownsRow.cells h (g:=g) rfl i xs[i] (by simp[hi]);have e:(⟨g,0,none⟩:Addr).add i=⟨g,0+i,none⟩:=by unfold Addr.add;split<;>simp_all
  rwa [e]at this
theorem vG{w:World}{g:Nat}(hb:base<=g)(hg:w.heap[g]? =some (.cells #[] e (0,0))):w.ownsRow base e sz (.slice (some ⟨g,0,none⟩) 0 0) 0 []:=
 ⟨by simp,Or.inr ⟨g,0,#[],rfl,hb,hg,Nat.le_refl _,by simp[maxLen],by simp,by simp⟩⟩
abbrev za(w w':World):Prop:=zq (λ_=>False) w w'
theorem za.refl(w:World):za w w:=zq.refl _ w
theorem za.trans{a b c:World}(h:za a b)(k:za b c):za a c:=zq.trans h k (λ_ _ h=>h)
theorem za.le{w:World}(h:za w w'):Rd.le w.cell? w'.cell? :=λ_ _ hc=>h.cell (λe=>e) hc
theorem za.mod{w:World}(h:za w w')(S:Nat->Prop):zq S w w':=h.mono λ_ _ e=>e.elim
variable{b:Nat}
theorem za.heap{w:World}(h:za w w'){o:Obj}(hb:w.heap[b]? =some o):w'.heap[b]? =some o:=by rw[h.block b (Array.getElem?_eq_some_iff.1 hb).1 (λe=>e)];exact hb
theorem za.im{w:World}(h:za w w')(S:Nat->Prop):(im S w).le (im S w'):=(h.mod S).im λ_ _ h=>h
theorem za.of_grown{w0 w:World}{row:Option Nat}(h0:za w0 w)(h:w.grownBy w' row)(hr:∀k,row=some k->w0.heap.size<=k):za w0 w':=
 ⟨h.os.trans h0.os,h.tape.trans h0.tape,h.output.trans h0.output,Nat.le_trans h0.size h.size,λk hk _=>
  (h.block k (Nat.lt_of_lt_of_le hk h0.size) (λe=>by have:=hr k e.symm;omega)).trans (h0.block k hk (λe=>e))⟩
abbrev ql(x:UInt8):Value:=.int .u8 x.toNat
theorem Bs.sl{l:List UInt8}(h:Bs r l v):Sl r 1 (l.map ql) v:=by
 obtain⟨p,n,c,rfl,hl,hn,hc,hp,h5⟩:=h;refine⟨p,n,c,rfl,by simpa using hl,hn,hc,hp,?_⟩;rcases h5 with h5|⟨b,o,hp,hc⟩
 ·exact Or.inl (by rw[List.eq_nil_of_length_eq_zero (by omega:l.length=0)];rfl)
 ·exact Or.inr ⟨b,o,hp,λi hi=>by simpa using hc i (by simpa using hi)⟩
theorem Bs.of_sl{l:List UInt8}(h:Sl r 1 (l.map ql) v):Bs r l v:=by
 obtain⟨p,n,c,rfl,hl,hn,hc,hp,h5⟩:=h;refine⟨p,n,c,rfl,by simpa using hl,hn,hc,hp,?_⟩;rcases h5 with h5|⟨b,o,hp,hc⟩
 ·exact Or.inl (by
  have:l=[]:=by simpa using h5
  subst this;simpa using hl.symm)
 ·exact Or.inr ⟨b,o,hp,λi hi=>by have:=hc i (by simpa using hi);simpa using this⟩
theorem jF(l:List UInt8):∀u∈l.map ql,u.oneCell'=true:=by intro u hu;obtain⟨x,_,rfl⟩:=List.mem_map.1 hu;rfl
variable{P:Program}{bytes:Nat}
theorem qy{w:World}{ops:Array Oper}{rest:List Oper}{o:Oper}{a:Act}{Q:Exit->Act->World->Prop}{t:TypeId}{z:Value}
  (E:yy P t e z sz bytes)(Tc:o.guard=none){s x:Operand}(ho:o.op=.call {callee:=.builtin .append,args:= #[s,x],argTypes:= #[t,t]})
  {w0:World}(hN:za w0 w){v:Value}{n:Nat}{xs:List Value}(Ha:w.ownsRow w0.heap.size e sz v n xs)(hs:a.eval s=v)
  {xv:Value}{news:List Value}(hx:a.eval x=xv)(rq:Sl w.cell? sz news xv)(h1:∀u∈news,u.oneCell'=true)
  (PM:(xs.length+news.length)*(bytes+1)<=140737488355328)
  (h:∀v' w' m,news.length=m*sz->w'.ownsRow w0.heap.size e sz v' (n+m) (xs++news)->za w0 w'->w.grownBy w' v.ownBlock->Sl w'.cell? sz (xs++news) v'->wpList P ops Q rest (a.put o.dst v') w'):wpList P ops Q (o::rest) a w:=by
 obtain⟨i,hi,hz,pL,TF⟩:=info_parts E.info;obtain⟨p,m,c,rfl,hl,CI,hc,NL,H_⟩:=rq;have mh:xs.length=n*sz:=Ha.1;have s_:=E.pos;have RE:n<=xs.length:=by rw[mh];exact Nat.le_mul_of_pos_right _ s_
 have ax:m<=news.length:=by rw[hl];exact Nat.le_mul_of_pos_right _ s_
 have mX:n+m<=maxLen:=by have:(xs.length+news.length)*1<=(xs.length+news.length)*(bytes+1):=Nat.mul_le_mul_left _ (by omega);simp only[maxLen];omega
 have pw:(n+m)*bytes<=140737488355328:=Nat.le_trans (Nat.mul_le_mul (by omega) (by omega)) PM;have Hv:∀v' w',w'.ownsRow w0.heap.size e sz v' (n+m) (xs++news)->w.grownBy w' v.ownBlock->wpList P ops Q rest (a.put o.dst v') w':=λv' w' h2 h3=>
  h v' w' m hl h2 (hN.of_grown h3 (λk hk=>(World.ownsRow.lt Ha k hk).1)) h3 (Sl.of_own h2)
 cases p with
 |some ad=>
  refine wpList_append_own w Tc s x t ho w0.heap.size e i z sz bytes E.under hi hz pL TF E.zs E.pos v n xs hs Ha ad m c news hx hl ?_ h1 mX pw hN.size (λv' w' h2 h3 _=>Hv v' w' h2 h3);intro j u hj;rcases H_ with Ra|⟨b,o',hp,Hc⟩
  ·subst Ra;simp at hj
  ·simp only[Option.some.injEq]at hp;subst hp;have rC:j<news.length:=(List.getElem?_eq_some_iff.1 hj).1;have e1:(⟨b,o',none⟩:Addr).add j=⟨b,o'+j,none⟩:=by unfold Addr.add;split<;>simp_all
   rw[e1,Hc j rC,<-hj,List.getElem?_eq_getElem rC]
 |none=>
  have PK:news=[]:=by
   rcases H_ with Ra|⟨b,o',hp,_⟩
   ·exact Ra
   ·cases hp
  subst PK;have CJ:m=0:=by
   rcases Nat.eq_zero_or_pos m with h0|h0
   ·exact h0
   ·have:0<m*sz:=Nat.mul_pos h0 E.pos;simp at hl;omega
  subst CJ;obtain rfl:c=0:=NL rfl;exact wpList_append_own_none Tc s x t ho w0.heap.size e i sz E.under hi v n xs hs Ha hx (Hv v w (by simpa using Ha) ⟨rfl,rfl,rfl,Nat.le_refl _,λ_ _ _=>rfl⟩)
theorem Sl.shape(h:Sl r sz cs v):∃p n c,v=.slice p n c:=by obtain⟨p,n,c,rfl,_⟩:=h;exact⟨p,n,c,rfl⟩
theorem Bs.shape{l:List UInt8}(h:Bs r l v):∃p n c,v=.slice p n c/\l.length=n:=by obtain⟨p,n,c,rfl,hl,_⟩:=h;exact⟨p,n,c,rfl,hl⟩
variable{c:Nat}
theorem Sl.part{p:Option Addr}(h:Sl r sz cs (.slice p n c))(l m:Nat)(hl:l<=m)(hm:m<=n):
  Sl r sz ((cs.take (m*sz)).drop (l*sz)) (.slice (if c=l then p else p.map (·.add (l*sz))) (m-l) (c-l)):=by
 obtain⟨p',n',c',e,h_,hn,hc,hp,H_⟩:=h;simp only[Value.slice.injEq]at e;obtain⟨rfl,rfl,rfl⟩:=e;have h1:m*sz<=n*sz:=Nat.mul_le_mul_right _ hm;have h2:l*sz<=m*sz:=Nat.mul_le_mul_right _ hl;have Mr:((cs.take (m*sz)).drop (l*sz)).length=(m-l)*sz:=by simp only[List.length_drop,List.length_take,h_,Nat.sub_mul];omega
 refine⟨_,m-l,c-l,rfl,Mr,by omega,by omega,?_,?_⟩
 ·intro h0;split at h0
  ·have:=hp h0;omega
  ·cases p with
   |none=>have:=hp rfl;omega
   |some a=>cases h0
 ·rcases H_ with h0|⟨b,o,hb,Hc⟩
  ·left;simp[h0]
  ·by_cases rD:c=l
   ·left;have:m=l:=by omega
    subst this;exact List.eq_nil_of_length_eq_zero (by rw[Mr];simp)
   ·right;refine⟨b,o+l*sz,?_,λi hi=> ?_⟩
    ·rw[if_neg rD,hb];simp only[Option.map_some,Option.some.injEq,Addr.add];split
     ·rename_i h0;simp
     ·rfl
    ·rw[Nat.add_assoc,Hc (l*sz+i) (by rw[Mr]at hi;simp only[Nat.sub_mul]at hi;omega)];simp
theorem k6{t:TypeId}{z:Value}(E:yy P t e z sz bytes)(h:Sl r sz cs v)(l:Nat)(hl:l*sz<=cs.length):
  ∃v',(∀W,(Instr.slice t v (some (.int .i64 l)) none none).run P W=.ok v' W)/\Sl r sz (cs.drop (l*sz)) v':=by
 obtain⟨p,n,c,rfl,h_,hn,hc,hp,H_⟩:=id h;obtain⟨i,hi,hz,pL,TF⟩:=info_parts E.info;have hln:l<=n:=by rw[h_]at hl;exact Nat.le_of_mul_le_mul_right hl E.pos
 refine⟨_,λW=> ?_,by have:=h.part l n hln (Nat.le_refl _);rwa [<-h_,List.take_length]at this⟩;simp[Instr.slice,run_underlying E.under,Instr.sliceBounds,run_sliceBound (P:=P) W .i64 (l:Int) n .sliceB (by omega) (by omega),sizeOf,typeInfo,hi,pL]
theorem YD{t:TypeId}{z:Value}(E:yy P t e z sz bytes)(h:Sl r sz cs v)(m:Nat)(hm:m*sz<=cs.length):
  ∃v',(∀W,(Instr.slice t v none (some (.int .i64 m)) none).run P W=.ok v' W)/\Sl r sz (cs.take (m*sz)) v':=by
 obtain⟨p,n,c,rfl,h_,hn,hc,hp,H_⟩:=id h;obtain⟨i,hi,hz,pL,TF⟩:=info_parts E.info;have ax:m<=n:=by rw[h_]at hm;exact Nat.le_of_mul_le_mul_right hm E.pos
 refine⟨_,λW=> ?_,by have:=h.part 0 m (Nat.zero_le _) ax;rwa [Nat.zero_mul,List.drop_zero]at this⟩;simp[Instr.slice,run_underlying E.under,Instr.sliceBounds,run_sliceBound (P:=P) W .i64 (m:Int) c .sliceAcap (by omega) (by omega),sizeOf,typeInfo,hi]
theorem Sl.im_of{w:World}(h:Sl w.cell? sz cs v)(hf:∀b,v.ownBlock=some b->¬S b):Sl (im S w) sz cs v:=by
 obtain⟨p,n,c,rfl,h1,h2,h3,h4,h5⟩:=h;refine⟨p,n,c,rfl,h1,h2,h3,h4,?_⟩;rcases h5 with h5|⟨b,o,rfl,hc⟩
 ·exact Or.inl h5
 ·exact Or.inr ⟨b,o,rfl,λi hi=>zi.2 ⟨hf b rfl,hc i hi⟩⟩
theorem Bs.im_of{w:World}{l:List UInt8}(h:Bs w.cell? l v)(hf:∀b,v.ownBlock=some b->¬S b):Bs (im S w) l v:=
 Bs.of_sl (h.sl.im_of hf)
theorem Jc{w:World}(h:w.ownsRow base e sz v n xs):∀b,v.ownBlock=some b->base<=b:=λb hb=>(World.ownsRow.lt h b hb).1
theorem Sl.made(w:World)(cs:List Value)(T sz n:Nat)(h:cs.length=n*sz)(hn:n<=9223372036854775807):Sl (w.alloc (.cells cs.toArray T)).cell? sz cs (.slice (some ⟨w.heap.size,0,none⟩) n n):=by refine⟨_,n,n,rfl,h,Nat.le_refl _,hn,(λe=>by cases e),Or.inr ⟨w.heap.size,0,rfl,λi hi=> ?_⟩⟩;rw[World.cell?_alloc_new];simp[hi]
variable{W:World}
theorem k7{w:World}(h:za w W)(S:Nat->Prop):(im S w).le W.cell? :=(zd S w).le_trans h.le
theorem zg(w:World)(o:Obj):(w.alloc o).heap[w.heap.size]? =some o:=heap_alloc_new w o
def Z2(w:World)(l:List UInt8)(v:Value):Prop:=Bs w.cell? l v
theorem Yb{P:Program}(w:World):∀(l:List UInt8) (b o:Nat) (acc:ByteArray),(∀i (h:i<l.length),w.cell? ⟨b,o+i,none⟩=some (.int .u8 l[i].toNat))->
  (Extern.Bytes.loadBytes ⟨b,o,none⟩ l.length acc).run P w=.ok ⟨acc.data++l.toArray⟩ w
 |[],b,o,acc,_=>by simp[Extern.Bytes.loadBytes]
 |x::l,b,o,acc,h=>by
  have h0:=h 0 (by simp);simp only[Nat.add_zero,List.getElem_cons_zero]at h0;have ih:=Yb (P:=P) w l b (o+1) (acc.push x) (λi hi=>by have:=h (i+1) (by simp;omega);simpa[Nat.add_assoc,Nat.add_comm 1 i]using this)
  have ha:(⟨b,o,none⟩:Addr).add 1=⟨b,o+1,none⟩:=by simp[Addr.add]
  have hx:((x.toNat:Int)).toNat.toUInt8=x:=by simp
  simp only[List.length_cons,Extern.Bytes.loadBytes,Sem.run_bind,run_load,h0,Result.andThen];rw[ha,hx,ih];simp[ByteArray.push]
theorem Jx{w:World}{l:List UInt8}(h:Z2 w l v):(Extern.Bytes.bytesOf v).run P w=.ok ⟨l.toArray⟩ w:=by
 obtain⟨p,n,c,rfl,hl,_,_,_,h5⟩:=h;cases p with
 |none=>
  have:l=[]:=by
   rcases h5 with h5|⟨b,o,hp,_⟩
   ·exact List.eq_nil_of_length_eq_zero (by omega)
   ·cases hp
  subst this;rfl
 |some a=>
  rcases h5 with h5|⟨b,o,hp,hc⟩
  ·have:l=[]:=List.eq_nil_of_length_eq_zero (by omega);subst this;subst h5;rfl
  ·cases hp;have:=Yb (P:=P) w l b o .empty hc;rw[<-hl];simpa[Extern.Bytes.bytesOf]using this
theorem D1(a b:List UInt8):Extern.BytealgCompare.cmp ⟨a.toArray⟩ ⟨b.toArray⟩=zt a b:=by
 have gen:∀(a b:List UInt8) (k:Nat),(∀i,(h:i<k)->a[i]? =b[i]?)->k<=a.length->k<=b.length->
   (match (List.range' k (min a.length b.length-k)).find? λi=>a[i]?.getD 0 !=b[i]?.getD 0 with
   |some i=>if a[i]?.getD 0<b[i]?.getD 0 then (-1:Int)else 1
   |none=>if a.length<b.length then -1 else if a.length>b.length then 1 else 0)=zt (a.drop k) (b.drop k):=by
  intro a b;have key:∀(d k:Nat),d=min a.length b.length-k->k<=a.length->k<=b.length->
   (match (List.range' k (min a.length b.length-k)).find? λi=>a[i]?.getD 0 !=b[i]?.getD 0 with
   |some i=>if a[i]?.getD 0<b[i]?.getD 0 then (-1:Int)else 1
   |none=>if a.length<b.length then -1 else if a.length>b.length then 1 else 0)=zt (a.drop k) (b.drop k):=by
   intro d
   induction d with
   |zero=>
    intro k hd ha hb;rw[<-hd];rcases Nat.lt_or_ge k a.length with h|h
    ·have PX:k=b.length:=by omega
     rw[List.drop_eq_getElem_cons h];have e:b.drop k=[]:=by rw[PX,List.drop_length]
     rw[e];simp only[List.range'_zero,List.find?_nil,zt];rw[if_neg (by omega),if_pos (by omega)]
    ·have LW:k=a.length:=by omega
     subst LW;rcases Nat.lt_or_ge a.length b.length with h'|h'
     ·rw[List.drop_eq_getElem_cons h',List.drop_length];simp only[List.range'_zero,List.find?_nil,zt];rw[if_pos (by omega)]
     ·have e:a.length=b.length:=by omega
      rw[List.drop_length,e,List.drop_length];simp[zt]
   |succ d ih=>
    intro k hd ha hb;have LW:k<a.length:=by omega
    have PX:k<b.length:=by omega
    rw[<-hd,List.range'_succ,List.find?_cons];rw[List.drop_eq_getElem_cons LW,List.drop_eq_getElem_cons PX];simp only[zt];by_cases he:a[k]=b[k]
    ·have e1:(a[k]?.getD 0 !=b[k]?.getD 0)=false:=by simp[LW,PX,he]
     have hs:=ih (k+1) (by omega) (by omega) (by omega);rw[show d=min a.length b.length-(k+1)from by omega,e1];simp only[hs,he,UInt8.lt_irrefl,if_false]
    ·have e1:(a[k]?.getD 0 !=b[k]?.getD 0)=true:=by simp[LW,PX,he]
     rw[e1];simp only[List.getElem?_eq_getElem LW,List.getElem?_eq_getElem PX,Option.getD_some];by_cases Hb:a[k]<b[k]
     ·simp[Hb]
     ·have:b[k]<a[k]:=by
       rcases UInt8.lt_or_lt_of_ne he with h|h
       ·exact absurd h Hb
       ·exact h
      simp[Hb,this]
  intro k _ ha hb;exact key _ k rfl ha hb
 have h0:=gen a b 0 (by omega) (by omega) (by omega);simp only[List.drop_zero,Nat.sub_zero,<-List.range_eq_range']at h0;rw[<-h0];unfold Extern.BytealgCompare.cmp;have e:∀(l:List UInt8) (i:Nat),(ByteArray.mk l.toArray)[i]! =l[i]?.getD 0:=by
  intro l i;by_cases h:i<l.length
  ·rw[getElem!_pos _ i (by simpa[ByteArray.size]using h),List.getElem?_eq_getElem h];rfl
  ·rw[getElem!_neg _ i (by simpa[ByteArray.size]using h),List.getElem?_eq_none (by omega)];rfl
 simp only[e,ByteArray.size,List.size_toArray];split<;>rename_i h<;>simp only[h]
theorem Q3{l m:List UInt8}{u:Value}{w:World}(h1:Z2 w l v)(h2:Z2 w m u):
  (callFunc 117 #[v,u]).run prog w=.ok (.value (.int .i64 (zt l m))) w:=by
 rw[run_callFunc_extern (e:=Extern.BytealgCompare.compare) func117 (by kernel_rfl) (by kernel_rfl) (by kernel_rfl) (by kernel_rfl)];have e:(Extern.BytealgCompare.compare #[v,u]).run prog w=.ok (.int .i64 (zt l m)) w:=by change Sem.run prog (do let x<-Extern.Bytes.bytesOf v;let y<-Extern.Bytes.bytesOf u;pure (goInt (Extern.BytealgCompare.cmp x y))) w=_;simp only[Sem.run_bind,Jx h1,Jx h2,Result.andThen,Sem.run_pure,goInt,D1]
 rw[e];rfl
theorem q_{l m:List UInt8}{u:Value}{w:World}(h1:Z2 w l v)(h2:Z2 w m u):
  Calls prog 104 #[v,u] w λe w'=>e=.returned (.int .i64 (zt l m))/\w=w':=by
 have hr:=Q3 h1 h2;clear h1 h2;go_enter func104,ntmps104;go_wp2;go_ret;exact⟨rfl,rfl⟩
theorem kN{l:List UInt8}{w:World}(h:Z2 w l v)(src e dst:TypeId)(hs:prog.underlying src=some (.slice e))(he:prog.underlying e=some (.int .u8))(hd:prog.underlying dst=some .string):
  (convert src dst v).run prog w=.ok (.string ⟨l.toArray⟩) w:=by
 obtain⟨p,n,c,rfl,hl,_,_,_,h5⟩:=h;have hn:strOfNums (l.map λx=>(x.toNat:Int))=⟨l.toArray⟩:=by unfold strOfNums;rw[List.map_map,show((λn:Int=>UInt8.ofNat n.toNat)∘λx:UInt8=>(x.toNat:Int))=id from by funext x;simp,List.map_id]
 have hz:n=0->(convert src dst (.slice p n c)).run prog w=.ok (.string ⟨l.toArray⟩) w:=by
  intro h0;have:l=[]:=List.eq_nil_of_length_eq_zero (by omega);subst this;subst h0;cases p with
  |none=>exact run_convert_bytes_nil w src e hs he _ _ dst hd
  |some a=>rw[run_convert_bytes_string w src dst e _ 0 c hs he hd,run_bytesToString w a 0 c [] (by rfl)];rfl
 rcases h5 with h5|⟨b,o,rfl,hc⟩
 ·exact hz h5
 ·rw[run_convert_bytes_arg (P:=prog) w src e hs he b o n c (l.map λx=>(x.toNat:Int)) (by simpa using hl) (λi hi=>by rw[hc i (by omega)];simp[List.getD,List.getElem?_eq_getElem (show i<l.length by omega)]) dst hd,hn]
theorem GG(l m:List UInt8):((⟨l.toArray⟩:ByteArray)==⟨m.toArray⟩)=(l==m):=by show(l.toArray==m.toArray)=_;simp
theorem qe{l m:List UInt8}{u:Value}{w:World}(h1:Z2 w l v)(h2:Z2 w m u):
  Calls prog 100 #[v,u] w λe w'=>e=.returned (.bool (l==m))/\w=w':=by
 have c1:=kN h1 75 5 9 (by kernel_rfl) (by kernel_rfl) (by kernel_rfl);have c2:=kN h2 75 5 9 (by kernel_rfl) (by kernel_rfl) (by kernel_rfl);clear h1 h2;go_enter func100,ntmps100;go_wp2;go_ret;rw[<-GG];exact⟨by simp,rfl⟩
abbrev Bytes:=List UInt8
theorem Jd:∀a:Bytes,zt a a=0
 |[]=>rfl
 |x::a=>by simp[zt,Jd a]
theorem Zy:∀a b:Bytes,zt a b= -1\/zt a b=0\/zt a b=1
 |[],[]=>by simp[zt]
 |[],_::_=>by simp[zt]
 |_::_,[]=>by simp[zt]
 |x::a,y::b=>by
  simp only[zt];by_cases h:x<y
  ·simp[h]
  ·by_cases h':y<x
   ·simp[h,h']
   ·simp only[h,h',if_false];exact Zy a b
theorem Zz:∀{a b:Bytes},zt a b=0->a=b
 |[],[],_=>rfl
 |[],_::_,h=>by simp[zt]at h
 |_::_,[],h=>by simp[zt]at h
 |x::a,y::b,h=>by
  simp only[zt]at h;by_cases h1:x<y
  ·simp[h1]at h
  ·by_cases h2:y<x
   ·simp[h1,h2]at h
   ·simp only[h1,h2,if_false]at h;have e:x=y:=by
     simp only[UInt8.lt_iff_toNat_lt]at h1 h2;exact UInt8.toNat_inj.1 (by omega)
    rw[e,Zz h]
theorem YE:∀a b:Bytes,zt b a= -zt a b
 |[],[]=>rfl
 |[],_::_=>rfl
 |_::_,[]=>rfl
 |x::a,y::b=>by
  simp only[zt];by_cases h:x<y
  ·have: ¬y<x:=λh'=>by simp only[UInt8.lt_iff_toNat_lt]at h h';omega
   simp[h,this]
  ·by_cases h':y<x
   ·simp[h,h']
   ·simp only[h,h',if_false];exact YE a b
theorem qL:∀{a b c:Bytes},zt a b<0->zt b c<0->zt a c<0
 |[],_,[],h1,h2=>by rename_i b;cases b<;>simp[zt]at h1 h2
 |[],_,_::_,_,_=>by simp[zt]
 |x::a,[],c,h1,_=>by simp[zt]at h1
 |x::a,y::b,[],_,h2=>by simp[zt]at h2
 |x::a,y::b,z::c,h1,h2=>by
  simp only[zt]at h1 h2⊢;simp only[UInt8.lt_iff_toNat_lt]at h1 h2⊢;by_cases e1:x.toNat<y.toNat
  ·by_cases e2:y.toNat<z.toNat
   ·rw[if_pos (by omega)];omega
   ·rw[if_neg e2]at h2;by_cases e3:z.toNat<y.toNat
    ·rw[if_pos e3]at h2;omega
    ·rw[if_pos (by omega)];omega
  ·rw[if_neg e1]at h1;by_cases e3:y.toNat<x.toNat
   ·rw[if_pos e3]at h1;omega
   ·rw[if_neg e3]at h1;by_cases e2:y.toNat<z.toNat
    ·rw[if_pos (by omega)];omega
    ·rw[if_neg e2]at h2;by_cases e4:z.toNat<y.toNat
     ·rw[if_pos e4]at h2;omega
     ·rw[if_neg e4]at h2;rw[if_neg (by omega),if_neg (by omega)];exact qL h1 h2
theorem zI(a:Bytes): ¬zt a a<0:=by rw[Jd];omega
theorem yW{a b:Bytes}(h:zt a b<0): ¬zt b a<0:=by rw[YE];omega
theorem qI(a b:Bytes):zt a b<0\/a=b\/zt b a<0:=by
 rcases Zy a b with h|h|h
 ·left;omega
 ·right;left;exact Zz h
 ·right;right;rw[YE];omega
theorem vu{a b c:Bytes}(h1: ¬zt b a<0)(h2:zt b c<0):zt a c<0:=by
 rcases qI a b with h|h|h
 ·exact qL h h2
 ·subst h;exact h2
 ·exact absurd h h1
theorem fS{a b c:Bytes}(h1:zt a b<0)(h2: ¬zt c b<0):zt a c<0:=by
 rcases qI b c with h|h|h
 ·exact qL h1 h
 ·subst h;exact h1
 ·exact absurd h h2
def zM(ks:List Bytes):Prop:=ks.Pairwise λa b=>zt a b<0
def zk(ns:List Bytes)(x:Bytes):Nat:=(ns.takeWhile λy=>decide (zt y x<0)).length
theorem jo(ns:List Bytes)(x:Bytes):zk ns x<=ns.length:=by unfold zk;exact(List.takeWhile_sublist _).length_le
def zx(ns:List Bytes)(x:Bytes):Bool:=ns[zk ns x]? ==some x
theorem yQ(y:Bytes)(ns:List Bytes)(x:Bytes):zk (y::ns) x=if zt y x<0 then zk ns x+1 else 0:=by unfold zk;rw[List.takeWhile_cons];by_cases h:zt y x<0<;>simp[h]
theorem vw:∀{ns:List Bytes} {x:Bytes} {i:Nat} (h:i<ns.length),i<zk ns x->zt ns[i] x<0
 |y::ns,x,i,h,hi=>by
  rw[yQ]at hi;by_cases hy:zt y x<0
  ·rw[if_pos hy]at hi;cases i with
   |zero=>exact hy
   |succ i=>exact vw (ns:=ns) (by simpa using h) (by omega)
  ·rw[if_neg hy]at hi;omega
theorem jU:∀{ns:List Bytes} {x:Bytes} (h:zk ns x<ns.length),¬zt ns[zk ns x] x<0
 |[],_,h=>by simp at h
 |y::ns,x,h=>by
  by_cases hy:zt y x<0
  ·have e:zk (y::ns) x=zk ns x+1:=by rw[yQ,if_pos hy]
   have h':zk ns x<ns.length:=by rw[e]at h;simpa using h
   have:=jU h';simpa[e]using this
  ·have e:zk (y::ns) x=0:=by rw[yQ,if_neg hy]
   simpa[e]using hy
variable{ns:List Bytes}
theorem fT(hr:zM ns){x:Bytes}{i:Nat}(h:i<ns.length)(hi:zk ns x<=i): ¬zt ns[i] x<0:=by
 have hp:zk ns x<ns.length:=by omega
 have h0:=jU hp;rcases Nat.lt_or_ge (zk ns x) i with Hb|pD
 ·have:=List.pairwise_iff_getElem.1 hr _ _ hp h Hb;exact λhc=>h0 (qL this hc)
 ·have e:zk ns x=i:=by omega
  simpa[<-e]using h0
theorem kT(hr:zM ns)(x:Bytes):zx ns x=true↔x∈ns:=by
 unfold zx;constructor
 ·intro h;have h':ns[zk ns x]? =some x:=by simpa using h
  exact List.mem_of_getElem? h'
 ·intro h;obtain⟨i,hi,rfl⟩:=List.getElem_of_mem h;have h1:zk ns ns[i]=i:=by
   rcases Nat.lt_trichotomy (zk ns ns[i]) i with h1|h1|h1
   ·have hp:zk ns ns[i]<ns.length:=by omega
    exact absurd (List.pairwise_iff_getElem.1 hr _ _ hp hi h1) (jU hp)
   ·exact h1
   ·exact absurd (vw hi h1) (zI _)
  simp[h1]
theorem zw{f:FuncId}{args:Array Value}{w:World}
  (h:Calls P f args (w.drewN n) λe w'=>e=.returned v/\w.drewN n=w'):Calls P f args (w.drewN n) λe w''=>e=.returned v/\∃m,w''=w.drewN m:=
 h.mono λ_ _ ⟨he,hm⟩=>⟨he,n,hm.symm⟩
theorem Z2.drewN{w:World}{l:List UInt8}(h:Z2 w l v)(n:Nat):Z2 (w.drewN n) l v:=h
theorem D2(tx:Nat)(lp:Option Addr)(n c:Nat)(ns:List Bytes)(bk:Nat->Nat)(nv:Nat->Value)(x:Bytes)(xv:Value)(w:World)
  (hn:ns.length=n)(_hc:n<=9223372036854775807)
  (hl:w.cell? ⟨tx,3,none⟩=some (.slice lp n c))
  (hp:∀k,k<n->∃b o,lp=some ⟨b,o,none⟩/\w.cell? ⟨b,o+k,none⟩=some (.pointer (some ⟨bk k,0,none⟩)))
  (hv:∀k,k<n->w.cell? ⟨bk k,1,none⟩=some (nv k))
  (hb:∀k (h:k<ns.length),Z2 w ns[k] (nv k))(hx:Z2 w x xv):
  Calls prog 228 #[.pointer (some ⟨tx,0,none⟩),xv] w λe w'=>e=.returned (.tuple #[.int .i64 (zk ns x),.bool (zx ns x)])/\w=w':=by
 have HP:=hid hp;clear hp;have HV:=hid hv;clear hv;have HB:=hid hb;clear hb;have HX:=hid hx;clear hx;have HN:=hid hn;clear hn;go_enter func228,ntmps228;go_wp2;go_loop [6] (λi=>∃k:Nat,k<=n/\i=.int .i64 k/\k<=zk ns x) (λi=>n-(intOf i).toNat)
 case atStart=>exact⟨0,Nat.zero_le _,rfl,Nat.zero_le _⟩
 case round=>
  obtain⟨k,hk,rfl,BH⟩:=hrel;by_cases Hb:k<n
  ·obtain⟨b,o,rfl,PA⟩:=HP.out k Hb;have Lt:=HV.out k Hb;have ph:k<ns.length:=by rw[HN.out];exact Hb
   have rZ:=hid (HB.out k ph);by_cases hc:zt ns[k] x<0
   ·go_wp2_with (go_at_call 104;refine(q_ rZ.out HX.out).mono ?_;rintro e w' ⟨rfl,rfl⟩);go_round
    case rel=>
     refine⟨k+1,by omega,by go_num,?_⟩;rcases Nat.lt_or_ge k (zk ns x)with h|h
     ·omega
     ·have e:zk ns x=k:=by omega
      have h0:=jU (ns:=ns) (x:=x) (by omega);exact absurd hc (by simpa[e]using h0)
    case measure=>simp[intOf];omega
   ·have LX:decide (zt ns[k] x<0)=false:=by simpa using hc
    have Sq:Hid (zk ns x=k):=by
     rcases Nat.lt_or_ge k (zk ns x)with h|h
     ·exact absurd (vw ph h) hc
     ·show _=_;omega
    have hf:Hid (zx ns x=(ns[k]==x)):=by show zx ns x=_;unfold zx;rw[Sq.out,List.getElem?_eq_getElem ph];simp
    go_wp2_with (first|(go_at_call 104;refine(q_ rZ.out HX.out).mono ?_;rintro e w' ⟨rfl,rfl⟩)|(go_at_call 100;refine(qe rZ.out HX.out).mono ?_;rintro e w' ⟨rfl,rfl⟩));go_ret2;refine⟨?_,rfl⟩;rw[hf.out,Sq.out];rfl
  ·have ph:k=n:=by omega
   have Sq:Hid (zk ns x=k):=by have:=jo ns x;rw[HN.out]at this;show _=_;omega
   have hf:Hid (zx ns x=false):=by show zx ns x=_;unfold zx;rw[Sq.out,List.getElem?_eq_none (by rw[HN.out];omega)];rfl
   clear ph;go_wp2;go_ret2;refine⟨?_,rfl⟩;rw[hf.out,Sq.out];rfl
theorem X4(bk:Nat)(lp:Option Addr)(n c:Nat)(ks:List Bytes)(kv:Nat->Value)(x:Bytes)(xv:Value)(w:World)
  (hn:ks.length=n)(_hc:n<=4611686018427387904)(hr:zM ks)
  (hl:w.cell? ⟨bk,2,none⟩=some (.slice lp n c))
  (hp:∀k,k<n->∃b o,lp=some ⟨b,o,none⟩/\w.cell? ⟨b,o+k*2,none⟩=some (kv k))
  (hb:∀k (h:k<ks.length),Z2 w ks[k] (kv k))(hx:Z2 w x xv):
  Calls prog 329 #[.pointer (some ⟨bk,0,none⟩),xv] w λe w'=>e=.returned (.tuple #[.int .i64 (zk ks x),.bool (zx ks x)])/\∃m,w'=w.drewN m:=by
 have HP:=hid hp;clear hp;have HB:=hid hb;clear hb;have HX:=hid hx;clear hx;have HN:=hid hn;clear hn;have HR:=hid hr;clear hr;go_enter func329,ntmps329;go_wp2;go_quiet (fail);go_wp2;go_loop [6,7] (λi j=>∃a b:Nat,a<=zk ks x/\zk ks x<=b/\b<=n/\i=.int .i64 a/\j=.int .i64 b) (λi j=>(intOf j-intOf i).toNat)
 case atStart=>exact⟨0,n,Nat.zero_le _,by have:=jo ks x;rw[HN.out]at this;exact this,Nat.le_refl _,rfl,rfl⟩
 case round=>
  obtain⟨a,b,ha,th,cw,rfl,rfl⟩:=hrel;by_cases Hb:a<b
  ·obtain⟨k,e,cy,PX⟩:∃k:Nat,((a:Int)+(b:Int))/2=(k:Int)/\a<=k/\k<b:=⟨(a+b)/2,by omega,by omega,by omega⟩;obtain⟨bb,o,rfl,PA⟩:=HP.out k (by omega);have ph:k<ks.length:=by rw[HN.out];omega
   have rZ:=hid (HB.out k ph);by_cases hc:zt ks[k] x<0
   ·go_wp2_with (go_at_call 104;refine(q_ (by exact rZ.out) (by exact HX.out)).mono ?_;rintro e w' ⟨rfl,rfl⟩);go_round
    case rel=>
     refine⟨k+1,b,?_,th,cw,by go_num,rfl⟩;rcases Nat.lt_or_ge k (zk ks x)with h|h
     ·omega
     ·exact absurd hc (fT HR.out ph h)
    case measure=>simp[intOf];omega
   ·go_wp2_with (go_at_call 104;refine(q_ (by exact rZ.out) (by exact HX.out)).mono ?_;rintro e w' ⟨rfl,rfl⟩);go_round
    case rel=>
     refine⟨a,k,ha,?_,by omega,rfl,rfl⟩;rcases Nat.lt_or_ge k (zk ks x)with h|h
     ·have:=vw ph h;omega
     ·exact h
    case measure=>simp[intOf];omega
  ·have RG:Hid (zk ks x=a):=by show _=_;omega
   have hY:=jo ks x;by_cases han:a<n
   ·obtain⟨bb,o,rfl,PA⟩:=HP.out a han;have ph:a<ks.length:=by rw[HN.out];omega
    have rZ:=hid (HB.out a ph);have hf:Hid (zx ks x=(ks[a]==x)):=by show zx ks x=_;unfold zx;rw[RG.out,List.getElem?_eq_getElem ph];simp
    go_wp2_with (go_at_call 100;refine(qe (by exact rZ.out) (by exact HX.out)).mono ?_;rintro e w' ⟨rfl,rfl⟩);go_ret2;refine⟨?_,_,rfl⟩;rw[hf.out,RG.out];rfl
   ·have hf:Hid (zx ks x=false):=by
     show zx ks x=_;unfold zx;rw[RG.out,List.getElem?_eq_none (by rw[HN.out];omega)];rfl
    go_wp2;go_ret2;refine⟨?_,_,rfl⟩;rw[hf.out,RG.out];rfl
inductive qz{α β:Type}(R:α->β->Prop):List α->List β->Prop
 |nil:qz R [] []
 |cons {a b l m}:R a b->qz R l m->qz R (a::l) (b::m)
variable{α β:Type}
theorem qz.length{R:α->β->Prop}{l:List α}{m:List β}(h:qz R l m):l.length=m.length:=by
 induction h with
 |nil=>rfl
 |cons _ _ ih=>simp[ih]
theorem qz.get{R:α->β->Prop}{l:List α}{m:List β}(h:qz R l m):∀i (hi:i<l.length) (hj:i<m.length),R l[i] m[i]:=by
 induction h with
 |nil=>intro i hi;simp at hi
 |cons h0 _ ih=>
  intro i hi hj;cases i with
  |zero=>exact h0
  |succ i=>exact ih i (by simpa using hi) (by simpa using hj)
theorem qz.mono{R R':α->β->Prop}(hr:∀a b,R a b->R' a b){l:List α}{m:List β}(h:qz R l m):qz R' l m:=by
 induction h with
 |nil=>exact .nil
 |cons h0 _ ih=>exact .cons (hr _ _ h0) ih
theorem qz.append{R:α->β->Prop}{l l':List α}{m m':List β}(h:qz R l m)(h':qz R l' m'):qz R (l++l') (m++m'):=by
 induction h with
 |nil=>exact h'
 |cons h0 _ ih=>exact .cons h0 ih
theorem qz.take{R:α->β->Prop}{l:List α}{m:List β}(h:qz R l m):∀k,qz R (l.take k) (m.take k):=by
 induction h with
 |nil=>intro k;simpa using qz.nil
 |cons h0 _ ih=>intro k;cases k with
  |zero=>exact .nil
  |succ k=>exact .cons h0 (ih k)
theorem qz.drop{R:α->β->Prop}{l:List α}{m:List β}(h:qz R l m):∀k,qz R (l.drop k) (m.drop k):=by
 induction h with
 |nil=>intro k;simpa using qz.nil
 |cons h0 h1 ih=>intro k;cases k with
  |zero=>exact .cons h0 h1
  |succ k=>exact ih k
def qm(cs:List (Value×Value)):List Value:=cs.flatMap λc=>[c.1,c.2]
theorem yD(cs:List (Value×Value)):(qm cs).length=cs.length*2:=by
 induction cs with
 |nil=>rfl
 |cons c cs ih=>simp[qm]at ih⊢;omega
theorem vH(a b:List (Value×Value)):qm (a++b)=qm a++qm b:=by simp[qm]
theorem ZA(cs:List (Value×Value)):∀i,(qm cs)[i*2]? =(cs[i]?).map (·.1)/\(qm cs)[i*2+1]? =(cs[i]?).map (·.2):=by
 induction cs with
 |nil=>intro i;simp[qm]
 |cons c cs ih=>
  intro i;cases i with
  |zero=>simp[qm]
  |succ i=>
   have:=ih i;have e1:(i+1)*2=i*2+1+1:=by omega
   simp only[qm,List.flatMap_cons,List.cons_append,List.nil_append]at this⊢;rw[e1];simpa using this
theorem Jy(cs:List (Value×Value)):∀k,(qm cs).take (k*2)=qm (cs.take k):=by
 induction cs with
 |nil=>intro k;simp[qm]
 |cons c cs ih=>
  intro k;cases k with
  |zero=>simp[qm]
  |succ k=>
   have:=ih k;have e1:(k+1)*2=k*2+1+1:=by omega
   simp only[qm,List.flatMap_cons,List.cons_append,List.nil_append,List.take_succ_cons]at this⊢;rw[e1];simpa using this
theorem Jz(cs:List (Value×Value)):∀k,(qm cs).drop (k*2)=qm (cs.drop k):=by
 induction cs with
 |nil=>intro k;simp[qm]
 |cons c cs ih=>
  intro k;cases k with
  |zero=>simp[qm]
  |succ k=>
   have:=ih k;have e1:(k+1)*2=k*2+1+1:=by omega
   simp only[qm,List.flatMap_cons,List.cons_append,List.nil_append,List.drop_succ_cons]at this⊢;rw[e1];simpa using this
abbrev yr:=List (Bytes×Bytes)
def yR(r:Rd)(ps:yr)(v:Value):Prop:=
 ∃cs:List (Value×Value),Sl r 2 (qm cs) v/\qz (λ(p:Bytes×Bytes) (c:Value×Value)=>Bs r p.1 c.1/\Bs r p.2 c.2) ps cs
variable{ps:yr}
theorem yR.mono(hr:r.le r')(h:yR r ps v):yR r' ps v:=by obtain⟨cs,h1,h2⟩:=h;exact⟨cs,h1.mono hr,h2.mono λ_ _ ⟨a,b⟩=>⟨a.mono hr,b.mono hr⟩⟩
def zJ(ps:yr):List Bytes:=ps.map (·.1)
def yh(ps:yr)(k v:Bytes):yr:=
 ps.take (zk (zJ ps) k)++[(k,v)]++ps.drop (zk (zJ ps) k+if zx (zJ ps) k then 1 else 0)
def jp(ps:yr)(k:Bytes):yr:=
 if zx (zJ ps) k then ps.take (zk (zJ ps) k)++ps.drop (zk (zJ ps) k+1)else ps
theorem yR.at(h:yR r ps v):∃(p:Option Addr) (n c:Nat) (kv vv:Nat->Value),v=.slice p n c/\ps.length=n/\n<=c/\c<=9223372036854775807/\(p=none->c=0)/\
  ∀k,k<n->∃b o,p=some ⟨b,o,none⟩/\r ⟨b,o+k*2,none⟩=some (kv k)/\r ⟨b,o+k*2+1,none⟩=some (vv k)/\∃h:k<ps.length,Bs r ps[k].1 (kv k)/\Bs r ps[k].2 (vv k):=by
 obtain⟨cs,⟨p,n,c,rfl,hl,hn,hc,hp,H_⟩,ha⟩:=h;have h_:=ha.length;rw[yD]at hl;refine⟨p,n,c,λk=>(cs.getD k (.nilIface,.nilIface)).1,λk=>(cs.getD k (.nilIface,.nilIface)).2,rfl,by omega,hn,hc,hp,λk hk=> ?_⟩;have sD:k<cs.length:=by omega
 rcases H_ with h0|⟨b,o,rfl,Hc⟩
 ·have:=yD cs;rw[h0]at this;simp at this;omega
 ·have g1:=(ZA cs k).1;have g2:=(ZA cs k).2;have l2:=yD cs;rw[List.getElem?_eq_getElem (by omega)]at g1 g2;simp only[List.getElem?_eq_getElem sD,Option.map_some,Option.some.injEq]at g1 g2;refine⟨b,o,rfl,?_,?_,by omega,?_⟩
  ·rw[Hc (k*2) (by omega),g1];simp[List.getD,List.getElem?_eq_getElem sD]
  ·rw[Nat.add_assoc,Hc (k*2+1) (by omega),g2];simp[List.getD,List.getElem?_eq_getElem sD]
  ·have:=ha.get k (by omega) sD;simpa[List.getD,List.getElem?_eq_getElem sD]using this
variable{bk:Nat}{pv xv:Value}
theorem xW{x:Bytes}{w:World}(hr:r.le w.cell?)(hp:yR r ps pv)(rJ:zM (zJ ps))(Hx:ps.length<=4611686018427387904)
  (hl:w.cell? ⟨bk,2,none⟩=some pv)(hx:Bs r x xv):
  Calls prog 329 #[.pointer (some ⟨bk,0,none⟩),xv] w λe w'=>e=.returned (.tuple #[.int .i64 (zk (zJ ps) x),.bool (zx (zJ ps) x)])/\∃m,w'=w.drewN m:=by
 obtain⟨p,n,c,kv,vv,rfl,h_,hn,hc,NL,pO⟩:=hp.at
 refine X4 bk p n c (zJ ps) kv x xv w (by simpa[zJ]using h_) (by omega) rJ hl (λk hk=> ?_) (λk hk=> ?_) (hx.mono hr)
 ·obtain⟨b,o,e,h1,_⟩:=pO k hk;exact⟨b,o,e,hr _ _ h1⟩
 ·have Sa:k<ps.length:=by simpa[zJ]using hk
  obtain⟨b,o,e,_,_,_,h2,_⟩:=pO k (by omega);have:(zJ ps)[k]=ps[k].1:=by simp[zJ]
  rw[this];exact h2.mono hr
theorem jA:yy prog 75 5 (.int .u8 0) 1 1:=⟨by kernel_rfl,by kernel_rfl,rfl,by decide⟩
theorem kC:yy prog 323 450 (.agg #[.slice none 0 0,.slice none 0 0]) 2 48:=⟨by kernel_rfl,by kernel_rfl,rfl,by decide⟩
theorem Z_{cs:List (Value×Value)}(h:qz (λ(p:Bytes×Bytes) (c:Value×Value)=>Bs r p.1 c.1/\Bs r p.2 c.2) ps cs):∀u∈qm cs,u.oneCell'=true:=by
 induction h with
 |nil=>intro u hu;simp[qm]at hu
 |cons h0 _ ih=>
  intro u hu;simp only[qm,List.flatMap_cons,List.cons_append,List.nil_append,List.mem_cons]at hu;rcases hu with rfl|rfl|hu
  ·obtain⟨p,n,c,e,_⟩:=h0.1.shape;rw[e];rfl
  ·obtain⟨p,n,c,e,_⟩:=h0.2.shape;rw[e];rfl
  ·exact ih u hu
variable{kv nv vv:Value}{tx:Nat}
theorem fU{fp:Value}{k v:Bytes}{w:World}(T:Nat)(hS:∀b,S b->b<w.heap.size)(mi:S bk)
  (hp:yR (im S w) ps pv)(rJ:zM (zJ ps))(Hx:ps.length<=1000000)
  (hb:w.heap[bk]? =some (.cells #[.pointer (some ⟨tx,0,none⟩),nv,pv,fp] T (0,0)))(hw:w.cell? ⟨tx,1,none⟩=some (.bool true))
  (hk:Bs (im S w) k kv)(hv:Bs (im S w) v vv)(tP:k≠[])(pE:k.length<=1000000)(nX:v.length<=100000000):
  Calls prog 344 #[.pointer (some ⟨bk,0,none⟩),kv,vv] w λe w'=>e=.returned .nilIface/\
   ∃pv',w'.heap[bk]? =some (.cells #[.pointer (some ⟨tx,0,none⟩),nv,pv',fp] T (0,0))/\zq (· =bk) w w'/\yR (im S w') (yh ps k v) pv':=by
 obtain⟨kp,kn,kc,rfl,ph⟩:=hk.shape;have s_:0<kn:=by
  rcases Nat.eq_zero_or_pos kn with h|h
  ·exact absurd (List.eq_nil_of_length_eq_zero (by omega)) tP
  ·exact h
 have c0:w.cell? ⟨bk,0,none⟩=some (.pointer (some ⟨tx,0,none⟩)):=by rw[cell_of_row w bk 0 _ T (0,0) hb];rfl
 have c2:w.cell? ⟨bk,2,none⟩=some pv:=by rw[cell_of_row w bk 2 _ T (0,0) hb];rfl
 have f2:w.frozen? ⟨bk,2,none⟩=false:=by simp[World.frozen?,hb]
 have hg:((kn:Int)==0)=false:=by simp;omega
 have Ro:bk<w.heap.size:=World.block_lt_of_cell? w _ c2;have HS:=hid hS;clear hS;obtain⟨cs,pW,He⟩:=id hp;have h_:=He.length;have rD:=yD cs;have tj:=Z_ He;obtain⟨i,hi⟩:∃i,zk (zJ ps) k=i:=⟨_,rfl⟩;obtain⟨d,hd⟩:∃d,zx (zJ ps) k=d:=⟨_,rfl⟩;have CL:i<=ps.length:=by rw[<-hi];simpa[zJ]using jo (zJ ps) k
 have pi:yh ps k v=ps.take i++[(k,v)]++ps.drop (i+if d then 1 else 0):=by unfold yh;rw[hi,hd]
 have TV:d=true->i<ps.length:=by
  intro h;rw[h]at hd;unfold zx at hd;rw[hi]at hd;rcases Nat.lt_or_ge i ps.length with h'|h'
  ·exact h'
  ·rw[List.getElem?_eq_none (by simpa[zJ]using h')]at hd;simp at hd
 obtain⟨s1,Ms,pI⟩:=YD kC pW i (by omega);have ru:=hid (xW (w:=w) (zd _ _) hp rJ (by omega) c2 hk);rw[hi,hd]at ru;have HK:=hid hk;clear hk;have HV:=hid hv;clear hv;have HB:=hid hb;clear hb;have HKN:=hid ph;clear ph;have Ni:=hid pW;clear pW;have HA:=hid He;clear He;have TX:=hid tj;clear tj;have HI:=hid hi;clear hi;have HD:=hid hd;clear hd;have rK:=hid pi;clear pi;have RV:=hid pI;clear pI;have H7:=hid h_;clear h_;have TY:=hid rD;clear rD;clear hp rJ;go_enter func344,ntmps344;go_wp2_with fail;refine ru.out.mono ?_;rintro e w' ⟨rfl,m,rfl⟩;clear ru;go_wp2_with (at_builtin;go_must (refine qy (w0:=w) jA rfl rfl (((za.refl w).drewN m).alloc _) (vG (Nat.le_refl _) (zg _ _)) rfl rfl ((HK.out.mono (k7 (((za.refl w).drewN m).alloc _) _)).sl) (jF _) (by simp;omega) ?_));intro v1 w1 Sy hQ NN TZ;have Hs:=hid hQ;have iH:=hid ((Bs.of_sl TZ).im_of (S:=S) λb hb e=>by have:=HS.out b e;have:=Jc Sy b hb;omega)
 clear Sy NN;obtain⟨a1,n1,b1,rfl⟩:=TZ.shape;clear TZ hQ;go_wp2_with (at_builtin;go_must (refine qy (w0:=w1) jA rfl rfl ((za.refl w1).alloc _) (vG (Nat.le_refl _) (zg _ _)) rfl rfl ((HV.out.mono (k7 (Hs.out.alloc _) _)).sl) (jF _) (by simp;omega) ?_));intro v2 w2 Mt Hj H9 nY;have Pf:=hid Hj;have CM:=hid ((Bs.of_sl nY).im_of (S:=S) λb hb e=>by have:=HS.out b e;have:=Jc Mt b hb;have:=Hs.out.size;omega);clear Mt H9;obtain⟨a2,n2,b2,rfl⟩:=nY.shape;clear nY Hj;have c2':w2.cell? ⟨bk,2,none⟩=some pv:=(Hs.out.trans Pf.out).le _ _ c2;have mj:bk<w2.heap.size:=World.block_lt_of_cell? w2 _ c2';go_wp2_with (at_builtin;go_must (refine qy (w0:=w2) kC rfl rfl ((za.refl w2).alloc _) (World.ownsRow_nil _ _ _ _) rfl rfl (RV.out.mono (k7 ((Hs.out.trans Pf.out).alloc _) _)) (λu hu=>TX.out u (List.mem_of_mem_take hu)) (by have:=TY.out;have:=H7.out;simp;omega) ?_));intro v3 w3 m3 r6 tQ Hg NO Td;have Rb:=hid Hg
 have p0:w3.cell? ⟨w2.heap.size,0,none⟩=some (.slice a1 n1 b1):=NO.cell (by rw[World.cell?_alloc_new];rfl) (by simp[Value.ownBlock]);have p1:w3.cell? ⟨w2.heap.size,1,none⟩=some (.slice a2 n2 b2):=NO.cell (by rw[World.cell?_alloc_new];rfl) (by simp[Value.ownBlock]);have iI:=hid tQ;have iJ:=hid r6;clear Td Hg NO tQ r6;go_wp2_with (at_builtin;go_must (refine qy (w0:=w2) kC rfl rfl (Rb.out.alloc _) (World.ownsRow.alloc iI.out _) rfl rfl (Sl.made w3 [Value.slice a1 n1 b1,Value.slice a2 n2 b2] _ 2 1 rfl (by omega)) (by intro u hu;simp only[List.mem_cons,List.not_mem_nil,or_false]at hu;rcases hu with rfl|rfl<;>rfl) (by have:=TY.out;have:=H7.out;simp;omega) ?_));intro v4 w4 m4 pP LY Rh LZ L3;have Te:=hid Rh;have EK:=hid LY;have T7:=hid pP;have c4:w4.cell? ⟨bk,2,none⟩=some pv:=Rh.le _ _ c2'
 have f4:w4.frozen? ⟨bk,2,none⟩=false:=by rw[World.frozen?_of_block (w:=w) ((Hs.out.trans (Pf.out.trans Te.out)).block bk (World.block_lt_of_cell? w _ c2) (λe=>e))];exact f2
 clear L3 Rh LZ LY pP p0 p1 c2';obtain⟨j,hj,rC⟩:∃j,i+(if d then 1 else 0)=j/\j<=ps.length:=⟨_,rfl,by cases d with|true=>have:=TV rfl;simp;omega|false=>simp;omega⟩;obtain⟨s2,Mu,rj⟩:=k6 kC Ni.out j (by have:=TY.out;have:=H7.out;omega);have Ph:=hid rj;clear rj;have Hv:∀v5 w5 nn,w5.ownsRow w2.heap.size 450 2 v5 nn ((qm cs).take (i*2)++Value.slice a1 n1 b1::Value.slice a2 n2 b2::(qm cs).drop (j*2))->za w2 w5->
   ∃pv',(w5.setCell ⟨bk,2,none⟩ v5).heap[bk]? =some (.cells #[.pointer (some ⟨tx,0,none⟩),nv,pv',fp] T (0,0))/\zq (· =bk) w (w5.setCell ⟨bk,2,none⟩ v5)/\yR (im S (w5.setCell ⟨bk,2,none⟩ v5)) (yh ps k v) pv':=by
  intro v5 w5 nn RH pz;have ay:za w w5:=(Hs.out.trans Pf.out).trans pz;have hM:zq (· =bk) w5 (w5.setCell ⟨bk,2,none⟩ v5):=zq.setCell (S:=(· =bk)) (zq.refl _ w5) (λ_=>rfl) _;have CN:zq (· =bk) w (w5.setCell ⟨bk,2,none⟩ v5):=zq.setCell (S:=(· =bk)) (ay.mod _) (λ_=>rfl) _;refine⟨v5,?_,CN,?_⟩
  ·have:=ay.heap HB.out;simp only[World.setCell,Array.getElem?_modify,if_true,this,Option.map_some];rfl
  ·refine⟨cs.take i++[(.slice a1 n1 b1,.slice a2 n2 b2)]++cs.drop j,?_,?_⟩
   ·have h5:Sl w5.cell? 2 (qm (cs.take i++[(Value.slice a1 n1 b1,Value.slice a2 n2 b2)]++cs.drop j)) v5:=by
     have:=Sl.of_own RH;rw[vH,vH,<-Jy,<-Jz,List.append_assoc];exact this
    exact(h5.im_of (S:=S) λb hb e=>by have:=HS.out b e;have:=Jc RH b hb;have:=Hs.out.size;have:=Pf.out.size;omega).mono ((hM.mono (S':=S) λ_ _ e=>by rw[e];exact mi).im λ_ _ h=>h)
   ·rw[rK.out,hj];have pF:=HA.out.mono (R':=λ(p:Bytes×Bytes) (c:Value×Value)=>Bs (im S (w5.setCell ⟨bk,2,none⟩ v5)) p.1 c.1/\Bs (im S (w5.setCell ⟨bk,2,none⟩ v5)) p.2 c.2) λ_ _ h=>⟨h.1.mono ((CN.mono (S':=S) λ_ _ e=>by rw[e];exact mi).im λ_ _ h=>h),h.2.mono ((CN.mono (S':=S) λ_ _ e=>by rw[e];exact mi).im λ_ _ h=>h)⟩;refine((pF.take i).append (.cons ⟨?_,?_⟩ .nil)).append (pF.drop j)
    ·exact iH.out.mono (((Pf.out.trans pz).im _).le_trans ((hM.mono (S':=S) λ_ _ e=>by rw[e];exact mi).im λ_ _ h=>h))
    ·exact CM.out.mono ((pz.im _).le_trans ((hM.mono (S':=S) λ_ _ e=>by rw[e];exact mi).im λ_ _ h=>h))
 have pj:=hid Hv;clear Hv;have HJ:=hid hj;clear hj;have hdV:=hid TV;clear TV;cases d with
 |true=>
  have ej:((j:Nat):Int)=(i:Int)+1:=by have:=HJ.out;simp at this;omega
  rw[ej]at Mu;clear ej;go_wp2_with (at_builtin;go_must (refine qy (w0:=w2) kC rfl rfl Te.out EK.out rfl rfl (Ph.out.mono (k7 ((Hs.out.trans Pf.out).trans Te.out) _)) (λu hu=>TX.out u (List.mem_of_mem_drop hu)) (by have:=TY.out;have:=H7.out;simp;omega) ?_));intro v5 w5 m5 pr RH pz P6 Tf;have HF:=hid (pj.out v5 w5 _ RH pz);have c5:w5.cell? ⟨bk,2,none⟩=some pv:=((Hs.out.trans Pf.out).trans pz).le _ _ c2;have f5:w5.frozen? ⟨bk,2,none⟩=false:=by rw[World.frozen?_of_block (w:=w) (((Hs.out.trans Pf.out).trans pz).block bk Ro (λe=>e))];exact f2
  obtain⟨a5,n5,b5,rfl⟩:=Tf.shape;clear pr RH pz P6 Tf;go_wp2;go_ret;exact⟨rfl,HF.out⟩
 |false=>
  have ej:((j:Nat):Int)=(i:Int):=by have:=HJ.out;simp at this;omega
  rw[ej]at Mu;clear ej;go_wp2_with (at_builtin;go_must (refine qy (w0:=w2) kC rfl rfl Te.out EK.out rfl rfl (Ph.out.mono (k7 ((Hs.out.trans Pf.out).trans Te.out) _)) (λu hu=>TX.out u (List.mem_of_mem_drop hu)) (by have:=TY.out;have:=H7.out;simp;omega) ?_));intro v5 w5 m5 pr RH pz P6 Tf;have HF:=hid (pj.out v5 w5 _ RH pz);have c5:w5.cell? ⟨bk,2,none⟩=some pv:=((Hs.out.trans Pf.out).trans pz).le _ _ c2;have f5:w5.frozen? ⟨bk,2,none⟩=false:=by rw[World.frozen?_of_block (w:=w) (((Hs.out.trans Pf.out).trans pz).block bk Ro (λe=>e))];exact f2
  obtain⟨a5,n5,b5,rfl⟩:=Tf.shape;clear pr RH pz P6 Tf;go_wp2;go_ret;exact⟨rfl,HF.out⟩
theorem VW{fp:Value}{k:Bytes}{w:World}(T:Nat)(hS:∀b,S b->b<w.heap.size)(mi:S bk)
  (hp:yR (im S w) ps pv)(rJ:zM (zJ ps))(Hx:ps.length<=1000000)
  (hb:w.heap[bk]? =some (.cells #[.pointer (some ⟨tx,0,none⟩),nv,pv,fp] T (0,0)))(hw:w.cell? ⟨tx,1,none⟩=some (.bool true))
  (hk:Bs (im S w) k kv):
  Calls prog 341 #[.pointer (some ⟨bk,0,none⟩),kv] w λe w'=>e=.returned .nilIface/\
   ∃pv',w'.heap[bk]? =some (.cells #[.pointer (some ⟨tx,0,none⟩),nv,pv',fp] T (0,0))/\zq (· =bk) w w'/\yR (im S w') (jp ps k) pv':=by
 have c0:w.cell? ⟨bk,0,none⟩=some (.pointer (some ⟨tx,0,none⟩)):=by rw[cell_of_row w bk 0 _ T (0,0) hb];rfl
 have c2:w.cell? ⟨bk,2,none⟩=some pv:=by rw[cell_of_row w bk 2 _ T (0,0) hb];rfl
 have f2:w.frozen? ⟨bk,2,none⟩=false:=by simp[World.frozen?,hb]
 have Ro:bk<w.heap.size:=World.block_lt_of_cell? w _ c2;have HS:=hid hS;clear hS;obtain⟨cs,pW,He⟩:=id hp;have h_:=He.length;have rD:=yD cs;have tj:=Z_ He;obtain⟨i,hi⟩:∃i,zk (zJ ps) k=i:=⟨_,rfl⟩;obtain⟨d,hd⟩:∃d,zx (zJ ps) k=d:=⟨_,rfl⟩;have CL:i<=ps.length:=by rw[<-hi];simpa[zJ]using jo (zJ ps) k
 have pi:jp ps k=if d=true then ps.take i++ps.drop (i+1)else ps:=by unfold jp;rw[hi,hd]
 have TV:d=true->i<ps.length:=by
  intro h;rw[h]at hd;unfold zx at hd;rw[hi]at hd;rcases Nat.lt_or_ge i ps.length with h'|h'
  ·exact h'
  ·rw[List.getElem?_eq_none (by simpa[zJ]using h')]at hd;simp at hd
 obtain⟨s1,Ms,pI⟩:=YD kC pW i (by omega);have ru:=hid (xW (w:=w) (zd _ _) hp rJ (by omega) c2 hk);rw[hi,hd]at ru;cases d with
 |false=>
  have pj:=hid (show∀m:Nat,∃pv',(w.drewN m).heap[bk]? =some (.cells #[.pointer (some ⟨tx,0,none⟩),nv,pv',fp] T (0,0))/\zq (· =bk) w (w.drewN m)/\yR (im S (w.drewN m)) (jp ps k) pv' from
   λm=>⟨pv,hb,zq.drewN (zq.refl _ w) m,by rw[pi];exact hp.mono ((zq.drewN (zq.refl S w) m).im λ_ _ h=>h)⟩)
  clear hp rJ hk pW He tj pi TV pI Ms hi hd h_ rD hb;go_enter func341,ntmps341;go_wp2_with fail;refine ru.out.mono ?_;rintro e w' ⟨rfl,m,rfl⟩;clear ru;go_wp2;go_ret;exact⟨rfl,pj.out m⟩
 |true=>
  have Sz:=TV rfl;obtain⟨s2,Mu,rj⟩:=k6 kC pW (i+1) (by omega);have ej:((i+1:Nat):Int)=(i:Int)+1:=by omega
  rw[ej]at Mu;clear ej;have HB:=hid hb;clear hb;have HA:=hid He;clear He;have TX:=hid tj;clear tj;have rK:=hid pi;clear pi;have RV:=hid pI;clear pI;have Ph:=hid rj;clear rj;have H7:=hid h_;clear h_;have TY:=hid rD;clear rD;clear hp rJ hk pW TV hi hd;have Hv:∀v5 w5 nn,w5.ownsRow w.heap.size 450 2 v5 nn ((qm cs).take (i*2)++(qm cs).drop ((i+1)*2))->za w w5->
    ∃pv',(w5.setCell ⟨bk,2,none⟩ v5).heap[bk]? =some (.cells #[.pointer (some ⟨tx,0,none⟩),nv,pv',fp] T (0,0))/\zq (· =bk) w (w5.setCell ⟨bk,2,none⟩ v5)/\yR (im S (w5.setCell ⟨bk,2,none⟩ v5)) (jp ps k) pv':=by
   intro v5 w5 nn RH ay;have hM:zq (· =bk) w5 (w5.setCell ⟨bk,2,none⟩ v5):=zq.setCell (S:=(· =bk)) (zq.refl _ w5) (λ_=>rfl) _;have CN:zq (· =bk) w (w5.setCell ⟨bk,2,none⟩ v5):=zq.setCell (S:=(· =bk)) (ay.mod _) (λ_=>rfl) _;refine⟨v5,?_,CN,?_⟩
   ·have:=ay.heap HB.out;simp only[World.setCell,Array.getElem?_modify,if_true,this,Option.map_some];rfl
   ·refine⟨cs.take i++cs.drop (i+1),?_,?_⟩
    ·have h5:Sl w5.cell? 2 (qm (cs.take i++cs.drop (i+1))) v5:=by
      have:=Sl.of_own RH;rw[vH,<-Jy,<-Jz];exact this
     exact(h5.im_of (S:=S) λb hb e=>by have:=HS.out b e;have:=Jc RH b hb;omega).mono ((hM.mono (S':=S) λ_ _ e=>by rw[e];exact mi).im λ_ _ h=>h)
    ·rw[rK.out,if_pos rfl];have pF:=HA.out.mono (R':=λ(p:Bytes×Bytes) (c:Value×Value)=>Bs (im S (w5.setCell ⟨bk,2,none⟩ v5)) p.1 c.1/\Bs (im S (w5.setCell ⟨bk,2,none⟩ v5)) p.2 c.2) λ_ _ h=>⟨h.1.mono ((CN.mono (S':=S) λ_ _ e=>by rw[e];exact mi).im λ_ _ h=>h),h.2.mono ((CN.mono (S':=S) λ_ _ e=>by rw[e];exact mi).im λ_ _ h=>h)⟩;exact(pF.take i).append (pF.drop (i+1))
  have pj:=hid Hv;clear Hv;go_enter func341,ntmps341;go_wp2_with fail;refine ru.out.mono ?_;rintro e w' ⟨rfl,m,rfl⟩;clear ru;go_wp2_with (at_builtin;go_must (refine qy (w0:=w) kC rfl rfl ((za.refl w).drewN m) (World.ownsRow_nil _ _ _ _) rfl rfl (RV.out.mono (k7 ((za.refl w).drewN m) _)) (λu hu=>TX.out u (List.mem_of_mem_take hu)) (by have:=TY.out;have:=H7.out;simp;omega) ?_));intro v3 w3 m3 r6 tQ Hg NO Td;have Rb:=hid Hg;have iI:=hid tQ;have c3:w3.cell? ⟨bk,2,none⟩=some pv:=Hg.le _ _ c2;clear Td Hg NO tQ r6;go_wp2_with (at_builtin;go_must (refine qy (w0:=w) kC rfl rfl Rb.out iI.out rfl rfl (Ph.out.mono (k7 Rb.out _)) (λu hu=>TX.out u (List.mem_of_mem_drop hu)) (by have:=TY.out;have:=H7.out;simp;omega) ?_));intro v5 w5 m5 pr RH pz P6 Tf;have HF:=hid (pj.out v5 w5 _ RH pz);have c5:w5.cell? ⟨bk,2,none⟩=some pv:=pz.le _ _ c2
  have f5:w5.frozen? ⟨bk,2,none⟩=false:=by rw[World.frozen?_of_block (w:=w) (pz.block bk Ro (λe=>e))];exact f2
  obtain⟨a5,n5,b5,rfl⟩:=Tf.shape;clear pr RH pz P6 Tf;go_wp2;go_ret;exact⟨rfl,HF.out⟩
variable{a cc:Nat}
theorem Kw{p:Option Addr}{o:Nat}{w:World}(h:a<n)(_hn:n<=9223372036854775807)
  (h0:w.cell? ⟨cc,0,none⟩=some (.slice (some ⟨b,o,none⟩) n c))(h1:w.cell? ⟨cc,1,none⟩=some (.int .i64 a))(_hp:p=some ⟨b,o,none⟩)
  (hk:w.cell? ⟨b,o+a*2,none⟩=some kv)(hv:w.cell? ⟨b,o+a*2+1,none⟩=some vv):
  Calls prog 327 #[.pointer (some ⟨cc,0,none⟩)] w λe w'=>e=.returned (.tuple #[kv,vv])/\∃m,w'=w.drewN m:=by
 have hi:(a:Int)<(n:Int):=by omega
 have pD:decide ((n:Int)<=(a:Int))=false:=by simp;omega
 go_enter func327,ntmps327;go_wp2;go_quiet (fail);go_wp2;go_quiet (fail);go_wp2;go_ret2;exact⟨rfl,_,by rw[World.drewN_drewN]⟩
theorem JX{p:Option Addr}{w:World}(h:n<=a)
  (h0:w.cell? ⟨cc,0,none⟩=some (.slice p n c))(h1:w.cell? ⟨cc,1,none⟩=some (.int .i64 a)):
  Calls prog 327 #[.pointer (some ⟨cc,0,none⟩)] w λe w'=>e=.returned (.tuple #[.slice none 0 0,.slice none 0 0])/\∃m,w'=w.drewN m:=by
 have pD:decide ((n:Int)<=(a:Int))=true:=by simp;omega
 go_enter func327,ntmps327;go_wp2;go_quiet (fail);go_wp2;go_ret2;exact⟨rfl,_,rfl⟩
def jB(n:Nat)(f:Nat->Value)(a:Nat):Value:=if a<n then f a else .slice none 0 0
theorem JA{p:Option Addr}{kv vv:Nat->Value}{w:World}(_hn:n<=9223372036854775807)
  (h0:w.cell? ⟨cc,0,none⟩=some (.slice p n c))(h1:w.cell? ⟨cc,1,none⟩=some (.int .i64 a))(hr:r.le w.cell?)
  (pO:∀k,k<n->∃b o,p=some ⟨b,o,none⟩/\r ⟨b,o+k*2,none⟩=some (kv k)/\r ⟨b,o+k*2+1,none⟩=some (vv k)):
  Calls prog 327 #[.pointer (some ⟨cc,0,none⟩)] w λe w'=>e=.returned (.tuple #[jB n kv a,jB n vv a])/\∃m,w'=w.drewN m:=by
 unfold jB;by_cases h:a<n
 ·obtain⟨b,o,rfl,hk,hv⟩:=pO a h;rw[if_pos h,if_pos h];exact Kw h _hn h0 h1 rfl (hr _ _ hk) (hr _ _ hv)
 ·rw[if_neg h,if_neg h];exact JX (by omega) h0 h1
theorem dJ{p:Option Addr}{kv vv:Nat->Value}{w:World}(_hn:n<=9223372036854775807)(_ha:a<=9000000000000000000)
  (h0:w.cell? ⟨cc,0,none⟩=some (.slice p n c))(h1:w.cell? ⟨cc,1,none⟩=some (.int .i64 a))(hf:w.frozen? ⟨cc,1,none⟩=false)
  (hr:r.le (w.setCell ⟨cc,1,none⟩ (.int .i64 ((a+1:Nat):Int))).cell?)
  (pO:∀k,k<n->∃b o,p=some ⟨b,o,none⟩/\r ⟨b,o+k*2,none⟩=some (kv k)/\r ⟨b,o+k*2+1,none⟩=some (vv k)):
  Calls prog 303 #[.pointer (some ⟨cc,0,none⟩)] w λe w'=>e=.returned (.tuple #[jB n kv (a+1),jB n vv (a+1)])/\∃m,w'=(w.setCell ⟨cc,1,none⟩ (.int .i64 ((a+1:Nat):Int))).drewN m:=by
 have HR:=hid hr;clear hr;have mq:=hid pO;clear pO;have ec:((a+1:Nat):Int)=(a:Int)+1:=by omega
 rw[ec]at HR⊢;have HC:=hid (show(w.setCell ⟨cc,1,none⟩ (.int .i64 ((a:Int)+1))).cell? ⟨cc,0,none⟩=some (.slice p n c)from by rw[World.cell?_setCell_other _ _ _ _ (by simp)];exact h0);have Tg:=hid (show(w.setCell ⟨cc,1,none⟩ (.int .i64 ((a:Int)+1))).cell? ⟨cc,1,none⟩=some (.int .i64 ((a+1:Nat):Int))from by rw[World.cell?_setCell_same _ _ _ h1,ec]);clear ec;go_enter func303,ntmps303;go_wp2_with fail;refine(JA (a:=a+1) _hn HC.out Tg.out HR.out mq.out).mono ?_;rintro e w' ⟨rfl,m,rfl⟩;go_wp2;go_ret2;exact⟨rfl,_,rfl⟩
theorem JB{p:Option Addr}{kv vv:Nat->Value}{x:Bytes}{w:World}(_hn:n<=9223372036854775807)
  (h0:w.cell? ⟨cc,0,none⟩=some (.slice p n c))(h1:w.cell? ⟨cc,1,none⟩=some (.int .i64 a))(h2:w.cell? ⟨cc,2,none⟩=some (.pointer (some ⟨bk,0,none⟩)))(hf:w.frozen? ⟨cc,1,none⟩=false)
  (hb:w.cell? ⟨bk,2,none⟩=some (.slice p n c))(hp:yR r ps (.slice p n c))(rJ:zM (zJ ps))(Hx:ps.length<=1000000)(hx:Bs r x xv)
  (rM:r.le w.cell?)
  (hr:r.le (w.setCell ⟨cc,1,none⟩ (.int .i64 (zk (zJ ps) x))).cell?)
  (pO:∀k,k<n->∃b o,p=some ⟨b,o,none⟩/\r ⟨b,o+k*2,none⟩=some (kv k)/\r ⟨b,o+k*2+1,none⟩=some (vv k)):
  Calls prog 326 #[.pointer (some ⟨cc,0,none⟩),xv] w λe w'=>e=.returned (.tuple #[jB n kv (zk (zJ ps) x),jB n vv (zk (zJ ps) x)])/\∃m,w'=(w.setCell ⟨cc,1,none⟩ (.int .i64 (zk (zJ ps) x))).drewN m:=by
 have ru:=hid (xW (w:=w) rM hp rJ (by omega) hb hx);clear hb hp rJ Hx hx rM;generalize zk (zJ ps) x=i at*
 have HR:=hid hr;clear hr;have mq:=hid pO;clear pO;have HC:=hid (show(w.setCell ⟨cc,1,none⟩ (.int .i64 i)).cell? ⟨cc,0,none⟩=some (.slice p n c)from by rw[World.cell?_setCell_other _ _ _ _ (by simp)];exact h0);have Tg:=hid (show(w.setCell ⟨cc,1,none⟩ (.int .i64 i)).cell? ⟨cc,1,none⟩=some (.int .i64 i)from by rw[World.cell?_setCell_same _ _ _ h1]);go_enter func326,ntmps326;go_wp2_with fail;refine ru.out.mono ?_;rintro e w' ⟨rfl,m0,rfl⟩;clear ru;go_wp2_with fail;refine(JA (r:=r) (kv:=kv) (vv:=vv) (a:=i) _hn (by exact HC.out) (by exact Tg.out) (by exact HR.out) mq.out).mono ?_;rintro e w' ⟨rfl,m,rfl⟩;go_wp2;go_ret2;exact⟨rfl,m0+m,by rw[<-World.drewN_drewN];rfl⟩
theorem xX{w:World}(h:w.cell? ⟨bk,2,none⟩=some pv)(hs:∃p n c,pv=.slice p n c):
  Calls prog 255 #[.pointer (some ⟨bk,0,none⟩)] w λe w'=>e=.returned (.pointer (some ⟨w.heap.size,0,none⟩))/\w'=w.alloc (.cells #[pv,.int .i64 0,.pointer (some ⟨bk,0,none⟩)] 486):=by
 obtain⟨p,n,c,rfl⟩:=hs;go_enter func255,ntmps255;go_wp2;go_ret;exact⟨rfl,rfl⟩
def qP(r:Rd)(l:List Bytes)(v:Value):Prop:=∃cs:List Value,Sl r 1 cs v/\qz (Bs r) l cs
theorem qP.mono(hr:r.le r'){l:List Bytes}(h:qP r l v):qP r' l v:=by obtain⟨cs,h1,h2⟩:=h;exact⟨cs,h1.mono hr,h2.mono λ_ _ h=>h.mono hr⟩
theorem qP.nil(r:Rd):qP r [] (.slice none 0 0):=⟨[],Sl.nil _ _,.nil⟩
theorem jV:yy prog 469 75 (.slice none 0 0) 1 24:=⟨by kernel_rfl,by kernel_rfl,rfl,by decide⟩
def qX(ps:yr)(k:Bytes):Option Bytes:=if zx (zJ ps) k then (ps[zk (zJ ps) k]?).map (·.2)else none
theorem Qa{l x:Bytes}{kb:Nat}{w:World}(hk:w.cell? ⟨kb,0,none⟩=some xv)(h1:Z2 w l v)(h2:Z2 w x xv):
  Calls prog 325 #[v,.pointer (some ⟨kb,0,none⟩)] w λe w'=>e=.returned (.bool (l==x))/\w=w':=by
 have H1:=hid h1;clear h1;have H2:=hid h2;clear h2;go_enter func325,ntmps325;go_wp2_with (go_at_call 100;refine(qe H1.out H2.out).mono ?_;rintro e w' ⟨rfl,rfl⟩);go_ret;exact⟨rfl,rfl⟩
theorem Kx{l x:Bytes}{kb:Nat}{w:World}(hk:w.cell? ⟨kb,0,none⟩=some xv)(h1:Z2 w l v)(h2:Z2 w x xv):
  Calls prog 324 #[v,.pointer (some ⟨kb,0,none⟩)] w λe w'=>e=.returned (.bool (decide (zt l x<0)))/\w=w':=by
 have H1:=hid h1;clear h1;have H2:=hid h2;clear h2;go_enter func324,ntmps324;go_wp2_with (go_at_call 104;refine(q_ H1.out H2.out).mono ?_;rintro e w' ⟨rfl,rfl⟩);go_ret;exact⟨rfl,rfl⟩
theorem Bs.some_of_ne{l:List UInt8}(h:Bs r l v)(hl:l≠[]):∃b o n c,v=.slice (some ⟨b,o,none⟩) n c:=by
 obtain⟨p,n,c,rfl,h_,_,_,_,h5⟩:=h;rcases h5 with h5|⟨b,o,rfl,_⟩
 ·exact absurd (List.eq_nil_of_length_eq_zero (by omega)) hl
 ·exact⟨b,o,n,c,rfl⟩
theorem ZT{x:Bytes}{lim:Int}{w:World}(hS:∀b,S b->b<w.heap.size)(Hc:cc<w.heap.size)
  (h0:w.cell? ⟨cc,0,none⟩=some pv)(h1:w.cell? ⟨cc,1,none⟩=some (.int .i64 0))(h2:w.cell? ⟨cc,2,none⟩=some (.pointer (some ⟨bk,0,none⟩)))(hf:w.frozen? ⟨cc,1,none⟩=false)
  (Lu:cc≠bk)(hb:w.cell? ⟨bk,2,none⟩=some pv)(hp:yR (im (λb=>S b\/b=cc) w) ps pv)(rJ:zM (zJ ps))(Ho:∀p∈ps,p.1≠[])(Hx:ps.length<=1000000)(hx:Bs (im (λb=>S b\/b=cc) w) x xv):
  Calls prog 320 #[.pointer (some ⟨cc,0,none⟩),xv,.slice none 0 0,.int .i64 lim] w λe w'=>∃ks vs,e=.returned (.tuple #[ks,vs])/\
   zq (· =cc) w w'/\qP (im S w') ((qX ps x).map λ_=>x).toList ks/\qP (im S w') (qX ps x).toList vs:=by
 obtain⟨p,n,c,kv,vv,rfl,h_,hn,hc,NL,pO⟩:=hp.at
 obtain⟨xp,xn,xc,rfl,hxn⟩:=hx.shape;obtain⟨W,hW⟩:=zex ((w.alloc (.cells #[.slice xp xn xc] 75)).alloc (.cells #[.slice none 0 0] 75));have TH:za w W:=by rw[hW];exact((za.refl w).alloc _).alloc _
 have hM:∀i:Int,zq (· =cc) w (W.setCell ⟨cc,1,none⟩ (.int .i64 i)):=λi=>zq.setCell (S:=(· =cc)) (TH.mod _) (λ_=>rfl) _;have hY:∀i:Int,(im (λb=>S b\/b=cc) w).le (W.setCell ⟨cc,1,none⟩ (.int .i64 i)).cell? :=λi=>
  (((hM i).mono λ_ _ e=>Or.inr e).im (λ_ _ h=>h)).le_trans (zd _ _)
 have TJ:=(JB (r:=im (λb=>S b\/b=cc) w) (w:=W) (cc:=cc) (bk:=bk) (ps:=ps) (a:=0) (kv:=kv) (vv:=vv) (by omega) (TH.le _ _ h0) (TH.le _ _ h1) (TH.le _ _ h2)
  (by rw[World.frozen?_of_block (w:=w) (TH.block cc Hc (λe=>e))];exact hf) (TH.le _ _ hb) hp rJ Hx hx (k7 TH _) (hY _) (λk hk=>by obtain⟨b,o,h1,h2,h3,_⟩:=pO k hk;exact⟨b,o,h1,h2,h3⟩))
 have Mv:∀h:zk (zJ ps) x<ps.length,zx (zJ ps) x=(ps[zk (zJ ps) x].1==x):=by intro h;unfold zx;rw[List.getElem?_eq_getElem (by simpa[zJ]using h)];simp[zJ]
 have L4:∀h:zk (zJ ps) x<ps.length,qX ps x=if (ps[zk (zJ ps) x].1==x)=true then some ps[zk (zJ ps) x].2 else none:=by intro h;unfold qX;rw[Mv h,List.getElem?_eq_getElem h];rfl
 have az: ¬zk (zJ ps) x<ps.length->qX ps x=none:=by intro h;unfold qX zx;rw[List.getElem?_eq_none (by simpa[zJ]using h)];simp
 have PT:∀w',zq (· =cc) w w'->qX ps x=none->qP (im S w') ((qX ps x).map λ_=>x).toList (.slice none 0 0)/\qP (im S w') (qX ps x).toList (.slice none 0 0):=by intro w' _ h;rw[h];exact⟨qP.nil _,qP.nil _⟩
 generalize zk (zJ ps) x=j at*
 have HX:=hid hx;have iK:=hid pO;clear pO;have iL:=hid az;clear az;have aA:=hid PT;clear PT;have iM:=hid L4;clear L4;have HLE:=hid hY;clear hY;have HM:=hid hM;clear hM;have nZ:=hid Ho;clear Ho;have H7:=hid h_;clear h_;have r7:=hid TH;clear TH;have kx:W.cell? ⟨w.heap.size,0,none⟩=some (.slice xp xn xc):=by rw[hW,World.cell?_alloc_lt _ _ _ (by simp),World.cell?_alloc_new];rfl
 clear hx rJ hp Mv NL h0 h1 h2 hf hb;subst hW;by_cases Mw:j<n
 ·have EL:j<ps.length:=by rw[H7.out];exact Mw
  obtain⟨b,o,_,tP,tq,_,PA,mt⟩:=iK.out j Mw;obtain⟨qb,qo,qn,qc,hq⟩:=PA.some_of_ne (nZ.out _ (List.getElem_mem EL));obtain⟨vp,vn,vc,mY,_⟩:=mt.shape;have hg:=iM.out EL;have e1:jB n kv j=.slice (some ⟨qb,qo,none⟩) qn qc:=by unfold jB;rw[if_pos Mw,hq]
  have e2:jB n vv j=.slice vp vn vc:=by unfold jB;rw[if_pos Mw,mY]
  rw[e1,e2]at TJ;rw[hq]at PA;rw[mY]at mt;generalize Sq:ps[j].1=pk at*
  generalize Lv:ps[j].2=pval at*
  have TJ:=hid (TJ.mono (R':=λe w'=>e=.returned (.tuple #[.slice (some ⟨qb,qo,none⟩) qn qc,.slice vp vn vc])/\zq (· =cc) w w'/\w'.cell? ⟨w.heap.size,0,none⟩=some (.slice xp xn xc)) (by rintro e w' ⟨rfl,m,rfl⟩;refine⟨rfl,(HM.out _).drewN _,?_⟩;rw[World.cell?_drewN,World.cell?_setCell_other _ _ _ _ (by intro e;simp only[Addr.mk.injEq]at e;omega)];exact kx))
  have T8:=hid PA;clear PA;have HBV:=hid mt;clear mt;clear tP tq e1 e2 hq mY Sq Lv;have Mx:∀w1,zq (· =cc) w w1->(im (λb=>S b\/b=cc) w).le w1.cell? :=λw1 h=>((h.mono λ_ _ e=>Or.inr e).im (λ_ _ h=>h)).le_trans (zd _ _);have CO:=hid Mx;clear Mx;by_cases hd:(pk==x)=true
  ·rw[if_pos hd]at hg;have hex:pk=x:=by simpa using hd
   have HG:=hid hg;clear hg;have HEX:=hid hex;clear hex;go_enter func320,ntmps320;go_wp2_with (go_at_call 326;go_must (refine TJ.out.mono ?_);rintro e w1 ⟨rfl,Hl,rh⟩;have Rp:=hid Hl;clear Hl)
   all_goals
    refine wp_loop_once ?_;go_wp2_with (first|(go_at_call 325;go_must (refine(Qa rh (T8.out.mono (CO.out _ Rp.out)) (HX.out.mono (CO.out _ Rp.out))).mono ?_);rintro e w1 ⟨rfl,rfl⟩)|(at_builtin;go_must (refine qy (w0:=w1) jV rfl rfl ((za.refl w1).alloc _) (World.ownsRow_nil _ _ _ _) rfl rfl (Sl.made w1 [.slice vp vn vc] _ 1 1 rfl (by omega)) (by intro u hu;simp only[List.mem_cons,List.not_mem_nil,or_false]at hu;rcases hu with rfl;rfl) (by simp) ?_)));intro v2 w2 Mt Hj H9 nY;have Pf:=hid Hj;have CM:=hid (nY.im_of (S:=S) (λb hb e=>by have:=Jc Mt b hb;have:=hS b e;have:=Rp.out.size;omega));obtain⟨a2,n2,b2,rfl⟩:=nY.shape;clear nY H9 Mt Hj
    go_wp2_with (at_builtin;go_must (refine qy (w0:=w2) jV rfl rfl ((za.refl w2).alloc _) (World.ownsRow_nil _ _ _ _) rfl rfl (Sl.made w2 [.slice (some ⟨qb,qo,none⟩) qn qc] _ 1 1 rfl (by omega)) (by intro u hu;simp only[List.mem_cons,List.not_mem_nil,or_false]at hu;rcases hu with rfl;rfl) (by simp) ?_));intro v3 w3 tQ Hg NO Td;have Rb:=hid Hg;have aB:=hid (Td.im_of (S:=S) (λb hb e=>by have:=Jc tQ b hb;have:=hS b e;have:=Rp.out.size;have:=Pf.out.size;omega));obtain⟨a3,c3,rfl⟩:∃a c,v3=.slice a 1 c:=by obtain⟨a,n,c,rfl,hl,_⟩:=Td;simp at hl;exact⟨a,c,by rw[<-hl]⟩
    clear Td NO tQ Hg;go_wp2;go_ret2;have NP:zq (· =cc) w w3:=(Rp.out.trans (Pf.out.trans Rb.out) λ_ _ e=>e.elim);refine⟨_,_,rfl,NP,?_,?_⟩
    ·rw[HG.out];exact⟨_,aB.out,.cons (by rw[<-HEX.out];exact T8.out.mono (((NP.mono λ_ _ e=>Or.inr e).im (λ_ _ h=>h)).le_trans (jn λ_ h=>Or.inl h))) .nil⟩
    ·rw[HG.out];exact⟨_,CM.out.mono (Rb.out.im _),.cons (HBV.out.mono (((NP.mono λ_ _ e=>Or.inr e).im (λ_ _ h=>h)).le_trans (jn λ_ h=>Or.inl h))) .nil⟩
  ·rw[if_neg hd]at hg;have HG:=hid hg;clear hg;have hdf:(pk==x)=false:=by simpa using hd
   go_enter func320,ntmps320;go_wp2_with (go_at_call 326;go_must (refine TJ.out.mono ?_);rintro e w1 ⟨rfl,Hl,rh⟩;have Rp:=hid Hl;clear Hl)
   all_goals
    refine wp_loop_once ?_;go_wp2_with (go_at_call 325;go_must (refine(Qa rh (T8.out.mono (CO.out _ Rp.out)) (HX.out.mono (CO.out _ Rp.out))).mono ?_);rintro e w1 ⟨rfl,rfl⟩);go_ret2;exact⟨_,_,rfl,Rp.out,aA.out _ Rp.out HG.out⟩
 ·have hg:=iL.out (by rw[H7.out];exact Mw);have e1:∀f,jB n f j=.slice none 0 0:=λf=>by unfold jB;rw[if_neg Mw]
  rw[e1,e1]at TJ;have TJ:=hid (TJ.mono (R':=λe w'=>e=.returned (.tuple #[.slice none 0 0,.slice none 0 0])/\zq (· =cc) w w') (by rintro e w' ⟨rfl,m,rfl⟩;exact⟨rfl,(HM.out _).drewN _⟩));have HG:=hid hg;clear hg;clear e1;go_enter func320,ntmps320;go_wp2_with (go_at_call 326;go_must (refine TJ.out.mono ?_);rintro e w1 ⟨rfl,Hl⟩;have Rp:=hid Hl;clear Hl)
  all_goals
   refine wp_loop_once ?_;go_wp2;go_ret2;exact⟨_,_,rfl,Rp.out,aA.out _ Rp.out HG.out⟩
theorem Sl.made_at(w:World)(cs:List Value)(T sz n g:Nat)(hg:g=w.heap.size)(h:cs.length=n*sz)(hn:n<=9223372036854775807):Sl (w.alloc (.cells cs.toArray T)).cell? sz cs (.slice (some ⟨g,0,none⟩) n n):=by subst hg;exact Sl.made w cs T sz n h hn
theorem Sl.drew{w:World}(h:Sl w.cell? sz cs v):Sl w.drew.cell? sz cs v:=h
theorem Zb{w:World}(h:w.ownsRow base e sz v n xs):w.drew.ownsRow base e sz v n xs:=h
theorem X5{w:World}{row:Option Nat}(hg:w.grownBy w' row){a:Addr}(hl:a.block<w.heap.size)(Ho:some a.block≠row):w'.frozen? a=w.frozen? a:=World.frozen?_of_block (hg.block a.block hl Ho)
theorem ZU(w:World)(o:Obj)(a:Addr)(h:a.block<w.heap.size):(w.alloc o).frozen? a=w.frozen? a:=World.frozen?_alloc_old w o a (Nat.ne_of_lt h)
theorem zch{w:World}{o:Oper}{a:Act}{K:Act->World->Prop}{Q:Exit->Act->World->Prop}{t:TypeId}{z:Value}
  (E:yy P t e z sz bytes){s x:Operand}(ho:o.op=.call {callee:=.builtin .append,args:= #[s,x],argTypes:= #[t,t]})
  {w0:World}(hN:za w0 w){v:Value}{n:Nat}{xs:List Value}(Ha:w.ownsRow w0.heap.size e sz v n xs)(hs:a.eval s=v)
  {xv:Value}{news:List Value}(hx:a.eval x=xv)(rq:Sl w.cell? sz news xv)(h1:∀u∈news,u.oneCell'=true)
  (PM:(xs.length+news.length)*(bytes+1)<=140737488355328)
  (h:∀v' w' m,news.length=m*sz->w'.ownsRow w0.heap.size e sz v' (n+m) (xs++news)->za w0 w'->w.grownBy w' v.ownBlock->Sl w'.cell? sz (xs++news) v'->K (a.put o.dst v') w'):o.wp P a w K Q:=by
 obtain⟨i,hi,hz,pL,TF⟩:=info_parts E.info;obtain⟨p,m,c,rfl,hl,CI,hc,NL,H_⟩:=rq;have mh:xs.length=n*sz:=Ha.1;have s_:=E.pos;have RE:n<=xs.length:=by rw[mh];exact Nat.le_mul_of_pos_right _ s_
 have ax:m<=news.length:=by rw[hl];exact Nat.le_mul_of_pos_right _ s_
 have mX:n+m<=maxLen:=by have:(xs.length+news.length)*1<=(xs.length+news.length)*(bytes+1):=Nat.mul_le_mul_left _ (by omega);simp only[maxLen];omega
 have pw:(n+m)*bytes<=140737488355328:=Nat.le_trans (Nat.mul_le_mul (by omega) (by omega)) PM;have Hv:∀v' w',w'.ownsRow w0.heap.size e sz v' (n+m) (xs++news)->w.grownBy w' v.ownBlock->K (a.put o.dst v') w':=λv' w' h2 h3=>
  h v' w' m hl h2 (hN.of_grown h3 (λk hk=>(World.ownsRow.lt Ha k hk).1)) h3 (Sl.of_own h2)
 cases p with
 |some ad=>
  refine wp_append_own w s x t ho w0.heap.size e i z sz bytes E.under hi hz pL TF E.zs E.pos v n xs hs Ha ad m c news hx hl ?_ h1 mX pw hN.size (λv' w' h2 h3 _=>Hv v' w' h2 h3);intro j u hj;rcases H_ with Ra|⟨b,o',hp,Hc⟩
  ·subst Ra;simp at hj
  ·simp only[Option.some.injEq]at hp;subst hp;have rC:j<news.length:=(List.getElem?_eq_some_iff.1 hj).1;have e1:(⟨b,o',none⟩:Addr).add j=⟨b,o'+j,none⟩:=by unfold Addr.add;split<;>simp_all
   rw[e1,Hc j rC,<-hj,List.getElem?_eq_getElem rC]
 |none=>
  have PK:news=[]:=by
   rcases H_ with Ra|⟨b,o',hp,_⟩
   ·exact Ra
   ·cases hp
  subst PK;have CJ:m=0:=by
   rcases Nat.eq_zero_or_pos m with h0|h0
   ·exact h0
   ·have:0<m*sz:=Nat.mul_pos h0 E.pos;simp at hl;omega
  subst CJ;obtain rfl:c=0:=NL rfl;have pQ:=run_append_owned_none (P:=P) (w:=w) w0.heap.size t o.type e i sz E.under hi v n xs Ha;have hf:=Hv v w (by simpa using Ha) ⟨rfl,rfl,rfl,Nat.le_refl _,λ_ _ _=>rfl⟩;unfold Oper.wp execOp;simp only[ho,resolve,invoke,builtin,Sem.run_bind,Sem.run_pure,Result.andThen_ok,List.map_toArray,List.map_cons,List.map_nil,hs,hx,pQ];exact hf
theorem dK{w:World}{ops:Array Oper}{o:Oper}{a:Act}{K:Act->World->Prop}{Q:Exit->Act->World->Prop}{E0:Prop}{t:TypeId}{z:Value}
  (E:yy P t e z sz bytes)(Tc:o.guard=none){s x:Operand}(ho:o.op=.call {callee:=.builtin .append,args:= #[s,x],argTypes:= #[t,t]})
  {w0:World}(hN:za w0 w){v:Value}{n:Nat}{xs:List Value}(Ha:w.ownsRow w0.heap.size e sz v n xs)(hs:a.eval s=v)
  {xv:Value}{news:List Value}(hx:a.eval x=xv)(rq:Sl w.cell? sz news xv)(h1:∀u∈news,u.oneCell'=true)
  (PM:(xs.length+news.length)*(bytes+1)<=140737488355328)
  (h:∀v' w' m,news.length=m*sz->w'.ownsRow w0.heap.size e sz v' (n+m) (xs++news)->za w0 w'->w.grownBy w' v.ownBlock->Sl w'.cell? sz (xs++news) v'->K (a.put o.dst v') w'):
  if Region.wanted o (yielded ops a.tmps)=true then o.wp P a w K Q else E0:=by
 rw[if_pos (by simp[Region.wanted,Tc])];exact zch E ho hN Ha hs hx rq h1 PM h
abbrev ptr(b:Nat):Value:=.pointer (some ⟨b,0,none⟩)
abbrev zZ:=Bytes×yr
def jN(r:Rd)(C:List zZ)(v:Value):Prop:=
 ∃cs:List (Value×Value),Sl r 2 (qm cs) v/\qz (λ(b:zZ) (c:Value×Value)=>Bs r b.1 c.1/\yR r b.2 c.2) C cs
variable{C:List zZ}
theorem jN.mono(hr:r.le r')(h:jN r C v):jN r' C v:=by obtain⟨cs,h1,h2⟩:=h;exact⟨cs,h1.mono hr,h2.mono λ_ _ ⟨a,b⟩=>⟨a.mono hr,b.mono hr⟩⟩
theorem yR.shape(h:yR r ps v):∃p n c,v=.slice p n c:=by obtain⟨_,h,_⟩:=h;exact h.shape
def D3(r:Rd)(w:World)(tx:Nat)(b:Nat×zZ):Prop:=
 ∃nv pv fp,w.heap[b.1]? =some (.cells #[ptr tx,nv,pv,fp] 328 (0,0))/\Bs r b.2.1 nv/\yR r b.2.2 pv
structure TxW(r:Rd)(w:World)(base tx db:Nat)(wt:Bool)(bs:List (Nat×zZ)):Prop where
 htx:∃lv,w.heap[tx]? =some (.cells #[ptr db,.bool wt,.bool false,lv] 310 (0,0))/\w.ownsRow base 329 1 lv bs.length (bs.map λb=>ptr b.1)
 txb:base<=tx
 hb:∀b∈bs,base<=b.1/\D3 r w tx b
 nodup:(bs.map (·.1)).Nodup
theorem Xn:yy prog 308 329 (.pointer none) 1 8:=⟨by kernel_rfl,by kernel_rfl,rfl,by decide⟩
theorem zaU:yy prog 77 325 (.agg #[.slice none 0 0,.slice none 0 0]) 2 48:=⟨by kernel_rfl,by kernel_rfl,rfl,by decide⟩
variable{dv:Value}{wt:Bool}
theorem D4{db:Nat}{w:World}(_hS:∀b,S b->b<w.heap.size)
  (rE:w.cell? ⟨db,0,none⟩=some dv)(hd:jN (im S w) C dv)(Hx:C.length<=1000):
  Calls prog 105 #[ptr db,.bool wt] w λe w'=>e=.returned (.tuple #[ptr w.heap.size,.nilIface])/\za w w'/\
   ∃bs,TxW (im S w) w' w.heap.size w.heap.size db wt bs/\bs.map (·.2)=C/\w.heap.size<w'.heap.size:=by
 obtain⟨cs,⟨p,n,c,rfl,hl,hn,hc,NL,H_⟩,He⟩:=hd;have h_:=He.length;rw[yD]at hl;have T9:n=C.length:=by omega
 have HS:=hid _hS;clear _hS;have Hu:=hid He;clear He;have CP:=hid H_;clear H_;have HL:=hid hl;clear hl;have H7:=hid h_;clear h_;have HN':=hid T9;clear T9;clear NL;go_enter func105,ntmps105;go_wp2;go_loopw [7] (λi wr=>∃(k:Nat) (bs:List (Nat×zZ)),k<=n/\i=.int .i64 k/\za w wr/\TxW (im S w) wr w.heap.size w.heap.size db wt bs/\bs.map (·.2)=C.take k/\w.heap.size<wr.heap.size) (λi _=>n-(intOf i).toNat)
 case atStart=>refine⟨0,[],Nat.zero_le _,rfl,(za.refl w).alloc _,⟨⟨_,zg _ _,World.ownsRow_nil _ _ _ _⟩,Nat.le_refl _,λb hb=>by simp at hb,by simp⟩,by simp,by simp⟩
 case round=>
  obtain⟨k,bs,hk,rfl,Hp,htw,rZ,pL⟩:=hrel;obtain⟨⟨lv,hx,Ha⟩,_,PA,pX⟩:=htw;have d0:wr.cell? ⟨db,0,none⟩=some (.slice p n c):=Hp.le _ _ rE;by_cases Hb:k<n
  ·obtain⟨b,o,rfl,nv,pv,h1,h2,hkC,cw,iO⟩:∃b o,p=some ⟨b,o,none⟩/\∃nv pv,wr.cell? ⟨b,o+k*2,none⟩=some nv/\wr.cell? ⟨b,o+k*2+1,none⟩=some pv/\∃hk:k<C.length,Bs (im S w) (C[k]'hk).1 nv/\yR (im S w) (C[k]'hk).2 pv:=by
    have sD:k<cs.length:=by have:=HL.out;omega
    have l2:=yD cs;rcases CP.out with h0|⟨b,o,rfl,Hc⟩
    ·rw[h0]at l2;simp at l2;omega
    ·have g1:=(ZA cs k).1;have g2:=(ZA cs k).2;rw[List.getElem?_eq_getElem (by omega)]at g1 g2;simp only[List.getElem?_eq_getElem sD,Option.map_some,Option.some.injEq]at g1 g2;refine⟨b,o,rfl,_,_,k7 Hp _ _ _ (Hc (k*2) (by omega)),k7 Hp _ _ _ (by rw[Nat.add_assoc];exact Hc (k*2+1) (by omega)),by rw[H7.out];exact sD,?_,?_⟩
     ·rw[g1];exact(Hu.out.get k (by rw[H7.out];exact sD) sD).1
     ·rw[g2];exact(Hu.out.get k (by rw[H7.out];exact sD) sD).2
   obtain⟨np,nn',nc,rfl,_⟩:=cw.shape;obtain⟨pp,pn,pc,rfl⟩:=iO.shape;have t3:wr.cell? ⟨w.heap.size,3,none⟩=some lv:=by rw[cell_of_row wr _ 3 _ _ (0,0) hx];rfl
   have f3:wr.frozen? ⟨w.heap.size,3,none⟩=false:=by simp[World.frozen?,hx]
   have ek:(k:Int)<(n:Int):=by omega
   have Rc:=hid Hp;clear Hp;have Px:=hid Ha;clear Ha;have HX:=hid hx;clear hx;have T8:=hid PA;clear PA;have cz:=hid pX;clear pX;have BI:=hid rZ;clear rZ;have HBN:=hid cw;clear cw;have HBP:=hid iO;clear iO;have CQ:bs.length=k:=by have:=congrArg List.length BI.out;simp at this;omega
   have HLB:=hid CQ;clear CQ;have Ho:∀k',lv.ownBlock=some k'->k'≠w.heap.size:=by
    intro k' Sa e;subst e;rcases Px.out.2 with⟨rfl,_⟩|⟨g,cap,cur,rfl,_,hg,_⟩
    ·simp[Value.ownBlock]at Sa
    ·simp[Value.ownBlock]at Sa;subst Sa;rw[HX.out]at hg;simp at hg
   have nZ:=hid Ho;clear Ho;have hrel:∀v5 w5 nn,w5.ownsRow w.heap.size 329 1 v5 nn ((bs.map λb=>ptr b.1)++[ptr wr.heap.size])->za w w5->
     (((wr.alloc (.cells #[ptr w.heap.size,.slice np nn' nc,.slice pp pn pc,.float .f64 0] 328)).alloc (.cells #[ptr wr.heap.size] 329)).drew).grownBy w5 lv.ownBlock->
     za w (w5.setCell ⟨w.heap.size,3,none⟩ v5)/\TxW (im S w) (w5.setCell ⟨w.heap.size,3,none⟩ v5) w.heap.size w.heap.size db wt (bs++[(wr.heap.size,C[k])])/\w.heap.size<(w5.setCell ⟨w.heap.size,3,none⟩ v5).heap.size:=by
    intro v5 w5 nn RH pz P6;have aC:=P6.size;simp at aC;have aD:w5.heap[w.heap.size]? =some (.cells #[ptr db,.bool wt,.bool false,lv] 310 (0,0)):=by rw[P6.block _ (by simp;omega) (λe=>nZ.out _ e.symm rfl)];show((wr.alloc _).alloc _).heap[w.heap.size]? =_;rw[Below.heap_alloc _ _ _ (by simp;omega),Below.heap_alloc _ _ _ pL];exact HX.out
    have Pp:∀(j:Nat) (o:Obj),j≠w.heap.size->w5.heap[j]? =some o->(w5.setCell ⟨w.heap.size,3,none⟩ v5).heap[j]? =some o:=λj o hj ho=>by rw[Below.heap_setCell _ _ _ _ (λe=>hj e)];exact ho
    have iP:∀(j:Nat) (cc:Array Value),j<wr.heap.size->wr.heap[j]? =some (.cells cc 328 (0,0))->w5.heap[j]? =some (.cells cc 328 (0,0)):=by
     intro j cc hj hjc;rw[P6.block j (by simp;omega) ?_]
     ·show((wr.alloc _).alloc _).heap[j]? =_;rw[Below.heap_alloc _ _ _ (by simp;omega),Below.heap_alloc _ _ _ hj];exact hjc
     ·intro e;rcases Px.out.2 with⟨rfl,_⟩|⟨g,cap,cur,rfl,_,hg,_⟩
      ·simp[Value.ownBlock]at e
      ·simp[Value.ownBlock]at e;subst e;rw[hjc]at hg;simp at hg
    have aE:w5.heap[wr.heap.size]? =some (.cells #[ptr w.heap.size,.slice np nn' nc,.slice pp pn pc,.float .f64 0] 328 (0,0)):=by
     rw[P6.block _ (by simp;omega) ?_]
     ·show((wr.alloc _).alloc _).heap[wr.heap.size]? =_;rw[Below.heap_alloc _ _ _ (by simp),zg]
     ·intro e;have:=(World.ownsRow.lt Px.out _ e.symm).2;omega
    have My:nn=bs.length+1:=by have:=RH.1;simp at this;omega
    refine⟨zq.setCell (S:=λ_=>False) pz (λh=>by simp at h) _,⟨⟨v5,?_,?_⟩,Nat.le_refl _,?_,?_⟩,by simp[World.setCell];omega⟩
    ·simp only[World.setCell,Array.getElem?_modify,if_true,aD,Option.map_some];rfl
    ·refine⟨by simp,?_⟩;rcases RH.2 with⟨rfl,h0⟩|⟨g,cap,cur,rfl,h1,h2,h3,h4,h5,h6⟩
     ·omega
     ·refine Or.inr ⟨g,cap,cur,by simp[My],h1,Pp g _ ?_ h2,by simp;omega,h4,h5,?_⟩
      ·intro e;subst e;rw[aD]at h2;simp at h2
      ·simp only[List.length_append,List.length_singleton,List.map_append,List.map_cons,List.map_nil];rw[<-My];exact h6
    ·intro b hb;rcases List.mem_append.1 hb with hb|hb
     ·obtain⟨h1,nv,pv,fp,h2,h3,h4⟩:=T8.out b hb;have Hb:b.1<wr.heap.size:=(Array.getElem?_eq_some_iff.1 h2).1;refine⟨h1,nv,pv,fp,Pp _ _ ?_ (iP _ _ Hb h2),h3,h4⟩;intro e;rw[e,HX.out]at h2;simp at h2
     ·simp only[List.mem_singleton]at hb;subst hb;exact⟨Nat.le_of_lt pL,_,_,_,Pp _ _ (by simp;omega) aE,HBN.out,HBP.out⟩
    ·rw[List.map_append,List.nodup_append];refine⟨cz.out,by simp,?_⟩;intro x hx y hy e;simp only[List.map_cons,List.map_nil,List.mem_singleton]at hy;obtain⟨b,hb,rfl⟩:=List.mem_map.1 hx;obtain⟨_,nv,pv,fp,h2,_⟩:=T8.out b hb;have Hb:b.1<wr.heap.size:=(Array.getElem?_eq_some_iff.1 h2).1;omega
   have iQ:=hid hrel;clear hrel;have iR:Hid ((bs++[(wr.heap.size,C[k])]).map (·.2)=C.take (k+1)):=by show _=_;rw[List.map_append,BI.out,List.take_succ_eq_append_getElem hkC];rfl
   clear rE;go_wp2;go_region_law (refine dK (w0:=w) Xn rfl rfl (((Rc.out.alloc _).alloc _).drew) (Zb (World.ownsRow.alloc (World.ownsRow.alloc Px.out _) _)) rfl rfl (Sl.drew (Sl.made_at _ [ptr _] _ 1 1 _ (by simp) rfl (by omega))) (by intro u hu;simp only[List.mem_cons,List.not_mem_nil,or_false]at hu;rcases hu with rfl;rfl) (by have:=HLB.out;simp;omega) ?_;intro v5 w5 m5 pr RH pz P6 Tf;obtain⟨a5,n5,b5,rfl⟩:=Tf.shape;have t5:w5.cell? ⟨w.heap.size,3,none⟩=some lv:=P6.cell (by rw[World.cell?_drew,World.cell?_alloc_lt _ _ _ (by simp;omega),World.cell?_alloc_lt _ _ _ (by simp;omega)];exact t3) (by intro e;exact nZ.out _ e.symm rfl);have f5:w5.frozen? ⟨w.heap.size,3,none⟩=false:=by rw[X5 P6 (by simp;omega) (by intro e;exact nZ.out _ e.symm rfl),World.frozen?_drew,ZU _ _ _ (by simp;omega),ZU _ _ _ (by simp;omega)];exact f3)
   all_goals
    have L5:=hid (iQ.out _ w5 _ RH pz P6);clear pr RH pz P6 Tf;go_wp2;go_roundw
    case rel=>exact⟨k+1,_,by omega,by go_num,L5.out.1,L5.out.2.1,iR.out,L5.out.2.2⟩
    case measure=>simp[intOf];omega
  ·have ph:k=n:=by omega
   have hC:bs.map (·.2)=C:=by rw[rZ,ph,HN'.out,List.take_length]
   have HC:=hid hC;clear hC rZ ph;have Rc:=hid Hp;clear Hp;have Px:=hid Ha;clear Ha;have HX:=hid hx;clear hx;have T8:=hid PA;clear PA;have cz:=hid pX;clear pX;clear rE;go_wp2;go_ret2;exact⟨rfl,Rc.out,bs,⟨⟨lv,HX.out,Px.out⟩,Nat.le_refl _,T8.out,cz.out⟩,HC.out,pL⟩
structure kr(r:Rd)(w:World)(F:Nat->Prop)(tx db:Nat)(wt:Bool)(bs:List (Nat×zZ)):Prop where
 htx:∃lv,w.heap[tx]? =some (.cells #[ptr db,.bool wt,.bool false,lv] 310 (0,0))/\w.ownsRow 0 329 1 lv bs.length (bs.map λb=>ptr b.1)/\∀b,lv.ownBlock=some b->F b
 ftx:F tx
 hb:∀b∈bs,F b.1/\D3 r w tx b
 nodup:(bs.map (·.1)).Nodup
theorem qJ{w:World}(h:w.ownsRow base e sz v n xs)(b0:Nat)(hb:b0<=base):w.ownsRow b0 e sz v n xs:=by
 refine⟨h.1,?_⟩;rcases h.2 with h2|⟨g,cap,cur,h1,h2,h3⟩
 ·exact Or.inl h2
 ·exact Or.inr ⟨g,cap,cur,h1,Nat.le_trans hb h2,h3⟩
theorem TxW.toF{w:World}{db:Nat}{bs:List (Nat×zZ)}(h:TxW r w base tx db wt bs):kr r w (λb=>base<=b/\b<w.heap.size) tx db wt bs:=by obtain⟨⟨lv,h1,h2⟩,h3,h4,h5⟩:=h;refine⟨⟨lv,h1,qJ h2 0 (Nat.zero_le _),λb hb=>World.ownsRow.lt h2 b hb⟩,⟨h3,(Array.getElem?_eq_some_iff.1 h1).1⟩,λb hb=> ?_,h5⟩;obtain⟨g1,g2⟩:=h4 b hb;refine⟨⟨g1,?_⟩,g2⟩;obtain⟨_,_,_,g3,_⟩:=g2;exact(Array.getElem?_eq_some_iff.1 g3).1
theorem zS{w:World}(h:w.ownsRow base e sz v n xs)(hb:∀b,v.ownBlock=some b->w'.heap[b]? =w.heap[b]?):w'.ownsRow base e sz v n xs:=by
 refine⟨h.1,?_⟩;rcases h.2 with h2|⟨g,cap,cur,rfl,h2,h3,h4⟩
 ·exact Or.inl h2
 ·exact Or.inr ⟨g,cap,cur,rfl,h2,(hb g rfl).trans h3,h4⟩
theorem D3.frame{w:World}{b:Nat×zZ}(h:D3 r w tx b)(hb:w'.heap[b.1]? =w.heap[b.1]?)(hr:r.le r'):D3 r' w' tx b:=by obtain⟨nv,pv,fp,h1,h2,h3⟩:=h;exact⟨nv,pv,fp,hb.trans h1,h2.mono hr,h3.mono hr⟩
variable{F:Nat->Prop}
theorem kr.frame{w:World}{db:Nat}{bs:List (Nat×zZ)}(h:kr r w F tx db wt bs)(hb:∀b,F b->w'.heap[b]? =w.heap[b]?)(hr:r.le r'):kr r' w' F tx db wt bs:=by obtain⟨⟨lv,h1,h2,h3⟩,h4,h5,h6⟩:=h;exact⟨⟨lv,(hb _ h4).trans h1,zS h2 λb e=>hb b (h3 b e),h3⟩,h4,λb m=>⟨(h5 b m).1,(h5 b m).2.frame (hb _ (h5 b m).1) hr⟩,h6⟩
theorem kr.mono{w:World}{F':Nat->Prop}{db:Nat}{bs:List (Nat×zZ)}(h:kr r w F tx db wt bs)(hF:∀b,F b->F' b):kr r w F' tx db wt bs:=by obtain⟨⟨lv,h1,h2,h3⟩,h4,h5,h6⟩:=h;exact⟨⟨lv,h1,h2,λb e=>hF b (h3 b e)⟩,hF _ h4,λb m=>⟨hF _ (h5 b m).1,(h5 b m).2⟩,h6⟩
theorem kr.lt{w:World}{db:Nat}{bs:List (Nat×zZ)}(h:kr r w F tx db wt bs):tx<w.heap.size:=by obtain⟨⟨lv,h1,_⟩,_⟩:=h;exact(Array.getElem?_eq_some_iff.1 h1).1
def zG(bs:List (Nat×zZ)):List Bytes:=bs.map (·.2.1)
theorem kr.place{w:World}{db:Nat}{bs:List (Nat×zZ)}(h:kr r w F tx db wt bs)(hr:r.le w.cell?){x:Bytes}(hx:Bs r x xv):
  Calls prog 228 #[ptr tx,xv] w λe w'=>e=.returned (.tuple #[.int .i64 (zk (zG bs) x),.bool (zx (zG bs) x)])/\w=w':=by
 obtain⟨⟨lv,h1,h2,_⟩,_,h5,_⟩:=h;have pW:=Sl.of_own h2;obtain⟨p,n,c,rfl,hl,hn,hc,hp,H_⟩:=pW;have h_:bs.length=n:=by simpa using hl
 refine D2 tx p n c (zG bs) (λk=>(bs[k]?.map (·.1)).getD 0) (λk=>match bs[k]? with|some b=>(w.cell? ⟨b.1,1,none⟩).getD .nilIface|none=>.nilIface) x xv w (by simpa[zG]using h_) (by omega) (by rw[cell_of_row w tx 3 _ _ (0,0) h1];rfl) ?_ ?_ ?_ (hx.mono hr)
 ·intro k hk;have Sa:k<bs.length:=by omega
  rcases H_ with h0|⟨b,o,rfl,Hc⟩
  ·simp at h0;subst h0;simp at Sa
  ·refine⟨b,o,rfl,?_⟩;have:=Hc k (by simpa using Sa);rw[this];simp[List.getElem?_eq_getElem Sa]
 ·intro k hk;have Sa:k<bs.length:=by omega
  obtain⟨nv,pv,fp,g1,g2,g3⟩:=(h5 _ (List.getElem_mem Sa)).2;simp only[List.getElem?_eq_getElem Sa,Option.map_some,Option.getD_some];have:w.cell? ⟨bs[k].1,1,none⟩=some nv:=by rw[cell_of_row w _ 1 _ _ (0,0) g1];rfl
  rw[this];rfl
 ·intro k hk;have Sa:k<bs.length:=by simpa[zG]using hk
  obtain⟨nv,pv,fp,g1,g2,g3⟩:=(h5 _ (List.getElem_mem Sa)).2;simp only[List.getElem?_eq_getElem Sa];have:w.cell? ⟨bs[k].1,1,none⟩=some nv:=by rw[cell_of_row w _ 1 _ _ (0,0) g1];rfl
  rw[this];have e:(zG bs)[k]=bs[k].2.1:=by simp[zG]
  rw[e];exact g2.mono hr
theorem kr.row{w:World}{db:Nat}{bs:List (Nat×zZ)}(h:kr r w F tx db wt bs):∃p n c,w.cell? ⟨tx,3,none⟩=some (.slice p n c)/\bs.length=n/\n<=c/\c<=9223372036854775807/\
  ∀k (hk:k<bs.length),∃b o,p=some ⟨b,o,none⟩/\w.cell? ⟨b,o+k,none⟩=some (ptr bs[k].1)/\b≠tx/\(∀T f g,w.heap[b]? =some (.cells f T g)->T=329):=by
 obtain⟨⟨lv,h1,h2,_⟩,_,h5,_⟩:=h;have pW:=Sl.of_own h2;have BJ:∀b,lv.ownBlock=some b->∀T f g,w.heap[b]? =some (.cells f T g)->T=329:=by
  intro b hb T f g hg;rcases h2.2 with⟨rfl,_⟩|⟨g',cap,cur,rfl,_,cA,_⟩
  ·simp[Value.ownBlock]at hb
  ·simp[Value.ownBlock]at hb;subst hb;rw[cA]at hg;simp at hg;exact hg.2.1.symm
 obtain⟨p,n,c,rfl,hl,hn,hc,hp,H_⟩:=pW;have h_:bs.length=n:=by simpa using hl
 refine⟨p,n,c,by rw[cell_of_row w tx 3 _ _ (0,0) h1];rfl,h_,hn,hc,λk hk=> ?_⟩;rcases H_ with h0|⟨b,o,rfl,Hc⟩
 ·simp at h0;subst h0;simp at hk
 ·have pM:(Value.slice (some ⟨b,o,none⟩) n c).ownBlock=some b:=rfl;refine⟨b,o,rfl,?_,?_,BJ b pM⟩
  ·have:=Hc k (by simpa using hk);rw[this];simp
  ·intro e;subst e;have:=BJ b pM _ _ _ h1;simp at this
variable{j:Nat}
theorem Zc{w:World}{db:Nat}{bs:List (Nat×zZ)}(h:kr r w F tx db wt bs)(hr:r.le w.cell?){x:Bytes}(hx:Bs r x xv)
  (hj:j<bs.length)(pS:zk (zG bs) x=j)(RI:zx (zG bs) x=true):
  Calls prog 319 #[ptr tx,xv] w λe w'=>e=.returned (ptr bs[j].1)/\w=w':=by
 have ru:=hid (h.place hr hx);rw[pS,RI]at ru;obtain⟨p,n,c,EM,h_,P5,T_,pO⟩:=h.row;obtain⟨b,o,rfl,PA,_⟩:=pO j hj;have Mw:(j:Int)<(n:Int):=by omega
 clear pO hr h hx RI pS;generalize bs[j].1=q at*
 go_enter func319,ntmps319;go_wp2_with (go_at_call 228;go_must (refine ru.out.mono ?_);rintro e w' ⟨rfl,rfl⟩);go_ret;exact⟨rfl,rfl⟩
theorem dL{w:World}{a b d lv:Value}(h1:w.heap[tx]? =some (.cells #[a,b,d,lv] 310 (0,0))):
  Calls prog 85 #[ptr tx] w λe w'=>e=.returned .nilIface/\zq (· =tx) w w':=by
 have c2:w.cell? ⟨tx,2,none⟩=some d:=by rw[cell_of_row w tx 2 _ _ (0,0) h1];rfl
 have f2:w.frozen? ⟨tx,2,none⟩=false:=by simp[World.frozen?,h1]
 go_enter func85,ntmps85;go_wp2;go_ret;exact⟨rfl,zq.setCell (S:=(· =tx)) (zq.refl _ _) (λ_=>rfl) _⟩
theorem qz.mapL{γ:Type}(f:α->γ){R:γ->β->Prop}{l:List α}{m:List β}(h:qz (λa b=>R (f a) b) l m):qz R (l.map f) m:=by
 induction h with
 |nil=>exact .nil
 |cons a _ ih=>exact .cons a ih
theorem vx{a w:World}(h:zq S a w){p:Addr}(hp:S p.block)(u:Value):zq S a (w.setCell p u):=h.setCell (λ_=>hp) u
theorem GH{w:World}{db:Nat}{bs:List (Nat×zZ)}(hS:∀b,S b->b<w.heap.size)(htS:S tx)(hdS:S db)
  (h:kr (im S w) w F tx db true bs)(hd:w.heap[db]? =some (.cells #[dv] 79 (0,0)))(Hx:bs.length<=1000):
  Calls prog 95 #[ptr tx] w λe w'=>e=.returned .nilIface/\zq (λb=>b=tx\/b=db) w w'/\∃dv',w'.heap[db]? =some (.cells #[dv'] 79 (0,0))/\jN (im S w') (bs.map (·.2)) dv':=by
 obtain⟨p,n,c,EM,h_,P5,T_,pO⟩:=h.row;obtain⟨⟨lv,h1,_⟩,_,PA,_⟩:=id h;have c2:w.cell? ⟨tx,2,none⟩=some (.bool false):=by rw[cell_of_row w tx 2 _ _ (0,0) h1];rfl
 have c1:w.cell? ⟨tx,1,none⟩=some (.bool true):=by rw[cell_of_row w tx 1 _ _ (0,0) h1];rfl
 have c0:w.cell? ⟨tx,0,none⟩=some (ptr db):=by rw[cell_of_row w tx 0 _ _ (0,0) h1];rfl
 have f2:w.frozen? ⟨tx,2,none⟩=false:=by simp[World.frozen?,h1]
 have Mz:tx<w.heap.size:=h.lt;have Ho:db≠tx:=by intro e;subst e;rw[h1]at hd;simp at hd
 obtain⟨W,hW⟩:=zex (w.setCell ⟨tx,2,none⟩ (.bool true));have k3:W.cell? ⟨tx,3,none⟩=some (.slice p n c):=by rw[hW,World.cell?_setCell_other _ _ _ _ (by simp)];exact EM
 have k0:W.cell? ⟨tx,0,none⟩=some (ptr db):=by rw[hW,World.cell?_setCell_other _ _ _ _ (by simp)];exact c0
 have BK:∀j,j≠tx->W.heap[j]? =w.heap[j]? :=λj hj=>by rw[hW,Below.heap_setCell _ _ _ _ (λe=>hj e)]
 have iS:W.heap[db]? =some (.cells #[dv] 79 (0,0)):=(BK _ Ho).trans hd;have iT:W.heap.size=w.heap.size:=by rw[hW];simp[World.setCell]
 have hMW:zq (· =tx) w W:=by rw[hW];exact zq.setCell (S:=(· =tx)) (zq.refl _ _) (λ_=>rfl) _
 have mq:=hid (show∀k (hk:k<bs.length),∃b o,p=some ⟨b,o,none⟩/\W.cell? ⟨b,o+k,none⟩=some (ptr bs[k].1)from λk hk=>by obtain⟨b,o,e,g,Pd,_⟩:=pO k hk;exact⟨b,o,e,by rw[World.cell?_of_block (w:=w) (BK b Pd)];exact g⟩)
 clear pO;have T8:=hid (show∀k (hk:k<bs.length),∃np nn nc pp pn pc,W.cell? ⟨bs[k].1,1,none⟩=some (.slice np nn nc)/\W.cell? ⟨bs[k].1,2,none⟩=some (.slice pp pn pc)/\Bs (im S w) bs[k].2.1 (.slice np nn nc)/\yR (im S w) bs[k].2.2 (.slice pp pn pc)from λk hk=>by
  obtain⟨nv,pv,fp,g1,g2,g3⟩:=(PA _ (List.getElem_mem hk)).2;obtain⟨np,nn,nc,rfl,_⟩:=g2.shape;obtain⟨pp,pn,pc,rfl⟩:=g3.shape;have Pd:bs[k].1≠tx:=by intro e;rw[e,h1]at g1;simp at g1
  refine⟨np,nn,nc,pp,pn,pc,?_,?_,g2,g3⟩
  ·rw[World.cell?_of_block (w:=w) (BK _ Pd),cell_of_row w _ 1 _ _ (0,0) g1];rfl
  ·rw[World.cell?_of_block (w:=w) (BK _ Pd),cell_of_row w _ 2 _ _ (0,0) g1];rfl)
 clear PA;have HMW:=hid hMW;clear hMW;have HS:=hid hS;clear hS;have HDS:=hid hdS;clear hdS;have TV:db<W.heap.size:=(Array.getElem?_eq_some_iff.1 iS).1;have iU:=hid iS;clear iS hd;have H7:=hid h_;clear h_;have HBW:=hid BK;clear BK;clear h h1 c0 EM;go_enter func95,ntmps95;go_wp2;rw[<-hW];have HW:=hid hW;clear hW;go_loopw [3,4] (λv i wr=>∃(k:Nat) (cs:List (Value×Value)),k<=n/\i=.int .i64 k/\za W wr/\wr.ownsRow W.heap.size 325 2 v k (qm cs)/\qz (λ(b:Nat×zZ) (c:Value×Value)=>Bs (im S w) b.2.1 c.1/\yR (im S w) b.2.2 c.2) (bs.take k) cs) (λ_ i _=>n-(intOf i).toNat)
 case atStart=>exact⟨0,[],Nat.zero_le _,rfl,za.refl _,World.ownsRow_nil _ _ _ _,.nil⟩
 case round=>
  obtain⟨k,cs,hk,rfl,Hp,Ha,He⟩:=hrel;have g3:wr.cell? ⟨tx,3,none⟩=some (.slice p n c):=Hp.le _ _ k3;have g0:wr.cell? ⟨tx,0,none⟩=some (ptr db):=Hp.le _ _ k0;by_cases Hb:k<n
  ·have pE:k<bs.length:=by rw[H7.out];exact Hb
   obtain⟨b,o,rfl,hb⟩:=mq.out k pE;obtain⟨np,nn,nc,pp,pn,pc,q1,q2,q3,q4⟩:=T8.out k pE;have gb:=Hp.le _ _ hb;have gq1:=Hp.le _ _ q1;have gq2:=Hp.le _ _ q2;have Lw:(k:Int)<(n:Int):=by omega
   have Hu:=hid (show qz (λ(b:Nat×zZ) (c:Value×Value)=>Bs (im S w) b.2.1 c.1/\yR (im S w) b.2.2 c.2) (bs.take (k+1)) (cs++[(.slice np nn nc,.slice pp pn pc)])from by rw[List.take_succ_eq_append_getElem pE];exact He.append (.cons ⟨q3,q4⟩ .nil))
   have rD:=He.length;have Nj:=yD cs;clear He q3 q4 hb q1 q2;generalize bs[k].1=bb at*
   have Rc:=hid Hp;clear Hp;have mw:((qm cs).length+2)*(48+1)<=140737488355328:=by
    have:cs.length=min k bs.length:=by rw[<-rD];simp
    omega
   clear rD Nj pE;obtain⟨vp,vn,vc,rfl⟩:=(Sl.of_own Ha).shape;go_wp2_with (at_builtin;go_must (refine qy (w0:=W) zaU rfl rfl (Rc.out.alloc _) (World.ownsRow.alloc Ha _) rfl rfl (Sl.made wr [.slice np nn nc,.slice pp pn pc] _ 2 1 rfl (by omega)) (by intro u hu;simp only[List.mem_cons,List.not_mem_nil,or_false]at hu;rcases hu with rfl|rfl<;>rfl) (by simpa using mw) ?_));intro v5 w5 m5 pr RH pz P6 Tf;have e5:m5=1:=by have h0:2=m5*2:=pr;omega
   subst e5;obtain⟨a5,n5,b5,rfl⟩:=Tf.shape;go_wp2;go_roundw
   case rel=>exact⟨k+1,_,by omega,by go_num,pz,by rw[vH,iT];exact RH,Hu.out⟩
   case measure=>simp[intOf];omega
  ·have ph:k=n:=by omega
   have rZ:bs.take k=bs:=by rw[ph,<-H7.out,List.take_length]
   rw[rZ]at He;have Hu:=hid He;clear He rZ ph;have gd:wr.cell? ⟨db,0,none⟩=some dv:=by rw[cell_of_row wr db 0 _ _ (0,0) (Hp.heap iU.out)];rfl
   have gf:wr.frozen? ⟨db,0,none⟩=false:=by simp[World.frozen?,Hp.heap iU.out]
   have Rc:=hid Hp;clear Hp;have Px:=hid Ha;obtain⟨vp,vn,vc,rfl⟩:=(Sl.of_own Ha).shape;clear Ha;go_wp2;go_ret;have hek:∀b,(Value.slice vp vn vc).ownBlock=some b->b≠db:=λb hb e=>by have:=(World.ownsRow.lt Px.out b hb).1;omega
   have Pg:zq (λb=>b=tx\/b=db) w (wr.setCell ⟨db,0,none⟩ (.slice vp vn vc)):=
    vx (S:=λb=>b=tx\/b=db) (zq.trans (HMW.out.mono λ_ _ e=>Or.inl e) Rc.out λ_ _ e=>e.elim) (Or.inr rfl) _
   refine⟨rfl,Pg,.slice vp vn vc,?_,cs,?_,?_⟩
   ·simp only[World.setCell,Array.getElem?_modify,if_true,Rc.out.heap iU.out,Option.map_some];rfl
   ·have pW:=Sl.of_own Px.out;have h2:Sl (im S wr) 2 (qm cs) (.slice vp vn vc):=pW.im_of (S:=S) (λb hb e=>by have:=(World.ownsRow.lt Px.out b hb).1;have:=HS.out b e;omega);refine h2.mono λa v ha=> ?_;obtain⟨hn,Hw⟩:=zi.1 ha;exact zi.2 ⟨hn,by rw[World.cell?_setCell_other _ _ _ _ (by intro e;subst e;exact hn HDS.out)];exact Hw⟩
   ·have hY:(im S w).le (im S (wr.setCell ⟨db,0,none⟩ (.slice vp vn vc))):=(Pg.mono (S':=S) λ_ _ e=>by rcases e with rfl|rfl;exact htS;exact HDS.out).im λ_ _ h=>h;exact qz.mapL (R:=λ(b:zZ) (c:Value×Value)=>Bs (im S (wr.setCell ⟨db,0,none⟩ (.slice vp vn vc))) b.1 c.1/\yR (im S (wr.setCell ⟨db,0,none⟩ (.slice vp vn vc))) b.2 c.2) (λb:Nat×zZ=>b.2) (Hu.out.mono λ_ _ h=>⟨h.1.mono hY,h.2.mono hY⟩)
def bare(w:World):World:={w with heap:= #[]}
theorem za.bare(w:World):za (bare w) w:=⟨rfl,rfl,rfl,Nat.zero_le _,λk hk=>absurd hk (Nat.not_lt_zero k)⟩
variable{news:List Value}
theorem Xo{w:World}{t ty:TypeId}{z:Value}(E:yy P t e z sz bytes)(Ha:w.ownsRow base e sz v n xs)
  {ad:Addr}{m:Nat}(hl:news.length=m*sz)(rq:∀j u,news[j]? =some u->w.cell? (ad.add j)=some u)(h1:∀u∈news,u.oneCell'=true)
  (mX:n+m<=maxLen)(PM:(n+m)*bytes<=140737488355328){v':Value}(hr:(Builtin.append_ #[t,t] ty #[v,.slice (some ad) m c]).run P w=.ok v' w'):∀b,v'.ownBlock=some b->v.ownBlock=some b\/w.heap.size<=b:=by
 obtain⟨i,hi,hz,rfl,rfl⟩:=info_parts E.info;intro b hb;rcases Ha.2 with⟨rfl,rfl⟩|⟨g,cap,cur,rfl,NQ,hg,P5,T_,RO,haQ⟩
 ·obtain⟨v2,w2,ry,h2,_⟩:=run_append_own (P:=P) w w.heap.size t ty e i z i.size i.bytes E.under hi hz rfl rfl E.zs E.pos (.slice none 0 0) 0 xs ⟨Ha.1,Or.inl ⟨rfl,rfl⟩⟩ ad m c news hl rq h1 mX PM (Nat.le_refl _);rw[hr]at ry;injection ry with e1 e2
  subst e1;exact Or.inr (World.ownsRow.lt h2 b hb).1
 ·by_cases hroom:n+m<=cap
  ·have CR:n*i.size+news.length<=cur.size:=by rw[hl,RO,<-Nat.add_mul];exact Nat.mul_le_mul_right _ hroom
   have ry:=run_append_room (P:=P) w t ty e i E.under hi g n cap cur hg ad m c news hl rq h1 hroom CR;rw[hr]at ry;injection ry with e1 e2
   subst e1;exact Or.inl hb
  ·have aF:∀j u,xs[j]? =some u->w.cell? ((⟨g,0,none⟩:Addr).add j)=some u:=Ha.cells (g:=g) rfl;have ry:=run_append_grow (P:=P) w t ty e i z E.under hi hz ⟨g,0,none⟩ n cap xs Ha.1 aF ad m c news hl rq (by omega) (by simp only[maxLen]at mX;omega) (growslice_fits (by omega) PM);rw[hr]at ry;injection ry with e1 e2
   subst e1;simp only[Value.ownBlock,Option.some.injEq]at hb;exact Or.inr (by omega)
theorem qM{w:World}{ops:Array Oper}{rest:List Oper}{o:Oper}{a:Act}{Q:Exit->Act->World->Prop}{t:TypeId}{z:Value}
  (E:yy P t e z sz bytes)(Tc:o.guard=none){s x:Operand}(ho:o.op=.call {callee:=.builtin .append,args:= #[s,x],argTypes:= #[t,t]})
  {v:Value}{n:Nat}{xs:List Value}(Ha:w.ownsRow 0 e sz v n xs)(hs:a.eval s=v)
  {ad:Addr}{m c:Nat}{news:List Value}(hx:a.eval x=.slice (some ad) m c)(rq:Sl w.cell? sz news (.slice (some ad) m c))(h1:∀u∈news,u.oneCell'=true)
  (PM:(xs.length+news.length)*(bytes+1)<=140737488355328)
  (h:∀v' w',w'.ownsRow 0 e sz v' (n+m) (xs++news)->w.grownBy w' v.ownBlock->(∀b,v'.ownBlock=some b->v.ownBlock=some b\/w.heap.size<=b)->wpList P ops Q rest (a.put o.dst v') w'):wpList P ops Q (o::rest) a w:=by
 obtain⟨i,hi,hz,pL,TF⟩:=info_parts E.info;obtain⟨p,m',c',e0,hl,CI,hc,NL,H_⟩:=rq;simp only[Value.slice.injEq]at e0;obtain⟨rfl,rfl,rfl⟩:=e0;have mh:xs.length=n*sz:=Ha.1;have s_:=E.pos;have RE:n<=xs.length:=by rw[mh];exact Nat.le_mul_of_pos_right _ s_
 have ax:m<=news.length:=by rw[hl];exact Nat.le_mul_of_pos_right _ s_
 have mX:n+m<=maxLen:=by have:(xs.length+news.length)*1<=(xs.length+news.length)*(bytes+1):=Nat.mul_le_mul_left _ (by omega);simp only[maxLen];omega
 have pw:(n+m)*bytes<=140737488355328:=Nat.le_trans (Nat.mul_le_mul (by omega) (by omega)) PM;have pq:∀j u,news[j]? =some u->w.cell? (ad.add j)=some u:=by
  intro j u hj;rcases H_ with Ra|⟨b,o',hp,Hc⟩
  ·subst Ra;simp at hj
  ·simp only[Option.some.injEq]at hp;subst hp;have rC:j<news.length:=(List.getElem?_eq_some_iff.1 hj).1;have e1:(⟨b,o',none⟩:Addr).add j=⟨b,o'+j,none⟩:=by unfold Addr.add;split<;>simp_all
   rw[e1,Hc j rC,<-hj,List.getElem?_eq_getElem rC]
 refine wpList_plain Tc λ_ hK=> ?_;obtain⟨v',w',hr,h2,h3,_⟩:=run_append_own (P:=P) w 0 t o.type e i z sz bytes E.under hi hz pL TF E.zs E.pos v n xs Ha ad m c news hl pq h1 mX pw (Nat.zero_le _);have PA:=Xo E Ha hl pq h1 mX pw hr;unfold Oper.wp execOp;simp only[ho,resolve,invoke,builtin,Sem.run_bind,Sem.run_pure,Result.andThen_ok,List.map_toArray,List.map_cons,List.map_nil,hs,hx,hr];exact hK _ _ (h v' w' h2 h3 PA)
theorem Xp{w:World}{ops:Array Oper}{rest:List Oper}{o:Oper}{a:Act}{Q:Exit->Act->World->Prop}{t:TypeId}{z:Value}
  (E:yy P t e z 1 bytes)(Tc:o.guard=none){d s:Operand}(ho:o.op=.call {callee:=.builtin .copy,args:= #[d,s],argTypes:= #[t,t]})
  {dv sv:Value}(hd:a.eval d=dv)(hs:a.eval s=sv){ds ss:List Value}(EN:Sl w.cell? 1 ds dv)(MA:Sl w.cell? 1 ss sv)(tj:∀u∈ss,u.oneCell'=true)
  {g off:Nat}{cur:List Value}{T:TypeId}(hg:w.heap[g]? =some (.cells cur.toArray T (0,0)))(iV:ds≠[]->∃n c,dv=.slice (some ⟨g,off,none⟩) n c)(CR:off+min ss.length ds.length<=cur.length)
  (h:∀w',Hid (w'.heap[g]? =some (.cells (splice cur off (ss.take ds.length)).toArray T (0,0)))->zq (· =g) w w'->wpList P ops Q rest (a.put o.dst (goInt ((min ss.length ds.length:Nat):Int))) w'):wpList P ops Q (o::rest) a w:=by
 obtain⟨i,hi,hz,pL,TF⟩:=info_parts E.info;have MB:(P.info? e).map (·.size)=some 1:=by rw[hi];simp[pL]
 obtain⟨dp,dn,dc,rfl,d1,d2,d3,d4,d5⟩:=EN;obtain⟨sp,sn,sc,rfl,s1,s2,s3,s4,s5⟩:=MA;have MC:ds.length=dn:=by omega
 have RW:ss.length=sn:=by omega
 by_cases h0:min ss.length ds.length=0
 ·refine wpList_copy_nothing Tc d s t t ho e E.under MB dp sp dn dc sn sc hd hs (by show min sn dn=0;omega) ?_;have:=h w ?_ (zq.refl _ _)
  ·rw[h0]at this;exact this
  ·have e0:ss.take ds.length=[]:=by
    rcases Nat.eq_zero_or_pos ds.length with h1|h1
    ·rw[h1];rfl
    ·have:ss=[]:=List.eq_nil_of_length_eq_zero (by omega);rw[this];simp
   show _=_;rw[e0];simpa[splice]using hg
 ·obtain⟨n',c',hdv⟩:=iV (by intro e;subst e;simp at h0);simp only[Value.slice.injEq]at hdv;obtain⟨rfl,rfl,rfl⟩:=hdv;rcases s5 with s5|⟨b,o',rfl,Hc⟩
  ·subst s5;simp at h0
  ·have h_:(ss.take ds.length).length=min ss.length ds.length:=by simp;omega
   refine wpList_copy_own Tc d s t t ho e E.under MB g off dn dc ⟨b,o',none⟩ sn sc hd hs cur.toArray T hg (ss.take ds.length) (by rw[h_];show _=min sn dn;omega) ?_ (by rw[h_];simpa using CR) (λv hv=>tj v (List.mem_of_mem_take hv)) ?_
   ·intro j v hj;have rC:j<(ss.take ds.length).length:=(List.getElem?_eq_some_iff.1 hj).1;have BL:j<ss.length:=by rw[h_]at rC;omega
    rw[List.getElem?_take_of_lt (by rw[h_]at rC;omega),List.getElem?_eq_getElem BL]at hj;have e1:(⟨b,o',none⟩:Addr).add j=⟨b,o'+j,none⟩:=by unfold Addr.add;split<;>simp_all
    rw[e1,Hc j BL];exact hj
   ·rw[h_];refine h _ ?_ ?_
    ·show _=_;rw[<-h_];exact setRow_heap w g _ _ T _ hg
    ·exact⟨rfl,rfl,rfl,by simp[World.setRow],λk hk hn=>setRow_other w g k _ hn⟩
theorem zci(xs:List α)(b d:α)(rest:List α)(i:Nat)(hi:i<=xs.length):
  (splice (xs++[d]++rest) (i+1) ((((xs++[d]).drop i).take (xs.length-i)))).set i b=xs.take i++b::xs.drop i++rest:=by
 have e1:((xs++[d]).drop i).take (xs.length-i)=xs.drop i:=by rw[List.drop_append_of_le_length hi,List.take_append_of_le_length (by simp),List.take_of_length_le (by simp)]
 rw[e1];unfold splice;have e2:(xs++[d]++rest).drop (i+1+(xs.drop i).length)=rest:=by
  have:i+1+(xs.drop i).length=(xs++[d]).length:=by simp;omega
  rw[this,List.drop_left'];rfl
 have e3:(xs++[d]++rest).take (i+1)=(xs++[d]).take i++[(xs++[d])[i]'(by simp;omega)]:=by rw[List.take_append_of_le_length (by simp;omega)];rw[List.take_succ_eq_append_getElem (by simp;omega)]
 rw[e2,e3,List.take_append_of_le_length hi];have hl:(xs.take i).length=i:=by simp;omega
 simp only[List.append_assoc,List.singleton_append];rw[List.set_append_right _ _ (by omega),hl];simp
theorem dM{t:TypeId}{z:Value}(E:yy P t e z sz bytes){g l:Nat}(hl:l<n)(hn:n<=c)(_hc:c<=9223372036854775807)(W:World):
  (Instr.slice t (.slice (some ⟨g,0,none⟩) n c) (some (.int .i64 l)) none none).run P W=.ok (.slice (some ⟨g,l*sz,none⟩) (n-l) (c-l)) W:=by
 obtain⟨i,hi,hz,pL,TF⟩:=info_parts E.info;have Ho: ¬c=l:=by omega
 have tu:(⟨g,0,none⟩:Addr).add (l*sz)=⟨g,l*sz,none⟩:=by unfold Addr.add;split<;>simp_all
 simp[Instr.slice,run_underlying E.under,Instr.sliceBounds,run_sliceBound (P:=P) W .i64 (l:Int) n .sliceB (by omega) (by omega),sizeOf,typeInfo,hi,pL,Ho,tu]
def kU{α:Type}(l:List α)(i:Nat)(x:α):List α:=l.take i++x::l.drop i
theorem GI{l:List α}{i:Nat}{x y:α}(h:y∈kU l i x):y=x\/y∈l:=by
 rcases List.mem_append.1 h with h|h
 ·exact Or.inr (List.mem_of_mem_take h)
 ·rcases List.mem_cons.1 h with h|h
  ·exact Or.inl h
  ·exact Or.inr (List.mem_of_mem_drop h)
theorem Je(f:α->β)(l:List α)(i:Nat)(x:α):(kU l i x).map f=kU (l.map f) i (f x):=by simp[kU,List.map_take,List.map_drop]
theorem dN{l:List α}{i:Nat}{x:α}(h:l.Nodup)(hx:x∉l):(kU l i x).Nodup:=by
 unfold kU;have h0:(l.take i++l.drop i).Nodup:=by rw[List.take_append_drop];exact h
 rw[List.nodup_append]at h0⊢;obtain⟨h1,h2,h3⟩:=h0;refine⟨h1,List.nodup_cons.2 ⟨λe=>hx (List.mem_of_mem_drop e),h2⟩,?_⟩;intro a ha b hb;rcases List.mem_cons.1 hb with rfl|hb
 ·intro e;subst e;exact hx (List.mem_of_mem_take ha)
 ·exact h3 a ha b hb
theorem GJ{w:World}{db:Nat}{bs:List (Nat×zZ)}(hS:∀b,S b->b<w.heap.size)(pG:∀b,F b->S b)
  (h:kr (im S w) w F tx db true bs){x:Bytes}(hx:Bs (im S w) x xv)(RQ:x.length<=1000)(hnf:zx (zG bs) x=false)(Hx:bs.length<=1000):
  Calls prog 227 #[ptr tx,xv] w λe w'=>∃nb F',e=.returned (.tuple #[ptr nb,.nilIface])/\zq F w w'/\(∀b,F' b->F b\/w.heap.size<=b/\b<w'.heap.size)/\(∀b,F b->F' b)/\
   kr (im (λb=>S b\/F' b) w') w' F' tx db true (kU bs (zk (zG bs) x) (nb,(x,[]))):=by
 have ru:=hid (h.place (zd _ _) hx);rw[hnf]at ru;obtain⟨i,hi⟩:∃i,zk (zG bs) x=i:=⟨_,rfl⟩;have CL:i<=bs.length:=by rw[<-hi];simpa[zG]using jo (zG bs) x
 rw[hi]at ru⊢;obtain⟨⟨lv,h1,Ha,hZ⟩,hft,PA,pX⟩:=h;have Mz:tx<w.heap.size:=(Array.getElem?_eq_some_iff.1 h1).1;have c3:w.cell? ⟨tx,3,none⟩=some lv:=by rw[cell_of_row w tx 3 _ _ (0,0) h1];rfl
 have f3:w.frozen? ⟨tx,3,none⟩=false:=by simp[World.frozen?,h1]
 have BJ:∀b,lv.ownBlock=some b->∀T f g,w.heap[b]? =some (.cells f T g)->T=329:=by
  intro b hb T f g hg;rcases Ha.2 with⟨rfl,_⟩|⟨g',cap,cur,rfl,_,cA,_⟩
  ·simp[Value.ownBlock]at hb
  ·simp[Value.ownBlock]at hb;subst hb;rw[cA]at hg;simp at hg;exact hg.2.1.symm
 have Ho:∀b,lv.ownBlock=some b->b≠tx:=λb hb e=>by subst e;have:=BJ b hb _ _ _ h1;simp at this
 obtain⟨lp,ln,lc,rfl⟩:=(Sl.of_own Ha).shape;have HX:=hid hx;clear hx;have HB:=hid h1;clear h1;have Px:=hid Ha;clear Ha;have P7:=hid hZ;clear hZ;have T8:=hid PA;clear PA;have cz:=hid pX;clear pX;have HTY:=hid BJ;clear BJ;have nZ:=hid Ho;clear Ho;have HS:=hid hS;clear hS;have Sb:=hid pG;clear pG;have HI:=hid hi;clear hi hnf;go_enter func227,ntmps227;go_wp2_with (first|(go_at_call 228;go_must (refine ru.out.mono ?_);rintro e w' ⟨rfl,rfl⟩)|(at_builtin;go_must (refine qy (w0:=w) jA rfl rfl ((za.refl w).alloc _) (vG (Nat.le_refl _) (zg _ _)) rfl rfl ((HX.out.mono (k7 ((za.refl w).alloc _) _)).sl) (jF _) (by simp;omega) ?_)));intro v1 w1 Sy hQ NN TZ;have rz:∀b,v1.ownBlock=some b->w.heap.size<=b/\b<w1.heap.size:=λb hb=>World.ownsRow.lt Sy b hb;have SA:=hid rz;have iH:=hid (Bs.of_sl TZ);have Hs:=hid hQ;obtain⟨a1,n1,b1,rfl⟩:=TZ.shape;clear rz TZ Sy NN
 have aG:=hid (zS Px.out (w':=w1) λb hb=>hQ.block b (World.ownsRow.lt Px.out b hb).2 λe=>e);have Rq:=hid (hQ.heap HB.out);have t3:w1.cell? ⟨tx,3,none⟩=some (.slice lp ln lc):=hQ.le _ _ c3;have tf3:w1.frozen? ⟨tx,3,none⟩=false:=by simp[World.frozen?,Rq.out]
 have pI:w.heap.size<=w1.heap.size:=hQ.size;have iW:tx<w1.heap.size:=by omega
 clear hQ c3 f3;go_wp2_with (at_builtin;go_must (refine qM Xn rfl rfl (World.ownsRow.alloc (World.ownsRow.alloc aG.out _) _) rfl rfl (news:=[.pointer none]) (Sl.made_at (w1.alloc _) [.pointer none] _ 1 1 _ (by simp) rfl (by omega)) (by intro u hu;rw[List.mem_singleton]at hu;rw[hu];rfl) (by simp;omega) ?_));intro v5 w5 RH P6 PU;obtain⟨g,cap,cur,Tf,Lx,P5,T_,RO,RX⟩:∃g cap cur,v5=.slice (some ⟨g,0,none⟩) (bs.length+1) cap/\w5.heap[g]? =some (.cells cur 329 (0,0))/\bs.length+1<=cap/\cap<=maxLen/\cur.size=cap*1/\cur.toList.take ((bs.length+1)*1)=(bs.map λb=>ptr b.1)++[.pointer none]:=by
  rcases RH.2 with⟨_,h0⟩|⟨g,cap,cur,h1,_,h2,h3,h4,h5,h6⟩
  ·omega
  ·exact⟨g,cap,cur,h1,h2,h3,h4,h5,h6⟩
 have hgF:F g\/w1.heap.size+1<g:=by
  rcases PU g (by rw[Tf];rfl)with h|h
  ·exact Or.inl (P7.out g h)
  ·exact Or.inr (by omega)
 have NR:∀j,j<w1.heap.size->(Value.slice lp ln lc).ownBlock≠some j->w5.heap[j]? =w1.heap[j]? :=λj hj Ho=>by rw[P6.block j (by simp;omega) (λe=>Ho e.symm),Below.heap_alloc _ _ _ (by simp;omega),Below.heap_alloc _ _ _ hj]
 have L6:w5.heap[w1.heap.size]? =some (.cells #[ptr tx,.slice a1 n1 b1,.slice none 0 0,.float .f64 0] 328 (0,0)):=by rw[P6.block _ (by simp;omega) (λe=>by have:=(World.ownsRow.lt Px.out _ e.symm).2;omega),Below.heap_alloc _ _ _ (by simp),zg]
 have mz:w5.heap[tx]? =some (.cells #[ptr db,.bool true,.bool false,.slice lp ln lc] 310 (0,0)):=by rw[NR tx iW (λe=>nZ.out _ e rfl)];exact Rq.out
 have mB:g≠tx:=λe=>by subst e;rw[Lx]at mz;simp at mz
 have aH:g≠w1.heap.size:=λe=>by subst e;rw[Lx]at L6;simp at L6
 have t5:w5.cell? ⟨tx,3,none⟩=some (.slice lp ln lc):=by rw[cell_of_row w5 tx 3 _ _ (0,0) mz];rfl
 have f5:w5.frozen? ⟨tx,3,none⟩=false:=by simp[World.frozen?,mz]
 have aC:w1.heap.size+2<=w5.heap.size:=by have:=P6.size;simpa using this
 have MD:=Sl.of_own RH;have iX:za (bare w5) w5:=za.bare w5;have aI:=hid (show zq F w w5 from⟨P6.os.trans Hs.out.os,P6.tape.trans Hs.out.tape,P6.output.trans Hs.out.output,by omega,λj hj hn=>(NR j (by omega) (λe=>hn (P7.out j e))).trans (Hs.out.block j hj (λe=>e))⟩);obtain⟨a5,n5,c5,e5⟩:=MD.shape;obtain⟨w6,Sc⟩:=zex (w5.setCell ⟨tx,3,none⟩ v5);have aJ:∀j,j≠tx->w6.heap[j]? =w5.heap[j]? :=λj hj=>by rw[Sc,Below.heap_setCell _ _ _ _ (λe=>hj e)]
 have aK:w6.heap[tx]? =some (.cells #[ptr db,.bool true,.bool false,v5] 310 (0,0)):=by rw[Sc];simp only[World.setCell,Array.getElem?_modify,if_true,mz,Option.map_some];rfl
 have CS:Sl w6.cell? 1 ((bs.map λb=>ptr b.1)++[.pointer none]) v5:=Sl.of_own (zS RH (w':=w6) λb hb=>aJ b (by rw[Tf]at hb;simp[Value.ownBlock]at hb;omega));obtain⟨s1,Ms,pI⟩:=k6 Xn CS (i+1) (by simp;omega);obtain⟨s2,Mu,rj⟩:=k6 Xn CS i (by simp;omega);have hep:(bs.map λb=>ptr b.1).length=bs.length:=by simp
 have cB:((bs.map λb=>ptr b.1)++[Value.pointer none]).drop ((i+1)*1)≠[]->∃n c,s1=.slice (some ⟨g,i+1,none⟩) n c:=by
  intro Ho;have Hb:i+1<bs.length+1:=by
   rcases Nat.lt_or_ge (i+1) (bs.length+1)with h|h
   ·exact h
   ·exact absurd (List.drop_eq_nil_of_le (by simp;omega)) Ho
  have h2:=Ms w6;rw[Tf,dM Xn Hb P5 (by simpa[maxLen]using T_)]at h2;injection h2 with h3 _
  exact⟨_,_,by rw[<-h3,Nat.mul_one]⟩
 have ej:((i+1:Nat):Int)=(i:Int)+1:=by omega
 rw[ej]at Ms;clear ej;have RV:=hid pI;clear pI;have Ph:=hid rj;clear rj;have aL:=hid cB;clear cB;have HV5:=hid Tf;clear Tf;have HGC:=hid Lx;clear Lx;have tA:=hid RX;clear RX;have iY:=hid RO;clear RO;have aM:=hid hgF;clear hgF;have iZ:=hid L6;clear L6;have ME:=hid NR;clear NR;have Ly:=hid aJ;clear aJ;have aN:=hid aK;clear aK;have t6:w6.cell? ⟨tx,3,none⟩=some v5:=by rw[cell_of_row w6 tx 3 _ _ (0,0) aN.out];rfl
 clear mz RH P6 PU MD CS iX t3 tf3;subst e5;go_wp2;rw[<-Sc];have BM:=hid Sc;clear Sc;have ewr:IntKind.i64.wrap ((i:Int)+1)=(i:Int)+1:=by rw[IntKind.wrap_i64];omega
 go_still_tail 13,(by kernel_rfl);refine Xp Xn rfl rfl rfl rfl RV.out Ph.out (by intro u hu;have hu:=List.mem_of_mem_drop hu;simp only[List.mem_append,List.mem_map,List.mem_singleton]at hu;rcases hu with⟨b,_,rfl⟩|rfl<;>rfl) (cur:=cur.toList) (by rw[Ly.out _ mB];exact HGC.out) aL.out (by have:=iY.out;simp;omega) ?_;intro w7 Pq rk;have hb7:∀j,j<w6.heap.size->j≠g->w7.heap[j]? =w6.heap[j]? :=λj hj hn=>rk.block j hj hn;have het:w6.heap.size=w5.heap.size:=by rw[BM.out];simp[World.setCell]
 have heu:w6.heap.size<=w7.heap.size:=rk.size;have EO:=hid hb7;clear hb7;have CT:w7.heap[tx]? =some (.cells #[ptr db,.bool true,.bool false,.slice a5 n5 c5] 310 (0,0)):=by rw[EO.out tx (by omega) (λe=>mB e.symm)];exact aN.out
 have t7:w7.cell? ⟨tx,3,none⟩=some (.slice a5 n5 c5):=by rw[cell_of_row w7 tx 3 _ _ (0,0) CT];rfl
 have hM6:zq F w w6:=by rw[BM.out];exact vx (S:=F) aI.out hft _
 have hM7:zq F w w7:=zq.trans hM6 (show zq (· =g) w6 w7 from⟨rk.os,rk.tape,rk.output,rk.size,rk.block⟩) (λj hj e=>by subst e;rcases aM.out with h|h;exact h;omega);obtain⟨rest,Pi⟩:∃rest,cur.toList=(bs.map λb=>ptr b.1)++[Value.pointer none]++rest:=by have:=tA.out;rw[Nat.mul_one]at this;exact⟨cur.toList.drop (bs.length+1),by rw[<-this,List.take_append_drop]⟩
 have NS:=hid (show rest.length+bs.length+1=cap from by have h1:=congrArg List.length Pi;have h2:=iY.out;simp at h1;omega)
 have tR:(w7.setCell ⟨g,i,none⟩ (ptr w1.heap.size)).heap[g]? =some (.cells ((kU (bs.map λb=>ptr b.1) i (ptr w1.heap.size))++rest).toArray 329 (0,0)):=by
  have h0:=Pq.out;rw[heap_setCell_same w7 g i _ _ _ h0];have e1:((bs.map λb=>ptr b.1)++[Value.pointer none]).drop (i*1)=((bs.map λb=>ptr b.1)++[Value.pointer none]).drop i:=by rw[Nat.mul_one]
  have e2:(((bs.map λb=>ptr b.1)++[Value.pointer none]).drop ((i+1)*1)).length=(bs.map λb=>ptr b.1).length-i:=by simp
  rw[e1,e2,Pi,List.setIfInBounds_toArray,zci _ (ptr w1.heap.size) _ _ i (by simpa using CL)];rfl
 have EP:∃u,w7.cell? ⟨g,i,none⟩=some u:=by
  rw[cell_of_row w7 g i _ _ (0,0) Pq.out];have PY:i<(splice cur.toList (i+1) (List.take (List.drop ((i+1)*1) (List.map (λb=>ptr b.fst) bs++[Value.pointer none])).length (List.drop (i*1) (List.map (λb=>ptr b.fst) bs++[Value.pointer none])))).length:=by have:=iY.out;simp[splice]<;>omega
  exact⟨_,by simp only[List.getElem?_toArray];exact List.getElem?_eq_getElem PY⟩
 obtain⟨u7,L7⟩:=EP;have fg7:w7.frozen? ⟨g,i,none⟩=false:=by simp[World.frozen?,Pq.out]
 have Ri:(i:Int)<((bs.length+1:Nat):Int):=by omega
 have aO:=HV5.out;simp only[Value.slice.injEq]at aO;obtain⟨rfl,rfl,rfl⟩:=aO;have i6:=hid CT;clear CT;have CU:=hid hM7;clear hM7;have aP:=hid tR;clear tR;clear Pq rk Pi ewr t5 f5;go_wp2;go_ret2;have EQ:g<w7.heap.size:=World.block_lt_of_cell? w7 _ L7;have hM8:zq F w (w7.setCell ⟨g,i,none⟩ (ptr w1.heap.size)):=zq.setCell (S:=F) CU.out (λHb=>by rcases aM.out with h|h;exact h;simp at Hb;omega) _;have aQ:(w7.setCell ⟨g,i,none⟩ (ptr w1.heap.size)).heap.size=w7.heap.size:=by simp[World.setCell]
 have h8:∀j,j≠g->(w7.setCell ⟨g,i,none⟩ (ptr w1.heap.size)).heap[j]? =w7.heap[j]? :=λj hj=>Below.heap_setCell _ _ _ _ (λe=>hj e);have i7:(w7.setCell ⟨g,i,none⟩ (ptr w1.heap.size)).heap[w1.heap.size]? =some (.cells #[ptr tx,.slice a1 n1 b1,.slice none 0 0,.float .f64 0] 328 (0,0)):=by rw[h8 _ (λe=>aH e.symm),EO.out _ (by omega) (λe=>aH e.symm),Ly.out _ (by omega)];exact iZ.out
 have i8:(im S w).le (im (λb=>S b\/F b\/b=w1.heap.size\/b=g) (w7.setCell ⟨g,i,none⟩ (ptr w1.heap.size))):=(hM8.mono λ_ _ h=>Sb.out _ h).im (S':=λb=>S b\/F b\/b=w1.heap.size\/b=g) λj hj h=>by
  rcases h with h|h|h|h
  ·exact h
  ·exact Sb.out _ h
  ·omega
  ·rcases aM.out with h'|h'
   ·rw[h];exact Sb.out _ h'
   ·omega
 refine⟨_,rfl,hM8,λb=>F b\/b=w1.heap.size\/b=g,?_,λb h=>Or.inl h,?_⟩
 ·intro b h;rcases h with h|rfl|rfl
  ·exact Or.inl h
  ·exact Or.inr ⟨pI,Nat.lt_of_lt_of_le (show w1.heap.size<w7.heap.size by omega) (Nat.le_of_eq aQ.symm)⟩
  ·rcases aM.out with h|h
   ·exact Or.inl h
   ·exact Or.inr ⟨by omega,Nat.lt_of_lt_of_le EQ (Nat.le_of_eq aQ.symm)⟩
 ·refine⟨⟨.slice (some ⟨g,0,none⟩) (bs.length+1) c5,by rw[h8 _ (λe=>mB e.symm)];exact i6.out,?_,λb hb=> ?_⟩,Or.inl hft,?_,?_⟩
  ·refine⟨?_,Or.inr ⟨g,c5,_,?_,Nat.zero_le _,aP.out,?_,T_,?_,?_⟩⟩
   ·first|(simp[kU];done)|(simp[kU];omega)
   ·first|(simp[kU];done)|(simp[kU];omega)
   ·first|(simp[kU];done)|(simp[kU];omega)
   ·have:=NS.out;simp[kU];omega
   ·have e:(kU bs i (w1.heap.size,x,[])).length*1=(kU (bs.map λb=>ptr b.1) i (ptr w1.heap.size)).length:=by simp[kU]
    rw[e,List.take_left',Je];rfl
  ·simp[Value.ownBlock]at hb;exact Or.inr (Or.inr hb.symm)
  ·intro b hb;rcases GI hb with rfl|hb
   ·refine⟨Or.inr (Or.inl rfl),_,_,_,i7,?_,⟨[],Sl.nil _ _,.nil⟩⟩;refine(iH.out.im_of (S:=λb=> ¬(w.heap.size<=b/\b<w1.heap.size)) λb hb h=>h (SA.out b hb)).mono λa v ha=> ?_;obtain⟨hn,Hw⟩:=zi.1 ha;have hn:=Classical.not_not.1 hn;have mZ:a.block≠g:=λe=>by
     rcases aM.out with h|h
     ·have:=HS.out _ (Sb.out _ h);omega
     ·omega
    have Pd:a.block≠tx:=λe=>by omega
    refine zi.2 ⟨λh=> ?_,?_⟩
    ·rcases h with h|h|h|h
     ·have:=HS.out _ h;omega
     ·have:=HS.out _ (Sb.out _ h);omega
     ·omega
     ·exact mZ h
    ·have Rx:(Value.slice lp ln lc).ownBlock≠some a.block:=λe=>by have:=(World.ownsRow.lt Px.out _ e).2;omega
     rw[World.cell?_of_block (w:=w1) (by rw[h8 _ mZ,EO.out _ (by omega) mZ,Ly.out _ Pd,ME.out _ (by omega) Rx])];exact Hw
   ·obtain⟨g1,g2⟩:=T8.out b hb;refine⟨Or.inl g1,g2.frame ?_ i8⟩;obtain⟨nv,pv,fp,q1,_⟩:=g2;have Ro:b.1<w.heap.size:=(Array.getElem?_eq_some_iff.1 q1).1;have Pd:b.1≠tx:=λe=>by rw[e,HB.out]at q1;simp at q1
    have Rx:(Value.slice lp ln lc).ownBlock≠some b.1:=λe=>by have:=HTY.out _ e _ _ _ q1;simp at this
    have NQ:b.1≠g:=λe=>by have h5:=ME.out b.1 (by omega) Rx;rw[Hs.out.block b.1 Ro (λe=>e),q1,e,HGC.out]at h5;simp at h5
    rw[h8 _ NQ,EO.out _ (by omega) NQ,Ly.out _ Pd,ME.out _ (by omega) Rx,Hs.out.block _ Ro (λe=>e)]
  ·rw[Je];refine dN cz.out λe=> ?_;obtain⟨b,hb,e2⟩:=List.mem_map.1 e;obtain⟨_,nv,pv,fp,q1,_⟩:=T8.out b hb;have Ro:b.1<w.heap.size:=(Array.getElem?_eq_some_iff.1 q1).1;simp at e2;omega
section
open Go.RowKit Go.ChangeMaps Go.MapKept
open Go.Maps (Keyed)
section
variable{α:Type}[DecidableEq α]
def jq(es:List (α×Value))(x:α):Option Value:=(es.find? (λe=>e.1=x)).map (·.2)
def xu(es:List (α×Value))(x:α)(v:Value):List (α×Value):=if (jq es x).isSome then es.map (λe=>if e.1=x then (x,v)else e)else es++[(x,v)]
def yH(es:List (α×Value))(x:α):List (α×Value):=es.filter (λe=>e.1≠x)
theorem QL{es:List (α×Value)}{x:α}:jq es x=none↔∀e∈es,e.1≠x:=by unfold jq;rw[Option.map_eq_none_iff,List.find?_eq_none];simp
theorem Qb{es:List (α×Value)}{x:α}{v:Value}(h:jq es x=some v):(x,v)∈es:=by unfold jq at h;obtain⟨e,he,rfl⟩:=Option.map_eq_some_iff.1 h;have h1:=List.mem_of_find?_eq_some he;have h2:=List.find?_some he;simp at h2;obtain⟨a,b⟩:=e;simp at h2;subst h2;exact h1
theorem xM{es:List (α×Value)}(hn:(es.map (·.1)).Nodup){x:α}{v:Value}(h:(x,v)∈es):jq es x=some v:=by
 induction es with
 |nil=>simp at h
 |cons e es ih=>
  simp only[List.map_cons,List.nodup_cons]at hn;unfold jq;by_cases he:e.1=x
  ·simp only[List.find?_cons,he,decide_true,Option.map_some];rcases List.mem_cons.1 h with h|h
   ·rw[<-h]
   ·exact absurd (List.mem_map.2 ⟨_,h,rfl⟩) (by rw[he]at hn;exact hn.1)
  ·simp only[List.find?_cons,he,decide_false];rcases List.mem_cons.1 h with h|h
   ·rw[<-h]at he;simp at he
   ·exact ih hn.2 h
theorem Xq(es:List (α×Value))(x y:α)(v:Value):jq (xu es x v) y=if y=x then some v else jq es y:=by
 unfold xu;split
 ·rename_i h;unfold jq at h⊢
  induction es with
  |nil=>simp at h
  |cons e es ih=>
   by_cases he:e.1=x
   ·by_cases hy:y=x
    ·subst hy;simp[he]
    ·have: ¬x=y:=λe=>hy e.symm;simp only[List.map_cons,he,if_true,List.find?_cons,this,decide_false,hy,if_false];clear ih h
     induction es with
     |nil=>rfl
     |cons f es ih2=>
      by_cases hf:f.1=x
      ·simp only[List.map_cons,hf,if_true,List.find?_cons,this,decide_false];exact ih2
      ·simp only[List.map_cons,hf,if_false,List.find?_cons];split
       ·rfl
       ·exact ih2
   ·have h':(Option.map (λx=>x.2) (List.find? (λe=>decide (e.1=x)) es)).isSome=true:=by
     simpa[List.find?_cons,he]using h
    simp only[List.map_cons,he,if_false,List.find?_cons];by_cases hey:e.1=y
    ·have: ¬y=x:=by rw[<-hey];exact he
     simp[hey,this]
    ·simp only[hey,decide_false];exact ih h'
 ·rename_i h;have h:jq es x=none:=by simpa using h
  unfold jq at h⊢;rw[List.find?_append];by_cases hy:y=x
  ·subst hy;have:List.find? (λe=>decide (e.1=y)) es=none:=Option.map_eq_none_iff.1 h;simp[this]
  ·have: ¬x=y:=λe=>hy e.symm;simp[hy,this]
end
def zD{α:Type}(kf:α->Value)(w:World)(m:Nat)(es:List (α×Value)):Prop:=
 ∃a clock,w.heap[m]? =some (.map a clock)/\Stamped a clock/\a.toList.map (λe=>(e.key,e.val))=es.map (λe=>(kf e.1,e.2))
structure YF{α:Type}(P:Program)(k:TypeId)(kf:α->Value):Prop where
 K:Keyed P k
 ok:∀x,∃l,keyOf P k (kf x)=some l
 inj:∀x y,kf x=kf y->x=y
theorem zD.frame{kf:α->Value}{w:World}{m:Nat}{es:List (α×Value)}(h:zD kf w m es)(hm:w'.heap[m]? =w.heap[m]?):zD kf w' m es:=by obtain⟨a,c,h1,h2⟩:=h;exact⟨a,c,hm.trans h1,h2⟩
theorem zD.lt{kf:α->Value}{w:World}{m:Nat}{es:List (α×Value)}(h:zD kf w m es):m<w.heap.size:=by obtain⟨a,c,h1,_⟩:=h;exact(Array.getElem?_eq_some_iff.1 h1).1
theorem zD.made(kf:α->Value)(w:World):zD kf (w.alloc (.map #[] 0)) w.heap.size []:=
 ⟨#[],0,(MapKept.heap_alloc w _).1,stamped_empty 0,rfl⟩
theorem Kz{k:TypeId}{kf:α->Value}{es:List (α×Value)}(F:YF P k kf){a:List MapEntry}(hm:a.map (λe=>(e.key,e.val))=es.map (λe=>(kf e.1,e.2))):∀x∈a,∃l,keyOf P k x.key=some l:=by
 intro x hx;have h1:(x.key,x.val)∈es.map (λe=>(kf e.1,e.2)):=by rw[<-hm];exact List.mem_map.2 ⟨x,hx,rfl⟩
 obtain⟨y,_,hy⟩:=List.mem_map.1 h1;simp only[Prod.mk.injEq]at hy;rw[<-hy.1];exact F.ok _
theorem Ym{kf:α->Value}{es:List (α×Value)}{a:Array MapEntry}(hs:Stamped a c)(hm:a.toList.map (λe=>(e.key,e.val))=es.map (λe=>(kf e.1,e.2))):(es.map (·.1)).Nodup:=by
 have h1:(a.toList.map (·.key))=(es.map (·.1)).map kf:=by have:=congrArg (List.map (λp:Value×Value=>p.1)) hm;simpa[List.map_map,Function.comp_def]using this
 have h2:=hs.2.2;rw[h1]at h2;unfold List.Nodup at h2⊢;rw[List.pairwise_map]at h2;exact h2.imp λh e=>h (by rw[e])
theorem zD.nodup{kf:α->Value}{w:World}{m:Nat}{es:List (α×Value)}(h:zD kf w m es):(es.map (·.1)).Nodup:=by obtain⟨a,c,_,h2,h3⟩:=h;exact Ym h2 h3
theorem X6{kf:α->Value}{es:List (α×Value)}{a:List MapEntry}(hm:a.map (λe=>(e.key,e.val))=es.map (λe=>(kf e.1,e.2))){e0:MapEntry}(h:a[j]? =some e0):∃y,es[j]? =some y/\e0.key=kf y.1/\e0.val=y.2:=by
 have h1:(a.map (λe=>(e.key,e.val)))[j]? =some (e0.key,e0.val):=by rw[List.getElem?_map,h];rfl
 rw[hm,List.getElem?_map,Option.map_eq_some_iff]at h1;obtain⟨y,h2,h3⟩:=h1;simp only[Prod.mk.injEq]at h3;exact⟨y,h2,h3.1.symm,h3.2.symm⟩
theorem zD.look[DecidableEq α]{k t:TypeId}{kf:α->Value}{w:World}{m:Nat}{es:List (α×Value)}(F:YF P k kf)(ht:P.underlying t=some (.map k e)){z:Value}(hz:(zeroValue e).run P w=.ok z w)
  (h:zD kf w m es)(x:α)(c:Bool):(Instr.lookup t (.map (some m)) (kf x) c).run P w=.ok (match jq es x with|some v=>if c then .tuple #[v,.bool true]else v|none=>if c then .tuple #[z,.bool false]else z) w:=by
 have hn:=h.nodup;obtain⟨a,clock,hb,Hi,hm⟩:=h;obtain⟨l,P1⟩:=F.ok x;rcases F.K.find w P1 a.toList (Kz F hm)with⟨h1,h2⟩|⟨j,e0,h1,h2,h3⟩
 ·have:jq es x=none:=QL.2 λy hy e1=>by
   have:(kf y.1,y.2)∈a.toList.map (λe=>(e.key,e.val)):=by rw[hm];exact List.mem_map.2 ⟨y,hy,rfl⟩
   obtain⟨q,hq,PL⟩:=List.mem_map.1 this;simp only[Prod.mk.injEq]at PL;exact h2 q hq (by rw[PL.1,e1])
  rw[this];simp[Instr.lookup,run_underlying ht,MapKept.run_getObj_map hb,F.K.check w _ P1,h1,hz,Result.andThen]
 ·obtain⟨y,hy,Sd,Nk⟩:=X6 hm h2;have e1:y.1=x:=F.inj _ _ (by rw[<-Sd,h3]);have:jq es x=some e0.val:=xM hn (by rw[Nk,<-e1];exact List.mem_of_getElem? hy);rw[this];simp[Instr.lookup,run_underlying ht,MapKept.run_getObj_map hb,F.K.check w _ P1,h1,Result.andThen]
theorem zaV[DecidableEq α]{es:List (α×Value)}(hn:(es.map (·.1)).Nodup){y:α×Value}(hy:es[j]? =some y)(v:Value):es.set j (y.1,v)=es.map (λe=>if e.1=y.1 then (y.1,v)else e):=by
 apply List.ext_getElem?;intro i;rw[List.getElem?_set,List.getElem?_map];have rC:=(List.getElem?_eq_some_iff.1 hy).1;by_cases MG:j=i
 ·subst MG;rw[if_pos rfl,if_pos rC,hy];simp
 ·rw[if_neg MG];cases hi:es[i]? with
  |none=>rfl
  |some q=>
   have:q.1≠y.1:=by
    intro e;have h1:(es.map (·.1))[i]? =some q.1:=by rw[List.getElem?_map,hi];rfl
    have h2:(es.map (·.1))[j]? =some q.1:=by rw[List.getElem?_map,hy,e];rfl
    exact MG ((List.getElem?_inj (by simpa using rC) hn).1 (h2.trans h1.symm))
   simp[this]
theorem jr{w:World}{es:Array MapEntry}(hb:w.heap[b]? =some (.map es c))(o':Obj):zq (· =b) w (setBlock w b o'):=
 ⟨rfl,rfl,rfl,by simp[setBlock],λi _ hi=>heap_setBlock_other hb _ hi⟩
theorem zD.put[DecidableEq α]{k t:TypeId}{kf:α->Value}{w:World}{m:Nat}{es:List (α×Value)}(F:YF P k kf)(ht:P.underlying t=some (.map k e))
  (h:zD kf w m es)(Hx:es.length<maxLen)(x:α)(v:Value):∃w',(Instr.mapUpdate t (.map (some m)) (kf x) v).run P w=.ok () w'/\zD kf w' m (xu es x v)/\zq (· =m) w w':=by
 have hn:=h.nodup;obtain⟨a,clock,hb,Hi,hm⟩:=h;obtain⟨l,P1⟩:=F.ok x;have pL:a.size=es.length:=by have:=congrArg List.length hm;simpa using this
 rcases F.K.find w P1 a.toList (Kz F hm)with⟨h1,h2⟩|⟨j,e0,h1,h2,h3⟩
 ·have hg:jq es x=none:=QL.2 λy hy e1=>by
   have:(kf y.1,y.2)∈a.toList.map (λe=>(e.key,e.val)):=by rw[hm];exact List.mem_map.2 ⟨y,hy,rfl⟩
   obtain⟨q,hq,PL⟩:=List.mem_map.1 this;simp only[Prod.mk.injEq]at PL;exact h2 q hq (by rw[PL.1,e1])
  refine⟨setBlock w m (.map (a.push ⟨kf x,v,clock⟩) (clock+1)),?_,⟨_,_,heap_setBlock_same hb _,stamped_push Hi h2,?_⟩,jr hb _⟩
  ·have:a.size<maxLen:=by omega
   simp[Instr.mapUpdate,run_underlying ht,MapKept.run_getObj_map hb,F.K.check w false P1,h1,MapKept.run_setObj_map _ hb,Result.andThen,setBlock]
  ·unfold xu;rw[hg];simp[hm]
 ·have hj:a[j]? =some e0:=by simpa using h2
  obtain⟨y,hy,Sd,Nk⟩:=X6 hm h2;have e1:y.1=x:=F.inj _ _ (by rw[<-Sd,h3]);have hg:jq es x=some e0.val:=xM hn (by rw[Nk,<-e1];exact List.mem_of_getElem? hy);have MH:∀e',a[j]? =some e'->({e' with key:=kf x,val:=v}:MapEntry).key=e'.key:=λe' TL=>by rw[hj]at TL;cases TL;exact h3.symm
  have nf:(a.modify j (λe'=>{e' with key:=kf x,val:=v})).toList=a.toList.set j {e0 with key:=kf x,val:=v}:=by rw[Array.toList_modify,modify_eq_set _ _ _ _ h2]
  refine⟨setBlock w m (.map (a.modify j (λe'=>{e' with key:=kf x,val:=v})) clock),?_,⟨_,_,heap_setBlock_same hb _,stamped_modify Hi _ _ (λ_ _=>rfl) (λe' _ TL=>MH e' TL),?_⟩,jr hb _⟩
  ·simp[Instr.mapUpdate,run_underlying ht,MapKept.run_getObj_map hb,F.K.check w false P1,h1,hj,h3,F.K.stays w P1,MapKept.run_setObj_map _ hb,Result.andThen,setBlock]
  ·rw[nf,List.map_set,hm];unfold xu;rw[hg];have h4:=zaV hn hy v;rw[e1]at h4;simp only[Option.isSome_some,if_true];rw[<-h4,List.map_set]
theorem zaW[DecidableEq α]{es:List (α×Value)}(hn:(es.map (·.1)).Nodup){y:α×Value}(hy:es[j]? =some y):es.eraseIdx j=yH es y.1:=by
 induction es generalizing j with
 |nil=>simp at hy
 |cons e es ih=>
  simp only[List.map_cons,List.nodup_cons]at hn;cases j with
  |zero=>
   simp only[List.getElem?_cons_zero,Option.some.injEq]at hy;subst hy;unfold yH;rw[List.filter_cons_of_neg (by simp)];simp only[List.eraseIdx_zero,List.tail_cons]
   symm
   rw[List.filter_eq_self];intro q hq;simp only[ne_eq,decide_not,Bool.not_eq_true',decide_eq_false_iff_not];intro h;exact hn.1 (List.mem_map.2 ⟨q,hq,h⟩)
  |succ j=>simp only[List.getElem?_cons_succ]at hy;have Ho:e.1≠y.1:=λh=>hn.1 (List.mem_map.2 ⟨y,List.mem_of_getElem? hy,h.symm⟩);unfold yH;rw[List.filter_cons_of_pos (by simpa using Ho)];simp only[List.eraseIdx_cons_succ];rw[ih hn.2 hy];rfl
theorem zD.del[DecidableEq α]{k t:TypeId}{kf:α->Value}{w:World}{m:Nat}{es:List (α×Value)}(F:YF P k kf)(ht:P.underlying t=some (.map k e))
  (h:zD kf w m es)(x:α)(ty:TypeId):∃w',(Builtin.delete_ #[t,k] ty #[.map (some m),kf x]).run P w=.ok (.tuple #[]) w'/\zD kf w' m (yH es x)/\zq (· =m) w w':=by
 have hn:=h.nodup;obtain⟨a,clock,hb,Hi,hm⟩:=h;obtain⟨l,P1⟩:=F.ok x;rcases F.K.find w P1 a.toList (Kz F hm)with⟨h1,h2⟩|⟨j,e0,h1,h2,h3⟩
 ·have hg:yH es x=es:=by
   unfold yH;rw[List.filter_eq_self];intro y hy;simp only[ne_eq,decide_not,Bool.not_eq_true',decide_eq_false_iff_not];intro e1;have:(kf y.1,y.2)∈a.toList.map (λe=>(e.key,e.val)):=by rw[hm];exact List.mem_map.2 ⟨y,hy,rfl⟩
   obtain⟨q,hq,PL⟩:=List.mem_map.1 this;simp only[Prod.mk.injEq]at PL;exact h2 q hq (by rw[PL.1,e1])
  refine⟨setBlock w m (.map a clock),?_,⟨a,clock,heap_setBlock_same hb _,Hi,by rw[hg];exact hm⟩,jr hb _⟩;simp[Builtin.delete_,run_underlying ht,MapKept.run_getObj_map hb,F.K.check w _ P1,h1,MapKept.run_setObj_map _ hb,Result.andThen,setBlock]
 ·obtain⟨y,hy,Sd,Nk⟩:=X6 hm h2;have e1:y.1=x:=F.inj _ _ (by rw[<-Sd,h3]);have BL:j<a.size:=by simpa using(List.getElem?_eq_some_iff.1 h2).1
  have MI:(a.eraseIdxIfInBounds j).toList=a.toList.eraseIdx j:=by unfold Array.eraseIdxIfInBounds;rw[dif_pos BL];simp
  refine⟨setBlock w m (.map (a.eraseIdxIfInBounds j) clock),?_,⟨_,_,heap_setBlock_same hb _,stamped_erase Hi j,?_⟩,jr hb _⟩
  ·simp[Builtin.delete_,run_underlying ht,MapKept.run_getObj_map hb,F.K.check w _ P1,h1,MapKept.run_setObj_map _ hb,Result.andThen,setBlock]
  ·rw[MI,map_eraseIdx,hm,<-map_eraseIdx,zaW hn hy,e1]
def zO{α:Type}(kf:α->Value)(w:World)(m r:Nat)(es left:List (α×Value)):Prop:=
 ∃a clock since seen c0,w.heap[m]? =some (.map a clock)/\Stamped a clock/\a.toList.map (λe=>(e.key,e.val))=es.map (λe=>(kf e.1,e.2))/\w.heap[r]? =some (.mapIter (some m) since seen c0)/\
  (∀x∈a.toList,x.born<since)/\(leftOf a seen).toList.map (λe=>(e.key,e.val))=left.map (λe=>(kf e.1,e.2))/\since<=c0/\since<=clock
theorem zO.owns{kf:α->Value}{w:World}{m r:Nat}{es left:List (α×Value)}(h:zO kf w m r es left):zD kf w m es:=by obtain⟨a,c,_,_,_,h1,h2,h3,_⟩:=h;exact⟨a,c,h1,h2,h3⟩
theorem zO.frame{kf:α->Value}{w:World}{m r:Nat}{es left:List (α×Value)}(h:zO kf w m r es left)(hm:w'.heap[m]? =w.heap[m]?)(hr:w'.heap[r]? =w.heap[r]?):zO kf w' m r es left:=by obtain⟨a,c,s,n,c0,h1,h2,h3,h4,h5⟩:=h;exact⟨a,c,s,n,c0,hm.trans h1,h2,h3,hr.trans h4,h5⟩
theorem zO.ne{kf:α->Value}{w:World}{m r:Nat}{es left:List (α×Value)}(h:zO kf w m r es left):r≠m/\r<w.heap.size:=by obtain⟨a,c,s,n,c0,h1,h2,h3,h4,_⟩:=h;exact⟨λe=>(by subst e;rw[h1]at h4;cases h4),(Array.getElem?_eq_some_iff.1 h4).1⟩
theorem zD.range{k t:TypeId}{kf:α->Value}{w:World}{m:Nat}{es:List (α×Value)}(ht:P.underlying t=some (.map k e))(h:zD kf w m es):
  ∃w',(Instr.range t (.map (some m))).run P w=.ok (.pointer (some ⟨w.heap.size,0,none⟩)) w'/\zO kf w' m w.heap.size es es/\za w w'/\w'.heap.size=w.heap.size+1:=by
 have Hb:=h.lt;obtain⟨a,clock,hb,Hi,hm⟩:=h;refine⟨_,run_range_map w t k e m a clock ht hb,⟨a,clock,clock,#[],clock,((MapKept.heap_alloc w _).2 m Hb).trans hb,Hi,hm,(MapKept.heap_alloc w _).1,Hi.1,?_,Nat.le_refl _,Nat.le_refl _⟩,(za.refl w).alloc _,by simp⟩;unfold leftOf;simpa[List.filter_eq_self.2]using hm
theorem Jf{a:Array MapEntry}{seen:Array Nat}:(leftOf a seen).toList=a.toList.filter (λe=> !seen.contains e.born):=by unfold leftOf;rw[Array.toList_filter]
theorem zO.next[DecidableEq α]{k:TypeId}{kf:α->Value}{w:World}{m r:Nat}{es left:List (α×Value)}(F:YF P k kf)(h:zO kf w m r es left)(ty:TypeId):
  (left=[]/\(Instr.next (.pointer (some ⟨r,0,none⟩)) false ty).run P w=.ok (.tuple #[.bool false]) w)\/
  ∃x v w',(x,v)∈left/\(x,v)∈es/\(Instr.next (.pointer (some ⟨r,0,none⟩)) false ty).run P w=.ok (.tuple #[.bool true,kf x,v]) w'/\zO kf w' m r es (yH left x)/\zq (· =r) w w'/\w'.heap.size=w.heap.size/\
   (Instr.entry (.pointer (some ⟨r,0,none⟩))).run P w'=.ok (.tuple #[kf x,v]) w':=by
 have Ho:=h.ne.1;obtain⟨a,clock,since,seen,c0,hb,Hi,hm,hr,pF,re,aR,RR⟩:=h;rcases run_next_at (P:=P) w ty r m since c0 seen a clock hr hb pF aR with⟨h0,pQ⟩|⟨e,he,w1,ng,pQ⟩
 ·refine Or.inl ⟨?_,pQ⟩;have h1:=congrArg List.length re;simp only[List.length_map,Array.length_toList]at h1;exact List.eq_nil_of_length_eq_zero (by omega)
 ·obtain⟨ER,Ia⟩:=mem_left he;have Hf:∀(E:List (α×Value)) (A:List MapEntry),A.map (λe=>(e.key,e.val))=E.map (λe=>(kf e.1,e.2))->e∈A->∃x v,(x,v)∈E/\kf x=e.key/\v=e.val:=by
   intro E A hEA hA;have:(e.key,e.val)∈E.map (λe=>(kf e.1,e.2)):=by rw[<-hEA];exact List.mem_map.2 ⟨e,hA,rfl⟩
   obtain⟨y,hy,Nk⟩:=List.mem_map.1 this;simp only[Prod.mk.injEq]at Nk;exact⟨y.1,y.2,hy,Nk.1,Nk.2⟩
  obtain⟨x,v,hx,SC,rfl⟩:=Hf left _ re he;obtain⟨x2,v2,rU,MJ,rfl⟩:=Hf es _ hm ER;have:x2=x:=F.inj _ _ (MJ.trans SC.symm);subst this;have Pv:w1.heap[r]? =some (.mapIter (some m) since seen c0):=by rcases ng with rfl|rfl<;>exact hr
  have Pb:w1.heap[m]? =some (.map a clock):=by rcases ng with rfl|rfl<;>exact hb
  have Se:=heap_set (o':=.mapIter (some m) since (seen.push e.born) clock) Pv;have Ry:(setBlock w1 r (.mapIter (some m) since (seen.push e.born) clock)).heap[m]? =some (.map a clock):=(Se.2 m (λe1=>Ho e1.symm)).trans Pb;refine Or.inr ⟨x2,e.val,_,hx,rU,by rw[MJ];exact pQ,⟨a,clock,since,seen.push e.born,clock,Ry,Hi,hm,Se.1,pF,?_,RR,RR⟩,?_,?_,by rw[MJ];exact run_entry_at _ r m since seen a clock e Se.1 Ry ER ((stamped_iff a clock).1 Hi).2.1⟩
  ·classical
   rw[Jf]at re⊢;have ph:(a.toList.map (·.key)).Nodup:=Hi.2.2;have e1:a.toList.filter (λq=> !(seen.push e.born).contains q.born)=(a.toList.filter (λq=> !seen.contains q.born)).filter (λq=>decide (q.key≠e.key)):=by
    rw[List.filter_filter];refine List.filter_congr λq hq=> ?_;have PA:(q.born=e.born)↔q.key=e.key:=by
     constructor
     ·intro hb;rw[born_inj ((stamped_iff a clock).1 Hi).2.1 hq ER hb]
     ·intro hk;rw[entry_eq_of_key ((stamped_iff a clock).1 Hi).2.2 hq ER hk]
    rw[contains_push];by_cases hk:q.key=e.key
    ·have:=PA.2 hk;simp[hk,this]
    ·have: ¬q.born=e.born:=λh=>hk (PA.1 h);simp[hk,this]
   rw[e1];generalize a.toList.filter (λq=> !seen.contains q.born)=L at re;clear hx;unfold yH
   induction L generalizing left with
   |nil=>
    have:left=[]:=by simpa using re.symm
    subst this;rfl
   |cons q L ih=>
    cases left with
    |nil=>simp at re
    |cons y left=>
     simp only[List.map_cons,List.cons.injEq,Prod.mk.injEq]at re;obtain⟨⟨h1,h2⟩,h3⟩:=re;have h4:=ih h3;by_cases hq:q.key=e.key
     ·have:y.1=x2:=F.inj _ _ (by rw[<-h1,hq,MJ]);rw[List.filter_cons_of_neg (by simp[hq]),List.filter_cons_of_neg (by simp[this])];exact h4
     ·have: ¬y.1=x2:=λe2=>hq (by rw[h1,e2,MJ]);rw[List.filter_cons_of_pos (by simpa using hq),List.filter_cons_of_pos (by simpa using this)];simp only[List.map_cons,h1,h2];rw[h4]
  ·rcases ng with rfl|rfl<;>exact⟨rfl,rfl,rfl,by simp[setBlock],λi _ hi=>Se.2 i hi⟩
  ·rcases ng with rfl|rfl<;>simp[setBlock]
theorem zO.put[DecidableEq α]{k t:TypeId}{kf:α->Value}{w:World}{m r:Nat}{es left:List (α×Value)}(F:YF P k kf)(ht:P.underlying t=some (.map k e))
  (h:zO kf w m r es left)(x:α)(v:Value)(hx:(jq es x).isSome=true):∃w',(Instr.mapUpdate t (.map (some m)) (kf x) v).run P w=.ok () w'/\zO kf w' m r (xu es x v) (left.map λe=>if e.1=x then (x,v)else e)/\zq (· =m) w w'/\w'.heap.size=w.heap.size:=by
 have Ho:=h.ne.1;obtain⟨a,clock,since,seen,c0,hb,Hi,hm,hr,pF,re,aR,RR⟩:=h;have hn:=Ym Hi hm;obtain⟨l,P1⟩:=F.ok x;rcases F.K.find w P1 a.toList (Kz F hm)with⟨h1,h2⟩|⟨j,e0,h1,h2,h3⟩
 ·have hg:jq es x=none:=QL.2 λy hy e1=>by
   have:(kf y.1,y.2)∈a.toList.map (λe=>(e.key,e.val)):=by rw[hm];exact List.mem_map.2 ⟨y,hy,rfl⟩
   obtain⟨q,hq,PL⟩:=List.mem_map.1 this;simp only[Prod.mk.injEq]at PL;exact h2 q hq (by rw[PL.1,e1])
  rw[hg]at hx;simp at hx
 ·have hj:a[j]? =some e0:=by simpa using h2
  obtain⟨y,hy,Sd,Nk⟩:=X6 hm h2;have e1:y.1=x:=F.inj _ _ (by rw[<-Sd,h3]);have MH:∀e',a[j]? =some e'->({e' with key:=kf x,val:=v}:MapEntry).key=e'.key:=λe' TL=>by rw[hj]at TL;cases TL;exact h3.symm
  have nf:(a.modify j (λe'=>{e' with key:=kf x,val:=v})).toList=a.toList.set j {e0 with key:=kf x,val:=v}:=by rw[Array.toList_modify,modify_eq_set _ _ _ _ h2]
  classical
  have MK:a.toList.set j {e0 with key:=kf x,val:=v}=a.toList.map (λq=>if q.key=kf x then {q with key:=kf x,val:=v}else q):=by
   apply List.ext_getElem?;intro i;have rC:=(List.getElem?_eq_some_iff.1 h2).1;rw[List.getElem?_set,List.getElem?_map];by_cases MG:j=i
   ·subst MG;rw[if_pos rfl,if_pos rC,h2];simp[h3]
   ·rw[if_neg MG];cases hi:a.toList[i]? with
    |none=>rfl
    |some q=>
     have:q.key≠kf x:=by
      intro e;have g1:(a.toList.map (·.key))[i]? =some q.key:=by rw[List.getElem?_map,hi];rfl
      have g2:(a.toList.map (·.key))[j]? =some q.key:=by rw[List.getElem?_map,h2,Option.map_some,h3,e]
      exact MG ((List.getElem?_inj (by simpa using rC) Hi.2.2).1 (g2.trans g1.symm))
     simp[this]
  have ML:∀(A:List MapEntry) (E:List (α×Value)),A.map (λe=>(e.key,e.val))=E.map (λe=>(kf e.1,e.2))->
    (A.map (λq=>if q.key=kf x then {q with key:=kf x,val:=v}else q)).map (λe=>(e.key,e.val))=(E.map λe=>if e.1=x then (x,v)else e).map (λe=>(kf e.1,e.2)):=by
   intro A
   induction A with
   |nil=>intro E h;cases E with
    |nil=>rfl
    |cons _ _=>simp at h
   |cons q A ih=>
    intro E h;cases E with
    |nil=>simp at h
    |cons z E=>
     simp only[List.map_cons,List.cons.injEq,Prod.mk.injEq]at h;obtain⟨⟨g1,g2⟩,g3⟩:=h;simp only[List.map_cons,List.cons.injEq];refine⟨?_,ih E g3⟩;by_cases hz:z.1=x
     ·have:q.key=kf x:=by rw[g1,hz]
      simp[hz,this]
     ·have: ¬q.key=kf x:=λe=>hz (F.inj _ _ (by rw[<-g1,e]));rw[if_neg this,if_neg hz,g1,g2]
  have cC:∀q:MapEntry,(if q.key=kf x then ({q with key:=kf x,val:=v}:MapEntry)else q).born=q.born:=λq=>by split<;>rfl
  refine⟨setBlock w m (.map (a.modify j (λe'=>{e' with key:=kf x,val:=v})) clock),?_,⟨_,clock,since,seen,c0,heap_setBlock_same hb _,stamped_modify Hi _ _ (λ_ _=>rfl) (λe' _ TL=>MH e' TL),?_,(heap_setBlock_other hb _ Ho).trans hr,?_,?_,aR,RR⟩,jr hb _,by simp[setBlock]⟩
  ·simp[Instr.mapUpdate,run_underlying ht,MapKept.run_getObj_map hb,F.K.check w false P1,h1,hj,h3,F.K.stays w P1,MapKept.run_setObj_map _ hb,Result.andThen,setBlock]
  ·rw[nf,MK,ML _ _ hm];unfold xu;rw[if_pos hx]
  ·intro q hq;rw[nf,MK]at hq;obtain⟨q',NT,rfl⟩:=List.mem_map.1 hq;rw[cC];exact pF _ NT
  ·rw[Jf]at re⊢;rw[nf,MK,List.filter_map];have:((λe:MapEntry=> !seen.contains e.born)∘λq:MapEntry=>if q.key=kf x then ({q with key:=kf x,val:=v}:MapEntry)else q)=λe=> !seen.contains e.born:=by
    funext q;simp only[Function.comp,cC]
   rw[this];exact ML _ _ re
theorem X7{κ:Type}[DecidableEq κ](f:β->κ){l:List β}(hn:(l.map f).Nodup){y:β}(hy:l[j]? =some y):l.eraseIdx j=l.filter (λq=>decide (f q≠f y)):=by
 induction l generalizing j with
 |nil=>simp at hy
 |cons e l ih=>
  simp only[List.map_cons,List.nodup_cons]at hn;cases j with
  |zero=>
   simp only[List.getElem?_cons_zero,Option.some.injEq]at hy;subst hy;rw[List.filter_cons_of_neg (by simp)];simp only[List.eraseIdx_zero,List.tail_cons]
   symm
   rw[List.filter_eq_self];intro q hq;simp only[ne_eq,decide_not,Bool.not_eq_true',decide_eq_false_iff_not];intro h;exact hn.1 (List.mem_map.2 ⟨q,hq,h⟩)
  |succ j=>simp only[List.getElem?_cons_succ]at hy;have Ho:f e≠f y:=λh=>hn.1 (List.mem_map.2 ⟨y,List.mem_of_getElem? hy,h.symm⟩);rw[List.filter_cons_of_pos (by simpa using Ho)];simp only[List.eraseIdx_cons_succ];rw[ih hn.2 hy]
theorem zO.del[DecidableEq α]{k t:TypeId}{kf:α->Value}{w:World}{m r:Nat}{es left:List (α×Value)}(F:YF P k kf)(ht:P.underlying t=some (.map k e))
  (h:zO kf w m r es left)(x:α)(ty:TypeId):∃w',(Builtin.delete_ #[t,k] ty #[.map (some m),kf x]).run P w=.ok (.tuple #[]) w'/\zO kf w' m r (yH es x) (yH left x)/\zq (· =m) w w'/\w'.heap.size=w.heap.size:=by
 have Ho:=h.ne.1;obtain⟨a,clock,since,seen,c0,hb,Hi,hm,hr,pF,re,aR,RR⟩:=h;have hn:=Ym Hi hm;obtain⟨l,P1⟩:=F.ok x
 classical
 have ML:∀(A:List MapEntry) (E:List (α×Value)),A.map (λe=>(e.key,e.val))=E.map (λe=>(kf e.1,e.2))->(A.filter (λq=>decide (q.key≠kf x))).map (λe=>(e.key,e.val))=(yH E x).map (λe=>(kf e.1,e.2)):=by
  intro A
  induction A with
  |nil=>intro E h;cases E with
   |nil=>rfl
   |cons _ _=>simp at h
  |cons q A ih=>
   intro E h;cases E with
   |nil=>simp at h
   |cons z E=>
    simp only[List.map_cons,List.cons.injEq,Prod.mk.injEq]at h;obtain⟨⟨g1,g2⟩,g3⟩:=h;have h4:=ih E g3;unfold yH at h4⊢;by_cases hz:z.1=x
    ·have:q.key=kf x:=by rw[g1,hz]
     rw[List.filter_cons_of_neg (by simp[this]),List.filter_cons_of_neg (by simp[hz])];exact h4
    ·have: ¬q.key=kf x:=λe=>hz (F.inj _ _ (by rw[<-g1,e]));rw[List.filter_cons_of_pos (by simpa using this),List.filter_cons_of_pos (by simpa using hz)];simp only[List.map_cons,g1,g2];rw[h4]
 have Hv:∀a':Array MapEntry,a'.toList=a.toList.filter (λq=>decide (q.key≠kf x))->Stamped a' clock->zO kf (setBlock w m (.map a' clock)) m r (yH es x) (yH left x):=by
  intro a' Ib MM;refine⟨a',clock,since,seen,c0,heap_setBlock_same hb _,MM,by rw[Ib,ML _ _ hm],(heap_setBlock_other hb _ Ho).trans hr,λq hq=> ?_,?_,aR,RR⟩
  ·rw[Ib]at hq;exact pF q (List.mem_filter.1 hq).1
  ·rw[Jf]at re⊢;rw[Ib,List.filter_filter];have e1:(a.toList.filter λq=>(!seen.contains q.born) && decide (q.key≠kf x))=(a.toList.filter λq=> !seen.contains q.born).filter (λq=>decide (q.key≠kf x)):=by
    rw[List.filter_filter];exact List.filter_congr λq _=>Bool.and_comm _ _
   rw[e1,ML _ _ re]
 rcases F.K.find w P1 a.toList (Kz F hm)with⟨h1,h2⟩|⟨j,e0,h1,h2,h3⟩
 ·refine⟨setBlock w m (.map a clock),?_,Hv a ?_ Hi,jr hb _,by simp[setBlock]⟩
  ·simp[Builtin.delete_,run_underlying ht,MapKept.run_getObj_map hb,F.K.check w _ P1,h1,MapKept.run_setObj_map _ hb,Result.andThen,setBlock]
  ·symm
   rw[List.filter_eq_self];intro q hq;simpa using h2 q hq
 ·have BL:j<a.size:=by simpa using(List.getElem?_eq_some_iff.1 h2).1
  have MI:(a.eraseIdxIfInBounds j).toList=a.toList.eraseIdx j:=by unfold Array.eraseIdxIfInBounds;rw[dif_pos BL];simp
  refine⟨setBlock w m (.map (a.eraseIdxIfInBounds j) clock),?_,Hv _ ?_ (stamped_erase Hi j),jr hb _,by simp[setBlock]⟩
  ·simp[Builtin.delete_,run_underlying ht,MapKept.run_getObj_map hb,F.K.check w _ P1,h1,MapKept.run_setObj_map _ hb,Result.andThen,setBlock]
  ·rw[MI];have ph:(a.toList.map (·.key)).Nodup:=Hi.2.2;rw[X7 (λq:MapEntry=>q.key) ph h2,h3]
theorem vI{P:Program}{w w':World}{ops:Array Oper}{rest:List Oper}{o:Oper}{a:Act}{Q:Exit->Act->World->Prop}(Tc:o.guard=none){mo xo:Operand}{t k:TypeId}
  (ho:o.op=.call {callee:=.builtin .delete,args:= #[mo,xo],argTypes:= #[t,k]}){mv xv:Value}(hm:a.eval mo=mv)(hx:a.eval xo=xv)(pQ:(Builtin.delete_ #[t,k] o.type #[mv,xv]).run P w=.ok (.tuple #[]) w')
  (h:wpList P ops Q rest (a.put o.dst (.tuple #[])) w'):wpList P ops Q (o::rest) a w:=by
 refine wpList_plain Tc λK hK=> ?_;unfold Oper.wp execOp;simp only[ho,resolve,invoke,builtin,Sem.run_bind,Sem.run_pure,Result.andThen_ok,List.map_toArray,List.map_cons,List.map_nil,hm,hx,pQ];exact hK _ _ h
end
end Go.Proofs.YtbmdoinjkligiaaGreat
