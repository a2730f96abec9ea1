/- Contracts and laws that the last text joins. -/
import Derived.WalkKit
import Derived.WalkSpells
import Derived.WalkLawsBesides
import Derived.Lib.Hide
import Derived.Laws.AppendOwnNone
import Derived.Deep.QuietTactic
import Derived.BigQuiet
import Derived.StillTailTactics
import Derived.Deep.RegionWith
import Derived.Deep.DeepMust
import Derived.Deep.DeepFit
import Derived.Deep.LoopGhost
import Derived.Test.YtbmdoinjkligiaaGreatProg
import Derived.Deep.RegionLaw
import Derived.Laws.CopyOwn
import Derived.Maps.RangeRun
import Derived.Maps.Keyed
import Derived.Maps.OwnSet
import Derived.Maps.Range
import Derived.Lib.ConvBytes
set_option maxRecDepth 100000
set_option maxHeartbeats 40000000
set_option linter.all false
namespace Go.Proofs.YtbmdoinjkligiaaGreat
open Tryz
open Lib(hid)
theorem zex.{u}{α:Sort u}(a:α): ∃x,x=a:=⟨a,rfl⟩
open Go.RowKit
abbrev Rd:=Addr->Option Value
def Rd.le(r r':Rd):Prop:=∀a v,r a=some v->r' a=some v
theorem Rd.le_refl(r:Rd):r.le r:=λ_ _ h=>h
theorem Rd.le.le_trans{a b c:Rd}(h:a.le b)(k:b.le c):a.le c:=λx v hx=>k x v (h x v hx)
structure zo(S:Nat->Prop)(w w':World):Prop where
 os:w'.os=w.os
 tape:w'.tape=w.tape
 output:w'.output=w.output
 size:w.heap.size<=w'.heap.size
 block:∀k,k<w.heap.size->¬S k->w'.heap[k]? =w.heap[k]?
theorem zo.refl(S:Nat->Prop)(w:World):zo S w w:=⟨rfl,rfl,rfl,Nat.le_refl _,λ_ _ _=>rfl⟩
variable{S:Nat->Prop}
theorem zo.trans{S':Nat->Prop}{a b c:World}(h:zo S a b)(k:zo S' b c)(hs:∀x,x<a.heap.size->S' x->S x):zo S a c:=
 ⟨k.os.trans h.os,k.tape.trans h.tape,k.output.trans h.output,Nat.le_trans h.size k.size,λi hi hn=>(k.block i (Nat.lt_of_lt_of_le hi h.size) (λe=>hn (hs i hi e))).trans (h.block i hi hn)⟩
variable{w':World}
theorem zo.mono{S':Nat->Prop}{w:World}(h:zo S w w')(hs:∀x,x<w.heap.size->S x->S' x):zo S' w w':=⟨h.os,h.tape,h.output,h.size,λk hk hn=>h.block k hk (λe=>hn (hs k hk e))⟩
theorem zo.drew{a w:World}(h:zo S a w):zo S a w.drew:=⟨h.os,h.tape,h.output,h.size,h.block⟩
theorem zo.drewN{a w:World}(h:zo S a w)(n:Nat):zo S a (w.drewN n):=⟨h.os,h.tape,h.output,h.size,h.block⟩
theorem zo.alloc{a w:World}(h:zo S a w)(o:Obj):zo S a (w.alloc o):=
 ⟨h.os,h.tape,h.output,by have:=h.size;simp;omega,λk hk hn=>(Below.heap_alloc _ _ _ (Nat.lt_of_lt_of_le hk h.size)).trans (h.block k hk hn)⟩
theorem zo.setCell{a w:World}(h:zo S a w){p:Addr}(hp:p.block<a.heap.size->S p.block)(u:Value):zo S a (w.setCell p u):=
 ⟨h.os,h.tape,h.output,by have:=h.size;simpa[World.setCell]using this,λk hk hn=>(Below.heap_setCell _ _ _ _ (λe=>hn (by subst e;exact hp hk))).trans (h.block k hk hn)⟩
variable{v:Value}
theorem zo.cell{w:World}(h:zo S w w'){p:Addr}(hs: ¬S p.block)(hc:w.cell? p=some v):w'.cell? p=some v:=by rw[World.cell?_of_block (w:=w) (h.block p.block (World.block_lt_of_cell? w p hc) hs)];exact hc
noncomputable def im(S:Nat->Prop)(w:World):Rd:=λa=>by classical exact if S a.block then none else w.cell? a
theorem zi{w:World}{a:Addr}:im S w a=some v↔¬S a.block/\w.cell? a=some v:=by unfold im;classical by_cases h:S a.block<;>simp[h]
theorem zd(S:Nat->Prop)(w:World):(im S w).le w.cell? :=λ_ _ h=>(zi.1 h).2
theorem zo.im{S':Nat->Prop}{w:World}(h:zo S w w')(hs:∀x,x<w.heap.size->S' x->S x):(im S w).le (im S' w'):=λa v ha=>by obtain⟨hn,hc⟩:=zi.1 ha;exact zi.2 ⟨λe=>hn (hs _ (World.block_lt_of_cell? w a hc) e),h.cell hn hc⟩
theorem jq{S':Nat->Prop}{w:World}(hs:∀x,S' x->S x):(im S w).le (im S' w):=λa v ha=>by obtain⟨hn,hc⟩:=zi.1 ha;exact zi.2 ⟨λe=>hn (hs _ e),hc⟩
def Bs(r:Rd)(l:List UInt8)(v:Value):Prop:=
 ∃p n c,v=.slice p n c/\l.length=n/\n<=c/\c<=9223372036854775807/\(p=none->c=0)/\(n=0\/∃b o,p=some ⟨b,o,none⟩/\∀i (h:i<l.length),r ⟨b,o+i,none⟩=some (.int .u8 l[i].toNat))
variable{r r':Rd}
theorem Bs.mono(hr:r.le r'){l:List UInt8}(h:Bs r l v):Bs r' l v:=by
 obtain⟨p,n,c,h1,h2,h3,h4,h6,h5⟩:=h;refine⟨p,n,c,h1,h2,h3,h4,h6,?_⟩;rcases h5 with h5|⟨b,o,hp,hc⟩
 ·exact Or.inl h5
 ·exact Or.inr ⟨b,o,hp,λi hi=>hr _ _ (hc i hi)⟩
theorem Bs.nil(r:Rd):Bs r [] (.slice none 0 0):=⟨none,0,0,rfl,rfl,Nat.le_refl _,by omega,λ_=>rfl,Or.inl rfl⟩
def Gp(r:Rd)(p:Option Addr)(cs:List Value):Prop:=cs=[]\/∃b o,p=some ⟨b,o,none⟩/\∀i (h:i<cs.length),r ⟨b,o+i,none⟩=some cs[i]
def Sl(r:Rd)(sz:Nat)(cs:List Value)(v:Value):Prop:=∃p n c,v=.slice p n c/\cs.length=n*sz/\n<=c/\c<=9223372036854775807/\(p=none->c=0)/\Gp r p cs
variable{cs:List Value}
theorem Gp.mono(hr:r.le r'){p:Option Addr}(h:Gp r p cs):Gp r' p cs:=by
 rcases h with h|⟨b,o,hp,hc⟩
 ·exact Or.inl h
 ·exact Or.inr ⟨b,o,hp,λi hi=>hr _ _ (hc i hi)⟩
variable{sz:Nat}
theorem Sl.mono(hr:r.le r')(h:Sl r sz cs v):Sl r' sz cs v:=by obtain⟨p,n,c,h1,h2,h3,h4,h6,h5⟩:=h;exact⟨p,n,c,h1,h2,h3,h4,h6,h5.mono hr⟩
theorem Sl.nil(r:Rd)(sz:Nat):Sl r sz [] (.slice none 0 0):=⟨none,0,0,rfl,by simp,Nat.le_refl _,by omega,λ_=>rfl,Or.inl rfl⟩
def zt:List UInt8->List UInt8->Int
 |[],[]=>0
 |[],_::_=> -1
 |_::_,[]=>1
 |a::c,b::d=>if a<b then -1 else if b<a then 1 else zt c d
structure yB(P:Program)(t e:TypeId)(z:Value)(sz bytes:Nat):Prop where
 under:P.underlying t=some (.slice e)
 info:(P.info? e).map (λi=>(i.zero,i.size,i.bytes))=some (some z,sz,bytes)
 zs:z.cells.size=sz
 pos:0<sz
theorem zo.of_grown{w:World}{row:Option Nat}(h:w.grownBy w' row):zo (λb=>row=some b) w w':=
 ⟨h.os,h.tape,h.output,h.size,λk hk hn=>h.block k hk (λe=>hn e.symm)⟩
variable{base n:Nat}{e:TypeId}{xs:List Value}
theorem Sl.of_own{w:World}(h:w.ownsRow base e sz v n xs):Sl w.cell? sz xs v:=by
 rcases h.2 with⟨rfl,rfl⟩|⟨g,cap,cur,rfl,hb,hg,hn,hm,hs,ht⟩
 ·have:xs=[]:=List.eq_nil_of_length_eq_zero (by simpa using h.1);subst this;exact Sl.nil _ _
 ·refine⟨_,n,cap,rfl,h.1,hn,by simpa[maxLen]using hm,(λh=>by cases h),Or.inr ⟨g,0,rfl,λi hi=> ?_⟩⟩;have:=World.ownsRow.cells h (g:=g) rfl i xs[i] (by simp[hi]);have e:(⟨g,0,none⟩:Addr).add i=⟨g,0+i,none⟩:=by unfold Addr.add;split<;>simp_all
  rwa [e]at this
theorem vJ{w:World}{g:Nat}(hb:base<=g)(hg:w.heap[g]? =some (.cells #[] e (0,0))):w.ownsRow base e sz (.slice (some ⟨g,0,none⟩) 0 0) 0 []:=
 ⟨by simp,Or.inr ⟨g,0,#[],rfl,hb,hg,Nat.le_refl _,by simp[maxLen],by simp,by simp⟩⟩
abbrev za(w w':World):Prop:=zo (λ_=>False) w w'
theorem za.refl(w:World):za w w:=zo.refl _ w
theorem za.trans{a b c:World}(h:za a b)(k:za b c):za a c:=zo.trans h k (λ_ _ h=>h)
theorem za.le{w:World}(h:za w w'):Rd.le w.cell? w'.cell? :=λ_ _ hc=>h.cell (λe=>e) hc
theorem za.mod{w:World}(h:za w w')(S:Nat->Prop):zo S w w':=h.mono λ_ _ e=>e.elim
variable{b:Nat}
theorem za.heap{w:World}(h:za w w'){o:Obj}(hb:w.heap[b]? =some o):w'.heap[b]? =some o:=by rw[h.block b (Array.getElem?_eq_some_iff.1 hb).1 (λe=>e)];exact hb
theorem za.im{w:World}(h:za w w')(S:Nat->Prop):(im S w).le (im S w'):=(h.mod S).im λ_ _ h=>h
theorem za.of_grown{w0 w:World}{row:Option Nat}(h0:za w0 w)(h:w.grownBy w' row)(hr:∀k,row=some k->w0.heap.size<=k):za w0 w':=
 ⟨h.os.trans h0.os,h.tape.trans h0.tape,h.output.trans h0.output,Nat.le_trans h0.size h.size,λk hk _=>
  (h.block k (Nat.lt_of_lt_of_le hk h0.size) (λe=>by have:=hr k e.symm;omega)).trans (h0.block k hk (λe=>e))⟩
abbrev qr(x:UInt8):Value:=.int .u8 x.toNat
theorem Bs.sl{l:List UInt8}(h:Bs r l v):Sl r 1 (l.map qr) v:=by
 obtain⟨p,n,c,rfl,hl,hn,hc,hp,h5⟩:=h;refine⟨p,n,c,rfl,by simpa using hl,hn,hc,hp,?_⟩;rcases h5 with h5|⟨b,o,hp,hc⟩
 ·exact Or.inl (by rw[List.eq_nil_of_length_eq_zero (by omega:l.length=0)];rfl)
 ·exact Or.inr ⟨b,o,hp,λi hi=>by simpa using hc i (by simpa using hi)⟩
theorem Bs.of_sl{l:List UInt8}(h:Sl r 1 (l.map qr) v):Bs r l v:=by
 obtain⟨p,n,c,rfl,hl,hn,hc,hp,h5⟩:=h;refine⟨p,n,c,rfl,by simpa using hl,hn,hc,hp,?_⟩;rcases h5 with h5|⟨b,o,hp,hc⟩
 ·exact Or.inl (by
  have:l=[]:=by simpa using h5
  subst this;simpa using hl.symm)
 ·exact Or.inr ⟨b,o,hp,λi hi=>by have:=hc i (by simpa using hi);simpa using this⟩
theorem jH(l:List UInt8):∀u∈l.map qr,u.oneCell'=true:=by intro u hu;obtain⟨x,_,rfl⟩:=List.mem_map.1 hu;rfl
variable{P:Program}{bytes:Nat}
theorem ql{w:World}{ops:Array Oper}{rest:List Oper}{o:Oper}{a:Act}{Q:Exit->Act->World->Prop}{t:TypeId}{z:Value}
  (E:yB P t e z sz bytes)(hgd:o.guard=none){s x:Operand}(ho:o.op=.call {callee:=.builtin .append,args:= #[s,x],argTypes:= #[t,t]})
  {w0:World}(hN:za w0 w){v:Value}{n:Nat}{xs:List Value}(hown:w.ownsRow w0.heap.size e sz v n xs)(hs:a.eval s=v)
  {xv:Value}{news:List Value}(hx:a.eval x=xv)(hnews:Sl w.cell? sz news xv)(h1:∀u∈news,u.oneCell'=true)
  (hbytes:(xs.length+news.length)*(bytes+1)<=140737488355328)
  (h:∀v' w' m,news.length=m*sz->w'.ownsRow w0.heap.size e sz v' (n+m) (xs++news)->za w0 w'->w.grownBy w' v.ownBlock->Sl w'.cell? sz (xs++news) v'->wpList P ops Q rest (a.put o.dst v') w'):wpList P ops Q (o::rest) a w:=by
 obtain⟨i,hi,hz,hsz,hby⟩:=info_parts E.info;obtain⟨p,m,c,rfl,hl,hmc,hc,hpc,hcells⟩:=hnews;have hlx:xs.length=n*sz:=hown.1;have hpos:=E.pos;have hnx:n<=xs.length:=by rw[hlx];exact Nat.le_mul_of_pos_right _ hpos
 have hmn:m<=news.length:=by rw[hl];exact Nat.le_mul_of_pos_right _ hpos
 have h63:n+m<=maxLen:=by have:(xs.length+news.length)*1<=(xs.length+news.length)*(bytes+1):=Nat.mul_le_mul_left _ (by omega);simp only[maxLen];omega
 have hb2:(n+m)*bytes<=140737488355328:=Nat.le_trans (Nat.mul_le_mul (by omega) (by omega)) hbytes;have hfin:∀v' w',w'.ownsRow w0.heap.size e sz v' (n+m) (xs++news)->w.grownBy w' v.ownBlock->wpList P ops Q rest (a.put o.dst v') w':=λv' w' h2 h3=>
  h v' w' m hl h2 (hN.of_grown h3 (λk hk=>(World.ownsRow.lt hown k hk).1)) h3 (Sl.of_own h2)
 cases p with
 |some ad=>
  refine wpList_append_own w hgd s x t ho w0.heap.size e i z sz bytes E.under hi hz hsz hby E.zs E.pos v n xs hs hown ad m c news hx hl ?_ h1 h63 hb2 hN.size (λv' w' h2 h3 _=>hfin v' w' h2 h3);intro j u hj;rcases hcells with hc0|⟨b,o',hp,hcc⟩
  ·subst hc0;simp at hj
  ·simp only[Option.some.injEq]at hp;subst hp;have hjl:j<news.length:=(List.getElem?_eq_some_iff.1 hj).1;have e1:(⟨b,o',none⟩:Addr).add j=⟨b,o'+j,none⟩:=by unfold Addr.add;split<;>simp_all
   rw[e1,hcc j hjl,<-hj,List.getElem?_eq_getElem hjl]
 |none=>
  have hn0:news=[]:=by
   rcases hcells with hc0|⟨b,o',hp,_⟩
   ·exact hc0
   ·cases hp
  subst hn0;have hm0:m=0:=by
   rcases Nat.eq_zero_or_pos m with h0|h0
   ·exact h0
   ·have:0<m*sz:=Nat.mul_pos h0 E.pos;simp at hl;omega
  subst hm0;obtain rfl:c=0:=hpc rfl;exact wpList_append_own_none hgd s x t ho w0.heap.size e i sz E.under hi v n xs hs hown hx (hfin v w (by simpa using hown) ⟨rfl,rfl,rfl,Nat.le_refl _,λ_ _ _=>rfl⟩)
theorem Sl.shape(h:Sl r sz cs v):∃p n c,v=.slice p n c:=by obtain⟨p,n,c,rfl,_⟩:=h;exact⟨p,n,c,rfl⟩
theorem Bs.shape{l:List UInt8}(h:Bs r l v):∃p n c,v=.slice p n c/\l.length=n:=by obtain⟨p,n,c,rfl,hl,_⟩:=h;exact⟨p,n,c,rfl,hl⟩
variable{c:Nat}
theorem Sl.part{p:Option Addr}(h:Sl r sz cs (.slice p n c))(l m:Nat)(hl:l<=m)(hm:m<=n):
  Sl r sz ((cs.take (m*sz)).drop (l*sz)) (.slice (if c=l then p else p.map (·.add (l*sz))) (m-l) (c-l)):=by
 obtain⟨p',n',c',e,hlen,hn,hc,hp,hcells⟩:=h;simp only[Value.slice.injEq]at e;obtain⟨rfl,rfl,rfl⟩:=e;have h1:m*sz<=n*sz:=Nat.mul_le_mul_right _ hm;have h2:l*sz<=m*sz:=Nat.mul_le_mul_right _ hl;have hlen':((cs.take (m*sz)).drop (l*sz)).length=(m-l)*sz:=by simp only[List.length_drop,List.length_take,hlen,Nat.sub_mul];omega
 refine⟨_,m-l,c-l,rfl,hlen',by omega,by omega,?_,?_⟩
 ·intro h0;split at h0
  ·have:=hp h0;omega
  ·cases p with
   |none=>have:=hp rfl;omega
   |some a=>cases h0
 ·rcases hcells with h0|⟨b,o,hb,hcc⟩
  ·left;simp[h0]
  ·by_cases hcl:c=l
   ·left;have:m=l:=by omega
    subst this;exact List.eq_nil_of_length_eq_zero (by rw[hlen'];simp)
   ·right;refine⟨b,o+l*sz,?_,λi hi=> ?_⟩
    ·rw[if_neg hcl,hb];simp only[Option.map_some,Option.some.injEq,Addr.add];split
     ·rename_i h0;simp
     ·rfl
    ·rw[Nat.add_assoc,hcc (l*sz+i) (by rw[hlen']at hi;simp only[Nat.sub_mul]at hi;omega)];simp
theorem k_{t:TypeId}{z:Value}(E:yB P t e z sz bytes)(h:Sl r sz cs v)(l:Nat)(hl:l*sz<=cs.length):
  ∃v',(∀W,(Instr.slice t v (some (.int .i64 l)) none none).run P W=.ok v' W)/\Sl r sz (cs.drop (l*sz)) v':=by
 obtain⟨p,n,c,rfl,hlen,hn,hc,hp,hcells⟩:=id h;obtain⟨i,hi,hz,hsz,hby⟩:=info_parts E.info;have hln:l<=n:=by rw[hlen]at hl;exact Nat.le_of_mul_le_mul_right hl E.pos
 refine⟨_,λW=> ?_,by have:=h.part l n hln (Nat.le_refl _);rwa [<-hlen,List.take_length]at this⟩;simp[Instr.slice,run_underlying E.under,Instr.sliceBounds,run_sliceBound (P:=P) W .i64 (l:Int) n .sliceB (by omega) (by omega),sizeOf,typeInfo,hi,hsz]
theorem YI{t:TypeId}{z:Value}(E:yB P t e z sz bytes)(h:Sl r sz cs v)(m:Nat)(hm:m*sz<=cs.length):
  ∃v',(∀W,(Instr.slice t v none (some (.int .i64 m)) none).run P W=.ok v' W)/\Sl r sz (cs.take (m*sz)) v':=by
 obtain⟨p,n,c,rfl,hlen,hn,hc,hp,hcells⟩:=id h;obtain⟨i,hi,hz,hsz,hby⟩:=info_parts E.info;have hmn:m<=n:=by rw[hlen]at hm;exact Nat.le_of_mul_le_mul_right hm E.pos
 refine⟨_,λW=> ?_,by have:=h.part 0 m (Nat.zero_le _) hmn;rwa [Nat.zero_mul,List.drop_zero]at this⟩;simp[Instr.slice,run_underlying E.under,Instr.sliceBounds,run_sliceBound (P:=P) W .i64 (m:Int) c .sliceAcap (by omega) (by omega),sizeOf,typeInfo,hi]
theorem Sl.im_of{w:World}(h:Sl w.cell? sz cs v)(hf:∀b,v.ownBlock=some b->¬S b):Sl (im S w) sz cs v:=by
 obtain⟨p,n,c,rfl,h1,h2,h3,h4,h5⟩:=h;refine⟨p,n,c,rfl,h1,h2,h3,h4,?_⟩;rcases h5 with h5|⟨b,o,rfl,hc⟩
 ·exact Or.inl h5
 ·exact Or.inr ⟨b,o,rfl,λi hi=>zi.2 ⟨hf b rfl,hc i hi⟩⟩
theorem Bs.im_of{w:World}{l:List UInt8}(h:Bs w.cell? l v)(hf:∀b,v.ownBlock=some b->¬S b):Bs (im S w) l v:=
 Bs.of_sl (h.sl.im_of hf)
theorem Jg{w:World}(h:w.ownsRow base e sz v n xs):∀b,v.ownBlock=some b->base<=b:=λb hb=>(World.ownsRow.lt h b hb).1
theorem Sl.made(w:World)(cs:List Value)(T sz n:Nat)(h:cs.length=n*sz)(hn:n<=9223372036854775807):Sl (w.alloc (.cells cs.toArray T)).cell? sz cs (.slice (some ⟨w.heap.size,0,none⟩) n n):=by refine⟨_,n,n,rfl,h,Nat.le_refl _,hn,(λe=>by cases e),Or.inr ⟨w.heap.size,0,rfl,λi hi=> ?_⟩⟩;rw[World.cell?_alloc_new];simp[hi]
variable{W:World}
theorem vd{w:World}(h:za w W)(S:Nat->Prop):(im S w).le W.cell? :=(zd S w).le_trans h.le
theorem zg(w:World)(o:Obj):(w.alloc o).heap[w.heap.size]? =some o:=heap_alloc_new w o
def Z9(w:World)(l:List UInt8)(v:Value):Prop:=Bs w.cell? l v
theorem Yf{P:Program}(w:World):∀(l:List UInt8) (b o:Nat) (acc:ByteArray),(∀i (h:i<l.length),w.cell? ⟨b,o+i,none⟩=some (.int .u8 l[i].toNat))->
  (Extern.Bytes.loadBytes ⟨b,o,none⟩ l.length acc).run P w=.ok ⟨acc.data++l.toArray⟩ w
 |[],b,o,acc,_=>by simp[Extern.Bytes.loadBytes]
 |x::l,b,o,acc,h=>by
  have h0:=h 0 (by simp);simp only[Nat.add_zero,List.getElem_cons_zero]at h0;have ih:=Yf (P:=P) w l b (o+1) (acc.push x) (λi hi=>by have:=h (i+1) (by simp;omega);simpa[Nat.add_assoc,Nat.add_comm 1 i]using this)
  have ha:(⟨b,o,none⟩:Addr).add 1=⟨b,o+1,none⟩:=by simp[Addr.add]
  have hx:((x.toNat:Int)).toNat.toUInt8=x:=by simp
  simp only[List.length_cons,Extern.Bytes.loadBytes,Sem.run_bind,run_load,h0,Result.andThen];rw[ha,hx,ih];simp[ByteArray.push]
theorem JC{w:World}{l:List UInt8}(h:Z9 w l v):(Extern.Bytes.bytesOf v).run P w=.ok ⟨l.toArray⟩ w:=by
 obtain⟨p,n,c,rfl,hl,_,_,_,h5⟩:=h;cases p with
 |none=>
  have:l=[]:=by
   rcases h5 with h5|⟨b,o,hp,_⟩
   ·exact List.eq_nil_of_length_eq_zero (by omega)
   ·cases hp
  subst this;rfl
 |some a=>
  rcases h5 with h5|⟨b,o,hp,hc⟩
  ·have:l=[]:=List.eq_nil_of_length_eq_zero (by omega);subst this;subst h5;rfl
  ·cases hp;have:=Yf (P:=P) w l b o .empty hc;rw[<-hl];simpa[Extern.Bytes.bytesOf]using this
theorem Wn(a b:List UInt8):Extern.BytealgCompare.cmp ⟨a.toArray⟩ ⟨b.toArray⟩=zt a b:=by
 have gen:∀(a b:List UInt8) (k:Nat),(∀i,(h:i<k)->a[i]? =b[i]?)->k<=a.length->k<=b.length->
   (match (List.range' k (min a.length b.length-k)).find? λi=>a[i]?.getD 0 !=b[i]?.getD 0 with
   |some i=>if a[i]?.getD 0<b[i]?.getD 0 then (-1:Int)else 1
   |none=>if a.length<b.length then -1 else if a.length>b.length then 1 else 0)=zt (a.drop k) (b.drop k):=by
  intro a b;have key:∀(d k:Nat),d=min a.length b.length-k->k<=a.length->k<=b.length->
   (match (List.range' k (min a.length b.length-k)).find? λi=>a[i]?.getD 0 !=b[i]?.getD 0 with
   |some i=>if a[i]?.getD 0<b[i]?.getD 0 then (-1:Int)else 1
   |none=>if a.length<b.length then -1 else if a.length>b.length then 1 else 0)=zt (a.drop k) (b.drop k):=by
   intro d
   induction d with
   |zero=>
    intro k hd ha hb;rw[<-hd];rcases Nat.lt_or_ge k a.length with h|h
    ·have hkb:k=b.length:=by omega
     rw[List.drop_eq_getElem_cons h];have e:b.drop k=[]:=by rw[hkb,List.drop_length]
     rw[e];simp only[List.range'_zero,List.find?_nil,zt];rw[if_neg (by omega),if_pos (by omega)]
    ·have hka:k=a.length:=by omega
     subst hka;rcases Nat.lt_or_ge a.length b.length with h'|h'
     ·rw[List.drop_eq_getElem_cons h',List.drop_length];simp only[List.range'_zero,List.find?_nil,zt];rw[if_pos (by omega)]
     ·have e:a.length=b.length:=by omega
      rw[List.drop_length,e,List.drop_length];simp[zt]
   |succ d ih=>
    intro k hd ha hb;have hka:k<a.length:=by omega
    have hkb:k<b.length:=by omega
    rw[<-hd,List.range'_succ,List.find?_cons];rw[List.drop_eq_getElem_cons hka,List.drop_eq_getElem_cons hkb];simp only[zt];by_cases he:a[k]=b[k]
    ·have e1:(a[k]?.getD 0 !=b[k]?.getD 0)=false:=by simp[hka,hkb,he]
     have hs:=ih (k+1) (by omega) (by omega) (by omega);rw[show d=min a.length b.length-(k+1)from by omega,e1];simp only[hs,he,UInt8.lt_irrefl,if_false]
    ·have e1:(a[k]?.getD 0 !=b[k]?.getD 0)=true:=by simp[hka,hkb,he]
     rw[e1];simp only[List.getElem?_eq_getElem hka,List.getElem?_eq_getElem hkb,Option.getD_some];by_cases hlt:a[k]<b[k]
     ·simp[hlt]
     ·have:b[k]<a[k]:=by
       rcases UInt8.lt_or_lt_of_ne he with h|h
       ·exact absurd h hlt
       ·exact h
      simp[hlt,this]
  intro k _ ha hb;exact key _ k rfl ha hb
 have h0:=gen a b 0 (by omega) (by omega) (by omega);simp only[List.drop_zero,Nat.sub_zero,<-List.range_eq_range']at h0;rw[<-h0];unfold Extern.BytealgCompare.cmp;have e:∀(l:List UInt8) (i:Nat),(ByteArray.mk l.toArray)[i]! =l[i]?.getD 0:=by
  intro l i;by_cases h:i<l.length
  ·rw[getElem!_pos _ i (by simpa[ByteArray.size]using h),List.getElem?_eq_getElem h];rfl
  ·rw[getElem!_neg _ i (by simpa[ByteArray.size]using h),List.getElem?_eq_none (by omega)];rfl
 simp only[e,ByteArray.size,List.size_toArray];split<;>rename_i h<;>simp only[h]
theorem Q7{l m:List UInt8}{u:Value}{w:World}(h1:Z9 w l v)(h2:Z9 w m u):
  (callFunc 117 #[v,u]).run prog w=.ok (.value (.int .i64 (zt l m))) w:=by
 rw[run_callFunc_extern (e:=Extern.BytealgCompare.compare) func117 (by kernel_rfl) (by kernel_rfl) (by kernel_rfl) (by kernel_rfl)];have e:(Extern.BytealgCompare.compare #[v,u]).run prog w=.ok (.int .i64 (zt l m)) w:=by change Sem.run prog (do let x<-Extern.Bytes.bytesOf v;let y<-Extern.Bytes.bytesOf u;pure (goInt (Extern.BytealgCompare.cmp x y))) w=_;simp only[Sem.run_bind,JC h1,JC h2,Result.andThen,Sem.run_pure,goInt,Wn]
 rw[e];rfl
theorem yb{l m:List UInt8}{u:Value}{w:World}(h1:Z9 w l v)(h2:Z9 w m u):
  Calls prog 104 #[v,u] w λe w'=>e=.returned (.int .i64 (zt l m))/\w=w':=by
 have hr:=Q7 h1 h2;clear h1 h2;go_enter func104,ntmps104;go_wp2;go_ret;exact⟨rfl,rfl⟩
theorem kO{l:List UInt8}{w:World}(h:Z9 w l v)(src e dst:TypeId)(hs:prog.underlying src=some (.slice e))(he:prog.underlying e=some (.int .u8))(hd:prog.underlying dst=some .string):
  (convert src dst v).run prog w=.ok (.string ⟨l.toArray⟩) w:=by
 obtain⟨p,n,c,rfl,hl,_,_,_,h5⟩:=h;have hn:strOfNums (l.map λx=>(x.toNat:Int))=⟨l.toArray⟩:=by unfold strOfNums;rw[List.map_map,show((λn:Int=>UInt8.ofNat n.toNat)∘λx:UInt8=>(x.toNat:Int))=id from by funext x;simp,List.map_id]
 have hz:n=0->(convert src dst (.slice p n c)).run prog w=.ok (.string ⟨l.toArray⟩) w:=by
  intro h0;have:l=[]:=List.eq_nil_of_length_eq_zero (by omega);subst this;subst h0;cases p with
  |none=>exact run_convert_bytes_nil w src e hs he _ _ dst hd
  |some a=>rw[run_convert_bytes_string w src dst e _ 0 c hs he hd,run_bytesToString w a 0 c [] (by rfl)];rfl
 rcases h5 with h5|⟨b,o,rfl,hc⟩
 ·exact hz h5
 ·rw[run_convert_bytes_arg (P:=prog) w src e hs he b o n c (l.map λx=>(x.toNat:Int)) (by simpa using hl) (λi hi=>by rw[hc i (by omega)];simp[List.getD,List.getElem?_eq_getElem (show i<l.length by omega)]) dst hd,hn]
theorem GV(l m:List UInt8):((⟨l.toArray⟩:ByteArray)==⟨m.toArray⟩)=(l==m):=by show(l.toArray==m.toArray)=_;simp
theorem qh{l m:List UInt8}{u:Value}{w:World}(h1:Z9 w l v)(h2:Z9 w m u):
  Calls prog 100 #[v,u] w λe w'=>e=.returned (.bool (l==m))/\w=w':=by
 have c1:=kO h1 75 5 9 (by kernel_rfl) (by kernel_rfl) (by kernel_rfl);have c2:=kO h2 75 5 9 (by kernel_rfl) (by kernel_rfl) (by kernel_rfl);clear h1 h2;go_enter func100,ntmps100;go_wp2;go_ret;rw[<-GV];exact⟨by simp,rfl⟩
abbrev Bytes:=List UInt8
theorem Jh:∀a:Bytes,zt a a=0
 |[]=>rfl
 |x::a=>by simp[zt,Jh a]
theorem ZE:∀a b:Bytes,zt a b= -1\/zt a b=0\/zt a b=1
 |[],[]=>by simp[zt]
 |[],_::_=>by simp[zt]
 |_::_,[]=>by simp[zt]
 |x::a,y::b=>by
  simp only[zt];by_cases h:x<y
  ·simp[h]
  ·by_cases h':y<x
   ·simp[h,h']
   ·simp only[h,h',if_false];exact ZE a b
theorem ZF:∀{a b:Bytes},zt a b=0->a=b
 |[],[],_=>rfl
 |[],_::_,h=>by simp[zt]at h
 |_::_,[],h=>by simp[zt]at h
 |x::a,y::b,h=>by
  simp only[zt]at h;by_cases h1:x<y
  ·simp[h1]at h
  ·by_cases h2:y<x
   ·simp[h1,h2]at h
   ·simp only[h1,h2,if_false]at h;have e:x=y:=by
     simp only[UInt8.lt_iff_toNat_lt]at h1 h2;exact UInt8.toNat_inj.1 (by omega)
    rw[e,ZF h]
theorem YJ:∀a b:Bytes,zt b a= -zt a b
 |[],[]=>rfl
 |[],_::_=>rfl
 |_::_,[]=>rfl
 |x::a,y::b=>by
  simp only[zt];by_cases h:x<y
  ·have: ¬y<x:=λh'=>by simp only[UInt8.lt_iff_toNat_lt]at h h';omega
   simp[h,this]
  ·by_cases h':y<x
   ·simp[h,h']
   ·simp only[h,h',if_false];exact YJ a b
theorem qM:∀{a b c:Bytes},zt a b<0->zt b c<0->zt a c<0
 |[],_,[],h1,h2=>by rename_i b;cases b<;>simp[zt]at h1 h2
 |[],_,_::_,_,_=>by simp[zt]
 |x::a,[],c,h1,_=>by simp[zt]at h1
 |x::a,y::b,[],_,h2=>by simp[zt]at h2
 |x::a,y::b,z::c,h1,h2=>by
  simp only[zt]at h1 h2⊢;simp only[UInt8.lt_iff_toNat_lt]at h1 h2⊢;by_cases e1:x.toNat<y.toNat
  ·by_cases e2:y.toNat<z.toNat
   ·rw[if_pos (by omega)];omega
   ·rw[if_neg e2]at h2;by_cases e3:z.toNat<y.toNat
    ·rw[if_pos e3]at h2;omega
    ·rw[if_pos (by omega)];omega
  ·rw[if_neg e1]at h1;by_cases e3:y.toNat<x.toNat
   ·rw[if_pos e3]at h1;omega
   ·rw[if_neg e3]at h1;by_cases e2:y.toNat<z.toNat
    ·rw[if_pos (by omega)];omega
    ·rw[if_neg e2]at h2;by_cases e4:z.toNat<y.toNat
     ·rw[if_pos e4]at h2;omega
     ·rw[if_neg e4]at h2;rw[if_neg (by omega),if_neg (by omega)];exact qM h1 h2
theorem zI(a:Bytes): ¬zt a a<0:=by rw[Jh];omega
theorem y9{a b:Bytes}(h:zt a b<0): ¬zt b a<0:=by rw[YJ];omega
theorem qJ(a b:Bytes):zt a b<0\/a=b\/zt b a<0:=by
 rcases ZE a b with h|h|h
 ·left;omega
 ·right;left;exact ZF h
 ·right;right;rw[YJ];omega
theorem vx{a b c:Bytes}(h1: ¬zt b a<0)(h2:zt b c<0):zt a c<0:=by
 rcases qJ a b with h|h|h
 ·exact qM h h2
 ·subst h;exact h2
 ·exact absurd h h1
theorem f_{a b c:Bytes}(h1:zt a b<0)(h2: ¬zt c b<0):zt a c<0:=by
 rcases qJ b c with h|h|h
 ·exact qM h1 h
 ·subst h;exact h1
 ·exact absurd h h2
def zM(ks:List Bytes):Prop:=ks.Pairwise λa b=>zt a b<0
def zk(ns:List Bytes)(x:Bytes):Nat:=(ns.takeWhile λy=>decide (zt y x<0)).length
theorem jr(ns:List Bytes)(x:Bytes):zk ns x<=ns.length:=by unfold zk;exact(List.takeWhile_sublist _).length_le
def zx(ns:List Bytes)(x:Bytes):Bool:=ns[zk ns x]? ==some x
theorem yU(y:Bytes)(ns:List Bytes)(x:Bytes):zk (y::ns) x=if zt y x<0 then zk ns x+1 else 0:=by unfold zk;rw[List.takeWhile_cons];by_cases h:zt y x<0<;>simp[h]
theorem vy:∀{ns:List Bytes} {x:Bytes} {i:Nat} (h:i<ns.length),i<zk ns x->zt ns[i] x<0
 |y::ns,x,i,h,hi=>by
  rw[yU]at hi;by_cases hy:zt y x<0
  ·rw[if_pos hy]at hi;cases i with
   |zero=>exact hy
   |succ i=>exact vy (ns:=ns) (by simpa using h) (by omega)
  ·rw[if_neg hy]at hi;omega
theorem jX:∀{ns:List Bytes} {x:Bytes} (h:zk ns x<ns.length),¬zt ns[zk ns x] x<0
 |[],_,h=>by simp at h
 |y::ns,x,h=>by
  by_cases hy:zt y x<0
  ·have e:zk (y::ns) x=zk ns x+1:=by rw[yU,if_pos hy]
   have h':zk ns x<ns.length:=by rw[e]at h;simpa using h
   have:=jX h';simpa[e]using this
  ·have e:zk (y::ns) x=0:=by rw[yU,if_neg hy]
   simpa[e]using hy
variable{ns:List Bytes}
theorem Ua(hr:zM ns){x:Bytes}{i:Nat}(h:i<ns.length)(hi:zk ns x<=i): ¬zt ns[i] x<0:=by
 have hp:zk ns x<ns.length:=by omega
 have h0:=jX hp;rcases Nat.lt_or_ge (zk ns x) i with hlt|hge
 ·have:=List.pairwise_iff_getElem.1 hr _ _ hp h hlt;exact λhc=>h0 (qM this hc)
 ·have e:zk ns x=i:=by omega
  simpa[<-e]using h0
theorem kU(hr:zM ns)(x:Bytes):zx ns x=true↔x∈ns:=by
 unfold zx;constructor
 ·intro h;have h':ns[zk ns x]? =some x:=by simpa using h
  exact List.mem_of_getElem? h'
 ·intro h;obtain⟨i,hi,rfl⟩:=List.getElem_of_mem h;have h1:zk ns ns[i]=i:=by
   rcases Nat.lt_trichotomy (zk ns ns[i]) i with h1|h1|h1
   ·have hp:zk ns ns[i]<ns.length:=by omega
    exact absurd (List.pairwise_iff_getElem.1 hr _ _ hp hi h1) (jX hp)
   ·exact h1
   ·exact absurd (vy hi h1) (zI _)
  simp[h1]
theorem zw{f:FuncId}{args:Array Value}{w:World}
  (h:Calls P f args (w.drewN n) λe w'=>e=.returned v/\w.drewN n=w'):Calls P f args (w.drewN n) λe w''=>e=.returned v/\∃m,w''=w.drewN m:=
 h.mono λ_ _ ⟨he,hm⟩=>⟨he,n,hm.symm⟩
theorem Z9.drewN{w:World}{l:List UInt8}(h:Z9 w l v)(n:Nat):Z9 (w.drewN n) l v:=h
theorem Wo(tx:Nat)(lp:Option Addr)(n c:Nat)(ns:List Bytes)(bk:Nat->Nat)(nv:Nat->Value)(x:Bytes)(xv:Value)(w:World)
  (hn:ns.length=n)(_hc:n<=9223372036854775807)
  (hl:w.cell? ⟨tx,3,none⟩=some (.slice lp n c))
  (hp:∀k,k<n->∃b o,lp=some ⟨b,o,none⟩/\w.cell? ⟨b,o+k,none⟩=some (.pointer (some ⟨bk k,0,none⟩)))
  (hv:∀k,k<n->w.cell? ⟨bk k,1,none⟩=some (nv k))
  (hb:∀k (h:k<ns.length),Z9 w ns[k] (nv k))(hx:Z9 w x xv):
  Calls prog 228 #[.pointer (some ⟨tx,0,none⟩),xv] w λe w'=>e=.returned (.tuple #[.int .i64 (zk ns x),.bool (zx ns x)])/\w=w':=by
 have HP:=hid hp;clear hp;have HV:=hid hv;clear hv;have HB:=hid hb;clear hb;have HX:=hid hx;clear hx;have HN:=hid hn;clear hn;go_enter func228,ntmps228;go_wp2;go_loop [6] (λi=>∃k:Nat,k<=n/\i=.int .i64 k/\k<=zk ns x) (λi=>n-(intOf i).toNat)
 case atStart=>exact⟨0,Nat.zero_le _,rfl,Nat.zero_le _⟩
 case round=>
  obtain⟨k,hk,rfl,hkp⟩:=hrel;by_cases hlt:k<n
  ·obtain⟨b,o,rfl,hbk⟩:=HP.out k hlt;have hvk:=HV.out k hlt;have hkn:k<ns.length:=by rw[HN.out];exact hlt
   have hbs:=hid (HB.out k hkn);by_cases hc:zt ns[k] x<0
   ·go_wp2_with (go_at_call 104;refine(yb hbs.out HX.out).mono ?_;rintro e w' ⟨rfl,rfl⟩);go_round
    case rel=>
     refine⟨k+1,by omega,by go_num,?_⟩;rcases Nat.lt_or_ge k (zk ns x)with h|h
     ·omega
     ·have e:zk ns x=k:=by omega
      have h0:=jX (ns:=ns) (x:=x) (by omega);exact absurd hc (by simpa[e]using h0)
    case measure=>simp[intOf];omega
   ·have hc':decide (zt ns[k] x<0)=false:=by simpa using hc
    have hpk:Hid (zk ns x=k):=by
     rcases Nat.lt_or_ge k (zk ns x)with h|h
     ·exact absurd (vy hkn h) hc
     ·show _=_;omega
    have hf:Hid (zx ns x=(ns[k]==x)):=by show zx ns x=_;unfold zx;rw[hpk.out,List.getElem?_eq_getElem hkn];simp
    go_wp2_with (first|(go_at_call 104;refine(yb hbs.out HX.out).mono ?_;rintro e w' ⟨rfl,rfl⟩)|(go_at_call 100;refine(qh hbs.out HX.out).mono ?_;rintro e w' ⟨rfl,rfl⟩));go_ret2;refine⟨?_,rfl⟩;rw[hf.out,hpk.out];rfl
  ·have hkn:k=n:=by omega
   have hpk:Hid (zk ns x=k):=by have:=jr ns x;rw[HN.out]at this;show _=_;omega
   have hf:Hid (zx ns x=false):=by show zx ns x=_;unfold zx;rw[hpk.out,List.getElem?_eq_none (by rw[HN.out];omega)];rfl
   clear hkn;go_wp2;go_ret2;refine⟨?_,rfl⟩;rw[hf.out,hpk.out];rfl
theorem X9(bk:Nat)(lp:Option Addr)(n c:Nat)(ks:List Bytes)(kv:Nat->Value)(x:Bytes)(xv:Value)(w:World)
  (hn:ks.length=n)(_hc:n<=4611686018427387904)(hr:zM ks)
  (hl:w.cell? ⟨bk,2,none⟩=some (.slice lp n c))
  (hp:∀k,k<n->∃b o,lp=some ⟨b,o,none⟩/\w.cell? ⟨b,o+k*2,none⟩=some (kv k))
  (hb:∀k (h:k<ks.length),Z9 w ks[k] (kv k))(hx:Z9 w x xv):
  Calls prog 329 #[.pointer (some ⟨bk,0,none⟩),xv] w λe w'=>e=.returned (.tuple #[.int .i64 (zk ks x),.bool (zx ks x)])/\∃m,w'=w.drewN m:=by
 have HP:=hid hp;clear hp;have HB:=hid hb;clear hb;have HX:=hid hx;clear hx;have HN:=hid hn;clear hn;have HR:=hid hr;clear hr;go_enter func329,ntmps329;go_wp2;go_quiet (fail);go_wp2;go_loop [6,7] (λi j=>∃a b:Nat,a<=zk ks x/\zk ks x<=b/\b<=n/\i=.int .i64 a/\j=.int .i64 b) (λi j=>(intOf j-intOf i).toNat)
 case atStart=>exact⟨0,n,Nat.zero_le _,by have:=jr ks x;rw[HN.out]at this;exact this,Nat.le_refl _,rfl,rfl⟩
 case round=>
  obtain⟨a,b,ha,hab,hbn,rfl,rfl⟩:=hrel;by_cases hlt:a<b
  ·obtain⟨k,e,hak,hkb⟩:∃k:Nat,((a:Int)+(b:Int))/2=(k:Int)/\a<=k/\k<b:=⟨(a+b)/2,by omega,by omega,by omega⟩;obtain⟨bb,o,rfl,hbk⟩:=HP.out k (by omega);have hkn:k<ks.length:=by rw[HN.out];omega
   have hbs:=hid (HB.out k hkn);by_cases hc:zt ks[k] x<0
   ·go_wp2_with (go_at_call 104;refine(yb (by exact hbs.out) (by exact HX.out)).mono ?_;rintro e w' ⟨rfl,rfl⟩);go_round
    case rel=>
     refine⟨k+1,b,?_,hab,hbn,by go_num,rfl⟩;rcases Nat.lt_or_ge k (zk ks x)with h|h
     ·omega
     ·exact absurd hc (Ua HR.out hkn h)
    case measure=>simp[intOf];omega
   ·go_wp2_with (go_at_call 104;refine(yb (by exact hbs.out) (by exact HX.out)).mono ?_;rintro e w' ⟨rfl,rfl⟩);go_round
    case rel=>
     refine⟨a,k,ha,?_,by omega,rfl,rfl⟩;rcases Nat.lt_or_ge k (zk ks x)with h|h
     ·have:=vy hkn h;omega
     ·exact h
    case measure=>simp[intOf];omega
  ·have hpa:Hid (zk ks x=a):=by show _=_;omega
   have hle:=jr ks x;by_cases han:a<n
   ·obtain⟨bb,o,rfl,hbk⟩:=HP.out a han;have hkn:a<ks.length:=by rw[HN.out];omega
    have hbs:=hid (HB.out a hkn);have hf:Hid (zx ks x=(ks[a]==x)):=by show zx ks x=_;unfold zx;rw[hpa.out,List.getElem?_eq_getElem hkn];simp
    go_wp2_with (go_at_call 100;refine(qh (by exact hbs.out) (by exact HX.out)).mono ?_;rintro e w' ⟨rfl,rfl⟩);go_ret2;refine⟨?_,_,rfl⟩;rw[hf.out,hpa.out];rfl
   ·have hf:Hid (zx ks x=false):=by
     show zx ks x=_;unfold zx;rw[hpa.out,List.getElem?_eq_none (by rw[HN.out];omega)];rfl
    go_wp2;go_ret2;refine⟨?_,_,rfl⟩;rw[hf.out,hpa.out];rfl
inductive qy{α β:Type}(R:α->β->Prop):List α->List β->Prop
 |nil:qy R [] []
 |cons {a b l m}:R a b->qy R l m->qy R (a::l) (b::m)
variable{α β:Type}
theorem qy.length{R:α->β->Prop}{l:List α}{m:List β}(h:qy R l m):l.length=m.length:=by
 induction h with
 |nil=>rfl
 |cons _ _ ih=>simp[ih]
theorem qy.get{R:α->β->Prop}{l:List α}{m:List β}(h:qy R l m):∀i (hi:i<l.length) (hj:i<m.length),R l[i] m[i]:=by
 induction h with
 |nil=>intro i hi;simp at hi
 |cons h0 _ ih=>
  intro i hi hj;cases i with
  |zero=>exact h0
  |succ i=>exact ih i (by simpa using hi) (by simpa using hj)
theorem qy.mono{R R':α->β->Prop}(hr:∀a b,R a b->R' a b){l:List α}{m:List β}(h:qy R l m):qy R' l m:=by
 induction h with
 |nil=>exact .nil
 |cons h0 _ ih=>exact .cons (hr _ _ h0) ih
theorem qy.append{R:α->β->Prop}{l l':List α}{m m':List β}(h:qy R l m)(h':qy R l' m'):qy R (l++l') (m++m'):=by
 induction h with
 |nil=>exact h'
 |cons h0 _ ih=>exact .cons h0 ih
theorem qy.take{R:α->β->Prop}{l:List α}{m:List β}(h:qy R l m):∀k,qy R (l.take k) (m.take k):=by
 induction h with
 |nil=>intro k;simpa using qy.nil
 |cons h0 _ ih=>intro k;cases k with
  |zero=>exact .nil
  |succ k=>exact .cons h0 (ih k)
theorem qy.drop{R:α->β->Prop}{l:List α}{m:List β}(h:qy R l m):∀k,qy R (l.drop k) (m.drop k):=by
 induction h with
 |nil=>intro k;simpa using qy.nil
 |cons h0 h1 ih=>intro k;cases k with
  |zero=>exact .cons h0 h1
  |succ k=>exact ih k
def qt(cs:List (Value×Value)):List Value:=cs.flatMap λc=>[c.1,c.2]
theorem yG(cs:List (Value×Value)):(qt cs).length=cs.length*2:=by
 induction cs with
 |nil=>rfl
 |cons c cs ih=>simp[qt]at ih⊢;omega
theorem vK(a b:List (Value×Value)):qt (a++b)=qt a++qt b:=by simp[qt]
theorem ZG(cs:List (Value×Value)):∀i,(qt cs)[i*2]? =(cs[i]?).map (·.1)/\(qt cs)[i*2+1]? =(cs[i]?).map (·.2):=by
 induction cs with
 |nil=>intro i;simp[qt]
 |cons c cs ih=>
  intro i;cases i with
  |zero=>simp[qt]
  |succ i=>
   have:=ih i;have e1:(i+1)*2=i*2+1+1:=by omega
   simp only[qt,List.flatMap_cons,List.cons_append,List.nil_append]at this⊢;rw[e1];simpa using this
theorem JD(cs:List (Value×Value)):∀k,(qt cs).take (k*2)=qt (cs.take k):=by
 induction cs with
 |nil=>intro k;simp[qt]
 |cons c cs ih=>
  intro k;cases k with
  |zero=>simp[qt]
  |succ k=>
   have:=ih k;have e1:(k+1)*2=k*2+1+1:=by omega
   simp only[qt,List.flatMap_cons,List.cons_append,List.nil_append,List.take_succ_cons]at this⊢;rw[e1];simpa using this
theorem JE(cs:List (Value×Value)):∀k,(qt cs).drop (k*2)=qt (cs.drop k):=by
 induction cs with
 |nil=>intro k;simp[qt]
 |cons c cs ih=>
  intro k;cases k with
  |zero=>simp[qt]
  |succ k=>
   have:=ih k;have e1:(k+1)*2=k*2+1+1:=by omega
   simp only[qt,List.flatMap_cons,List.cons_append,List.nil_append,List.drop_succ_cons]at this⊢;rw[e1];simpa using this
abbrev yu:=List (Bytes×Bytes)
def yV(r:Rd)(ps:yu)(v:Value):Prop:=
 ∃cs:List (Value×Value),Sl r 2 (qt cs) v/\qy (λ(p:Bytes×Bytes) (c:Value×Value)=>Bs r p.1 c.1/\Bs r p.2 c.2) ps cs
variable{ps:yu}
theorem yV.mono(hr:r.le r')(h:yV r ps v):yV r' ps v:=by obtain⟨cs,h1,h2⟩:=h;exact⟨cs,h1.mono hr,h2.mono λ_ _ ⟨a,b⟩=>⟨a.mono hr,b.mono hr⟩⟩
def zJ(ps:yu):List Bytes:=ps.map (·.1)
def yj(ps:yu)(k v:Bytes):yu:=
 ps.take (zk (zJ ps) k)++[(k,v)]++ps.drop (zk (zJ ps) k+if zx (zJ ps) k then 1 else 0)
def js(ps:yu)(k:Bytes):yu:=
 if zx (zJ ps) k then ps.take (zk (zJ ps) k)++ps.drop (zk (zJ ps) k+1)else ps
theorem yV.at(h:yV r ps v):∃(p:Option Addr) (n c:Nat) (kv vv:Nat->Value),v=.slice p n c/\ps.length=n/\n<=c/\c<=9223372036854775807/\(p=none->c=0)/\
  ∀k,k<n->∃b o,p=some ⟨b,o,none⟩/\r ⟨b,o+k*2,none⟩=some (kv k)/\r ⟨b,o+k*2+1,none⟩=some (vv k)/\∃h:k<ps.length,Bs r ps[k].1 (kv k)/\Bs r ps[k].2 (vv k):=by
 obtain⟨cs,⟨p,n,c,rfl,hl,hn,hc,hp,hcells⟩,ha⟩:=h;have hlen:=ha.length;rw[yG]at hl;refine⟨p,n,c,λk=>(cs.getD k (.nilIface,.nilIface)).1,λk=>(cs.getD k (.nilIface,.nilIface)).2,rfl,by omega,hn,hc,hp,λk hk=> ?_⟩;have hkc:k<cs.length:=by omega
 rcases hcells with h0|⟨b,o,rfl,hcc⟩
 ·have:=yG cs;rw[h0]at this;simp at this;omega
 ·have g1:=(ZG cs k).1;have g2:=(ZG cs k).2;have l2:=yG cs;rw[List.getElem?_eq_getElem (by omega)]at g1 g2;simp only[List.getElem?_eq_getElem hkc,Option.map_some,Option.some.injEq]at g1 g2;refine⟨b,o,rfl,?_,?_,by omega,?_⟩
  ·rw[hcc (k*2) (by omega),g1];simp[List.getD,List.getElem?_eq_getElem hkc]
  ·rw[Nat.add_assoc,hcc (k*2+1) (by omega),g2];simp[List.getD,List.getElem?_eq_getElem hkc]
  ·have:=ha.get k (by omega) hkc;simpa[List.getD,List.getElem?_eq_getElem hkc]using this
variable{bk:Nat}{pv xv:Value}
theorem xZ{x:Bytes}{w:World}(hr:r.le w.cell?)(hp:yV r ps pv)(hri:zM (zJ ps))(hsm:ps.length<=4611686018427387904)
  (hl:w.cell? ⟨bk,2,none⟩=some pv)(hx:Bs r x xv):
  Calls prog 329 #[.pointer (some ⟨bk,0,none⟩),xv] w λe w'=>e=.returned (.tuple #[.int .i64 (zk (zJ ps) x),.bool (zx (zJ ps) x)])/\∃m,w'=w.drewN m:=by
 obtain⟨p,n,c,kv,vv,rfl,hlen,hn,hc,hpc,hat⟩:=hp.at
 refine X9 bk p n c (zJ ps) kv x xv w (by simpa[zJ]using hlen) (by omega) hri hl (λk hk=> ?_) (λk hk=> ?_) (hx.mono hr)
 ·obtain⟨b,o,e,h1,_⟩:=hat k hk;exact⟨b,o,e,hr _ _ h1⟩
 ·have hk':k<ps.length:=by simpa[zJ]using hk
  obtain⟨b,o,e,_,_,_,h2,_⟩:=hat k (by omega);have:(zJ ps)[k]=ps[k].1:=by simp[zJ]
  rw[this];exact h2.mono hr
theorem jD:yB prog 75 5 (.int .u8 0) 1 1:=⟨by kernel_rfl,by kernel_rfl,rfl,by decide⟩
theorem kE:yB prog 323 450 (.agg #[.slice none 0 0,.slice none 0 0]) 2 48:=⟨by kernel_rfl,by kernel_rfl,rfl,by decide⟩
theorem Qg{cs:List (Value×Value)}(h:qy (λ(p:Bytes×Bytes) (c:Value×Value)=>Bs r p.1 c.1/\Bs r p.2 c.2) ps cs):∀u∈qt cs,u.oneCell'=true:=by
 induction h with
 |nil=>intro u hu;simp[qt]at hu
 |cons h0 _ ih=>
  intro u hu;simp only[qt,List.flatMap_cons,List.cons_append,List.nil_append,List.mem_cons]at hu;rcases hu with rfl|rfl|hu
  ·obtain⟨p,n,c,e,_⟩:=h0.1.shape;rw[e];rfl
  ·obtain⟨p,n,c,e,_⟩:=h0.2.shape;rw[e];rfl
  ·exact ih u hu
variable{kv nv vv:Value}{tx:Nat}
theorem Ub{fp:Value}{k v:Bytes}{w:World}(T:Nat)(hS:∀b,S b->b<w.heap.size)(hSb:S bk)
  (hp:yV (im S w) ps pv)(hri:zM (zJ ps))(hsm:ps.length<=1000000)
  (hb:w.heap[bk]? =some (.cells #[.pointer (some ⟨tx,0,none⟩),nv,pv,fp] T (0,0)))(hw:w.cell? ⟨tx,1,none⟩=some (.bool true))
  (hk:Bs (im S w) k kv)(hv:Bs (im S w) v vv)(hk0:k≠[])(hkl:k.length<=1000000)(hvl:v.length<=100000000):
  Calls prog 344 #[.pointer (some ⟨bk,0,none⟩),kv,vv] w λe w'=>e=.returned .nilIface/\
   ∃pv',w'.heap[bk]? =some (.cells #[.pointer (some ⟨tx,0,none⟩),nv,pv',fp] T (0,0))/\zo (· =bk) w w'/\yV (im S w') (yj ps k v) pv':=by
 obtain⟨kp,kn,kc,rfl,hkn⟩:=hk.shape;have hpos:0<kn:=by
  rcases Nat.eq_zero_or_pos kn with h|h
  ·exact absurd (List.eq_nil_of_length_eq_zero (by omega)) hk0
  ·exact h
 have c0:w.cell? ⟨bk,0,none⟩=some (.pointer (some ⟨tx,0,none⟩)):=by rw[cell_of_row w bk 0 _ T (0,0) hb];rfl
 have c2:w.cell? ⟨bk,2,none⟩=some pv:=by rw[cell_of_row w bk 2 _ T (0,0) hb];rfl
 have f2:w.frozen? ⟨bk,2,none⟩=false:=by simp[World.frozen?,hb]
 have hg:((kn:Int)==0)=false:=by simp;omega
 have hbl:bk<w.heap.size:=World.block_lt_of_cell? w _ c2;have HS:=hid hS;clear hS;obtain⟨cs,hsl,hall⟩:=id hp;have hlen:=hall.length;have hcl:=yG cs;have hone:=Qg hall;obtain⟨i,hi⟩:∃i,zk (zJ ps) k=i:=⟨_,rfl⟩;obtain⟨d,hd⟩:∃d,zx (zJ ps) k=d:=⟨_,rfl⟩;have hile:i<=ps.length:=by rw[<-hi];simpa[zJ]using jr (zJ ps) k
 have hput:yj ps k v=ps.take i++[(k,v)]++ps.drop (i+if d then 1 else 0):=by unfold yj;rw[hi,hd]
 have hdlt:d=true->i<ps.length:=by
  intro h;rw[h]at hd;unfold zx at hd;rw[hi]at hd;rcases Nat.lt_or_ge i ps.length with h'|h'
  ·exact h'
  ·rw[List.getElem?_eq_none (by simpa[zJ]using h')]at hd;simp at hd
 obtain⟨s1,hs1r,hs1⟩:=YI kE hsl i (by omega);have HPL:=hid (xZ (w:=w) (zd _ _) hp hri (by omega) c2 hk);rw[hi,hd]at HPL;have HK:=hid hk;clear hk;have HV:=hid hv;clear hv;have HB:=hid hb;clear hb;have HKN:=hid hkn;clear hkn;have HSL:=hid hsl;clear hsl;have HA:=hid hall;clear hall;have HONE:=hid hone;clear hone;have HI:=hid hi;clear hi;have HD:=hid hd;clear hd;have HPUT:=hid hput;clear hput;have HS1:=hid hs1;clear hs1;have HLEN:=hid hlen;clear hlen;have HCL:=hid hcl;clear hcl;clear hp hri;go_enter func344,ntmps344;go_wp2_with fail;refine HPL.out.mono ?_;rintro e w' ⟨rfl,m,rfl⟩;clear HPL;go_wp2_with (at_builtin;go_must (refine ql (w0:=w) jD rfl rfl (((za.refl w).drewN m).alloc _) (vJ (Nat.le_refl _) (zg _ _)) rfl rfl ((HK.out.mono (vd (((za.refl w).drewN m).alloc _) _)).sl) (jH _) (by simp;omega) ?_));intro v1 w1 ho1 hn1 hg1 hv1;have HN1:=hid hn1
 have HV1:=hid ((Bs.of_sl hv1).im_of (S:=S) λb hb e=>by have:=HS.out b e;have:=Jg ho1 b hb;omega);clear ho1 hg1;obtain⟨a1,n1,b1,rfl⟩:=hv1.shape;clear hv1 hn1;go_wp2_with (at_builtin;go_must (refine ql (w0:=w1) jD rfl rfl ((za.refl w1).alloc _) (vJ (Nat.le_refl _) (zg _ _)) rfl rfl ((HV.out.mono (vd (HN1.out.alloc _) _)).sl) (jH _) (by simp;omega) ?_));intro v2 w2 ho2 hn2 hg2 hv2;have HN2:=hid hn2;have HV2:=hid ((Bs.of_sl hv2).im_of (S:=S) λb hb e=>by have:=HS.out b e;have:=Jg ho2 b hb;have:=HN1.out.size;omega);clear ho2 hg2;obtain⟨a2,n2,b2,rfl⟩:=hv2.shape;clear hv2 hn2;have c2':w2.cell? ⟨bk,2,none⟩=some pv:=(HN1.out.trans HN2.out).le _ _ c2;have hlt2:bk<w2.heap.size:=World.block_lt_of_cell? w2 _ c2'
 go_wp2_with (at_builtin;go_must (refine ql (w0:=w2) kE rfl rfl ((za.refl w2).alloc _) (World.ownsRow_nil _ _ _ _) rfl rfl (HS1.out.mono (vd ((HN1.out.trans HN2.out).alloc _) _)) (λu hu=>HONE.out u (List.mem_of_mem_take hu)) (by have:=HCL.out;have:=HLEN.out;simp;omega) ?_));intro v3 w3 m3 hm3 ho3 hn3 hg3 hv3;have HN3:=hid hn3;have p0:w3.cell? ⟨w2.heap.size,0,none⟩=some (.slice a1 n1 b1):=hg3.cell (by rw[World.cell?_alloc_new];rfl) (by simp[Value.ownBlock]);have p1:w3.cell? ⟨w2.heap.size,1,none⟩=some (.slice a2 n2 b2):=hg3.cell (by rw[World.cell?_alloc_new];rfl) (by simp[Value.ownBlock]);have HO3:=hid ho3;have HM3:=hid hm3;clear hv3 hn3 hg3 ho3 hm3
 go_wp2_with (at_builtin;go_must (refine ql (w0:=w2) kE rfl rfl (HN3.out.alloc _) (World.ownsRow.alloc HO3.out _) rfl rfl (Sl.made w3 [Value.slice a1 n1 b1,Value.slice a2 n2 b2] _ 2 1 rfl (by omega)) (by intro u hu;simp only[List.mem_cons,List.not_mem_nil,or_false]at hu;rcases hu with rfl|rfl<;>rfl) (by have:=HCL.out;have:=HLEN.out;simp;omega) ?_));intro v4 w4 m4 hm4 ho4 hn4 hg4 hv4;have HN4:=hid hn4;have HO4:=hid ho4;have HM4:=hid hm4;have c4:w4.cell? ⟨bk,2,none⟩=some pv:=hn4.le _ _ c2';have f4:w4.frozen? ⟨bk,2,none⟩=false:=by rw[World.frozen?_of_block (w:=w) ((HN1.out.trans (HN2.out.trans HN4.out)).block bk (World.block_lt_of_cell? w _ c2) (λe=>e))];exact f2
 clear hv4 hn4 hg4 ho4 hm4 p0 p1 c2';obtain⟨j,hj,hjl⟩:∃j,i+(if d then 1 else 0)=j/\j<=ps.length:=⟨_,rfl,by cases d with|true=>have:=hdlt rfl;simp;omega|false=>simp;omega⟩;obtain⟨s2,hs2r,hs2⟩:=k_ kE HSL.out j (by have:=HCL.out;have:=HLEN.out;omega);have HS2:=hid hs2;clear hs2;have hfin:∀v5 w5 nn,w5.ownsRow w2.heap.size 450 2 v5 nn ((qt cs).take (i*2)++Value.slice a1 n1 b1::Value.slice a2 n2 b2::(qt cs).drop (j*2))->za w2 w5->
   ∃pv',(w5.setCell ⟨bk,2,none⟩ v5).heap[bk]? =some (.cells #[.pointer (some ⟨tx,0,none⟩),nv,pv',fp] T (0,0))/\zo (· =bk) w (w5.setCell ⟨bk,2,none⟩ v5)/\yV (im S (w5.setCell ⟨bk,2,none⟩ v5)) (yj ps k v) pv':=by
  intro v5 w5 nn ho5 hn5;have hN5:za w w5:=(HN1.out.trans HN2.out).trans hn5;have hM:zo (· =bk) w5 (w5.setCell ⟨bk,2,none⟩ v5):=zo.setCell (S:=(· =bk)) (zo.refl _ w5) (λ_=>rfl) _;have hM0:zo (· =bk) w (w5.setCell ⟨bk,2,none⟩ v5):=zo.setCell (S:=(· =bk)) (hN5.mod _) (λ_=>rfl) _;refine⟨v5,?_,hM0,?_⟩
  ·have:=hN5.heap HB.out;simp only[World.setCell,Array.getElem?_modify,if_true,this,Option.map_some];rfl
  ·refine⟨cs.take i++[(.slice a1 n1 b1,.slice a2 n2 b2)]++cs.drop j,?_,?_⟩
   ·have h5:Sl w5.cell? 2 (qt (cs.take i++[(Value.slice a1 n1 b1,Value.slice a2 n2 b2)]++cs.drop j)) v5:=by
     have:=Sl.of_own ho5;rw[vK,vK,<-JD,<-JE,List.append_assoc];exact this
    exact(h5.im_of (S:=S) λb hb e=>by have:=HS.out b e;have:=Jg ho5 b hb;have:=HN1.out.size;have:=HN2.out.size;omega).mono ((hM.mono (S':=S) λ_ _ e=>by rw[e];exact hSb).im λ_ _ h=>h)
   ·rw[HPUT.out,hj];have hold:=HA.out.mono (R':=λ(p:Bytes×Bytes) (c:Value×Value)=>Bs (im S (w5.setCell ⟨bk,2,none⟩ v5)) p.1 c.1/\Bs (im S (w5.setCell ⟨bk,2,none⟩ v5)) p.2 c.2) λ_ _ h=>⟨h.1.mono ((hM0.mono (S':=S) λ_ _ e=>by rw[e];exact hSb).im λ_ _ h=>h),h.2.mono ((hM0.mono (S':=S) λ_ _ e=>by rw[e];exact hSb).im λ_ _ h=>h)⟩;refine((hold.take i).append (.cons ⟨?_,?_⟩ .nil)).append (hold.drop j)
    ·exact HV1.out.mono (((HN2.out.trans hn5).im _).le_trans ((hM.mono (S':=S) λ_ _ e=>by rw[e];exact hSb).im λ_ _ h=>h))
    ·exact HV2.out.mono ((hn5.im _).le_trans ((hM.mono (S':=S) λ_ _ e=>by rw[e];exact hSb).im λ_ _ h=>h))
 have HFIN:=hid hfin;clear hfin;have HJ:=hid hj;clear hj;have HDLT:=hid hdlt;clear hdlt;cases d with
 |true=>
  have ej:((j:Nat):Int)=(i:Int)+1:=by have:=HJ.out;simp at this;omega
  rw[ej]at hs2r;clear ej;go_wp2_with (at_builtin;go_must (refine ql (w0:=w2) kE rfl rfl HN4.out HO4.out rfl rfl (HS2.out.mono (vd ((HN1.out.trans HN2.out).trans HN4.out) _)) (λu hu=>HONE.out u (List.mem_of_mem_drop hu)) (by have:=HCL.out;have:=HLEN.out;simp;omega) ?_));intro v5 w5 m5 hm5 ho5 hn5 hg5 hv5;have HF:=hid (HFIN.out v5 w5 _ ho5 hn5);have c5:w5.cell? ⟨bk,2,none⟩=some pv:=((HN1.out.trans HN2.out).trans hn5).le _ _ c2;have f5:w5.frozen? ⟨bk,2,none⟩=false:=by rw[World.frozen?_of_block (w:=w) (((HN1.out.trans HN2.out).trans hn5).block bk hbl (λe=>e))];exact f2
  obtain⟨a5,n5,b5,rfl⟩:=hv5.shape;clear hm5 ho5 hn5 hg5 hv5;go_wp2;go_ret;exact⟨rfl,HF.out⟩
 |false=>
  have ej:((j:Nat):Int)=(i:Int):=by have:=HJ.out;simp at this;omega
  rw[ej]at hs2r;clear ej;go_wp2_with (at_builtin;go_must (refine ql (w0:=w2) kE rfl rfl HN4.out HO4.out rfl rfl (HS2.out.mono (vd ((HN1.out.trans HN2.out).trans HN4.out) _)) (λu hu=>HONE.out u (List.mem_of_mem_drop hu)) (by have:=HCL.out;have:=HLEN.out;simp;omega) ?_));intro v5 w5 m5 hm5 ho5 hn5 hg5 hv5;have HF:=hid (HFIN.out v5 w5 _ ho5 hn5);have c5:w5.cell? ⟨bk,2,none⟩=some pv:=((HN1.out.trans HN2.out).trans hn5).le _ _ c2;have f5:w5.frozen? ⟨bk,2,none⟩=false:=by rw[World.frozen?_of_block (w:=w) (((HN1.out.trans HN2.out).trans hn5).block bk hbl (λe=>e))];exact f2
  obtain⟨a5,n5,b5,rfl⟩:=hv5.shape;clear hm5 ho5 hn5 hg5 hv5;go_wp2;go_ret;exact⟨rfl,HF.out⟩
theorem V0{fp:Value}{k:Bytes}{w:World}(T:Nat)(hS:∀b,S b->b<w.heap.size)(hSb:S bk)
  (hp:yV (im S w) ps pv)(hri:zM (zJ ps))(hsm:ps.length<=1000000)
  (hb:w.heap[bk]? =some (.cells #[.pointer (some ⟨tx,0,none⟩),nv,pv,fp] T (0,0)))(hw:w.cell? ⟨tx,1,none⟩=some (.bool true))
  (hk:Bs (im S w) k kv):
  Calls prog 341 #[.pointer (some ⟨bk,0,none⟩),kv] w λe w'=>e=.returned .nilIface/\
   ∃pv',w'.heap[bk]? =some (.cells #[.pointer (some ⟨tx,0,none⟩),nv,pv',fp] T (0,0))/\zo (· =bk) w w'/\yV (im S w') (js ps k) pv':=by
 have c0:w.cell? ⟨bk,0,none⟩=some (.pointer (some ⟨tx,0,none⟩)):=by rw[cell_of_row w bk 0 _ T (0,0) hb];rfl
 have c2:w.cell? ⟨bk,2,none⟩=some pv:=by rw[cell_of_row w bk 2 _ T (0,0) hb];rfl
 have f2:w.frozen? ⟨bk,2,none⟩=false:=by simp[World.frozen?,hb]
 have hbl:bk<w.heap.size:=World.block_lt_of_cell? w _ c2;have HS:=hid hS;clear hS;obtain⟨cs,hsl,hall⟩:=id hp;have hlen:=hall.length;have hcl:=yG cs;have hone:=Qg hall;obtain⟨i,hi⟩:∃i,zk (zJ ps) k=i:=⟨_,rfl⟩;obtain⟨d,hd⟩:∃d,zx (zJ ps) k=d:=⟨_,rfl⟩;have hile:i<=ps.length:=by rw[<-hi];simpa[zJ]using jr (zJ ps) k
 have hput:js ps k=if d=true then ps.take i++ps.drop (i+1)else ps:=by unfold js;rw[hi,hd]
 have hdlt:d=true->i<ps.length:=by
  intro h;rw[h]at hd;unfold zx at hd;rw[hi]at hd;rcases Nat.lt_or_ge i ps.length with h'|h'
  ·exact h'
  ·rw[List.getElem?_eq_none (by simpa[zJ]using h')]at hd;simp at hd
 obtain⟨s1,hs1r,hs1⟩:=YI kE hsl i (by omega);have HPL:=hid (xZ (w:=w) (zd _ _) hp hri (by omega) c2 hk);rw[hi,hd]at HPL;cases d with
 |false=>
  have HFIN:=hid (show∀m:Nat,∃pv',(w.drewN m).heap[bk]? =some (.cells #[.pointer (some ⟨tx,0,none⟩),nv,pv',fp] T (0,0))/\zo (· =bk) w (w.drewN m)/\yV (im S (w.drewN m)) (js ps k) pv' from
   λm=>⟨pv,hb,zo.drewN (zo.refl _ w) m,by rw[hput];exact hp.mono ((zo.drewN (zo.refl S w) m).im λ_ _ h=>h)⟩)
  clear hp hri hk hsl hall hone hput hdlt hs1 hs1r hi hd hlen hcl hb;go_enter func341,ntmps341;go_wp2_with fail;refine HPL.out.mono ?_;rintro e w' ⟨rfl,m,rfl⟩;clear HPL;go_wp2;go_ret;exact⟨rfl,HFIN.out m⟩
 |true=>
  have hil:=hdlt rfl;obtain⟨s2,hs2r,hs2⟩:=k_ kE hsl (i+1) (by omega);have ej:((i+1:Nat):Int)=(i:Int)+1:=by omega
  rw[ej]at hs2r;clear ej;have HB:=hid hb;clear hb;have HA:=hid hall;clear hall;have HONE:=hid hone;clear hone;have HPUT:=hid hput;clear hput;have HS1:=hid hs1;clear hs1;have HS2:=hid hs2;clear hs2;have HLEN:=hid hlen;clear hlen;have HCL:=hid hcl;clear hcl;clear hp hri hk hsl hdlt hi hd;have hfin:∀v5 w5 nn,w5.ownsRow w.heap.size 450 2 v5 nn ((qt cs).take (i*2)++(qt cs).drop ((i+1)*2))->za w w5->
    ∃pv',(w5.setCell ⟨bk,2,none⟩ v5).heap[bk]? =some (.cells #[.pointer (some ⟨tx,0,none⟩),nv,pv',fp] T (0,0))/\zo (· =bk) w (w5.setCell ⟨bk,2,none⟩ v5)/\yV (im S (w5.setCell ⟨bk,2,none⟩ v5)) (js ps k) pv':=by
   intro v5 w5 nn ho5 hN5;have hM:zo (· =bk) w5 (w5.setCell ⟨bk,2,none⟩ v5):=zo.setCell (S:=(· =bk)) (zo.refl _ w5) (λ_=>rfl) _;have hM0:zo (· =bk) w (w5.setCell ⟨bk,2,none⟩ v5):=zo.setCell (S:=(· =bk)) (hN5.mod _) (λ_=>rfl) _;refine⟨v5,?_,hM0,?_⟩
   ·have:=hN5.heap HB.out;simp only[World.setCell,Array.getElem?_modify,if_true,this,Option.map_some];rfl
   ·refine⟨cs.take i++cs.drop (i+1),?_,?_⟩
    ·have h5:Sl w5.cell? 2 (qt (cs.take i++cs.drop (i+1))) v5:=by
      have:=Sl.of_own ho5;rw[vK,<-JD,<-JE];exact this
     exact(h5.im_of (S:=S) λb hb e=>by have:=HS.out b e;have:=Jg ho5 b hb;omega).mono ((hM.mono (S':=S) λ_ _ e=>by rw[e];exact hSb).im λ_ _ h=>h)
    ·rw[HPUT.out,if_pos rfl];have hold:=HA.out.mono (R':=λ(p:Bytes×Bytes) (c:Value×Value)=>Bs (im S (w5.setCell ⟨bk,2,none⟩ v5)) p.1 c.1/\Bs (im S (w5.setCell ⟨bk,2,none⟩ v5)) p.2 c.2) λ_ _ h=>⟨h.1.mono ((hM0.mono (S':=S) λ_ _ e=>by rw[e];exact hSb).im λ_ _ h=>h),h.2.mono ((hM0.mono (S':=S) λ_ _ e=>by rw[e];exact hSb).im λ_ _ h=>h)⟩;exact(hold.take i).append (hold.drop (i+1))
  have HFIN:=hid hfin;clear hfin;go_enter func341,ntmps341;go_wp2_with fail;refine HPL.out.mono ?_;rintro e w' ⟨rfl,m,rfl⟩;clear HPL;go_wp2_with (at_builtin;go_must (refine ql (w0:=w) kE rfl rfl ((za.refl w).drewN m) (World.ownsRow_nil _ _ _ _) rfl rfl (HS1.out.mono (vd ((za.refl w).drewN m) _)) (λu hu=>HONE.out u (List.mem_of_mem_take hu)) (by have:=HCL.out;have:=HLEN.out;simp;omega) ?_));intro v3 w3 m3 hm3 ho3 hn3 hg3 hv3;have HN3:=hid hn3;have HO3:=hid ho3;have c3:w3.cell? ⟨bk,2,none⟩=some pv:=hn3.le _ _ c2;clear hv3 hn3 hg3 ho3 hm3;go_wp2_with (at_builtin;go_must (refine ql (w0:=w) kE rfl rfl HN3.out HO3.out rfl rfl (HS2.out.mono (vd HN3.out _)) (λu hu=>HONE.out u (List.mem_of_mem_drop hu)) (by have:=HCL.out;have:=HLEN.out;simp;omega) ?_));intro v5 w5 m5 hm5 ho5 hn5 hg5 hv5;have HF:=hid (HFIN.out v5 w5 _ ho5 hn5);have c5:w5.cell? ⟨bk,2,none⟩=some pv:=hn5.le _ _ c2
  have f5:w5.frozen? ⟨bk,2,none⟩=false:=by rw[World.frozen?_of_block (w:=w) (hn5.block bk hbl (λe=>e))];exact f2
  obtain⟨a5,n5,b5,rfl⟩:=hv5.shape;clear hm5 ho5 hn5 hg5 hv5;go_wp2;go_ret;exact⟨rfl,HF.out⟩
variable{a cc:Nat}
theorem KB{p:Option Addr}{o:Nat}{w:World}(h:a<n)(_hn:n<=9223372036854775807)
  (h0:w.cell? ⟨cc,0,none⟩=some (.slice (some ⟨b,o,none⟩) n c))(h1:w.cell? ⟨cc,1,none⟩=some (.int .i64 a))(_hp:p=some ⟨b,o,none⟩)
  (hk:w.cell? ⟨b,o+a*2,none⟩=some kv)(hv:w.cell? ⟨b,o+a*2+1,none⟩=some vv):
  Calls prog 327 #[.pointer (some ⟨cc,0,none⟩)] w λe w'=>e=.returned (.tuple #[kv,vv])/\∃m,w'=w.drewN m:=by
 have hi:(a:Int)<(n:Int):=by omega
 have hge:decide ((n:Int)<=(a:Int))=false:=by simp;omega
 go_enter func327,ntmps327;go_wp2;go_quiet (fail);go_wp2;go_quiet (fail);go_wp2;go_ret2;exact⟨rfl,_,by rw[World.drewN_drewN]⟩
theorem J2{p:Option Addr}{w:World}(h:n<=a)
  (h0:w.cell? ⟨cc,0,none⟩=some (.slice p n c))(h1:w.cell? ⟨cc,1,none⟩=some (.int .i64 a)):
  Calls prog 327 #[.pointer (some ⟨cc,0,none⟩)] w λe w'=>e=.returned (.tuple #[.slice none 0 0,.slice none 0 0])/\∃m,w'=w.drewN m:=by
 have hge:decide ((n:Int)<=(a:Int))=true:=by simp;omega
 go_enter func327,ntmps327;go_wp2;go_quiet (fail);go_wp2;go_ret2;exact⟨rfl,_,rfl⟩
def jE(n:Nat)(f:Nat->Value)(a:Nat):Value:=if a<n then f a else .slice none 0 0
theorem JF{p:Option Addr}{kv vv:Nat->Value}{w:World}(_hn:n<=9223372036854775807)
  (h0:w.cell? ⟨cc,0,none⟩=some (.slice p n c))(h1:w.cell? ⟨cc,1,none⟩=some (.int .i64 a))(hr:r.le w.cell?)
  (hat:∀k,k<n->∃b o,p=some ⟨b,o,none⟩/\r ⟨b,o+k*2,none⟩=some (kv k)/\r ⟨b,o+k*2+1,none⟩=some (vv k)):
  Calls prog 327 #[.pointer (some ⟨cc,0,none⟩)] w λe w'=>e=.returned (.tuple #[jE n kv a,jE n vv a])/\∃m,w'=w.drewN m:=by
 unfold jE;by_cases h:a<n
 ·obtain⟨b,o,rfl,hk,hv⟩:=hat a h;rw[if_pos h,if_pos h];exact KB h _hn h0 h1 rfl (hr _ _ hk) (hr _ _ hv)
 ·rw[if_neg h,if_neg h];exact J2 (by omega) h0 h1
theorem dP{p:Option Addr}{kv vv:Nat->Value}{w:World}(_hn:n<=9223372036854775807)(_ha:a<=9000000000000000000)
  (h0:w.cell? ⟨cc,0,none⟩=some (.slice p n c))(h1:w.cell? ⟨cc,1,none⟩=some (.int .i64 a))(hf:w.frozen? ⟨cc,1,none⟩=false)
  (hr:r.le (w.setCell ⟨cc,1,none⟩ (.int .i64 ((a+1:Nat):Int))).cell?)
  (hat:∀k,k<n->∃b o,p=some ⟨b,o,none⟩/\r ⟨b,o+k*2,none⟩=some (kv k)/\r ⟨b,o+k*2+1,none⟩=some (vv k)):
  Calls prog 303 #[.pointer (some ⟨cc,0,none⟩)] w λe w'=>e=.returned (.tuple #[jE n kv (a+1),jE n vv (a+1)])/\∃m,w'=(w.setCell ⟨cc,1,none⟩ (.int .i64 ((a+1:Nat):Int))).drewN m:=by
 have HR:=hid hr;clear hr;have HAT:=hid hat;clear hat
 have ec:((a+1:Nat):Int)=(a:Int)+1:=by omega
 rw[ec]at HR⊢;have HC:=hid (show(w.setCell ⟨cc,1,none⟩ (.int .i64 ((a:Int)+1))).cell? ⟨cc,0,none⟩=some (.slice p n c)from by rw[World.cell?_setCell_other _ _ _ _ (by simp)];exact h0);have HC1:=hid (show(w.setCell ⟨cc,1,none⟩ (.int .i64 ((a:Int)+1))).cell? ⟨cc,1,none⟩=some (.int .i64 ((a+1:Nat):Int))from by rw[World.cell?_setCell_same _ _ _ h1,ec]);clear ec;go_enter func303,ntmps303;go_wp2_with fail;refine(JF (a:=a+1) _hn HC.out HC1.out HR.out HAT.out).mono ?_;rintro e w' ⟨rfl,m,rfl⟩;go_wp2;go_ret2;exact⟨rfl,_,rfl⟩
theorem JG{p:Option Addr}{kv vv:Nat->Value}{x:Bytes}{w:World}(_hn:n<=9223372036854775807)
  (h0:w.cell? ⟨cc,0,none⟩=some (.slice p n c))(h1:w.cell? ⟨cc,1,none⟩=some (.int .i64 a))(h2:w.cell? ⟨cc,2,none⟩=some (.pointer (some ⟨bk,0,none⟩)))(hf:w.frozen? ⟨cc,1,none⟩=false)
  (hb:w.cell? ⟨bk,2,none⟩=some (.slice p n c))(hp:yV r ps (.slice p n c))(hri:zM (zJ ps))(hsm:ps.length<=1000000)(hx:Bs r x xv)
  (hr0:r.le w.cell?)
  (hr:r.le (w.setCell ⟨cc,1,none⟩ (.int .i64 (zk (zJ ps) x))).cell?)
  (hat:∀k,k<n->∃b o,p=some ⟨b,o,none⟩/\r ⟨b,o+k*2,none⟩=some (kv k)/\r ⟨b,o+k*2+1,none⟩=some (vv k)):
  Calls prog 326 #[.pointer (some ⟨cc,0,none⟩),xv] w λe w'=>e=.returned (.tuple #[jE n kv (zk (zJ ps) x),jE n vv (zk (zJ ps) x)])/\∃m,w'=(w.setCell ⟨cc,1,none⟩ (.int .i64 (zk (zJ ps) x))).drewN m:=by
 have HPL:=hid (xZ (w:=w) hr0 hp hri (by omega) hb hx);clear hb hp hri hsm hx hr0;generalize zk (zJ ps) x=i at*
 have HR:=hid hr;clear hr;have HAT:=hid hat;clear hat
 have HC:=hid (show(w.setCell ⟨cc,1,none⟩ (.int .i64 i)).cell? ⟨cc,0,none⟩=some (.slice p n c)from by rw[World.cell?_setCell_other _ _ _ _ (by simp)];exact h0);have HC1:=hid (show(w.setCell ⟨cc,1,none⟩ (.int .i64 i)).cell? ⟨cc,1,none⟩=some (.int .i64 i)from by rw[World.cell?_setCell_same _ _ _ h1]);go_enter func326,ntmps326;go_wp2_with fail;refine HPL.out.mono ?_;rintro e w' ⟨rfl,m0,rfl⟩;clear HPL;go_wp2_with fail;refine(JF (r:=r) (kv:=kv) (vv:=vv) (a:=i) _hn (by exact HC.out) (by exact HC1.out) (by exact HR.out) HAT.out).mono ?_;rintro e w' ⟨rfl,m,rfl⟩;go_wp2;go_ret2;exact⟨rfl,m0+m,by rw[<-World.drewN_drewN];rfl⟩
theorem x7{w:World}(h:w.cell? ⟨bk,2,none⟩=some pv)(hs:∃p n c,pv=.slice p n c):
  Calls prog 255 #[.pointer (some ⟨bk,0,none⟩)] w λe w'=>e=.returned (.pointer (some ⟨w.heap.size,0,none⟩))/\w'=w.alloc (.cells #[pv,.int .i64 0,.pointer (some ⟨bk,0,none⟩)] 486):=by
 obtain⟨p,n,c,rfl⟩:=hs;go_enter func255,ntmps255;go_wp2;go_ret;exact⟨rfl,rfl⟩
def qQ(r:Rd)(l:List Bytes)(v:Value):Prop:=∃cs:List Value,Sl r 1 cs v/\qy (Bs r) l cs
theorem qQ.mono(hr:r.le r'){l:List Bytes}(h:qQ r l v):qQ r' l v:=by obtain⟨cs,h1,h2⟩:=h;exact⟨cs,h1.mono hr,h2.mono λ_ _ h=>h.mono hr⟩
theorem qQ.nil(r:Rd):qQ r [] (.slice none 0 0):=⟨[],Sl.nil _ _,.nil⟩
theorem jY:yB prog 469 75 (.slice none 0 0) 1 24:=⟨by kernel_rfl,by kernel_rfl,rfl,by decide⟩
def qZ(ps:yu)(k:Bytes):Option Bytes:=if zx (zJ ps) k then (ps[zk (zJ ps) k]?).map (·.2)else none
theorem Qh{l x:Bytes}{kb:Nat}{w:World}(hk:w.cell? ⟨kb,0,none⟩=some xv)(h1:Z9 w l v)(h2:Z9 w x xv):
  Calls prog 325 #[v,.pointer (some ⟨kb,0,none⟩)] w λe w'=>e=.returned (.bool (l==x))/\w=w':=by
 have H1:=hid h1;clear h1;have H2:=hid h2;clear h2;go_enter func325,ntmps325;go_wp2_with (go_at_call 100;refine(qh H1.out H2.out).mono ?_;rintro e w' ⟨rfl,rfl⟩);go_ret;exact⟨rfl,rfl⟩
theorem KC{l x:Bytes}{kb:Nat}{w:World}(hk:w.cell? ⟨kb,0,none⟩=some xv)(h1:Z9 w l v)(h2:Z9 w x xv):
  Calls prog 324 #[v,.pointer (some ⟨kb,0,none⟩)] w λe w'=>e=.returned (.bool (decide (zt l x<0)))/\w=w':=by
 have H1:=hid h1;clear h1;have H2:=hid h2;clear h2;go_enter func324,ntmps324;go_wp2_with (go_at_call 104;refine(yb H1.out H2.out).mono ?_;rintro e w' ⟨rfl,rfl⟩);go_ret;exact⟨rfl,rfl⟩
theorem Bs.some_of_ne{l:List UInt8}(h:Bs r l v)(hl:l≠[]):∃b o n c,v=.slice (some ⟨b,o,none⟩) n c:=by
 obtain⟨p,n,c,rfl,hlen,_,_,_,h5⟩:=h;rcases h5 with h5|⟨b,o,rfl,_⟩
 ·exact absurd (List.eq_nil_of_length_eq_zero (by omega)) hl
 ·exact⟨b,o,n,c,rfl⟩
theorem Z0{x:Bytes}{lim:Int}{w:World}(hS:∀b,S b->b<w.heap.size)(hcc:cc<w.heap.size)
  (h0:w.cell? ⟨cc,0,none⟩=some pv)(h1:w.cell? ⟨cc,1,none⟩=some (.int .i64 0))(h2:w.cell? ⟨cc,2,none⟩=some (.pointer (some ⟨bk,0,none⟩)))(hf:w.frozen? ⟨cc,1,none⟩=false)
  (hcb:cc≠bk)(hb:w.cell? ⟨bk,2,none⟩=some pv)(hp:yV (im (λb=>S b\/b=cc) w) ps pv)(hri:zM (zJ ps))(hne:∀p∈ps,p.1≠[])(hsm:ps.length<=1000000)(hx:Bs (im (λb=>S b\/b=cc) w) x xv):
  Calls prog 320 #[.pointer (some ⟨cc,0,none⟩),xv,.slice none 0 0,.int .i64 lim] w λe w'=>∃ks vs,e=.returned (.tuple #[ks,vs])/\
   zo (· =cc) w w'/\qQ (im S w') ((qZ ps x).map λ_=>x).toList ks/\qQ (im S w') (qZ ps x).toList vs:=by
 obtain⟨p,n,c,kv,vv,rfl,hlen,hn,hc,hpc,hat⟩:=hp.at
 obtain⟨xp,xn,xc,rfl,hxn⟩:=hx.shape;obtain⟨W,hW⟩:=zex ((w.alloc (.cells #[.slice xp xn xc] 75)).alloc (.cells #[.slice none 0 0] 75));have hNW:za w W:=by rw[hW];exact((za.refl w).alloc _).alloc _
 have hM:∀i:Int,zo (· =cc) w (W.setCell ⟨cc,1,none⟩ (.int .i64 i)):=λi=>zo.setCell (S:=(· =cc)) (hNW.mod _) (λ_=>rfl) _;have hle:∀i:Int,(im (λb=>S b\/b=cc) w).le (W.setCell ⟨cc,1,none⟩ (.int .i64 i)).cell? :=λi=>
  (((hM i).mono λ_ _ e=>Or.inr e).im (λ_ _ h=>h)).le_trans (zd _ _)
 have HSK:=(JG (r:=im (λb=>S b\/b=cc) w) (w:=W) (cc:=cc) (bk:=bk) (ps:=ps) (a:=0) (kv:=kv) (vv:=vv) (by omega) (hNW.le _ _ h0) (hNW.le _ _ h1) (hNW.le _ _ h2)
  (by rw[World.frozen?_of_block (w:=w) (hNW.block cc hcc (λe=>e))];exact hf) (hNW.le _ _ hb) hp hri hsm hx (vd hNW _) (hle _) (λk hk=>by obtain⟨b,o,h1,h2,h3,_⟩:=hat k hk;exact⟨b,o,h1,h2,h3⟩))
 have hfound:∀h:zk (zJ ps) x<ps.length,zx (zJ ps) x=(ps[zk (zJ ps) x].1==x):=by intro h;unfold zx;rw[List.getElem?_eq_getElem (by simpa[zJ]using h)];simp[zJ]
 have hget:∀h:zk (zJ ps) x<ps.length,qZ ps x=if (ps[zk (zJ ps) x].1==x)=true then some ps[zk (zJ ps) x].2 else none:=by intro h;unfold qZ;rw[hfound h,List.getElem?_eq_getElem h];rfl
 have hout: ¬zk (zJ ps) x<ps.length->qZ ps x=none:=by intro h;unfold qZ zx;rw[List.getElem?_eq_none (by simpa[zJ]using h)];simp
 have hnil:∀w',zo (· =cc) w w'->qZ ps x=none->qQ (im S w') ((qZ ps x).map λ_=>x).toList (.slice none 0 0)/\qQ (im S w') (qZ ps x).toList (.slice none 0 0):=by intro w' _ h;rw[h];exact⟨qQ.nil _,qQ.nil _⟩
 generalize zk (zJ ps) x=j at*
 have HX:=hid hx;have HHAT:=hid hat;clear hat
 have HOUT:=hid hout;clear hout;have HNIL:=hid hnil;clear hnil;have HGET:=hid hget;clear hget;have HLE:=hid hle;clear hle;have HM:=hid hM;clear hM;have HNE:=hid hne;clear hne;have HLEN:=hid hlen;clear hlen;have HNW:=hid hNW;clear hNW;have kx:W.cell? ⟨w.heap.size,0,none⟩=some (.slice xp xn xc):=by rw[hW,World.cell?_alloc_lt _ _ _ (by simp),World.cell?_alloc_new];rfl
 clear hx hri hp hfound hpc h0 h1 h2 hf hb;subst hW;by_cases hjn:j<n
 ·have hj':j<ps.length:=by rw[HLEN.out];exact hjn
  obtain⟨b,o,_,hk0,hv0,_,hbk,hbv⟩:=HHAT.out j hjn;obtain⟨qb,qo,qn,qc,hq⟩:=hbk.some_of_ne (HNE.out _ (List.getElem_mem hj'));obtain⟨vp,vn,vc,hvv,_⟩:=hbv.shape;have hg:=HGET.out hj';have e1:jE n kv j=.slice (some ⟨qb,qo,none⟩) qn qc:=by unfold jE;rw[if_pos hjn,hq]
  have e2:jE n vv j=.slice vp vn vc:=by unfold jE;rw[if_pos hjn,hvv]
  rw[e1,e2]at HSK;rw[hq]at hbk;rw[hvv]at hbv;generalize hpk:ps[j].1=pk at*
  generalize hpv:ps[j].2=pval at*
  have HSK:=hid (HSK.mono (R':=λe w'=>e=.returned (.tuple #[.slice (some ⟨qb,qo,none⟩) qn qc,.slice vp vn vc])/\zo (· =cc) w w'/\w'.cell? ⟨w.heap.size,0,none⟩=some (.slice xp xn xc)) (by rintro e w' ⟨rfl,m,rfl⟩;refine⟨rfl,(HM.out _).drewN _,?_⟩;rw[World.cell?_drewN,World.cell?_setCell_other _ _ _ _ (by intro e;simp only[Addr.mk.injEq]at e;omega)];exact kx))
  have HBK:=hid hbk;clear hbk;have HBV:=hid hbv;clear hbv;clear hk0 hv0 e1 e2 hq hvv hpk hpv;have himW:∀w1,zo (· =cc) w w1->(im (λb=>S b\/b=cc) w).le w1.cell? :=λw1 h=>((h.mono λ_ _ e=>Or.inr e).im (λ_ _ h=>h)).le_trans (zd _ _);have HIM:=hid himW;clear himW;by_cases hd:(pk==x)=true
  ·rw[if_pos hd]at hg;have hex:pk=x:=by simpa using hd
   have HG:=hid hg;clear hg;have HEX:=hid hex;clear hex;go_enter func320,ntmps320;go_wp2_with (go_at_call 326;go_must (refine HSK.out.mono ?_);rintro e w1 ⟨rfl,hm1,hk1⟩;have HM1:=hid hm1;clear hm1)
   all_goals
    refine wp_loop_once ?_;go_wp2_with (first|(go_at_call 325;go_must (refine(Qh hk1 (HBK.out.mono (HIM.out _ HM1.out)) (HX.out.mono (HIM.out _ HM1.out))).mono ?_);rintro e w1 ⟨rfl,rfl⟩)|(at_builtin;go_must (refine ql (w0:=w1) jY rfl rfl ((za.refl w1).alloc _) (World.ownsRow_nil _ _ _ _) rfl rfl (Sl.made w1 [.slice vp vn vc] _ 1 1 rfl (by omega)) (by intro u hu;simp only[List.mem_cons,List.not_mem_nil,or_false]at hu;rcases hu with rfl;rfl) (by simp) ?_)));intro v2 w2 ho2 hn2 hg2 hv2;have HN2:=hid hn2;have HV2:=hid (hv2.im_of (S:=S) (λb hb e=>by have:=Jg ho2 b hb;have:=hS b e;have:=HM1.out.size;omega));obtain⟨a2,n2,b2,rfl⟩:=hv2.shape;clear hv2 hg2 ho2 hn2
    go_wp2_with (at_builtin;go_must (refine ql (w0:=w2) jY rfl rfl ((za.refl w2).alloc _) (World.ownsRow_nil _ _ _ _) rfl rfl (Sl.made w2 [.slice (some ⟨qb,qo,none⟩) qn qc] _ 1 1 rfl (by omega)) (by intro u hu;simp only[List.mem_cons,List.not_mem_nil,or_false]at hu;rcases hu with rfl;rfl) (by simp) ?_));intro v3 w3 ho3 hn3 hg3 hv3;have HN3:=hid hn3;have HV3:=hid (hv3.im_of (S:=S) (λb hb e=>by have:=Jg ho3 b hb;have:=hS b e;have:=HM1.out.size;have:=HN2.out.size;omega));obtain⟨a3,c3,rfl⟩:∃a c,v3=.slice a 1 c:=by obtain⟨a,n,c,rfl,hl,_⟩:=hv3;simp at hl;exact⟨a,c,by rw[<-hl]⟩
    clear hv3 hg3 ho3 hn3;go_wp2;go_ret2;have hM3:zo (· =cc) w w3:=(HM1.out.trans (HN2.out.trans HN3.out) λ_ _ e=>e.elim);refine⟨_,_,rfl,hM3,?_,?_⟩
    ·rw[HG.out];exact⟨_,HV3.out,.cons (by rw[<-HEX.out];exact HBK.out.mono (((hM3.mono λ_ _ e=>Or.inr e).im (λ_ _ h=>h)).le_trans (jq λ_ h=>Or.inl h))) .nil⟩
    ·rw[HG.out];exact⟨_,HV2.out.mono (HN3.out.im _),.cons (HBV.out.mono (((hM3.mono λ_ _ e=>Or.inr e).im (λ_ _ h=>h)).le_trans (jq λ_ h=>Or.inl h))) .nil⟩
  ·rw[if_neg hd]at hg;have HG:=hid hg;clear hg;have hdf:(pk==x)=false:=by simpa using hd
   go_enter func320,ntmps320;go_wp2_with (go_at_call 326;go_must (refine HSK.out.mono ?_);rintro e w1 ⟨rfl,hm1,hk1⟩;have HM1:=hid hm1;clear hm1)
   all_goals
    refine wp_loop_once ?_;go_wp2_with (go_at_call 325;go_must (refine(Qh hk1 (HBK.out.mono (HIM.out _ HM1.out)) (HX.out.mono (HIM.out _ HM1.out))).mono ?_);rintro e w1 ⟨rfl,rfl⟩);go_ret2;exact⟨_,_,rfl,HM1.out,HNIL.out _ HM1.out HG.out⟩
 ·have hg:=HOUT.out (by rw[HLEN.out];exact hjn);have e1:∀f,jE n f j=.slice none 0 0:=λf=>by unfold jE;rw[if_neg hjn]
  rw[e1,e1]at HSK;have HSK:=hid (HSK.mono (R':=λe w'=>e=.returned (.tuple #[.slice none 0 0,.slice none 0 0])/\zo (· =cc) w w') (by rintro e w' ⟨rfl,m,rfl⟩;exact⟨rfl,(HM.out _).drewN _⟩));have HG:=hid hg;clear hg;clear e1;go_enter func320,ntmps320;go_wp2_with (go_at_call 326;go_must (refine HSK.out.mono ?_);rintro e w1 ⟨rfl,hm1⟩;have HM1:=hid hm1;clear hm1)
  all_goals
   refine wp_loop_once ?_;go_wp2;go_ret2;exact⟨_,_,rfl,HM1.out,HNIL.out _ HM1.out HG.out⟩
theorem Sl.made_at(w:World)(cs:List Value)(T sz n g:Nat)(hg:g=w.heap.size)(h:cs.length=n*sz)(hn:n<=9223372036854775807):Sl (w.alloc (.cells cs.toArray T)).cell? sz cs (.slice (some ⟨g,0,none⟩) n n):=by subst hg;exact Sl.made w cs T sz n h hn
theorem Sl.drew{w:World}(h:Sl w.cell? sz cs v):Sl w.drew.cell? sz cs v:=h
theorem Ze{w:World}(h:w.ownsRow base e sz v n xs):w.drew.ownsRow base e sz v n xs:=h
theorem X_{w:World}{row:Option Nat}(hg:w.grownBy w' row){a:Addr}(hl:a.block<w.heap.size)(hne:some a.block≠row):w'.frozen? a=w.frozen? a:=World.frozen?_of_block (hg.block a.block hl hne)
theorem Z1(w:World)(o:Obj)(a:Addr)(h:a.block<w.heap.size):(w.alloc o).frozen? a=w.frozen? a:=World.frozen?_alloc_old w o a (Nat.ne_of_lt h)
theorem zcM{w:World}{o:Oper}{a:Act}{K:Act->World->Prop}{Q:Exit->Act->World->Prop}{t:TypeId}{z:Value}
  (E:yB P t e z sz bytes){s x:Operand}(ho:o.op=.call {callee:=.builtin .append,args:= #[s,x],argTypes:= #[t,t]})
  {w0:World}(hN:za w0 w){v:Value}{n:Nat}{xs:List Value}(hown:w.ownsRow w0.heap.size e sz v n xs)(hs:a.eval s=v)
  {xv:Value}{news:List Value}(hx:a.eval x=xv)(hnews:Sl w.cell? sz news xv)(h1:∀u∈news,u.oneCell'=true)
  (hbytes:(xs.length+news.length)*(bytes+1)<=140737488355328)
  (h:∀v' w' m,news.length=m*sz->w'.ownsRow w0.heap.size e sz v' (n+m) (xs++news)->za w0 w'->w.grownBy w' v.ownBlock->Sl w'.cell? sz (xs++news) v'->K (a.put o.dst v') w'):o.wp P a w K Q:=by
 obtain⟨i,hi,hz,hsz,hby⟩:=info_parts E.info;obtain⟨p,m,c,rfl,hl,hmc,hc,hpc,hcells⟩:=hnews;have hlx:xs.length=n*sz:=hown.1;have hpos:=E.pos;have hnx:n<=xs.length:=by rw[hlx];exact Nat.le_mul_of_pos_right _ hpos
 have hmn:m<=news.length:=by rw[hl];exact Nat.le_mul_of_pos_right _ hpos
 have h63:n+m<=maxLen:=by have:(xs.length+news.length)*1<=(xs.length+news.length)*(bytes+1):=Nat.mul_le_mul_left _ (by omega);simp only[maxLen];omega
 have hb2:(n+m)*bytes<=140737488355328:=Nat.le_trans (Nat.mul_le_mul (by omega) (by omega)) hbytes;have hfin:∀v' w',w'.ownsRow w0.heap.size e sz v' (n+m) (xs++news)->w.grownBy w' v.ownBlock->K (a.put o.dst v') w':=λv' w' h2 h3=>
  h v' w' m hl h2 (hN.of_grown h3 (λk hk=>(World.ownsRow.lt hown k hk).1)) h3 (Sl.of_own h2)
 cases p with
 |some ad=>
  refine wp_append_own w s x t ho w0.heap.size e i z sz bytes E.under hi hz hsz hby E.zs E.pos v n xs hs hown ad m c news hx hl ?_ h1 h63 hb2 hN.size (λv' w' h2 h3 _=>hfin v' w' h2 h3);intro j u hj;rcases hcells with hc0|⟨b,o',hp,hcc⟩
  ·subst hc0;simp at hj
  ·simp only[Option.some.injEq]at hp;subst hp;have hjl:j<news.length:=(List.getElem?_eq_some_iff.1 hj).1;have e1:(⟨b,o',none⟩:Addr).add j=⟨b,o'+j,none⟩:=by unfold Addr.add;split<;>simp_all
   rw[e1,hcc j hjl,<-hj,List.getElem?_eq_getElem hjl]
 |none=>
  have hn0:news=[]:=by
   rcases hcells with hc0|⟨b,o',hp,_⟩
   ·exact hc0
   ·cases hp
  subst hn0;have hm0:m=0:=by
   rcases Nat.eq_zero_or_pos m with h0|h0
   ·exact h0
   ·have:0<m*sz:=Nat.mul_pos h0 E.pos;simp at hl;omega
  subst hm0;obtain rfl:c=0:=hpc rfl;have hrun:=run_append_owned_none (P:=P) (w:=w) w0.heap.size t o.type e i sz E.under hi v n xs hown;have hf:=hfin v w (by simpa using hown) ⟨rfl,rfl,rfl,Nat.le_refl _,λ_ _ _=>rfl⟩;unfold Oper.wp execOp;simp only[ho,resolve,invoke,builtin,Sem.run_bind,Sem.run_pure,Result.andThen_ok,List.map_toArray,List.map_cons,List.map_nil,hs,hx,hrun];exact hf
theorem dQ{w:World}{ops:Array Oper}{o:Oper}{a:Act}{K:Act->World->Prop}{Q:Exit->Act->World->Prop}{E0:Prop}{t:TypeId}{z:Value}
  (E:yB P t e z sz bytes)(hgd:o.guard=none){s x:Operand}(ho:o.op=.call {callee:=.builtin .append,args:= #[s,x],argTypes:= #[t,t]})
  {w0:World}(hN:za w0 w){v:Value}{n:Nat}{xs:List Value}(hown:w.ownsRow w0.heap.size e sz v n xs)(hs:a.eval s=v)
  {xv:Value}{news:List Value}(hx:a.eval x=xv)(hnews:Sl w.cell? sz news xv)(h1:∀u∈news,u.oneCell'=true)
  (hbytes:(xs.length+news.length)*(bytes+1)<=140737488355328)
  (h:∀v' w' m,news.length=m*sz->w'.ownsRow w0.heap.size e sz v' (n+m) (xs++news)->za w0 w'->w.grownBy w' v.ownBlock->Sl w'.cell? sz (xs++news) v'->K (a.put o.dst v') w'):
  if Region.wanted o (yielded ops a.tmps)=true then o.wp P a w K Q else E0:=by
 rw[if_pos (by simp[Region.wanted,hgd])];exact zcM E ho hN hown hs hx hnews h1 hbytes h
abbrev ptr(b:Nat):Value:=.pointer (some ⟨b,0,none⟩)
abbrev z_:=Bytes×yu
def jP(r:Rd)(C:List z_)(v:Value):Prop:=
 ∃cs:List (Value×Value),Sl r 2 (qt cs) v/\qy (λ(b:z_) (c:Value×Value)=>Bs r b.1 c.1/\yV r b.2 c.2) C cs
variable{C:List z_}
theorem jP.mono(hr:r.le r')(h:jP r C v):jP r' C v:=by obtain⟨cs,h1,h2⟩:=h;exact⟨cs,h1.mono hr,h2.mono λ_ _ ⟨a,b⟩=>⟨a.mono hr,b.mono hr⟩⟩
theorem yV.shape(h:yV r ps v):∃p n c,v=.slice p n c:=by obtain⟨_,h,_⟩:=h;exact h.shape
def Wp(r:Rd)(w:World)(tx:Nat)(b:Nat×z_):Prop:=
 ∃nv pv fp,w.heap[b.1]? =some (.cells #[ptr tx,nv,pv,fp] 328 (0,0))/\Bs r b.2.1 nv/\yV r b.2.2 pv
structure TxW(r:Rd)(w:World)(base tx db:Nat)(wt:Bool)(bs:List (Nat×z_)):Prop where
 htx:∃lv,w.heap[tx]? =some (.cells #[ptr db,.bool wt,.bool false,lv] 310 (0,0))/\w.ownsRow base 329 1 lv bs.length (bs.map λb=>ptr b.1)
 txb:base<=tx
 hb:∀b∈bs,base<=b.1/\Wp r w tx b
 nodup:(bs.map (·.1)).Nodup
theorem Xr:yB prog 308 329 (.pointer none) 1 8:=⟨by kernel_rfl,by kernel_rfl,rfl,by decide⟩
theorem zbm:yB prog 77 325 (.agg #[.slice none 0 0,.slice none 0 0]) 2 48:=⟨by kernel_rfl,by kernel_rfl,rfl,by decide⟩
variable{dv:Value}{wt:Bool}
theorem Wq{db:Nat}{w:World}(_hS:∀b,S b->b<w.heap.size)
  (hdb:w.cell? ⟨db,0,none⟩=some dv)(hd:jP (im S w) C dv)(hsm:C.length<=1000):
  Calls prog 105 #[ptr db,.bool wt] w λe w'=>e=.returned (.tuple #[ptr w.heap.size,.nilIface])/\za w w'/\
   ∃bs,TxW (im S w) w' w.heap.size w.heap.size db wt bs/\bs.map (·.2)=C/\w.heap.size<w'.heap.size:=by
 obtain⟨cs,⟨p,n,c,rfl,hl,hn,hc,hpc,hcells⟩,hall⟩:=hd;have hlen:=hall.length;rw[yG]at hl;have hn':n=C.length:=by omega
 have HS:=hid _hS;clear _hS;have HALL:=hid hall;clear hall;have HCELLS:=hid hcells;clear hcells;have HL:=hid hl;clear hl;have HLEN:=hid hlen;clear hlen;have HN':=hid hn';clear hn';clear hpc;go_enter func105,ntmps105;go_wp2;go_loopw [7] (λi wr=>∃(k:Nat) (bs:List (Nat×z_)),k<=n/\i=.int .i64 k/\za w wr/\TxW (im S w) wr w.heap.size w.heap.size db wt bs/\bs.map (·.2)=C.take k/\w.heap.size<wr.heap.size) (λi _=>n-(intOf i).toNat)
 case atStart=>refine⟨0,[],Nat.zero_le _,rfl,(za.refl w).alloc _,⟨⟨_,zg _ _,World.ownsRow_nil _ _ _ _⟩,Nat.le_refl _,λb hb=>by simp at hb,by simp⟩,by simp,by simp⟩
 case round=>
  obtain⟨k,bs,hk,rfl,hnew,htw,hbs,hsz⟩:=hrel;obtain⟨⟨lv,hx,hown⟩,_,hbk,hnd⟩:=htw;have d0:wr.cell? ⟨db,0,none⟩=some (.slice p n c):=hnew.le _ _ hdb;by_cases hlt:k<n
  ·obtain⟨b,o,rfl,nv,pv,h1,h2,hkC,hbn,hbp⟩:∃b o,p=some ⟨b,o,none⟩/\∃nv pv,wr.cell? ⟨b,o+k*2,none⟩=some nv/\wr.cell? ⟨b,o+k*2+1,none⟩=some pv/\∃hk:k<C.length,Bs (im S w) (C[k]'hk).1 nv/\yV (im S w) (C[k]'hk).2 pv:=by
    have hkc:k<cs.length:=by have:=HL.out;omega
    have l2:=yG cs;rcases HCELLS.out with h0|⟨b,o,rfl,hcc⟩
    ·rw[h0]at l2;simp at l2;omega
    ·have g1:=(ZG cs k).1;have g2:=(ZG cs k).2;rw[List.getElem?_eq_getElem (by omega)]at g1 g2;simp only[List.getElem?_eq_getElem hkc,Option.map_some,Option.some.injEq]at g1 g2;refine⟨b,o,rfl,_,_,vd hnew _ _ _ (hcc (k*2) (by omega)),vd hnew _ _ _ (by rw[Nat.add_assoc];exact hcc (k*2+1) (by omega)),by rw[HLEN.out];exact hkc,?_,?_⟩
     ·rw[g1];exact(HALL.out.get k (by rw[HLEN.out];exact hkc) hkc).1
     ·rw[g2];exact(HALL.out.get k (by rw[HLEN.out];exact hkc) hkc).2
   obtain⟨np,nn',nc,rfl,_⟩:=hbn.shape;obtain⟨pp,pn,pc,rfl⟩:=hbp.shape;have t3:wr.cell? ⟨w.heap.size,3,none⟩=some lv:=by rw[cell_of_row wr _ 3 _ _ (0,0) hx];rfl
   have f3:wr.frozen? ⟨w.heap.size,3,none⟩=false:=by simp[World.frozen?,hx]
   have ek:(k:Int)<(n:Int):=by omega
   have HNEW:=hid hnew;clear hnew;have HOWN:=hid hown;clear hown;have HX:=hid hx;clear hx;have HBK:=hid hbk;clear hbk;have HND:=hid hnd;clear hnd;have HBS:=hid hbs;clear hbs;have HBN:=hid hbn;clear hbn;have HBP:=hid hbp;clear hbp;have hlb:bs.length=k:=by have:=congrArg List.length HBS.out;simp at this;omega
   have HLB:=hid hlb;clear hlb;have hne:∀k',lv.ownBlock=some k'->k'≠w.heap.size:=by
    intro k' hk' e;subst e;rcases HOWN.out.2 with⟨rfl,_⟩|⟨g,cap,cur,rfl,_,hg,_⟩
    ·simp[Value.ownBlock]at hk'
    ·simp[Value.ownBlock]at hk';subst hk';rw[HX.out]at hg;simp at hg
   have HNE:=hid hne;clear hne;have hrel:∀v5 w5 nn,w5.ownsRow w.heap.size 329 1 v5 nn ((bs.map λb=>ptr b.1)++[ptr wr.heap.size])->za w w5->
     (((wr.alloc (.cells #[ptr w.heap.size,.slice np nn' nc,.slice pp pn pc,.float .f64 0] 328)).alloc (.cells #[ptr wr.heap.size] 329)).drew).grownBy w5 lv.ownBlock->
     za w (w5.setCell ⟨w.heap.size,3,none⟩ v5)/\TxW (im S w) (w5.setCell ⟨w.heap.size,3,none⟩ v5) w.heap.size w.heap.size db wt (bs++[(wr.heap.size,C[k])])/\w.heap.size<(w5.setCell ⟨w.heap.size,3,none⟩ v5).heap.size:=by
    intro v5 w5 nn ho5 hn5 hg5;have hsz5:=hg5.size;simp at hsz5;have hx5:w5.heap[w.heap.size]? =some (.cells #[ptr db,.bool wt,.bool false,lv] 310 (0,0)):=by rw[hg5.block _ (by simp;omega) (λe=>HNE.out _ e.symm rfl)];show((wr.alloc _).alloc _).heap[w.heap.size]? =_;rw[Below.heap_alloc _ _ _ (by simp;omega),Below.heap_alloc _ _ _ hsz];exact HX.out
    have hkeep:∀(j:Nat) (o:Obj),j≠w.heap.size->w5.heap[j]? =some o->(w5.setCell ⟨w.heap.size,3,none⟩ v5).heap[j]? =some o:=λj o hj ho=>by rw[Below.heap_setCell _ _ _ _ (λe=>hj e)];exact ho
    have hbk5:∀(j:Nat) (cc:Array Value),j<wr.heap.size->wr.heap[j]? =some (.cells cc 328 (0,0))->w5.heap[j]? =some (.cells cc 328 (0,0)):=by
     intro j cc hj hjc;rw[hg5.block j (by simp;omega) ?_]
     ·show((wr.alloc _).alloc _).heap[j]? =_;rw[Below.heap_alloc _ _ _ (by simp;omega),Below.heap_alloc _ _ _ hj];exact hjc
     ·intro e;rcases HOWN.out.2 with⟨rfl,_⟩|⟨g,cap,cur,rfl,_,hg,_⟩
      ·simp[Value.ownBlock]at e
      ·simp[Value.ownBlock]at e;subst e;rw[hjc]at hg;simp at hg
    have hnew5:w5.heap[wr.heap.size]? =some (.cells #[ptr w.heap.size,.slice np nn' nc,.slice pp pn pc,.float .f64 0] 328 (0,0)):=by
     rw[hg5.block _ (by simp;omega) ?_]
     ·show((wr.alloc _).alloc _).heap[wr.heap.size]? =_;rw[Below.heap_alloc _ _ _ (by simp),zg]
     ·intro e;have:=(World.ownsRow.lt HOWN.out _ e.symm).2;omega
    have hnn:nn=bs.length+1:=by have:=ho5.1;simp at this;omega
    refine⟨zo.setCell (S:=λ_=>False) hn5 (λh=>by simp at h) _,⟨⟨v5,?_,?_⟩,Nat.le_refl _,?_,?_⟩,by simp[World.setCell];omega⟩
    ·simp only[World.setCell,Array.getElem?_modify,if_true,hx5,Option.map_some];rfl
    ·refine⟨by simp,?_⟩;rcases ho5.2 with⟨rfl,h0⟩|⟨g,cap,cur,rfl,h1,h2,h3,h4,h5,h6⟩
     ·omega
     ·refine Or.inr ⟨g,cap,cur,by simp[hnn],h1,hkeep g _ ?_ h2,by simp;omega,h4,h5,?_⟩
      ·intro e;subst e;rw[hx5]at h2;simp at h2
      ·simp only[List.length_append,List.length_singleton,List.map_append,List.map_cons,List.map_nil];rw[<-hnn];exact h6
    ·intro b hb;rcases List.mem_append.1 hb with hb|hb
     ·obtain⟨h1,nv,pv,fp,h2,h3,h4⟩:=HBK.out b hb;have hlt:b.1<wr.heap.size:=(Array.getElem?_eq_some_iff.1 h2).1;refine⟨h1,nv,pv,fp,hkeep _ _ ?_ (hbk5 _ _ hlt h2),h3,h4⟩;intro e;rw[e,HX.out]at h2;simp at h2
     ·simp only[List.mem_singleton]at hb;subst hb;exact⟨Nat.le_of_lt hsz,_,_,_,hkeep _ _ (by simp;omega) hnew5,HBN.out,HBP.out⟩
    ·rw[List.map_append,List.nodup_append];refine⟨HND.out,by simp,?_⟩;intro x hx y hy e;simp only[List.map_cons,List.map_nil,List.mem_singleton]at hy;obtain⟨b,hb,rfl⟩:=List.mem_map.1 hx;obtain⟨_,nv,pv,fp,h2,_⟩:=HBK.out b hb;have hlt:b.1<wr.heap.size:=(Array.getElem?_eq_some_iff.1 h2).1;omega
   have HREL:=hid hrel;clear hrel;have HBS':Hid ((bs++[(wr.heap.size,C[k])]).map (·.2)=C.take (k+1)):=by show _=_;rw[List.map_append,HBS.out,List.take_succ_eq_append_getElem hkC];rfl
   clear hdb;go_wp2;go_region_law (refine dQ (w0:=w) Xr rfl rfl (((HNEW.out.alloc _).alloc _).drew) (Ze (World.ownsRow.alloc (World.ownsRow.alloc HOWN.out _) _)) rfl rfl (Sl.drew (Sl.made_at _ [ptr _] _ 1 1 _ (by simp) rfl (by omega))) (by intro u hu;simp only[List.mem_cons,List.not_mem_nil,or_false]at hu;rcases hu with rfl;rfl) (by have:=HLB.out;simp;omega) ?_;intro v5 w5 m5 hm5 ho5 hn5 hg5 hv5;obtain⟨a5,n5,b5,rfl⟩:=hv5.shape;have t5:w5.cell? ⟨w.heap.size,3,none⟩=some lv:=hg5.cell (by rw[World.cell?_drew,World.cell?_alloc_lt _ _ _ (by simp;omega),World.cell?_alloc_lt _ _ _ (by simp;omega)];exact t3) (by intro e;exact HNE.out _ e.symm rfl);have f5:w5.frozen? ⟨w.heap.size,3,none⟩=false:=by rw[X_ hg5 (by simp;omega) (by intro e;exact HNE.out _ e.symm rfl),World.frozen?_drew,Z1 _ _ _ (by simp;omega),Z1 _ _ _ (by simp;omega)];exact f3)
   all_goals
    have HR5:=hid (HREL.out _ w5 _ ho5 hn5 hg5);clear hm5 ho5 hn5 hg5 hv5;go_wp2;go_roundw
    case rel=>exact⟨k+1,_,by omega,by go_num,HR5.out.1,HR5.out.2.1,HBS'.out,HR5.out.2.2⟩
    case measure=>simp[intOf];omega
  ·have hkn:k=n:=by omega
   have hC:bs.map (·.2)=C:=by rw[hbs,hkn,HN'.out,List.take_length]
   have HC:=hid hC;clear hC hbs hkn;have HNEW:=hid hnew;clear hnew;have HOWN:=hid hown;clear hown;have HX:=hid hx;clear hx;have HBK:=hid hbk;clear hbk;have HND:=hid hnd;clear hnd;clear hdb;go_wp2;go_ret2;exact⟨rfl,HNEW.out,bs,⟨⟨lv,HX.out,HOWN.out⟩,Nat.le_refl _,HBK.out,HND.out⟩,HC.out,hsz⟩
structure kw(r:Rd)(w:World)(F:Nat->Prop)(tx db:Nat)(wt:Bool)(bs:List (Nat×z_)):Prop where
 htx:∃lv,w.heap[tx]? =some (.cells #[ptr db,.bool wt,.bool false,lv] 310 (0,0))/\w.ownsRow 0 329 1 lv bs.length (bs.map λb=>ptr b.1)/\∀b,lv.ownBlock=some b->F b
 ftx:F tx
 hb:∀b∈bs,F b.1/\Wp r w tx b
 nodup:(bs.map (·.1)).Nodup
theorem qK{w:World}(h:w.ownsRow base e sz v n xs)(b0:Nat)(hb:b0<=base):w.ownsRow b0 e sz v n xs:=by
 refine⟨h.1,?_⟩;rcases h.2 with h2|⟨g,cap,cur,h1,h2,h3⟩
 ·exact Or.inl h2
 ·exact Or.inr ⟨g,cap,cur,h1,Nat.le_trans hb h2,h3⟩
theorem TxW.toF{w:World}{db:Nat}{bs:List (Nat×z_)}(h:TxW r w base tx db wt bs):kw r w (λb=>base<=b/\b<w.heap.size) tx db wt bs:=by obtain⟨⟨lv,h1,h2⟩,h3,h4,h5⟩:=h;refine⟨⟨lv,h1,qK h2 0 (Nat.zero_le _),λb hb=>World.ownsRow.lt h2 b hb⟩,⟨h3,(Array.getElem?_eq_some_iff.1 h1).1⟩,λb hb=> ?_,h5⟩;obtain⟨g1,g2⟩:=h4 b hb;refine⟨⟨g1,?_⟩,g2⟩;obtain⟨_,_,_,g3,_⟩:=g2;exact(Array.getElem?_eq_some_iff.1 g3).1
theorem zU{w:World}(h:w.ownsRow base e sz v n xs)(hb:∀b,v.ownBlock=some b->w'.heap[b]? =w.heap[b]?):w'.ownsRow base e sz v n xs:=by
 refine⟨h.1,?_⟩;rcases h.2 with h2|⟨g,cap,cur,rfl,h2,h3,h4⟩
 ·exact Or.inl h2
 ·exact Or.inr ⟨g,cap,cur,rfl,h2,(hb g rfl).trans h3,h4⟩
theorem Wp.frame{w:World}{b:Nat×z_}(h:Wp r w tx b)(hb:w'.heap[b.1]? =w.heap[b.1]?)(hr:r.le r'):Wp r' w' tx b:=by obtain⟨nv,pv,fp,h1,h2,h3⟩:=h;exact⟨nv,pv,fp,hb.trans h1,h2.mono hr,h3.mono hr⟩
variable{F:Nat->Prop}
theorem kw.frame{w:World}{db:Nat}{bs:List (Nat×z_)}(h:kw r w F tx db wt bs)(hb:∀b,F b->w'.heap[b]? =w.heap[b]?)(hr:r.le r'):kw r' w' F tx db wt bs:=by obtain⟨⟨lv,h1,h2,h3⟩,h4,h5,h6⟩:=h;exact⟨⟨lv,(hb _ h4).trans h1,zU h2 λb e=>hb b (h3 b e),h3⟩,h4,λb m=>⟨(h5 b m).1,(h5 b m).2.frame (hb _ (h5 b m).1) hr⟩,h6⟩
theorem kw.mono{w:World}{F':Nat->Prop}{db:Nat}{bs:List (Nat×z_)}(h:kw r w F tx db wt bs)(hF:∀b,F b->F' b):kw r w F' tx db wt bs:=by obtain⟨⟨lv,h1,h2,h3⟩,h4,h5,h6⟩:=h;exact⟨⟨lv,h1,h2,λb e=>hF b (h3 b e)⟩,hF _ h4,λb m=>⟨hF _ (h5 b m).1,(h5 b m).2⟩,h6⟩
theorem kw.lt{w:World}{db:Nat}{bs:List (Nat×z_)}(h:kw r w F tx db wt bs):tx<w.heap.size:=by obtain⟨⟨lv,h1,_⟩,_⟩:=h;exact(Array.getElem?_eq_some_iff.1 h1).1
def zG(bs:List (Nat×z_)):List Bytes:=bs.map (·.2.1)
theorem kw.place{w:World}{db:Nat}{bs:List (Nat×z_)}(h:kw r w F tx db wt bs)(hr:r.le w.cell?){x:Bytes}(hx:Bs r x xv):
  Calls prog 228 #[ptr tx,xv] w λe w'=>e=.returned (.tuple #[.int .i64 (zk (zG bs) x),.bool (zx (zG bs) x)])/\w=w':=by
 obtain⟨⟨lv,h1,h2,_⟩,_,h5,_⟩:=h;have hsl:=Sl.of_own h2;obtain⟨p,n,c,rfl,hl,hn,hc,hp,hcells⟩:=hsl;have hlen:bs.length=n:=by simpa using hl
 refine Wo tx p n c (zG bs) (λk=>(bs[k]?.map (·.1)).getD 0) (λk=>match bs[k]? with|some b=>(w.cell? ⟨b.1,1,none⟩).getD .nilIface|none=>.nilIface) x xv w (by simpa[zG]using hlen) (by omega) (by rw[cell_of_row w tx 3 _ _ (0,0) h1];rfl) ?_ ?_ ?_ (hx.mono hr)
 ·intro k hk;have hk':k<bs.length:=by omega
  rcases hcells with h0|⟨b,o,rfl,hcc⟩
  ·simp at h0;subst h0;simp at hk'
  ·refine⟨b,o,rfl,?_⟩;have:=hcc k (by simpa using hk');rw[this];simp[List.getElem?_eq_getElem hk']
 ·intro k hk;have hk':k<bs.length:=by omega
  obtain⟨nv,pv,fp,g1,g2,g3⟩:=(h5 _ (List.getElem_mem hk')).2;simp only[List.getElem?_eq_getElem hk',Option.map_some,Option.getD_some];have:w.cell? ⟨bs[k].1,1,none⟩=some nv:=by rw[cell_of_row w _ 1 _ _ (0,0) g1];rfl
  rw[this];rfl
 ·intro k hk;have hk':k<bs.length:=by simpa[zG]using hk
  obtain⟨nv,pv,fp,g1,g2,g3⟩:=(h5 _ (List.getElem_mem hk')).2;simp only[List.getElem?_eq_getElem hk'];have:w.cell? ⟨bs[k].1,1,none⟩=some nv:=by rw[cell_of_row w _ 1 _ _ (0,0) g1];rfl
  rw[this];have e:(zG bs)[k]=bs[k].2.1:=by simp[zG]
  rw[e];exact g2.mono hr
theorem kw.row{w:World}{db:Nat}{bs:List (Nat×z_)}(h:kw r w F tx db wt bs):∃p n c,w.cell? ⟨tx,3,none⟩=some (.slice p n c)/\bs.length=n/\n<=c/\c<=9223372036854775807/\
  ∀k (hk:k<bs.length),∃b o,p=some ⟨b,o,none⟩/\w.cell? ⟨b,o+k,none⟩=some (ptr bs[k].1)/\b≠tx/\(∀T f g,w.heap[b]? =some (.cells f T g)->T=329):=by
 obtain⟨⟨lv,h1,h2,_⟩,_,h5,_⟩:=h;have hsl:=Sl.of_own h2;have hty:∀b,lv.ownBlock=some b->∀T f g,w.heap[b]? =some (.cells f T g)->T=329:=by
  intro b hb T f g hg;rcases h2.2 with⟨rfl,_⟩|⟨g',cap,cur,rfl,_,hg',_⟩
  ·simp[Value.ownBlock]at hb
  ·simp[Value.ownBlock]at hb;subst hb;rw[hg']at hg;simp at hg;exact hg.2.1.symm
 obtain⟨p,n,c,rfl,hl,hn,hc,hp,hcells⟩:=hsl;have hlen:bs.length=n:=by simpa using hl
 refine⟨p,n,c,by rw[cell_of_row w tx 3 _ _ (0,0) h1];rfl,hlen,hn,hc,λk hk=> ?_⟩;rcases hcells with h0|⟨b,o,rfl,hcc⟩
 ·simp at h0;subst h0;simp at hk
 ·have hb0:(Value.slice (some ⟨b,o,none⟩) n c).ownBlock=some b:=rfl;refine⟨b,o,rfl,?_,?_,hty b hb0⟩
  ·have:=hcc k (by simpa using hk);rw[this];simp
  ·intro e;subst e;have:=hty b hb0 _ _ _ h1;simp at this
variable{j:Nat}
theorem Zf{w:World}{db:Nat}{bs:List (Nat×z_)}(h:kw r w F tx db wt bs)(hr:r.le w.cell?){x:Bytes}(hx:Bs r x xv)
  (hj:j<bs.length)(hpl:zk (zG bs) x=j)(hfd:zx (zG bs) x=true):
  Calls prog 319 #[ptr tx,xv] w λe w'=>e=.returned (ptr bs[j].1)/\w=w':=by
 have HPL:=hid (h.place hr hx);rw[hpl,hfd]at HPL;obtain⟨p,n,c,hc3,hlen,hnc,hcm,hat⟩:=h.row;obtain⟨b,o,rfl,hbk,_⟩:=hat j hj;have hjn:(j:Int)<(n:Int):=by omega
 clear hat hr h hx hfd hpl;generalize bs[j].1=q at*
 go_enter func319,ntmps319;go_wp2_with (go_at_call 228;go_must (refine HPL.out.mono ?_);rintro e w' ⟨rfl,rfl⟩);go_ret;exact⟨rfl,rfl⟩
theorem dR{w:World}{a b d lv:Value}(h1:w.heap[tx]? =some (.cells #[a,b,d,lv] 310 (0,0))):
  Calls prog 85 #[ptr tx] w λe w'=>e=.returned .nilIface/\zo (· =tx) w w':=by
 have c2:w.cell? ⟨tx,2,none⟩=some d:=by rw[cell_of_row w tx 2 _ _ (0,0) h1];rfl
 have f2:w.frozen? ⟨tx,2,none⟩=false:=by simp[World.frozen?,h1]
 go_enter func85,ntmps85;go_wp2;go_ret;exact⟨rfl,zo.setCell (S:=(· =tx)) (zo.refl _ _) (λ_=>rfl) _⟩
theorem qy.mapL{γ:Type}(f:α->γ){R:γ->β->Prop}{l:List α}{m:List β}(h:qy (λa b=>R (f a) b) l m):qy R (l.map f) m:=by
 induction h with
 |nil=>exact .nil
 |cons a _ ih=>exact .cons a ih
theorem vA{a w:World}(h:zo S a w){p:Addr}(hp:S p.block)(u:Value):zo S a (w.setCell p u):=h.setCell (λ_=>hp) u
theorem GX{w:World}{db:Nat}{bs:List (Nat×z_)}(hS:∀b,S b->b<w.heap.size)(htS:S tx)(hdS:S db)
  (h:kw (im S w) w F tx db true bs)(hd:w.heap[db]? =some (.cells #[dv] 79 (0,0)))(hsm:bs.length<=1000):
  Calls prog 95 #[ptr tx] w λe w'=>e=.returned .nilIface/\zo (λb=>b=tx\/b=db) w w'/\∃dv',w'.heap[db]? =some (.cells #[dv'] 79 (0,0))/\jP (im S w') (bs.map (·.2)) dv':=by
 obtain⟨p,n,c,hc3,hlen,hnc,hcm,hat⟩:=h.row;obtain⟨⟨lv,h1,_⟩,_,hbk,_⟩:=id h;have c2:w.cell? ⟨tx,2,none⟩=some (.bool false):=by rw[cell_of_row w tx 2 _ _ (0,0) h1];rfl
 have c1:w.cell? ⟨tx,1,none⟩=some (.bool true):=by rw[cell_of_row w tx 1 _ _ (0,0) h1];rfl
 have c0:w.cell? ⟨tx,0,none⟩=some (ptr db):=by rw[cell_of_row w tx 0 _ _ (0,0) h1];rfl
 have f2:w.frozen? ⟨tx,2,none⟩=false:=by simp[World.frozen?,h1]
 have htl:tx<w.heap.size:=h.lt;have hne:db≠tx:=by intro e;subst e;rw[h1]at hd;simp at hd
 obtain⟨W,hW⟩:=zex (w.setCell ⟨tx,2,none⟩ (.bool true));have k3:W.cell? ⟨tx,3,none⟩=some (.slice p n c):=by rw[hW,World.cell?_setCell_other _ _ _ _ (by simp)];exact hc3
 have k0:W.cell? ⟨tx,0,none⟩=some (ptr db):=by rw[hW,World.cell?_setCell_other _ _ _ _ (by simp)];exact c0
 have hbW:∀j,j≠tx->W.heap[j]? =w.heap[j]? :=λj hj=>by rw[hW,Below.heap_setCell _ _ _ _ (λe=>hj e)]
 have hdW:W.heap[db]? =some (.cells #[dv] 79 (0,0)):=(hbW _ hne).trans hd;have hszW:W.heap.size=w.heap.size:=by rw[hW];simp[World.setCell]
 have hMW:zo (· =tx) w W:=by rw[hW];exact zo.setCell (S:=(· =tx)) (zo.refl _ _) (λ_=>rfl) _
 have HAT:=hid (show∀k (hk:k<bs.length),∃b o,p=some ⟨b,o,none⟩/\W.cell? ⟨b,o+k,none⟩=some (ptr bs[k].1)from λk hk=>by obtain⟨b,o,e,g,hbt,_⟩:=hat k hk;exact⟨b,o,e,by rw[World.cell?_of_block (w:=w) (hbW b hbt)];exact g⟩)
 clear hat
 have HBK:=hid (show∀k (hk:k<bs.length),∃np nn nc pp pn pc,W.cell? ⟨bs[k].1,1,none⟩=some (.slice np nn nc)/\W.cell? ⟨bs[k].1,2,none⟩=some (.slice pp pn pc)/\Bs (im S w) bs[k].2.1 (.slice np nn nc)/\yV (im S w) bs[k].2.2 (.slice pp pn pc)from λk hk=>by
  obtain⟨nv,pv,fp,g1,g2,g3⟩:=(hbk _ (List.getElem_mem hk)).2;obtain⟨np,nn,nc,rfl,_⟩:=g2.shape;obtain⟨pp,pn,pc,rfl⟩:=g3.shape;have hbt:bs[k].1≠tx:=by intro e;rw[e,h1]at g1;simp at g1
  refine⟨np,nn,nc,pp,pn,pc,?_,?_,g2,g3⟩
  ·rw[World.cell?_of_block (w:=w) (hbW _ hbt),cell_of_row w _ 1 _ _ (0,0) g1];rfl
  ·rw[World.cell?_of_block (w:=w) (hbW _ hbt),cell_of_row w _ 2 _ _ (0,0) g1];rfl)
 clear hbk;have HMW:=hid hMW;clear hMW;have HS:=hid hS;clear hS;have HDS:=hid hdS;clear hdS;have hdlt:db<W.heap.size:=(Array.getElem?_eq_some_iff.1 hdW).1;have HDW:=hid hdW;clear hdW hd;have HLEN:=hid hlen;clear hlen;have HBW:=hid hbW;clear hbW;clear h h1 c0 hc3;go_enter func95,ntmps95;go_wp2;rw[<-hW];have HW:=hid hW;clear hW;go_loopw [3,4] (λv i wr=>∃(k:Nat) (cs:List (Value×Value)),k<=n/\i=.int .i64 k/\za W wr/\wr.ownsRow W.heap.size 325 2 v k (qt cs)/\qy (λ(b:Nat×z_) (c:Value×Value)=>Bs (im S w) b.2.1 c.1/\yV (im S w) b.2.2 c.2) (bs.take k) cs) (λ_ i _=>n-(intOf i).toNat)
 case atStart=>exact⟨0,[],Nat.zero_le _,rfl,za.refl _,World.ownsRow_nil _ _ _ _,.nil⟩
 case round=>
  obtain⟨k,cs,hk,rfl,hnew,hown,hall⟩:=hrel;have g3:wr.cell? ⟨tx,3,none⟩=some (.slice p n c):=hnew.le _ _ k3;have g0:wr.cell? ⟨tx,0,none⟩=some (ptr db):=hnew.le _ _ k0;by_cases hlt:k<n
  ·have hkl:k<bs.length:=by rw[HLEN.out];exact hlt
   obtain⟨b,o,rfl,hb⟩:=HAT.out k hkl;obtain⟨np,nn,nc,pp,pn,pc,q1,q2,q3,q4⟩:=HBK.out k hkl;have gb:=hnew.le _ _ hb;have gq1:=hnew.le _ _ q1;have gq2:=hnew.le _ _ q2;have hki:(k:Int)<(n:Int):=by omega
   have HALL:=hid (show qy (λ(b:Nat×z_) (c:Value×Value)=>Bs (im S w) b.2.1 c.1/\yV (im S w) b.2.2 c.2) (bs.take (k+1)) (cs++[(.slice np nn nc,.slice pp pn pc)])from by rw[List.take_succ_eq_append_getElem hkl];exact hall.append (.cons ⟨q3,q4⟩ .nil))
   have hcl:=hall.length;have hc2:=yG cs;clear hall q3 q4 hb q1 q2;generalize bs[k].1=bb at*
   have HNEW:=hid hnew;clear hnew;have hbd:((qt cs).length+2)*(48+1)<=140737488355328:=by
    have:cs.length=min k bs.length:=by rw[<-hcl];simp
    omega
   clear hcl hc2 hkl;obtain⟨vp,vn,vc,rfl⟩:=(Sl.of_own hown).shape;go_wp2_with (at_builtin;go_must (refine ql (w0:=W) zbm rfl rfl (HNEW.out.alloc _) (World.ownsRow.alloc hown _) rfl rfl (Sl.made wr [.slice np nn nc,.slice pp pn pc] _ 2 1 rfl (by omega)) (by intro u hu;simp only[List.mem_cons,List.not_mem_nil,or_false]at hu;rcases hu with rfl|rfl<;>rfl) (by simpa using hbd) ?_));intro v5 w5 m5 hm5 ho5 hn5 hg5 hv5;have e5:m5=1:=by have h0:2=m5*2:=hm5;omega
   subst e5;obtain⟨a5,n5,b5,rfl⟩:=hv5.shape;go_wp2;go_roundw
   case rel=>exact⟨k+1,_,by omega,by go_num,hn5,by rw[vK,hszW];exact ho5,HALL.out⟩
   case measure=>simp[intOf];omega
  ·have hkn:k=n:=by omega
   have hbs:bs.take k=bs:=by rw[hkn,<-HLEN.out,List.take_length]
   rw[hbs]at hall;have HALL:=hid hall;clear hall hbs hkn;have gd:wr.cell? ⟨db,0,none⟩=some dv:=by rw[cell_of_row wr db 0 _ _ (0,0) (hnew.heap HDW.out)];rfl
   have gf:wr.frozen? ⟨db,0,none⟩=false:=by simp[World.frozen?,hnew.heap HDW.out]
   have HNEW:=hid hnew;clear hnew;have HOWN:=hid hown;obtain⟨vp,vn,vc,rfl⟩:=(Sl.of_own hown).shape;clear hown;go_wp2;go_ret;have hdne:∀b,(Value.slice vp vn vc).ownBlock=some b->b≠db:=λb hb e=>by have:=(World.ownsRow.lt HOWN.out b hb).1;omega
   have hmod:zo (λb=>b=tx\/b=db) w (wr.setCell ⟨db,0,none⟩ (.slice vp vn vc)):=
    vA (S:=λb=>b=tx\/b=db) (zo.trans (HMW.out.mono λ_ _ e=>Or.inl e) HNEW.out λ_ _ e=>e.elim) (Or.inr rfl) _
   refine⟨rfl,hmod,.slice vp vn vc,?_,cs,?_,?_⟩
   ·simp only[World.setCell,Array.getElem?_modify,if_true,HNEW.out.heap HDW.out,Option.map_some];rfl
   ·have hsl:=Sl.of_own HOWN.out;have h2:Sl (im S wr) 2 (qt cs) (.slice vp vn vc):=hsl.im_of (S:=S) (λb hb e=>by have:=(World.ownsRow.lt HOWN.out b hb).1;have:=HS.out b e;omega);refine h2.mono λa v ha=> ?_;obtain⟨hn,hcell⟩:=zi.1 ha;exact zi.2 ⟨hn,by rw[World.cell?_setCell_other _ _ _ _ (by intro e;subst e;exact hn HDS.out)];exact hcell⟩
   ·have hle:(im S w).le (im S (wr.setCell ⟨db,0,none⟩ (.slice vp vn vc))):=(hmod.mono (S':=S) λ_ _ e=>by rcases e with rfl|rfl;exact htS;exact HDS.out).im λ_ _ h=>h;exact qy.mapL (R:=λ(b:z_) (c:Value×Value)=>Bs (im S (wr.setCell ⟨db,0,none⟩ (.slice vp vn vc))) b.1 c.1/\yV (im S (wr.setCell ⟨db,0,none⟩ (.slice vp vn vc))) b.2 c.2) (λb:Nat×z_=>b.2) (HALL.out.mono λ_ _ h=>⟨h.1.mono hle,h.2.mono hle⟩)
def bare(w:World):World:={w with heap:= #[]}
theorem za.bare(w:World):za (bare w) w:=⟨rfl,rfl,rfl,Nat.zero_le _,λk hk=>absurd hk (Nat.not_lt_zero k)⟩
variable{news:List Value}
theorem Xs{w:World}{t ty:TypeId}{z:Value}(E:yB P t e z sz bytes)(hown:w.ownsRow base e sz v n xs)
  {ad:Addr}{m:Nat}(hl:news.length=m*sz)(hnews:∀j u,news[j]? =some u->w.cell? (ad.add j)=some u)(h1:∀u∈news,u.oneCell'=true)
  (h63:n+m<=maxLen)(hbytes:(n+m)*bytes<=140737488355328){v':Value}(hr:(Builtin.append_ #[t,t] ty #[v,.slice (some ad) m c]).run P w=.ok v' w'):∀b,v'.ownBlock=some b->v.ownBlock=some b\/w.heap.size<=b:=by
 obtain⟨i,hi,hz,rfl,rfl⟩:=info_parts E.info;intro b hb;rcases hown.2 with⟨rfl,rfl⟩|⟨g,cap,cur,rfl,hbg,hg,hnc,hcm,hcs,htake⟩
 ·obtain⟨v2,w2,hr2,h2,_⟩:=run_append_own (P:=P) w w.heap.size t ty e i z i.size i.bytes E.under hi hz rfl rfl E.zs E.pos (.slice none 0 0) 0 xs ⟨hown.1,Or.inl ⟨rfl,rfl⟩⟩ ad m c news hl hnews h1 h63 hbytes (Nat.le_refl _);rw[hr]at hr2;injection hr2 with e1 e2
  subst e1;exact Or.inr (World.ownsRow.lt h2 b hb).1
 ·by_cases hroom:n+m<=cap
  ·have hfit:n*i.size+news.length<=cur.size:=by rw[hl,hcs,<-Nat.add_mul];exact Nat.mul_le_mul_right _ hroom
   have hr2:=run_append_room (P:=P) w t ty e i E.under hi g n cap cur hg ad m c news hl hnews h1 hroom hfit;rw[hr]at hr2;injection hr2 with e1 e2
   subst e1;exact Or.inl hb
  ·have holds:∀j u,xs[j]? =some u->w.cell? ((⟨g,0,none⟩:Addr).add j)=some u:=hown.cells (g:=g) rfl;have hr2:=run_append_grow (P:=P) w t ty e i z E.under hi hz ⟨g,0,none⟩ n cap xs hown.1 holds ad m c news hl hnews (by omega) (by simp only[maxLen]at h63;omega) (growslice_fits (by omega) hbytes);rw[hr]at hr2;injection hr2 with e1 e2
   subst e1;simp only[Value.ownBlock,Option.some.injEq]at hb;exact Or.inr (by omega)
theorem qN{w:World}{ops:Array Oper}{rest:List Oper}{o:Oper}{a:Act}{Q:Exit->Act->World->Prop}{t:TypeId}{z:Value}
  (E:yB P t e z sz bytes)(hgd:o.guard=none){s x:Operand}(ho:o.op=.call {callee:=.builtin .append,args:= #[s,x],argTypes:= #[t,t]})
  {v:Value}{n:Nat}{xs:List Value}(hown:w.ownsRow 0 e sz v n xs)(hs:a.eval s=v)
  {ad:Addr}{m c:Nat}{news:List Value}(hx:a.eval x=.slice (some ad) m c)(hnews:Sl w.cell? sz news (.slice (some ad) m c))(h1:∀u∈news,u.oneCell'=true)
  (hbytes:(xs.length+news.length)*(bytes+1)<=140737488355328)
  (h:∀v' w',w'.ownsRow 0 e sz v' (n+m) (xs++news)->w.grownBy w' v.ownBlock->(∀b,v'.ownBlock=some b->v.ownBlock=some b\/w.heap.size<=b)->wpList P ops Q rest (a.put o.dst v') w'):wpList P ops Q (o::rest) a w:=by
 obtain⟨i,hi,hz,hsz,hby⟩:=info_parts E.info;obtain⟨p,m',c',e0,hl,hmc,hc,hpc,hcells⟩:=hnews;simp only[Value.slice.injEq]at e0;obtain⟨rfl,rfl,rfl⟩:=e0;have hlx:xs.length=n*sz:=hown.1;have hpos:=E.pos;have hnx:n<=xs.length:=by rw[hlx];exact Nat.le_mul_of_pos_right _ hpos
 have hmn:m<=news.length:=by rw[hl];exact Nat.le_mul_of_pos_right _ hpos
 have h63:n+m<=maxLen:=by have:(xs.length+news.length)*1<=(xs.length+news.length)*(bytes+1):=Nat.mul_le_mul_left _ (by omega);simp only[maxLen];omega
 have hb2:(n+m)*bytes<=140737488355328:=Nat.le_trans (Nat.mul_le_mul (by omega) (by omega)) hbytes;have hnw:∀j u,news[j]? =some u->w.cell? (ad.add j)=some u:=by
  intro j u hj;rcases hcells with hc0|⟨b,o',hp,hcc⟩
  ·subst hc0;simp at hj
  ·simp only[Option.some.injEq]at hp;subst hp;have hjl:j<news.length:=(List.getElem?_eq_some_iff.1 hj).1;have e1:(⟨b,o',none⟩:Addr).add j=⟨b,o'+j,none⟩:=by unfold Addr.add;split<;>simp_all
   rw[e1,hcc j hjl,<-hj,List.getElem?_eq_getElem hjl]
 refine wpList_plain hgd λ_ hK=> ?_;obtain⟨v',w',hr,h2,h3,_⟩:=run_append_own (P:=P) w 0 t o.type e i z sz bytes E.under hi hz hsz hby E.zs E.pos v n xs hown ad m c news hl hnw h1 h63 hb2 (Nat.zero_le _);have hbk:=Xs E hown hl hnw h1 h63 hb2 hr;unfold Oper.wp execOp;simp only[ho,resolve,invoke,builtin,Sem.run_bind,Sem.run_pure,Result.andThen_ok,List.map_toArray,List.map_cons,List.map_nil,hs,hx,hr];exact hK _ _ (h v' w' h2 h3 hbk)
theorem Xt{w:World}{ops:Array Oper}{rest:List Oper}{o:Oper}{a:Act}{Q:Exit->Act->World->Prop}{t:TypeId}{z:Value}
  (E:yB P t e z 1 bytes)(hgd:o.guard=none){d s:Operand}(ho:o.op=.call {callee:=.builtin .copy,args:= #[d,s],argTypes:= #[t,t]})
  {dv sv:Value}(hd:a.eval d=dv)(hs:a.eval s=sv){ds ss:List Value}(hds:Sl w.cell? 1 ds dv)(hss:Sl w.cell? 1 ss sv)(hone:∀u∈ss,u.oneCell'=true)
  {g off:Nat}{cur:List Value}{T:TypeId}(hg:w.heap[g]? =some (.cells cur.toArray T (0,0)))(hoff:ds≠[]->∃n c,dv=.slice (some ⟨g,off,none⟩) n c)(hfit:off+min ss.length ds.length<=cur.length)
  (h:∀w',Hid (w'.heap[g]? =some (.cells (splice cur off (ss.take ds.length)).toArray T (0,0)))->zo (· =g) w w'->wpList P ops Q rest (a.put o.dst (goInt ((min ss.length ds.length:Nat):Int))) w'):wpList P ops Q (o::rest) a w:=by
 obtain⟨i,hi,hz,hsz,hby⟩:=info_parts E.info;have hsz1:(P.info? e).map (·.size)=some 1:=by rw[hi];simp[hsz]
 obtain⟨dp,dn,dc,rfl,d1,d2,d3,d4,d5⟩:=hds;obtain⟨sp,sn,sc,rfl,s1,s2,s3,s4,s5⟩:=hss;have hdn:ds.length=dn:=by omega
 have hsn:ss.length=sn:=by omega
 by_cases h0:min ss.length ds.length=0
 ·refine wpList_copy_nothing hgd d s t t ho e E.under hsz1 dp sp dn dc sn sc hd hs (by show min sn dn=0;omega) ?_;have:=h w ?_ (zo.refl _ _)
  ·rw[h0]at this;exact this
  ·have e0:ss.take ds.length=[]:=by
    rcases Nat.eq_zero_or_pos ds.length with h1|h1
    ·rw[h1];rfl
    ·have:ss=[]:=List.eq_nil_of_length_eq_zero (by omega);rw[this];simp
   show _=_;rw[e0];simpa[splice]using hg
 ·obtain⟨n',c',hdv⟩:=hoff (by intro e;subst e;simp at h0);simp only[Value.slice.injEq]at hdv;obtain⟨rfl,rfl,rfl⟩:=hdv;rcases s5 with s5|⟨b,o',rfl,hcc⟩
  ·subst s5;simp at h0
  ·have hlen:(ss.take ds.length).length=min ss.length ds.length:=by simp;omega
   refine wpList_copy_own hgd d s t t ho e E.under hsz1 g off dn dc ⟨b,o',none⟩ sn sc hd hs cur.toArray T hg (ss.take ds.length) (by rw[hlen];show _=min sn dn;omega) ?_ (by rw[hlen];simpa using hfit) (λv hv=>hone v (List.mem_of_mem_take hv)) ?_
   ·intro j v hj;have hjl:j<(ss.take ds.length).length:=(List.getElem?_eq_some_iff.1 hj).1;have hjs:j<ss.length:=by rw[hlen]at hjl;omega
    rw[List.getElem?_take_of_lt (by rw[hlen]at hjl;omega),List.getElem?_eq_getElem hjs]at hj;have e1:(⟨b,o',none⟩:Addr).add j=⟨b,o'+j,none⟩:=by unfold Addr.add;split<;>simp_all
    rw[e1,hcc j hjs];exact hj
   ·rw[hlen];refine h _ ?_ ?_
    ·show _=_;rw[<-hlen];exact setRow_heap w g _ _ T _ hg
    ·exact⟨rfl,rfl,rfl,by simp[World.setRow],λk hk hn=>setRow_other w g k _ hn⟩
theorem zcN(xs:List α)(b d:α)(rest:List α)(i:Nat)(hi:i<=xs.length):
  (splice (xs++[d]++rest) (i+1) ((((xs++[d]).drop i).take (xs.length-i)))).set i b=xs.take i++b::xs.drop i++rest:=by
 have e1:((xs++[d]).drop i).take (xs.length-i)=xs.drop i:=by rw[List.drop_append_of_le_length hi,List.take_append_of_le_length (by simp),List.take_of_length_le (by simp)]
 rw[e1];unfold splice;have e2:(xs++[d]++rest).drop (i+1+(xs.drop i).length)=rest:=by
  have:i+1+(xs.drop i).length=(xs++[d]).length:=by simp;omega
  rw[this,List.drop_left'];rfl
 have e3:(xs++[d]++rest).take (i+1)=(xs++[d]).take i++[(xs++[d])[i]'(by simp;omega)]:=by rw[List.take_append_of_le_length (by simp;omega)];rw[List.take_succ_eq_append_getElem (by simp;omega)]
 rw[e2,e3,List.take_append_of_le_length hi];have hl:(xs.take i).length=i:=by simp;omega
 simp only[List.append_assoc,List.singleton_append];rw[List.set_append_right _ _ (by omega),hl];simp
theorem dT{t:TypeId}{z:Value}(E:yB P t e z sz bytes){g l:Nat}(hl:l<n)(hn:n<=c)(_hc:c<=9223372036854775807)(W:World):
  (Instr.slice t (.slice (some ⟨g,0,none⟩) n c) (some (.int .i64 l)) none none).run P W=.ok (.slice (some ⟨g,l*sz,none⟩) (n-l) (c-l)) W:=by
 obtain⟨i,hi,hz,hsz,hby⟩:=info_parts E.info;have hne: ¬c=l:=by omega
 have hadd:(⟨g,0,none⟩:Addr).add (l*sz)=⟨g,l*sz,none⟩:=by unfold Addr.add;split<;>simp_all
 simp[Instr.slice,run_underlying E.under,Instr.sliceBounds,run_sliceBound (P:=P) W .i64 (l:Int) n .sliceB (by omega) (by omega),sizeOf,typeInfo,hi,hsz,hne,hadd]
def kV{α:Type}(l:List α)(i:Nat)(x:α):List α:=l.take i++x::l.drop i
theorem GY{l:List α}{i:Nat}{x y:α}(h:y∈kV l i x):y=x\/y∈l:=by
 rcases List.mem_append.1 h with h|h
 ·exact Or.inr (List.mem_of_mem_take h)
 ·rcases List.mem_cons.1 h with h|h
  ·exact Or.inl h
  ·exact Or.inr (List.mem_of_mem_drop h)
theorem Ji(f:α->β)(l:List α)(i:Nat)(x:α):(kV l i x).map f=kV (l.map f) i (f x):=by simp[kV,List.map_take,List.map_drop]
theorem dU{l:List α}{i:Nat}{x:α}(h:l.Nodup)(hx:x∉l):(kV l i x).Nodup:=by
 unfold kV;have h0:(l.take i++l.drop i).Nodup:=by rw[List.take_append_drop];exact h
 rw[List.nodup_append]at h0⊢;obtain⟨h1,h2,h3⟩:=h0;refine⟨h1,List.nodup_cons.2 ⟨λe=>hx (List.mem_of_mem_drop e),h2⟩,?_⟩;intro a ha b hb;rcases List.mem_cons.1 hb with rfl|hb
 ·intro e;subst e;exact hx (List.mem_of_mem_take ha)
 ·exact h3 a ha b hb
theorem GZ{w:World}{db:Nat}{bs:List (Nat×z_)}(hS:∀b,S b->b<w.heap.size)(hFS:∀b,F b->S b)
  (h:kw (im S w) w F tx db true bs){x:Bytes}(hx:Bs (im S w) x xv)(hxl:x.length<=1000)(hnf:zx (zG bs) x=false)(hsm:bs.length<=1000):
  Calls prog 227 #[ptr tx,xv] w λe w'=>∃nb F',e=.returned (.tuple #[ptr nb,.nilIface])/\zo F w w'/\(∀b,F' b->F b\/w.heap.size<=b/\b<w'.heap.size)/\(∀b,F b->F' b)/\
   kw (im (λb=>S b\/F' b) w') w' F' tx db true (kV bs (zk (zG bs) x) (nb,(x,[]))):=by
 have HPL:=hid (h.place (zd _ _) hx);rw[hnf]at HPL;obtain⟨i,hi⟩:∃i,zk (zG bs) x=i:=⟨_,rfl⟩;have hile:i<=bs.length:=by rw[<-hi];simpa[zG]using jr (zG bs) x
 rw[hi]at HPL⊢;obtain⟨⟨lv,h1,hown,hrow⟩,hft,hbk,hnd⟩:=h;have htl:tx<w.heap.size:=(Array.getElem?_eq_some_iff.1 h1).1;have c3:w.cell? ⟨tx,3,none⟩=some lv:=by rw[cell_of_row w tx 3 _ _ (0,0) h1];rfl
 have f3:w.frozen? ⟨tx,3,none⟩=false:=by simp[World.frozen?,h1]
 have hty:∀b,lv.ownBlock=some b->∀T f g,w.heap[b]? =some (.cells f T g)->T=329:=by
  intro b hb T f g hg;rcases hown.2 with⟨rfl,_⟩|⟨g',cap,cur,rfl,_,hg',_⟩
  ·simp[Value.ownBlock]at hb
  ·simp[Value.ownBlock]at hb;subst hb;rw[hg']at hg;simp at hg;exact hg.2.1.symm
 have hne:∀b,lv.ownBlock=some b->b≠tx:=λb hb e=>by subst e;have:=hty b hb _ _ _ h1;simp at this
 obtain⟨lp,ln,lc,rfl⟩:=(Sl.of_own hown).shape;have HX:=hid hx;clear hx;have HB:=hid h1;clear h1;have HOWN:=hid hown;clear hown;have HROW:=hid hrow;clear hrow;have HBK:=hid hbk;clear hbk;have HND:=hid hnd;clear hnd;have HTY:=hid hty;clear hty;have HNE:=hid hne;clear hne;have HS:=hid hS;clear hS;have HFS:=hid hFS;clear hFS;have HI:=hid hi;clear hi hnf;go_enter func227,ntmps227;go_wp2_with (first|(go_at_call 228;go_must (refine HPL.out.mono ?_);rintro e w' ⟨rfl,rfl⟩)|(at_builtin;go_must (refine ql (w0:=w) jD rfl rfl ((za.refl w).alloc _) (vJ (Nat.le_refl _) (zg _ _)) rfl rfl ((HX.out.mono (vd ((za.refl w).alloc _) _)).sl) (jH _) (by simp;omega) ?_)));intro v1 w1 ho1 hn1 hg1 hv1;have hfr1:∀b,v1.ownBlock=some b->w.heap.size<=b/\b<w1.heap.size:=λb hb=>World.ownsRow.lt ho1 b hb;have HFR1:=hid hfr1;have HV1:=hid (Bs.of_sl hv1);have HN1:=hid hn1;obtain⟨a1,n1,b1,rfl⟩:=hv1.shape
 clear hfr1 hv1 ho1 hg1;have HOWN1:=hid (zU HOWN.out (w':=w1) λb hb=>hn1.block b (World.ownsRow.lt HOWN.out b hb).2 λe=>e);have HB1:=hid (hn1.heap HB.out);have t3:w1.cell? ⟨tx,3,none⟩=some (.slice lp ln lc):=hn1.le _ _ c3;have tf3:w1.frozen? ⟨tx,3,none⟩=false:=by simp[World.frozen?,HB1.out]
 have hs1:w.heap.size<=w1.heap.size:=hn1.size;have htl1:tx<w1.heap.size:=by omega
 clear hn1 c3 f3;go_wp2_with (at_builtin;go_must (refine qN Xr rfl rfl (World.ownsRow.alloc (World.ownsRow.alloc HOWN1.out _) _) rfl rfl (news:=[.pointer none]) (Sl.made_at (w1.alloc _) [.pointer none] _ 1 1 _ (by simp) rfl (by omega)) (by intro u hu;rw[List.mem_singleton]at hu;rw[hu];rfl) (by simp;omega) ?_));intro v5 w5 ho5 hg5 hf5;obtain⟨g,cap,cur,hv5,hgc,hnc,hcm,hcs,htk⟩:∃g cap cur,v5=.slice (some ⟨g,0,none⟩) (bs.length+1) cap/\w5.heap[g]? =some (.cells cur 329 (0,0))/\bs.length+1<=cap/\cap<=maxLen/\cur.size=cap*1/\cur.toList.take ((bs.length+1)*1)=(bs.map λb=>ptr b.1)++[.pointer none]:=by
  rcases ho5.2 with⟨_,h0⟩|⟨g,cap,cur,h1,_,h2,h3,h4,h5,h6⟩
  ·omega
  ·exact⟨g,cap,cur,h1,h2,h3,h4,h5,h6⟩
 have hgF:F g\/w1.heap.size+1<g:=by
  rcases hf5 g (by rw[hv5];rfl)with h|h
  ·exact Or.inl (HROW.out g h)
  ·exact Or.inr (by omega)
 have hold5:∀j,j<w1.heap.size->(Value.slice lp ln lc).ownBlock≠some j->w5.heap[j]? =w1.heap[j]? :=λj hj hne=>by rw[hg5.block j (by simp;omega) (λe=>hne e.symm),Below.heap_alloc _ _ _ (by simp;omega),Below.heap_alloc _ _ _ hj]
 have hnb5:w5.heap[w1.heap.size]? =some (.cells #[ptr tx,.slice a1 n1 b1,.slice none 0 0,.float .f64 0] 328 (0,0)):=by rw[hg5.block _ (by simp;omega) (λe=>by have:=(World.ownsRow.lt HOWN.out _ e.symm).2;omega),Below.heap_alloc _ _ _ (by simp),zg]
 have htx5:w5.heap[tx]? =some (.cells #[ptr db,.bool true,.bool false,.slice lp ln lc] 310 (0,0)):=by rw[hold5 tx htl1 (λe=>HNE.out _ e rfl)];exact HB1.out
 have hgt:g≠tx:=λe=>by subst e;rw[hgc]at htx5;simp at htx5
 have hgn:g≠w1.heap.size:=λe=>by subst e;rw[hgc]at hnb5;simp at hnb5
 have t5:w5.cell? ⟨tx,3,none⟩=some (.slice lp ln lc):=by rw[cell_of_row w5 tx 3 _ _ (0,0) htx5];rfl
 have f5:w5.frozen? ⟨tx,3,none⟩=false:=by simp[World.frozen?,htx5]
 have hsz5:w1.heap.size+2<=w5.heap.size:=by have:=hg5.size;simpa using this
 have hsl5:=Sl.of_own ho5;have hos5:za (bare w5) w5:=za.bare w5;have HMODF:=hid (show zo F w w5 from⟨hg5.os.trans HN1.out.os,hg5.tape.trans HN1.out.tape,hg5.output.trans HN1.out.output,by omega,λj hj hn=>(hold5 j (by omega) (λe=>hn (HROW.out j e))).trans (HN1.out.block j hj (λe=>e))⟩);obtain⟨a5,n5,c5,e5⟩:=hsl5.shape;obtain⟨w6,hw6⟩:=zex (w5.setCell ⟨tx,3,none⟩ v5);have hb6:∀j,j≠tx->w6.heap[j]? =w5.heap[j]? :=λj hj=>by rw[hw6,Below.heap_setCell _ _ _ _ (λe=>hj e)]
 have htx6:w6.heap[tx]? =some (.cells #[ptr db,.bool true,.bool false,v5] 310 (0,0)):=by rw[hw6];simp only[World.setCell,Array.getElem?_modify,if_true,htx5,Option.map_some];rfl
 have hsl6:Sl w6.cell? 1 ((bs.map λb=>ptr b.1)++[.pointer none]) v5:=Sl.of_own (zU ho5 (w':=w6) λb hb=>hb6 b (by rw[hv5]at hb;simp[Value.ownBlock]at hb;omega));obtain⟨s1,hs1r,hs1⟩:=k_ Xr hsl6 (i+1) (by simp;omega);obtain⟨s2,hs2r,hs2⟩:=k_ Xr hsl6 i (by simp;omega);have hxl5:(bs.map λb=>ptr b.1).length=bs.length:=by simp
 have hoff1:((bs.map λb=>ptr b.1)++[Value.pointer none]).drop ((i+1)*1)≠[]->∃n c,s1=.slice (some ⟨g,i+1,none⟩) n c:=by
  intro hne;have hlt:i+1<bs.length+1:=by
   rcases Nat.lt_or_ge (i+1) (bs.length+1)with h|h
   ·exact h
   ·exact absurd (List.drop_eq_nil_of_le (by simp;omega)) hne
  have h2:=hs1r w6;rw[hv5,dT Xr hlt hnc (by simpa[maxLen]using hcm)]at h2;injection h2 with h3 _
  exact⟨_,_,by rw[<-h3,Nat.mul_one]⟩
 have ej:((i+1:Nat):Int)=(i:Int)+1:=by omega
 rw[ej]at hs1r;clear ej;have HS1:=hid hs1;clear hs1;have HS2:=hid hs2;clear hs2;have HOFF1:=hid hoff1;clear hoff1;have HV5:=hid hv5;clear hv5;have HGC:=hid hgc;clear hgc;have HTK:=hid htk;clear htk;have HCS:=hid hcs;clear hcs;have HGF:=hid hgF;clear hgF;have HNB5:=hid hnb5;clear hnb5;have HOLD5:=hid hold5;clear hold5;have HB6:=hid hb6;clear hb6;have HTX6:=hid htx6;clear htx6;have t6:w6.cell? ⟨tx,3,none⟩=some v5:=by rw[cell_of_row w6 tx 3 _ _ (0,0) HTX6.out];rfl
 clear htx5 ho5 hg5 hf5 hsl5 hsl6 hos5 t3 tf3;subst e5;go_wp2;rw[<-hw6];have HW6:=hid hw6;clear hw6;have ewr:IntKind.i64.wrap ((i:Int)+1)=(i:Int)+1:=by rw[IntKind.wrap_i64];omega
 go_still_tail 13,(by kernel_rfl);refine Xt Xr rfl rfl rfl rfl HS1.out HS2.out (by intro u hu;have hu:=List.mem_of_mem_drop hu;simp only[List.mem_append,List.mem_map,List.mem_singleton]at hu;rcases hu with⟨b,_,rfl⟩|rfl<;>rfl) (cur:=cur.toList) (by rw[HB6.out _ hgt];exact HGC.out) HOFF1.out (by have:=HCS.out;simp;omega) ?_;intro w7 hrow7 hm7;have hb7:∀j,j<w6.heap.size->j≠g->w7.heap[j]? =w6.heap[j]? :=λj hj hn=>hm7.block j hj hn;have hsz6:w6.heap.size=w5.heap.size:=by rw[HW6.out];simp[World.setCell]
 have hsz7:w6.heap.size<=w7.heap.size:=hm7.size;have HB7:=hid hb7;clear hb7;have htx7:w7.heap[tx]? =some (.cells #[ptr db,.bool true,.bool false,.slice a5 n5 c5] 310 (0,0)):=by rw[HB7.out tx (by omega) (λe=>hgt e.symm)];exact HTX6.out
 have t7:w7.cell? ⟨tx,3,none⟩=some (.slice a5 n5 c5):=by rw[cell_of_row w7 tx 3 _ _ (0,0) htx7];rfl
 have hM6:zo F w w6:=by rw[HW6.out];exact vA (S:=F) HMODF.out hft _
 have hM7:zo F w w7:=zo.trans hM6 (show zo (· =g) w6 w7 from⟨hm7.os,hm7.tape,hm7.output,hm7.size,hm7.block⟩) (λj hj e=>by subst e;rcases HGF.out with h|h;exact h;omega);obtain⟨rest,hrest⟩:∃rest,cur.toList=(bs.map λb=>ptr b.1)++[Value.pointer none]++rest:=by have:=HTK.out;rw[Nat.mul_one]at this;exact⟨cur.toList.drop (bs.length+1),by rw[<-this,List.take_append_drop]⟩
 have HRL:=hid (show rest.length+bs.length+1=cap from by have h1:=congrArg List.length hrest;have h2:=HCS.out;simp at h1;omega)
 have hrow8:(w7.setCell ⟨g,i,none⟩ (ptr w1.heap.size)).heap[g]? =some (.cells ((kV (bs.map λb=>ptr b.1) i (ptr w1.heap.size))++rest).toArray 329 (0,0)):=by
  have h0:=hrow7.out;rw[heap_setCell_same w7 g i _ _ _ h0];have e1:((bs.map λb=>ptr b.1)++[Value.pointer none]).drop (i*1)=((bs.map λb=>ptr b.1)++[Value.pointer none]).drop i:=by rw[Nat.mul_one]
  have e2:(((bs.map λb=>ptr b.1)++[Value.pointer none]).drop ((i+1)*1)).length=(bs.map λb=>ptr b.1).length-i:=by simp
  rw[e1,e2,hrest,List.setIfInBounds_toArray,zcN _ (ptr w1.heap.size) _ _ i (by simpa using hile)];rfl
 have hcg:∃u,w7.cell? ⟨g,i,none⟩=some u:=by
  rw[cell_of_row w7 g i _ _ (0,0) hrow7.out];have hls:i<(splice cur.toList (i+1) (List.take (List.drop ((i+1)*1) (List.map (λb=>ptr b.fst) bs++[Value.pointer none])).length (List.drop (i*1) (List.map (λb=>ptr b.fst) bs++[Value.pointer none])))).length:=by have:=HCS.out;simp[splice]<;>omega
  exact⟨_,by simp only[List.getElem?_toArray];exact List.getElem?_eq_getElem hls⟩
 obtain⟨u7,hu7⟩:=hcg;have fg7:w7.frozen? ⟨g,i,none⟩=false:=by simp[World.frozen?,hrow7.out]
 have hin:(i:Int)<((bs.length+1:Nat):Int):=by omega
 have hv5':=HV5.out;simp only[Value.slice.injEq]at hv5';obtain⟨rfl,rfl,rfl⟩:=hv5';have HTX7:=hid htx7;clear htx7;have HM7:=hid hM7;clear hM7;have HROW8:=hid hrow8;clear hrow8;clear hrow7 hm7 hrest ewr t5 f5;go_wp2;go_ret2;have hg7:g<w7.heap.size:=World.block_lt_of_cell? w7 _ hu7;have hM8:zo F w (w7.setCell ⟨g,i,none⟩ (ptr w1.heap.size)):=zo.setCell (S:=F) HM7.out (λhlt=>by rcases HGF.out with h|h;exact h;simp at hlt;omega) _;have hsz8:(w7.setCell ⟨g,i,none⟩ (ptr w1.heap.size)).heap.size=w7.heap.size:=by simp[World.setCell]
 have h8:∀j,j≠g->(w7.setCell ⟨g,i,none⟩ (ptr w1.heap.size)).heap[j]? =w7.heap[j]? :=λj hj=>Below.heap_setCell _ _ _ _ (λe=>hj e);have hnb8:(w7.setCell ⟨g,i,none⟩ (ptr w1.heap.size)).heap[w1.heap.size]? =some (.cells #[ptr tx,.slice a1 n1 b1,.slice none 0 0,.float .f64 0] 328 (0,0)):=by rw[h8 _ (λe=>hgn e.symm),HB7.out _ (by omega) (λe=>hgn e.symm),HB6.out _ (by omega)];exact HNB5.out
 have himF:(im S w).le (im (λb=>S b\/F b\/b=w1.heap.size\/b=g) (w7.setCell ⟨g,i,none⟩ (ptr w1.heap.size))):=(hM8.mono λ_ _ h=>HFS.out _ h).im (S':=λb=>S b\/F b\/b=w1.heap.size\/b=g) λj hj h=>by
  rcases h with h|h|h|h
  ·exact h
  ·exact HFS.out _ h
  ·omega
  ·rcases HGF.out with h'|h'
   ·rw[h];exact HFS.out _ h'
   ·omega
 refine⟨_,rfl,hM8,λb=>F b\/b=w1.heap.size\/b=g,?_,λb h=>Or.inl h,?_⟩
 ·intro b h;rcases h with h|rfl|rfl
  ·exact Or.inl h
  ·exact Or.inr ⟨hs1,Nat.lt_of_lt_of_le (show w1.heap.size<w7.heap.size by omega) (Nat.le_of_eq hsz8.symm)⟩
  ·rcases HGF.out with h|h
   ·exact Or.inl h
   ·exact Or.inr ⟨by omega,Nat.lt_of_lt_of_le hg7 (Nat.le_of_eq hsz8.symm)⟩
 ·refine⟨⟨.slice (some ⟨g,0,none⟩) (bs.length+1) c5,by rw[h8 _ (λe=>hgt e.symm)];exact HTX7.out,?_,λb hb=> ?_⟩,Or.inl hft,?_,?_⟩
  ·refine⟨?_,Or.inr ⟨g,c5,_,?_,Nat.zero_le _,HROW8.out,?_,hcm,?_,?_⟩⟩
   ·first|(simp[kV];done)|(simp[kV];omega)
   ·first|(simp[kV];done)|(simp[kV];omega)
   ·first|(simp[kV];done)|(simp[kV];omega)
   ·have:=HRL.out;simp[kV];omega
   ·have e:(kV bs i (w1.heap.size,x,[])).length*1=(kV (bs.map λb=>ptr b.1) i (ptr w1.heap.size)).length:=by simp[kV]
    rw[e,List.take_left',Ji];rfl
  ·simp[Value.ownBlock]at hb;exact Or.inr (Or.inr hb.symm)
  ·intro b hb;rcases GY hb with rfl|hb
   ·refine⟨Or.inr (Or.inl rfl),_,_,_,hnb8,?_,⟨[],Sl.nil _ _,.nil⟩⟩;refine(HV1.out.im_of (S:=λb=> ¬(w.heap.size<=b/\b<w1.heap.size)) λb hb h=>h (HFR1.out b hb)).mono λa v ha=> ?_;obtain⟨hn,hcell⟩:=zi.1 ha;have hn:=Classical.not_not.1 hn;have hgb:a.block≠g:=λe=>by
     rcases HGF.out with h|h
     ·have:=HS.out _ (HFS.out _ h);omega
     ·omega
    have hbt:a.block≠tx:=λe=>by omega
    refine zi.2 ⟨λh=> ?_,?_⟩
    ·rcases h with h|h|h|h
     ·have:=HS.out _ h;omega
     ·have:=HS.out _ (HFS.out _ h);omega
     ·omega
     ·exact hgb h
    ·have hbr:(Value.slice lp ln lc).ownBlock≠some a.block:=λe=>by have:=(World.ownsRow.lt HOWN.out _ e).2;omega
     rw[World.cell?_of_block (w:=w1) (by rw[h8 _ hgb,HB7.out _ (by omega) hgb,HB6.out _ hbt,HOLD5.out _ (by omega) hbr])];exact hcell
   ·obtain⟨g1,g2⟩:=HBK.out b hb;refine⟨Or.inl g1,g2.frame ?_ himF⟩;obtain⟨nv,pv,fp,q1,_⟩:=g2;have hbl:b.1<w.heap.size:=(Array.getElem?_eq_some_iff.1 q1).1;have hbt:b.1≠tx:=λe=>by rw[e,HB.out]at q1;simp at q1
    have hbr:(Value.slice lp ln lc).ownBlock≠some b.1:=λe=>by have:=HTY.out _ e _ _ _ q1;simp at this
    have hbg:b.1≠g:=λe=>by have h5:=HOLD5.out b.1 (by omega) hbr;rw[HN1.out.block b.1 hbl (λe=>e),q1,e,HGC.out]at h5;simp at h5
    rw[h8 _ hbg,HB7.out _ (by omega) hbg,HB6.out _ hbt,HOLD5.out _ (by omega) hbr,HN1.out.block _ hbl (λe=>e)]
  ·rw[Ji];refine dU HND.out λe=> ?_;obtain⟨b,hb,e2⟩:=List.mem_map.1 e;obtain⟨_,nv,pv,fp,q1,_⟩:=HBK.out b hb;have hbl:b.1<w.heap.size:=(Array.getElem?_eq_some_iff.1 q1).1;simp at e2;omega
theorem KD{w:World}{fid:FuncId}{cap:Value}(I:Nat->World->Prop)(hfid:∀args w,(callFunc fid args).run prog w=.ok (.enter fid args) w)(hb:w.cell? ⟨bk,2,none⟩=some pv)(hp:yV r ps pv)(_hsm:ps.length<=1000000)
  (h0:I 0 w)(hd:∀k w m,I k w->I k (w.drewN m))(hr:∀k w,I k w->r.le w.cell?)
  (hstep:∀k (hk:k<ps.length) kv vv w,I k w->Bs r ps[k].1 kv->Bs r ps[k].2 vv->Calls prog fid #[kv,vv,cap] w λe w'=>e=.returned .nilIface/\I (k+1) w'):
  Calls prog 322 #[ptr bk,.func (.func fid) #[] #[cap]] w λe w'=>e=.returned .nilIface/\I ps.length w':=by
 obtain⟨p,n,c,kv,vv,rfl,hlen,hn,hc,hpc,hat⟩:=hp.at
 subst hlen;have HAT:=hid hat;clear hat
 have HSTEP:=hid hstep;clear hstep;have HD:=hid hd;clear hd;have HR:=hid hr;clear hr;clear hp;go_enter func322,ntmps322;go_wp2;go_loopw [6] (λi wr=>∃k:Nat,k<=ps.length/\i=.int .i64 k/\I k wr) (λi _=>ps.length-(intOf i).toNat)
 case atStart=>exact⟨0,Nat.zero_le _,rfl,h0⟩
 case round=>
  obtain⟨k,hk,rfl,hI⟩:=hrel;by_cases hlt:k<ps.length
  ·obtain⟨b,o,rfl,hk1,hk2,_,hb1,hb2⟩:=HAT.out k hlt;have g1:=HR.out _ _ hI _ _ hk1;have g2:=HR.out _ _ hI _ _ hk2;have HB1:=hid hb1;clear hb1;have HB2:=hid hb2;clear hb2;have hki:(k:Int)<(ps.length:Int):=by omega
   have HI:=hid hI;clear hI;clear hk1 hk2;go_wp2;go_still_tail 11,(by kernel_rfl);go_wp2_with fail;refine(HSTEP.out k hlt _ _ _ (HD.out _ _ 1 HI.out) HB1.out HB2.out).mono ?_;rintro e w2 ⟨rfl,hI2⟩;have HI2:=hid hI2;clear hI2;go_wp2;go_roundw
   case rel=>exact⟨k+1,by omega,by go_num,HI2.out⟩
   case measure=>simp[intOf];omega
  ·have hkn:k=ps.length:=by omega
   subst hkn;have HI:=hid hI;clear hI;go_wp2;go_ret;exact⟨rfl,HI.out⟩
theorem J3{w:World}{fid:FuncId}{cap cap2:Value}(I:Nat->World->Prop)(hfid:∀args w,(callFunc fid args).run prog w=.ok (.enter fid args) w)(hb:w.cell? ⟨bk,2,none⟩=some pv)(hp:yV r ps pv)(_hsm:ps.length<=1000000)
  (h0:I 0 w)(hd:∀k w m,I k w->I k (w.drewN m))(hr:∀k w,I k w->r.le w.cell?)
  (hstep:∀k (hk:k<ps.length) kv vv w,I k w->Bs r ps[k].1 kv->Bs r ps[k].2 vv->Calls prog fid #[kv,vv,cap,cap2] w λe w'=>e=.returned .nilIface/\I (k+1) w'):
  Calls prog 322 #[ptr bk,.func (.func fid) #[] #[cap,cap2]] w λe w'=>e=.returned .nilIface/\I ps.length w':=by
 obtain⟨p,n,c,kv,vv,rfl,hlen,hn,hc,hpc,hat⟩:=hp.at
 subst hlen;have HAT:=hid hat;clear hat
 have HSTEP:=hid hstep;clear hstep;have HD:=hid hd;clear hd;have HR:=hid hr;clear hr;clear hp;go_enter func322,ntmps322;go_wp2;go_loopw [6] (λi wr=>∃k:Nat,k<=ps.length/\i=.int .i64 k/\I k wr) (λi _=>ps.length-(intOf i).toNat)
 case atStart=>exact⟨0,Nat.zero_le _,rfl,h0⟩
 case round=>
  obtain⟨k,hk,rfl,hI⟩:=hrel;by_cases hlt:k<ps.length
  ·obtain⟨b,o,rfl,hk1,hk2,_,hb1,hb2⟩:=HAT.out k hlt;have g1:=HR.out _ _ hI _ _ hk1;have g2:=HR.out _ _ hI _ _ hk2;have HB1:=hid hb1;clear hb1;have HB2:=hid hb2;clear hb2;have hki:(k:Int)<(ps.length:Int):=by omega
   have HI:=hid hI;clear hI;clear hk1 hk2;go_wp2;go_still_tail 11,(by kernel_rfl);go_wp2_with fail;refine(HSTEP.out k hlt _ _ _ (HD.out _ _ 1 HI.out) HB1.out HB2.out).mono ?_;rintro e w2 ⟨rfl,hI2⟩;have HI2:=hid hI2;clear hI2;go_wp2;go_roundw
   case rel=>exact⟨k+1,by omega,by go_num,HI2.out⟩
   case measure=>simp[intOf];omega
  ·have hkn:k=ps.length:=by omega
   subst hkn;have HI:=hid hI;clear hI;go_wp2;go_ret;exact⟨rfl,HI.out⟩
section
open Go.RowKit Go.ChangeMaps Go.MapKept
open Go.Maps (Keyed)
section
variable{α:Type}[DecidableEq α]
def jt(es:List (α×Value))(x:α):Option Value:=(es.find? (λe=>e.1=x)).map (·.2)
def xx(es:List (α×Value))(x:α)(v:Value):List (α×Value):=if (jt es x).isSome then es.map (λe=>if e.1=x then (x,v)else e)else es++[(x,v)]
def yK(es:List (α×Value))(x:α):List (α×Value):=es.filter (λe=>e.1≠x)
theorem QR{es:List (α×Value)}{x:α}:jt es x=none↔∀e∈es,e.1≠x:=by unfold jt;rw[Option.map_eq_none_iff,List.find?_eq_none];simp
theorem Qi{es:List (α×Value)}{x:α}{v:Value}(h:jt es x=some v):(x,v)∈es:=by unfold jt at h;obtain⟨e,he,rfl⟩:=Option.map_eq_some_iff.1 h;have h1:=List.mem_of_find?_eq_some he;have h2:=List.find?_some he;simp at h2;obtain⟨a,b⟩:=e;simp at h2;subst h2;exact h1
theorem xP{es:List (α×Value)}(hn:(es.map (·.1)).Nodup){x:α}{v:Value}(h:(x,v)∈es):jt es x=some v:=by
 induction es with
 |nil=>simp at h
 |cons e es ih=>
  simp only[List.map_cons,List.nodup_cons]at hn;unfold jt;by_cases he:e.1=x
  ·simp only[List.find?_cons,he,decide_true,Option.map_some];rcases List.mem_cons.1 h with h|h
   ·rw[<-h]
   ·exact absurd (List.mem_map.2 ⟨_,h,rfl⟩) (by rw[he]at hn;exact hn.1)
  ·simp only[List.find?_cons,he,decide_false];rcases List.mem_cons.1 h with h|h
   ·rw[<-h]at he;simp at he
   ·exact ih hn.2 h
theorem Xu(es:List (α×Value))(x y:α)(v:Value):jt (xx es x v) y=if y=x then some v else jt es y:=by
 unfold xx;split
 ·rename_i h;unfold jt at h⊢
  induction es with
  |nil=>simp at h
  |cons e es ih=>
   by_cases he:e.1=x
   ·by_cases hy:y=x
    ·subst hy;simp[he]
    ·have: ¬x=y:=λe=>hy e.symm;simp only[List.map_cons,he,if_true,List.find?_cons,this,decide_false,hy,if_false];clear ih h
     induction es with
     |nil=>rfl
     |cons f es ih2=>
      by_cases hf:f.1=x
      ·simp only[List.map_cons,hf,if_true,List.find?_cons,this,decide_false];exact ih2
      ·simp only[List.map_cons,hf,if_false,List.find?_cons];split
       ·rfl
       ·exact ih2
   ·have h':(Option.map (λx=>x.2) (List.find? (λe=>decide (e.1=x)) es)).isSome=true:=by
     simpa[List.find?_cons,he]using h
    simp only[List.map_cons,he,if_false,List.find?_cons];by_cases hey:e.1=y
    ·have: ¬y=x:=by rw[<-hey];exact he
     simp[hey,this]
    ·simp only[hey,decide_false];exact ih h'
 ·rename_i h;have h:jt es x=none:=by simpa using h
  unfold jt at h⊢;rw[List.find?_append];by_cases hy:y=x
  ·subst hy;have:List.find? (λe=>decide (e.1=y)) es=none:=Option.map_eq_none_iff.1 h;simp[this]
  ·have: ¬x=y:=λe=>hy e.symm;simp[hy,this]
end
def zD{α:Type}(kf:α->Value)(w:World)(m:Nat)(es:List (α×Value)):Prop:=
 ∃a clock,w.heap[m]? =some (.map a clock)/\Stamped a clock/\a.toList.map (λe=>(e.key,e.val))=es.map (λe=>(kf e.1,e.2))
structure YK{α:Type}(P:Program)(k:TypeId)(kf:α->Value):Prop where
 K:Keyed P k
 ok:∀x,∃l,keyOf P k (kf x)=some l
 inj:∀x y,kf x=kf y->x=y
theorem zD.frame{kf:α->Value}{w:World}{m:Nat}{es:List (α×Value)}(h:zD kf w m es)(hm:w'.heap[m]? =w.heap[m]?):zD kf w' m es:=by obtain⟨a,c,h1,h2⟩:=h;exact⟨a,c,hm.trans h1,h2⟩
theorem zD.lt{kf:α->Value}{w:World}{m:Nat}{es:List (α×Value)}(h:zD kf w m es):m<w.heap.size:=by obtain⟨a,c,h1,_⟩:=h;exact(Array.getElem?_eq_some_iff.1 h1).1
theorem zD.made(kf:α->Value)(w:World):zD kf (w.alloc (.map #[] 0)) w.heap.size []:=
 ⟨#[],0,(MapKept.heap_alloc w _).1,stamped_empty 0,rfl⟩
theorem KE{k:TypeId}{kf:α->Value}{es:List (α×Value)}(F:YK P k kf){a:List MapEntry}(hm:a.map (λe=>(e.key,e.val))=es.map (λe=>(kf e.1,e.2))):∀x∈a,∃l,keyOf P k x.key=some l:=by
 intro x hx;have h1:(x.key,x.val)∈es.map (λe=>(kf e.1,e.2)):=by rw[<-hm];exact List.mem_map.2 ⟨x,hx,rfl⟩
 obtain⟨y,_,hy⟩:=List.mem_map.1 h1;simp only[Prod.mk.injEq]at hy;rw[<-hy.1];exact F.ok _
theorem Yq{kf:α->Value}{es:List (α×Value)}{a:Array MapEntry}(hs:Stamped a c)(hm:a.toList.map (λe=>(e.key,e.val))=es.map (λe=>(kf e.1,e.2))):(es.map (·.1)).Nodup:=by
 have h1:(a.toList.map (·.key))=(es.map (·.1)).map kf:=by have:=congrArg (List.map (λp:Value×Value=>p.1)) hm;simpa[List.map_map,Function.comp_def]using this
 have h2:=hs.2.2;rw[h1]at h2;unfold List.Nodup at h2⊢;rw[List.pairwise_map]at h2;exact h2.imp λh e=>h (by rw[e])
theorem zD.nodup{kf:α->Value}{w:World}{m:Nat}{es:List (α×Value)}(h:zD kf w m es):(es.map (·.1)).Nodup:=by obtain⟨a,c,_,h2,h3⟩:=h;exact Yq h2 h3
theorem ga{kf:α->Value}{es:List (α×Value)}{a:List MapEntry}(hm:a.map (λe=>(e.key,e.val))=es.map (λe=>(kf e.1,e.2))){e0:MapEntry}(h:a[j]? =some e0):∃y,es[j]? =some y/\e0.key=kf y.1/\e0.val=y.2:=by
 have h1:(a.map (λe=>(e.key,e.val)))[j]? =some (e0.key,e0.val):=by rw[List.getElem?_map,h];rfl
 rw[hm,List.getElem?_map,Option.map_eq_some_iff]at h1;obtain⟨y,h2,h3⟩:=h1;simp only[Prod.mk.injEq]at h3;exact⟨y,h2,h3.1.symm,h3.2.symm⟩
theorem zD.look[DecidableEq α]{k t:TypeId}{kf:α->Value}{w:World}{m:Nat}{es:List (α×Value)}(F:YK P k kf)(ht:P.underlying t=some (.map k e)){z:Value}(hz:(zeroValue e).run P w=.ok z w)
  (h:zD kf w m es)(x:α)(c:Bool):(Instr.lookup t (.map (some m)) (kf x) c).run P w=.ok (match jt es x with|some v=>if c then .tuple #[v,.bool true]else v|none=>if c then .tuple #[z,.bool false]else z) w:=by
 have hn:=h.nodup;obtain⟨a,clock,hb,hst,hm⟩:=h;obtain⟨l,hkey⟩:=F.ok x;rcases F.K.find w hkey a.toList (KE F hm)with⟨h1,h2⟩|⟨j,e0,h1,h2,h3⟩
 ·have:jt es x=none:=QR.2 λy hy e1=>by
   have:(kf y.1,y.2)∈a.toList.map (λe=>(e.key,e.val)):=by rw[hm];exact List.mem_map.2 ⟨y,hy,rfl⟩
   obtain⟨q,hq,hq2⟩:=List.mem_map.1 this;simp only[Prod.mk.injEq]at hq2;exact h2 q hq (by rw[hq2.1,e1])
  rw[this];simp[Instr.lookup,run_underlying ht,MapKept.run_getObj_map hb,F.K.check w _ hkey,h1,hz,Result.andThen]
 ·obtain⟨y,hy,hy1,hy2⟩:=ga hm h2;have e1:y.1=x:=F.inj _ _ (by rw[<-hy1,h3]);have:jt es x=some e0.val:=xP hn (by rw[hy2,<-e1];exact List.mem_of_getElem? hy);rw[this];simp[Instr.lookup,run_underlying ht,MapKept.run_getObj_map hb,F.K.check w _ hkey,h1,Result.andThen]
theorem zbn[DecidableEq α]{es:List (α×Value)}(hn:(es.map (·.1)).Nodup){y:α×Value}(hy:es[j]? =some y)(v:Value):es.set j (y.1,v)=es.map (λe=>if e.1=y.1 then (y.1,v)else e):=by
 apply List.ext_getElem?;intro i;rw[List.getElem?_set,List.getElem?_map];have hjl:=(List.getElem?_eq_some_iff.1 hy).1;by_cases hij:j=i
 ·subst hij;rw[if_pos rfl,if_pos hjl,hy];simp
 ·rw[if_neg hij];cases hi:es[i]? with
  |none=>rfl
  |some q=>
   have:q.1≠y.1:=by
    intro e;have h1:(es.map (·.1))[i]? =some q.1:=by rw[List.getElem?_map,hi];rfl
    have h2:(es.map (·.1))[j]? =some q.1:=by rw[List.getElem?_map,hy,e];rfl
    exact hij ((List.getElem?_inj (by simpa using hjl) hn).1 (h2.trans h1.symm))
   simp[this]
theorem ju{w:World}{es:Array MapEntry}(hb:w.heap[b]? =some (.map es c))(o':Obj):zo (· =b) w (setBlock w b o'):=
 ⟨rfl,rfl,rfl,by simp[setBlock],λi _ hi=>heap_setBlock_other hb _ hi⟩
theorem zD.put[DecidableEq α]{k t:TypeId}{kf:α->Value}{w:World}{m:Nat}{es:List (α×Value)}(F:YK P k kf)(ht:P.underlying t=some (.map k e))
  (h:zD kf w m es)(hsm:es.length<maxLen)(x:α)(v:Value):∃w',(Instr.mapUpdate t (.map (some m)) (kf x) v).run P w=.ok () w'/\zD kf w' m (xx es x v)/\zo (· =m) w w':=by
 have hn:=h.nodup;obtain⟨a,clock,hb,hst,hm⟩:=h;obtain⟨l,hkey⟩:=F.ok x;have hsz:a.size=es.length:=by have:=congrArg List.length hm;simpa using this
 rcases F.K.find w hkey a.toList (KE F hm)with⟨h1,h2⟩|⟨j,e0,h1,h2,h3⟩
 ·have hg:jt es x=none:=QR.2 λy hy e1=>by
   have:(kf y.1,y.2)∈a.toList.map (λe=>(e.key,e.val)):=by rw[hm];exact List.mem_map.2 ⟨y,hy,rfl⟩
   obtain⟨q,hq,hq2⟩:=List.mem_map.1 this;simp only[Prod.mk.injEq]at hq2;exact h2 q hq (by rw[hq2.1,e1])
  refine⟨setBlock w m (.map (a.push ⟨kf x,v,clock⟩) (clock+1)),?_,⟨_,_,heap_setBlock_same hb _,stamped_push hst h2,?_⟩,ju hb _⟩
  ·have:a.size<maxLen:=by omega
   simp[Instr.mapUpdate,run_underlying ht,MapKept.run_getObj_map hb,F.K.check w false hkey,h1,MapKept.run_setObj_map _ hb,Result.andThen,setBlock]
  ·unfold xx;rw[hg];simp[hm]
 ·have hj:a[j]? =some e0:=by simpa using h2
  obtain⟨y,hy,hy1,hy2⟩:=ga hm h2;have e1:y.1=x:=F.inj _ _ (by rw[<-hy1,h3]);have hg:jt es x=some e0.val:=xP hn (by rw[hy2,<-e1];exact List.mem_of_getElem? hy);have hkeyf:∀e',a[j]? =some e'->({e' with key:=kf x,val:=v}:MapEntry).key=e'.key:=λe' he'=>by rw[hj]at he';cases he';exact h3.symm
  have hlist:(a.modify j (λe'=>{e' with key:=kf x,val:=v})).toList=a.toList.set j {e0 with key:=kf x,val:=v}:=by rw[Array.toList_modify,modify_eq_set _ _ _ _ h2]
  refine⟨setBlock w m (.map (a.modify j (λe'=>{e' with key:=kf x,val:=v})) clock),?_,⟨_,_,heap_setBlock_same hb _,stamped_modify hst _ _ (λ_ _=>rfl) (λe' _ he'=>hkeyf e' he'),?_⟩,ju hb _⟩
  ·simp[Instr.mapUpdate,run_underlying ht,MapKept.run_getObj_map hb,F.K.check w false hkey,h1,hj,h3,F.K.stays w hkey,MapKept.run_setObj_map _ hb,Result.andThen,setBlock]
  ·rw[hlist,List.map_set,hm];unfold xx;rw[hg];have h4:=zbn hn hy v;rw[e1]at h4;simp only[Option.isSome_some,if_true];rw[<-h4,List.map_set]
theorem zbo[DecidableEq α]{es:List (α×Value)}(hn:(es.map (·.1)).Nodup){y:α×Value}(hy:es[j]? =some y):es.eraseIdx j=yK es y.1:=by
 induction es generalizing j with
 |nil=>simp at hy
 |cons e es ih=>
  simp only[List.map_cons,List.nodup_cons]at hn;cases j with
  |zero=>
   simp only[List.getElem?_cons_zero,Option.some.injEq]at hy;subst hy;unfold yK;rw[List.filter_cons_of_neg (by simp)];simp only[List.eraseIdx_zero,List.tail_cons]
   symm
   rw[List.filter_eq_self];intro q hq;simp only[ne_eq,decide_not,Bool.not_eq_true',decide_eq_false_iff_not];intro h;exact hn.1 (List.mem_map.2 ⟨q,hq,h⟩)
  |succ j=>simp only[List.getElem?_cons_succ]at hy;have hne:e.1≠y.1:=λh=>hn.1 (List.mem_map.2 ⟨y,List.mem_of_getElem? hy,h.symm⟩);unfold yK;rw[List.filter_cons_of_pos (by simpa using hne)];simp only[List.eraseIdx_cons_succ];rw[ih hn.2 hy];rfl
theorem zD.del[DecidableEq α]{k t:TypeId}{kf:α->Value}{w:World}{m:Nat}{es:List (α×Value)}(F:YK P k kf)(ht:P.underlying t=some (.map k e))
  (h:zD kf w m es)(x:α)(ty:TypeId):∃w',(Builtin.delete_ #[t,k] ty #[.map (some m),kf x]).run P w=.ok (.tuple #[]) w'/\zD kf w' m (yK es x)/\zo (· =m) w w':=by
 have hn:=h.nodup;obtain⟨a,clock,hb,hst,hm⟩:=h;obtain⟨l,hkey⟩:=F.ok x;rcases F.K.find w hkey a.toList (KE F hm)with⟨h1,h2⟩|⟨j,e0,h1,h2,h3⟩
 ·have hg:yK es x=es:=by
   unfold yK;rw[List.filter_eq_self];intro y hy;simp only[ne_eq,decide_not,Bool.not_eq_true',decide_eq_false_iff_not];intro e1;have:(kf y.1,y.2)∈a.toList.map (λe=>(e.key,e.val)):=by rw[hm];exact List.mem_map.2 ⟨y,hy,rfl⟩
   obtain⟨q,hq,hq2⟩:=List.mem_map.1 this;simp only[Prod.mk.injEq]at hq2;exact h2 q hq (by rw[hq2.1,e1])
  refine⟨setBlock w m (.map a clock),?_,⟨a,clock,heap_setBlock_same hb _,hst,by rw[hg];exact hm⟩,ju hb _⟩;simp[Builtin.delete_,run_underlying ht,MapKept.run_getObj_map hb,F.K.check w _ hkey,h1,MapKept.run_setObj_map _ hb,Result.andThen,setBlock]
 ·obtain⟨y,hy,hy1,hy2⟩:=ga hm h2;have e1:y.1=x:=F.inj _ _ (by rw[<-hy1,h3]);have hjs:j<a.size:=by simpa using(List.getElem?_eq_some_iff.1 h2).1
  have hsub:(a.eraseIdxIfInBounds j).toList=a.toList.eraseIdx j:=by unfold Array.eraseIdxIfInBounds;rw[dif_pos hjs];simp
  refine⟨setBlock w m (.map (a.eraseIdxIfInBounds j) clock),?_,⟨_,_,heap_setBlock_same hb _,stamped_erase hst j,?_⟩,ju hb _⟩
  ·simp[Builtin.delete_,run_underlying ht,MapKept.run_getObj_map hb,F.K.check w _ hkey,h1,MapKept.run_setObj_map _ hb,Result.andThen,setBlock]
  ·rw[hsub,map_eraseIdx,hm,<-map_eraseIdx,zbo hn hy,e1]
def zP{α:Type}(kf:α->Value)(w:World)(m r:Nat)(es left:List (α×Value)):Prop:=
 ∃a clock since seen c0,w.heap[m]? =some (.map a clock)/\Stamped a clock/\a.toList.map (λe=>(e.key,e.val))=es.map (λe=>(kf e.1,e.2))/\w.heap[r]? =some (.mapIter (some m) since seen c0)/\
  (∀x∈a.toList,x.born<since)/\(leftOf a seen).toList.map (λe=>(e.key,e.val))=left.map (λe=>(kf e.1,e.2))/\since<=c0/\since<=clock
theorem zP.owns{kf:α->Value}{w:World}{m r:Nat}{es left:List (α×Value)}(h:zP kf w m r es left):zD kf w m es:=by obtain⟨a,c,_,_,_,h1,h2,h3,_⟩:=h;exact⟨a,c,h1,h2,h3⟩
theorem zP.frame{kf:α->Value}{w:World}{m r:Nat}{es left:List (α×Value)}(h:zP kf w m r es left)(hm:w'.heap[m]? =w.heap[m]?)(hr:w'.heap[r]? =w.heap[r]?):zP kf w' m r es left:=by obtain⟨a,c,s,n,c0,h1,h2,h3,h4,h5⟩:=h;exact⟨a,c,s,n,c0,hm.trans h1,h2,h3,hr.trans h4,h5⟩
theorem zP.ne{kf:α->Value}{w:World}{m r:Nat}{es left:List (α×Value)}(h:zP kf w m r es left):r≠m/\r<w.heap.size:=by obtain⟨a,c,s,n,c0,h1,h2,h3,h4,_⟩:=h;exact⟨λe=>(by subst e;rw[h1]at h4;cases h4),(Array.getElem?_eq_some_iff.1 h4).1⟩
theorem zD.range{k t:TypeId}{kf:α->Value}{w:World}{m:Nat}{es:List (α×Value)}(ht:P.underlying t=some (.map k e))(h:zD kf w m es):
  ∃w',(Instr.range t (.map (some m))).run P w=.ok (.pointer (some ⟨w.heap.size,0,none⟩)) w'/\zP kf w' m w.heap.size es es/\za w w'/\w'.heap.size=w.heap.size+1:=by
 have hlt:=h.lt;obtain⟨a,clock,hb,hst,hm⟩:=h;refine⟨_,run_range_map w t k e m a clock ht hb,⟨a,clock,clock,#[],clock,((MapKept.heap_alloc w _).2 m hlt).trans hb,hst,hm,(MapKept.heap_alloc w _).1,hst.1,?_,Nat.le_refl _,Nat.le_refl _⟩,(za.refl w).alloc _,by simp⟩;unfold leftOf;simpa[List.filter_eq_self.2]using hm
theorem Jj{a:Array MapEntry}{seen:Array Nat}:(leftOf a seen).toList=a.toList.filter (λe=> !seen.contains e.born):=by unfold leftOf;rw[Array.toList_filter]
theorem zP.next[DecidableEq α]{k:TypeId}{kf:α->Value}{w:World}{m r:Nat}{es left:List (α×Value)}(F:YK P k kf)(h:zP kf w m r es left)(ty:TypeId):
  (left=[]/\(Instr.next (.pointer (some ⟨r,0,none⟩)) false ty).run P w=.ok (.tuple #[.bool false]) w)\/
  ∃x v w',(x,v)∈left/\(x,v)∈es/\(Instr.next (.pointer (some ⟨r,0,none⟩)) false ty).run P w=.ok (.tuple #[.bool true,kf x,v]) w'/\zP kf w' m r es (yK left x)/\zo (· =r) w w'/\w'.heap.size=w.heap.size/\
   (Instr.entry (.pointer (some ⟨r,0,none⟩))).run P w'=.ok (.tuple #[kf x,v]) w':=by
 have hne:=h.ne.1;obtain⟨a,clock,since,seen,c0,hb,hst,hm,hr,hold,hleft,hsc,hsk⟩:=h;rcases run_next_at (P:=P) w ty r m since c0 seen a clock hr hb hold hsc with⟨h0,hrun⟩|⟨e,he,w1,hal,hrun⟩
 ·refine Or.inl ⟨?_,hrun⟩;have h1:=congrArg List.length hleft;simp only[List.length_map,Array.length_toList]at h1;exact List.eq_nil_of_length_eq_zero (by omega)
 ·obtain⟨hem,hes⟩:=mem_left he;have hmem:∀(E:List (α×Value)) (A:List MapEntry),A.map (λe=>(e.key,e.val))=E.map (λe=>(kf e.1,e.2))->e∈A->∃x v,(x,v)∈E/\kf x=e.key/\v=e.val:=by
   intro E A hEA hA;have:(e.key,e.val)∈E.map (λe=>(kf e.1,e.2)):=by rw[<-hEA];exact List.mem_map.2 ⟨e,hA,rfl⟩
   obtain⟨y,hy,hy2⟩:=List.mem_map.1 this;simp only[Prod.mk.injEq]at hy2;exact⟨y.1,y.2,hy,hy2.1,hy2.2⟩
  obtain⟨x,v,hx,hxk,rfl⟩:=hmem left _ hleft he;obtain⟨x2,v2,hx2,hxk2,rfl⟩:=hmem es _ hm hem;have:x2=x:=F.inj _ _ (hxk2.trans hxk.symm);subst this;have hr1:w1.heap[r]? =some (.mapIter (some m) since seen c0):=by rcases hal with rfl|rfl<;>exact hr
  have hb1:w1.heap[m]? =some (.map a clock):=by rcases hal with rfl|rfl<;>exact hb
  have hset:=heap_set (o':=.mapIter (some m) since (seen.push e.born) clock) hr1;have hb':(setBlock w1 r (.mapIter (some m) since (seen.push e.born) clock)).heap[m]? =some (.map a clock):=(hset.2 m (λe1=>hne e1.symm)).trans hb1;refine Or.inr ⟨x2,e.val,_,hx,hx2,by rw[hxk2];exact hrun,⟨a,clock,since,seen.push e.born,clock,hb',hst,hm,hset.1,hold,?_,hsk,hsk⟩,?_,?_,by rw[hxk2];exact run_entry_at _ r m since seen a clock e hset.1 hb' hem ((stamped_iff a clock).1 hst).2.1⟩
  ·classical
   rw[Jj]at hleft⊢;have hkn:(a.toList.map (·.key)).Nodup:=hst.2.2;have e1:a.toList.filter (λq=> !(seen.push e.born).contains q.born)=(a.toList.filter (λq=> !seen.contains q.born)).filter (λq=>decide (q.key≠e.key)):=by
    rw[List.filter_filter];refine List.filter_congr λq hq=> ?_;have hbk:(q.born=e.born)↔q.key=e.key:=by
     constructor
     ·intro hb;rw[born_inj ((stamped_iff a clock).1 hst).2.1 hq hem hb]
     ·intro hk;rw[entry_eq_of_key ((stamped_iff a clock).1 hst).2.2 hq hem hk]
    rw[contains_push];by_cases hk:q.key=e.key
    ·have:=hbk.2 hk;simp[hk,this]
    ·have: ¬q.born=e.born:=λh=>hk (hbk.1 h);simp[hk,this]
   rw[e1];generalize a.toList.filter (λq=> !seen.contains q.born)=L at hleft;clear hx;unfold yK
   induction L generalizing left with
   |nil=>
    have:left=[]:=by simpa using hleft.symm
    subst this;rfl
   |cons q L ih=>
    cases left with
    |nil=>simp at hleft
    |cons y left=>
     simp only[List.map_cons,List.cons.injEq,Prod.mk.injEq]at hleft;obtain⟨⟨h1,h2⟩,h3⟩:=hleft;have h4:=ih h3;by_cases hq:q.key=e.key
     ·have:y.1=x2:=F.inj _ _ (by rw[<-h1,hq,hxk2]);rw[List.filter_cons_of_neg (by simp[hq]),List.filter_cons_of_neg (by simp[this])];exact h4
     ·have: ¬y.1=x2:=λe2=>hq (by rw[h1,e2,hxk2]);rw[List.filter_cons_of_pos (by simpa using hq),List.filter_cons_of_pos (by simpa using this)];simp only[List.map_cons,h1,h2];rw[h4]
  ·rcases hal with rfl|rfl<;>exact⟨rfl,rfl,rfl,by simp[setBlock],λi _ hi=>hset.2 i hi⟩
  ·rcases hal with rfl|rfl<;>simp[setBlock]
theorem zP.put[DecidableEq α]{k t:TypeId}{kf:α->Value}{w:World}{m r:Nat}{es left:List (α×Value)}(F:YK P k kf)(ht:P.underlying t=some (.map k e))
  (h:zP kf w m r es left)(x:α)(v:Value)(hx:(jt es x).isSome=true):∃w',(Instr.mapUpdate t (.map (some m)) (kf x) v).run P w=.ok () w'/\zP kf w' m r (xx es x v) (left.map λe=>if e.1=x then (x,v)else e)/\zo (· =m) w w'/\w'.heap.size=w.heap.size:=by
 have hne:=h.ne.1;obtain⟨a,clock,since,seen,c0,hb,hst,hm,hr,hold,hleft,hsc,hsk⟩:=h;have hn:=Yq hst hm;obtain⟨l,hkey⟩:=F.ok x;rcases F.K.find w hkey a.toList (KE F hm)with⟨h1,h2⟩|⟨j,e0,h1,h2,h3⟩
 ·have hg:jt es x=none:=QR.2 λy hy e1=>by
   have:(kf y.1,y.2)∈a.toList.map (λe=>(e.key,e.val)):=by rw[hm];exact List.mem_map.2 ⟨y,hy,rfl⟩
   obtain⟨q,hq,hq2⟩:=List.mem_map.1 this;simp only[Prod.mk.injEq]at hq2;exact h2 q hq (by rw[hq2.1,e1])
  rw[hg]at hx;simp at hx
 ·have hj:a[j]? =some e0:=by simpa using h2
  obtain⟨y,hy,hy1,hy2⟩:=ga hm h2;have e1:y.1=x:=F.inj _ _ (by rw[<-hy1,h3]);have hkeyf:∀e',a[j]? =some e'->({e' with key:=kf x,val:=v}:MapEntry).key=e'.key:=λe' he'=>by rw[hj]at he';cases he';exact h3.symm
  have hlist:(a.modify j (λe'=>{e' with key:=kf x,val:=v})).toList=a.toList.set j {e0 with key:=kf x,val:=v}:=by rw[Array.toList_modify,modify_eq_set _ _ _ _ h2]
  classical
  have hmapl:a.toList.set j {e0 with key:=kf x,val:=v}=a.toList.map (λq=>if q.key=kf x then {q with key:=kf x,val:=v}else q):=by
   apply List.ext_getElem?;intro i;have hjl:=(List.getElem?_eq_some_iff.1 h2).1;rw[List.getElem?_set,List.getElem?_map];by_cases hij:j=i
   ·subst hij;rw[if_pos rfl,if_pos hjl,h2];simp[h3]
   ·rw[if_neg hij];cases hi:a.toList[i]? with
    |none=>rfl
    |some q=>
     have:q.key≠kf x:=by
      intro e;have g1:(a.toList.map (·.key))[i]? =some q.key:=by rw[List.getElem?_map,hi];rfl
      have g2:(a.toList.map (·.key))[j]? =some q.key:=by rw[List.getElem?_map,h2,Option.map_some,h3,e]
      exact hij ((List.getElem?_inj (by simpa using hjl) hst.2.2).1 (g2.trans g1.symm))
     simp[this]
  have hpre:∀(A:List MapEntry) (E:List (α×Value)),A.map (λe=>(e.key,e.val))=E.map (λe=>(kf e.1,e.2))->
    (A.map (λq=>if q.key=kf x then {q with key:=kf x,val:=v}else q)).map (λe=>(e.key,e.val))=(E.map λe=>if e.1=x then (x,v)else e).map (λe=>(kf e.1,e.2)):=by
   intro A
   induction A with
   |nil=>intro E h;cases E with
    |nil=>rfl
    |cons _ _=>simp at h
   |cons q A ih=>
    intro E h;cases E with
    |nil=>simp at h
    |cons z E=>
     simp only[List.map_cons,List.cons.injEq,Prod.mk.injEq]at h;obtain⟨⟨g1,g2⟩,g3⟩:=h;simp only[List.map_cons,List.cons.injEq];refine⟨?_,ih E g3⟩;by_cases hz:z.1=x
     ·have:q.key=kf x:=by rw[g1,hz]
      simp[hz,this]
     ·have: ¬q.key=kf x:=λe=>hz (F.inj _ _ (by rw[<-g1,e]));rw[if_neg this,if_neg hz,g1,g2]
  have hborn:∀q:MapEntry,(if q.key=kf x then ({q with key:=kf x,val:=v}:MapEntry)else q).born=q.born:=λq=>by split<;>rfl
  refine⟨setBlock w m (.map (a.modify j (λe'=>{e' with key:=kf x,val:=v})) clock),?_,⟨_,clock,since,seen,c0,heap_setBlock_same hb _,stamped_modify hst _ _ (λ_ _=>rfl) (λe' _ he'=>hkeyf e' he'),?_,(heap_setBlock_other hb _ hne).trans hr,?_,?_,hsc,hsk⟩,ju hb _,by simp[setBlock]⟩
  ·simp[Instr.mapUpdate,run_underlying ht,MapKept.run_getObj_map hb,F.K.check w false hkey,h1,hj,h3,F.K.stays w hkey,MapKept.run_setObj_map _ hb,Result.andThen,setBlock]
  ·rw[hlist,hmapl,hpre _ _ hm];unfold xx;rw[if_pos hx]
  ·intro q hq;rw[hlist,hmapl]at hq;obtain⟨q',hq',rfl⟩:=List.mem_map.1 hq;rw[hborn];exact hold _ hq'
  ·rw[Jj]at hleft⊢;rw[hlist,hmapl,List.filter_map];have:((λe:MapEntry=> !seen.contains e.born)∘λq:MapEntry=>if q.key=kf x then ({q with key:=kf x,val:=v}:MapEntry)else q)=λe=> !seen.contains e.born:=by
    funext q;simp only[Function.comp,hborn]
   rw[this];exact hpre _ _ hleft
theorem gc{κ:Type}[DecidableEq κ](f:β->κ){l:List β}(hn:(l.map f).Nodup){y:β}(hy:l[j]? =some y):l.eraseIdx j=l.filter (λq=>decide (f q≠f y)):=by
 induction l generalizing j with
 |nil=>simp at hy
 |cons e l ih=>
  simp only[List.map_cons,List.nodup_cons]at hn;cases j with
  |zero=>
   simp only[List.getElem?_cons_zero,Option.some.injEq]at hy;subst hy;rw[List.filter_cons_of_neg (by simp)];simp only[List.eraseIdx_zero,List.tail_cons]
   symm
   rw[List.filter_eq_self];intro q hq;simp only[ne_eq,decide_not,Bool.not_eq_true',decide_eq_false_iff_not];intro h;exact hn.1 (List.mem_map.2 ⟨q,hq,h⟩)
  |succ j=>simp only[List.getElem?_cons_succ]at hy;have hne:f e≠f y:=λh=>hn.1 (List.mem_map.2 ⟨y,List.mem_of_getElem? hy,h.symm⟩);rw[List.filter_cons_of_pos (by simpa using hne)];simp only[List.eraseIdx_cons_succ];rw[ih hn.2 hy]
theorem zP.del[DecidableEq α]{k t:TypeId}{kf:α->Value}{w:World}{m r:Nat}{es left:List (α×Value)}(F:YK P k kf)(ht:P.underlying t=some (.map k e))
  (h:zP kf w m r es left)(x:α)(ty:TypeId):∃w',(Builtin.delete_ #[t,k] ty #[.map (some m),kf x]).run P w=.ok (.tuple #[]) w'/\zP kf w' m r (yK es x) (yK left x)/\zo (· =m) w w'/\w'.heap.size=w.heap.size:=by
 have hne:=h.ne.1;obtain⟨a,clock,since,seen,c0,hb,hst,hm,hr,hold,hleft,hsc,hsk⟩:=h;have hn:=Yq hst hm;obtain⟨l,hkey⟩:=F.ok x
 classical
 have hpre:∀(A:List MapEntry) (E:List (α×Value)),A.map (λe=>(e.key,e.val))=E.map (λe=>(kf e.1,e.2))->(A.filter (λq=>decide (q.key≠kf x))).map (λe=>(e.key,e.val))=(yK E x).map (λe=>(kf e.1,e.2)):=by
  intro A
  induction A with
  |nil=>intro E h;cases E with
   |nil=>rfl
   |cons _ _=>simp at h
  |cons q A ih=>
   intro E h;cases E with
   |nil=>simp at h
   |cons z E=>
    simp only[List.map_cons,List.cons.injEq,Prod.mk.injEq]at h;obtain⟨⟨g1,g2⟩,g3⟩:=h;have h4:=ih E g3;unfold yK at h4⊢;by_cases hz:z.1=x
    ·have:q.key=kf x:=by rw[g1,hz]
     rw[List.filter_cons_of_neg (by simp[this]),List.filter_cons_of_neg (by simp[hz])];exact h4
    ·have: ¬q.key=kf x:=λe=>hz (F.inj _ _ (by rw[<-g1,e]));rw[List.filter_cons_of_pos (by simpa using this),List.filter_cons_of_pos (by simpa using hz)];simp only[List.map_cons,g1,g2];rw[h4]
 have hfin:∀a':Array MapEntry,a'.toList=a.toList.filter (λq=>decide (q.key≠kf x))->Stamped a' clock->zP kf (setBlock w m (.map a' clock)) m r (yK es x) (yK left x):=by
  intro a' ha' hs';refine⟨a',clock,since,seen,c0,heap_setBlock_same hb _,hs',by rw[ha',hpre _ _ hm],(heap_setBlock_other hb _ hne).trans hr,λq hq=> ?_,?_,hsc,hsk⟩
  ·rw[ha']at hq;exact hold q (List.mem_filter.1 hq).1
  ·rw[Jj]at hleft⊢;rw[ha',List.filter_filter];have e1:(a.toList.filter λq=>(!seen.contains q.born) && decide (q.key≠kf x))=(a.toList.filter λq=> !seen.contains q.born).filter (λq=>decide (q.key≠kf x)):=by
    rw[List.filter_filter];exact List.filter_congr λq _=>Bool.and_comm _ _
   rw[e1,hpre _ _ hleft]
 rcases F.K.find w hkey a.toList (KE F hm)with⟨h1,h2⟩|⟨j,e0,h1,h2,h3⟩
 ·refine⟨setBlock w m (.map a clock),?_,hfin a ?_ hst,ju hb _,by simp[setBlock]⟩
  ·simp[Builtin.delete_,run_underlying ht,MapKept.run_getObj_map hb,F.K.check w _ hkey,h1,MapKept.run_setObj_map _ hb,Result.andThen,setBlock]
  ·symm
   rw[List.filter_eq_self];intro q hq;simpa using h2 q hq
 ·have hjs:j<a.size:=by simpa using(List.getElem?_eq_some_iff.1 h2).1
  have hsub:(a.eraseIdxIfInBounds j).toList=a.toList.eraseIdx j:=by unfold Array.eraseIdxIfInBounds;rw[dif_pos hjs];simp
  refine⟨setBlock w m (.map (a.eraseIdxIfInBounds j) clock),?_,hfin _ ?_ (stamped_erase hst j),ju hb _,by simp[setBlock]⟩
  ·simp[Builtin.delete_,run_underlying ht,MapKept.run_getObj_map hb,F.K.check w _ hkey,h1,MapKept.run_setObj_map _ hb,Result.andThen,setBlock]
  ·rw[hsub];have hkn:(a.toList.map (·.key)).Nodup:=hst.2.2;rw[gc (λq:MapEntry=>q.key) hkn h2,h3]
theorem vL{P:Program}{w w':World}{ops:Array Oper}{rest:List Oper}{o:Oper}{a:Act}{Q:Exit->Act->World->Prop}(hgd:o.guard=none){mo xo:Operand}{t k:TypeId}
  (ho:o.op=.call {callee:=.builtin .delete,args:= #[mo,xo],argTypes:= #[t,k]}){mv xv:Value}(hm:a.eval mo=mv)(hx:a.eval xo=xv)(hrun:(Builtin.delete_ #[t,k] o.type #[mv,xv]).run P w=.ok (.tuple #[]) w')
  (h:wpList P ops Q rest (a.put o.dst (.tuple #[])) w'):wpList P ops Q (o::rest) a w:=by
 refine wpList_plain hgd λK hK=> ?_;unfold Oper.wp execOp;simp only[ho,resolve,invoke,builtin,Sem.run_bind,Sem.run_pure,Result.andThen_ok,List.map_toArray,List.map_cons,List.map_nil,hm,hx,hrun];exact hK _ _ h
end
inductive zF where
 |auth|roles|users
def zF.num:zF->Int
 |.auth=>20
 |.roles=>22
 |.users=>21
def zF.name:zF->Bytes
 |.auth=>[97,117,116,104]
 |.roles=>[97,117,116,104,82,111,108,101,115]
 |.users=>[97,117,116,104,85,115,101,114,115]
def zF.raw(b:zF):Value:=.agg #[.int .i64 b.num,.string ⟨b.name.toArray⟩,.bool false]
def zF.val(b:zF):Value:=.iface 428 b.raw
theorem Qj(w:World):Calls prog 215 #[] w λe w'=>e=.returned (zF.auth).val/\w=w':=by go_enter func215,ntmps215;go_wp2;go_ret;exact⟨rfl,rfl⟩
theorem kF(w:World):Calls prog 216 #[] w λe w'=>e=.returned (zF.users).val/\w=w':=by go_enter func216,ntmps216;go_wp2;go_ret;exact⟨rfl,rfl⟩
theorem kG(w:World):Calls prog 217 #[] w λe w'=>e=.returned (zF.roles).val/\w=w':=by go_enter func217,ntmps217;go_wp2;go_ret;exact⟨rfl,rfl⟩
theorem xl(b:zF)(w:World):Calls prog 298 #[b.raw] w λe w'=>e=.returned (.int .i64 b.num)/\w'=w.alloc (.cells #[.int .i64 b.num,.string ⟨b.name.toArray⟩,.bool false] 428):=by unfold zF.raw;generalize(⟨b.name.toArray⟩:ByteArray)=s;generalize b.num=i;go_enter func298,ntmps298;go_wp2;go_ret;exact⟨rfl,rfl⟩
theorem jQ(w:World)(src dst e:TypeId){l:Bytes}{u:TypeDesc}(hs:P.underlying src=some u)(hd:P.underlying dst=some (.slice e))(he:P.underlying e=some (.int .u8))(hl:l.length<=1000000):
  ∃v w',(convert src dst (.string ⟨l.toArray⟩)).run P w=.ok v w'/\za w w'/\Bs w'.cell? l v/\(∃n c,v=.slice (some ⟨w.heap.size,0,none⟩) n c)/\w.heap.size<w'.heap.size:=by
 have hsz:(⟨l.toArray⟩:ByteArray).size=l.length:=by simp[ByteArray.size]
 refine⟨_,_,Lib.run_convert_string_bytes w src dst e ⟨l.toArray⟩ hs hd he,⟨rfl,rfl,rfl,by rw[Lib.bytesWorld_size];omega,λk hk _=>Lib.bytesWorld_at_old w e _ k hk⟩,?_,⟨_,_,rfl⟩,by rw[Lib.bytesWorld_size];omega⟩;refine⟨_,_,_,rfl,hsz.symm,grownCap_ge _ _ _ _,?_,(λh=>by cases h),Or.inr ⟨_,_,rfl,λi hi=> ?_⟩⟩
 ·have:=grownCap_le_maxLen w (⟨l.toArray⟩:ByteArray).size 0 e (by rw[hsz];simp only[maxLen];omega);simpa only[maxLen]using this
 ·have:=Lib.bytesWorld_cell w e ⟨l.toArray⟩ i (by rw[hsz];exact hi);rw[Nat.zero_add,this];simp[List.getD,hi]
theorem jR(b:zF)(w:World):Calls prog 300 #[b.raw] w λe w'=>∃v,e=.returned v/\za w w'/\Bs w'.cell? b.name v/\∀q,v.ownBlock=some q->w.heap.size<=q:=by
 have hl:b.name.length<=9:=by cases b<;>decide
 unfold zF.raw;generalize b.name=l at*
 generalize b.num=i;obtain⟨v,w',hrun,hnew,hbs,⟨n,c,rfl⟩,hlt⟩:=jQ (P:=prog) (w.alloc (.cells #[.int .i64 i,.string ⟨l.toArray⟩,.bool false] 428)) 9 75 5 (l:=l) (u:=.string) (by kernel_rfl) (by kernel_rfl) (by kernel_rfl) (by omega);have HN:=hid (za.trans ((za.refl w).alloc _) hnew);clear hnew;have hsz:(w.alloc (.cells #[.int .i64 i,.string ⟨l.toArray⟩,.bool false] 428)).heap.size=w.heap.size+1:=by simp
 rw[hsz]at hbs;clear hsz;have HB:=hid hbs;clear hbs;generalize(⟨l.toArray⟩:ByteArray)=s at*
 go_enter func300,ntmps300;go_wp2;go_ret;exact⟨_,rfl,HN.out,HB.out,λq hq=>by simp[Value.ownBlock]at hq;omega⟩
def jv(r:Rd)(w:World)(bb a:Nat)(u:List Bytes):Prop:=
 w.heap[bb]? =some (.cells #[.slice (some ⟨a,0,none⟩) 512 512,.int .i64 u.length] 305 (0,0))/\u.length<512/\
 ∃arr:Array Value,w.heap[a]? =some (.cells arr 313 (0,0))/\arr.size=1024/\(∀j (h:j<arr.size),arr[j].oneCell'=true)/\
  ∀i,i<u.length->∃k v:Bytes,∃kv vv,u[i]? =some k/\arr[i*2]? =some kv/\arr[i*2+1]? =some vv/\Bs r k kv/\Bs r v vv
variable{bb:Nat}
theorem jv.frame{w:World}{u:List Bytes}(h:jv r w bb a u)(h1:w'.heap[bb]? =w.heap[bb]?)(h2:w'.heap[a]? =w.heap[a]?)(hr:r.le r'):jv r' w' bb a u:=by obtain⟨g1,g2,arr,g3,g4,g5,g6⟩:=h;refine⟨h1.trans g1,g2,arr,h2.trans g3,g4,g5,λi hi=> ?_⟩;obtain⟨k,v,kv,vv,e0,e1,e2,e3,e4⟩:=g6 i hi;exact⟨k,v,kv,vv,e0,e1,e2,e3.mono hr,e4.mono hr⟩
theorem Gq{arr:Array Value}(h:∀j (h:j<arr.size),arr[j].oneCell'=true)(i:Nat)(hv:v.oneCell'=true):∀j (h:j<(arr.setIfInBounds i v).size),(arr.setIfInBounds i v)[j].oneCell'=true:=by
 intro j hj;have hj':j<arr.size:=by simpa using hj
 rw[Array.getElem_setIfInBounds];split
 ·exact hv
 ·exact h j hj'
variable{ks:List Bytes}
theorem Uc{w:World}{k v:Bytes}(hb:S bb)(ha:S a)(h:jv (im S w) w bb a ks)(hu:ks.length+1<512)(hk:Bs (im S w) k kv)(hv:Bs (im S w) v vv):
  Calls prog 103 #[ptr bb,kv,vv] w λe w'=>e=.returned (.tuple #[])/\zo (λb=>b=bb\/b=a) w w'/\jv (im S w') w' bb a (ks++[k]):=by
 obtain⟨g1,_,arr,g3,g4,g5,g6⟩:=h;obtain⟨u,hun⟩:=zex (ks.length);rw[<-hun]at g1 g6 hu;have HUN:=hid hun;clear hun;obtain⟨kp,kn,kc,rfl,_⟩:=hk.shape;obtain⟨vp,vn,vc,rfl,_⟩:=hv.shape;have c0:w.cell? ⟨bb,0,none⟩=some (.slice (some ⟨a,0,none⟩) 512 512):=by rw[cell_of_row w bb 0 _ _ (0,0) g1];rfl
 have c1:w.cell? ⟨bb,1,none⟩=some (.int .i64 u):=by rw[cell_of_row w bb 1 _ _ (0,0) g1];rfl
 have f1:w.frozen? ⟨bb,1,none⟩=false:=by simp[World.frozen?,g1]
 have hab:a≠bb:=by intro e;subst e;rw[g1]at g3;simp at g3
 obtain⟨x0,k0⟩:∃x,w.cell? ⟨a,u*2,none⟩=some x:=⟨_,by rw[cell_of_row w a _ _ _ (0,0) g3];exact Array.getElem?_eq_getElem (by omega)⟩;obtain⟨x1,k1⟩:∃x,w.cell? ⟨a,u*2+1,none⟩=some x:=⟨_,by rw[cell_of_row w a _ _ _ (0,0) g3];exact Array.getElem?_eq_getElem (by omega)⟩;have fa0:w.frozen? ⟨a,u*2,none⟩=false:=by simp[World.frozen?,g3]
 have fa1:w.frozen? ⟨a,u*2+1,none⟩=false:=by simp[World.frozen?,g3]
 have hi:(u:Int)<512:=by omega
 have he:((u:Int)+1==512)=false:=by simp;omega
 have HK:=hid hk;clear hk;have HV:=hid hv;clear hv;have G1:=hid g1;clear g1;have G3:=hid g3;clear g3;have G4:=hid g4;clear g4;have G5:=hid g5;clear g5;have G6:=hid g6;clear g6;go_enter func103,ntmps103;go_wp2;go_region;go_wp2;go_quiet (fail);go_wp2;go_end0;have hM:zo (λb=>b=bb\/b=a) w (((w.setCell ⟨a,u*2,none⟩ (.slice kp kn kc)).setCell ⟨a,u*2+1,none⟩ (.slice vp vn vc)).setCell ⟨bb,1,none⟩ (.int .i64 ((u:Int)+1))):=
  vA (S:=λb=>b=bb\/b=a) (vA (S:=λb=>b=bb\/b=a) (vA (S:=λb=>b=bb\/b=a) (zo.refl _ w) (Or.inr rfl) _) (Or.inr rfl) _) (Or.inl rfl) _
 have ha2:(((w.setCell ⟨a,u*2,none⟩ (.slice kp kn kc)).setCell ⟨a,u*2+1,none⟩ (.slice vp vn vc)).setCell ⟨bb,1,none⟩ (.int .i64 ((u:Int)+1))).heap[a]? =some (.cells ((arr.setIfInBounds (u*2) (.slice kp kn kc)).setIfInBounds (u*2+1) (.slice vp vn vc)) 313 (0,0)):=by rw[Below.heap_setCell _ _ _ _ hab,heap_setCell_same _ a (u*2+1) _ _ _ (heap_setCell_same w a (u*2) _ _ _ G3.out)]
 have hb2:(((w.setCell ⟨a,u*2,none⟩ (.slice kp kn kc)).setCell ⟨a,u*2+1,none⟩ (.slice vp vn vc)).setCell ⟨bb,1,none⟩ (.int .i64 ((u:Int)+1))).heap[bb]? =some (.cells #[.slice (some ⟨a,0,none⟩) 512 512,.int .i64 ((u+1:Nat):Int)] 305 (0,0)):=by
  have h0:((w.setCell ⟨a,u*2,none⟩ (.slice kp kn kc)).setCell ⟨a,u*2+1,none⟩ (.slice vp vn vc)).heap[bb]? =some (.cells #[.slice (some ⟨a,0,none⟩) 512 512,.int .i64 u] 305 (0,0)):=by rw[Below.heap_setCell _ _ _ _ (λe=>hab e.symm),Below.heap_setCell _ _ _ _ (λe=>hab e.symm)];exact G1.out
  rw[heap_setCell_same _ bb 1 _ _ _ h0];rfl
 generalize(((w.setCell ⟨a,u*2,none⟩ (.slice kp kn kc)).setCell ⟨a,u*2+1,none⟩ (.slice vp vn vc)).setCell ⟨bb,1,none⟩ (.int .i64 ((u:Int)+1)))=W at*
 have hM':zo (λb=>b=bb\/b=a) w (W.drew.drewN nq):=hM.drew.drewN nq;have hle:(im S w).le (im S (W.drew.drewN nq)):=(hM'.mono (S':=S) λ_ _ e=>by rcases e with rfl|rfl;exact hb;exact ha).im λ_ _ h=>h;have hkl:(ks++[k]).length=u+1:=by rw[List.length_append,<-HUN.out];rfl
 refine⟨rfl,hM',?_⟩;unfold jv;rw[hkl];refine⟨hb2,by omega,_,ha2,by simpa using G4.out,?_,?_⟩
 ·exact Gq (Gq G5.out _ rfl) _ rfl
 ·intro i hi';have hs:=G4.out;by_cases e:i=u
  ·subst e;refine⟨k,v,.slice kp kn kc,.slice vp vn vc,by rw[List.getElem?_append_right (by rw[<-HUN.out];exact Nat.le_refl _),HUN.out];simp,?_,?_,HK.out.mono hle,HV.out.mono hle⟩
   ·rw[Array.getElem?_setIfInBounds_ne (by omega),Array.getElem?_setIfInBounds_self_of_lt (by omega)]
   ·rw[Array.getElem?_setIfInBounds_self_of_lt (by simp;omega)]
  ·obtain⟨k',v',kv,vv,e0,e1,e2,e3,e4⟩:=G6.out i (by omega);refine⟨k',v',kv,vv,by rw[List.getElem?_append_left (by rw[<-HUN.out];omega)];exact e0,?_,?_,e3.mono hle,e4.mono hle⟩
   ·rw[Array.getElem?_setIfInBounds_ne (by omega),Array.getElem?_setIfInBounds_ne (by omega)];exact e1
   ·rw[Array.getElem?_setIfInBounds_ne (by omega),Array.getElem?_setIfInBounds_ne (by omega)];exact e2
theorem zct:yB prog 303 313 (.agg #[.slice none 0 0,.slice none 0 0]) 2 48:=⟨by kernel_rfl,by kernel_rfl,rfl,by decide⟩
theorem zbp(w:World):∃arr:Array Value,arr.size=1024/\(∀j (h:j<arr.size),arr[j].oneCell'=true)/\
  (Instr.makeSlice 303 (.int .i64 512) (.int .i64 512)).run prog w=.ok (.slice (some ⟨w.heap.size,0,none⟩) 512 512) (w.alloc (.cells arr 313)):=by
 obtain⟨i,hi,hz,hsz,hby⟩:=info_parts zct.info;have h:=run_make (P:=prog) w 303 313 i _ zct.under hi hz .i64 .i64 512 512 (by omega) (by omega) (by rw[hby];omega) (by omega);rw[hsz]at h;have hg:∀j,j<1024->(madeCells (Value.agg #[Value.slice none 0 0,Value.slice none 0 0]).cells 1024)[j]? =some (.slice none 0 0):=by intro j hj;unfold madeCells;rw[Array.getElem?_map,Array.getElem?_range];simp only[hj,if_true,Option.map_some];show some (#[Value.slice none 0 0,Value.slice none 0 0][j % 2]!)=_;rcases Nat.mod_two_eq_zero_or_one j with e|e<;>rw[e]<;>rfl
 refine⟨_,size_madeCells _ _,λj hj=> ?_,h⟩;have h2:=hg j (by rw[size_madeCells]at hj;exact hj);rw[Array.getElem?_eq_some_iff]at h2;obtain⟨h3,h4⟩:=h2;exact(congrArg Value.oneCell' h4).trans rfl
theorem zcO(w:World):Calls prog 345 #[] w λe w'=>∃bb a,e=.returned (ptr bb)/\za w w'/\(∀r,jv r w' bb a [])/\w.heap.size<=bb/\w.heap.size<=a/\bb<w'.heap.size/\a<w'.heap.size/\bb≠a:=by obtain⟨arr,h1,h2,hmk⟩:=zbp w;have H2:=hid h2;clear h2;go_enter func345,ntmps345;go_wp2;go_ret;refine⟨_,w.heap.size,rfl,((za.refl w).alloc _).alloc _,λr=>⟨by have:=zg (w.alloc (.cells arr 313)) (.cells #[.slice (some ⟨w.heap.size,0,none⟩) 512 512,.int .i64 0] 305);simpa using this,by decide,arr,?_,h1,H2.out,λi hi=>absurd hi (Nat.not_lt_zero i)⟩,by simp,Nat.le_refl _,by simp,by simp;omega,by simp⟩;rw[Below.heap_alloc _ _ _ (by simp),zg]
abbrev k6(b:zF):Value:=.int .i64 b.num
theorem Zg:YK prog 299 k6:=by
 have hu:prog.underlying 299=some (.int .i64):=by kernel_rfl
 refine⟨Maps.int_keyed hu,λx=>⟨_,Maps.keyOf_int_mk hu (by cases x<;>decide)⟩,λx y h=> ?_⟩;cases x<;>cases y<;>first|rfl|(simp[k6,zF.num]at h)
deriving instance DecidableEq for zF
theorem QS(raw:Value)(W:World):(method 608 428 raw "ID").run prog W=.ok (298,raw) W:=by kernel_rfl
structure zR(r:Rd)(w:World)(F:Nat->Prop)(m:Nat)(es:List (zF×(Nat×Nat×List Bytes))):Prop where
 map:zD k6 w m (es.map λe=>(e.1,ptr e.2.1))
 ok:∀e∈es,F e.2.1/\F e.2.2.1/\jv r w e.2.1 e.2.2.1 e.2.2.2
 apart:(es.flatMap λe=>[e.2.1,e.2.2.1]).Nodup
theorem zR.frame{w:World}{m:Nat}{es:List (zF×(Nat×Nat×List Bytes))}(h:zR r w F m es)(hm:w'.heap[m]? =w.heap[m]?)(hF:∀b,F b->w'.heap[b]? =w.heap[b]?)(hr:r.le r'):zR r' w' F m es:=
 ⟨h.map.frame hm,λe he=>⟨(h.ok e he).1,(h.ok e he).2.1,(h.ok e he).2.2.frame (hF _ (h.ok e he).1) (hF _ (h.ok e he).2.1) hr⟩,h.apart⟩
def yC(es:List (zF×(Nat×Nat×List Bytes)))(b:zF):List Bytes:=((es.find? (λe=>e.1=b)).map (·.2.2.2)).getD []
theorem jv.lt2{w:World}{u:List Bytes}(h:jv r w bb a u):a<w.heap.size:=by obtain⟨_,_,arr,h3,_⟩:=h;exact(Array.getElem?_eq_some_iff.1 h3).1
theorem jv.lt1{w:World}{u:List Bytes}(h:jv r w bb a u):bb<w.heap.size:=(Array.getElem?_eq_some_iff.1 h.1).1
variable{t:Nat}
theorem J4{w:World}{m:Nat}{u:List Bytes}{es:List (zF×(Nat×Nat×List Bytes))}{b:zF}{k v:Bytes}(hFS:∀b,F b->S b)
  (h3:w.cell? ⟨t,3,none⟩=some (.map (some m)))(h:zR (im S w) w F m es)(he:(b,bb,a,u)∈es)(hu:u.length+1<512)(hk:Bs (im S w) k kv)(hv:Bs (im S w) v vv):
  Calls prog 343 #[.pointer (some ⟨t,3,none⟩),b.val,kv,vv] w λe w'=>e=.returned (.tuple #[])/\zo (λj=>j=bb\/j=a) w w'/\jv (im S w') w' bb a (u++[k]):=by
 obtain⟨kp,kn,kc,rfl,_⟩:=hk.shape;obtain⟨vp,vn,vc,rfl,_⟩:=hv.shape;obtain⟨o1,o2,o3⟩:=h.ok _ he;have HK:=hid hk;clear hk;have HV:=hid hv;clear hv;have H:=hid h;clear h;have O1:=hid o1;clear o1;have O2:=hid o2;clear o2;have O3:=hid o3;clear o3;have hlt:t<w.heap.size:=World.block_lt_of_cell? w _ h3;have hl:=zD.look (P:=prog) (t:=239) (e:=300) Zg (by kernel_rfl) (z:=.pointer none) (by kernel_rfl)
  (H.out.map.frame (w':=(w.alloc (.cells #[.int .i64 b.num,.string ⟨b.name.toArray⟩,.bool false] 428)).drew) (Below.heap_alloc _ _ _ H.out.map.lt)) b true
 rw[xP H.out.map.nodup (List.mem_map.2 ⟨_,he,rfl⟩)]at hl;simp only[if_true]at hl;have HD:zo (λ_=>False) w ((w.alloc (.cells #[.int .i64 b.num,.string ⟨b.name.toArray⟩,.bool false] 428)).drew):=((za.refl w).alloc _).drew;unfold zF.val;have HID:=xl b;have hmeth:=QS b.raw;generalize zF.raw b=raw at*
 go_enter func343,ntmps343;go_wp2;go_region_with (go_at_call 298;refine(HID _).mono ?_;rintro e w1 ⟨rfl,rfl⟩)
 all_goals
  go_wp2_with fail;refine(Uc (S:=S) (hFS _ O1.out) (hFS _ O2.out) (O3.out.frame (HD.block _ (Array.getElem?_eq_some_iff.1 O3.out.1).1 (λe=>e)) (HD.block _ O3.out.lt2 (λe=>e)) (za.im HD S)) hu (HK.out.mono (za.im HD S)) (HV.out.mono (za.im HD S))).mono ?_;rintro e w2 ⟨rfl,hm2,hb2⟩;have HB2:=hid hb2;clear hb2;have HM2:=hid hm2;clear hm2;go_wp2;go_end0;exact⟨rfl,zo.trans (za.mod HD _) HM2.out λ_ _ h=>h,HB2.out⟩
theorem zo.size_lt{w:World}(h:zo S w w')(hb:b<w.heap.size):b<w'.heap.size:=Nat.lt_of_lt_of_le hb h.size
theorem J5{w:World}{m:Nat}{es:List (zF×Value)}{b:zF}{k v:Bytes}(hS:∀j,S j->j<w.heap.size)(hSm:S m)
  (h3:w.cell? ⟨t,3,none⟩=some (.map (some m)))(h:zD k6 w m es)(he:jt es b=none)(hsm:es.length<=1000)(hk:Bs (im S w) k kv)(hv:Bs (im S w) v vv):
  Calls prog 343 #[.pointer (some ⟨t,3,none⟩),b.val,kv,vv] w λe w'=>∃bb a,e=.returned (.tuple #[])/\zo (· =m) w w'/\w.heap.size<=bb/\w.heap.size<=a/\bb≠a/\zD k6 w' m (xx es b (ptr bb))/\
   jv (im (λj=>S j\/j=bb\/j=a) w') w' bb a [k]:=by
 obtain⟨kp,kn,kc,rfl,_⟩:=hk.shape;obtain⟨vp,vn,vc,rfl,_⟩:=hv.shape;have HK:=hid hk;clear hk;have HV:=hid hv;clear hv;have H:=hid h;clear h;have HS:=hid hS;clear hS;have HE:=hid he;clear he;have hlt:t<w.heap.size:=World.block_lt_of_cell? w _ h3;have hl:=zD.look (P:=prog) (t:=239) (e:=300) Zg (by kernel_rfl) (z:=.pointer none) (by kernel_rfl)
  (H.out.frame (w':=(w.alloc (.cells #[.int .i64 b.num,.string ⟨b.name.toArray⟩,.bool false] 428)).drew) (Below.heap_alloc _ _ _ H.out.lt)) b true
 rw[HE.out]at hl;simp only[if_true]at hl;have HD:zo (λ_=>False) w ((w.alloc (.cells #[.int .i64 b.num,.string ⟨b.name.toArray⟩,.bool false] 428)).drew):=((za.refl w).alloc _).drew;unfold zF.val;have HID:=xl b;have hmeth:=QS b.raw;generalize zF.raw b=raw at*
 go_enter func343,ntmps343;go_wp2;go_region_with (go_at_call 298;refine(HID _).mono ?_;rintro e w1 ⟨rfl,rfl⟩)
 all_goals
  clear hl;go_wp2_with fail;refine(zcO _).mono ?_;rintro e w2 ⟨bb,a,rfl,hnew,hbb,g1,g2,g3,g4,g5⟩;have hN2:za w w2:=za.trans HD hnew;have hls:w.heap.size<=bb:=Nat.le_trans HD.size g1;have hla:w.heap.size<=a:=Nat.le_trans HD.size g2;have t3:w2.cell? ⟨t,3,none⟩=some (.map (some m)):=hN2.le _ _ h3;have HBB:=hid hbb;clear hbb;have HN2:=hid hN2;clear hN2;clear hnew g1 g2;have hlt2:t<w2.heap.size:=World.block_lt_of_cell? w2 _ t3;obtain⟨w3,hput,hmap,hmod⟩:=zD.put (P:=prog) (t:=239) (e:=300) Zg (by kernel_rfl)
   (H.out.frame (w':=(w2.alloc (.cells #[.int .i64 b.num,.string ⟨b.name.toArray⟩,.bool false] 428)).drew) ((Below.heap_alloc _ _ _ (HN2.out.size_lt H.out.lt)).trans (HN2.out.block _ H.out.lt (λe=>e)))) (by simp only[maxLen];omega) b (ptr bb)
  have HMAP:=hid hmap;clear hmap;have HMOD:=hid hmod;clear hmod;have HD2:zo (λ_=>False) w2 ((w2.alloc (.cells #[.int .i64 b.num,.string ⟨b.name.toArray⟩,.bool false] 428)).drew):=((za.refl w2).alloc _).drew;have hM3:zo (· =m) w w3:=zo.trans (za.mod (za.trans HN2.out HD2) _) HMOD.out λ_ _ h=>h;have HM3:=hid hM3;clear hM3;have hm:m<w.heap.size:=H.out.lt;have hbm:bb≠m:=by omega
  have ham:a≠m:=by omega
  have h23:∀j,j≠m->j<w2.heap.size->w3.heap[j]? =w2.heap[j]? :=λj hj hl=>(HMOD.out.block j (HD2.size_lt hl) hj).trans (HD2.block j hl (λe=>e));have H23:=hid h23;clear h23;have hadd:=Uc (S:=λj=>S j\/j=bb\/j=a) (w:=w3) (bb:=bb) (a:=a) (ks:=[]) (k:=k) (v:=v) (kv:=.slice kp kn kc) (vv:=.slice vp vn vc) (Or.inr (Or.inl rfl)) (Or.inr (Or.inr rfl))
   ((HBB.out (im (λj=>S j\/j=bb\/j=a) w3)).frame (H23.out _ hbm g3) (H23.out _ ham g4) (Rd.le_refl _)) (by decide)
  have hle:(im S w).le (im (λj=>S j\/j=bb\/j=a) w3):=(HM3.out.mono (S':=S) λ_ _ e=>by rw[e];exact hSm).im (S':=λj=>S j\/j=bb\/j=a) λj hj e=>by
   rcases e with e|e|e
   ·exact e
   ·omega
   ·omega
  have HADD:=hid (hadd (HK.out.mono hle) (HV.out.mono hle));clear hadd;go_wp2_with fail;go_region_with (go_at_call 298;refine(HID _).mono ?_;rintro e w1 ⟨rfl,rfl⟩)
  all_goals
   go_wp2_with fail;refine HADD.out.mono ?_;rintro e w4 ⟨rfl,hm4,hb4⟩;have HM4:=hid hm4;clear hm4;have HB4:=hid hb4;clear hb4;go_wp2;go_end0;refine⟨bb,a,rfl,zo.trans HM3.out HM4.out (λj hj e=> ?_),hls,hla,g5,HMAP.out.frame (HM4.out.block m HMAP.out.lt (λe=> ?_)),HB4.out⟩
   ·rcases e with e|e<;>omega
   ·rcases e with e|e<;>omega
end Go.Proofs.YtbmdoinjkligiaaGreat
