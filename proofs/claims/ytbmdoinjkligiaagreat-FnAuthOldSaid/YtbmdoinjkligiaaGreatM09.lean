/- Contracts and laws that the last text joins. -/
import Derived.Test.YtbmdoinjkligiaaGreatM08
set_option maxRecDepth 100000
set_option maxHeartbeats 40000000
set_option linter.all false
namespace Go.Proofs.YtbmdoinjkligiaaGreat
open Tryz
open Lib(hid)
open Go.RowKit
def Dr(w w':World):Prop:=∃n,w'=w.drewN n
theorem Dr.refl(w:World):Dr w w:=⟨0,rfl⟩
theorem Dr.drewN{a b:World}(h:Dr a b)(n:Nat):Dr a (b.drewN n):=by obtain⟨m,rfl⟩:=h;exact⟨m+n,by simp[World.drewN,Nat.add_assoc]⟩
theorem Dr.trans{a b c:World}(h:Dr a b)(k:Dr b c):Dr a c:=by obtain⟨n,rfl⟩:=k;exact h.drewN n
theorem Dr.heap{a b:World}(h:Dr a b):b.heap=a.heap:=by obtain⟨n,rfl⟩:=h;rfl
theorem Dr.new{a b:World}(h:Dr a b):za a b:=by obtain⟨n,rfl⟩:=h;exact(za.refl a).drewN n
structure Kb(r:Rd)(w:World)(a:Nat)(b e:EV):Prop where
 c0:w.cell? ⟨a,0,none⟩=some b.2
 c1:w.cell? ⟨a,1,none⟩=some e.2
 hb:kL r b
 he:kL r e
 rd:r.le w.cell?
variable{a:Nat}{r:Rd}{w':World}
theorem Kb.dr{w:World}{b e:EV}(h:Kb r w a b e)(hd:Dr w w'):Kb r w' a b e:=by obtain⟨n,rfl⟩:=hd;exact⟨h.c0,h.c1,h.hb,h.he,h.rd⟩
theorem Dh(v:Value)(w:World):(Instr.typeAssert (.iface 440 v) 228 440 false).run prog w=.ok v w:=by kernel_rfl
variable{r':Rd}{x:Nat}
theorem Yw{w:World}{b e b2 e2:EV}(h1:Kb r w a b e)(h2:Kb r' w x b2 e2):
  Calls prog 244 #[ptr a,.iface 440 (ptr x)] w λo w'=>o=.returned (.int .i64 (jK (b.1,e.1) (b2.1,e2.1)))/\Dr w w':=by
 obtain⟨bp,bn,bc,hbe,_⟩:=h1.hb.iface;obtain⟨ep,en,ec,hee,_⟩:=h1.he.iface;have hta:=λv W=>Dh v W;have hm1:=yF (.slice bp bn bc);have hm2:=yF (.slice ep en ec);have k1:∀W,Dr w W->Calls prog 187 #[.slice bp bn bc,b2.2] W λo w'=>o=.returned (.int .i64 (zy b.1 b2.1))/\W=w':=λW hd=>by obtain⟨u,g1,g2⟩:=(h1.dr hd).hb;obtain⟨v,g3,g4⟩:=(h2.dr hd).hb;rw[hbe]at g1;cases g1;rw[g3];exact yH (g2.mono (h1.dr hd).rd) (g4.mono (h2.dr hd).rd)
 have k2:∀W,Dr w W->Calls prog 187 #[.slice bp bn bc,e2.2] W λo w'=>o=.returned (.int .i64 (zy b.1 e2.1))/\W=w':=λW hd=>by obtain⟨u,g1,g2⟩:=(h1.dr hd).hb;obtain⟨v,g3,g4⟩:=(h2.dr hd).he;rw[hbe]at g1;cases g1;rw[g3];exact yH (g2.mono (h1.dr hd).rd) (g4.mono (h2.dr hd).rd)
 have k3:∀W,Dr w W->Calls prog 187 #[.slice ep en ec,b2.2] W λo w'=>o=.returned (.int .i64 (zy e.1 b2.1))/\W=w':=λW hd=>by obtain⟨u,g1,g2⟩:=(h1.dr hd).he;obtain⟨v,g3,g4⟩:=(h2.dr hd).hb;rw[hee]at g1;cases g1;rw[g3];exact yH (g2.mono (h1.dr hd).rd) (g4.mono (h2.dr hd).rd)
 have K1:=hid k1;clear k1;have K2:=hid k2;clear k2;have K3:=hid k3;clear k3;have hcell:∀W,Dr w W->W.cell? ⟨a,0,none⟩=some (.iface 283 (.slice bp bn bc))/\W.cell? ⟨a,1,none⟩=some (.iface 283 (.slice ep en ec))/\W.cell? ⟨x,0,none⟩=some b2.2/\W.cell? ⟨x,1,none⟩=some e2.2:=λW hd=>by rw[<-hbe,<-hee];exact⟨(h1.dr hd).c0,(h1.dr hd).c1,(h2.dr hd).c0,(h2.dr hd).c1⟩
 have HCELL:=hid hcell;clear hcell;have hres:jK (b.1,e.1) (b2.1,e2.1)=if zy b.1 b2.1<0/\zy e.1 b2.1<=0 then -1 else if zy b.1 e2.1>=0 then 1 else 0:=rfl;obtain⟨res,hr⟩:=zex (jK (b.1,e.1) (b2.1,e2.1));rw[<-hr];rw[hres]at hr;have HR:=hid hr;clear hr hres;clear h1 h2 hbe hee;have hd0:=Dr.refl w;obtain⟨a0,a1,x0,x1⟩:=HCELL.out w hd0;have HD:=hid hd0;clear hd0;have KK:=hid (λn=>K1.out _ (HD.out.drewN n));go_enter func244,ntmps244;go_wp2;go_quiet ((go_at_call 187;exact zw (KK.out _)));have hd1:=HD.out.drewN nq;generalize w.drewN nq=w1 at hd1⊢;clear a0 a1 x0 x1 KK HD;obtain⟨a0,a1,x0,x1⟩:=HCELL.out w1 hd1;have HD:=hid hd1;clear hd1;have KK:=hid (λn=>K2.out _ (HD.out.drewN n));go_wp2;go_quiet ((go_at_call 187;exact zw (KK.out _)));have hd1:=HD.out.drewN nq;generalize w1.drewN nq=w2 at hd1⊢;clear a0 a1 x0 x1 KK HD;obtain⟨a0,a1,x0,x1⟩:=HCELL.out w2 hd1;have HD:=hid hd1;clear hd1
 have KK:=hid (λn=>K3.out _ (HD.out.drewN n));go_wp2;go_quiet ((go_at_call 187;exact zw (KK.out _)));have hd1:=HD.out.drewN nq;generalize w2.drewN nq=w3 at hd1⊢;clear a0 a1 x0 x1 KK HD K1 K2 K3 HCELL;have HD:=hid hd1;clear hd1;by_cases c1:zy b.1 b2.1<0
 ·by_cases c2:zy e.1 b2.1<=0
  ·have H:=hid (show res= -1 by rw[HR.out,if_pos ⟨c1,c2⟩]);go_wp2;go_returns;exact⟨by rw[H.out];rfl,HD.out⟩
  ·by_cases c3:zy b.1 e2.1>=0
   ·have H:=hid (show res=1 by rw[HR.out,if_neg (λh=>c2 h.2),if_pos c3]);go_wp2;go_returns;exact⟨by rw[H.out];rfl,HD.out⟩
   ·have H:=hid (show res=0 by rw[HR.out,if_neg (λh=>c2 h.2),if_neg c3]);go_wp2;go_returns;exact⟨by rw[H.out];rfl,HD.out⟩
 ·by_cases c3:zy b.1 e2.1>=0
  ·have H:=hid (show res=1 by rw[HR.out,if_neg (λh=>c1 h.1),if_pos c3]);go_wp2;go_returns;exact⟨by rw[H.out];rfl,HD.out⟩
  ·have H:=hid (show res=0 by rw[HR.out,if_neg (λh=>c1 h.1),if_neg c3]);go_wp2;go_returns;exact⟨by rw[H.out];rfl,HD.out⟩
variable{L:List Iv}{T:NM}
theorem Di{l:List Nat}(hp:(zK T l).Perm L)(q:Iv):(∃v∈L,jK q v=0)↔∃i∈l,Ov T q i:=by
 constructor
 ·rintro⟨v,hv,h⟩;obtain⟨i,hi,rfl⟩:=List.mem_map.1 (hp.mem_iff.2 hv);exact⟨i,hi,h⟩
 ·rintro⟨i,hi,h⟩;exact⟨jh T i,hp.mem_iff.1 (List.mem_map.2 ⟨i,hi,rfl⟩),h⟩
structure vi(r:Rd)(w:World)(T:NM)(s it root:Nat)(n:Int)(t:Tr):Prop where
 nodes:∀i∈t.ids,w.heap[i]? =some (.cells (j8 (T i)) 279 (0,0))
 blk:w.heap[it]? =some (.cells #[ptr root,.int .i64 n,ptr s] 282 (0,0))
 ev:∀i∈t.ids,kL r (T i).b/\kL r (T i).e/\kL r (T i).mx
 tg:TG T s root s root (λi=>i∈t.ids) [] t
 good:vw (zK T t.ids)
 cs:WC w s
 rd:r.le w.cell?
variable{it:Nat}
theorem vi.new{w:World}{s root:Nat}{n:Int}{t:Tr}(h:vi r w T s it root n t)(hn:za w w'):vi r w' T s it root n t:=by obtain⟨c,T',hc⟩:=h.cs;exact⟨λi hi=>hn.heap (h.nodes i hi),hn.heap h.blk,h.ev,h.tg,h.good,⟨c,T',hn.heap hc⟩,h.rd.le_trans hn.le⟩
theorem vi.cells{w:World}{s root:Nat}{n:Int}{t:Tr}(h:vi r w T s it root n t){i:Nat}(hi:i∈t.ids):
  w.cell? ⟨i,0,none⟩=some (T i).b.2/\w.cell? ⟨i,1,none⟩=some (T i).e.2/\w.cell? ⟨i,3,none⟩=some (T i).mx.2/\w.cell? ⟨i,4,none⟩=some (ptr (T i).l)/\w.cell? ⟨i,5,none⟩=some (ptr (T i).r):=by
 have:=h.nodes i hi;refine⟨?_,?_,?_,?_,?_⟩<;>rw[cell_of_row w i _ _ _ (0,0) this]<;>rfl
theorem vi.iv{w:World}{s root:Nat}{n:Int}{t:Tr}(h:vi r w T s it root n t){i:Nat}(hi:i∈t.ids):Kb r w i (T i).b (T i).e:=
 ⟨(h.cells hi).1,(h.cells hi).2.1,(h.ev i hi).1,(h.ev i hi).2.1,h.rd⟩
theorem vi.it2{w:World}{s root:Nat}{n:Int}{t:Tr}(h:vi r w T s it root n t):w.cell? ⟨it,0,none⟩=some (ptr root)/\w.cell? ⟨it,2,none⟩=some (ptr s):=by constructor<;>rw[cell_of_row w it _ _ _ (0,0) h.blk]<;>rfl
theorem vi.neq{w:World}{s root:Nat}{n:Int}{t:Tr}(h:vi r w T s it root n t)(ha:a=s\/a∈t.ids):(binOp .neq 274 (ptr a) (ptr s)).run prog w=.ok (.bool (!decide (a=s))) w:=by
 refine xR ?_ h.cs;rcases ha with e|e
 ·rw[e];exact h.cs
 ·exact⟨_,_,h.nodes a e⟩
theorem vi.eql{w:World}{s root:Nat}{n:Int}{t:Tr}(h:vi r w T s it root n t)(ha:a=s\/a∈t.ids):(binOp .eql 274 (ptr a) (ptr s)).run prog w=.ok (.bool (decide (a=s))) w:=by
 refine ZN ?_ h.cs;rcases ha with e|e
 ·rw[e];exact h.cs
 ·exact⟨_,_,h.nodes a e⟩
variable{F:Nat->Prop}
theorem q_.still{w:World}{s:Nat}(h:q_ r w F s it L)(hr:r.le w.cell?):∃T root t n,vi r w T s it root n t/\(zK T t.ids).Perm L:=by obtain⟨⟨T,root,t,n,h1,h2,h3,h4,h5,h6,h7,h8,h9⟩,hc,_⟩:=h;exact⟨T,root,t,n,⟨h1,h2,h3,h4,h6,hc,hr⟩,h7⟩
structure KV(T:NM)(s:Nat)(t:Tr)(q:Iv)(x:Nat)(t1:Tr):Prop where
 is:∃p,Is T s p x t1
 mx:xd T t1
 good:vw (zK T t1.ids)
 sub:∀i∈t1.ids,i∈t.ids
 iff:(∃i∈t.ids,Ov T q i)↔∃i∈t1.ids,Ov T q i
theorem KV.node{s:Nat}{t:Tr}{q:Iv}{t1:Tr}(h:KV T s t q x t1)(hx:x≠s):∃l r,t1=.node x l r/\x∈t.ids:=by
 obtain⟨p,hi⟩:=h.is;cases t1 with
 |nil=>exact absurd hi hx
 |node i l r=>obtain⟨rfl,_⟩:=hi;exact⟨l,r,rfl,h.sub x (by simp[Tr.ids])⟩
theorem KV.step{s:Nat}{t:Tr}{q:Iv}{l r:Tr}(h:KV T s t q x (.node x l r))(hq:Q9 q)(hx: ¬Ov T q x):
  (((T x).l≠s/\zy (T (T x).l).mx.1 q.1>0)->KV T s t q (T x).l l)/\(¬((T x).l≠s/\zy (T (T x).l).mx.1 q.1>0)->KV T s t q (T x).r r):=by
 obtain⟨p,hi⟩:=h.is;obtain⟨g1,g2,_⟩:=h.good.node;have:=WB hi h.mx h.good hq hx;refine⟨λc=>⟨⟨_,hi.2.2.2.1⟩,h.mx.2.1,g1,λi hi=>h.sub i (by simp[Tr.ids,hi]),h.iff.trans (this.1 c)⟩,λc=>⟨⟨_,hi.2.2.2.2⟩,h.mx.2.2,g2,λi hi=>h.sub i (by simp[Tr.ids,hi]),h.iff.trans (this.2 c)⟩⟩
theorem KV.left{s:Nat}{t:Tr}{q:Iv}{l r:Tr}(h:KV T s t q x (.node x l r)):(T x).l=s\/(T x).l∈t.ids:=by
 obtain⟨p,hi⟩:=h.is;rcases hi.2.2.2.1.root with e|e
 ·exact Or.inl e
 ·exact Or.inr (h.sub _ (by simp[Tr.ids,e]))
theorem Kc{w:World}{s:Nat}{b e:EV}(h:q_ r w F s it L)(hr:r.le w.cell?)(hb:kL r b)(he:kL r e)(hv:Q9 (b.1,e.1)):
  Calls prog 235 #[ptr it,.agg #[b.2,e.2]] w λo w'=>(∃bb,o=.returned (.bool bb)/\(bb=true↔∃v∈L,jK (b.1,e.1) v=0))/\za w w':=by
 obtain⟨T,root,t,n,hst,hp⟩:=h.still hr;obtain⟨bp,bn,bc,hbe,_⟩:=hb.iface;obtain⟨ep,en,ec,hee,_⟩:=he.iface;obtain⟨w1,hw1⟩:=zex (w.alloc (.cells #[b.2,e.2] 230));have hn1:za w w1:=by rw[hw1];exact(za.refl w).alloc _
 have a0:w1.cell? ⟨w.heap.size,0,none⟩=some b.2:=by rw[hw1,World.cell?_alloc_new];rfl
 have a1:w1.cell? ⟨w.heap.size,1,none⟩=some e.2:=by rw[hw1,World.cell?_alloc_new];rfl
 have hst1:=hst.new hn1;have hia:Kb r w1 w.heap.size b e:=⟨a0,a1,hb,he,hst1.rd⟩;have hs0:KV T s t (b.1,e.1) root t:=⟨⟨_,hst.tg.is⟩,hst.tg.mx,hst.good,λ_ h=>h,Iff.rfl⟩;obtain⟨i0,i2⟩:=hst1.it2;have hfin:∀x t1,KV T s t (b.1,e.1) x t1->(x=s->¬∃v∈L,jK (b.1,e.1) v=0)/\(x≠s->Ov T (b.1,e.1) x->∃v∈L,jK (b.1,e.1) v=0):=λx t1 hk=>by
  rw[Di hp,hk.iff];refine⟨λhx=> ?_,λhx ho=> ?_⟩
  ·rintro⟨i,hi,_⟩;obtain⟨p,his⟩:=hk.is;cases t1 with
   |nil=>simp[Tr.ids]at hi
   |node j l r'=>exact his.2.1 (his.1.symm.trans hx)
  ·obtain⟨l,r',rfl,_⟩:=hk.node hx;exact⟨x,by simp[Tr.ids],ho⟩
 have HFIN:=hid hfin;clear hfin;have HST:=hid hst1;clear hst1 hst;have HIA:=hid hia;clear hia;have HS0:=hid hs0;clear hs0;have HV:=hid hv;clear hv;have HN1:=hid hn1;clear hn1;have HBE:=hid hbe;have HB:=hid hb;rw[hbe]at hw1 a0;rw[hee]at hw1;rw[hbe,hee];have HW1:=hid hw1;clear hw1;have hlt:=World.block_lt_of_cell? w1 _ i0;clear h hr hb he hbe hee hp a1 hlt;have hdr:Dr w1 w1:=Dr.refl w1;go_enter func235,ntmps235;go_upto_region 1 with fail
 rw[<-HW1.out];clear HW1;go_wp2;go_loopg [5] (t.ids.length+1) (λgg xv wr=>∃x t1,xv=ptr x/\KV T s t (b.1,e.1) x t1/\Dr w1 wr/\t1.ids.length<gg)
 case atStart=>exact⟨root,t,rfl,HS0.out,hdr,by omega⟩
 case round=>
  clear HS0 i0 i2 a0 hdr;obtain⟨x,t1,rfl,hk,hdr,hlen⟩:=hrel;have hst:=HST.out.new hdr.new;have hia:=HIA.out.dr hdr;obtain⟨i0,i2⟩:=hst.it2;by_cases hx:x=s
  ·have hno:=(HFIN.out x t1 hk).1 hx;have hpx:=hst.neq (a:=x) (Or.inl hx);rw[decide_eq_true hx]at hpx;have HNO:=hid hno;clear hno;have HDR:=hid hdr;clear hdr;rw[hx]at hpx⊢;clear hk hst hia hx hlen;go_wp2;go_returns;exact⟨⟨false,rfl,(λh=>by cases h),(λh=>absurd h HNO.out)⟩,HN1.out.trans HDR.out.new⟩
  ·obtain⟨l,rr,rfl,hxt⟩:=hk.node hx;have hpx:=hst.neq (a:=x) (Or.inr hxt);rw[decide_eq_false hx]at hpx;obtain⟨x0,x1,x3,x4,x5⟩:=hst.cells hxt;have hcmp:=Yw hia (hst.iv hxt);have HCMP:=hid hcmp;clear hcmp;by_cases ho:Ov T (b.1,e.1) x
   ·have hyes:=(HFIN.out x _ hk).2 hx ho;have hz:(jK (b.1,e.1) ((T x).b.1,(T x).e.1) !=0)=false:=by
     have:jK (b.1,e.1) ((T x).b.1,(T x).e.1)=0:=ho;rw[this];rfl
    have hst':∀W,Dr wr W->W.cell? ⟨it,2,none⟩=some (ptr s)/\(binOp .neq 274 (ptr x) (ptr s)).run prog W=.ok (.bool true) W:=λW hd=>by have h2:=hst.new hd.new;have h3:=h2.neq (a:=x) (Or.inr hxt);rw[decide_eq_false hx]at h3;exact⟨h2.it2.2,h3⟩
    have HST':=hid hst';clear hst';have HYES:=hid hyes;clear hyes;have HDR:=hid hdr;clear hdr;clear hk hst hia hx hlen ho;go_wp2_with (go_at_call 244;go_must (refine HCMP.out.mono ?_);rintro o w2 ⟨rfl,hd2⟩;obtain⟨j2,j3⟩:=HST'.out w2 hd2;have HD2:=hid hd2;clear hd2);go_returns;exact⟨⟨true,rfl,λ_=>HYES.out,λ_=>rfl⟩,(HN1.out.trans HDR.out.new).trans HD2.out.new⟩
   ·have hz:(jK (b.1,e.1) ((T x).b.1,(T x).e.1) !=0)=true:=by
     have:jK (b.1,e.1) ((T x).b.1,(T x).e.1)≠0:=ho;simpa using this
    obtain⟨hL,hR⟩:=hk.step HV.out ho;have hlD:=hk.left;have hlenL:l.ids.length<(Tr.node x l rr).ids.length/\rr.ids.length<(Tr.node x l rr).ids.length:=by simp[Tr.ids];omega
    have HK:=hid hk;clear hk;have HL:=hid hL;clear hL;have HR:=hid hR;clear hR;have HS2:=hid hst;clear hst;have HI2:=hid hia;clear hia;have HDR:=hid hdr;clear hdr;have HXT:=hid hxt;clear hxt;have HLD:=hid hlD;clear hlD;have HLL:=hid hlenL;clear hlenL;have HLEN:=hid hlen;clear hlen;clear hx ho;go_upto_region 3 with(go_at_call 244;go_must (refine HCMP.out.mono ?_);rintro o w2 ⟨rfl,hd2⟩)
    have hst:=HS2.out.new hd2.new;have hia:=HI2.out.dr hd2;clear x0 x1 x3 x4 x5 i0 i2 hpx;obtain⟨i0,i2⟩:=hst.it2;obtain⟨x0,x1,x3,x4,x5⟩:=hst.cells HXT.out;have a0:=hia.c0;rw[HBE.out]at a0;by_cases hls:(T x).l=s
    ·have hpl:∀m,(binOp .neq 274 (ptr (T x).l) (ptr s)).run prog (w2.drewN m)=.ok (.bool false) (w2.drewN m):=λm=>by
      have:=(hst.new ((Dr.refl w2).drewN m).new).neq (a:=(T x).l) (Or.inl hls)
      rwa [decide_eq_true hls]at this
     have hS:=hid (HR.out (λh=>h.1 hls));have HD2:=hid (HDR.out.trans hd2);rw[hls]at hpl x4;clear hd2 hst hia hls HL HR;go_quiet (fail);go_wp2;go_roundg (gk-1)
     case rel=>exact⟨_,rr,rfl,hS.out,HD2.out.drewN _,by have:=HLL.out;have:=HLEN.out;omega⟩
     case measure=>have:=HLEN.out;omega
    ·have hlt:=HLD.out.resolve_left hls;have hpl:∀m,(binOp .neq 274 (ptr (T x).l) (ptr s)).run prog (w2.drewN m)=.ok (.bool true) (w2.drewN m):=λm=>by
      have:=(hst.new ((Dr.refl w2).drewN m).new).neq (a:=(T x).l) (Or.inr hlt)
      rwa [decide_eq_false hls]at this
     obtain⟨_,_,l3,_,_⟩:=hst.cells hlt;obtain⟨lp,ln,lc,hle,_⟩:=(hst.ev _ hlt).2.2.iface;have hcm:∀m,Calls prog 187 #[.slice lp ln lc,b.2] (w2.drewN m) λo w'=>o=.returned (.int .i64 (zy (T (T x).l).mx.1 b.1))/\w2.drewN m=w':=λm=>by have:=(hst.new ((Dr.refl w2).drewN m).new);obtain⟨u,g1,g2⟩:=(this.ev _ hlt).2.2;obtain⟨v,g3,g4⟩:=HB.out;rw[hle]at g1;cases g1;rw[g3];exact yH (g2.mono this.rd) (g4.mono this.rd)
     rw[HBE.out]at hcm;rw[hle]at l3;have hm1:=yF (.slice lp ln lc);have HCM:=hid hcm;clear hcm;by_cases hgt:zy (T (T x).l).mx.1 b.1>0
     ·have hS:=hid (HL.out ⟨hls,hgt⟩);have HD2:=hid (HDR.out.trans hd2);clear hd2 hst hia hls HL HR hlt hle;go_quiet ((go_at_call 187;exact zw (HCM.out _)));go_wp2;go_roundg (gk-1)
      case rel=>exact⟨_,l,rfl,hS.out,HD2.out.drewN _,by have:=HLL.out;have:=HLEN.out;omega⟩
      case measure=>have:=HLEN.out;omega
     ·have hS:=hid (HR.out (λh=>hgt h.2));have HD2:=hid (HDR.out.trans hd2);clear hd2 hst hia hls HL HR hlt hle;go_quiet ((go_at_call 187;exact zw (HCM.out _)));go_wp2;go_roundg (gk-1)
      case rel=>exact⟨_,rr,rfl,hS.out,HD2.out.drewN _,by have:=HLL.out;have:=HLEN.out;omega⟩
      case measure=>have:=HLEN.out;omega
structure um(T:NM)(s:Nat)(t:Tr)(x:Nat)(t1:Tr):Prop where
 is:∃p,Is T s p x t1
 mx:xd T t1
 good:vw (zK T t1.ids)
 sub:∀i∈t1.ids,i∈t.ids
theorem um.kids{s:Nat}{t:Tr}{i:Nat}{l r:Tr}(h:um T s t x (.node i l r)):x=i/\x≠s/\x∈t.ids/\um T s t (T x).l l/\um T s t (T x).r r:=by obtain⟨p,hi⟩:=h.is;obtain⟨g1,g2,_⟩:=h.good.node;obtain⟨rfl,h2,_,h4,h5⟩:=hi;exact⟨rfl,h2,h.sub x (by simp[Tr.ids]),⟨⟨_,h4⟩,h.mx.2.1,g1,λj hj=>h.sub j (by simp[Tr.ids,hj])⟩,⟨⟨_,h5⟩,h.mx.2.2,g2,λj hj=>h.sub j (by simp[Tr.ids,hj])⟩⟩
theorem um.root{s:Nat}{t:Tr}{t1:Tr}(h:um T s t x t1):x=s\/x∈t.ids:=by
 obtain⟨p,hi⟩:=h.is;rcases hi.root with e|e
 ·exact Or.inl e
 ·exact Or.inr (h.sub x e)
structure GC(r:Rd)(T:NM)(s it root:Nat)(n:Int)(t:Tr)(a:Nat)(b e:EV)(fb:Nat)(full:List Nat)(I:List Nat->World->Prop)(J:World->Prop):Prop where
 base:∀vs W,I vs W->vi r W T s it root n t/\Kb r W a b e
 new:∀vs W W',I vs W->za W W'->I vs W'
 jnew:∀W W',J W->za W W'->J W'
 step:∀i∈t.ids,∀vs W,(∃post,full=vs++i::post)->I vs W->Calls prog 246 #[ptr i,ptr fb] W λo w'=>(o=.returned (.bool true)/\I (vs++[i]) w')\/(o=.returned (.bool false)/\J w')
def Kw(I:List Nat->World->Prop)(J:World->Prop)(vs:List Nat)(o:Ending)(w':World):Prop:=(o=.returned (.bool true)/\I vs w')\/(o=.returned (.bool false)/\J w')
theorem Yx{r:Rd}{T:NM}{s it root:Nat}{n:Int}{t:Tr}{a:Nat}{b e:EV}{fb:Nat}{full:List Nat}{I:List Nat->World->Prop}{J:World->Prop}(hV:GC r T s it root n t a b e fb full I J)(hv:Q9 (b.1,e.1)):
  ∀(t1:Tr) (x:Nat) (vs:List Nat) (w:World),um T s t x t1->(∃post,full=vs++(xq T (b.1,e.1) t1.ids++post))->I vs w->
   Calls prog 245 #[ptr x,ptr a,ptr s,.func (.func 246) #[] #[ptr fb]] w (Kw I J (vs++xq T (b.1,e.1) t1.ids))
 |.nil,x,vs,w,hp,_,hI=>by obtain⟨p,hi⟩:=hp.is;have hx:x=s:=hi;obtain⟨hst,_⟩:=hV.base vs w hI;have hpe:=hst.eql (a:=x) (Or.inl hx);rw[decide_eq_true hx]at hpe;have HG:Hid (Kw I J (vs++xq T (b.1,e.1) Tr.nil.ids) (.returned (.bool true)) w):=hid (Or.inl ⟨rfl,by simpa[Tr.ids,xq]using hI⟩);rw[hx]at hpe⊢;clear hV hp hi hx hst hI;go_enter func245,ntmps245;go_wp2;go_returns;exact HG.out
 |.node x' l rr,x,vs,w,hp,hfu,hI=>by
  obtain⟨rfl,hxs,hxt,hl,hrr⟩:=hp.kids;have HL:Hid (∀vs W,(∃post,full=vs++(xq T (b.1,e.1) l.ids++post))->I vs W->Calls prog 245 #[ptr (T x).l,ptr a,ptr s,.func (.func 246) #[] #[ptr fb]] W (Kw I J (vs++xq T (b.1,e.1) l.ids))):=hid λvs W hf h=>Yx hV hv l (T x).l vs W hl hf h;have HR:Hid (∀vs W,(∃post,full=vs++(xq T (b.1,e.1) rr.ids++post))->I vs W->Calls prog 245 #[ptr (T x).r,ptr a,ptr s,.func (.func 246) #[] #[ptr fb]] W (Kw I J (vs++xq T (b.1,e.1) rr.ids))):=hid λvs W hf h=>Yx hV hv rr (T x).r vs W hrr hf h;obtain⟨hst,hia⟩:=hV.base vs w hI;have hpe:=hst.eql (a:=x) (Or.inr hxt);rw[decide_eq_false hxs]at hpe;have HC:=hid (Yw hia (hst.iv hxt));have HF:Hid (∀vs W,I vs W->W.cell? ⟨x,0,none⟩=some (T x).b.2/\W.cell? ⟨x,3,none⟩=some (T x).mx.2/\W.cell? ⟨x,4,none⟩=some (ptr (T x).l)/\W.cell? ⟨x,5,none⟩=some (ptr (T x).r)):=hid λvs W h=>by
   have:=(hV.base vs W h).1.cells hxt;exact⟨this.1,this.2.2.1,this.2.2.2.1,this.2.2.2.2⟩
  have HN:Hid (∀vs W W',I vs W->za W W'->I vs W'):=hid hV.new;have HJ:Hid (∀W W',J W->za W W'->J W'):=hid hV.jnew;have HX:Hid (∀vs W,(∃post,full=vs++x::post)->I vs W->_):=hid λvs W hf h=>hV.step x hxt vs W hf h;obtain⟨post,hpost⟩:=hfu;have hgood:=hp.good;have hmx:=hp.mx;have HI:=hid hI;by_cases c1:jK (b.1,e.1) ((T x).b.1,(T x).e.1)<0
  ·have hov:=Uq hgood hv c1;rw[hov]at hpost⊢;have FL:=hid (show∃post,full=vs++(xq T (b.1,e.1) l.ids++post)from⟨post,hpost⟩);clear hpost hov hV hp hl hrr hst hia hgood hmx hI hxt;go_enter func245,ntmps245;go_upto_region 6 with(go_at_call 244;go_must (refine HC.out.mono ?_);rintro o w2 ⟨rfl,hd2⟩)
   have hI2:=HN.out _ _ _ HI.out hd2.new;obtain⟨x0,x3,x4,x5⟩:=HF.out _ _ hI2;have HLL:=hid (HL.out _ _ FL.out hI2);clear hI2 hd2 HI HC hpe;go_wp2_with fail;refine HLL.out.mono ?_;rintro o w3 (⟨rfl,h3⟩|⟨rfl,h3⟩)
   ·have H3:=hid h3;clear h3 HLL x0 x3 x4 x5;go_wp2;go_returns;exact Or.inl ⟨rfl,H3.out⟩
   ·have H3:=hid h3;clear h3 HLL x0 x3 x4 x5;go_wp2;go_returns;exact Or.inr ⟨rfl,H3.out⟩
  ·by_cases c2:jK (b.1,e.1) ((T x).b.1,(T x).e.1)>0
   ·
    obtain⟨W1,hW1⟩:∃f:World->World,f=λW=>W:=⟨_,rfl⟩;clear hW1 W1;have HMV:Hid (∀W m,W.cell? ⟨m,0,none⟩=some (T x).b.2->W.cell? ⟨m,1,none⟩=some (T x).mx.2->I vs W->Calls prog 244 #[ptr m,.iface 440 (ptr a)] W λo w'=>o=.returned (.int .i64 (jK ((T x).b.1,(T x).mx.1) (b.1,e.1)))/\Dr W w'):=hid λW m h0 h1 h=>by obtain⟨g1,g2⟩:=hV.base vs W h;exact Yw ⟨h0,h1,(g1.ev x hxt).1,(g1.ev x hxt).2.2,g1.rd⟩ g2
    obtain⟨xp,xn,xc,hxb,_⟩:=(hst.ev x hxt).1.iface;obtain⟨mp,mn,mc,hxm,_⟩:=(hst.ev x hxt).2.2.iface;rw[hxb,hxm]at HMV HF;have hAl:∀W:World,W.heap.size<(W.alloc (.cells #[.nilIface,.nilIface] 230)).heap.size:=λW=>by simp
    by_cases c3:jK ((T x).b.1,(T x).mx.1) (b.1,e.1)=0
    ·skip
     have c3':(jK ((T x).b.1,(T x).mx.1) (b.1,e.1)==0)=true:=by simpa using c3
     have hov:=Ut (T:=T) (q:=(b.1,e.1)) (x:=x) (l:=l) (r:=rr) c2;have heq:vs++xq T (b.1,e.1) (Tr.node x l rr).ids=(vs++xq T (b.1,e.1) l.ids)++xq T (b.1,e.1) rr.ids:=by rw[hov];simp
     rw[heq];rw[hov]at hpost;have FL:=hid (show∃post,full=vs++(xq T (b.1,e.1) l.ids++post)from⟨xq T (b.1,e.1) rr.ids++post,by rw[hpost];simp⟩);have FR:=hid (show∃post,full=(vs++xq T (b.1,e.1) l.ids)++(xq T (b.1,e.1) rr.ids++post)from⟨post,by rw[hpost];simp⟩);clear hpost hov heq hV hp hl hrr hst hia hgood hmx hI hxt c3 hxb hxm hAl;go_enter func245,ntmps245;go_upto_region 6 with(go_at_call 244;go_must (refine HC.out.mono ?_);rintro o w2 ⟨rfl,hd2⟩)
     have hI2:=HN.out _ _ _ HI.out hd2.new;obtain⟨x0,x3,x4,x5⟩:=HF.out _ _ hI2;have y0:=λo=>za.le ((za.refl w2).alloc o) _ _ x0;have y3:=λo=>za.le ((za.refl w2).alloc o) _ _ x3;have HI2:=hid hI2;clear hI2 hd2 HI HC hpe;go_wp2;have hn3:za w2 (w2.alloc (.cells #[.iface 283 (.slice xp xn xc),.iface 283 (.slice mp mn mc)] 230)).drew:=((za.refl w2).alloc _).drew;have m0:(w2.alloc (.cells #[.iface 283 (.slice xp xn xc),.iface 283 (.slice mp mn mc)] 230)).drew.cell? ⟨w2.heap.size,0,none⟩=some (.iface 283 (.slice xp xn xc)):=by show(w2.alloc _).cell? _=_;rw[World.cell?_alloc_new];rfl
     have m1:(w2.alloc (.cells #[.iface 283 (.slice xp xn xc),.iface 283 (.slice mp mn mc)] 230)).drew.cell? ⟨w2.heap.size,1,none⟩=some (.iface 283 (.slice mp mn mc)):=by show(w2.alloc _).cell? _=_;rw[World.cell?_alloc_new];rfl
     have HM:=hid (And.intro hn3 (And.intro m0 m1));clear hn3 m0 m1;go_region;obtain⟨hn3,m0,m1⟩:=HM.out;clear HM y0 y3 x0 x3 x4 x5;generalize(w2.alloc (.cells #[.iface 283 (.slice xp xn xc),.iface 283 (.slice mp mn mc)] 230)).drew=w3 at*
     have hI3:=HN.out _ _ _ HI2.out hn3;have HCM:=hid (HMV.out w3 _ m0 m1 hI3);have HI3:=hid hI3;clear hn3 m0 m1 hI3 HI2 HMV;go_upto_region 12 with(go_at_call 244;go_must (refine HCM.out.mono ?_);rintro o w4 ⟨rfl,hd4⟩)
     have hI4:=HN.out _ _ _ HI3.out hd4.new;obtain⟨x0,x3,x4,x5⟩:=HF.out _ _ hI4;have HLL:=hid (HL.out _ _ FL.out hI4);clear hI4 hd4 HI3 HCM;go_wp2_with fail;refine HLL.out.mono ?_;rintro o w5 (⟨rfl,h3⟩|⟨rfl,h3⟩)
     ·have HRR:=hid (HR.out _ _ FR.out h3);clear x0 x3 x4 x5;obtain⟨x0,x3,x4,x5⟩:=HF.out _ _ h3;clear h3 HLL;go_wp2_with fail;refine HRR.out.mono ?_;rintro o w6 (⟨rfl,h5⟩|⟨rfl,h5⟩)
      ·have H5:=hid h5;clear h5 HRR x0 x3 x4 x5;go_wp2;go_returns;exact Or.inl ⟨rfl,H5.out⟩
      ·have H5:=hid h5;clear h5 HRR x0 x3 x4 x5;go_wp2;go_returns;exact Or.inr ⟨rfl,H5.out⟩
     ·have H3:=hid h3;clear h3 HLL x0 x3 x4 x5;go_wp2;go_returns;exact Or.inr ⟨rfl,H3.out⟩
    ·have hov:=Ur (s:=0) (p:=0) hmx hgood hv c2 c3;rw[hov,List.append_nil];clear hpost;have c3':(jK ((T x).b.1,(T x).mx.1) (b.1,e.1)==0)=false:=by simpa using c3
     clear hov hV hp hl hrr hst hia hgood hmx hI hxt c3 hxb hxm hAl;go_enter func245,ntmps245;go_upto_region 6 with(go_at_call 244;go_must (refine HC.out.mono ?_);rintro o w2 ⟨rfl,hd2⟩)
     have hI2:=HN.out _ _ _ HI.out hd2.new;obtain⟨x0,x3,x4,x5⟩:=HF.out _ _ hI2;have y0:=λo=>za.le ((za.refl w2).alloc o) _ _ x0;have y3:=λo=>za.le ((za.refl w2).alloc o) _ _ x3;have HI2:=hid hI2;clear hI2 hd2 HI HC hpe;go_wp2;have hn3:za w2 (w2.alloc (.cells #[.iface 283 (.slice xp xn xc),.iface 283 (.slice mp mn mc)] 230)).drew:=((za.refl w2).alloc _).drew;have m0:(w2.alloc (.cells #[.iface 283 (.slice xp xn xc),.iface 283 (.slice mp mn mc)] 230)).drew.cell? ⟨w2.heap.size,0,none⟩=some (.iface 283 (.slice xp xn xc)):=by show(w2.alloc _).cell? _=_;rw[World.cell?_alloc_new];rfl
     have m1:(w2.alloc (.cells #[.iface 283 (.slice xp xn xc),.iface 283 (.slice mp mn mc)] 230)).drew.cell? ⟨w2.heap.size,1,none⟩=some (.iface 283 (.slice mp mn mc)):=by show(w2.alloc _).cell? _=_;rw[World.cell?_alloc_new];rfl
     have HM:=hid (And.intro hn3 (And.intro m0 m1));clear hn3 m0 m1;go_region;obtain⟨hn3,m0,m1⟩:=HM.out;clear HM y0 y3 x0 x3 x4 x5;generalize(w2.alloc (.cells #[.iface 283 (.slice xp xn xc),.iface 283 (.slice mp mn mc)] 230)).drew=w3 at*
     have hI3:=HN.out _ _ _ HI2.out hn3;have HCM:=hid (HMV.out w3 _ m0 m1 hI3);have HI3:=hid hI3;clear hn3 m0 m1 hI3 HI2 HMV;go_wp2_with (go_at_call 244;go_must (refine HCM.out.mono ?_);rintro o w4 ⟨rfl,hd4⟩;have HD4:=hid hd4;clear hd4);go_returns;exact Or.inl ⟨rfl,HN.out _ _ _ HI3.out HD4.out.new⟩
   ·have c0:jK (b.1,e.1) ((T x).b.1,(T x).e.1)=0:=by omega
    have hov:=Us (T:=T) (q:=(b.1,e.1)) (x:=x) (l:=l) (r:=rr) c0;have heq:vs++xq T (b.1,e.1) (Tr.node x l rr).ids=((vs++xq T (b.1,e.1) l.ids)++[x])++xq T (b.1,e.1) rr.ids:=by rw[hov];simp
    rw[heq];rw[hov]at hpost;have FL:=hid (show∃post,full=vs++(xq T (b.1,e.1) l.ids++post)from⟨x::xq T (b.1,e.1) rr.ids++post,by rw[hpost];simp⟩);have FX:=hid (show∃post,full=(vs++xq T (b.1,e.1) l.ids)++x::post from⟨xq T (b.1,e.1) rr.ids++post,by rw[hpost];simp⟩);have FR:=hid (show∃post,full=((vs++xq T (b.1,e.1) l.ids)++[x])++(xq T (b.1,e.1) rr.ids++post)from⟨post,by rw[hpost];simp⟩);clear hpost hov heq hV hp hl hrr hst hia hgood hmx hI hxt c0;go_enter func245,ntmps245;go_upto_region 6 with(go_at_call 244;go_must (refine HC.out.mono ?_);rintro o w2 ⟨rfl,hd2⟩)
    have hI2:=HN.out _ _ _ HI.out hd2.new;obtain⟨x0,x3,x4,x5⟩:=HF.out _ _ hI2;have HLL:=hid (HL.out _ _ FL.out hI2);clear hI2 hd2 HI HC hpe;go_wp2_with fail;refine HLL.out.mono ?_;rintro o w3 (⟨rfl,h3⟩|⟨rfl,h3⟩)
    ·have HXX:=hid (HX.out _ _ FX.out h3);clear h3 HLL x0 x3 x4 x5;go_wp2_with fail;refine HXX.out.mono ?_;rintro o w4 (⟨rfl,h4⟩|⟨rfl,h4⟩)
     ·have HRR:=hid (HR.out _ _ FR.out h4);obtain⟨x0,x3,x4,x5⟩:=HF.out _ _ h4;clear h4 HXX;go_wp2_with fail;refine HRR.out.mono ?_;rintro o w5 (⟨rfl,h5⟩|⟨rfl,h5⟩)
      ·have H5:=hid h5;clear h5 HRR x0 x3 x4 x5;go_wp2;go_returns;exact Or.inl ⟨rfl,H5.out⟩
      ·have H5:=hid h5;clear h5 HRR x0 x3 x4 x5;go_wp2;go_returns;exact Or.inr ⟨rfl,H5.out⟩
     ·have H4:=hid h4;clear h4 HXX;go_wp2;go_returns;exact Or.inr ⟨rfl,H4.out⟩
    ·have H3:=hid h3;clear h3 HLL x0 x3 x4 x5;go_wp2;go_returns;exact Or.inr ⟨rfl,H3.out⟩
def YP(T:NM):List Nat->Option (EV×EV)
 |vs=>vs.foldl (λo i=>match o with|none=>some ((T i).b,(T i).e)|some (m0,mx)=>some (m0,if zy (T i).e.1 mx.1>0 then (T i).e else mx)) none
theorem Dj(T:NM)(vs:List Nat)(i:Nat):YP T (vs++[i])=(match YP T vs with|none=>some ((T i).b,(T i).e)|some (m0,mx)=>some (m0,if zy (T i).e.1 mx.1>0 then (T i).e else mx)):=by unfold YP;rw[List.foldl_append];rfl
theorem x_:∀(a b:List Iv) (me:Bytes),zX me (a++b)=if (zX me a).1=true then zX (zX me a).2 b else zX me a
 |[],b,me=>by simp[zX]
 |v::a,b,me=>by
  by_cases h:zy me v.1<0
  ·have e1:zX me (v::a)=(false,me):=by simp only[zX];rw[if_pos h]
   have e2:zX me (v::a++b)=(false,me):=by simp only[List.cons_append,zX];rw[if_pos h]
   rw[e1,e2];rfl
  ·have e1:zX me (v::a)=zX (Up me v.2) a:=by simp only[zX];rw[if_neg h]
   have e2:zX me (v::a++b)=zX (Up me v.2) (a++b):=by simp only[List.cons_append,zX];rw[if_neg h]
   rw[e1,e2];exact x_ a b _
def Z3(T:NM)(vs:List Nat):Prop:=
 match vs with
 |[]=>YP T []=none
 |i::r=>(zX (T i).e.1 (zK T r)).1=true/\∃M:EV,YP T (i::r)=some ((T i).b,M)/\M.1=(zX (T i).e.1 (zK T r)).2
theorem Z3.nil(T:NM):Z3 T []:=rfl
theorem Z3.first(T:NM)(i:Nat):Z3 T [i]:=⟨rfl,(T i).e,rfl,rfl⟩
theorem Z3.cases{vs:List Nat}(h:Z3 T vs):(vs=[]/\YP T vs=none)\/∃i r M,vs=i::r/\YP T vs=some ((T i).b,M)/\M.1=(zX (T i).e.1 (zK T r)).2/\(zX (T i).e.1 (zK T r)).1=true:=by
 cases vs with
 |nil=>exact Or.inl ⟨rfl,h⟩
 |cons i r=>obtain⟨h1,M,h2,h3⟩:=h;exact Or.inr ⟨i,r,M,rfl,h2,h3,h1⟩
variable{j:Nat}
theorem Z3.snoc{i:Nat}{r:List Nat}{M:EV}(hc:(zX (T i).e.1 (zK T r)).1=true)(ha:YP T (i::r)=some ((T i).b,M))(hM:M.1=(zX (T i).e.1 (zK T r)).2)(hj: ¬zy M.1 (T j).b.1<0):
  Z3 T ((i::r)++[j])/\YP T ((i::r)++[j])=some ((T i).b,if zy (T j).e.1 M.1>0 then (T j).e else M):=by
 have h2:YP T ((i::r)++[j])=some ((T i).b,if zy (T j).e.1 M.1>0 then (T j).e else M):=by rw[Dj,ha]
 refine⟨?_,h2⟩;have h3:zX (T i).e.1 (zK T (r++[j]))=(true,Up M.1 (T j).e.1):=by rw[jw,x_,if_pos hc,<-hM];show zX M.1 [jh T j]=_;simp only[zX];rw[if_neg (show ¬zy M.1 (jh T j).1<0 from hj)];rfl
 show(zX (T i).e.1 (zK T (r++[j]))).1=true/\∃M',YP T (i::(r++[j]))=some ((T i).b,M')/\M'.1=(zX (T i).e.1 (zK T (r++[j]))).2;rw[h3];refine⟨rfl,_,h2,?_⟩;unfold Up;rw[gx]
theorem gap{q:Iv}{l:List Nat}{i:Nat}{r post:List Nat}{M:EV}(hf:xq T q l=(i::r)++j::post)(hc:(zX (T i).e.1 (zK T r)).1=true)(hM:M.1=(zX (T i).e.1 (zK T r)).2)(hj:zy M.1 (T j).b.1<0):jI q (zK T l)=false:=by
 unfold jI;rw[<-gB,hf];show((zX (T i).e.1 (zK T (r++j::post))).1 && _ && _)=false;have:(zX (T i).e.1 (zK T (r++j::post))).1=false:=by rw[jw,x_,if_pos hc,<-hM];show(zX M.1 (jh T j::zK T post)).1=false;simp only[zX];rw[if_pos (show zy M.1 (jh T j).1<0 from hj)]
 rw[this];rfl
structure vP(w:World)(mb me ic:Nat)(vb ve:Value)(c:Bool):Prop where
 b:w.heap[mb]? =some (.cells #[vb] 228 (0,0))
 e:w.heap[me]? =some (.cells #[ve] 228 (0,0))
 c:w.heap[ic]? =some (.cells #[.bool c] 4 (0,0))
variable{ic mb me:Nat}
theorem vP.cells{w:World}{vb ve:Value}{c:Bool}(h:vP w mb me ic vb ve c):w.cell? ⟨mb,0,none⟩=some vb/\w.cell? ⟨me,0,none⟩=some ve/\w.cell? ⟨ic,0,none⟩=some (.bool c)/\w.frozen? ⟨mb,0,none⟩=false/\w.frozen? ⟨me,0,none⟩=false/\w.frozen? ⟨ic,0,none⟩=false:=by
 refine⟨?_,?_,?_,?_,?_,?_⟩
 ·rw[cell_of_row w mb 0 _ _ (0,0) h.b];rfl
 ·rw[cell_of_row w me 0 _ _ (0,0) h.e];rfl
 ·rw[cell_of_row w ic 0 _ _ (0,0) h.c];rfl
 ·simp[World.frozen?,h.b]
 ·simp[World.frozen?,h.e]
 ·simp[World.frozen?,h.c]
theorem vP.new{w:World}{vb ve:Value}{c:Bool}(h:vP w mb me ic vb ve c)(hn:za w w'):vP w' mb me ic vb ve c:=⟨hn.heap h.b,hn.heap h.e,hn.heap h.c⟩
def zcy(o:Option (EV×EV)):Value×Value:=match o with|none=>(.nilIface,.nilIface)|some (b,e)=>(b.2,e.2)
theorem uo(p:Option Addr)(n c:Nat)(W:World):(nilAhead 608 283 (.slice p n c) "Compare").run prog W=.ok (some false) W:=by kernel_rfl
abbrev xT(mb me ic:Nat):Nat->Prop:=λj=>j=mb\/j=me\/j=ic
theorem Dk{w:World}{i:Nat}{b e:EV}(hi:Kb r w i b e)(hc:vP w mb me ic .nilIface .nilIface true)(h1:mb≠me)(h2:mb≠ic)(h3:me≠ic)(h4:i≠mb)(h5:i≠me):
  Calls prog 241 #[ptr i,ptr mb,ptr me,ptr ic] w λo w'=>o=.returned (.bool true)/\vP w' mb me ic b.2 e.2 true/\zo (xT mb me ic) w w':=by
 obtain⟨c1,c2,c3,c4,c5,c6⟩:=hc.cells;obtain⟨bp,bn,bc,hbe,_⟩:=hi.hb.iface;obtain⟨ep,en,ec,hee,_⟩:=hi.he.iface;have i0:=hi.c0;have i1:=hi.c1;rw[hbe]at i0;rw[hee]at i1;rw[hbe,hee];have h1':=Ne.symm h1;have h4':=Ne.symm h4;have h5':=Ne.symm h5;have HC:=hid hc;clear hc;have hnn:∀W:World,(binOp .eql 228 .nilIface .nilIface).run prog W=.ok (.bool true) W:=λW=>by kernel_rfl
 clear hi hbe hee;go_enter func241,ntmps241;go_wp2;go_returns;refine⟨rfl,⟨?_,?_,?_⟩,?_⟩
 ·rw[Below.heap_setCell _ _ _ _ h1,heap_setCell_same w mb 0 _ _ _ HC.out.b];rfl
 ·rw[heap_setCell_same (w.setCell ⟨mb,0,none⟩ _) me 0 _ _ _ (by rw[Below.heap_setCell _ _ _ _ (show me≠(⟨mb,0,none⟩:Addr).block from h1')];exact HC.out.e)];rfl
 ·rw[Below.heap_setCell _ _ _ _ (Ne.symm h3),Below.heap_setCell _ _ _ _ (Ne.symm h2)];exact HC.out.c
 ·exact((zo.refl _ _).setCell (p:=⟨mb,0,none⟩) (λ_=>Or.inl rfl) _).setCell (p:=⟨me,0,none⟩) (λ_=>Or.inr (Or.inl rfl)) _
def zbC(w:World)(mb me ic:Nat)(b e m0 M:EV)(o:Ending)(w':World):Prop:=((¬zy M.1 b.1<0/\o=.returned (.bool true)/\vP w' mb me ic m0.2 (if zy e.1 M.1>0 then e else M).2 true)\/(zy M.1 b.1<0/\o=.returned (.bool false)/\vP w' mb me ic m0.2 M.2 false))/\zo (xT mb me ic) w w'
theorem WG{w:World}{i:Nat}{b e m0 M:EV}(hi:Kb r w i b e)(hm0:kL r m0)(hM:kL r M)(hc:vP w mb me ic m0.2 M.2 true)(h1:mb≠me)(h2:mb≠ic)(h3:me≠ic)(h4:i≠mb)(h5:i≠me)(h6:i≠ic):
  Calls prog 241 #[ptr i,ptr mb,ptr me,ptr ic] w (zbC w mb me ic b e m0 M):=by
 obtain⟨c1,c2,c3,c4,c5,c6⟩:=hc.cells;obtain⟨bp,bn,bc,hbe,_⟩:=hi.hb.iface;obtain⟨ep,en,ec,hee,_⟩:=hi.he.iface;obtain⟨mp,mn,mc,hme,_⟩:=hm0.iface;obtain⟨xp,xn,xc,hxe,_⟩:=hM.iface;have i0:=hi.c0;have i1:=hi.c1;have hk1:∀m,Calls prog 187 #[.slice xp xn xc,b.2] (w.drewN m) λo w'=>o=.returned (.int .i64 (zy M.1 b.1))/\w.drewN m=w':=λm=>by obtain⟨u,g1,g2⟩:=hM;obtain⟨v,g3,g4⟩:=hi.hb;rw[hxe]at g1;cases g1;rw[g3];exact yH (g2.mono hi.rd) (g4.mono hi.rd)
 have hk2:∀m m2,Calls prog 187 #[.slice ep en ec,M.2] ((w.drewN m).drewN m2) λo w'=>o=.returned (.int .i64 (zy e.1 M.1))/\(w.drewN m).drewN m2=w':=λm m2=>by obtain⟨u,g1,g2⟩:=hi.he;obtain⟨v,g3,g4⟩:=hM;rw[hee]at g1;cases g1;rw[g3];exact yH (g2.mono hi.rd) (g4.mono hi.rd)
 rw[hbe]at i0 hk1;rw[hee]at i1;rw[hme]at c1;rw[hxe]at c2 hk2;have HE:Hid (∀c:Prop,[Decidable c]->c->(if c then e else M).2=.iface 283 (.slice ep en ec)):=hid λc _ h=>by rw[if_pos h];exact hee
 have hne:∀W:World,(binOp .eql 228 (.iface 283 (.slice mp mn mc)) .nilIface).run prog W=.ok (.bool false) W:=λW=>by kernel_rfl
 have hm1:=yF (.slice xp xn xc);have hna:=uo xp xn xc;have hm2:=yF (.slice ep en ec);have h1':=Ne.symm h1;have h4':=Ne.symm h4;have h5':=Ne.symm h5;have h6':=Ne.symm h6;have HC:=hid hc;clear hc;have HK1:=hid hk1;clear hk1;have HK2:=hid hk2;clear hk2;have HEE:=hid hee;clear hee;clear hi hbe hme hm0 hM hxe;by_cases t1:zy M.1 b.1<0
 ·go_enter func241,ntmps241;go_wp2;go_quiet ((go_at_call 187;exact zw (HK1.out _)));go_wp2;go_returns;refine⟨Or.inr ⟨t1,rfl,⟨?_,?_,?_⟩⟩,?_⟩
  ·rw[Below.heap_setCell _ _ _ _ h2];exact HC.out.b
  ·rw[Below.heap_setCell _ _ _ _ h3];exact HC.out.e
  ·rw[heap_setCell_same (w.drewN nq) ic 0 _ _ _ HC.out.c];rfl
  ·exact((zo.refl _ w).drewN _).setCell (p:=⟨ic,0,none⟩) (λ_=>Or.inr (Or.inr rfl)) _
 ·by_cases t2:zy e.1 M.1>0
  ·go_enter func241,ntmps241;go_wp2;go_quiet ((go_at_call 187;exact zw (HK1.out _)));have HKK:=hid (HK2.out nq);have hcc:vP (w.drewN nq) mb me ic m0.2 M.2 true:=HC.out.new ((za.refl w).drewN nq);have hmm:zo (xT mb me ic) w (w.drewN nq):=(zo.refl _ w).drewN nq;have i0':(w.drewN nq).cell? ⟨i,0,none⟩=_:=i0;have i1':(w.drewN nq).cell? ⟨i,1,none⟩=_:=i1;have c2':(w.drewN nq).cell? ⟨me,0,none⟩=_:=c2;have c5':(w.drewN nq).frozen? ⟨me,0,none⟩=false:=c5;have HCC:=hid hcc;have HMM:=hid hmm;clear hcc hmm HK1 HK2 HC c1 c2 c3 c4 c5 c6 i0 i1;generalize w.drewN nq=w2 at*
   go_wp2;go_quiet ((go_at_call 187;exact zw (HKK.out _)));go_wp2;go_returns;refine⟨Or.inl ⟨Int.not_lt.2 t1,rfl,⟨?_,?_,?_⟩⟩,?_⟩
   ·rw[Below.heap_setCell _ _ _ _ h1];exact HCC.out.b
   ·rw[heap_setCell_same (w2.drewN nq) me 0 _ _ _ HCC.out.e,HE.out _ t2];rfl
   ·rw[Below.heap_setCell _ _ _ _ (Ne.symm h3)];exact HCC.out.c
   ·exact(HMM.out.drewN _).setCell (p:=⟨me,0,none⟩) (λ_=>Or.inr (Or.inl rfl)) _
  ·go_enter func241,ntmps241;go_wp2;go_quiet ((go_at_call 187;exact zw (HK1.out _)));have HKK:=hid (HK2.out nq);have hcc:vP (w.drewN nq) mb me ic m0.2 M.2 true:=HC.out.new ((za.refl w).drewN nq);have hmm:zo (xT mb me ic) w (w.drewN nq):=(zo.refl _ w).drewN nq;have i0':(w.drewN nq).cell? ⟨i,0,none⟩=_:=i0;have i1':(w.drewN nq).cell? ⟨i,1,none⟩=_:=i1;have c2':(w.drewN nq).cell? ⟨me,0,none⟩=_:=c2;have HCC:=hid hcc;have HMM:=hid hmm;clear hcc hmm HK1 HK2 HC c1 c2 c3 c4 c5 c6 i0 i1;generalize w.drewN nq=w2 at*
   go_wp2;go_quiet ((go_at_call 187;exact zw (HKK.out _)));go_wp2;go_returns;refine⟨Or.inl ⟨Int.not_lt.2 t1,rfl,?_⟩,HMM.out.drewN _⟩;rw[if_neg (Int.not_lt.2 t2)];exact HCC.out.new ((za.refl w2).drewN _)
theorem zcX{w:World}{i fb:Nat}{R1 R2:World->Prop}(hf:w.cell? ⟨fb,0,none⟩=some (.func (.func 241) #[] #[ptr mb,ptr me,ptr ic]))
  (h:Calls prog 241 #[ptr i,ptr mb,ptr me,ptr ic] w.drew λo w'=>(o=.returned (.bool true)/\R1 w')\/(o=.returned (.bool false)/\R2 w')):
  Calls prog 246 #[ptr i,ptr fb] w λo w'=>(o=.returned (.bool true)/\R1 w')\/(o=.returned (.bool false)/\R2 w'):=by
 have H:=hid h;clear h;have HG:Hid (∀W,R1 W->((Ending.returned (.bool true)=Ending.returned (.bool true)/\R1 W)\/(Ending.returned (.bool true)=.returned (.bool false)/\R2 W))):=hid λW h=>Or.inl ⟨rfl,h⟩;go_enter func246,ntmps246;go_wp2;go_still_tail 4,(by kernel_rfl);go_wp2_with fail;refine H.out.mono ?_;rintro o w2 (⟨rfl,h⟩|⟨rfl,h⟩)
 ·have H2:=hid h;clear h;go_wp2;go_returns;exact Or.inl ⟨rfl,H2.out⟩
 ·have H2:=hid h;clear h;go_wp2;go_returns;exact Or.inr ⟨rfl,H2.out⟩
structure KW(r:Rd)(w W0:World)(T:NM)(s it root:Nat)(n:Int)(t:Tr)(a:Nat)(b e:EV)(fb mb me ic:Nat):Prop where
 st:vi r W0 T s it root n t
 iv:Kb r W0 a b e
 nw:za w W0
 rd:r.le w.cell?
 fbc:W0.cell? ⟨fb,0,none⟩=some (.func (.func 241) #[] #[ptr mb,ptr me,ptr ic])
 cv:vP W0 mb me ic .nilIface .nilIface true
 ne:mb≠me/\mb≠ic/\me≠ic
 fr:w.heap.size<=mb/\w.heap.size<=me/\w.heap.size<=ic
 an: ¬xT mb me ic a
 fn: ¬xT mb me ic fb
 old:∀i∈t.ids,i<w.heap.size
 oit:it<w.heap.size
 os:s<w.heap.size
def zdS(W0:World)(T:NM)(mb me ic:Nat)(vs:List Nat)(W:World):Prop:=Z3 T vs/\vP W mb me ic (zcy (YP T vs)).1 (zcy (YP T vs)).2 true/\zo (xT mb me ic) W0 W
def zdT(W0:World)(T:NM)(mb me ic:Nat)(q:Iv)(t:Tr)(W:World):Prop:=jI q (zK T t.ids)=false/\(∃vb ve,vP W mb me ic vb ve false)/\zo (xT mb me ic) W0 W
theorem KW.three{w W0:World}{s root:Nat}{n:Int}{t:Tr}{b e:EV}{fb:Nat}(h:KW r w W0 T s it root n t a b e fb mb me ic)(hj:j<w.heap.size): ¬xT mb me ic j:=λe=>by obtain⟨f1,f2,f3⟩:=h.fr;rcases e with e|e|e<;>omega
variable{W:World}
theorem KW.still{w W0:World}{s root:Nat}{n:Int}{t:Tr}{b e:EV}{fb:Nat}(h:KW r w W0 T s it root n t a b e fb mb me ic)(hm:zo (xT mb me ic) W0 W):vi r W T s it root n t/\Kb r W a b e/\W.cell? ⟨fb,0,none⟩=some (.func (.func 241) #[] #[ptr mb,ptr me,ptr ic]):=by
 have hle:r.le W.cell? :=λx v hx=>by have h1:=h.rd _ _ hx;exact hm.cell (h.three (World.block_lt_of_cell? w x h1)) (h.nw.le _ _ h1)
 have keep:∀j,j<w.heap.size->W.heap[j]? =W0.heap[j]? :=λj hj=>hm.block j (Nat.lt_of_lt_of_le hj h.nw.size) (h.three hj);obtain⟨c,T',hc⟩:=h.st.cs;refine⟨⟨λi hi=>(keep i (h.old i hi)).trans (h.st.nodes i hi),(keep it h.oit).trans h.st.blk,h.st.ev,h.st.tg,h.st.good,⟨c,T',(keep s h.os).trans hc⟩,hle⟩,⟨hm.cell (p:=⟨a,0,none⟩) h.an h.iv.c0,hm.cell (p:=⟨a,1,none⟩) h.an h.iv.c1,h.iv.hb,h.iv.he,hle⟩,hm.cell (p:=⟨fb,0,none⟩) h.fn h.fbc⟩
theorem KW.visitor{w W0:World}{s root:Nat}{n:Int}{t:Tr}{b e:EV}{fb:Nat}(h:KW r w W0 T s it root n t a b e fb mb me ic):
  GC r T s it root n t a b e fb (xq T (b.1,e.1) t.ids) (zdS W0 T mb me ic) (zdT W0 T mb me ic (b.1,e.1) t)where
 base vs W hI:=⟨(h.still hI.2.2).1,(h.still hI.2.2).2.1⟩
 new vs W W' hI hn:=⟨hI.1,hI.2.1.new hn,zo.trans hI.2.2 (hn.mod (xT mb me ic)) λ_ _ e=>e⟩
 jnew W W' hJ hn:=⟨hJ.1,by obtain⟨vb,ve,hc⟩:=hJ.2.1;exact⟨vb,ve,hc.new hn⟩,zo.trans hJ.2.2 (hn.mod (xT mb me ic)) λ_ _ e=>e⟩
 step i hi vs W hf hI:=by
  obtain⟨hno,hcv,hm⟩:=hI;obtain⟨hst,_,hfb⟩:=h.still hm;have hdr:za W W.drew:=(za.refl W).drew;have hi2:=(hst.new hdr).iv hi;obtain⟨n1,n2,n3⟩:=h.ne;have hil:=h.old i hi;have i1:i≠mb:=λe=>h.three hil (Or.inl e);have i2:i≠me:=λe=>h.three hil (Or.inr (Or.inl e));have i3:i≠ic:=λe=>h.three hil (Or.inr (Or.inr e));refine zcX hfb ?_;have hcv':=hcv.new hdr;have hmd:zo (xT mb me ic) W0 W.drew:=hm.drew;rcases hno.cases with⟨rfl,hn⟩|⟨j,rr,M,rfl,hn,hM,hc⟩
  ·rw[hn]at hcv';refine(Dk hi2 hcv' n1 n2 n3 i1 i2).mono ?_;rintro o w' ⟨rfl,g1,g2⟩;refine Or.inl ⟨rfl,Z3.first T i,?_,zo.trans hmd g2 λ_ _ e=>e⟩;exact g1
  ·rw[hn]at hcv';obtain⟨post,hpost⟩:=hf;have hjm:j∈t.ids:=by
    have:j∈xq T (b.1,e.1) t.ids:=by rw[hpost];simp
    exact(List.mem_filter.1 this).1
   have hMe:kL r M:=by
    have:∀(l:List Nat),(∀k∈l,k∈t.ids)->∀o:Option (EV×EV),(∀p,o=some p->kL r p.2)->∀p,l.foldl (λo i=>match o with|none=>some ((T i).b,(T i).e)|some (m0,mx)=>some (m0,if zy (T i).e.1 mx.1>0 then (T i).e else mx)) o=some p->kL r p.2:=by
     intro l
     induction l with
     |nil=>intro _ o ho p hp;exact ho p hp
     |cons k l ih=>
      intro hk o ho p hp;refine ih (λk' hk'=>hk k' (by simp[hk'])) _ ?_ p hp;intro p' hp';have hke:=(hst.ev k (hk k (by simp))).2.1;cases o with
      |none=>simp only[Option.some.injEq]at hp';rw[<-hp'];exact hke
      |some m=>
       simp only[Option.some.injEq]at hp';rw[<-hp'];show kL r (if _ then _ else _);split
       ·exact hke
       ·exact ho m rfl
    refine this (j::rr) (λk hk=> ?_) none (λp hp=>by cases hp) ((T j).b,M) hn;have:k∈xq T (b.1,e.1) t.ids:=by rw[hpost];exact List.mem_append_left _ hk
    exact(List.mem_filter.1 this).1
   refine(WG hi2 (hst.ev j hjm).1 hMe hcv' n1 n2 n3 i1 i2 i3).mono ?_;rintro o w' ⟨g,hmm⟩;have hm3:=zo.trans hmd hmm λ_ _ e=>e;rcases g with⟨g1,rfl,g2⟩|⟨g1,rfl,g2⟩
   ·obtain⟨s1,s2⟩:=Z3.snoc hc hn hM g1;refine Or.inl ⟨rfl,s1,?_,hm3⟩;rw[s2];exact g2
   ·exact Or.inr ⟨rfl,gap hpost hc hM g1,⟨_,_,g2⟩,hm3⟩
def XG(mb me ic:Nat):Value:=.func (.func 241) #[] #[ptr mb,ptr me,ptr ic]
theorem Uu{w:World}{s root:Nat}{n:Int}{t:Tr}{b e:EV}(hst:vi r W T s it root n t)(hnw:za w W)(hrd:r.le w.cell?)(hb:kL r b)(he:kL r e)(hv:Q9 (b.1,e.1))(hcv:vP W mb me ic .nilIface .nilIface true)
  (hne:mb≠me/\mb≠ic/\me≠ic)(hfr:w.heap.size<=mb/\w.heap.size<=me/\w.heap.size<=ic)(hold:∀i∈t.ids,i<w.heap.size)(hoit:it<w.heap.size)(hos:s<w.heap.size):
  Calls prog 240 #[ptr it,.agg #[b.2,e.2],XG mb me ic] W λo w'=>o=.returned (.tuple #[])/\∃W0,za W W0/\(zdS W0 T mb me ic (xq T (b.1,e.1) t.ids) w'\/zdT W0 T mb me ic (b.1,e.1) t w'):=by
 obtain⟨W1,hW1⟩:=zex ((W.alloc (.cells #[b.2,e.2] 230)).alloc (.cells #[XG mb me ic] 441));have hn1:za W W1:=by rw[hW1];exact((za.refl W).alloc _).alloc _
 have hnd:za W W1.drew:=zo.drew hn1;have ca0:W1.cell? ⟨W.heap.size,0,none⟩=some b.2:=by rw[hW1];refine za.le ((za.refl _).alloc _) _ _ ?_;rw[World.cell?_alloc_new];rfl
 have ca1:W1.cell? ⟨W.heap.size,1,none⟩=some e.2:=by rw[hW1];refine za.le ((za.refl _).alloc _) _ _ ?_;rw[World.cell?_alloc_new];rfl
 have cfb:W1.cell? ⟨W.heap.size+1,0,none⟩=some (XG mb me ic):=by rw[hW1];have:=World.cell?_alloc_new (W.alloc (.cells #[b.2,e.2] 230)) #[XG mb me ic] 441 0;simpa using this
 obtain⟨hb1,he1,hc1⟩:=(⟨hcv.b,hcv.e,hcv.c⟩:_/\_/\_);have lb:mb<W.heap.size:=(Array.getElem?_eq_some_iff.1 hb1).1;have le:me<W.heap.size:=(Array.getElem?_eq_some_iff.1 he1).1;have lc:ic<W.heap.size:=(Array.getElem?_eq_some_iff.1 hc1).1;have hst2:=hst.new hnd;have hask:KW r w W1.drew T s it root n t W.heap.size b e (W.heap.size+1) mb me ic:=
  ⟨hst2,⟨ca0,ca1,hb,he,hst2.rd⟩,hnw.trans hnd,hrd,cfb,hcv.new hnd,hne,hfr,λh=>by rcases h with h|h|h<;>omega,λh=>by rcases h with h|h|h<;>omega,hold,hoit,hos⟩
 have hpart:um T s t root t:=⟨⟨_,hst.tg.is⟩,hst.tg.mx,hst.good,λ_ h=>h⟩;have hvis:=Yx hask.visitor hv t root [] W1.drew hpart ⟨[],by simp⟩ ⟨Z3.nil T,hask.cv,zo.refl _ _⟩;rw[List.nil_append]at hvis;have HVIS:=hid hvis;clear hvis;obtain⟨i0,i2⟩:=(hst.new hn1).it2;have HND:=hid hnd;clear hnd;have hW1':=hW1;obtain⟨bp,bn,bc,hbe,_⟩:=hb.iface;obtain⟨ep,en,ec,hee,_⟩:=he.iface;unfold XG at hW1⊢;rw[hbe,hee]at hW1⊢;have HW1:=hid hW1;clear hW1 hW1';clear hask hst hst2 hnw hrd hb he hv hcv hne hfr hold hoit hos hbe hee hb1 he1 hc1 lb le lc hpart ca0 ca1 cfb hn1;go_enter func240,ntmps240;go_upto_region 1 with fail
 rw[<-HW1.out];clear HW1;go_wp2;go_still_tail 9,(by kernel_rfl);go_wp2_with fail;refine HVIS.out.mono ?_;rintro o w3 (⟨rfl,h⟩|⟨rfl,h⟩)
 ·have H:=hid h;clear h;go_wp2;go_returns;exact⟨rfl,_,HND.out,Or.inl H.out⟩
 ·have H:=hid h;clear h;go_wp2;go_returns;exact⟨rfl,_,HND.out,Or.inr H.out⟩
theorem yO.perm{L':List Iv}(h:L.Perm L')(q:Iv):yO L q↔yO L' q:=by
 constructor
 ·intro hc k hk;obtain⟨v,hv,hi⟩:=hc k hk;exact⟨v,h.mem_iff.1 hv,hi⟩
 ·intro hc k hk;obtain⟨v,hv,hi⟩:=hc k hk;exact⟨v,h.mem_iff.2 hv,hi⟩
theorem zbD{vs:List Nat}{p:EV×EV}(hk:∀k∈vs,kL r (T k).e)(h:YP T vs=some p):kL r p.2:=by
 have:∀(l:List Nat),(∀k∈l,kL r (T k).e)->∀o:Option (EV×EV),(∀p,o=some p->kL r p.2)->∀p,l.foldl (λo i=>match o with|none=>some ((T i).b,(T i).e)|some (m0,mx)=>some (m0,if zy (T i).e.1 mx.1>0 then (T i).e else mx)) o=some p->kL r p.2:=by
  intro l
  induction l with
  |nil=>intro _ o ho p hp;exact ho p hp
  |cons k l ih=>
   intro hk o ho p hp;refine ih (λk' hk'=>hk k' (by simp[hk'])) _ ?_ p hp;intro p' hp';have hke:=hk k (by simp);cases o with
   |none=>simp only[Option.some.injEq]at hp';rw[<-hp'];exact hke
   |some m=>
    simp only[Option.some.injEq]at hp';rw[<-hp'];show kL r (if _ then _ else _);split
    ·exact hke
    ·exact ho m rfl
 exact this vs hk none (λp hp=>by cases hp) p h
def Uv(w:World)(P:Prop)(o:Ending)(w':World):Prop:=(∃bb:Bool,o=.returned (.bool bb)/\(bb=true↔P))/\za w w'
theorem V7{w:World}{s:Nat}{b e:EV}(h:q_ r w F s it L)(hF:∀j,F j->j<w.heap.size)(hr:r.le w.cell?)(hb:kL r b)(he:kL r e)(hv:Q9 (b.1,e.1)):
  Calls prog 230 #[ptr it,.agg #[b.2,e.2]] w (Uv w (yO L (b.1,e.1))):=by
 have hsF:=hF s h.fs;have hiF:=hF it h.fi;obtain⟨T,root,t,n,hst,hp,HT⟩:∃T root t n,vi r w T s it root n t/\(zK T t.ids).Perm L/\∀i∈t.ids,F i:=by obtain⟨⟨T,root,t,n,h1,h2,h3,h4,h5,h6,h7,h8,h9⟩,hc,_⟩:=h;exact⟨T,root,t,n,⟨h1,h2,h3,h4,h6,hc,hr⟩,h7,h8⟩
 obtain⟨bp,bn,bc,hbe,_⟩:=hb.iface;obtain⟨ep,en,ec,hee,_⟩:=he.iface;obtain⟨W,hW⟩:=zex ((((w.alloc (.cells #[b.2,e.2] 230)).alloc (.cells #[.nilIface] 228)).alloc (.cells #[.nilIface] 228)).alloc (.cells #[.bool true] 4));have hn:za w W:=by rw[hW];exact((((za.refl w).alloc _).alloc _).alloc _).alloc _
 have ha:W.heap[w.heap.size]? =some (.cells #[b.2,e.2] 230 (0,0)):=by rw[hW];exact za.heap (w:=w.alloc (.cells #[b.2,e.2] 230)) ((((za.refl _).alloc (.cells #[.nilIface] 228)).alloc (.cells #[.nilIface] 228)).alloc (.cells #[.bool true] 4)) (zg w _)
 have hme:W.heap[w.heap.size+1]? =some (.cells #[.nilIface] 228 (0,0)):=by rw[hW];have:=zg (w.alloc (.cells #[b.2,e.2] 230)) (.cells #[.nilIface] 228);simp only[World.size_alloc]at this;exact za.heap (w:=(w.alloc (.cells #[b.2,e.2] 230)).alloc (.cells #[.nilIface] 228)) (((za.refl _).alloc (.cells #[.nilIface] 228)).alloc (.cells #[.bool true] 4)) this
 have hmb:W.heap[w.heap.size+1+1]? =some (.cells #[.nilIface] 228 (0,0)):=by rw[hW];have:=zg ((w.alloc (.cells #[b.2,e.2] 230)).alloc (.cells #[.nilIface] 228)) (.cells #[.nilIface] 228);simp only[World.size_alloc]at this;exact za.heap (w:=((w.alloc (.cells #[b.2,e.2] 230)).alloc (.cells #[.nilIface] 228)).alloc (.cells #[.nilIface] 228)) ((za.refl _).alloc (.cells #[.bool true] 4)) this
 have hic:W.heap[w.heap.size+1+1+1]? =some (.cells #[.bool true] 4 (0,0)):=by rw[hW];have:=zg (((w.alloc (.cells #[b.2,e.2] 230)).alloc (.cells #[.nilIface] 228)).alloc (.cells #[.nilIface] 228)) (.cells #[.bool true] 4);simp only[World.size_alloc]at this;exact this
 have hst2:=hst.new hn;have hcv:vP W (w.heap.size+1+1) (w.heap.size+1) (w.heap.size+1+1+1) .nilIface .nilIface true:=⟨hmb,hme,hic⟩;have hvis:=Uu hst2 hn hr hb he hv hcv ⟨by omega,by omega,by omega⟩ ⟨by omega,by omega,by omega⟩ (λi hi=>hF i (HT i hi)) hiF hsF;unfold XG at hvis;have hcon:=gz hv hst.good.sorted;have hfin:∀W0 w',za W W0->zo (xT (w.heap.size+1+1) (w.heap.size+1) (w.heap.size+1+1+1)) W0 w'->za w w'/\r.le w'.cell? /\w'.cell? ⟨w.heap.size,0,none⟩=some b.2/\w'.cell? ⟨w.heap.size,1,none⟩=some e.2:=λW0 w' h1 h2=>by
  have hs:=hn.size;have hnw:za w w':=⟨h2.os.trans (h1.os.trans hn.os),h2.tape.trans (h1.tape.trans hn.tape),h2.output.trans (h1.output.trans hn.output),Nat.le_trans hn.size (Nat.le_trans h1.size h2.size),λk hk _=>by rw[h2.block k (Nat.lt_of_lt_of_le hk (Nat.le_trans hn.size h1.size)) (λe=>by rcases e with e|e|e<;>omega),h1.block k (Nat.lt_of_lt_of_le hk hn.size) (λe=>e),hn.block k hk (λe=>e)]⟩
  have hka:w'.heap[w.heap.size]? =some (.cells #[b.2,e.2] 230 (0,0)):=by have h3:=h1.heap ha;rw[h2.block _ (Array.getElem?_eq_some_iff.1 h3).1 (λe=>by rcases e with e|e|e<;>omega)];exact h3
  refine⟨hnw,hr.le_trans hnw.le,?_,?_⟩
  ·rw[cell_of_row w' _ 0 _ _ (0,0) hka];rfl
  ·rw[cell_of_row w' _ 1 _ _ (0,0) hka];rfl
 have hcov:=yO.perm hp (b.1,e.1);have HCON:Hid (jI (b.1,e.1) (zK T t.ids)=true↔yO L (b.1,e.1)):=hid (hcon.trans hcov);have hEV:∀i∈t.ids,kL r (T i).b/\kL r (T i).e:=λi hi=>⟨(hst.ev i hi).1,(hst.ev i hi).2.1⟩;have HVIS0:=hvis;rw[hbe,hee]at hvis hW;rw[hbe,hee];have HB:=hid hb;have HE:=hid he;have HBE:=hid hbe;have HEE:=hid hee;have HFIN:=hid hfin;have HEV:=hid hEV;have HVIS:=hid hvis;have HN:=hid hn;have hca0:W.cell? ⟨w.heap.size,0,none⟩=some (.iface 283 (.slice bp bn bc)):=by rw[cell_of_row W _ 0 _ _ (0,0) ha,<-hbe];rfl
 have hca1:W.cell? ⟨w.heap.size,1,none⟩=some (.iface 283 (.slice ep en ec)):=by rw[cell_of_row W _ 1 _ _ (0,0) ha,<-hee];rfl
 have HW:=hid hW;clear hW hcon hfin hEV HVIS0 hvis hn ha hme hmb hic hst2 hcv hcov h hF hr hb he hv hsF hiF hst hp HT hbe hee;go_enter func230,ntmps230;go_upto_region 3 with fail
 rw[<-HW.out];clear HW;go_wp2_with fail;refine HVIS.out.mono ?_;rintro o w2 ⟨rfl,W0,hn0,hcc⟩;clear HVIS hca0 hca1;rcases hcc with hcc|hcc
 ·obtain⟨hno,hcv,hm⟩:=hcc;obtain⟨hnw,hrw,a0,a1⟩:=HFIN.out W0 w2 hn0 hm;rw[HBE.out]at a0;rw[HEE.out]at a1;have HNW:=hid hnw;have HRW:=hid hrw;obtain⟨c1,c2,c3,_,_,_⟩:=hcv.cells;have hmem:∀i,i∈xq T (b.1,e.1) t.ids->i∈t.ids:=λi hi=>(List.mem_filter.1 hi).1;have hnil:∀X:World,(binOp .neq 228 .nilIface .nilIface).run prog X=.ok (.bool false) X:=λX=>by kernel_rfl
  rcases hno.cases with⟨hvs,hca⟩|⟨i,rr,M,hvs,hca,hM,hct⟩
  ·have hF:jI (b.1,e.1) (zK T t.ids)=false:=by
    unfold jI;rw[<-gB,hvs];rfl
   rw[hca]at c1 c2
   replace c1:w2.cell? ⟨w.heap.size+1+1,0,none⟩=some .nilIface:=c1
   have HF:Hid (Uv w (yO L (b.1,e.1)) (.returned (.bool false)) w2):=hid ⟨⟨false,rfl,by rw[<-HCON.out,hF]⟩,HNW.out⟩;clear hF hvs hca hmem hno hcv hnw hrw hm hn0 HFIN HEV;go_wp2;go_returns;exact HF.out
  ·have hres:jI (b.1,e.1) (zK T t.ids)=(decide (zy M.1 e.1>=0) && decide (zy (T i).b.1 b.1<=0)):=by
    unfold jI;rw[<-gB,hvs];show((zX (T i).e.1 (zK T rr)).1 && decide (zy (zX (T i).e.1 (zK T rr)).2 e.1>=0) && decide (zy (T i).b.1 b.1<=0))=_;rw[hct,<-hM,Bool.true_and]
   have him:=hmem i (by rw[hvs];simp);have hMe:kL r M:=by rw[hvs]at hca;exact zbD (λk hk=>(HEV.out k (hmem k (by rw[hvs];exact hk))).2) hca
   have hib:=(HEV.out i him).1;obtain⟨ip,iN,icc,hie,_⟩:=hib.iface;obtain⟨xp,xn,xc,hxe,_⟩:=hMe.iface;rw[hca]at c1 c2
   replace c1:w2.cell? ⟨w.heap.size+1+1,0,none⟩=some (T i).b.2:=c1
   replace c2:w2.cell? ⟨w.heap.size+1,0,none⟩=some M.2:=c2
   rw[hie]at c1;rw[hxe]at c2;have k1:Calls prog 187 #[.slice xp xn xc,e.2] w2 λo w'=>o=.returned (.int .i64 (zy M.1 e.1))/\w2=w':=by obtain⟨u,g1,g2⟩:=hMe;obtain⟨v,g3,g4⟩:=HE.out;rw[hxe]at g1;cases g1;rw[g3];exact yH (g2.mono hrw) (g4.mono hrw)
   have k2:Calls prog 187 #[.slice ip iN icc,b.2] w2 λo w'=>o=.returned (.int .i64 (zy (T i).b.1 b.1))/\w2=w':=by obtain⟨u,g1,g2⟩:=hib;obtain⟨v,g3,g4⟩:=HB.out;rw[hie]at g1;cases g1;rw[g3];exact yH (g2.mono hrw) (g4.mono hrw)
   rw[HEE.out]at k1;rw[HBE.out]at k2;have hni:∀X:World,(binOp .neq 228 (.iface 283 (.slice ip iN icc)) .nilIface).run prog X=.ok (.bool true) X:=λX=>by kernel_rfl
   have hm1:=yF (.slice xp xn xc);have hm2:=yF (.slice ip iN icc);have K1:=hid k1;have K2:=hid k2;have HR:Hid (∀bb:Bool,bb=(decide (zy M.1 e.1>=0) && decide (zy (T i).b.1 b.1<=0))->(bb=true↔yO L (b.1,e.1))):=hid λbb h=>by rw[h,<-hres];exact HCON.out
   clear k1 k2 hres hvs hca hmem hno hcv hnw hrw hm hn0 HFIN HEV him hMe hib hie hxe hM hct HCON;by_cases t1:zy M.1 e.1>=0
   ·have HT:Hid (Uv w (yO L (b.1,e.1)) (.returned (.bool (decide (zy (T i).b.1 b.1<=0)))) w2):=hid ⟨⟨_,rfl,HR.out _ (by rw[decide_eq_true t1,Bool.true_and])⟩,HNW.out⟩;clear HR HNW;go_wp2_with fail;refine K1.out.mono ?_;rintro o w9 ⟨rfl,rfl⟩;clear K1;go_wp2_with fail;refine K2.out.mono ?_;rintro o w9 ⟨rfl,rfl⟩;clear K2;go_wp2;go_returns;exact HT.out
   ·have HT:Hid (Uv w (yO L (b.1,e.1)) (.returned (.bool false)) w2):=hid ⟨⟨_,rfl,HR.out _ (by rw[decide_eq_false t1];rfl)⟩,HNW.out⟩;clear HR HNW;go_wp2_with fail;refine K1.out.mono ?_;rintro o w9 ⟨rfl,rfl⟩;clear K1;go_wp2;go_returns;exact HT.out
 ·obtain⟨hf,⟨vb,ve,hcv⟩,hm⟩:=hcc;obtain⟨hnw,hrw,a0,a1⟩:=HFIN.out W0 w2 hn0 hm;obtain⟨_,_,c3,_,_,_⟩:=hcv.cells;have HF:Hid (Uv w (yO L (b.1,e.1)) (.returned (.bool false)) w2):=hid ⟨⟨false,rfl,by rw[<-HCON.out,hf]⟩,hnw⟩;clear hf hcv hnw hrw hm hn0 HFIN;go_wp2;go_returns;exact HF.out
end Go.Proofs.YtbmdoinjkligiaaGreat
