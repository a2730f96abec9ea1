/- Contracts and laws that the last text joins. -/
import Derived.Test.YtbmdoinjkligiaaGreatM10
set_option maxRecDepth 100000
set_option maxHeartbeats 40000000
set_option linter.all false
namespace Go.Proofs.YtbmdoinjkligiaaGreat
open Tryz
open Lib(hid)
open Go.RowKit
def Dr(w w':World):Prop:=∃n,w'=w.drewN n
theorem Dr.refl(w:World):Dr w w:=⟨0,rfl⟩
theorem Dr.drewN{a b:World}(h:Dr a b)(n:Nat):Dr a (b.drewN n):=by obtain⟨m,rfl⟩:=h;exact⟨m+n,by simp[World.drewN,Nat.add_assoc]⟩
theorem Dr.trans{a b c:World}(h:Dr a b)(k:Dr b c):Dr a c:=by obtain⟨n,rfl⟩:=k;exact h.drewN n
theorem Dr.heap{a b:World}(h:Dr a b):b.heap=a.heap:=by obtain⟨n,rfl⟩:=h;rfl
theorem Dr.new{a b:World}(h:Dr a b):za a b:=by obtain⟨n,rfl⟩:=h;exact(za.refl a).drewN n
structure J7(r:Rd)(w:World)(a:Nat)(b e:EV):Prop where
 c0:w.cell? ⟨a,0,none⟩=some b.2
 c1:w.cell? ⟨a,1,none⟩=some e.2
 hb:kK r b
 he:kK r e
 rd:r.le w.cell?
variable{a:Nat}{r:Rd}{w':World}
theorem J7.dr{w:World}{b e:EV}(h:J7 r w a b e)(hd:Dr w w'):J7 r w' a b e:=by obtain⟨n,rfl⟩:=hd;exact⟨h.c0,h.c1,h.hb,h.he,h.rd⟩
theorem GX(v:Value)(w:World):(Instr.typeAssert (.iface 440 v) 228 440 false).run prog w=.ok v w:=by kernel_rfl
variable{r':Rd}{x:Nat}
theorem Ys{w:World}{b e b2 e2:EV}(h1:J7 r w a b e)(h2:J7 r' w x b2 e2):
  Calls prog 244 #[ptr a,.iface 440 (ptr x)] w λo w'=>o=.returned (.int .i64 (jI (b.1,e.1) (b2.1,e2.1)))/\Dr w w':=by
 obtain⟨bp,bn,bc,pU,_⟩:=h1.hb.iface;obtain⟨ep,en,ec,rW,_⟩:=h1.he.iface;have hta:=λv W=>GX v W;have Hl:=yC (.slice bp bn bc);have Hq:=yC (.slice ep en ec);have k1:∀W,Dr w W->Calls prog 187 #[.slice bp bn bc,b2.2] W λo w'=>o=.returned (.int .i64 (zy b.1 b2.1))/\W=w':=λW hd=>by obtain⟨u,g1,g2⟩:=(h1.dr hd).hb;obtain⟨v,g3,g4⟩:=(h2.dr hd).hb;rw[pU]at g1;cases g1;rw[g3];exact yE (g2.mono (h1.dr hd).rd) (g4.mono (h2.dr hd).rd)
 have k2:∀W,Dr w W->Calls prog 187 #[.slice bp bn bc,e2.2] W λo w'=>o=.returned (.int .i64 (zy b.1 e2.1))/\W=w':=λW hd=>by obtain⟨u,g1,g2⟩:=(h1.dr hd).hb;obtain⟨v,g3,g4⟩:=(h2.dr hd).he;rw[pU]at g1;cases g1;rw[g3];exact yE (g2.mono (h1.dr hd).rd) (g4.mono (h2.dr hd).rd)
 have k3:∀W,Dr w W->Calls prog 187 #[.slice ep en ec,b2.2] W λo w'=>o=.returned (.int .i64 (zy e.1 b2.1))/\W=w':=λW hd=>by obtain⟨u,g1,g2⟩:=(h1.dr hd).he;obtain⟨v,g3,g4⟩:=(h2.dr hd).hb;rw[rW]at g1;cases g1;rw[g3];exact yE (g2.mono (h1.dr hd).rd) (g4.mono (h2.dr hd).rd)
 have K1:=hid k1;clear k1;have K2:=hid k2;clear k2;have K3:=hid k3;clear k3;have Hw:∀W,Dr w W->W.cell? ⟨a,0,none⟩=some (.iface 283 (.slice bp bn bc))/\W.cell? ⟨a,1,none⟩=some (.iface 283 (.slice ep en ec))/\W.cell? ⟨x,0,none⟩=some b2.2/\W.cell? ⟨x,1,none⟩=some e2.2:=λW hd=>by rw[<-pU,<-rW];exact⟨(h1.dr hd).c0,(h1.dr hd).c1,(h2.dr hd).c0,(h2.dr hd).c1⟩
 have N5:=hid Hw;clear Hw;have hres:jI (b.1,e.1) (b2.1,e2.1)=if zy b.1 b2.1<0/\zy e.1 b2.1<=0 then -1 else if zy b.1 e2.1>=0 then 1 else 0:=rfl;obtain⟨res,hr⟩:=zex (jI (b.1,e.1) (b2.1,e2.1));rw[<-hr];rw[hres]at hr;have HR:=hid hr;clear hr hres;clear h1 h2 pU rW;have oq:=Dr.refl w;obtain⟨a0,a1,x0,x1⟩:=N5.out w oq;have HD:=hid oq;clear oq;have KK:=hid (λn=>K1.out _ (HD.out.drewN n));go_enter func244,ntmps244;go_wp2;go_quiet ((go_at_call 187;exact zw (KK.out _)));have PS:=HD.out.drewN nq;generalize w.drewN nq=w1 at PS⊢;clear a0 a1 x0 x1 KK HD;obtain⟨a0,a1,x0,x1⟩:=N5.out w1 PS;have HD:=hid PS;clear PS;have KK:=hid (λn=>K2.out _ (HD.out.drewN n));go_wp2;go_quiet ((go_at_call 187;exact zw (KK.out _)));have PS:=HD.out.drewN nq;generalize w1.drewN nq=w2 at PS⊢;clear a0 a1 x0 x1 KK HD;obtain⟨a0,a1,x0,x1⟩:=N5.out w2 PS;have HD:=hid PS;clear PS;have KK:=hid (λn=>K3.out _ (HD.out.drewN n));go_wp2
 go_quiet ((go_at_call 187;exact zw (KK.out _)));have PS:=HD.out.drewN nq;generalize w2.drewN nq=w3 at PS⊢;clear a0 a1 x0 x1 KK HD K1 K2 K3 N5;have HD:=hid PS;clear PS;by_cases c1:zy b.1 b2.1<0
 ·by_cases c2:zy e.1 b2.1<=0
  ·have H:=hid (show res= -1 by rw[HR.out,if_pos ⟨c1,c2⟩]);go_wp2;go_returns;exact⟨by rw[H.out];rfl,HD.out⟩
  ·by_cases c3:zy b.1 e2.1>=0
   ·have H:=hid (show res=1 by rw[HR.out,if_neg (λh=>c2 h.2),if_pos c3]);go_wp2;go_returns;exact⟨by rw[H.out];rfl,HD.out⟩
   ·have H:=hid (show res=0 by rw[HR.out,if_neg (λh=>c2 h.2),if_neg c3]);go_wp2;go_returns;exact⟨by rw[H.out];rfl,HD.out⟩
 ·by_cases c3:zy b.1 e2.1>=0
  ·have H:=hid (show res=1 by rw[HR.out,if_neg (λh=>c1 h.1),if_pos c3]);go_wp2;go_returns;exact⟨by rw[H.out];rfl,HD.out⟩
  ·have H:=hid (show res=0 by rw[HR.out,if_neg (λh=>c1 h.1),if_neg c3]);go_wp2;go_returns;exact⟨by rw[H.out];rfl,HD.out⟩
variable{L:List Iv}{T:NM}
theorem GY{l:List Nat}(hp:(zK T l).Perm L)(q:Iv):(∃v∈L,jI q v=0)↔∃i∈l,Ov T q i:=by
 constructor
 ·rintro⟨v,hv,h⟩;obtain⟨i,hi,rfl⟩:=List.mem_map.1 (hp.mem_iff.2 hv);exact⟨i,hi,h⟩
 ·rintro⟨i,hi,h⟩;exact⟨jd T i,hp.mem_iff.1 (List.mem_map.2 ⟨i,hi,rfl⟩),h⟩
structure vg(r:Rd)(w:World)(T:NM)(s it root:Nat)(n:Int)(t:Tr):Prop where
 nodes:∀i∈t.ids,w.heap[i]? =some (.cells (jZ (T i)) 279 (0,0))
 blk:w.heap[it]? =some (.cells #[ptr root,.int .i64 n,ptr s] 282 (0,0))
 ev:∀i∈t.ids,kK r (T i).b/\kK r (T i).e/\kK r (T i).mx
 tg:TG T s root s root (λi=>i∈t.ids) [] t
 good:vt (zK T t.ids)
 cs:Wg w s
 rd:r.le w.cell?
variable{it:Nat}
theorem vg.new{w:World}{s root:Nat}{n:Int}{t:Tr}(h:vg r w T s it root n t)(hn:za w w'):vg r w' T s it root n t:=by obtain⟨c,T',hc⟩:=h.cs;exact⟨λi hi=>hn.heap (h.nodes i hi),hn.heap h.blk,h.ev,h.tg,h.good,⟨c,T',hn.heap hc⟩,h.rd.le_trans hn.le⟩
theorem vg.cells{w:World}{s root:Nat}{n:Int}{t:Tr}(h:vg r w T s it root n t){i:Nat}(hi:i∈t.ids):
  w.cell? ⟨i,0,none⟩=some (T i).b.2/\w.cell? ⟨i,1,none⟩=some (T i).e.2/\w.cell? ⟨i,3,none⟩=some (T i).mx.2/\w.cell? ⟨i,4,none⟩=some (ptr (T i).l)/\w.cell? ⟨i,5,none⟩=some (ptr (T i).r):=by
 have:=h.nodes i hi;refine⟨?_,?_,?_,?_,?_⟩<;>rw[cell_of_row w i _ _ _ (0,0) this]<;>rfl
theorem vg.iv{w:World}{s root:Nat}{n:Int}{t:Tr}(h:vg r w T s it root n t){i:Nat}(hi:i∈t.ids):J7 r w i (T i).b (T i).e:=
 ⟨(h.cells hi).1,(h.cells hi).2.1,(h.ev i hi).1,(h.ev i hi).2.1,h.rd⟩
theorem vg.it2{w:World}{s root:Nat}{n:Int}{t:Tr}(h:vg r w T s it root n t):w.cell? ⟨it,0,none⟩=some (ptr root)/\w.cell? ⟨it,2,none⟩=some (ptr s):=by constructor<;>rw[cell_of_row w it _ _ _ (0,0) h.blk]<;>rfl
theorem vg.neq{w:World}{s root:Nat}{n:Int}{t:Tr}(h:vg r w T s it root n t)(ha:a=s\/a∈t.ids):(binOp .neq 274 (ptr a) (ptr s)).run prog w=.ok (.bool (!decide (a=s))) w:=by
 refine xO ?_ h.cs;rcases ha with e|e
 ·rw[e];exact h.cs
 ·exact⟨_,_,h.nodes a e⟩
theorem vg.eql{w:World}{s root:Nat}{n:Int}{t:Tr}(h:vg r w T s it root n t)(ha:a=s\/a∈t.ids):(binOp .eql 274 (ptr a) (ptr s)).run prog w=.ok (.bool (decide (a=s))) w:=by
 refine ZH ?_ h.cs;rcases ha with e|e
 ·rw[e];exact h.cs
 ·exact⟨_,_,h.nodes a e⟩
variable{F:Nat->Prop}
theorem q7.still{w:World}{s:Nat}(h:q7 r w F s it L)(hr:r.le w.cell?):∃T root t n,vg r w T s it root n t/\(zK T t.ids).Perm L:=by obtain⟨⟨T,root,t,n,h1,h2,h3,h4,h5,h6,h7,h8,h9⟩,hc,_⟩:=h;exact⟨T,root,t,n,⟨h1,h2,h3,h4,h6,hc,hr⟩,h7⟩
structure KQ(T:NM)(s:Nat)(t:Tr)(q:Iv)(x:Nat)(t1:Tr):Prop where
 is:∃p,Is T s p x t1
 mx:v_ T t1
 good:vt (zK T t1.ids)
 sub:∀i∈t1.ids,i∈t.ids
 iff:(∃i∈t.ids,Ov T q i)↔∃i∈t1.ids,Ov T q i
theorem KQ.node{s:Nat}{t:Tr}{q:Iv}{t1:Tr}(h:KQ T s t q x t1)(hx:x≠s):∃l r,t1=.node x l r/\x∈t.ids:=by
 obtain⟨p,hi⟩:=h.is;cases t1 with
 |nil=>exact absurd hi hx
 |node i l r=>obtain⟨rfl,_⟩:=hi;exact⟨l,r,rfl,h.sub x (by simp[Tr.ids])⟩
theorem KQ.step{s:Nat}{t:Tr}{q:Iv}{l r:Tr}(h:KQ T s t q x (.node x l r))(hq:Q5 q)(hx: ¬Ov T q x):
  (((T x).l≠s/\zy (T (T x).l).mx.1 q.1>0)->KQ T s t q (T x).l l)/\(¬((T x).l≠s/\zy (T (T x).l).mx.1 q.1>0)->KQ T s t q (T x).r r):=by
 obtain⟨p,hi⟩:=h.is;obtain⟨g1,g2,_⟩:=h.good.node;have:=Wf hi h.mx h.good hq hx;refine⟨λc=>⟨⟨_,hi.2.2.2.1⟩,h.mx.2.1,g1,λi hi=>h.sub i (by simp[Tr.ids,hi]),h.iff.trans (this.1 c)⟩,λc=>⟨⟨_,hi.2.2.2.2⟩,h.mx.2.2,g2,λi hi=>h.sub i (by simp[Tr.ids,hi]),h.iff.trans (this.2 c)⟩⟩
theorem KQ.left{s:Nat}{t:Tr}{q:Iv}{l r:Tr}(h:KQ T s t q x (.node x l r)):(T x).l=s\/(T x).l∈t.ids:=by
 obtain⟨p,hi⟩:=h.is;rcases hi.2.2.2.1.root with e|e
 ·exact Or.inl e
 ·exact Or.inr (h.sub _ (by simp[Tr.ids,e]))
theorem J8{w:World}{s:Nat}{b e:EV}(h:q7 r w F s it L)(hr:r.le w.cell?)(hb:kK r b)(he:kK r e)(hv:Q5 (b.1,e.1)):
  Calls prog 235 #[ptr it,.agg #[b.2,e.2]] w λo w'=>(∃bb,o=.returned (.bool bb)/\(bb=true↔∃v∈L,jI (b.1,e.1) v=0))/\za w w':=by
 obtain⟨T,root,t,n,Hi,hp⟩:=h.still hr;obtain⟨bp,bn,bc,pU,_⟩:=hb.iface;obtain⟨ep,en,ec,rW,_⟩:=he.iface;obtain⟨w1,Hh⟩:=zex (w.alloc (.cells #[b.2,e.2] 230));have hQ:za w w1:=by rw[Hh];exact(za.refl w).alloc _
 have a0:w1.cell? ⟨w.heap.size,0,none⟩=some b.2:=by rw[Hh,World.cell?_alloc_new];rfl
 have a1:w1.cell? ⟨w.heap.size,1,none⟩=some e.2:=by rw[Hh,World.cell?_alloc_new];rfl
 have Re:=Hi.new hQ;have RS:J7 r w1 w.heap.size b e:=⟨a0,a1,hb,he,Re.rd⟩;have St:KQ T s t (b.1,e.1) root t:=⟨⟨_,Hi.tg.is⟩,Hi.tg.mx,Hi.good,λ_ h=>h,Iff.rfl⟩;obtain⟨i0,i2⟩:=Re.it2;have Hv:∀x t1,KQ T s t (b.1,e.1) x t1->(x=s->¬∃v∈L,jI (b.1,e.1) v=0)/\(x≠s->Ov T (b.1,e.1) x->∃v∈L,jI (b.1,e.1) v=0):=λx t1 hk=>by
  rw[GY hp,hk.iff];refine⟨λhx=> ?_,λhx ho=> ?_⟩
  ·rintro⟨i,hi,_⟩;obtain⟨p,his⟩:=hk.is;cases t1 with
   |nil=>simp[Tr.ids]at hi
   |node j l r'=>exact his.2.1 (his.1.symm.trans hx)
  ·obtain⟨l,r',rfl,_⟩:=hk.node hx;exact⟨x,by simp[Tr.ids],ho⟩
 have pj:=hid Hv;clear Hv;have Tu:=hid Re;clear Re Hi;have Cg:=hid RS;clear RS;have sM:=hid St;clear St;have HV:=hid hv;clear hv;have Hs:=hid hQ;clear hQ;have Rt:=hid pU;have HB:=hid hb;rw[pU]at Hh a0;rw[rW]at Hh;rw[pU,rW];have Pr:=hid Hh;clear Hh;have Hb:=World.block_lt_of_cell? w1 _ i0;clear h hr hb he pU rW hp a1 Hb;have N6:Dr w1 w1:=Dr.refl w1;go_enter func235,ntmps235;go_upto_region 1 with fail
 rw[<-Pr.out];clear Pr;go_wp2;go_loopg [5] (t.ids.length+1) (λgg xv wr=>∃x t1,xv=ptr x/\KQ T s t (b.1,e.1) x t1/\Dr w1 wr/\t1.ids.length<gg)
 case atStart=>exact⟨root,t,rfl,sM.out,N6,by omega⟩
 case round=>
  clear sM i0 i2 a0 N6;obtain⟨x,t1,rfl,hk,N6,h_⟩:=hrel;have Hi:=Tu.out.new N6.new;have RS:=Cg.out.dr N6;obtain⟨i0,i2⟩:=Hi.it2;by_cases hx:x=s
  ·have mK:=(pj.out x t1 hk).1 hx;have sk:=Hi.neq (a:=x) (Or.inl hx);rw[decide_eq_true hx]at sk;have ia:=hid mK;clear mK;have bP:=hid N6;clear N6;rw[hx]at sk⊢;clear hk Hi RS hx h_;go_wp2;go_returns;exact⟨⟨false,rfl,(λh=>by cases h),(λh=>absurd h ia.out)⟩,Hs.out.trans bP.out.new⟩
  ·obtain⟨l,rr,rfl,Tv⟩:=hk.node hx;have sk:=Hi.neq (a:=x) (Or.inr Tv);rw[decide_eq_false hx]at sk;obtain⟨x0,x1,x3,x4,x5⟩:=Hi.cells Tv;have P9:=Ys RS (Hi.iv Tv);have lz:=hid P9;clear P9;by_cases ho:Ov T (b.1,e.1) x
   ·have mQ:=(pj.out x _ hk).2 hx ho;have hz:(jI (b.1,e.1) ((T x).b.1,(T x).e.1) !=0)=false:=by
     have:jI (b.1,e.1) ((T x).b.1,(T x).e.1)=0:=ho;rw[this];rfl
    have AQ:∀W,Dr wr W->W.cell? ⟨it,2,none⟩=some (ptr s)/\(binOp .neq 274 (ptr x) (ptr s)).run prog W=.ok (.bool true) W:=λW hd=>by have h2:=Hi.new hd.new;have h3:=h2.neq (a:=x) (Or.inr Tv);rw[decide_eq_false hx]at h3;exact⟨h2.it2.2,h3⟩
    have ot:=hid AQ;clear AQ;have ou:=hid mQ;clear mQ;have bP:=hid N6;clear N6;clear hk Hi RS hx h_ ho;go_wp2_with (go_at_call 244;go_must (refine lz.out.mono ?_);rintro o w2 ⟨rfl,Pe⟩;obtain⟨j2,j3⟩:=ot.out w2 Pe;have Nl:=hid Pe;clear Pe);go_returns;exact⟨⟨true,rfl,λ_=>ou.out,λ_=>rfl⟩,(Hs.out.trans bP.out.new).trans Nl.out.new⟩
   ·have hz:(jI (b.1,e.1) ((T x).b.1,(T x).e.1) !=0)=true:=by
     have:jI (b.1,e.1) ((T x).b.1,(T x).e.1)≠0:=ho;simpa using this
    obtain⟨hL,hR⟩:=hk.step HV.out ho;have AL:=hk.left;have Ch:l.ids.length<(Tr.node x l rr).ids.length/\rr.ids.length<(Tr.node x l rr).ids.length:=by simp[Tr.ids];omega
    have HK:=hid hk;clear hk;have HL:=hid hL;clear hL;have HR:=hid hR;clear hR;have Ph:=hid Hi;clear Hi;have TK:=hid RS;clear RS;have bP:=hid N6;clear N6;have HXT:=hid Tv;clear Tv;have HLD:=hid AL;clear AL;have Ta:=hid Ch;clear Ch;have H7:=hid h_;clear h_;clear hx ho;go_upto_region 3 with(go_at_call 244;go_must (refine lz.out.mono ?_);rintro o w2 ⟨rfl,Pe⟩)
    have Hi:=Ph.out.new Pe.new;have RS:=TK.out.dr Pe;clear x0 x1 x3 x4 x5 i0 i2 sk;obtain⟨i0,i2⟩:=Hi.it2;obtain⟨x0,x1,x3,x4,x5⟩:=Hi.cells HXT.out;have a0:=RS.c0;rw[Rt.out]at a0;by_cases PY:(T x).l=s
    ·have pS:∀m,(binOp .neq 274 (ptr (T x).l) (ptr s)).run prog (w2.drewN m)=.ok (.bool false) (w2.drewN m):=λm=>by
      have:=(Hi.new ((Dr.refl w2).drewN m).new).neq (a:=(T x).l) (Or.inl PY)
      rwa [decide_eq_true PY]at this
     have hS:=hid (HR.out (λh=>h.1 PY));have Nl:=hid (bP.out.trans Pe);rw[PY]at pS x4;clear Pe Hi RS PY HL HR;go_quiet (fail);go_wp2;go_roundg (gk-1)
     case rel=>exact⟨_,rr,rfl,hS.out,Nl.out.drewN _,by have:=Ta.out;have:=H7.out;omega⟩
     case measure=>have:=H7.out;omega
    ·have Hb:=HLD.out.resolve_left PY;have pS:∀m,(binOp .neq 274 (ptr (T x).l) (ptr s)).run prog (w2.drewN m)=.ok (.bool true) (w2.drewN m):=λm=>by
      have:=(Hi.new ((Dr.refl w2).drewN m).new).neq (a:=(T x).l) (Or.inr Hb)
      rwa [decide_eq_false PY]at this
     obtain⟨_,_,l3,_,_⟩:=Hi.cells Hb;obtain⟨lp,ln,lc,hY,_⟩:=(Hi.ev _ Hb).2.2.iface;have T_:∀m,Calls prog 187 #[.slice lp ln lc,b.2] (w2.drewN m) λo w'=>o=.returned (.int .i64 (zy (T (T x).l).mx.1 b.1))/\w2.drewN m=w':=λm=>by have:=(Hi.new ((Dr.refl w2).drewN m).new);obtain⟨u,g1,g2⟩:=(this.ev _ Hb).2.2;obtain⟨v,g3,g4⟩:=HB.out;rw[hY]at g1;cases g1;rw[g3];exact yE (g2.mono this.rd) (g4.mono this.rd)
     rw[Rt.out]at T_;rw[hY]at l3;have Hl:=yC (.slice lp ln lc);have bQ:=hid T_;clear T_;by_cases mB:zy (T (T x).l).mx.1 b.1>0
     ·have hS:=hid (HL.out ⟨PY,mB⟩);have Nl:=hid (bP.out.trans Pe);clear Pe Hi RS PY HL HR Hb hY;go_quiet ((go_at_call 187;exact zw (bQ.out _)));go_wp2;go_roundg (gk-1)
      case rel=>exact⟨_,l,rfl,hS.out,Nl.out.drewN _,by have:=Ta.out;have:=H7.out;omega⟩
      case measure=>have:=H7.out;omega
     ·have hS:=hid (HR.out (λh=>mB h.2));have Nl:=hid (bP.out.trans Pe);clear Pe Hi RS PY HL HR Hb hY;go_quiet ((go_at_call 187;exact zw (bQ.out _)));go_wp2;go_roundg (gk-1)
      case rel=>exact⟨_,rr,rfl,hS.out,Nl.out.drewN _,by have:=Ta.out;have:=H7.out;omega⟩
      case measure=>have:=H7.out;omega
structure ue(T:NM)(s:Nat)(t:Tr)(x:Nat)(t1:Tr):Prop where
 is:∃p,Is T s p x t1
 mx:v_ T t1
 good:vt (zK T t1.ids)
 sub:∀i∈t1.ids,i∈t.ids
theorem ue.kids{s:Nat}{t:Tr}{i:Nat}{l r:Tr}(h:ue T s t x (.node i l r)):x=i/\x≠s/\x∈t.ids/\ue T s t (T x).l l/\ue T s t (T x).r r:=by obtain⟨p,hi⟩:=h.is;obtain⟨g1,g2,_⟩:=h.good.node;obtain⟨rfl,h2,_,h4,h5⟩:=hi;exact⟨rfl,h2,h.sub x (by simp[Tr.ids]),⟨⟨_,h4⟩,h.mx.2.1,g1,λj hj=>h.sub j (by simp[Tr.ids,hj])⟩,⟨⟨_,h5⟩,h.mx.2.2,g2,λj hj=>h.sub j (by simp[Tr.ids,hj])⟩⟩
theorem ue.root{s:Nat}{t:Tr}{t1:Tr}(h:ue T s t x t1):x=s\/x∈t.ids:=by
 obtain⟨p,hi⟩:=h.is;rcases hi.root with e|e
 ·exact Or.inl e
 ·exact Or.inr (h.sub x e)
structure Gp(r:Rd)(T:NM)(s it root:Nat)(n:Int)(t:Tr)(a:Nat)(b e:EV)(fb:Nat)(full:List Nat)(I:List Nat->World->Prop)(J:World->Prop):Prop where
 base:∀vs W,I vs W->vg r W T s it root n t/\J7 r W a b e
 new:∀vs W W',I vs W->za W W'->I vs W'
 jnew:∀W W',J W->za W W'->J W'
 step:∀i∈t.ids,∀vs W,(∃post,full=vs++i::post)->I vs W->Calls prog 246 #[ptr i,ptr fb] W λo w'=>(o=.returned (.bool true)/\I (vs++[i]) w')\/(o=.returned (.bool false)/\J w')
def Kr(I:List Nat->World->Prop)(J:World->Prop)(vs:List Nat)(o:Ending)(w':World):Prop:=(o=.returned (.bool true)/\I vs w')\/(o=.returned (.bool false)/\J w')
theorem Yt{r:Rd}{T:NM}{s it root:Nat}{n:Int}{t:Tr}{a:Nat}{b e:EV}{fb:Nat}{full:List Nat}{I:List Nat->World->Prop}{J:World->Prop}(hV:Gp r T s it root n t a b e fb full I J)(hv:Q5 (b.1,e.1)):
  ∀(t1:Tr) (x:Nat) (vs:List Nat) (w:World),ue T s t x t1->(∃post,full=vs++(xl T (b.1,e.1) t1.ids++post))->I vs w->
   Calls prog 245 #[ptr x,ptr a,ptr s,.func (.func 246) #[] #[ptr fb]] w (Kr I J (vs++xl T (b.1,e.1) t1.ids))
 |.nil,x,vs,w,hp,_,hI=>by obtain⟨p,hi⟩:=hp.is;have hx:x=s:=hi;obtain⟨Hi,_⟩:=hV.base vs w hI;have pN:=Hi.eql (a:=x) (Or.inl hx);rw[decide_eq_true hx]at pN;have HG:Hid (Kr I J (vs++xl T (b.1,e.1) Tr.nil.ids) (.returned (.bool true)) w):=hid (Or.inl ⟨rfl,by simpa[Tr.ids,xl]using hI⟩);rw[hx]at pN⊢;clear hV hp hi hx Hi hI;go_enter func245,ntmps245;go_wp2;go_returns;exact HG.out
 |.node x' l rr,x,vs,w,hp,sA,hI=>by
  obtain⟨rfl,SM,Tv,hl,SL⟩:=hp.kids;have HL:Hid (∀vs W,(∃post,full=vs++(xl T (b.1,e.1) l.ids++post))->I vs W->Calls prog 245 #[ptr (T x).l,ptr a,ptr s,.func (.func 246) #[] #[ptr fb]] W (Kr I J (vs++xl T (b.1,e.1) l.ids))):=hid λvs W hf h=>Yt hV hv l (T x).l vs W hl hf h;have HR:Hid (∀vs W,(∃post,full=vs++(xl T (b.1,e.1) rr.ids++post))->I vs W->Calls prog 245 #[ptr (T x).r,ptr a,ptr s,.func (.func 246) #[] #[ptr fb]] W (Kr I J (vs++xl T (b.1,e.1) rr.ids))):=hid λvs W hf h=>Yt hV hv rr (T x).r vs W SL hf h;obtain⟨Hi,RS⟩:=hV.base vs w hI;have pN:=Hi.eql (a:=x) (Or.inr Tv);rw[decide_eq_false SM]at pN;have HC:=hid (Ys RS (Hi.iv Tv));have HF:Hid (∀vs W,I vs W->W.cell? ⟨x,0,none⟩=some (T x).b.2/\W.cell? ⟨x,3,none⟩=some (T x).mx.2/\W.cell? ⟨x,4,none⟩=some (ptr (T x).l)/\W.cell? ⟨x,5,none⟩=some (ptr (T x).r)):=hid λvs W h=>by
   have:=(hV.base vs W h).1.cells Tv;exact⟨this.1,this.2.2.1,this.2.2.2.1,this.2.2.2.2⟩
  have HN:Hid (∀vs W W',I vs W->za W W'->I vs W'):=hid hV.new;have HJ:Hid (∀W W',J W->za W W'->J W'):=hid hV.jnew;have HX:Hid (∀vs W,(∃post,full=vs++x::post)->I vs W->_):=hid λvs W hf h=>hV.step x Tv vs W hf h;obtain⟨post,PG⟩:=sA;have R7:=hp.good;have Tp:=hp.mx;have HI:=hid hI;by_cases c1:jI (b.1,e.1) ((T x).b.1,(T x).e.1)<0
  ·have Nc:=Uf R7 hv c1;rw[Nc]at PG⊢;have FL:=hid (show∃post,full=vs++(xl T (b.1,e.1) l.ids++post)from⟨post,PG⟩);clear PG Nc hV hp hl SL Hi RS R7 Tp hI Tv;go_enter func245,ntmps245;go_upto_region 6 with(go_at_call 244;go_must (refine HC.out.mono ?_);rintro o w2 ⟨rfl,Pe⟩)
   have RY:=HN.out _ _ _ HI.out Pe.new;obtain⟨x0,x3,x4,x5⟩:=HF.out _ _ RY;have Ta:=hid (HL.out _ _ FL.out RY);clear RY Pe HI HC pN;go_wp2_with fail;refine Ta.out.mono ?_;rintro o w3 (⟨rfl,h3⟩|⟨rfl,h3⟩)
   ·have H3:=hid h3;clear h3 Ta x0 x3 x4 x5;go_wp2;go_returns;exact Or.inl ⟨rfl,H3.out⟩
   ·have H3:=hid h3;clear h3 Ta x0 x3 x4 x5;go_wp2;go_returns;exact Or.inr ⟨rfl,H3.out⟩
  ·by_cases c2:jI (b.1,e.1) ((T x).b.1,(T x).e.1)>0
   ·
    obtain⟨W1,PW⟩:∃f:World->World,f=λW=>W:=⟨_,rfl⟩;clear PW W1;have bH:Hid (∀W m,W.cell? ⟨m,0,none⟩=some (T x).b.2->W.cell? ⟨m,1,none⟩=some (T x).mx.2->I vs W->Calls prog 244 #[ptr m,.iface 440 (ptr a)] W λo w'=>o=.returned (.int .i64 (jI ((T x).b.1,(T x).mx.1) (b.1,e.1)))/\Dr W w'):=hid λW m h0 h1 h=>by obtain⟨g1,g2⟩:=hV.base vs W h;exact Ys ⟨h0,h1,(g1.ev x Tv).1,(g1.ev x Tv).2.2,g1.rd⟩ g2
    obtain⟨xp,xn,xc,tS,_⟩:=(Hi.ev x Tv).1.iface;obtain⟨mp,mn,mc,bR,_⟩:=(Hi.ev x Tv).2.2.iface;rw[tS,bR]at bH HF;have hAl:∀W:World,W.heap.size<(W.alloc (.cells #[.nilIface,.nilIface] 230)).heap.size:=λW=>by simp
    by_cases c3:jI ((T x).b.1,(T x).mx.1) (b.1,e.1)=0
    ·skip
     have c3':(jI ((T x).b.1,(T x).mx.1) (b.1,e.1)==0)=true:=by simpa using c3
     have Nc:=Ui (T:=T) (q:=(b.1,e.1)) (x:=x) (l:=l) (r:=rr) c2;have S8:vs++xl T (b.1,e.1) (Tr.node x l rr).ids=(vs++xl T (b.1,e.1) l.ids)++xl T (b.1,e.1) rr.ids:=by rw[Nc];simp
     rw[S8];rw[Nc]at PG;have FL:=hid (show∃post,full=vs++(xl T (b.1,e.1) l.ids++post)from⟨xl T (b.1,e.1) rr.ids++post,by rw[PG];simp⟩);have FR:=hid (show∃post,full=(vs++xl T (b.1,e.1) l.ids)++(xl T (b.1,e.1) rr.ids++post)from⟨post,by rw[PG];simp⟩);clear PG Nc S8 hV hp hl SL Hi RS R7 Tp hI Tv c3 tS bR hAl;go_enter func245,ntmps245;go_upto_region 6 with(go_at_call 244;go_must (refine HC.out.mono ?_);rintro o w2 ⟨rfl,Pe⟩)
     have RY:=HN.out _ _ _ HI.out Pe.new;obtain⟨x0,x3,x4,x5⟩:=HF.out _ _ RY;have y0:=λo=>za.le ((za.refl w2).alloc o) _ _ x0;have y3:=λo=>za.le ((za.refl w2).alloc o) _ _ x3;have TK:=hid RY;clear RY Pe HI HC pN;go_wp2;have Hg:za w2 (w2.alloc (.cells #[.iface 283 (.slice xp xn xc),.iface 283 (.slice mp mn mc)] 230)).drew:=((za.refl w2).alloc _).drew;have m0:(w2.alloc (.cells #[.iface 283 (.slice xp xn xc),.iface 283 (.slice mp mn mc)] 230)).drew.cell? ⟨w2.heap.size,0,none⟩=some (.iface 283 (.slice xp xn xc)):=by show(w2.alloc _).cell? _=_;rw[World.cell?_alloc_new];rfl
     have m1:(w2.alloc (.cells #[.iface 283 (.slice xp xn xc),.iface 283 (.slice mp mn mc)] 230)).drew.cell? ⟨w2.heap.size,1,none⟩=some (.iface 283 (.slice mp mn mc)):=by show(w2.alloc _).cell? _=_;rw[World.cell?_alloc_new];rfl
     have HM:=hid (And.intro Hg (And.intro m0 m1));clear Hg m0 m1;go_region;obtain⟨Hg,m0,m1⟩:=HM.out;clear HM y0 y3 x0 x3 x4 x5;generalize(w2.alloc (.cells #[.iface 283 (.slice xp xn xc),.iface 283 (.slice mp mn mc)] 230)).drew=w3 at*
     have Pc:=HN.out _ _ _ TK.out Hg;have bQ:=hid (bH.out w3 _ m0 m1 Pc);have ie:=hid Pc;clear Hg m0 m1 Pc TK bH;go_upto_region 12 with(go_at_call 244;go_must (refine bQ.out.mono ?_);rintro o w4 ⟨rfl,Sv⟩)
     have Ci:=HN.out _ _ _ ie.out Sv.new;obtain⟨x0,x3,x4,x5⟩:=HF.out _ _ Ci;have Ta:=hid (HL.out _ _ FL.out Ci);clear Ci Sv ie bQ;go_wp2_with fail;refine Ta.out.mono ?_;rintro o w5 (⟨rfl,h3⟩|⟨rfl,h3⟩)
     ·have rX:=hid (HR.out _ _ FR.out h3);clear x0 x3 x4 x5;obtain⟨x0,x3,x4,x5⟩:=HF.out _ _ h3;clear h3 Ta;go_wp2_with fail;refine rX.out.mono ?_;rintro o w6 (⟨rfl,h5⟩|⟨rfl,h5⟩)
      ·have H5:=hid h5;clear h5 rX x0 x3 x4 x5;go_wp2;go_returns;exact Or.inl ⟨rfl,H5.out⟩
      ·have H5:=hid h5;clear h5 rX x0 x3 x4 x5;go_wp2;go_returns;exact Or.inr ⟨rfl,H5.out⟩
     ·have H3:=hid h3;clear h3 Ta x0 x3 x4 x5;go_wp2;go_returns;exact Or.inr ⟨rfl,H3.out⟩
    ·have Nc:=Ug (s:=0) (p:=0) Tp R7 hv c2 c3;rw[Nc,List.append_nil];clear PG;have c3':(jI ((T x).b.1,(T x).mx.1) (b.1,e.1)==0)=false:=by simpa using c3
     clear Nc hV hp hl SL Hi RS R7 Tp hI Tv c3 tS bR hAl;go_enter func245,ntmps245;go_upto_region 6 with(go_at_call 244;go_must (refine HC.out.mono ?_);rintro o w2 ⟨rfl,Pe⟩)
     have RY:=HN.out _ _ _ HI.out Pe.new;obtain⟨x0,x3,x4,x5⟩:=HF.out _ _ RY;have y0:=λo=>za.le ((za.refl w2).alloc o) _ _ x0;have y3:=λo=>za.le ((za.refl w2).alloc o) _ _ x3;have TK:=hid RY;clear RY Pe HI HC pN;go_wp2;have Hg:za w2 (w2.alloc (.cells #[.iface 283 (.slice xp xn xc),.iface 283 (.slice mp mn mc)] 230)).drew:=((za.refl w2).alloc _).drew;have m0:(w2.alloc (.cells #[.iface 283 (.slice xp xn xc),.iface 283 (.slice mp mn mc)] 230)).drew.cell? ⟨w2.heap.size,0,none⟩=some (.iface 283 (.slice xp xn xc)):=by show(w2.alloc _).cell? _=_;rw[World.cell?_alloc_new];rfl
     have m1:(w2.alloc (.cells #[.iface 283 (.slice xp xn xc),.iface 283 (.slice mp mn mc)] 230)).drew.cell? ⟨w2.heap.size,1,none⟩=some (.iface 283 (.slice mp mn mc)):=by show(w2.alloc _).cell? _=_;rw[World.cell?_alloc_new];rfl
     have HM:=hid (And.intro Hg (And.intro m0 m1));clear Hg m0 m1;go_region;obtain⟨Hg,m0,m1⟩:=HM.out;clear HM y0 y3 x0 x3 x4 x5;generalize(w2.alloc (.cells #[.iface 283 (.slice xp xn xc),.iface 283 (.slice mp mn mc)] 230)).drew=w3 at*
     have Pc:=HN.out _ _ _ TK.out Hg;have bQ:=hid (bH.out w3 _ m0 m1 Pc);have ie:=hid Pc;clear Hg m0 m1 Pc TK bH;go_wp2_with (go_at_call 244;go_must (refine bQ.out.mono ?_);rintro o w4 ⟨rfl,Sv⟩;have HD4:=hid Sv;clear Sv);go_returns;exact Or.inl ⟨rfl,HN.out _ _ _ ie.out HD4.out.new⟩
   ·have c0:jI (b.1,e.1) ((T x).b.1,(T x).e.1)=0:=by omega
    have Nc:=Uh (T:=T) (q:=(b.1,e.1)) (x:=x) (l:=l) (r:=rr) c0;have S8:vs++xl T (b.1,e.1) (Tr.node x l rr).ids=((vs++xl T (b.1,e.1) l.ids)++[x])++xl T (b.1,e.1) rr.ids:=by rw[Nc];simp
    rw[S8];rw[Nc]at PG;have FL:=hid (show∃post,full=vs++(xl T (b.1,e.1) l.ids++post)from⟨x::xl T (b.1,e.1) rr.ids++post,by rw[PG];simp⟩);have FX:=hid (show∃post,full=(vs++xl T (b.1,e.1) l.ids)++x::post from⟨xl T (b.1,e.1) rr.ids++post,by rw[PG];simp⟩);have FR:=hid (show∃post,full=((vs++xl T (b.1,e.1) l.ids)++[x])++(xl T (b.1,e.1) rr.ids++post)from⟨post,by rw[PG];simp⟩);clear PG Nc S8 hV hp hl SL Hi RS R7 Tp hI Tv c0;go_enter func245,ntmps245;go_upto_region 6 with(go_at_call 244;go_must (refine HC.out.mono ?_);rintro o w2 ⟨rfl,Pe⟩)
    have RY:=HN.out _ _ _ HI.out Pe.new;obtain⟨x0,x3,x4,x5⟩:=HF.out _ _ RY;have Ta:=hid (HL.out _ _ FL.out RY);clear RY Pe HI HC pN;go_wp2_with fail;refine Ta.out.mono ?_;rintro o w3 (⟨rfl,h3⟩|⟨rfl,h3⟩)
    ·have ow:=hid (HX.out _ _ FX.out h3);clear h3 Ta x0 x3 x4 x5;go_wp2_with fail;refine ow.out.mono ?_;rintro o w4 (⟨rfl,h4⟩|⟨rfl,h4⟩)
     ·have rX:=hid (HR.out _ _ FR.out h4);obtain⟨x0,x3,x4,x5⟩:=HF.out _ _ h4;clear h4 ow;go_wp2_with fail;refine rX.out.mono ?_;rintro o w5 (⟨rfl,h5⟩|⟨rfl,h5⟩)
      ·have H5:=hid h5;clear h5 rX x0 x3 x4 x5;go_wp2;go_returns;exact Or.inl ⟨rfl,H5.out⟩
      ·have H5:=hid h5;clear h5 rX x0 x3 x4 x5;go_wp2;go_returns;exact Or.inr ⟨rfl,H5.out⟩
     ·have H4:=hid h4;clear h4 ow;go_wp2;go_returns;exact Or.inr ⟨rfl,H4.out⟩
    ·have H3:=hid h3;clear h3 Ta x0 x3 x4 x5;go_wp2;go_returns;exact Or.inr ⟨rfl,H3.out⟩
def YK(T:NM):List Nat->Option (EV×EV)
 |vs=>vs.foldl (λo i=>match o with|none=>some ((T i).b,(T i).e)|some (m0,mx)=>some (m0,if zy (T i).e.1 mx.1>0 then (T i).e else mx)) none
theorem GZ(T:NM)(vs:List Nat)(i:Nat):YK T (vs++[i])=(match YK T vs with|none=>some ((T i).b,(T i).e)|some (m0,mx)=>some (m0,if zy (T i).e.1 mx.1>0 then (T i).e else mx)):=by unfold YK;rw[List.foldl_append];rfl
theorem x7:∀(a b:List Iv) (me:Bytes),zW me (a++b)=if (zW me a).1=true then zW (zW me a).2 b else zW me a
 |[],b,me=>by simp[zW]
 |v::a,b,me=>by
  by_cases h:zy me v.1<0
  ·have e1:zW me (v::a)=(false,me):=by simp only[zW];rw[if_pos h]
   have e2:zW me (v::a++b)=(false,me):=by simp only[List.cons_append,zW];rw[if_pos h]
   rw[e1,e2];rfl
  ·have e1:zW me (v::a)=zW (Ue me v.2) a:=by simp only[zW];rw[if_neg h]
   have e2:zW me (v::a++b)=zW (Ue me v.2) (a++b):=by simp only[List.cons_append,zW];rw[if_neg h]
   rw[e1,e2];exact x7 a b _
def ZW(T:NM)(vs:List Nat):Prop:=
 match vs with
 |[]=>YK T []=none
 |i::r=>(zW (T i).e.1 (zK T r)).1=true/\∃M:EV,YK T (i::r)=some ((T i).b,M)/\M.1=(zW (T i).e.1 (zK T r)).2
theorem ZW.nil(T:NM):ZW T []:=rfl
theorem ZW.first(T:NM)(i:Nat):ZW T [i]:=⟨rfl,(T i).e,rfl,rfl⟩
theorem ZW.cases{vs:List Nat}(h:ZW T vs):(vs=[]/\YK T vs=none)\/∃i r M,vs=i::r/\YK T vs=some ((T i).b,M)/\M.1=(zW (T i).e.1 (zK T r)).2/\(zW (T i).e.1 (zK T r)).1=true:=by
 cases vs with
 |nil=>exact Or.inl ⟨rfl,h⟩
 |cons i r=>obtain⟨h1,M,h2,h3⟩:=h;exact Or.inr ⟨i,r,M,rfl,h2,h3,h1⟩
variable{j:Nat}
theorem ZW.snoc{i:Nat}{r:List Nat}{M:EV}(hc:(zW (T i).e.1 (zK T r)).1=true)(ha:YK T (i::r)=some ((T i).b,M))(hM:M.1=(zW (T i).e.1 (zK T r)).2)(hj: ¬zy M.1 (T j).b.1<0):
  ZW T ((i::r)++[j])/\YK T ((i::r)++[j])=some ((T i).b,if zy (T j).e.1 M.1>0 then (T j).e else M):=by
 have h2:YK T ((i::r)++[j])=some ((T i).b,if zy (T j).e.1 M.1>0 then (T j).e else M):=by rw[GZ,ha]
 refine⟨?_,h2⟩;have h3:zW (T i).e.1 (zK T (r++[j]))=(true,Ue M.1 (T j).e.1):=by rw[jt,x7,if_pos hc,<-hM];show zW M.1 [jd T j]=_;simp only[zW];rw[if_neg (show ¬zy M.1 (jd T j).1<0 from hj)];rfl
 show(zW (T i).e.1 (zK T (r++[j]))).1=true/\∃M',YK T (i::(r++[j]))=some ((T i).b,M')/\M'.1=(zW (T i).e.1 (zK T (r++[j]))).2;rw[h3];refine⟨rfl,_,h2,?_⟩;unfold Ue;rw[gr]
theorem gap{q:Iv}{l:List Nat}{i:Nat}{r post:List Nat}{M:EV}(hf:xl T q l=(i::r)++j::post)(hc:(zW (T i).e.1 (zK T r)).1=true)(hM:M.1=(zW (T i).e.1 (zK T r)).2)(hj:zy M.1 (T j).b.1<0):jG q (zK T l)=false:=by
 unfold jG;rw[<-gv,hf];show((zW (T i).e.1 (zK T (r++j::post))).1 && _ && _)=false;have:(zW (T i).e.1 (zK T (r++j::post))).1=false:=by rw[jt,x7,if_pos hc,<-hM];show(zW M.1 (jd T j::zK T post)).1=false;simp only[zW];rw[if_pos (show zy M.1 (jd T j).1<0 from hj)]
 rw[this];rfl
structure vM(w:World)(mb me ic:Nat)(vb ve:Value)(c:Bool):Prop where
 b:w.heap[mb]? =some (.cells #[vb] 228 (0,0))
 e:w.heap[me]? =some (.cells #[ve] 228 (0,0))
 c:w.heap[ic]? =some (.cells #[.bool c] 4 (0,0))
variable{ic mb me:Nat}
theorem vM.cells{w:World}{vb ve:Value}{c:Bool}(h:vM w mb me ic vb ve c):w.cell? ⟨mb,0,none⟩=some vb/\w.cell? ⟨me,0,none⟩=some ve/\w.cell? ⟨ic,0,none⟩=some (.bool c)/\w.frozen? ⟨mb,0,none⟩=false/\w.frozen? ⟨me,0,none⟩=false/\w.frozen? ⟨ic,0,none⟩=false:=by
 refine⟨?_,?_,?_,?_,?_,?_⟩
 ·rw[cell_of_row w mb 0 _ _ (0,0) h.b];rfl
 ·rw[cell_of_row w me 0 _ _ (0,0) h.e];rfl
 ·rw[cell_of_row w ic 0 _ _ (0,0) h.c];rfl
 ·simp[World.frozen?,h.b]
 ·simp[World.frozen?,h.e]
 ·simp[World.frozen?,h.c]
theorem vM.new{w:World}{vb ve:Value}{c:Bool}(h:vM w mb me ic vb ve c)(hn:za w w'):vM w' mb me ic vb ve c:=⟨hn.heap h.b,hn.heap h.e,hn.heap h.c⟩
def zb3(o:Option (EV×EV)):Value×Value:=match o with|none=>(.nilIface,.nilIface)|some (b,e)=>(b.2,e.2)
theorem uf(p:Option Addr)(n c:Nat)(W:World):(nilAhead 608 283 (.slice p n c) "Compare").run prog W=.ok (some false) W:=by kernel_rfl
abbrev xQ(mb me ic:Nat):Nat->Prop:=λj=>j=mb\/j=me\/j=ic
theorem G0{w:World}{i:Nat}{b e:EV}(hi:J7 r w i b e)(hc:vM w mb me ic .nilIface .nilIface true)(h1:mb≠me)(h2:mb≠ic)(h3:me≠ic)(h4:i≠mb)(h5:i≠me):
  Calls prog 241 #[ptr i,ptr mb,ptr me,ptr ic] w λo w'=>o=.returned (.bool true)/\vM w' mb me ic b.2 e.2 true/\zq (xQ mb me ic) w w':=by
 obtain⟨c1,c2,c3,c4,c5,c6⟩:=hc.cells;obtain⟨bp,bn,bc,pU,_⟩:=hi.hb.iface;obtain⟨ep,en,ec,rW,_⟩:=hi.he.iface;have i0:=hi.c0;have i1:=hi.c1;rw[pU]at i0;rw[rW]at i1;rw[pU,rW];have h1':=Ne.symm h1;have h4':=Ne.symm h4;have h5':=Ne.symm h5;have HC:=hid hc;clear hc;have My:∀W:World,(binOp .eql 228 .nilIface .nilIface).run prog W=.ok (.bool true) W:=λW=>by kernel_rfl
 clear hi pU rW;go_enter func241,ntmps241;go_wp2;go_returns;refine⟨rfl,⟨?_,?_,?_⟩,?_⟩
 ·rw[Below.heap_setCell _ _ _ _ h1,heap_setCell_same w mb 0 _ _ _ HC.out.b];rfl
 ·rw[heap_setCell_same (w.setCell ⟨mb,0,none⟩ _) me 0 _ _ _ (by rw[Below.heap_setCell _ _ _ _ (show me≠(⟨mb,0,none⟩:Addr).block from h1')];exact HC.out.e)];rfl
 ·rw[Below.heap_setCell _ _ _ _ (Ne.symm h3),Below.heap_setCell _ _ _ _ (Ne.symm h2)];exact HC.out.c
 ·exact((zq.refl _ _).setCell (p:=⟨mb,0,none⟩) (λ_=>Or.inl rfl) _).setCell (p:=⟨me,0,none⟩) (λ_=>Or.inr (Or.inl rfl)) _
def zba(w:World)(mb me ic:Nat)(b e m0 M:EV)(o:Ending)(w':World):Prop:=((¬zy M.1 b.1<0/\o=.returned (.bool true)/\vM w' mb me ic m0.2 (if zy e.1 M.1>0 then e else M).2 true)\/(zy M.1 b.1<0/\o=.returned (.bool false)/\vM w' mb me ic m0.2 M.2 false))/\zq (xQ mb me ic) w w'
theorem Wk{w:World}{i:Nat}{b e m0 M:EV}(hi:J7 r w i b e)(CJ:kK r m0)(hM:kK r M)(hc:vM w mb me ic m0.2 M.2 true)(h1:mb≠me)(h2:mb≠ic)(h3:me≠ic)(h4:i≠mb)(h5:i≠me)(h6:i≠ic):
  Calls prog 241 #[ptr i,ptr mb,ptr me,ptr ic] w (zba w mb me ic b e m0 M):=by
 obtain⟨c1,c2,c3,c4,c5,c6⟩:=hc.cells;obtain⟨bp,bn,bc,pU,_⟩:=hi.hb.iface;obtain⟨ep,en,ec,rW,_⟩:=hi.he.iface;obtain⟨mp,mn,mc,sL,_⟩:=CJ.iface;obtain⟨xp,xn,xc,Ss,_⟩:=hM.iface;have i0:=hi.c0;have i1:=hi.c1;have rh:∀m,Calls prog 187 #[.slice xp xn xc,b.2] (w.drewN m) λo w'=>o=.returned (.int .i64 (zy M.1 b.1))/\w.drewN m=w':=λm=>by obtain⟨u,g1,g2⟩:=hM;obtain⟨v,g3,g4⟩:=hi.hb;rw[Ss]at g1;cases g1;rw[g3];exact yE (g2.mono hi.rd) (g4.mono hi.rd)
 have se:∀m m2,Calls prog 187 #[.slice ep en ec,M.2] ((w.drewN m).drewN m2) λo w'=>o=.returned (.int .i64 (zy e.1 M.1))/\(w.drewN m).drewN m2=w':=λm m2=>by obtain⟨u,g1,g2⟩:=hi.he;obtain⟨v,g3,g4⟩:=hM;rw[rW]at g1;cases g1;rw[g3];exact yE (g2.mono hi.rd) (g4.mono hi.rd)
 rw[pU]at i0 rh;rw[rW]at i1;rw[sL]at c1;rw[Ss]at c2 se;have HE:Hid (∀c:Prop,[Decidable c]->c->(if c then e else M).2=.iface 283 (.slice ep en ec)):=hid λc _ h=>by rw[if_pos h];exact rW
 have Ho:∀W:World,(binOp .eql 228 (.iface 283 (.slice mp mn mc)) .nilIface).run prog W=.ok (.bool false) W:=λW=>by kernel_rfl
 have Hl:=yC (.slice xp xn xc);have mL:=uf xp xn xc;have Hq:=yC (.slice ep en ec);have h1':=Ne.symm h1;have h4':=Ne.symm h4;have h5':=Ne.symm h5;have h6':=Ne.symm h6;have HC:=hid hc;clear hc;have lK:=hid rh;clear rh;have LK:=hid se;clear se;have TP:=hid rW;clear rW;clear hi pU sL CJ hM Ss;by_cases t1:zy M.1 b.1<0
 ·go_enter func241,ntmps241;go_wp2;go_quiet ((go_at_call 187;exact zw (lK.out _)));go_wp2;go_returns;refine⟨Or.inr ⟨t1,rfl,⟨?_,?_,?_⟩⟩,?_⟩
  ·rw[Below.heap_setCell _ _ _ _ h2];exact HC.out.b
  ·rw[Below.heap_setCell _ _ _ _ h3];exact HC.out.e
  ·rw[heap_setCell_same (w.drewN nq) ic 0 _ _ _ HC.out.c];rfl
  ·exact((zq.refl _ w).drewN _).setCell (p:=⟨ic,0,none⟩) (λ_=>Or.inr (Or.inr rfl)) _
 ·by_cases t2:zy e.1 M.1>0
  ·go_enter func241,ntmps241;go_wp2;go_quiet ((go_at_call 187;exact zw (lK.out _)));have ox:=hid (LK.out nq);have Hc:vM (w.drewN nq) mb me ic m0.2 M.2 true:=HC.out.new ((za.refl w).drewN nq);have Su:zq (xQ mb me ic) w (w.drewN nq):=(zq.refl _ w).drewN nq;have i0':(w.drewN nq).cell? ⟨i,0,none⟩=_:=i0;have i1':(w.drewN nq).cell? ⟨i,1,none⟩=_:=i1;have c2':(w.drewN nq).cell? ⟨me,0,none⟩=_:=c2;have c5':(w.drewN nq).frozen? ⟨me,0,none⟩=false:=c5;have pJ:=hid Hc;have oy:=hid Su;clear Hc Su lK LK HC c1 c2 c3 c4 c5 c6 i0 i1;generalize w.drewN nq=w2 at*
   go_wp2;go_quiet ((go_at_call 187;exact zw (ox.out _)));go_wp2;go_returns;refine⟨Or.inl ⟨Int.not_lt.2 t1,rfl,⟨?_,?_,?_⟩⟩,?_⟩
   ·rw[Below.heap_setCell _ _ _ _ h1];exact pJ.out.b
   ·rw[heap_setCell_same (w2.drewN nq) me 0 _ _ _ pJ.out.e,HE.out _ t2];rfl
   ·rw[Below.heap_setCell _ _ _ _ (Ne.symm h3)];exact pJ.out.c
   ·exact(oy.out.drewN _).setCell (p:=⟨me,0,none⟩) (λ_=>Or.inr (Or.inl rfl)) _
  ·go_enter func241,ntmps241;go_wp2;go_quiet ((go_at_call 187;exact zw (lK.out _)));have ox:=hid (LK.out nq);have Hc:vM (w.drewN nq) mb me ic m0.2 M.2 true:=HC.out.new ((za.refl w).drewN nq);have Su:zq (xQ mb me ic) w (w.drewN nq):=(zq.refl _ w).drewN nq;have i0':(w.drewN nq).cell? ⟨i,0,none⟩=_:=i0;have i1':(w.drewN nq).cell? ⟨i,1,none⟩=_:=i1;have c2':(w.drewN nq).cell? ⟨me,0,none⟩=_:=c2;have pJ:=hid Hc;have oy:=hid Su;clear Hc Su lK LK HC c1 c2 c3 c4 c5 c6 i0 i1;generalize w.drewN nq=w2 at*
   go_wp2;go_quiet ((go_at_call 187;exact zw (ox.out _)));go_wp2;go_returns;refine⟨Or.inl ⟨Int.not_lt.2 t1,rfl,?_⟩,oy.out.drewN _⟩;rw[if_neg (Int.not_lt.2 t2)];exact pJ.out.new ((za.refl w2).drewN _)
theorem zcs{w:World}{i fb:Nat}{R1 R2:World->Prop}(hf:w.cell? ⟨fb,0,none⟩=some (.func (.func 241) #[] #[ptr mb,ptr me,ptr ic]))
  (h:Calls prog 241 #[ptr i,ptr mb,ptr me,ptr ic] w.drew λo w'=>(o=.returned (.bool true)/\R1 w')\/(o=.returned (.bool false)/\R2 w')):
  Calls prog 246 #[ptr i,ptr fb] w λo w'=>(o=.returned (.bool true)/\R1 w')\/(o=.returned (.bool false)/\R2 w'):=by
 have H:=hid h;clear h;have HG:Hid (∀W,R1 W->((Ending.returned (.bool true)=Ending.returned (.bool true)/\R1 W)\/(Ending.returned (.bool true)=.returned (.bool false)/\R2 W))):=hid λW h=>Or.inl ⟨rfl,h⟩;go_enter func246,ntmps246;go_wp2;go_still_tail 4,(by kernel_rfl);go_wp2_with fail;refine H.out.mono ?_;rintro o w2 (⟨rfl,h⟩|⟨rfl,h⟩)
 ·have H2:=hid h;clear h;go_wp2;go_returns;exact Or.inl ⟨rfl,H2.out⟩
 ·have H2:=hid h;clear h;go_wp2;go_returns;exact Or.inr ⟨rfl,H2.out⟩
structure KR(r:Rd)(w W0:World)(T:NM)(s it root:Nat)(n:Int)(t:Tr)(a:Nat)(b e:EV)(fb mb me ic:Nat):Prop where
 st:vg r W0 T s it root n t
 iv:J7 r W0 a b e
 nw:za w W0
 rd:r.le w.cell?
 fbc:W0.cell? ⟨fb,0,none⟩=some (.func (.func 241) #[] #[ptr mb,ptr me,ptr ic])
 cv:vM W0 mb me ic .nilIface .nilIface true
 ne:mb≠me/\mb≠ic/\me≠ic
 fr:w.heap.size<=mb/\w.heap.size<=me/\w.heap.size<=ic
 an: ¬xQ mb me ic a
 fn: ¬xQ mb me ic fb
 old:∀i∈t.ids,i<w.heap.size
 oit:it<w.heap.size
 os:s<w.heap.size
def zdr(W0:World)(T:NM)(mb me ic:Nat)(vs:List Nat)(W:World):Prop:=ZW T vs/\vM W mb me ic (zb3 (YK T vs)).1 (zb3 (YK T vs)).2 true/\zq (xQ mb me ic) W0 W
def zds(W0:World)(T:NM)(mb me ic:Nat)(q:Iv)(t:Tr)(W:World):Prop:=jG q (zK T t.ids)=false/\(∃vb ve,vM W mb me ic vb ve false)/\zq (xQ mb me ic) W0 W
theorem KR.three{w W0:World}{s root:Nat}{n:Int}{t:Tr}{b e:EV}{fb:Nat}(h:KR r w W0 T s it root n t a b e fb mb me ic)(hj:j<w.heap.size): ¬xQ mb me ic j:=λe=>by obtain⟨f1,f2,f3⟩:=h.fr;rcases e with e|e|e<;>omega
variable{W:World}
theorem KR.still{w W0:World}{s root:Nat}{n:Int}{t:Tr}{b e:EV}{fb:Nat}(h:KR r w W0 T s it root n t a b e fb mb me ic)(hm:zq (xQ mb me ic) W0 W):vg r W T s it root n t/\J7 r W a b e/\W.cell? ⟨fb,0,none⟩=some (.func (.func 241) #[] #[ptr mb,ptr me,ptr ic]):=by
 have hY:r.le W.cell? :=λx v hx=>by have h1:=h.rd _ _ hx;exact hm.cell (h.three (World.block_lt_of_cell? w x h1)) (h.nw.le _ _ h1)
 have keep:∀j,j<w.heap.size->W.heap[j]? =W0.heap[j]? :=λj hj=>hm.block j (Nat.lt_of_lt_of_le hj h.nw.size) (h.three hj);obtain⟨c,T',hc⟩:=h.st.cs;refine⟨⟨λi hi=>(keep i (h.old i hi)).trans (h.st.nodes i hi),(keep it h.oit).trans h.st.blk,h.st.ev,h.st.tg,h.st.good,⟨c,T',(keep s h.os).trans hc⟩,hY⟩,⟨hm.cell (p:=⟨a,0,none⟩) h.an h.iv.c0,hm.cell (p:=⟨a,1,none⟩) h.an h.iv.c1,h.iv.hb,h.iv.he,hY⟩,hm.cell (p:=⟨fb,0,none⟩) h.fn h.fbc⟩
theorem KR.visitor{w W0:World}{s root:Nat}{n:Int}{t:Tr}{b e:EV}{fb:Nat}(h:KR r w W0 T s it root n t a b e fb mb me ic):
  Gp r T s it root n t a b e fb (xl T (b.1,e.1) t.ids) (zdr W0 T mb me ic) (zds W0 T mb me ic (b.1,e.1) t)where
 base vs W hI:=⟨(h.still hI.2.2).1,(h.still hI.2.2).2.1⟩
 new vs W W' hI hn:=⟨hI.1,hI.2.1.new hn,zq.trans hI.2.2 (hn.mod (xQ mb me ic)) λ_ _ e=>e⟩
 jnew W W' hJ hn:=⟨hJ.1,by obtain⟨vb,ve,hc⟩:=hJ.2.1;exact⟨vb,ve,hc.new hn⟩,zq.trans hJ.2.2 (hn.mod (xQ mb me ic)) λ_ _ e=>e⟩
 step i hi vs W hf hI:=by
  obtain⟨mK,sN,hm⟩:=hI;obtain⟨Hi,_,oz⟩:=h.still hm;have N6:za W W.drew:=(za.refl W).drew;have Pn:=(Hi.new N6).iv hi;obtain⟨n1,n2,n3⟩:=h.ne;have Sz:=h.old i hi;have i1:i≠mb:=λe=>h.three Sz (Or.inl e);have i2:i≠me:=λe=>h.three Sz (Or.inr (Or.inl e));have i3:i≠ic:=λe=>h.three Sz (Or.inr (Or.inr e));refine zcs oz ?_;have wI:=sN.new N6;have AB:zq (xQ mb me ic) W0 W.drew:=hm.drew;rcases mK.cases with⟨rfl,hn⟩|⟨j,rr,M,rfl,hn,hM,hc⟩
  ·rw[hn]at wI;refine(G0 Pn wI n1 n2 n3 i1 i2).mono ?_;rintro o w' ⟨rfl,g1,g2⟩;refine Or.inl ⟨rfl,ZW.first T i,?_,zq.trans AB g2 λ_ _ e=>e⟩;exact g1
  ·rw[hn]at wI;obtain⟨post,PG⟩:=hf;have aT:j∈t.ids:=by
    have:j∈xl T (b.1,e.1) t.ids:=by rw[PG];simp
    exact(List.mem_filter.1 this).1
   have Cd:kK r M:=by
    have:∀(l:List Nat),(∀k∈l,k∈t.ids)->∀o:Option (EV×EV),(∀p,o=some p->kK r p.2)->∀p,l.foldl (λo i=>match o with|none=>some ((T i).b,(T i).e)|some (m0,mx)=>some (m0,if zy (T i).e.1 mx.1>0 then (T i).e else mx)) o=some p->kK r p.2:=by
     intro l
     induction l with
     |nil=>intro _ o ho p hp;exact ho p hp
     |cons k l ih=>
      intro hk o ho p hp;refine ih (λk' Sa=>hk k' (by simp[Sa])) _ ?_ p hp;intro p' mD;have N7:=(Hi.ev k (hk k (by simp))).2.1;cases o with
      |none=>simp only[Option.some.injEq]at mD;rw[<-mD];exact N7
      |some m=>
       simp only[Option.some.injEq]at mD;rw[<-mD];show kK r (if _ then _ else _);split
       ·exact N7
       ·exact ho m rfl
    refine this (j::rr) (λk hk=> ?_) none (λp hp=>by cases hp) ((T j).b,M) hn;have:k∈xl T (b.1,e.1) t.ids:=by rw[PG];exact List.mem_append_left _ hk
    exact(List.mem_filter.1 this).1
   refine(Wk Pn (Hi.ev j aT).1 Cd wI n1 n2 n3 i1 i2 i3).mono ?_;rintro o w' ⟨g,Su⟩;have r6:=zq.trans AB Su λ_ _ e=>e;rcases g with⟨g1,rfl,g2⟩|⟨g1,rfl,g2⟩
   ·obtain⟨s1,s2⟩:=ZW.snoc hc hn hM g1;refine Or.inl ⟨rfl,s1,?_,r6⟩;rw[s2];exact g2
   ·exact Or.inr ⟨rfl,gap PG hc hM g1,⟨_,_,g2⟩,r6⟩
def XC(mb me ic:Nat):Value:=.func (.func 241) #[] #[ptr mb,ptr me,ptr ic]
theorem Uj{w:World}{s root:Nat}{n:Int}{t:Tr}{b e:EV}(Hi:vg r W T s it root n t)(pq:za w W)(hrd:r.le w.cell?)(hb:kK r b)(he:kK r e)(hv:Q5 (b.1,e.1))(sN:vM W mb me ic .nilIface .nilIface true)
  (Ho:mb≠me/\mb≠ic/\me≠ic)(Pw:w.heap.size<=mb/\w.heap.size<=me/\w.heap.size<=ic)(pF:∀i∈t.ids,i<w.heap.size)(AS:it<w.heap.size)(hos:s<w.heap.size):
  Calls prog 240 #[ptr it,.agg #[b.2,e.2],XC mb me ic] W λo w'=>o=.returned (.tuple #[])/\∃W0,za W W0/\(zdr W0 T mb me ic (xl T (b.1,e.1) t.ids) w'\/zds W0 T mb me ic (b.1,e.1) t w'):=by
 obtain⟨W1,PW⟩:=zex ((W.alloc (.cells #[b.2,e.2] 230)).alloc (.cells #[XC mb me ic] 441));have hQ:za W W1:=by rw[PW];exact((za.refl W).alloc _).alloc _
 have pX:za W W1.drew:=zq.drew hQ;have ca0:W1.cell? ⟨W.heap.size,0,none⟩=some b.2:=by rw[PW];refine za.le ((za.refl _).alloc _) _ _ ?_;rw[World.cell?_alloc_new];rfl
 have ca1:W1.cell? ⟨W.heap.size,1,none⟩=some e.2:=by rw[PW];refine za.le ((za.refl _).alloc _) _ _ ?_;rw[World.cell?_alloc_new];rfl
 have cfb:W1.cell? ⟨W.heap.size+1,0,none⟩=some (XC mb me ic):=by rw[PW];have:=World.cell?_alloc_new (W.alloc (.cells #[b.2,e.2] 230)) #[XC mb me ic] 441 0;simpa using this
 obtain⟨Pb,Ad,r8⟩:=(⟨sN.b,sN.e,sN.c⟩:_/\_/\_);have lb:mb<W.heap.size:=(Array.getElem?_eq_some_iff.1 Pb).1;have le:me<W.heap.size:=(Array.getElem?_eq_some_iff.1 Ad).1;have lc:ic<W.heap.size:=(Array.getElem?_eq_some_iff.1 r8).1;have pm:=Hi.new pX;have bS:KR r w W1.drew T s it root n t W.heap.size b e (W.heap.size+1) mb me ic:=
  ⟨pm,⟨ca0,ca1,hb,he,pm.rd⟩,pq.trans pX,hrd,cfb,sN.new pX,Ho,Pw,λh=>by rcases h with h|h|h<;>omega,λh=>by rcases h with h|h|h<;>omega,pF,AS,hos⟩
 have tW:ue T s t root t:=⟨⟨_,Hi.tg.is⟩,Hi.tg.mx,Hi.good,λ_ h=>h⟩;have Tw:=Yt bS.visitor hv t root [] W1.drew tW ⟨[],by simp⟩ ⟨ZW.nil T,bS.cv,zq.refl _ _⟩;rw[List.nil_append]at Tw;have wJ:=hid Tw;clear Tw;obtain⟨i0,i2⟩:=(Hi.new hQ).it2;have cz:=hid pX;clear pX;have oA:=PW;obtain⟨bp,bn,bc,pU,_⟩:=hb.iface;obtain⟨ep,en,ec,rW,_⟩:=he.iface;unfold XC at PW⊢;rw[pU,rW]at PW⊢;have Pr:=hid PW;clear PW oA;clear bS Hi pm pq hrd hb he hv sN Ho Pw pF AS hos pU rW Pb Ad r8 lb le lc tW ca0 ca1 cfb hQ;go_enter func240,ntmps240;go_upto_region 1 with fail
 rw[<-Pr.out];clear Pr;go_wp2;go_still_tail 9,(by kernel_rfl);go_wp2_with fail;refine wJ.out.mono ?_;rintro o w3 (⟨rfl,h⟩|⟨rfl,h⟩)
 ·have H:=hid h;clear h;go_wp2;go_returns;exact⟨rfl,_,cz.out,Or.inl H.out⟩
 ·have H:=hid h;clear h;go_wp2;go_returns;exact⟨rfl,_,cz.out,Or.inr H.out⟩
theorem yL.perm{L':List Iv}(h:L.Perm L')(q:Iv):yL L q↔yL L' q:=by
 constructor
 ·intro hc k hk;obtain⟨v,hv,hi⟩:=hc k hk;exact⟨v,h.mem_iff.1 hv,hi⟩
 ·intro hc k hk;obtain⟨v,hv,hi⟩:=hc k hk;exact⟨v,h.mem_iff.2 hv,hi⟩
theorem zbb{vs:List Nat}{p:EV×EV}(hk:∀k∈vs,kK r (T k).e)(h:YK T vs=some p):kK r p.2:=by
 have:∀(l:List Nat),(∀k∈l,kK r (T k).e)->∀o:Option (EV×EV),(∀p,o=some p->kK r p.2)->∀p,l.foldl (λo i=>match o with|none=>some ((T i).b,(T i).e)|some (m0,mx)=>some (m0,if zy (T i).e.1 mx.1>0 then (T i).e else mx)) o=some p->kK r p.2:=by
  intro l
  induction l with
  |nil=>intro _ o ho p hp;exact ho p hp
  |cons k l ih=>
   intro hk o ho p hp;refine ih (λk' Sa=>hk k' (by simp[Sa])) _ ?_ p hp;intro p' mD;have N7:=hk k (by simp);cases o with
   |none=>simp only[Option.some.injEq]at mD;rw[<-mD];exact N7
   |some m=>
    simp only[Option.some.injEq]at mD;rw[<-mD];show kK r (if _ then _ else _);split
    ·exact N7
    ·exact ho m rfl
 exact this vs hk none (λp hp=>by cases hp) p h
def Uk(w:World)(P:Prop)(o:Ending)(w':World):Prop:=(∃bb:Bool,o=.returned (.bool bb)/\(bb=true↔P))/\za w w'
theorem V3{w:World}{s:Nat}{b e:EV}(h:q7 r w F s it L)(hF:∀j,F j->j<w.heap.size)(hr:r.le w.cell?)(hb:kK r b)(he:kK r e)(hv:Q5 (b.1,e.1)):
  Calls prog 230 #[ptr it,.agg #[b.2,e.2]] w (Uk w (yL L (b.1,e.1))):=by
 have LJ:=hF s h.fs;have lF:=hF it h.fi;obtain⟨T,root,t,n,Hi,hp,HT⟩:∃T root t n,vg r w T s it root n t/\(zK T t.ids).Perm L/\∀i∈t.ids,F i:=by obtain⟨⟨T,root,t,n,h1,h2,h3,h4,h5,h6,h7,h8,h9⟩,hc,_⟩:=h;exact⟨T,root,t,n,⟨h1,h2,h3,h4,h6,hc,hr⟩,h7,h8⟩
 obtain⟨bp,bn,bc,pU,_⟩:=hb.iface;obtain⟨ep,en,ec,rW,_⟩:=he.iface;obtain⟨W,hW⟩:=zex ((((w.alloc (.cells #[b.2,e.2] 230)).alloc (.cells #[.nilIface] 228)).alloc (.cells #[.nilIface] 228)).alloc (.cells #[.bool true] 4));have hn:za w W:=by rw[hW];exact((((za.refl w).alloc _).alloc _).alloc _).alloc _
 have ha:W.heap[w.heap.size]? =some (.cells #[b.2,e.2] 230 (0,0)):=by rw[hW];exact za.heap (w:=w.alloc (.cells #[b.2,e.2] 230)) ((((za.refl _).alloc (.cells #[.nilIface] 228)).alloc (.cells #[.nilIface] 228)).alloc (.cells #[.bool true] 4)) (zg w _)
 have sL:W.heap[w.heap.size+1]? =some (.cells #[.nilIface] 228 (0,0)):=by rw[hW];have:=zg (w.alloc (.cells #[b.2,e.2] 230)) (.cells #[.nilIface] 228);simp only[World.size_alloc]at this;exact za.heap (w:=(w.alloc (.cells #[b.2,e.2] 230)).alloc (.cells #[.nilIface] 228)) (((za.refl _).alloc (.cells #[.nilIface] 228)).alloc (.cells #[.bool true] 4)) this
 have N1:W.heap[w.heap.size+1+1]? =some (.cells #[.nilIface] 228 (0,0)):=by rw[hW];have:=zg ((w.alloc (.cells #[b.2,e.2] 230)).alloc (.cells #[.nilIface] 228)) (.cells #[.nilIface] 228);simp only[World.size_alloc]at this;exact za.heap (w:=((w.alloc (.cells #[b.2,e.2] 230)).alloc (.cells #[.nilIface] 228)).alloc (.cells #[.nilIface] 228)) ((za.refl _).alloc (.cells #[.bool true] 4)) this
 have LH:W.heap[w.heap.size+1+1+1]? =some (.cells #[.bool true] 4 (0,0)):=by rw[hW];have:=zg (((w.alloc (.cells #[b.2,e.2] 230)).alloc (.cells #[.nilIface] 228)).alloc (.cells #[.nilIface] 228)) (.cells #[.bool true] 4);simp only[World.size_alloc]at this;exact this
 have pm:=Hi.new hn;have sN:vM W (w.heap.size+1+1) (w.heap.size+1) (w.heap.size+1+1+1) .nilIface .nilIface true:=⟨N1,sL,LH⟩;have Tw:=Uj pm hn hr hb he hv sN ⟨by omega,by omega,by omega⟩ ⟨by omega,by omega,by omega⟩ (λi hi=>hF i (HT i hi)) lF LJ;unfold XC at Tw;have AU:=gu hv Hi.good.sorted;have Hv:∀W0 w',za W W0->zq (xQ (w.heap.size+1+1) (w.heap.size+1) (w.heap.size+1+1+1)) W0 w'->za w w'/\r.le w'.cell? /\w'.cell? ⟨w.heap.size,0,none⟩=some b.2/\w'.cell? ⟨w.heap.size,1,none⟩=some e.2:=λW0 w' h1 h2=>by
  have hs:=hn.size;have pq:za w w':=⟨h2.os.trans (h1.os.trans hn.os),h2.tape.trans (h1.tape.trans hn.tape),h2.output.trans (h1.output.trans hn.output),Nat.le_trans hn.size (Nat.le_trans h1.size h2.size),λk hk _=>by rw[h2.block k (Nat.lt_of_lt_of_le hk (Nat.le_trans hn.size h1.size)) (λe=>by rcases e with e|e|e<;>omega),h1.block k (Nat.lt_of_lt_of_le hk hn.size) (λe=>e),hn.block k hk (λe=>e)]⟩
  have LW:w'.heap[w.heap.size]? =some (.cells #[b.2,e.2] 230 (0,0)):=by have h3:=h1.heap ha;rw[h2.block _ (Array.getElem?_eq_some_iff.1 h3).1 (λe=>by rcases e with e|e|e<;>omega)];exact h3
  refine⟨pq,hr.le_trans pq.le,?_,?_⟩
  ·rw[cell_of_row w' _ 0 _ _ (0,0) LW];rfl
  ·rw[cell_of_row w' _ 1 _ _ (0,0) LW];rfl
 have mN:=yL.perm hp (b.1,e.1);have wK:Hid (jG (b.1,e.1) (zK T t.ids)=true↔yL L (b.1,e.1)):=hid (AU.trans mN);have hEV:∀i∈t.ids,kK r (T i).b/\kK r (T i).e:=λi hi=>⟨(Hi.ev i hi).1,(Hi.ev i hi).2.1⟩;have AV:=Tw;rw[pU,rW]at Tw hW;rw[pU,rW];have HB:=hid hb;have HE:=hid he;have Rt:=hid pU;have TP:=hid rW;have pj:=hid Hv;have wL:=hid hEV;have wJ:=hid Tw;have HN:=hid hn;have oB:W.cell? ⟨w.heap.size,0,none⟩=some (.iface 283 (.slice bp bn bc)):=by rw[cell_of_row W _ 0 _ _ (0,0) ha,<-pU];rfl
 have oC:W.cell? ⟨w.heap.size,1,none⟩=some (.iface 283 (.slice ep en ec)):=by rw[cell_of_row W _ 1 _ _ (0,0) ha,<-rW];rfl
 have HW:=hid hW;clear hW AU Hv hEV AV Tw hn ha sL N1 LH pm sN mN h hF hr hb he hv LJ lF Hi hp HT pU rW;go_enter func230,ntmps230;go_upto_region 3 with fail
 rw[<-HW.out];clear HW;go_wp2_with fail;refine wJ.out.mono ?_;rintro o w2 ⟨rfl,W0,PK,Hc⟩;clear wJ oB oC;rcases Hc with Hc|Hc
 ·obtain⟨mK,sN,hm⟩:=Hc;obtain⟨pq,wM,a0,a1⟩:=pj.out W0 w2 PK hm;rw[Rt.out]at a0;rw[TP.out]at a1;have r7:=hid pq;have HRW:=hid wM;obtain⟨c1,c2,c3,_,_,_⟩:=sN.cells;have Hf:∀i,i∈xl T (b.1,e.1) t.ids->i∈t.ids:=λi hi=>(List.mem_filter.1 hi).1;have PT:∀X:World,(binOp .neq 228 .nilIface .nilIface).run prog X=.ok (.bool false) X:=λX=>by kernel_rfl
  rcases mK.cases with⟨Cj,bT⟩|⟨i,rr,M,Cj,bT,hM,hct⟩
  ·have hF:jG (b.1,e.1) (zK T t.ids)=false:=by
    unfold jG;rw[<-gv,Cj];rfl
   rw[bT]at c1 c2
   replace c1:w2.cell? ⟨w.heap.size+1+1,0,none⟩=some .nilIface:=c1
   have HF:Hid (Uk w (yL L (b.1,e.1)) (.returned (.bool false)) w2):=hid ⟨⟨false,rfl,by rw[<-wK.out,hF]⟩,r7.out⟩;clear hF Cj bT Hf mK sN pq wM hm PK pj wL;go_wp2;go_returns;exact HF.out
  ·have hres:jG (b.1,e.1) (zK T t.ids)=(decide (zy M.1 e.1>=0) && decide (zy (T i).b.1 b.1<=0)):=by
    unfold jG;rw[<-gv,Cj];show((zW (T i).e.1 (zK T rr)).1 && decide (zy (zW (T i).e.1 (zK T rr)).2 e.1>=0) && decide (zy (T i).b.1 b.1<=0))=_;rw[hct,<-hM,Bool.true_and]
   have B6:=Hf i (by rw[Cj];simp);have Cd:kK r M:=by rw[Cj]at bT;exact zbb (λk hk=>(wL.out k (Hf k (by rw[Cj];exact hk))).2) bT
   have Rs:=(wL.out i B6).1;obtain⟨ip,iN,icc,oD,_⟩:=Rs.iface;obtain⟨xp,xn,xc,Ss,_⟩:=Cd.iface;rw[bT]at c1 c2
   replace c1:w2.cell? ⟨w.heap.size+1+1,0,none⟩=some (T i).b.2:=c1
   replace c2:w2.cell? ⟨w.heap.size+1,0,none⟩=some M.2:=c2
   rw[oD]at c1;rw[Ss]at c2;have k1:Calls prog 187 #[.slice xp xn xc,e.2] w2 λo w'=>o=.returned (.int .i64 (zy M.1 e.1))/\w2=w':=by obtain⟨u,g1,g2⟩:=Cd;obtain⟨v,g3,g4⟩:=HE.out;rw[Ss]at g1;cases g1;rw[g3];exact yE (g2.mono wM) (g4.mono wM)
   have k2:Calls prog 187 #[.slice ip iN icc,b.2] w2 λo w'=>o=.returned (.int .i64 (zy (T i).b.1 b.1))/\w2=w':=by obtain⟨u,g1,g2⟩:=Rs;obtain⟨v,g3,g4⟩:=HB.out;rw[oD]at g1;cases g1;rw[g3];exact yE (g2.mono wM) (g4.mono wM)
   rw[TP.out]at k1;rw[Rt.out]at k2;have hni:∀X:World,(binOp .neq 228 (.iface 283 (.slice ip iN icc)) .nilIface).run prog X=.ok (.bool true) X:=λX=>by kernel_rfl
   have Hl:=yC (.slice xp xn xc);have Hq:=yC (.slice ip iN icc);have K1:=hid k1;have K2:=hid k2;have HR:Hid (∀bb:Bool,bb=(decide (zy M.1 e.1>=0) && decide (zy (T i).b.1 b.1<=0))->(bb=true↔yL L (b.1,e.1))):=hid λbb h=>by rw[h,<-hres];exact wK.out
   clear k1 k2 hres Cj bT Hf mK sN pq wM hm PK pj wL B6 Cd Rs oD Ss hM hct wK;by_cases t1:zy M.1 e.1>=0
   ·have HT:Hid (Uk w (yL L (b.1,e.1)) (.returned (.bool (decide (zy (T i).b.1 b.1<=0)))) w2):=hid ⟨⟨_,rfl,HR.out _ (by rw[decide_eq_true t1,Bool.true_and])⟩,r7.out⟩;clear HR r7;go_wp2_with fail;refine K1.out.mono ?_;rintro o w9 ⟨rfl,rfl⟩;clear K1;go_wp2_with fail;refine K2.out.mono ?_;rintro o w9 ⟨rfl,rfl⟩;clear K2;go_wp2;go_returns;exact HT.out
   ·have HT:Hid (Uk w (yL L (b.1,e.1)) (.returned (.bool false)) w2):=hid ⟨⟨_,rfl,HR.out _ (by rw[decide_eq_false t1];rfl)⟩,r7.out⟩;clear HR r7;go_wp2_with fail;refine K1.out.mono ?_;rintro o w9 ⟨rfl,rfl⟩;clear K1;go_wp2;go_returns;exact HT.out
 ·obtain⟨hf,⟨vb,ve,sN⟩,hm⟩:=Hc;obtain⟨pq,wM,a0,a1⟩:=pj.out W0 w2 PK hm;obtain⟨_,_,c3,_,_,_⟩:=sN.cells;have HF:Hid (Uk w (yL L (b.1,e.1)) (.returned (.bool false)) w2):=hid ⟨⟨false,rfl,by rw[<-wK.out,hf]⟩,pq⟩;clear hf sN pq wM hm PK pj;go_wp2;go_returns;exact HF.out
end Go.Proofs.YtbmdoinjkligiaaGreat
