/- Contracts and laws that the last text joins. -/
import Derived.Test.YtbmdoinjkligiaaGreatM09
set_option maxRecDepth 100000
set_option maxHeartbeats 40000000
set_option linter.all false
namespace Go.Proofs.YtbmdoinjkligiaaGreat
open Tryz
open Lib(hid)
open Go.RowKit
theorem NM.set_set(T:NM)(i:Nat)(a b:Nd):(T.set i a).set i b=T.set i b:=by
 funext j;by_cases e:j=i<;>simp[NM.set,e]
def Ze(S F:Nat->Prop)(w w':World)(s it:Nat)(L:List Iv)(v:Iv):Prop:=∃F':Nat->Prop,zq F w w'/\(∀j,F' j->F j\/w.heap.size<=j/\j<w'.heap.size)/\(∀j,F j->F' j)/\q7 (im (λj=>S j\/F' j) w') w' F' s it (v::L)
variable{F S:Nat->Prop}{L:List Iv}{it z:Nat}{w2:World}
theorem q7.enter{w:World}{s:Nat}{b e:EV}(hS:∀j,S j->j<w.heap.size)(pG:∀j,F j->S j)(h:q7 (im S w) w F s it L)(hb:kK (im S w) b)(he:kK (im S w) e)
  (hn:za w w2)(hz:w2.heap[z]? =some (.cells (jZ (yt b e s s)) 279 (0,0)))(lE:w.heap.size<=z):
  ∃T root t n,TI (λj=>F j\/w.heap.size<=j) ⟨w,im S w⟩ w2 (yi (λi=>i∈t.ids) z) T s it root n/\ZI T s root (λi=>i∈t.ids) (b.1,e.1) t.ids s root [] t/\(t≠.nil->(T root).c=false)/\vt (zK T t.ids)/\(zK T t.ids).Perm L/\
   T z=yt b e s s/\z∉t.ids/\z≠s/\it≠z/\(∀i∈t.ids,F i)/\s≠it:=by
 obtain⟨⟨T,root,t,n,h1,h2,h3,h4,h5,h6,h7,h8,h9⟩,hc,k1,k2,k3⟩:=h;have lt:∀j,F j->j<w.heap.size:=λj hj=>hS j (pG j hj);have TQ:z∉t.ids:=λe=>by have:=lt z (h8 z e);omega
 have wH:z≠s:=λe=>by have:=lt s k1;omega
 have B0:it≠z:=λe=>by have:=lt it k2;omega
 obtain⟨T1,rQ⟩:∃T1:NM,T1=λi=>if i∈t.ids then T i else zcr:=⟨_,rfl⟩;have e1:∀i∈t.ids,T1 i=T i:=λi hi=>by rw[rQ];simp only[if_pos hi]
 have e2:∀i,i∉t.ids->T1 i=zcr:=λi hi=>by rw[rQ];simp only[if_neg hi]
 have e3:∀i∈t.ids,(T1.set z (yt b e s s)) i=T i:=λi hi=>by rw[NM.set_ne _ _ (λe:i=z=>TQ (e▸hi)),e1 i hi]
 have eiv:zK (T1.set z (yt b e s s)) t.ids=zK T t.ids:=List.map_congr_left λi hi=>by unfold jd;rw[e3 i hi]
 have pF:∀{j o},w.heap[j]? =some o->w2.heap[j]? =some o:=λh=>hn.heap h;have M9:∀i,kK (im S w) ((T1.set z (yt b e s s)) i).b/\kK (im S w) ((T1.set z (yt b e s s)) i).e/\kK (im S w) ((T1.set z (yt b e s s)) i).mx:=λi=>by
  by_cases hi:i=z
  ·subst hi;rw[NM.set_same];exact⟨hb,he,he⟩
  ·rw[NM.set_ne _ _ hi];by_cases hm:i∈t.ids
   ·rw[e1 i hm];exact h3 i hm
   ·rw[e2 i hm];exact⟨KO _,KO _,KO _⟩
 have sj:TG (T1.set z (yt b e s s)) s root s root (λi=>i∈t.ids) [] t:=h4.congr (λi hi=>e3 i (by simpa[zC]using hi)) h4.dk;refine⟨T1.set z (yt b e s s),root,t,n,⟨⟨hn.mod _,λi hi=> ?_,M9,λi hi=> ?_,?_,?_⟩,pF h2,λe=> ?_,Or.inl k2⟩,⟨sj,J4.nil _ _,trivial,rfl⟩,λht=> ?_,by rw[eiv];exact h6,by rw[eiv];exact h7,NM.set_same _ _ _,TQ,wH,B0,h8,k3⟩
 ·by_cases e:i=z
  ·subst e;rw[NM.set_same];exact hz
  ·have hm:=hi.resolve_right e;rw[e3 i hm];exact pF (h1 i hm)
 ·rcases hi with hi|rfl
  ·exact Or.inl (h8 i hi)
  ·exact Or.inr lE
 ·obtain⟨c,T',hc⟩:=hc;exact⟨c,T',pF hc⟩
 ·intro a v ha;obtain⟨a1,a2⟩:=zi.1 ha;refine zi.2 ⟨λe=> ?_,a2⟩;rcases e with e|e
  ·exact a1 (pG _ e)
  ·have:=World.block_lt_of_cell? w a a2;omega
 ·rcases e with e|e
  ·exact h9 e
  ·exact B0 e
 ·have hr:root∈t.ids:=by
   rcases h4.is.root with e|e
   ·cases t with
    |nil=>exact absurd rfl ht
    |node i a b'=>exact absurd e (by rw[h4.is.1];exact h4.is.2.1)
   ·exact e
  rw[e3 root hr];exact h5 ht
variable{T':NM}{q:Nat}{w':World}
theorem Wj{w:World}{s root root':Nat}{n':Int}{T2:NM}{t t':Tr}{k:List Fr}{b e:EV}(pG:∀j,F j->S j)(hF:∀i∈t.ids,F i)(LJ:F s)(lF:F it)(bM:s≠it)
  (hd:ZI T2 s root (λi=>i∈t.ids) (b.1,e.1) t.ids q s k .nil)(hg:vt (zK T2 t.ids))(hp:(zK T2 t.ids).Perm L)(hv:Q5 (b.1,e.1))(hz:z∉t.ids)(lE:w.heap.size<=z)(AN:(T2 z).b=b/\(T2 z).e=e)
  (ht:TI (λj=>F j\/w.heap.size<=j) ⟨w,im S w⟩ w' (yi (λi=>i∈t.ids) z) T' s it root' n')(mB:TG T' s root' s root' (yi (λi=>i∈t.ids) z) [] t')(pU:∀j,(T' j).b=(T2 j).b/\(T' j).e=(T2 j).e)(hi:t'.ids=(vL k (.node z .nil .nil)).ids)(hc:(T' root').c=false):
  Ze S F w w' s it L (b.1,e.1):=by
 have Hf:∀i∈t'.ids,i∈t.ids\/i=z:=λi cD=>by have:=mB.dk i (by simp[cD]);exact this
 have nB:z∉zC k:=λe=>hz (by
  rw[<-hd.ids,jQ];rcases Ql.1 e with e|e
  ·simp[e]
  ·simp[e])
 have AO:∀j,jd T' j=jd T2 j:=λj=>by unfold jd;rw[(pU j).1,(pU j).2]
 obtain⟨g1,g2⟩:=hd.tell hg hv nB (λj _=>AO j) (by rw[AO];unfold jd;rw[AN.1,AN.2]) hi;have Pg:zq F w w':=ht.tw.mod.mono λj hj e=>e.resolve_right (Nat.not_le.2 hj);have hfj:z<w'.heap.size:=(Array.getElem?_eq_some_iff.1 (ht.tw.nodes z (Or.inr rfl))).1;have hY:(im S w).le (im (λj=>S j\/(F j\/j=z)) w'):=Pg.mono (S':=S) (λj _ e=>pG j e)|>.im λj hj e=>by
  rcases e with e|e|e
  ·exact e
  ·exact pG j e
  ·omega
 have PT: ¬(it∈t'.ids):=λe=>by
  rcases Hf it e with e|e
  ·exact ht.nd (Or.inl e)
  ·exact ht.nd (Or.inr e)
 refine⟨λj=>F j\/j=z,Pg,λj hj=> ?_,λj hj=>Or.inl hj,⟨⟨T',root',t',n',λi cD=>ht.tw.nodes i (Hf i cD),ht.blk,λi _=> ?_,?_,λ_=>hc,g1,g2.trans (hp.cons _),λi cD=> ?_,PT⟩,ht.tw.cs,Or.inl LJ,Or.inl lF,bM⟩⟩
 ·rcases hj with hj|hj
  ·exact Or.inl hj
  ·exact Or.inr ⟨by omega,by omega⟩
 ·have:=ht.tw.ev i;exact⟨this.1.mono hY,this.2.1.mono hY,this.2.2.mono hY⟩
 ·exact mB.congr (λ_ _=>rfl) λi cD=>by simpa[zC]using cD
 ·rcases Hf i cD with e|e
  ·exact Or.inl (hF i e)
  ·exact Or.inr e
variable{T:NM}{W:World}
theorem KP{w:World}{s root root6:Nat}{n:Int}{T6:NM}{t:Tr}{k:List Fr}{b e:EV}(pG:∀j,F j->S j)(hF:∀i∈t.ids,F i)(LJ:F s)(lF:F it)(bM:s≠it)
  (hd:ZI T s root (λi=>i∈t.ids) (b.1,e.1) t.ids q s k .nil)(hg:vt (zK T t.ids))(hp:(zK T t.ids).Perm L)(hv:Q5 (b.1,e.1))(hz:z∉t.ids)(lE:w.heap.size<=z)(BZ:(T z).b=b/\(T z).e=e)
  (ht:TI (λj=>F j\/w.heap.size<=j) ⟨w,im S w⟩ W (yi (λi=>i∈t.ids) z) T6 s it root6 n)(hf:FX T6 s root6 z (yi (λi=>i∈t.ids) z) k .nil .nil)(pU:qR T T6):
  Calls prog 243 #[ptr it,ptr z] W λr w'=>r=.returned (.tuple #[])/\w'.cell? ⟨it,1,none⟩=some (.int .i64 n)/\w'.frozen? ⟨it,1,none⟩=false/\∀m,Ze S F w (w'.setCell ⟨it,1,none⟩ (.int .i64 m)) s it L (b.1,e.1):=by
 refine(Jl ht hf).mono ?_;rintro r w' ⟨h1,T',root',t',h2,h3,h4,h5,h6⟩;refine⟨h1,h2.cells.2.1,h2.cells.2.2.2.2,λm=> ?_⟩;exact Wj pG hF LJ lF bM hd hg hp hv hz lE BZ (h2.setCount m) h3 (pU.trans h4) h5 h6
variable{D:Nat->Prop}{f:Fr}{w0:qV}
theorem Gn{w:World}{s root root0:Nat}{n:Int}{T5:NM}{v:Iv}{ids:List Nat}{k:List Fr}(hd:ZI T s root D v ids q s (f::k) .nil)(Py:(T root).c=false)(nB:z∉zC (f::k))
  (h5:TI S w0 w (yi D z) T5 s it root0 n)(hg:TG T5 s root q z (yi D z) (f::k) (.node z .nil .nil))(BZ:(T z).b=(T5 z).b/\(T z).e=(T5 z).e)(hb:∀j,j≠z->ZV (T j) (T5 j)):
  w.cell? ⟨z,7,none⟩=some (J5 (T5 z).c)/\w.frozen? ⟨z,7,none⟩=false/\∃T6,TI S w0 (w.setCell ⟨z,7,none⟩ (.int .i64 1)) (yi D z) T6 s it root0 n/\FX T6 s root z (yi D z) (f::k) .nil .nil/\qR T T6:=by
 have hO:=(xx.refl T5).set z true;have Ho:∀j,j≠z->(T5.set z ((T5 z).sc true)) j=T5 j:=λj hj=>NM.set_ne _ _ hj;refine⟨(h5.tw.cells (Or.inr rfl)).2.2.2.2.2.2,h5.tw.frozen (Or.inr rfl) 7,_,h5.setC (Or.inr rfl) true,hd.fx Py nB (hg.onlyC hO) λj hj=>by rw[Ho j hj];exact hb j hj,λj=> ?_⟩;by_cases e:j=z
 ·subst e;rw[NM.set_same];exact⟨BZ.1.symm,BZ.2.symm⟩
 ·rw[Ho j e];exact⟨(hb j e).1,(hb j e).2.1⟩
theorem ud{w:World}{s:Nat}{b e:EV}(hS:∀j,S j->j<w.heap.size)(pG:∀j,F j->S j)(h:q7 (im S w) w F s it L)(hb:kK (im S w) b)(he:kK (im S w) e)(hv:Q5 (b.1,e.1)):
  Calls prog 234 #[ptr it,.agg #[b.2,e.2],Xw] w λr w'=>r=.returned (.tuple #[])/\Ze S F w w' s it L (b.1,e.1):=by
 have bM:=h.ne;have LJ:=h.fs;have lF:=h.fi;obtain⟨bp,bn,bc,pU,_⟩:=hb.iface;obtain⟨ep,en,ec,rW,_⟩:=he.iface;obtain⟨w1,Hh⟩:=zex (w.alloc (.cells #[b.2,e.2] 230));have hQ:za w w1:=by rw[Hh];exact(za.refl w).alloc _
 have pI:w1.heap.size=w.heap.size+1:=by rw[Hh];simp
 have c0:w1.cell? ⟨w.heap.size,0,none⟩=some b.2:=by rw[Hh,World.cell?_alloc_new];rfl
 have c1:w1.cell? ⟨w.heap.size,1,none⟩=some e.2:=by rw[Hh,World.cell?_alloc_new];rfl
 obtain⟨Pn⟩:∃_:w1.cell? ⟨it,2,none⟩=some (ptr s),True:=by obtain⟨⟨T,root,t,n,_,h2,_⟩,_⟩:=h;refine⟨hQ.le _ _ ?_,trivial⟩;rw[cell_of_row w it 2 _ _ (0,0) h2];rfl
 have Hp:=gw (w:=w1) (b:=b) (e:=e) pU rW Pn;have PN:∀w2,za w1 w2->w2.heap[w1.heap.size+1]? =some (.cells (jZ (yt b e s s)) 279 (0,0))->_:=λw2 h2 h3=>h.enter hS pG hb he (hQ.trans h2) h3 (by omega);have lE:w.heap.size<=w1.heap.size+1:=by omega
 have wl:=hid PN;clear PN;have HS:=hid hS;clear hS;have Sb:=hid pG;clear pG;have Rz:=hb;have oj:=pU;have ol:=rW;rw[pU]at Hh Hp c0;rw[rW]at Hh Hp c1;rw[pU,rW];have Pr:=hid Hh;clear Hh;have Rc:=hid Hp;clear Hp;have Rt:=hid pU;clear pU oj;have TP:=hid rW;clear rW ol;have HB:=hid hb;clear hb Rz;have HE:=hid he;clear he;have HV:=hid hv;clear hv;have HZW:=hid lE;clear lE;have Hb:=World.block_lt_of_cell? w1 _ Pn;have Ho:it≠w.heap.size:=λe=>by have:=Sb.out it lF;have:=HS.out it this;omega
 have Hs:=hid hQ;clear hQ;have RV:=hid pI;clear pI;have TK:=hid Pn;clear Pn;have HC:=hid (And.intro c0 c1);clear c0 c1;have Hl:=yC (.slice bp bn bc);have Hq:=yC (.slice ep en ec);clear h Hb;go_enter func234,ntmps234;go_upto_region 1 with fail
 rw[<-Pr.out];have Pn:=TK.out;obtain⟨c0,c1⟩:=HC.out;clear TK HC Hs Pr;go_wp2_with fail;refine Rc.out.mono ?_;rintro r w2 ⟨rfl,g1,g2,g3⟩;obtain⟨T,root,t,n,ti,dn,Py,hg,hp,tz,hz,wH,B0,htF,_⟩:=wl.out w2 g1 g2;have lE:=HZW.out;generalize w1.heap.size+1=z at*
 have Sw:=hid ti;clear ti;have HDN:=hid dn;clear dn;have Rr:=hid Py;clear Py;have HG:=hid hg;clear hg;have HP:=hid hp;clear hp;have Mi:=hid tz;clear tz;have HZ:=hid hz;clear hz;have E_:=hid wH;clear wH;have om:=hid htF;clear htF;clear g1 g2 g3 wl Rc HZW RV Pn c0 c1;obtain⟨i0,_,i2,if0,if1⟩:=Sw.out.cells;go_wp2;go_loopg [6,8] (t.ids.length+1) (λgg yv xv wr=>∃q x k t1,yv=ptr q/\xv=ptr x/\TI (λj=>F j\/w.heap.size<=j) ⟨w,im S w⟩ wr (yi (λi=>i∈t.ids) z) T s it root n/\ZI T s root (λi=>i∈t.ids) (b.1,e.1) t.ids q x k t1/\t1.ids.length<gg)
 case atStart=>exact⟨s,root,[],t,rfl,rfl,Sw.out,HDN.out,by omega⟩
 case round=>
  clear Sw HDN i0 i2 if0 if1;obtain⟨q,x,k,t1,rfl,rfl,pf,hd,h_⟩:=hrel;obtain⟨i0,_,i2,if0,if1⟩:=pf.cells;obtain⟨z0,z1,_,_,_,z6,z7⟩:=pf.tw.cells (i:=z) (Or.inr rfl);rw[Mi.out]at z0 z1 z6 z7
  replace z0:wr.cell? ⟨z,0,none⟩=some b.2:=z0
  replace z1:wr.cell? ⟨z,1,none⟩=some e.2:=z1
  replace z6:wr.cell? ⟨z,6,none⟩=some (ptr s):=z6
  rw[Rt.out]at z0;rw[TP.out]at z1;by_cases hx:x=s
  ·skip
   rw[hx]at hd⊢;have sk:=xO pf.tw.cs pf.tw.cs;rw[decide_eq_true rfl]at sk;have sU:t1=.nil:=by
    cases t1 with
    |nil=>rfl
    |node i l r=>exact absurd hd.tg.is.1.symm hd.tg.is.2.1
   subst sU;have nB:z∉zC k:=λe=>HZ.out (by
    rw[<-hd.ids,jQ];rcases Ql.1 e with e|e
    ·simp[e]
    ·simp[e])
   have pL:=Ne.symm E_.out;have hzi:=Ne.symm B0;clear hx h_;cases k with
   |nil=>
    have N3:q=s:=hd.tg.cx.2;subst N3;have nE:=((pf.setP (i:=z) (Or.inr rfl) q).setRoot z).setC (i:=z) (Or.inr rfl) true;have hTe:(T.set z ((T z).sp q)).set z (((T.set z ((T z).sp q)) z).sc true)=T.set z (yt b e q q):=by rw[NM.set_same,NM.set_set,Mi.out];rfl
    rw[hTe]at nE;have pN:=ZH (pf.setP (i:=z) (Or.inr rfl) q).tw.cs (pf.setP (i:=z) (Or.inr rfl) q).tw.cs;rw[decide_eq_true rfl]at pN;have z6f:=pf.tw.frozen (i:=z) (Or.inr rfl) 6;have z7f:=pf.tw.frozen (i:=z) (Or.inr rfl) 7;have sF:FX (T.set z (yt b e q q)) q z z (yi (λi=>i∈t.ids) z) [] .nil .nil:=⟨⟨_,(hd.tg.hangNil E_.out b e).2⟩,λh=>absurd rfl h⟩;have PX:qR T (T.set z (yt b e q q)):=λj=>by
     by_cases e1:j=z
     ·subst e1;rw[NM.set_same,Mi.out];exact⟨rfl,rfl⟩
     ·rw[NM.set_ne _ _ e1];exact⟨rfl,rfl⟩
    have R5:=hid (KP Sb.out om.out LJ lF bM hd HG.out HP.out HV.out HZ.out lE (by rw[Mi.out];exact⟨rfl,rfl⟩) nE sF PX);clear nE hTe sF PX pf hd nB;go_wp2_with fail;refine R5.out.mono ?_;rintro r w7 ⟨rfl,l1,lf,Ri⟩;have mP:=hid Ri;clear Ri R5 z0 z1 z6 z7 z6f z7f i0 i2 if0 if1 sk pN;go_wp2;go_returns;exact⟨rfl,mP.out _⟩
   |cons f k=>
    have B5:t≠.nil:=λe=>by
     have h1:=hd.ids;rw[e]at h1;have:f.i∈(vL (f::k) .nil).ids:=by
      rw[jQ];have:f.i∈zC (f::k):=by simp[zC]
      rcases Ql.1 this with e|e
      ·simp[e]
      ·simp[e]
     rw[h1]at this;simp[Tr.ids]at this
    cases f with
    |L i u=>
     obtain⟨n0,N3,dq,lG,q',ml,mr,hU⟩:=hd.tg.hangL E_.out nB b e;subst n0;have Tt:=hd.top
     replace Tt:goL (b.1,e.1) (jd T q):=Tt
     obtain⟨hu,Hi⟩:=hU _ rfl;have hzq:=Ne.symm lG;have nE:=pf.setP (i:=z) (Or.inr rfl) q;have lH:T.set z ((T z).sp q)=T.set z (yt b e s q):=by rw[Mi.out];rfl
     rw[lH]at nE;have z6f:=pf.tw.frozen (i:=z) (Or.inr rfl) 6;have S9:∀W,TI (λj=>F j\/w.heap.size<=j) ⟨w,im S w⟩ W (yi (λi=>i∈t.ids) z) ((T.set z (yt b e s q)).set q ((T q).sl z)) s it root n->Calls prog 229 #[ptr q,ptr s] W λr w'=>r=.returned (.tuple #[])/\w'.cell? ⟨it,1,none⟩=some (.int .i64 n)/\w'.cell? ⟨z,7,none⟩=some (J5 true)/\w'.frozen? ⟨z,7,none⟩=false/\
       Calls prog 243 #[ptr it,ptr z] (w'.setCell ⟨z,7,none⟩ (.int .i64 1)) λr w'=>r=.returned (.tuple #[])/\w'.cell? ⟨it,1,none⟩=some (.int .i64 n)/\w'.frozen? ⟨it,1,none⟩=false/\∀m,Ze S F w (w'.setCell ⟨it,1,none⟩ (.int .i64 m)) s it L (b.1,e.1):=λW hW=>by
      refine(xP hW hu).mono ?_;rintro r w' ⟨h1,T5,h2,h3⟩;obtain⟨g1,g2,g3,g4,g5⟩:=Hi T5 h3;obtain⟨r1,r2,T6,r3,r4,r5⟩:=Gn hd (Rr.out B5) nB h2 g1 (by rw[Mi.out,g3,g4];exact⟨rfl,rfl⟩) g5;rw[g2]at r1;exact⟨h1,h2.cells.2.1,r1,r2,KP Sb.out om.out LJ lF bM hd HG.out HP.out HV.out HZ.out lE (by rw[Mi.out];exact⟨rfl,rfl⟩) r3 r4 r5⟩
     have Nr:=hid S9;clear S9;have Sw:=hid pf;clear pf;have sI:=hid nE;clear nE;have DQ:=hid dq;have Nz:=hid Tt;clear Tt;have nF:∀W m,TI (λj=>F j\/w.heap.size<=j) ⟨w,im S w⟩ W (yi (λi=>i∈t.ids) z) (T.set z (yt b e s q)) s it root n->TI (λj=>F j\/w.heap.size<=j) ⟨w,im S w⟩ ((W.drewN m).setCell ⟨q,4,none⟩ (ptr z)) (yi (λi=>i∈t.ids) z) ((T.set z (yt b e s q)).set q ((T q).sl z)) s it root n:=λW m h=>by have:=(h.drewN m).setL (i:=q) (Or.inl DQ.out) z;rw[NM.set_ne _ _ lG]at this;exact this
     have R6:=hid nF;clear nF;clear lH hu Hi hU hd nB z7 B5;go_upto_region 15 with fail
     have P0:=sI.out;generalize wr.setCell {block:=z,off:=6} (ptr q)=w3 at P0⊢;clear z0 z1 z6 z6f i0 i2 if0 if1 sk sI Sw;obtain⟨i0,_,i2,if0,if1⟩:=P0.cells;obtain⟨z0,z1,_,_,_,_,z7⟩:=P0.tw.cells (i:=z) (Or.inr rfl);rw[NM.set_same]at z0 z1 z7
     replace z0:w3.cell? ⟨z,0,none⟩=some b.2:=z0
     replace z1:w3.cell? ⟨z,1,none⟩=some e.2:=z1
     rw[Rt.out]at z0;rw[TP.out]at z1;obtain⟨q0,q1,_,q4,q5,_,_⟩:=P0.tw.cells (i:=q) (Or.inl DQ.out);rw[NM.set_ne _ _ lG]at q0 q1 q4 q5;have qf:=P0.tw.frozen (i:=q) (Or.inl DQ.out) 4;have pN:=ZH (P0.tw.cel (i:=q) (Or.inl DQ.out)) P0.tw.cs;rw[decide_eq_false N3]at pN;have LC:=(P0.tw.ev q).1;have lw:=(P0.tw.ev q).2.1;rw[NM.set_ne _ _ lG]at LC lw;have N4:=hid (λm=>jR (P0.drewN m).tw.le HB.out LC Rt.out);have n0:q≠it:=λh=>P0.nd (by rw[<-h];exact Or.inl DQ.out);have AE:=Ne.symm n0;clear LC;have sI:=hid P0;clear P0;have bN:=hid lw;clear lw;by_cases k1:zy b.1 (T q).b.1<0
     ·skip
      clear bN;go_wp2;go_quiet ((go_at_call 187;exact zw (N4.out _)));have lI:=R6.out _ nq sI.out;have lJ:=hid (Nr.out _ lI);clear lI sI R6 Nr;go_wp2_with fail;refine lJ.out.mono ?_;rintro r w5 ⟨rfl,j1,j7,j7f,SQ⟩;have R5:=hid SQ;clear SQ lJ;clear z0 z1 z7 i0 i2 if0 if1 q0 q1 q4 q5 qf pN;go_wp2_with fail;refine R5.out.mono ?_;rintro r w7 ⟨rfl,l1,lf,Ri⟩;have mP:=hid Ri;clear Ri R5 j1 j7 j7f;go_wp2;go_returns;exact⟨rfl,mP.out _⟩
     ·have hk:zy b.1 (T q).b.1=0/\zy e.1 (T q).e.1<0:=Nz.out.resolve_left k1;obtain⟨k2,k3⟩:=hk;have k2':(zy b.1 (T q).b.1==0)=true:=by simpa using k2
      clear k2 Nz;go_wp2;go_quiet ((go_at_call 187;exact zw (N4.out _)));have P0:=sI.out.drewN nq;generalize w3.drewN nq=w4 at P0⊢;clear z0 z1 z7 i0 i2 if0 if1 q0 q1 q4 q5 qf pN N4 sI;obtain⟨i0,_,i2,if0,if1⟩:=P0.cells;obtain⟨z0,z1,_,_,_,_,z7⟩:=P0.tw.cells (i:=z) (Or.inr rfl);rw[NM.set_same]at z0 z1 z7
      replace z0:w4.cell? ⟨z,0,none⟩=some b.2:=z0
      replace z1:w4.cell? ⟨z,1,none⟩=some e.2:=z1
      rw[Rt.out]at z0;rw[TP.out]at z1;obtain⟨q0,q1,_,q4,q5,_,_⟩:=P0.tw.cells (i:=q) (Or.inl DQ.out);rw[NM.set_ne _ _ lG]at q0 q1 q4 q5;have qf:=P0.tw.frozen (i:=q) (Or.inl DQ.out) 4;have bO:=hid (λm=>jR (P0.drewN m).tw.le HE.out bN.out TP.out);have sI:=hid P0;clear P0;go_wp2;go_quiet ((go_at_call 187;exact zw (bO.out _)));have lI:=R6.out _ nq sI.out;have lJ:=hid (Nr.out _ lI);clear lI sI R6 Nr bN;go_wp2_with fail;refine lJ.out.mono ?_;rintro r w5 ⟨rfl,j1,j7,j7f,SQ⟩;have R5:=hid SQ;clear SQ lJ;clear z0 z1 z7 i0 i2 if0 if1 q0 q1 q4 q5 qf;go_wp2_with fail;refine R5.out.mono ?_;rintro r w7 ⟨rfl,l1,lf,Ri⟩;have mP:=hid Ri;clear Ri R5 j1 j7 j7f;go_wp2;go_returns;exact⟨rfl,mP.out _⟩
    |R i u=>
     obtain⟨n0,N3,dq,lG,q',ml,mr,hU⟩:=hd.tg.hangR E_.out nB b e;subst n0;have Tt:=hd.top
     replace Tt: ¬goL (b.1,e.1) (jd T q):=Tt
     obtain⟨hu,Hi⟩:=hU _ rfl;have hzq:=Ne.symm lG;have nE:=pf.setP (i:=z) (Or.inr rfl) q;have lH:T.set z ((T z).sp q)=T.set z (yt b e s q):=by rw[Mi.out];rfl
     rw[lH]at nE;have z6f:=pf.tw.frozen (i:=z) (Or.inr rfl) 6;have S9:∀W,TI (λj=>F j\/w.heap.size<=j) ⟨w,im S w⟩ W (yi (λi=>i∈t.ids) z) ((T.set z (yt b e s q)).set q ((T q).sr z)) s it root n->Calls prog 229 #[ptr q,ptr s] W λr w'=>r=.returned (.tuple #[])/\w'.cell? ⟨it,1,none⟩=some (.int .i64 n)/\w'.cell? ⟨z,7,none⟩=some (J5 true)/\w'.frozen? ⟨z,7,none⟩=false/\
       Calls prog 243 #[ptr it,ptr z] (w'.setCell ⟨z,7,none⟩ (.int .i64 1)) λr w'=>r=.returned (.tuple #[])/\w'.cell? ⟨it,1,none⟩=some (.int .i64 n)/\w'.frozen? ⟨it,1,none⟩=false/\∀m,Ze S F w (w'.setCell ⟨it,1,none⟩ (.int .i64 m)) s it L (b.1,e.1):=λW hW=>by
      refine(xP hW hu).mono ?_;rintro r w' ⟨h1,T5,h2,h3⟩;obtain⟨g1,g2,g3,g4,g5⟩:=Hi T5 h3;obtain⟨r1,r2,T6,r3,r4,r5⟩:=Gn hd (Rr.out B5) nB h2 g1 (by rw[Mi.out,g3,g4];exact⟨rfl,rfl⟩) g5;rw[g2]at r1;exact⟨h1,h2.cells.2.1,r1,r2,KP Sb.out om.out LJ lF bM hd HG.out HP.out HV.out HZ.out lE (by rw[Mi.out];exact⟨rfl,rfl⟩) r3 r4 r5⟩
     have Nr:=hid S9;clear S9;have Sw:=hid pf;clear pf;have sI:=hid nE;clear nE;have DQ:=hid dq;have Nz:=hid Tt;clear Tt;have nF:∀W m,TI (λj=>F j\/w.heap.size<=j) ⟨w,im S w⟩ W (yi (λi=>i∈t.ids) z) (T.set z (yt b e s q)) s it root n->TI (λj=>F j\/w.heap.size<=j) ⟨w,im S w⟩ ((W.drewN m).setCell ⟨q,5,none⟩ (ptr z)) (yi (λi=>i∈t.ids) z) ((T.set z (yt b e s q)).set q ((T q).sr z)) s it root n:=λW m h=>by have:=(h.drewN m).setR (i:=q) (Or.inl DQ.out) z;rw[NM.set_ne _ _ lG]at this;exact this
     have R6:=hid nF;clear nF;clear lH hu Hi hU hd nB z7 B5;go_upto_region 15 with fail
     have P0:=sI.out;generalize wr.setCell {block:=z,off:=6} (ptr q)=w3 at P0⊢;clear z0 z1 z6 z6f i0 i2 if0 if1 sk sI Sw;obtain⟨i0,_,i2,if0,if1⟩:=P0.cells;obtain⟨z0,z1,_,_,_,_,z7⟩:=P0.tw.cells (i:=z) (Or.inr rfl);rw[NM.set_same]at z0 z1 z7
     replace z0:w3.cell? ⟨z,0,none⟩=some b.2:=z0
     replace z1:w3.cell? ⟨z,1,none⟩=some e.2:=z1
     rw[Rt.out]at z0;rw[TP.out]at z1;obtain⟨q0,q1,_,q4,q5,_,_⟩:=P0.tw.cells (i:=q) (Or.inl DQ.out);rw[NM.set_ne _ _ lG]at q0 q1 q4 q5;have qf:=P0.tw.frozen (i:=q) (Or.inl DQ.out) 5;have pN:=ZH (P0.tw.cel (i:=q) (Or.inl DQ.out)) P0.tw.cs;rw[decide_eq_false N3]at pN;have LC:=(P0.tw.ev q).1;have lw:=(P0.tw.ev q).2.1;rw[NM.set_ne _ _ lG]at LC lw;have N4:=hid (λm=>jR (P0.drewN m).tw.le HB.out LC Rt.out);have n0:q≠it:=λh=>P0.nd (by rw[<-h];exact Or.inl DQ.out);have AE:=Ne.symm n0;clear LC;have sI:=hid P0;clear P0;have bN:=hid lw;clear lw;have k1: ¬zy b.1 (T q).b.1<0:=λh=>Nz.out (Or.inl h);by_cases k2:zy b.1 (T q).b.1=0
     ·have k3: ¬zy e.1 (T q).e.1<0:=λh=>Nz.out (Or.inr ⟨k2,h⟩);have k2':(zy b.1 (T q).b.1==0)=true:=by simpa using k2
      clear k2 Nz;go_wp2;go_quiet ((go_at_call 187;exact zw (N4.out _)));have P0:=sI.out.drewN nq;generalize w3.drewN nq=w4 at P0⊢;clear z0 z1 z7 i0 i2 if0 if1 q0 q1 q4 q5 qf pN N4 sI;obtain⟨i0,_,i2,if0,if1⟩:=P0.cells;obtain⟨z0,z1,_,_,_,_,z7⟩:=P0.tw.cells (i:=z) (Or.inr rfl);rw[NM.set_same]at z0 z1 z7
      replace z0:w4.cell? ⟨z,0,none⟩=some b.2:=z0
      replace z1:w4.cell? ⟨z,1,none⟩=some e.2:=z1
      rw[Rt.out]at z0;rw[TP.out]at z1;obtain⟨q0,q1,_,q4,q5,_,_⟩:=P0.tw.cells (i:=q) (Or.inl DQ.out);rw[NM.set_ne _ _ lG]at q0 q1 q4 q5;have qf:=P0.tw.frozen (i:=q) (Or.inl DQ.out) 5;have bO:=hid (λm=>jR (P0.drewN m).tw.le HE.out bN.out TP.out);have sI:=hid P0;clear P0;go_wp2;go_quiet ((go_at_call 187;exact zw (bO.out _)));have lI:=R6.out _ nq sI.out;have lJ:=hid (Nr.out _ lI);clear lI sI R6 Nr bN;go_wp2_with fail;refine lJ.out.mono ?_;rintro r w5 ⟨rfl,j1,j7,j7f,SQ⟩;have R5:=hid SQ;clear SQ lJ;clear z0 z1 z7 i0 i2 if0 if1 q0 q1 q4 q5 qf;go_wp2_with fail;refine R5.out.mono ?_;rintro r w7 ⟨rfl,l1,lf,Ri⟩;have mP:=hid Ri;clear Ri R5 j1 j7 j7f;go_wp2;go_returns;exact⟨rfl,mP.out _⟩
     ·have k2':(zy b.1 (T q).b.1==0)=false:=by simpa using k2
      clear k2 Nz;clear bN;go_wp2;go_quiet ((go_at_call 187;exact zw (N4.out _)));have lI:=R6.out _ nq sI.out;have lJ:=hid (Nr.out _ lI);clear lI sI R6 Nr;go_wp2_with fail;refine lJ.out.mono ?_;rintro r w5 ⟨rfl,j1,j7,j7f,SQ⟩;have R5:=hid SQ;clear SQ lJ;clear z0 z1 z7 i0 i2 if0 if1 q0 q1 q4 q5 qf pN;go_wp2_with fail;refine R5.out.mono ?_;rintro r w7 ⟨rfl,l1,lf,Ri⟩;have mP:=hid Ri;clear Ri R5 j1 j7 j7f;go_wp2;go_returns;exact⟨rfl,mP.out _⟩
  ·obtain⟨l,r,rfl,dx⟩:=hd.node hx;have sk:=xO (pf.tw.cel (i:=x) (Or.inl dx)) pf.tw.cs;rw[decide_eq_false hx]at sk;obtain⟨x0,x1,_,x4,x5,_,_⟩:=pf.tw.cells (i:=x) (Or.inl dx);have Lu:=λm=>jR (pf.drewN m).tw.le HB.out (pf.tw.ev x).1 Rt.out;have hlL:l.ids.length<(Tr.node x l r).ids.length/\r.ids.length<(Tr.node x l r).ids.length:=by simp[Tr.ids];omega
   have N4:=hid Lu;clear Lu;have DX:=hid dx;have Sw:=hid pf;clear pf;have H7:=hid h_;clear h_;have Ta:=hid hlL;clear hlL;have hLf:goL (b.1,e.1) (jd T x)->_:=λh=>hd.left HG.out h;have hRt: ¬goL (b.1,e.1) (jd T x)->_:=λh=>hd.right HG.out h;have AP:=hid hLf;clear hLf;have LG:=hid hRt;clear hRt;clear hd hx dx;by_cases k1:zy b.1 (T x).b.1<0
   ·have MC:=hid (AP.out (Or.inl k1));clear AP LG;go_wp2;go_quiet ((go_at_call 187;exact zw (N4.out _)));go_wp2;go_roundg (gk-1)
    case rel=>exact⟨x,_,_,_,rfl,rfl,Sw.out.drewN _,MC.out,by have:=Ta.out;have:=H7.out;omega⟩
    case measure=>have:=H7.out;omega
   ·by_cases k2:zy b.1 (T x).b.1=0
    ·have k2':(zy b.1 (T x).b.1==0)=true:=by simpa using k2
     clear k2;by_cases k3:zy e.1 (T x).e.1<0
     ·have MC:=hid (AP.out (Or.inr ⟨eq_of_beq k2',k3⟩));clear AP LG;go_wp2;go_quiet ((go_at_call 187;exact zw (N4.out _)));have pf:=Sw.out.drewN nq;generalize wr.drewN nq=w2 at pf⊢;clear z0 z1 z6 z7 x0 x1 x4 x5 i0 i2 if0 if1 sk N4 Sw;obtain⟨z0,z1,_,_,_,_,_⟩:=pf.tw.cells (i:=z) (Or.inr rfl);rw[Mi.out]at z0 z1
      replace z0:w2.cell? ⟨z,0,none⟩=some b.2:=z0
      replace z1:w2.cell? ⟨z,1,none⟩=some e.2:=z1
      rw[Rt.out]at z0;rw[TP.out]at z1;obtain⟨x0,x1,_,x4,x5,_,_⟩:=pf.tw.cells (i:=x) (Or.inl DX.out);have bO:=hid (λm=>jR (pf.drewN m).tw.le HE.out (pf.tw.ev x).2.1 TP.out);have Sw:=hid pf;clear pf;go_wp2;go_quiet ((go_at_call 187;exact zw (bO.out _)));go_wp2;go_roundg (gk-1)
      case rel=>exact⟨x,_,_,_,rfl,rfl,Sw.out.drewN _,MC.out,by have:=Ta.out;have:=H7.out;omega⟩
      case measure=>have:=H7.out;omega
     ·have MC:=hid (LG.out (λh=>by
       rcases h with h|⟨_,h⟩
       ·exact k1 h
       ·exact k3 h))
      clear AP LG;go_wp2;go_quiet ((go_at_call 187;exact zw (N4.out _)));have pf:=Sw.out.drewN nq;generalize wr.drewN nq=w2 at pf⊢;clear z0 z1 z6 z7 x0 x1 x4 x5 i0 i2 if0 if1 sk N4 Sw;obtain⟨z0,z1,_,_,_,_,_⟩:=pf.tw.cells (i:=z) (Or.inr rfl);rw[Mi.out]at z0 z1
      replace z0:w2.cell? ⟨z,0,none⟩=some b.2:=z0
      replace z1:w2.cell? ⟨z,1,none⟩=some e.2:=z1
      rw[Rt.out]at z0;rw[TP.out]at z1;obtain⟨x0,x1,_,x4,x5,_,_⟩:=pf.tw.cells (i:=x) (Or.inl DX.out);have bO:=hid (λm=>jR (pf.drewN m).tw.le HE.out (pf.tw.ev x).2.1 TP.out);have Sw:=hid pf;clear pf;go_wp2;go_quiet ((go_at_call 187;exact zw (bO.out _)));go_wp2;go_roundg (gk-1)
      case rel=>exact⟨x,_,_,_,rfl,rfl,Sw.out.drewN _,MC.out,by have:=Ta.out;have:=H7.out;omega⟩
      case measure=>have:=H7.out;omega
    ·have MC:=hid (LG.out (λh=>by
      rcases h with h|⟨h,_⟩
      ·exact k1 h
      ·exact k2 h))
     have k2':(zy b.1 (T x).b.1==0)=false:=by simpa using k2
     clear k2;go_wp2;go_quiet ((go_at_call 187;exact zw (N4.out _)));go_wp2;go_roundg (gk-1)
     case rel=>exact⟨x,_,_,_,rfl,rfl,Sw.out.drewN _,MC.out,by have:=Ta.out;have:=H7.out;omega⟩
     case measure=>have:=H7.out;omega
end Go.Proofs.YtbmdoinjkligiaaGreat
