/- Contracts and laws that the last text joins. -/
import Derived.Test.YtbmdoinjkligiaaGreatM07
set_option maxRecDepth 100000
set_option maxHeartbeats 40000000
set_option linter.all false
namespace Go.Proofs.YtbmdoinjkligiaaGreat
open Tryz
open Lib(hid)
open Go.RowKit
theorem NM.set_set(T:NM)(i:Nat)(a b:Nd):(T.set i a).set i b=T.set i b:=by
 funext j;by_cases e:j=i<;>simp[NM.set,e]
def Zh(S F:Nat->Prop)(w w':World)(s it:Nat)(L:List Iv)(v:Iv):Prop:=∃F':Nat->Prop,zo F w w'/\(∀j,F' j->F j\/w.heap.size<=j/\j<w'.heap.size)/\(∀j,F j->F' j)/\q_ (im (λj=>S j\/F' j) w') w' F' s it (v::L)
variable{F S:Nat->Prop}{L:List Iv}{it z:Nat}{w2:World}
theorem q_.enter{w:World}{s:Nat}{b e:EV}(hS:∀j,S j->j<w.heap.size)(hFS:∀j,F j->S j)(h:q_ (im S w) w F s it L)(hb:kL (im S w) b)(he:kL (im S w) e)
  (hn:za w w2)(hz:w2.heap[z]? =some (.cells (j8 (yw b e s s)) 279 (0,0)))(hzw:w.heap.size<=z):
  ∃T root t n,TI (λj=>F j\/w.heap.size<=j) ⟨w,im S w⟩ w2 (yl (λi=>i∈t.ids) z) T s it root n/\ZO T s root (λi=>i∈t.ids) (b.1,e.1) t.ids s root [] t/\(t≠.nil->(T root).c=false)/\vw (zK T t.ids)/\(zK T t.ids).Perm L/\
   T z=yw b e s s/\z∉t.ids/\z≠s/\it≠z/\(∀i∈t.ids,F i)/\s≠it:=by
 obtain⟨⟨T,root,t,n,h1,h2,h3,h4,h5,h6,h7,h8,h9⟩,hc,k1,k2,k3⟩:=h;have lt:∀j,F j->j<w.heap.size:=λj hj=>hS j (hFS j hj);have hzn:z∉t.ids:=λe=>by have:=lt z (h8 z e);omega
 have hzs:z≠s:=λe=>by have:=lt s k1;omega
 have hiz:it≠z:=λe=>by have:=lt it k2;omega
 obtain⟨T1,hT1⟩:∃T1:NM,T1=λi=>if i∈t.ids then T i else zcW:=⟨_,rfl⟩;have e1:∀i∈t.ids,T1 i=T i:=λi hi=>by rw[hT1];simp only[if_pos hi]
 have e2:∀i,i∉t.ids->T1 i=zcW:=λi hi=>by rw[hT1];simp only[if_neg hi]
 have e3:∀i∈t.ids,(T1.set z (yw b e s s)) i=T i:=λi hi=>by rw[NM.set_ne _ _ (λe:i=z=>hzn (e▸hi)),e1 i hi]
 have eiv:zK (T1.set z (yw b e s s)) t.ids=zK T t.ids:=List.map_congr_left λi hi=>by unfold jh;rw[e3 i hi]
 have hold:∀{j o},w.heap[j]? =some o->w2.heap[j]? =some o:=λh=>hn.heap h;have hev:∀i,kL (im S w) ((T1.set z (yw b e s s)) i).b/\kL (im S w) ((T1.set z (yw b e s s)) i).e/\kL (im S w) ((T1.set z (yw b e s s)) i).mx:=λi=>by
  by_cases hi:i=z
  ·subst hi;rw[NM.set_same];exact⟨hb,he,he⟩
  ·rw[NM.set_ne _ _ hi];by_cases hm:i∈t.ids
   ·rw[e1 i hm];exact h3 i hm
   ·rw[e2 i hm];exact⟨KT _,KT _,KT _⟩
 have htg:TG (T1.set z (yw b e s s)) s root s root (λi=>i∈t.ids) [] t:=h4.congr (λi hi=>e3 i (by simpa[zC]using hi)) h4.dk;refine⟨T1.set z (yw b e s s),root,t,n,⟨⟨hn.mod _,λi hi=> ?_,hev,λi hi=> ?_,?_,?_⟩,hold h2,λe=> ?_,Or.inl k2⟩,⟨htg,J9.nil _ _,trivial,rfl⟩,λht=> ?_,by rw[eiv];exact h6,by rw[eiv];exact h7,NM.set_same _ _ _,hzn,hzs,hiz,h8,k3⟩
 ·by_cases e:i=z
  ·subst e;rw[NM.set_same];exact hz
  ·have hm:=hi.resolve_right e;rw[e3 i hm];exact hold (h1 i hm)
 ·rcases hi with hi|rfl
  ·exact Or.inl (h8 i hi)
  ·exact Or.inr hzw
 ·obtain⟨c,T',hc⟩:=hc;exact⟨c,T',hold hc⟩
 ·intro a v ha;obtain⟨a1,a2⟩:=zi.1 ha;refine zi.2 ⟨λe=> ?_,a2⟩;rcases e with e|e
  ·exact a1 (hFS _ e)
  ·have:=World.block_lt_of_cell? w a a2;omega
 ·rcases e with e|e
  ·exact h9 e
  ·exact hiz e
 ·have hr:root∈t.ids:=by
   rcases h4.is.root with e|e
   ·cases t with
    |nil=>exact absurd rfl ht
    |node i a b'=>exact absurd e (by rw[h4.is.1];exact h4.is.2.1)
   ·exact e
  rw[e3 root hr];exact h5 ht
variable{T':NM}{q:Nat}{w':World}
theorem WF{w:World}{s root root':Nat}{n':Int}{T2:NM}{t t':Tr}{k:List Fr}{b e:EV}(hFS:∀j,F j->S j)(hF:∀i∈t.ids,F i)(hsF:F s)(hiF:F it)(hsi:s≠it)
  (hd:ZO T2 s root (λi=>i∈t.ids) (b.1,e.1) t.ids q s k .nil)(hg:vw (zK T2 t.ids))(hp:(zK T2 t.ids).Perm L)(hv:Q9 (b.1,e.1))(hz:z∉t.ids)(hzw:w.heap.size<=z)(hT2z:(T2 z).b=b/\(T2 z).e=e)
  (ht:TI (λj=>F j\/w.heap.size<=j) ⟨w,im S w⟩ w' (yl (λi=>i∈t.ids) z) T' s it root' n')(hgt:TG T' s root' s root' (yl (λi=>i∈t.ids) z) [] t')(hbe:∀j,(T' j).b=(T2 j).b/\(T' j).e=(T2 j).e)(hi:t'.ids=(vO k (.node z .nil .nil)).ids)(hc:(T' root').c=false):
  Zh S F w w' s it L (b.1,e.1):=by
 have hmem:∀i∈t'.ids,i∈t.ids\/i=z:=λi hi'=>by have:=hgt.dk i (by simp[hi']);exact this
 have hzk:z∉zC k:=λe=>hz (by
  rw[<-hd.ids,jS];rcases Qs.1 e with e|e
  ·simp[e]
  ·simp[e])
 have hiv:∀j,jh T' j=jh T2 j:=λj=>by unfold jh;rw[(hbe j).1,(hbe j).2]
 obtain⟨g1,g2⟩:=hd.tell hg hv hzk (λj _=>hiv j) (by rw[hiv];unfold jh;rw[hT2z.1,hT2z.2]) hi;have hmod:zo F w w':=ht.tw.mod.mono λj hj e=>e.resolve_right (Nat.not_le.2 hj);have hzlt:z<w'.heap.size:=(Array.getElem?_eq_some_iff.1 (ht.tw.nodes z (Or.inr rfl))).1;have hle:(im S w).le (im (λj=>S j\/(F j\/j=z)) w'):=hmod.mono (S':=S) (λj _ e=>hFS j e)|>.im λj hj e=>by
  rcases e with e|e|e
  ·exact e
  ·exact hFS j e
  ·omega
 have hnil: ¬(it∈t'.ids):=λe=>by
  rcases hmem it e with e|e
  ·exact ht.nd (Or.inl e)
  ·exact ht.nd (Or.inr e)
 refine⟨λj=>F j\/j=z,hmod,λj hj=> ?_,λj hj=>Or.inl hj,⟨⟨T',root',t',n',λi hi'=>ht.tw.nodes i (hmem i hi'),ht.blk,λi _=> ?_,?_,λ_=>hc,g1,g2.trans (hp.cons _),λi hi'=> ?_,hnil⟩,ht.tw.cs,Or.inl hsF,Or.inl hiF,hsi⟩⟩
 ·rcases hj with hj|hj
  ·exact Or.inl hj
  ·exact Or.inr ⟨by omega,by omega⟩
 ·have:=ht.tw.ev i;exact⟨this.1.mono hle,this.2.1.mono hle,this.2.2.mono hle⟩
 ·exact hgt.congr (λ_ _=>rfl) λi hi'=>by simpa[zC]using hi'
 ·rcases hmem i hi' with e|e
  ·exact Or.inl (hF i e)
  ·exact Or.inr e
variable{T:NM}{W:World}
theorem KU{w:World}{s root root6:Nat}{n:Int}{T6:NM}{t:Tr}{k:List Fr}{b e:EV}(hFS:∀j,F j->S j)(hF:∀i∈t.ids,F i)(hsF:F s)(hiF:F it)(hsi:s≠it)
  (hd:ZO T s root (λi=>i∈t.ids) (b.1,e.1) t.ids q s k .nil)(hg:vw (zK T t.ids))(hp:(zK T t.ids).Perm L)(hv:Q9 (b.1,e.1))(hz:z∉t.ids)(hzw:w.heap.size<=z)(hTz:(T z).b=b/\(T z).e=e)
  (ht:TI (λj=>F j\/w.heap.size<=j) ⟨w,im S w⟩ W (yl (λi=>i∈t.ids) z) T6 s it root6 n)(hf:FX T6 s root6 z (yl (λi=>i∈t.ids) z) k .nil .nil)(hbe:qS T T6):
  Calls prog 243 #[ptr it,ptr z] W λr w'=>r=.returned (.tuple #[])/\w'.cell? ⟨it,1,none⟩=some (.int .i64 n)/\w'.frozen? ⟨it,1,none⟩=false/\∀m,Zh S F w (w'.setCell ⟨it,1,none⟩ (.int .i64 m)) s it L (b.1,e.1):=by
 refine(Jp ht hf).mono ?_;rintro r w' ⟨h1,T',root',t',h2,h3,h4,h5,h6⟩;refine⟨h1,h2.cells.2.1,h2.cells.2.2.2.2,λm=> ?_⟩;exact WF hFS hF hsF hiF hsi hd hg hp hv hz hzw hTz (h2.setCount m) h3 (hbe.trans h4) h5 h6
variable{D:Nat->Prop}{f:Fr}{w0:qX}
theorem GB{w:World}{s root root0:Nat}{n:Int}{T5:NM}{v:Iv}{ids:List Nat}{k:List Fr}(hd:ZO T s root D v ids q s (f::k) .nil)(hrb:(T root).c=false)(hzk:z∉zC (f::k))
  (h5:TI S w0 w (yl D z) T5 s it root0 n)(hg:TG T5 s root q z (yl D z) (f::k) (.node z .nil .nil))(hTz:(T z).b=(T5 z).b/\(T z).e=(T5 z).e)(hb:∀j,j≠z->Z2 (T j) (T5 j)):
  w.cell? ⟨z,7,none⟩=some (J_ (T5 z).c)/\w.frozen? ⟨z,7,none⟩=false/\∃T6,TI S w0 (w.setCell ⟨z,7,none⟩ (.int .i64 1)) (yl D z) T6 s it root0 n/\FX T6 s root z (yl D z) (f::k) .nil .nil/\qS T T6:=by
 have hO:=(xA.refl T5).set z true;have hne:∀j,j≠z->(T5.set z ((T5 z).sc true)) j=T5 j:=λj hj=>NM.set_ne _ _ hj;refine⟨(h5.tw.cells (Or.inr rfl)).2.2.2.2.2.2,h5.tw.frozen (Or.inr rfl) 7,_,h5.setC (Or.inr rfl) true,hd.fx hrb hzk (hg.onlyC hO) λj hj=>by rw[hne j hj];exact hb j hj,λj=> ?_⟩;by_cases e:j=z
 ·subst e;rw[NM.set_same];exact⟨hTz.1.symm,hTz.2.symm⟩
 ·rw[hne j e];exact⟨(hb j e).1,(hb j e).2.1⟩
theorem uk{w:World}{s:Nat}{b e:EV}(hS:∀j,S j->j<w.heap.size)(hFS:∀j,F j->S j)(h:q_ (im S w) w F s it L)(hb:kL (im S w) b)(he:kL (im S w) e)(hv:Q9 (b.1,e.1)):
  Calls prog 234 #[ptr it,.agg #[b.2,e.2],XA] w λr w'=>r=.returned (.tuple #[])/\Zh S F w w' s it L (b.1,e.1):=by
 have hsi:=h.ne;have hsF:=h.fs;have hiF:=h.fi;obtain⟨bp,bn,bc,hbe,_⟩:=hb.iface;obtain⟨ep,en,ec,hee,_⟩:=he.iface;obtain⟨w1,hw1⟩:=zex (w.alloc (.cells #[b.2,e.2] 230));have hn1:za w w1:=by rw[hw1];exact(za.refl w).alloc _
 have hs1:w1.heap.size=w.heap.size+1:=by rw[hw1];simp
 have c0:w1.cell? ⟨w.heap.size,0,none⟩=some b.2:=by rw[hw1,World.cell?_alloc_new];rfl
 have c1:w1.cell? ⟨w.heap.size,1,none⟩=some e.2:=by rw[hw1,World.cell?_alloc_new];rfl
 obtain⟨hi2⟩:∃_:w1.cell? ⟨it,2,none⟩=some (ptr s),True:=by obtain⟨⟨T,root,t,n,_,h2,_⟩,_⟩:=h;refine⟨hn1.le _ _ ?_,trivial⟩;rw[cell_of_row w it 2 _ _ (0,0) h2];rfl
 have hnew:=gC (w:=w1) (b:=b) (e:=e) hbe hee hi2;have hent:∀w2,za w1 w2->w2.heap[w1.heap.size+1]? =some (.cells (j8 (yw b e s s)) 279 (0,0))->_:=λw2 h2 h3=>h.enter hS hFS hb he (hn1.trans h2) h3 (by omega);have hzw:w.heap.size<=w1.heap.size+1:=by omega
 have HENT:=hid hent;clear hent;have HS:=hid hS;clear hS;have HFS:=hid hFS;clear hFS;have hbb:=hb;have hbe2:=hbe;have hee2:=hee;rw[hbe]at hw1 hnew c0;rw[hee]at hw1 hnew c1;rw[hbe,hee];have HW1:=hid hw1;clear hw1;have HNEW:=hid hnew;clear hnew;have HBE:=hid hbe;clear hbe hbe2;have HEE:=hid hee;clear hee hee2;have HB:=hid hb;clear hb hbb;have HE:=hid he;clear he;have HV:=hid hv;clear hv;have HZW:=hid hzw;clear hzw;have hlt:=World.block_lt_of_cell? w1 _ hi2;have hne:it≠w.heap.size:=λe=>by have:=HFS.out it hiF;have:=HS.out it this;omega
 have HN1:=hid hn1;clear hn1;have HS1:=hid hs1;clear hs1;have HI2:=hid hi2;clear hi2;have HC:=hid (And.intro c0 c1);clear c0 c1;have hm1:=yF (.slice bp bn bc);have hm2:=yF (.slice ep en ec);clear h hlt;go_enter func234,ntmps234;go_upto_region 1 with fail
 rw[<-HW1.out];have hi2:=HI2.out;obtain⟨c0,c1⟩:=HC.out;clear HI2 HC HN1 HW1;go_wp2_with fail;refine HNEW.out.mono ?_;rintro r w2 ⟨rfl,g1,g2,g3⟩;obtain⟨T,root,t,n,ti,dn,hrb,hg,hp,tz,hz,hzs,hiz,htF,_⟩:=HENT.out w2 g1 g2;have hzw:=HZW.out;generalize w1.heap.size+1=z at*
 have HTI:=hid ti;clear ti;have HDN:=hid dn;clear dn;have HRB:=hid hrb;clear hrb;have HG:=hid hg;clear hg;have HP:=hid hp;clear hp;have HTZ:=hid tz;clear tz;have HZ:=hid hz;clear hz;have HZS:=hid hzs;clear hzs;have HTF:=hid htF;clear htF;clear g1 g2 g3 HENT HNEW HZW HS1 hi2 c0 c1;obtain⟨i0,_,i2,if0,if1⟩:=HTI.out.cells;go_wp2;go_loopg [6,8] (t.ids.length+1) (λgg yv xv wr=>∃q x k t1,yv=ptr q/\xv=ptr x/\TI (λj=>F j\/w.heap.size<=j) ⟨w,im S w⟩ wr (yl (λi=>i∈t.ids) z) T s it root n/\ZO T s root (λi=>i∈t.ids) (b.1,e.1) t.ids q x k t1/\t1.ids.length<gg)
 case atStart=>exact⟨s,root,[],t,rfl,rfl,HTI.out,HDN.out,by omega⟩
 case round=>
  clear HTI HDN i0 i2 if0 if1;obtain⟨q,x,k,t1,rfl,rfl,hti,hd,hlen⟩:=hrel;obtain⟨i0,_,i2,if0,if1⟩:=hti.cells;obtain⟨z0,z1,_,_,_,z6,z7⟩:=hti.tw.cells (i:=z) (Or.inr rfl);rw[HTZ.out]at z0 z1 z6 z7
  replace z0:wr.cell? ⟨z,0,none⟩=some b.2:=z0
  replace z1:wr.cell? ⟨z,1,none⟩=some e.2:=z1
  replace z6:wr.cell? ⟨z,6,none⟩=some (ptr s):=z6
  rw[HBE.out]at z0;rw[HEE.out]at z1;by_cases hx:x=s
  ·skip
   rw[hx]at hd⊢;have hpx:=xR hti.tw.cs hti.tw.cs;rw[decide_eq_true rfl]at hpx;have ht1:t1=.nil:=by
    cases t1 with
    |nil=>rfl
    |node i l r=>exact absurd hd.tg.is.1.symm hd.tg.is.2.1
   subst ht1;have hzk:z∉zC k:=λe=>HZ.out (by
    rw[<-hd.ids,jS];rcases Qs.1 e with e|e
    ·simp[e]
    ·simp[e])
   have hsz:=Ne.symm HZS.out;have hzi:=Ne.symm hiz;clear hx hlen;cases k with
   |nil=>
    have hqs:q=s:=hd.tg.cx.2;subst hqs;have hT3:=((hti.setP (i:=z) (Or.inr rfl) q).setRoot z).setC (i:=z) (Or.inr rfl) true;have hTe:(T.set z ((T z).sp q)).set z (((T.set z ((T z).sp q)) z).sc true)=T.set z (yw b e q q):=by rw[NM.set_same,NM.set_set,HTZ.out];rfl
    rw[hTe]at hT3;have hpe:=ZN (hti.setP (i:=z) (Or.inr rfl) q).tw.cs (hti.setP (i:=z) (Or.inr rfl) q).tw.cs;rw[decide_eq_true rfl]at hpe;have z6f:=hti.tw.frozen (i:=z) (Or.inr rfl) 6;have z7f:=hti.tw.frozen (i:=z) (Or.inr rfl) 7;have hfx:FX (T.set z (yw b e q q)) q z z (yl (λi=>i∈t.ids) z) [] .nil .nil:=⟨⟨_,(hd.tg.hangNil HZS.out b e).2⟩,λh=>absurd rfl h⟩;have hkb:qS T (T.set z (yw b e q q)):=λj=>by
     by_cases e1:j=z
     ·subst e1;rw[NM.set_same,HTZ.out];exact⟨rfl,rfl⟩
     ·rw[NM.set_ne _ _ e1];exact⟨rfl,rfl⟩
    have HFIX:=hid (KU HFS.out HTF.out hsF hiF hsi hd HG.out HP.out HV.out HZ.out hzw (by rw[HTZ.out];exact⟨rfl,rfl⟩) hT3 hfx hkb);clear hT3 hTe hfx hkb hti hd hzk;go_wp2_with fail;refine HFIX.out.mono ?_;rintro r w7 ⟨rfl,l1,lf,hin⟩;have HIN:=hid hin;clear hin HFIX z0 z1 z6 z7 z6f z7f i0 i2 if0 if1 hpx hpe;go_wp2;go_returns;exact⟨rfl,HIN.out _⟩
   |cons f k=>
    have htn:t≠.nil:=λe=>by
     have h1:=hd.ids;rw[e]at h1;have:f.i∈(vO (f::k) .nil).ids:=by
      rw[jS];have:f.i∈zC (f::k):=by simp[zC]
      rcases Qs.1 this with e|e
      ·simp[e]
      ·simp[e]
     rw[h1]at this;simp[Tr.ids]at this
    cases f with
    |L i u=>
     obtain⟨hqi,hqs,dq,hqz,q',ml,mr,hU⟩:=hd.tg.hangL HZS.out hzk b e;subst hqi;have htop:=hd.top
     replace htop:goL (b.1,e.1) (jh T q):=htop
     obtain⟨hu,hst⟩:=hU _ rfl;have hzq:=Ne.symm hqz;have hT3:=hti.setP (i:=z) (Or.inr rfl) q;have hTz3:T.set z ((T z).sp q)=T.set z (yw b e s q):=by rw[HTZ.out];rfl
     rw[hTz3]at hT3;have z6f:=hti.tw.frozen (i:=z) (Or.inr rfl) 6;have hup:∀W,TI (λj=>F j\/w.heap.size<=j) ⟨w,im S w⟩ W (yl (λi=>i∈t.ids) z) ((T.set z (yw b e s q)).set q ((T q).sl z)) s it root n->Calls prog 229 #[ptr q,ptr s] W λr w'=>r=.returned (.tuple #[])/\w'.cell? ⟨it,1,none⟩=some (.int .i64 n)/\w'.cell? ⟨z,7,none⟩=some (J_ true)/\w'.frozen? ⟨z,7,none⟩=false/\
       Calls prog 243 #[ptr it,ptr z] (w'.setCell ⟨z,7,none⟩ (.int .i64 1)) λr w'=>r=.returned (.tuple #[])/\w'.cell? ⟨it,1,none⟩=some (.int .i64 n)/\w'.frozen? ⟨it,1,none⟩=false/\∀m,Zh S F w (w'.setCell ⟨it,1,none⟩ (.int .i64 m)) s it L (b.1,e.1):=λW hW=>by
      refine(xS hW hu).mono ?_;rintro r w' ⟨h1,T5,h2,h3⟩;obtain⟨g1,g2,g3,g4,g5⟩:=hst T5 h3;obtain⟨r1,r2,T6,r3,r4,r5⟩:=GB hd (HRB.out htn) hzk h2 g1 (by rw[HTZ.out,g3,g4];exact⟨rfl,rfl⟩) g5;rw[g2]at r1;exact⟨h1,h2.cells.2.1,r1,r2,KU HFS.out HTF.out hsF hiF hsi hd HG.out HP.out HV.out HZ.out hzw (by rw[HTZ.out];exact⟨rfl,rfl⟩) r3 r4 r5⟩
     have HUP:=hid hup;clear hup;have HTI:=hid hti;clear hti;have HT3:=hid hT3;clear hT3;have DQ:=hid dq;have HTOP:=hid htop;clear htop;have hsetq:∀W m,TI (λj=>F j\/w.heap.size<=j) ⟨w,im S w⟩ W (yl (λi=>i∈t.ids) z) (T.set z (yw b e s q)) s it root n->TI (λj=>F j\/w.heap.size<=j) ⟨w,im S w⟩ ((W.drewN m).setCell ⟨q,4,none⟩ (ptr z)) (yl (λi=>i∈t.ids) z) ((T.set z (yw b e s q)).set q ((T q).sl z)) s it root n:=λW m h=>by have:=(h.drewN m).setL (i:=q) (Or.inl DQ.out) z;rw[NM.set_ne _ _ hqz]at this;exact this
     have HSETQ:=hid hsetq;clear hsetq;clear hTz3 hu hst hU hd hzk z7 htn;go_upto_region 15 with fail
     have ht3:=HT3.out;generalize wr.setCell {block:=z,off:=6} (ptr q)=w3 at ht3⊢;clear z0 z1 z6 z6f i0 i2 if0 if1 hpx HT3 HTI;obtain⟨i0,_,i2,if0,if1⟩:=ht3.cells;obtain⟨z0,z1,_,_,_,_,z7⟩:=ht3.tw.cells (i:=z) (Or.inr rfl);rw[NM.set_same]at z0 z1 z7
     replace z0:w3.cell? ⟨z,0,none⟩=some b.2:=z0
     replace z1:w3.cell? ⟨z,1,none⟩=some e.2:=z1
     rw[HBE.out]at z0;rw[HEE.out]at z1;obtain⟨q0,q1,_,q4,q5,_,_⟩:=ht3.tw.cells (i:=q) (Or.inl DQ.out);rw[NM.set_ne _ _ hqz]at q0 q1 q4 q5;have qf:=ht3.tw.frozen (i:=q) (Or.inl DQ.out) 4;have hpe:=ZN (ht3.tw.cel (i:=q) (Or.inl DQ.out)) ht3.tw.cs;rw[decide_eq_false hqs]at hpe;have hqb:=(ht3.tw.ev q).1;have hqe:=(ht3.tw.ev q).2.1;rw[NM.set_ne _ _ hqz]at hqb hqe;have HCB:=hid (λm=>jT (ht3.drewN m).tw.le HB.out hqb HBE.out);have hqi:q≠it:=λh=>ht3.nd (by rw[<-h];exact Or.inl DQ.out);have hiq:=Ne.symm hqi;clear hqb;have HT3:=hid ht3;clear ht3;have HQE:=hid hqe;clear hqe;by_cases k1:zy b.1 (T q).b.1<0
     ·skip
      clear HQE;go_wp2;go_quiet ((go_at_call 187;exact zw (HCB.out _)));have hq5:=HSETQ.out _ nq HT3.out;have HQ5:=hid (HUP.out _ hq5);clear hq5 HT3 HSETQ HUP;go_wp2_with fail;refine HQ5.out.mono ?_;rintro r w5 ⟨rfl,j1,j7,j7f,hfix⟩;have HFIX:=hid hfix;clear hfix HQ5;clear z0 z1 z7 i0 i2 if0 if1 q0 q1 q4 q5 qf hpe;go_wp2_with fail;refine HFIX.out.mono ?_;rintro r w7 ⟨rfl,l1,lf,hin⟩;have HIN:=hid hin;clear hin HFIX j1 j7 j7f;go_wp2;go_returns;exact⟨rfl,HIN.out _⟩
     ·have hk:zy b.1 (T q).b.1=0/\zy e.1 (T q).e.1<0:=HTOP.out.resolve_left k1;obtain⟨k2,k3⟩:=hk;have k2':(zy b.1 (T q).b.1==0)=true:=by simpa using k2
      clear k2 HTOP;go_wp2;go_quiet ((go_at_call 187;exact zw (HCB.out _)));have ht3:=HT3.out.drewN nq;generalize w3.drewN nq=w4 at ht3⊢;clear z0 z1 z7 i0 i2 if0 if1 q0 q1 q4 q5 qf hpe HCB HT3;obtain⟨i0,_,i2,if0,if1⟩:=ht3.cells;obtain⟨z0,z1,_,_,_,_,z7⟩:=ht3.tw.cells (i:=z) (Or.inr rfl);rw[NM.set_same]at z0 z1 z7
      replace z0:w4.cell? ⟨z,0,none⟩=some b.2:=z0
      replace z1:w4.cell? ⟨z,1,none⟩=some e.2:=z1
      rw[HBE.out]at z0;rw[HEE.out]at z1;obtain⟨q0,q1,_,q4,q5,_,_⟩:=ht3.tw.cells (i:=q) (Or.inl DQ.out);rw[NM.set_ne _ _ hqz]at q0 q1 q4 q5;have qf:=ht3.tw.frozen (i:=q) (Or.inl DQ.out) 4;have HCE:=hid (λm=>jT (ht3.drewN m).tw.le HE.out HQE.out HEE.out);have HT3:=hid ht3;clear ht3;go_wp2;go_quiet ((go_at_call 187;exact zw (HCE.out _)));have hq5:=HSETQ.out _ nq HT3.out;have HQ5:=hid (HUP.out _ hq5);clear hq5 HT3 HSETQ HUP HQE;go_wp2_with fail;refine HQ5.out.mono ?_;rintro r w5 ⟨rfl,j1,j7,j7f,hfix⟩;have HFIX:=hid hfix;clear hfix HQ5;clear z0 z1 z7 i0 i2 if0 if1 q0 q1 q4 q5 qf;go_wp2_with fail;refine HFIX.out.mono ?_;rintro r w7 ⟨rfl,l1,lf,hin⟩;have HIN:=hid hin;clear hin HFIX j1 j7 j7f;go_wp2;go_returns;exact⟨rfl,HIN.out _⟩
    |R i u=>
     obtain⟨hqi,hqs,dq,hqz,q',ml,mr,hU⟩:=hd.tg.hangR HZS.out hzk b e;subst hqi;have htop:=hd.top
     replace htop: ¬goL (b.1,e.1) (jh T q):=htop
     obtain⟨hu,hst⟩:=hU _ rfl;have hzq:=Ne.symm hqz;have hT3:=hti.setP (i:=z) (Or.inr rfl) q;have hTz3:T.set z ((T z).sp q)=T.set z (yw b e s q):=by rw[HTZ.out];rfl
     rw[hTz3]at hT3;have z6f:=hti.tw.frozen (i:=z) (Or.inr rfl) 6;have hup:∀W,TI (λj=>F j\/w.heap.size<=j) ⟨w,im S w⟩ W (yl (λi=>i∈t.ids) z) ((T.set z (yw b e s q)).set q ((T q).sr z)) s it root n->Calls prog 229 #[ptr q,ptr s] W λr w'=>r=.returned (.tuple #[])/\w'.cell? ⟨it,1,none⟩=some (.int .i64 n)/\w'.cell? ⟨z,7,none⟩=some (J_ true)/\w'.frozen? ⟨z,7,none⟩=false/\
       Calls prog 243 #[ptr it,ptr z] (w'.setCell ⟨z,7,none⟩ (.int .i64 1)) λr w'=>r=.returned (.tuple #[])/\w'.cell? ⟨it,1,none⟩=some (.int .i64 n)/\w'.frozen? ⟨it,1,none⟩=false/\∀m,Zh S F w (w'.setCell ⟨it,1,none⟩ (.int .i64 m)) s it L (b.1,e.1):=λW hW=>by
      refine(xS hW hu).mono ?_;rintro r w' ⟨h1,T5,h2,h3⟩;obtain⟨g1,g2,g3,g4,g5⟩:=hst T5 h3;obtain⟨r1,r2,T6,r3,r4,r5⟩:=GB hd (HRB.out htn) hzk h2 g1 (by rw[HTZ.out,g3,g4];exact⟨rfl,rfl⟩) g5;rw[g2]at r1;exact⟨h1,h2.cells.2.1,r1,r2,KU HFS.out HTF.out hsF hiF hsi hd HG.out HP.out HV.out HZ.out hzw (by rw[HTZ.out];exact⟨rfl,rfl⟩) r3 r4 r5⟩
     have HUP:=hid hup;clear hup;have HTI:=hid hti;clear hti;have HT3:=hid hT3;clear hT3;have DQ:=hid dq;have HTOP:=hid htop;clear htop;have hsetq:∀W m,TI (λj=>F j\/w.heap.size<=j) ⟨w,im S w⟩ W (yl (λi=>i∈t.ids) z) (T.set z (yw b e s q)) s it root n->TI (λj=>F j\/w.heap.size<=j) ⟨w,im S w⟩ ((W.drewN m).setCell ⟨q,5,none⟩ (ptr z)) (yl (λi=>i∈t.ids) z) ((T.set z (yw b e s q)).set q ((T q).sr z)) s it root n:=λW m h=>by have:=(h.drewN m).setR (i:=q) (Or.inl DQ.out) z;rw[NM.set_ne _ _ hqz]at this;exact this
     have HSETQ:=hid hsetq;clear hsetq;clear hTz3 hu hst hU hd hzk z7 htn;go_upto_region 15 with fail
     have ht3:=HT3.out;generalize wr.setCell {block:=z,off:=6} (ptr q)=w3 at ht3⊢;clear z0 z1 z6 z6f i0 i2 if0 if1 hpx HT3 HTI;obtain⟨i0,_,i2,if0,if1⟩:=ht3.cells;obtain⟨z0,z1,_,_,_,_,z7⟩:=ht3.tw.cells (i:=z) (Or.inr rfl);rw[NM.set_same]at z0 z1 z7
     replace z0:w3.cell? ⟨z,0,none⟩=some b.2:=z0
     replace z1:w3.cell? ⟨z,1,none⟩=some e.2:=z1
     rw[HBE.out]at z0;rw[HEE.out]at z1;obtain⟨q0,q1,_,q4,q5,_,_⟩:=ht3.tw.cells (i:=q) (Or.inl DQ.out);rw[NM.set_ne _ _ hqz]at q0 q1 q4 q5;have qf:=ht3.tw.frozen (i:=q) (Or.inl DQ.out) 5;have hpe:=ZN (ht3.tw.cel (i:=q) (Or.inl DQ.out)) ht3.tw.cs;rw[decide_eq_false hqs]at hpe;have hqb:=(ht3.tw.ev q).1;have hqe:=(ht3.tw.ev q).2.1;rw[NM.set_ne _ _ hqz]at hqb hqe;have HCB:=hid (λm=>jT (ht3.drewN m).tw.le HB.out hqb HBE.out);have hqi:q≠it:=λh=>ht3.nd (by rw[<-h];exact Or.inl DQ.out);have hiq:=Ne.symm hqi;clear hqb;have HT3:=hid ht3;clear ht3;have HQE:=hid hqe;clear hqe;have k1: ¬zy b.1 (T q).b.1<0:=λh=>HTOP.out (Or.inl h);by_cases k2:zy b.1 (T q).b.1=0
     ·have k3: ¬zy e.1 (T q).e.1<0:=λh=>HTOP.out (Or.inr ⟨k2,h⟩);have k2':(zy b.1 (T q).b.1==0)=true:=by simpa using k2
      clear k2 HTOP;go_wp2;go_quiet ((go_at_call 187;exact zw (HCB.out _)));have ht3:=HT3.out.drewN nq;generalize w3.drewN nq=w4 at ht3⊢;clear z0 z1 z7 i0 i2 if0 if1 q0 q1 q4 q5 qf hpe HCB HT3;obtain⟨i0,_,i2,if0,if1⟩:=ht3.cells;obtain⟨z0,z1,_,_,_,_,z7⟩:=ht3.tw.cells (i:=z) (Or.inr rfl);rw[NM.set_same]at z0 z1 z7
      replace z0:w4.cell? ⟨z,0,none⟩=some b.2:=z0
      replace z1:w4.cell? ⟨z,1,none⟩=some e.2:=z1
      rw[HBE.out]at z0;rw[HEE.out]at z1;obtain⟨q0,q1,_,q4,q5,_,_⟩:=ht3.tw.cells (i:=q) (Or.inl DQ.out);rw[NM.set_ne _ _ hqz]at q0 q1 q4 q5;have qf:=ht3.tw.frozen (i:=q) (Or.inl DQ.out) 5;have HCE:=hid (λm=>jT (ht3.drewN m).tw.le HE.out HQE.out HEE.out);have HT3:=hid ht3;clear ht3;go_wp2;go_quiet ((go_at_call 187;exact zw (HCE.out _)));have hq5:=HSETQ.out _ nq HT3.out;have HQ5:=hid (HUP.out _ hq5);clear hq5 HT3 HSETQ HUP HQE;go_wp2_with fail;refine HQ5.out.mono ?_;rintro r w5 ⟨rfl,j1,j7,j7f,hfix⟩;have HFIX:=hid hfix;clear hfix HQ5;clear z0 z1 z7 i0 i2 if0 if1 q0 q1 q4 q5 qf;go_wp2_with fail;refine HFIX.out.mono ?_;rintro r w7 ⟨rfl,l1,lf,hin⟩;have HIN:=hid hin;clear hin HFIX j1 j7 j7f;go_wp2;go_returns;exact⟨rfl,HIN.out _⟩
     ·have k2':(zy b.1 (T q).b.1==0)=false:=by simpa using k2
      clear k2 HTOP;clear HQE;go_wp2;go_quiet ((go_at_call 187;exact zw (HCB.out _)));have hq5:=HSETQ.out _ nq HT3.out;have HQ5:=hid (HUP.out _ hq5);clear hq5 HT3 HSETQ HUP;go_wp2_with fail;refine HQ5.out.mono ?_;rintro r w5 ⟨rfl,j1,j7,j7f,hfix⟩;have HFIX:=hid hfix;clear hfix HQ5;clear z0 z1 z7 i0 i2 if0 if1 q0 q1 q4 q5 qf hpe;go_wp2_with fail;refine HFIX.out.mono ?_;rintro r w7 ⟨rfl,l1,lf,hin⟩;have HIN:=hid hin;clear hin HFIX j1 j7 j7f;go_wp2;go_returns;exact⟨rfl,HIN.out _⟩
  ·obtain⟨l,r,rfl,dx⟩:=hd.node hx;have hpx:=xR (hti.tw.cel (i:=x) (Or.inl dx)) hti.tw.cs;rw[decide_eq_false hx]at hpx;obtain⟨x0,x1,_,x4,x5,_,_⟩:=hti.tw.cells (i:=x) (Or.inl dx);have hcb:=λm=>jT (hti.drewN m).tw.le HB.out (hti.tw.ev x).1 HBE.out;have hlL:l.ids.length<(Tr.node x l r).ids.length/\r.ids.length<(Tr.node x l r).ids.length:=by simp[Tr.ids];omega
   have HCB:=hid hcb;clear hcb;have DX:=hid dx;have HTI:=hid hti;clear hti;have HLEN:=hid hlen;clear hlen;have HLL:=hid hlL;clear hlL;have hLf:goL (b.1,e.1) (jh T x)->_:=λh=>hd.left HG.out h;have hRt: ¬goL (b.1,e.1) (jh T x)->_:=λh=>hd.right HG.out h;have HLF:=hid hLf;clear hLf;have HRT:=hid hRt;clear hRt;clear hd hx dx;by_cases k1:zy b.1 (T x).b.1<0
   ·have hdn:=hid (HLF.out (Or.inl k1));clear HLF HRT;go_wp2;go_quiet ((go_at_call 187;exact zw (HCB.out _)));go_wp2;go_roundg (gk-1)
    case rel=>exact⟨x,_,_,_,rfl,rfl,HTI.out.drewN _,hdn.out,by have:=HLL.out;have:=HLEN.out;omega⟩
    case measure=>have:=HLEN.out;omega
   ·by_cases k2:zy b.1 (T x).b.1=0
    ·have k2':(zy b.1 (T x).b.1==0)=true:=by simpa using k2
     clear k2;by_cases k3:zy e.1 (T x).e.1<0
     ·have hdn:=hid (HLF.out (Or.inr ⟨eq_of_beq k2',k3⟩));clear HLF HRT;go_wp2;go_quiet ((go_at_call 187;exact zw (HCB.out _)));have hti:=HTI.out.drewN nq;generalize wr.drewN nq=w2 at hti⊢;clear z0 z1 z6 z7 x0 x1 x4 x5 i0 i2 if0 if1 hpx HCB HTI;obtain⟨z0,z1,_,_,_,_,_⟩:=hti.tw.cells (i:=z) (Or.inr rfl);rw[HTZ.out]at z0 z1
      replace z0:w2.cell? ⟨z,0,none⟩=some b.2:=z0
      replace z1:w2.cell? ⟨z,1,none⟩=some e.2:=z1
      rw[HBE.out]at z0;rw[HEE.out]at z1;obtain⟨x0,x1,_,x4,x5,_,_⟩:=hti.tw.cells (i:=x) (Or.inl DX.out);have HCE:=hid (λm=>jT (hti.drewN m).tw.le HE.out (hti.tw.ev x).2.1 HEE.out);have HTI:=hid hti;clear hti;go_wp2;go_quiet ((go_at_call 187;exact zw (HCE.out _)));go_wp2;go_roundg (gk-1)
      case rel=>exact⟨x,_,_,_,rfl,rfl,HTI.out.drewN _,hdn.out,by have:=HLL.out;have:=HLEN.out;omega⟩
      case measure=>have:=HLEN.out;omega
     ·have hdn:=hid (HRT.out (λh=>by
       rcases h with h|⟨_,h⟩
       ·exact k1 h
       ·exact k3 h))
      clear HLF HRT;go_wp2;go_quiet ((go_at_call 187;exact zw (HCB.out _)));have hti:=HTI.out.drewN nq;generalize wr.drewN nq=w2 at hti⊢;clear z0 z1 z6 z7 x0 x1 x4 x5 i0 i2 if0 if1 hpx HCB HTI;obtain⟨z0,z1,_,_,_,_,_⟩:=hti.tw.cells (i:=z) (Or.inr rfl);rw[HTZ.out]at z0 z1
      replace z0:w2.cell? ⟨z,0,none⟩=some b.2:=z0
      replace z1:w2.cell? ⟨z,1,none⟩=some e.2:=z1
      rw[HBE.out]at z0;rw[HEE.out]at z1;obtain⟨x0,x1,_,x4,x5,_,_⟩:=hti.tw.cells (i:=x) (Or.inl DX.out);have HCE:=hid (λm=>jT (hti.drewN m).tw.le HE.out (hti.tw.ev x).2.1 HEE.out);have HTI:=hid hti;clear hti;go_wp2;go_quiet ((go_at_call 187;exact zw (HCE.out _)));go_wp2;go_roundg (gk-1)
      case rel=>exact⟨x,_,_,_,rfl,rfl,HTI.out.drewN _,hdn.out,by have:=HLL.out;have:=HLEN.out;omega⟩
      case measure=>have:=HLEN.out;omega
    ·have hdn:=hid (HRT.out (λh=>by
      rcases h with h|⟨h,_⟩
      ·exact k1 h
      ·exact k2 h))
     have k2':(zy b.1 (T x).b.1==0)=false:=by simpa using k2
     clear k2;go_wp2;go_quiet ((go_at_call 187;exact zw (HCB.out _)));go_wp2;go_roundg (gk-1)
     case rel=>exact⟨x,_,_,_,rfl,rfl,HTI.out.drewN _,hdn.out,by have:=HLL.out;have:=HLEN.out;omega⟩
     case measure=>have:=HLEN.out;omega
end Go.Proofs.YtbmdoinjkligiaaGreat
