/- Contracts and laws that the last text joins. -/
import Derived.Test.YtbmdoinjkligiaaGreatM03
set_option maxRecDepth 100000
set_option maxHeartbeats 40000000
set_option linter.all false
namespace Go.Proofs.YtbmdoinjkligiaaGreat
open Tryz
open Lib(hid)
open Go.RowKit
variable{rc v:Value}
theorem fX{D:World->Prop}{T:TypeId}{g:FuncId}{n:Int}{w:World}(h:GM D T v g rc n)(hw:D w)(h0:0<=n)(hn:n<=1000):
  Calls prog 106 #[.iface T v,.int .i64 n] w λe w'=>e=.returned (.tuple #[])/\za w w':=by
 have H:=hid h;have HW:=hid hw;clear h hw;go_enter func106,ntmps106;go_wp2;go_loopw [5,6] (λi j wr=>∃a:Int,0<=a/\a<=1000/\i=.int .i64 a/\j=.int .i64 (a+20)/\za w wr) (λi _ _=>(n-intOf i).toNat)
 case atStart=>exact⟨0,by omega,by omega,rfl,rfl,za.refl w⟩
 case round=>
  obtain⟨a,L9,CV,rfl,rfl,hD⟩:=hrel;have HD:=hid hD;clear hD;by_cases Hb:a+20<=n
  ·go_wp2_with (go_at_call 109;refine(xY H.out (H.out.new _ _ HW.out HD.out) (by omega) (by omega) (by omega) hn).mono ?_;rintro e w1 ⟨rfl,PS⟩;have S6:=hid PS;clear PS);go_roundw
   case rel=>exact⟨a+20,by omega,by omega,rfl,by go_num,HD.out.trans S6.out⟩
   case measure=>simp[intOf];omega
  ·go_wp2_with (go_at_call 109;refine(xY H.out (H.out.new _ _ HW.out HD.out) (by omega) (by omega) (by omega) hn).mono ?_;rintro e w1 ⟨rfl,PS⟩;have S6:=hid PS;clear PS);have Nl:=hid (HD.out.trans S6.out);clear HD S6 L9 CV Hb;go_loopw [4,5,6,7] (λbs _ _ _ wr=>∃s:Int,20<=s/\s<=4000/\bs=.int .i64 s/\za w wr) (λbs _ _ _ _=>(n-intOf bs).toNat)
   case atStart=>exact⟨20,by omega,by omega,rfl,Nl.out⟩
   case round=>
    obtain⟨s,pI,rj,rfl,hD⟩:=hrel;have HD:=hid hD;clear hD;by_cases Hb:s<n
    ·go_wp2;go_loopw [5,6] (λi j wr=>∃a:Int,0<=a/\a<=1000/\i=.int .i64 a/\j=.int .i64 (a+2*s)/\za w wr) (λi _ _=>(n-intOf i).toNat)
     case atStart=>exact⟨0,by omega,by omega,rfl,by go_num,HD.out⟩
     case round=>
      obtain⟨a,L9,CV,rfl,rfl,BS⟩:=hrel;have HE:=hid BS;clear BS;by_cases mj:a+2*s<=n
      ·go_wp2_with (go_at_call 118;refine(ZD H.out hn _ _ _ _ _ (H.out.new _ _ HW.out HE.out) (Nat.le_refl _) (by omega) (by omega) (by omega) (by omega)).mono ?_;rintro e w1 ⟨rfl,PS⟩;have S6:=hid PS;clear PS);go_roundw
       case rel=>exact⟨a+2*s,by omega,by omega,rfl,by go_num,HE.out.trans S6.out⟩
       case measure=>simp[intOf];omega
      ·by_cases hlt3:a+s<n
       ·go_wp2_with (go_at_call 118;refine(ZD H.out hn _ _ _ _ _ (H.out.new _ _ HW.out HE.out) (Nat.le_refl _) (by omega) (by omega) (by omega) (by omega)).mono ?_;rintro e w1 ⟨rfl,PS⟩;have S6:=hid PS;clear PS);go_roundw
        case rel=>exact⟨s*2,by omega,by omega,rfl,HE.out.trans S6.out⟩
        case measure=>simp[intOf];omega
       ·go_wp2;go_roundw
        case rel=>exact⟨s*2,by omega,by omega,rfl,HE.out⟩
        case measure=>simp[intOf];omega
    ·go_wp2;go_returns;exact⟨rfl,HD.out⟩
theorem fY{D:World->Prop}{T:TypeId}{rn:Value}{g gn:FuncId}{n:Int}{w:World}(h:GM D T v g rc n)(hN:zcl D T v gn rn n)(hw:D w)(h0:0<=n)(hn:n<=1000):
  Calls prog 99 #[.iface T v] w λe w'=>e=.returned (.tuple #[])/\za w w':=by
 have Hm:=hN.meth;have PT:=hN.nil;have PN:=hN.enter;have H:=hid h;have HN:=hid hN;have HW:=hid hw;clear h hw hN;go_enter func99,ntmps99;go_wp2_with fail;refine(HN.out.len _ HW.out).mono ?_;rintro e w1 ⟨rfl,h1⟩;have H1:=hid h1;clear h1;go_wp2_with fail;refine(fX H.out (H.out.new _ _ HW.out H1.out) h0 hn).mono ?_;rintro e w2 ⟨rfl,h2⟩;have H2:=hid (H1.out.trans h2);clear h2;go_wp2;go_returns;exact⟨rfl,H2.out⟩
variable{bb:Nat}
theorem zcm{w:World}{n:Int}(hu:w.cell? ⟨bb,1,none⟩=some (.int .i64 n)):
  Calls prog 252 #[ptr bb] w λe w'=>e=.returned (.int .i64 n)/\za w w':=by
 go_enter func252,ntmps252;go_wp2;go_returns;exact⟨rfl,za.refl w⟩
variable{S:Nat->Prop}{a:Nat}{ks:List Bytes}
theorem js.key{w:World}(h:js (im S w) w bb a ks){i:Nat}(hi:i<ks.length):∃p n c,w.cell? ⟨a,i*2,none⟩=some (.slice p n c)/\Z2 w ks[i] (.slice p n c):=by obtain⟨g1,g2,arr,g3,g4,g5,g6⟩:=h;obtain⟨k,v,kv,vv,e0,e1,e2,e3,e4⟩:=g6 i hi;obtain⟨p,n,c,rfl,_⟩:=e3.shape;refine⟨p,n,c,by rw[cell_of_row w a _ _ _ (0,0) g3];exact e1,?_⟩;rw[List.getElem?_eq_getElem hi]at e0;cases e0;exact e3.mono (zd _ _)
theorem Gd{w:World}(h:js (im S w) w bb a ks){x y:Int}(TN:0<=x)(hy0:0<=y)(hx:x.toNat<ks.length)(hy:y.toNat<ks.length):
  Calls prog 253 #[ptr bb,.int .i64 x,.int .i64 y] w λe w'=>e=.returned (.bool (decide (zt ks[x.toNat] ks[y.toNat]<0)))/\za w w':=by
 obtain⟨i,rfl⟩:=Int.eq_ofNat_of_zero_le TN;obtain⟨j,rfl⟩:=Int.eq_ofNat_of_zero_le hy0;simp only[Int.toNat_natCast]at hx hy⊢;have c0:w.cell? ⟨bb,0,none⟩=some (.slice (some ⟨a,0,none⟩) 512 512):=by rw[cell_of_row w bb 0 _ _ (0,0) h.1];rfl
 have Hb:ks.length<512:=h.2.1;have hi5:(i:Int)<512:=by omega
 have ET:(j:Int)<512:=by omega
 obtain⟨p1,n1,c1,k1,b1⟩:=h.key hx;obtain⟨p2,n2,c2,k2,b2⟩:=h.key hy;have B1:=hid b1;clear b1;have B2:=hid b2;clear b2;clear h;go_enter func253,ntmps253;go_wp2;go_quiet ((go_at_call 104;exact zw (q_ (by exact B1.out) (by exact B2.out))));go_wp2;go_returns;exact⟨rfl,(za.refl w).drewN _⟩
theorem dR(bb:Nat)(W:World):(method 608 300 (ptr bb) "Less").run prog W=.ok (253,ptr bb) W:=by kernel_rfl
theorem fZ(bb:Nat)(W:World):(method 608 300 (ptr bb) "Len").run prog W=.ok (252,ptr bb) W:=by kernel_rfl
theorem f6(bb:Nat)(W:World):(nilAhead 608 300 (ptr bb) "Less").run prog W=.ok (some false) W:=by kernel_rfl
theorem GN(bb:Nat)(W:World):(nilAhead 608 300 (ptr bb) "Len").run prog W=.ok (some false) W:=by kernel_rfl
theorem gh(args:Array Value)(W:World):(callFunc 253 args).run prog W=.ok (.enter 253 args) W:=by kernel_rfl
theorem dT(args:Array Value)(W:World):(callFunc 252 args).run prog W=.ok (.enter 252 args) W:=by kernel_rfl
variable{j:Nat}
theorem zM.lt(h:zM ks){i:Nat}(hi:i<ks.length)(hj:j<ks.length)(MG:i<j):zt ks[i] ks[j]<0:=List.pairwise_iff_getElem.1 h _ _ hi hj MG
variable{w':World}
theorem js.new{w:World}(h:js (im S w) w bb a ks)(hn:za w w'):js (im S w') w' bb a ks:=
 h.frame (hn.block _ h.lt1 (λe=>e)) (hn.block _ h.lt2 (λe=>e)) (za.im hn S)
theorem D7(hr:zM ks):GM (λW=>js (im S W) W bb a ks) 300 (ptr bb) 253 (ptr bb) ks.length where
 new _ _ h hn:=h.new hn
 meth:=dR bb
 nil:=f6 bb
 enter:=gh
 ge W x y h h0 h1 h2:=by
  have hx:x.toNat<ks.length:=by omega
  have hy:y.toNat<ks.length:=by omega
  refine(Gd h (by omega) h0 hx hy).mono ?_;rintro e w' ⟨rfl,hn⟩;refine⟨?_,hn⟩;have hd:decide (zt ks[x.toNat] ks[y.toNat]<0)=false:=by
   rw[decide_eq_false_iff_not];rcases Nat.lt_or_ge y.toNat x.toNat with e|e
   ·exact yW (hr.lt hy hx e)
   ·have:x.toNat=y.toNat:=by omega
    simp only[this];exact zI _
  rw[hd]
 lt W x y h h0 h1 h2:=by
  have hx:x.toNat<ks.length:=by omega
  have hy:y.toNat<ks.length:=by omega
  refine(Gd h h0 (by omega) hx hy).mono ?_;rintro e w' ⟨rfl,hn⟩;refine⟨?_,hn⟩;have hd:decide (zt ks[x.toNat] ks[y.toNat]<0)=true:=by rw[decide_eq_true_iff];exact hr.lt hx hy (by omega)
  rw[hd]
theorem Ge:zcl (λW=>js (im S W) W bb a ks) 300 (ptr bb) 252 (ptr bb) ks.length where
 meth:=fZ bb
 nil:=GN bb
 enter:=dT
 len W h:=zcm (by rw[cell_of_row W bb 1 _ _ (0,0) h.1];rfl)
variable{b:Nat}
theorem ZE{w:World}{o:Nat}{c:Array Value}{T:TypeId}(h:w.heap[b]? =some (.cells c T (0,0)))(hv:c[o]? =some v):w.setCell ⟨b,o,none⟩ v=w:=by
 have hh:(w.setCell ⟨b,o,none⟩ v).heap=w.heap:=Array.ext_getElem? λi=>by
  by_cases e:i=b
  ·subst e;rw[heap_setCell_same w i o c T v h,h];obtain⟨hl,he⟩:=Array.getElem?_eq_some_iff.1 hv;have:c.setIfInBounds o v=c:=by
    apply Array.ext_getElem?;intro j;rw[Array.getElem?_setIfInBounds];split
    ·rename_i e;subst e;exact hv.symm
    ·rfl
   rw[this]
  ·exact Below.heap_setCell _ _ _ _ e
 have h2:w.setCell ⟨b,o,none⟩ v={w with heap:=(w.setCell ⟨b,o,none⟩ v).heap}:=rfl;rw[h2,hh]
theorem GO{w:World}(h:js (im S w) w bb a ks)(hr:zM ks):
  Calls prog 89 #[ptr bb] w λe w'=>e=.returned (.tuple #[])/\za w w':=by
 obtain⟨n,hn⟩:∃n,ks.length=n:=⟨_,rfl⟩;obtain⟨u1,_⟩:=h.used;have Hb:ks.length<512:=h.2.1;rw[hn]at u1 Hb;have HS:=hid (D7 (S:=S) (bb:=bb) (a:=a) hr);have HL:=hid (Ge (S:=S) (bb:=bb) (a:=a) (ks:=ks));rw[hn]at HS HL;have HH:=hid h;clear h;have HN:=hid hn;clear hn;have HR:=hid hr;clear hr;by_cases h1:n<=1
 ·go_enter func89,ntmps89;go_wp2;go_returns;exact⟨rfl,za.refl w⟩
 ·go_enter func89,ntmps89;go_wp2_with fail;refine(fY HS.out HL.out HH.out (by omega) (by omega)).mono ?_;rintro e w1 ⟨rfl,hQ⟩;have Rq:=hid (HH.out.new hQ);have Hs:=hid hQ;clear hQ;go_wp2_with fail;go_loopw [2,3] (λi j wr=>∃q r:Nat,q+1<=r/\r<=q+1/\r<=n/\i=.int .i64 q/\j=.int .i64 r/\za w wr) (λ_ j _=>n-(intOf j).toNat)
  case atStart=>exact⟨0,1,by omega,by omega,by omega,rfl,rfl,Hs.out⟩
  case round=>
   obtain⟨q,r,Pv,heH,ry,rfl,rfl,hM⟩:=hrel;have hB:=HH.out.new hM;obtain⟨v1,v1f⟩:=hB.used;rw[HN.out]at v1;have c0:wr.cell? ⟨bb,0,none⟩=some (.slice (some ⟨a,0,none⟩) 512 512):=by rw[cell_of_row wr bb 0 _ _ (0,0) hB.1];rfl
   by_cases mj:r<n
   ·have rJ:(r:Int)<512:=by omega
    have heI:(0:Int)<=r:=by omega
    have n0:(q:Int)<512:=by omega
    have wn:(0:Int)<=q:=by omega
    have Ip:r<ks.length:=by rw[HN.out];exact mj
    have hkq:q<ks.length:=by rw[HN.out];omega
    obtain⟨p1,n1,q1,k1,b1⟩:=hB.key Ip;obtain⟨p2,n2,q2,k2,b2⟩:=hB.key hkq;have Ho:(ks[r]==ks[q])=false:=by simp only[beq_eq_false_iff_ne];intro e;have:=HR.out.lt hkq Ip (by omega);rw[e]at this;exact zI _ this
    obtain⟨arr,vp,vn,vc,g3,k3,g4,g5⟩:∃(arr:Array Value) (vp:Option Addr) (vn vc:Nat),wr.heap[a]? =some (.cells arr 313 (0,0))/\wr.cell? ⟨a,r*2+1,none⟩=some (.slice vp vn vc)/\arr[r*2]? =some (.slice p1 n1 q1)/\arr[r*2+1]? =some (.slice vp vn vc):=by obtain⟨_,_,arr,g3,g4,g5,g6⟩:=hB;obtain⟨k,v,kv,vv,e0,e1,e2,e3,e4⟩:=g6 r Ip;obtain⟨vp,vn,vc,rfl,_⟩:=e4.shape;have k1':=k1;rw[cell_of_row wr a _ _ _ (0,0) g3]at k1';exact⟨arr,vp,vn,vc,g3,by rw[cell_of_row wr a _ _ _ (0,0) g3];exact e2,k1',e2⟩
    have f0:wr.frozen? ⟨a,r*2,none⟩=false:=by simp[World.frozen?,g3]
    have f1:wr.frozen? ⟨a,r*2+1,none⟩=false:=by simp[World.frozen?,g3]
    have G3:=hid g3;clear g3;have G4:=hid g4;clear g4;have G5:=hid g5;clear g5;have B1:=hid b1;clear b1;have B2:=hid b2;clear b2;have HM:=hid hM;clear hM;have HB:=hid hB;clear hB;have pY:(q:Int)+1=r:=by omega
    have nZ:=hid Ho;clear Ho;go_wp2;go_quiet ((go_at_call 100;exact zw (qe (by exact B1.out) (by exact B2.out))));rw[nZ.out];go_wp2;go_region;go_wp2;go_roundw
    case rel=>have e1:∀m,(wr.drewN m).setCell ⟨a,r*2,none⟩ (.slice p1 n1 q1)=wr.drewN m:=λm=>ZE G3.out G4.out;have e2:∀m,(wr.drewN m).setCell ⟨a,r*2+1,none⟩ (.slice vp vn vc)=wr.drewN m:=λm=>ZE G3.out G5.out;refine⟨r,r+1,by omega,by omega,by omega,rfl,by go_num,?_⟩;rw[e1,e2];exact HM.out.drewN _
    case measure=>simp[intOf];omega
   ·have Hv:∀m,za w ((wr.drewN m).setCell ⟨bb,1,none⟩ (.int .i64 r)):=λm=>by
     have e0:r=ks.length:=by rw[HN.out];omega
     have e1:(wr.drewN m).setCell ⟨bb,1,none⟩ (.int .i64 r)=wr.drewN m:=ZE hB.1 (by rw[e0];rfl);rw[e1];exact hM.drewN m
    have pj:=hid Hv;clear Hv;have pY:(q:Int)+1=r:=by omega
    clear hM hB;go_wp2;go_returns;exact⟨rfl,pj.out 0⟩
structure kJ(S F:Nat->Prop)(w wr:World)(m m4 R:Nat)(e2 e4 cur2 cur4:zY)(left:List (zF×Value)):Prop where
 rng:zO kY wr m R (cur2.map vV) left
 mod:zq (λj=>j=m\/j=m4\/j∈zl (e2++e4)) w wr
 b2:zQ (im S wr) wr F m cur2
 b4:zQ (im S wr) wr F m4 cur4
 apart:((cur2++cur4).flatMap λe=>[e.2.1,e.2.2.1]).Nodup
 u2:∀e∈cur2,zM e.2.2.2
 u4:∀e∈cur4,zM e.2.2.2
 clean:∀e∈cur4,∀x∈left,x.1=e.1->e.2.2.2=[]
 sub:∀j∈zl (cur2++cur4),j∈zl (e2++e4)
 fresh:w.heap.size<=R
 nd:(left.map (·.1)).Nodup
theorem zT(a b:zY):zl (a++b)=zl a++zl b:=by simp[zl]
variable{F:Nat->Prop}{es:zY}{r:Rd}
theorem zQ.cellsAt{w:World}{m:Nat}(h:zQ r w F m es)(hj:j∈zl es):∃c T g,w.heap[j]? =some (.cells c T g):=by
 obtain⟨e,he,Th⟩:=List.mem_flatMap.1 hj;obtain⟨_,_,q1,_,ar,q3,_⟩:=h.ok e he;simp only[List.mem_cons,List.not_mem_nil,or_false]at Th;rcases Th with rfl|rfl
 ·exact⟨_,_,_,q1⟩
 ·exact⟨_,_,_,q3⟩
variable{α:Type}
theorem zQ.notMap{w:World}{m m':Nat}{kf:α->Value}{xs:List (α×Value)}(h:zQ r w F m es)(h':zD kf w m' xs):m'∉zl es:=λhj=>by obtain⟨c,T,g,h1⟩:=h.cellsAt hj;obtain⟨a,ck,h2,_⟩:=h';rw[h1]at h2;cases h2
variable{e2 e4:zY}{m4:Nat}{wr:World}
theorem kJ.cells{w:World}{m R:Nat}{cur2 cur4:zY}{left:List (zF×Value)}(h:kJ S F w wr m m4 R e2 e4 cur2 cur4 left)(hj:j∈zl (cur2++cur4)):j≠m/\j≠R/\j≠m4:=by
 have h0:∃c T g,wr.heap[j]? =some (.cells c T g):=by
  rw[zT]at hj;rcases List.mem_append.1 hj with e|e
  ·exact h.b2.cellsAt e
  ·exact h.b4.cellsAt e
 obtain⟨c,T,g,h1⟩:=h0;have:=h.rng.notCells h1;refine⟨this.1,this.2,λe=> ?_⟩;subst e;obtain⟨a,ck,h2,_⟩:=h.b4.map;rw[h1]at h2;cases h2
theorem VY{a b:zY}(h:((a++b).flatMap λe=>[e.2.1,e.2.2.1]).Nodup)(x:zF)(u:List Bytes):((a++ya b x u).flatMap λe=>[e.2.1,e.2.2.1]).Nodup:=by rw[List.flatMap_append,jW,<-List.flatMap_append];exact h
variable{w1 w2:World}
theorem kJ.merge{w:World}{m R:Nat}{cur2 cur4:zY}{left:List (zF×Value)}(h:kJ S F w wr m m4 R e2 e4 cur2 cur4 left)(pG:∀j,F j->S j)(Ho:m4≠m){x:zF}{sb sa:Nat}{u:List Bytes}
  (hs:(x,sb,sa,u)∈cur2)(hb:(x,bb,a,[])∈cur4)(Pv:zO kY w1 m R (cur2.map vV) (yH left x))(Hl:zq (· =R) wr w1)(Hq:zq (λj=>j=bb\/j=a) w1 w2)(Rz:js (im S w2) w2 bb a u):
  kJ S F w w2 m m4 R e2 e4 cur2 (ya cur4 x u) (yH left x):=by
 have BQ:w.heap.size<=wr.heap.size:=h.mod.size;obtain⟨o1,o2,o3⟩:=h.b4.ok _ hb;have mJ:=qh hb;have Ri:bb∈zl (cur2++cur4)/\a∈zl (cur2++cur4):=by rw[zT];exact⟨List.mem_append_right _ mJ.1,List.mem_append_right _ mJ.2⟩
 have hTS:∀j,(j=bb\/j=a)->S j:=λj e=>by rcases e with rfl|rfl;exact pG _ o1;exact pG _ o2
 have sE:(im S wr).le (im S w1):=Qi Hl λa e=>h.rng.noCell (Or.inr e);have tC:(im S w1).le (im S w2):=(Hq.mono (S':=S) λj _ e=>hTS j e).im λ_ _ h=>h;have hY:=sE.le_trans tC;obtain⟨nb1,nb2,nb3⟩:=h.cells Ri.1;obtain⟨na1,na2,na3⟩:=h.cells Ri.2;have keep:∀j,j<wr.heap.size->j≠R->j≠bb->j≠a->w2.heap[j]? =wr.heap[j]? :=λj hj h1 h2 h3=>
  (Hq.block j (Nat.lt_of_lt_of_le hj Hl.size) (λe=>by rcases e with e|e;exact h2 e;exact h3 e)).trans (Hl.block j hj h1)
 have Su:w2.heap[m]? =w1.heap[m]? :=Hq.block m Pv.owns.lt (λe=>by rcases e with e|e;exact nb1 e.symm;exact na1 e.symm);have Iq:w2.heap[R]? =w1.heap[R]? :=Hq.block R Pv.ne.2 (λe=>by rcases e with e|e;exact nb2 e.symm;exact na2 e.symm);have BT:m4≠R:=λe=>by obtain⟨aa,ck,s,n,c0,_,_,_,q4,_⟩:=h.rng;obtain⟨a',ck',q5,_⟩:=h.b4.map;rw[e,q4]at q5;cases q5
 have cross:∀e∈cur2,e.2.1≠bb/\e.2.1≠a/\e.2.2.1≠bb/\e.2.2.1≠a:=λe he=>by have:=h.apart;rw[List.flatMap_append,List.nodup_append]at this;have k:=this.2.2;have m1:=qh he;exact⟨k _ m1.1 _ mJ.1,k _ m1.1 _ mJ.2,k _ m1.2 _ mJ.1,k _ m1.2 _ mJ.2⟩
 refine⟨Pv.frame Su Iq,?_,⟨Pv.owns.frame Su,λe he=> ?_,h.b2.apart⟩,⟨?_,λe he=> ?_,by rw[jW];exact h.b4.apart⟩,VY h.apart x u,h.u2,λe he=> ?_,λe he y hy hye=> ?_,λj hj=> ?_,h.fresh,ZC h.nd x⟩
 ·refine zq.trans (zq.trans h.mod Hl λj hj e=> ?_) Hq λj _ e=> ?_
  ·have:=h.fresh;omega
  ·rcases e with rfl|rfl
   ·exact Or.inr (Or.inr (h.sub _ Ri.1))
   ·exact Or.inr (Or.inr (h.sub _ Ri.2))
 ·obtain⟨q1,q2,q3⟩:=h.b2.ok e he;obtain⟨c1,c2,c3,c4⟩:=cross e he;have m1:=qh he;have Hf:∀j,j∈zl cur2->j∈zl (cur2++cur4):=λj hj=>by rw[zT];exact List.mem_append_left _ hj
  exact⟨q1,q2,q3.frame (keep _ q3.lt1 (h.cells (Hf _ m1.1)).2.1 c1 c2) (keep _ q3.lt2 (h.cells (Hf _ m1.2)).2.1 c3 c4) hY⟩
 ·rw[Qd (λi y _=>(i,ptr y))];exact h.b4.map.frame (keep m4 h.b4.map.lt BT (λe=>nb3 e.symm) (λe=>na3 e.symm))
 ·unfold ya at he;obtain⟨g,hg,rfl⟩:=List.mem_map.1 he;by_cases e1:g.1=x
  ·rw[if_pos e1];have:g=(x,bb,a,[]):=X8 h.b4.keys hg hb e1;subst this;exact⟨o1,o2,Rz⟩
  ·rw[if_neg e1];obtain⟨q1,q2,q3⟩:=h.b4.ok g hg;obtain⟨a1,a2,a3,a4⟩:=Qe h.b4.apart hg hb e1;have m1:=qh hg;have Hf:∀j,j∈zl cur4->j∈zl (cur2++cur4):=λj hj=>by rw[zT];exact List.mem_append_right _ hj
   exact⟨q1,q2,q3.frame (keep _ q3.lt1 (h.cells (Hf _ m1.1)).2.1 a1 a2) (keep _ q3.lt2 (h.cells (Hf _ m1.2)).2.1 a3 a4) hY⟩
 ·unfold ya at he;obtain⟨g,hg,rfl⟩:=List.mem_map.1 he;split
  ·have hu:=h.u2 _ hs;exact hu
  ·exact h.u4 g hg
 ·unfold ya at he;obtain⟨g,hg,rfl⟩:=List.mem_map.1 he;obtain⟨y1,y2⟩:=Qg.1 hy;by_cases e1:g.1=x
  ·rw[if_pos e1]at hye;exact absurd (hye.trans e1) y2
  ·rw[if_neg e1]at hye⊢;exact h.clean g hg y y1 hye
 ·have e:zl (cur2++ya cur4 x u)=zl (cur2++cur4):=by
   rw[zT,zT];show _++(ya cur4 x u).flatMap (λe=>[e.2.1,e.2.2.1])=_;rw[jW]
  rw[e]at hj;exact h.sub j hj
theorem kJ.move{w w3:World}{m R:Nat}{cur2 cur4:zY}{left:List (zF×Value)}(h:kJ S F w wr m m4 R e2 e4 cur2 cur4 left)(Ho:m4≠m){x:zF}{sb sa:Nat}{u:List Bytes}
  (hs:(x,sb,sa,u)∈cur2)(mK:jq (cur4.map vV) x=none)(Pv:zO kY w1 m R (cur2.map vV) (yH left x))(Hl:zq (· =R) wr w1)(ry:zO kY w2 m R (yH (cur2.map vV) x) (yH (yH left x) x))(Hq:zq (· =m) w1 w2)
  (r6:zq (· =m4) w2 w3)(h3:zD kY w3 m4 (xu (cur4.map vV) x (ptr sb))):
  kJ S F w w3 m m4 R e2 e4 (cur2.filter λe=>e.1≠x) (cur4++[(x,sb,sa,u)]) (yH left x):=by
 have sE:(im S wr).le (im S w1):=Qi Hl λa e=>h.rng.noCell (Or.inr e);have tC:(im S w1).le (im S w2):=Qi Hq λa e=>Pv.noCell (Or.inl e);have BT:m4≠R:=λe=>by obtain⟨aa,ck,s,n,c0,_,_,_,q4,_⟩:=h.rng;obtain⟨a',ck',q5,_⟩:=h.b4.map;rw[e,q4]at q5;cases q5
 have h42:w2.heap[m4]? =wr.heap[m4]? :=(Hq.block _ (Nat.lt_of_lt_of_le h.b4.map.lt Hl.size) Ho).trans (Hl.block _ h.b4.map.lt BT);have C9:(im S w2).le (im S w3):=Qi r6 λa e=>(h.b4.map.frame h42).noCell e;have hY:=(sE.le_trans tC).le_trans C9;have keep:∀j,j<wr.heap.size->j≠R->j≠m->j≠m4->w3.heap[j]? =wr.heap[j]? :=λj hj a1 a2 a3=>
  ((r6.block j (Nat.lt_of_lt_of_le hj (Nat.le_trans Hl.size Hq.size)) a3).trans (Hq.block j (Nat.lt_of_lt_of_le hj Hl.size) a2)).trans (Hl.block j hj a1)
 have Su:w3.heap[m]? =w2.heap[m]? :=r6.block m ry.owns.lt (λe=>Ho e.symm);have Iq:w3.heap[R]? =w2.heap[R]? :=r6.block R ry.ne.2 (λe=>BT e.symm);have cO:∀j,j∈zl cur2->j∈zl (cur2++cur4):=λj hj=>by rw[zT];exact List.mem_append_left _ hj
 have cP:∀j,j∈zl cur4->j∈zl (cur2++cur4):=λj hj=>by rw[zT];exact List.mem_append_right _ hj
 have fr2:∀e∈cur2,F e.2.1/\F e.2.2.1/\js (im S w3) w3 e.2.1 e.2.2.1 e.2.2.2:=λe he=>by obtain⟨q1,q2,q3⟩:=h.b2.ok e he;have m1:=qh he;obtain⟨a1,a2,a3⟩:=h.cells (cO _ m1.1);obtain⟨c1,c2,c3⟩:=h.cells (cO _ m1.2);exact⟨q1,q2,q3.frame (keep _ q3.lt1 a2 a1 a3) (keep _ q3.lt2 c2 c1 c3) hY⟩
 have fr4:∀e∈cur4,F e.2.1/\F e.2.2.1/\js (im S w3) w3 e.2.1 e.2.2.1 e.2.2.2:=λe he=>by obtain⟨q1,q2,q3⟩:=h.b4.ok e he;have m1:=qh he;obtain⟨a1,a2,a3⟩:=h.cells (cP _ m1.1);obtain⟨c1,c2,c3⟩:=h.cells (cP _ m1.2);exact⟨q1,q2,q3.frame (keep _ q3.lt1 a2 a1 a3) (keep _ q3.lt2 c2 c1 c3) hY⟩
 have cQ:∀j∈zl (cur2.filter λe=>e.1≠x),j∈zl cur2/\j≠sb/\j≠sa:=λj hj=>by
  obtain⟨e,he,Th⟩:=List.mem_flatMap.1 hj;obtain⟨Ad,he2⟩:=List.mem_filter.1 he;obtain⟨a1,a2,a3,a4⟩:=Qe h.b2.apart Ad hs (by simpa using he2);have m1:=qh Ad;simp only[List.mem_cons,List.not_mem_nil,or_false]at Th;rcases Th with rfl|rfl
  ·exact⟨m1.1,a1,a2⟩
  ·exact⟨m1.2,a3,a4⟩
 have Rj:=h.apart;rw[List.flatMap_append,List.nodup_append]at Rj;have Hx:=qh hs;have ws:∀j∈zl cur4,j≠sb/\j≠sa:=λj hj=>⟨λe=>Rj.2.2 _ Hx.1 _ hj e.symm,λe=>Rj.2.2 _ Hx.2 _ hj e.symm⟩;have Ae:sb≠sa:=by have:=(h.b2.ok _ hs).2.2;obtain⟨q1,_,ar,q3,_⟩:=this;intro e;rw[e,q3]at q1;simp at q1
 have nj:((cur4++[(x,sb,sa,u)]).flatMap λe=>[e.2.1,e.2.2.1]).Nodup:=by
  rw[List.flatMap_append,List.nodup_append];refine⟨Rj.2.1,by simpa using Ae,λy hy z hz e=> ?_⟩;simp only[List.flatMap_cons,List.flatMap_nil,List.append_nil,List.mem_cons,List.not_mem_nil,or_false]at hz;obtain⟨n1,n2⟩:=ws y hy;rcases hz with rfl|rfl
  ·exact n1 e
  ·exact n2 e
 have pi:xu (cur4.map vV) x (ptr sb)=(cur4++[(x,sb,sa,u)]).map vV:=by unfold xu;rw[mK];simp
 rw[KB,Jg]at ry;refine⟨ry.frame Su Iq,?_,⟨ry.owns.frame Su,λe he=>fr2 e (List.mem_filter.1 he).1,ZB h.b2.apart _⟩,⟨by rw[<-pi];exact h3,λe he=> ?_,nj⟩,?_,λe he=>h.u2 e (List.mem_filter.1 he).1,λe he=> ?_,λe he y hy hye=> ?_,λj hj=> ?_,h.fresh,ZC h.nd x⟩
 ·refine zq.trans (zq.trans (zq.trans h.mod Hl λj hj e=> ?_) Hq λj _ e=>Or.inl e) r6 λj _ e=>Or.inr (Or.inl e);have:=h.fresh;omega
 ·rcases List.mem_append.1 he with he|he
  ·exact fr4 e he
  ·simp only[List.mem_singleton]at he;subst he;exact fr2 _ hs
 ·rw[List.flatMap_append,List.nodup_append];refine⟨ZB h.b2.apart _,nj,λy hy z hz e=> ?_⟩;obtain⟨n1,n2,n3⟩:=cQ y hy;rw[List.flatMap_append]at hz;rcases List.mem_append.1 hz with hz|hz
  ·exact Rj.2.2 _ n1 _ hz e
  ·simp only[List.flatMap_cons,List.flatMap_nil,List.append_nil,List.mem_cons,List.not_mem_nil,or_false]at hz;rcases hz with rfl|rfl
   ·exact n2 e
   ·exact n3 e
 ·rcases List.mem_append.1 he with he|he
  ·exact h.u4 e he
  ·simp only[List.mem_singleton]at he;subst he;exact h.u2 _ hs
 ·obtain⟨y1,y2⟩:=Qg.1 hy;rcases List.mem_append.1 he with he|he
  ·exact h.clean e he y y1 hye
  ·simp only[List.mem_singleton]at he;subst he;exact absurd hye y2
 ·refine h.sub j ?_;rw[zT]at hj⊢;rcases List.mem_append.1 hj with hj|hj
  ·exact List.mem_append_left _ (cQ j hj).1
  ·rw[zT]at hj;rcases List.mem_append.1 hj with hj|hj
   ·exact List.mem_append_right _ hj
   ·simp only[zl,List.flatMap_cons,List.flatMap_nil,List.append_nil,List.mem_cons,List.not_mem_nil,or_false]at hj;rcases hj with rfl|rfl
    ·exact List.mem_append_left _ Hx.1
    ·exact List.mem_append_left _ Hx.2
variable{rt t:Nat}{sq:List (zF×Value)}
theorem GP{w:World}{m sm:Nat}{ver:Int}(hS:∀j,S j->j<w.heap.size)(pG:∀j,F j->S j)(cE:S m)(L_:S sm)(heM:S m4)(Ir:S rt)(Ho:m4≠m)(Hx:sm≠m)(PV:sm≠m4)
  (h3:w.cell? ⟨t,3,none⟩=some (.map (some m)))(h4:w.cell? ⟨t,4,none⟩=some (.map (some sm)))(rM:w.cell? ⟨rt,0,none⟩=some (.map (some m4)))(Pv:w.cell? ⟨rt,1,none⟩=some (.int .u64 ver))(It:w.frozen? ⟨rt,1,none⟩=false)
  (mH:t∉zl (e2++e4))(Py:rt∉zl (e2++e4))(h2:zQ (im S w) w F m e2)(S4:zQ (im S w) w F m4 e4)(Rj:((e2++e4).flatMap λe=>[e.2.1,e.2.2.1]).Nodup)(Md:zD kY w sm sq)(sh:k_ sq)
  (rF:∀e∈e2,zM e.2.2.2)(Me:∀e∈e4,e.2.2.2=[]):
  Calls prog 83 #[.pointer (some ⟨t,3,none⟩),.pointer (some ⟨rt,0,none⟩)] w λe w'=>e=.returned (.tuple #[])/\∃(c2 c4:zY) (sq':List (zF×Value)) (ver':Int),
   zq (λj=>j=m\/j=sm\/j=m4\/j=rt\/j∈zl (e2++e4)) w w'/\(∀c T,w.heap[rt]? =some (.cells c T (0,0))->w'.heap[rt]? =some (.cells (c.setIfInBounds 1 (.int .u64 ver')) T (0,0)))/\
   zQ (im S w') w' F m c2/\zQ (im S w') w' F m4 c4/\((c2++c4).flatMap λe=>[e.2.1,e.2.2.1]).Nodup/\zD kY w' sm sq'/\k_ sq'/\(∀e∈c2,e.2.2.2=[]):=by
 obtain⟨w0,Nm,No,PK,Tl⟩:=zD.range (P:=prog) (k:=299) (t:=239) (e:=300) (by kernel_rfl) h2.map;have a_:t≠m:=λe=>by rw[h2.map.noCell (a:=⟨t,3,none⟩) e]at h3;cases h3
 have Iu:t≠m4:=λe=>by rw[S4.map.noCell (a:=⟨t,3,none⟩) e]at h3;cases h3
 have tT:rt≠m:=λe=>by rw[h2.map.noCell (a:=⟨rt,0,none⟩) e]at rM;cases rM
 have Af:rt≠m4:=λe=>by rw[S4.map.noCell (a:=⟨rt,0,none⟩) e]at rM;cases rM
 have C_:sm∉zl (e2++e4):=λhj=>by
  rw[zT]at hj;rcases List.mem_append.1 hj with e|e
  ·exact h2.notMap Md e
  ·exact S4.notMap Md e
 have bi:(im S w).le (im S w0):=za.im PK S;have py:kJ S F w w0 m m4 w.heap.size e2 e4 e2 e4 (e2.map vV):=by
  refine⟨No,PK.mod _,⟨No.owns,λe he=> ?_,h2.apart⟩,⟨S4.map.frame (PK.block _ S4.map.lt (λe=>e)),λe he=> ?_,S4.apart⟩,Rj,rF,λe he=>by rw[Me e he];exact List.Pairwise.nil,λe he _ _ _=>Me e he,λ_ e=>e,Nat.le_refl _,No.owns.nodup⟩
  ·obtain⟨q1,q2,q3⟩:=h2.ok e he;exact⟨q1,q2,q3.frame (PK.block _ q3.lt1 (λe=>e)) (PK.block _ q3.lt2 (λe=>e)) bi⟩
  ·obtain⟨q1,q2,q3⟩:=S4.ok e he;exact⟨q1,q2,q3.frame (PK.block _ q3.lt1 (λe=>e)) (PK.block _ q3.lt2 (λe=>e)) bi⟩
 have rR:=hid py;clear py;have Sb:=hid pG;clear pG;have HS:=hid hS;clear hS;have cM:=hid mH;clear mH;have Rr:=hid Py;clear Py;have bd:=hid C_;clear C_;have MX:=hid Md;clear Md;have BR:=hid sh;clear sh;have Mz:=World.block_lt_of_cell? w _ h3;have pZ:=World.block_lt_of_cell? w _ rM;clear No PK Tl bi h2 S4 Rj rF Me;go_enter func83,ntmps83;go_wp2;go_loopw [4] (λ_ wr=>∃cur2 cur4 left,kJ S F w wr m m4 w.heap.size e2 e4 cur2 cur4 left) (λ_ wr=>wr.rangeLeft m w.heap.size)
 case atStart=>exact⟨_,_,_,rR.out⟩
 case round=>
  obtain⟨cur2,cur4,left,hW⟩:=hrel;have tnot:∀j,j=t->¬(j=m\/j=m4\/j∈zl (e2++e4)):=λj e h=>by
   subst e;rcases h with e|e|e
   ·exact a_ e
   ·exact Iu e
   ·exact cM.out e
  have rnot:∀j,j=rt->¬(j=m\/j=m4\/j∈zl (e2++e4)):=λj e h=>by
   subst e;rcases h with e|e|e
   ·exact tT e
   ·exact Af e
   ·exact Rr.out e
  have snot: ¬(sm=m\/sm=m4\/sm∈zl (e2++e4)):=λh=>by
   rcases h with e|e|e
   ·exact Hx e
   ·exact PV e
   ·exact bd.out e
  rcases zO.next (P:=prog) (k:=299) Zd hW.rng 0 with⟨hl,RE⟩|⟨x,v,w1,RQ,Ss,RE,NN,Hl,pI,MT⟩
  ·
   have c3:wr.cell? ⟨t,3,none⟩=some (.map (some m)):=hW.mod.cell (tnot t rfl) h3;have c4:wr.cell? ⟨t,4,none⟩=some (.map (some sm)):=hW.mod.cell (tnot t rfl) h4;have sW:∀j∈zl cur2,j∈zl (e2++e4):=λj hj=>hW.sub j (by rw[zT];exact List.mem_append_left _ hj);have SJ:zD kY wr sm sq:=MX.out.frame (hW.mod.block _ MX.out.lt snot);have PE:=KC (S:=S) (F:=F) (λj e=>Nat.lt_of_lt_of_le (HS.out j e) hW.mod.size) Sb.out L_ c3 c4 (λe=>cM.out (sW _ e)) (λe=>bd.out (sW _ e)) Hx hW.b2 SJ BR.out;have Hv:∀(w5:World) (c2:zY) (sq':List (zF×Value)) (ver':Int),zq (λj=>j=m\/j=sm\/j∈zl cur2) wr w5->zQ (im S w5) w5 F m c2->zD kY w5 sm sq'->k_ sq'->(∀e∈c2,e.2.2.2=[])->(∀e∈c2,∃f∈cur2,f.1=e.1/\f.2.1=e.2.1/\f.2.2.1=e.2.2.1)->
     ∃(c2 c4:zY) (sq':List (zF×Value)) (ver'':Int),
      zq (λj=>j=m\/j=sm\/j=m4\/j=rt\/j∈zl (e2++e4)) w (w5.setCell ⟨rt,1,none⟩ (.int .u64 ver'))/\(∀c T,w.heap[rt]? =some (.cells c T (0,0))->(w5.setCell ⟨rt,1,none⟩ (.int .u64 ver')).heap[rt]? =some (.cells (c.setIfInBounds 1 (.int .u64 ver'')) T (0,0)))/\
      zQ (im S (w5.setCell ⟨rt,1,none⟩ (.int .u64 ver'))) (w5.setCell ⟨rt,1,none⟩ (.int .u64 ver')) F m c2/\zQ (im S (w5.setCell ⟨rt,1,none⟩ (.int .u64 ver'))) (w5.setCell ⟨rt,1,none⟩ (.int .u64 ver')) F m4 c4/\((c2++c4).flatMap λe=>[e.2.1,e.2.2.1]).Nodup/\zD kY (w5.setCell ⟨rt,1,none⟩ (.int .u64 ver')) sm sq'/\k_ sq'/\(∀e∈c2,e.2.2.2=[]):=by
    intro w5 c2 sq' ver' pr nk pC Tm EU wu;have LB:zq (· =rt) w5 (w5.setCell ⟨rt,1,none⟩ (.int .u64 ver')):=vx (S:=(· =rt)) (zq.refl _ _) rfl _;have Iw:(im S wr).le (im S w5):=(pr.mono (S':=S) λj _ e=>by
     rcases e with e|e|e
     ·rw[e];exact cE
     ·rw[e];exact L_
     ·exact Sb.out _ (hW.b2.blocks e).1).im λ_ _ h=>h
    have Ag:(im S w5).le (im S (w5.setCell ⟨rt,1,none⟩ (.int .u64 ver'))):=(LB.mono (S':=S) λ_ _ e=>by rw[e];exact Ir).im λ_ _ h=>h;have Ah:∀e∈c2,e.2.1∈zl cur2/\e.2.2.1∈zl cur2:=λe he=>by obtain⟨f,hf,_,f1,f2⟩:=wu e he;rw[<-f1,<-f2];exact qh hf
    have LE:rt≠sm:=λe=>by rw[MX.out.noCell (a:=⟨rt,0,none⟩) e]at rM;cases rM
    have Rj:=hW.apart;rw[List.flatMap_append,List.nodup_append]at Rj;have h4n:∀j∈zl cur4,j<wr.heap.size->(w5.setCell ⟨rt,1,none⟩ (.int .u64 ver')).heap[j]? =wr.heap[j]? :=λj hj Hb=>by
     have MY:j∈zl (cur2++cur4):=by rw[zT];exact List.mem_append_right _ hj
     obtain⟨a1,a2,a3⟩:=hW.cells MY;rw[Below.heap_setCell _ _ _ _ (λe=>rnot j e (Or.inr (Or.inr (hW.sub j MY)))),pr.block j Hb (λe=> ?_)];rcases e with e|e|e
     ·exact a1 e
     ·exact bd.out (by rw[<-e];exact hW.sub j MY)
     ·exact Rj.2.2 j e j hj rfl
    refine⟨c2,cur4,sq',ver',?_,?_,?_,?_,?_,pC.frame (Below.heap_setCell _ _ _ _ (λe=>LE e.symm)),Tm,EU⟩
    ·refine vx (S:=λj=>j=m\/j=sm\/j=m4\/j=rt\/j∈zl (e2++e4)) (zq.trans (hW.mod.mono λj _ e=> ?_) pr λj _ e=> ?_) (Or.inr (Or.inr (Or.inr (Or.inl rfl)))) _
     ·rcases e with e|e|e
      ·exact Or.inl e
      ·exact Or.inr (Or.inr (Or.inl e))
      ·exact Or.inr (Or.inr (Or.inr (Or.inr e)))
     ·rcases e with e|e|e
      ·exact Or.inl e
      ·exact Or.inr (Or.inl e)
      ·exact Or.inr (Or.inr (Or.inr (Or.inr (sW _ e))))
    ·intro c T hc;have h5:w5.heap[rt]? =some (.cells c T (0,0)):=by
      rw[pr.block rt (Nat.lt_of_lt_of_le pZ hW.mod.size) (λe=> ?_),hW.mod.block rt pZ (rnot rt rfl)]
      ·exact hc
      ·rcases e with e|e|e
       ·exact tT e
       ·exact LE e
       ·exact Rr.out (sW _ e)
     rw[heap_setCell_same w5 rt 1 _ _ _ h5]
    ·refine⟨nk.map.frame (Below.heap_setCell _ _ _ _ (λe=>tT e.symm)),λe he=> ?_,nk.apart⟩;obtain⟨q1,q2,q3⟩:=nk.ok e he;have m1:=Ah e he;exact⟨q1,q2,q3.frame (Below.heap_setCell _ _ _ _ (λh=>Rr.out (by have:=sW _ m1.1;rw[h]at this;exact this))) (Below.heap_setCell _ _ _ _ (λh=>Rr.out (by have:=sW _ m1.2;rw[h]at this;exact this))) Ag⟩
    ·refine⟨hW.b4.map.frame ?_,λe he=> ?_,hW.b4.apart⟩
     ·rw[Below.heap_setCell _ _ _ _ (λe=>Af e.symm),pr.block m4 hW.b4.map.lt (λe=> ?_)];rcases e with e|e|e
      ·exact Ho e
      ·exact PV e.symm
      ·exact hW.b2.notMap hW.b4.map e
     ·obtain⟨q1,q2,q3⟩:=hW.b4.ok e he;have m1:=qh he;exact⟨q1,q2,q3.frame (h4n _ m1.1 q3.lt1) (h4n _ m1.2 q3.lt2) (Iw.le_trans Ag)⟩
    ·rw[List.flatMap_append,List.nodup_append];refine⟨nk.apart,Rj.2.1,λy hy z hz e=> ?_⟩;obtain⟨f,hf,C8⟩:=List.mem_flatMap.1 hy;have m1:=Ah f hf;simp only[List.mem_cons,List.not_mem_nil,or_false]at C8;rcases C8 with rfl|rfl
     ·exact Rj.2.2 _ m1.1 _ hz e
     ·exact Rj.2.2 _ m1.2 _ hz e
   have n_:∀w5,zq (λj=>j=m\/j=sm\/j∈zl cur2) wr w5->w5.cell? ⟨rt,1,none⟩=some (.int .u64 ver)/\w5.frozen? ⟨rt,1,none⟩=false:=λw5 pr=>by
    have hb:w5.heap[rt]? =w.heap[rt]? :=(pr.block rt (Nat.lt_of_lt_of_le pZ hW.mod.size) (λe=>by
     rcases e with e|e|e
     ·exact tT e
     ·rw[MX.out.noCell (a:=⟨rt,0,none⟩) e]at rM;cases rM
     ·exact Rr.out (sW _ e))).trans (hW.mod.block rt pZ (rnot rt rfl))
    exact⟨by rw[World.cell?_of_block hb];exact Pv,by rw[World.frozen?_of_block hb];exact It⟩
   have pj:=hid Hv;clear Hv;have L5:=hid n_;clear n_;have HC:=hid PE;clear PE;clear hW SJ sW tnot rnot snot;go_wp2_with fail;refine HC.out.mono ?_;rintro e w5 ⟨rfl,c2,sq',pr,nk,pC,Tm,EU,wu⟩;obtain⟨v1,v2⟩:=L5.out w5 pr;have HF:=hid (λver'=>pj.out w5 c2 sq' ver' pr nk pC Tm EU wu);clear pr nk pC Tm EU wu;go_wp2;go_returns;exact⟨rfl,HF.out _⟩
  ·obtain⟨sb,sa,u,Np,rfl⟩:=Qh Ss;have hR:w.heap.size<=w.heap.size:=Nat.le_refl _;have k1:∀{p:Addr} {y:Value},p.block<w.heap.size->wr.cell? p=some y->w1.cell? p=some y:=λ{p y} hp hc=>Hl.cell (λe=>by omega) hc;have c3:w1.cell? ⟨t,3,none⟩=some (.map (some m)):=k1 Mz (hW.mod.cell (tnot t rfl) h3);have c4:w1.cell? ⟨t,4,none⟩=some (.map (some sm)):=k1 Mz (hW.mod.cell (tnot t rfl) h4);have d0:w1.cell? ⟨rt,0,none⟩=some (.map (some m4)):=k1 pZ (hW.mod.cell (rnot rt rfl) rM);have BT:m4≠w.heap.size:=λe=>by
    obtain⟨aa,ck,s,n,c0,_,_,_,q4,_⟩:=hW.rng;obtain⟨a',ck',q5,_⟩:=hW.b4.map;rw[e,q4]at q5;cases q5
   have SJ:zD kY w1 sm sq:=(MX.out.frame (hW.mod.block _ MX.out.lt snot)).frame (Hl.block _ (Nat.lt_of_lt_of_le MX.out.lt hW.mod.size) (λe=>by have:=MX.out.lt;omega));have SK:zD kY w1 m4 (cur4.map vV):=hW.b4.map.frame (Hl.block _ hW.b4.map.lt BT);have Tn:=zD.look (P:=prog) (t:=239) (e:=300) Zd (by kernel_rfl) (z:=.pointer none) (by kernel_rfl) SK x true;have sH:∃b ok:Bool,∀w',zD kY w' sm sq->(Instr.lookup 286 (.map (some sm)) (kY x) true).run prog w'=.ok (.tuple #[.bool b,.bool ok]) w':=by
    cases hg:jq sq x with
    |none=>refine⟨false,false,λw' h'=> ?_⟩;have:=zD.look (P:=prog) (t:=286) (e:=4) Zd (by kernel_rfl) (z:=.bool false) (by kernel_rfl) h' x true;rw[hg]at this;exact this
    |some y=>obtain⟨b,hb⟩:=BR.out _ (Qb hg);simp only at hb;subst hb;refine⟨b,true,λw' h'=> ?_⟩;have:=zD.look (P:=prog) (t:=286) (e:=4) Zd (by kernel_rfl) (z:=.bool false) (by kernel_rfl) h' x true;rw[hg]at this;exact this
   obtain⟨b,ok,sH⟩:=sH;have Hb:=gc RQ;have LD:=hW.rng.left_eq;have Ma:=hid LD;clear LD;have RA:zM u:=hW.u2 _ Np;obtain⟨o1,o2,o3⟩:=hW.b2.ok _ Np;have tU:=qh Np;have cR:sb∈zl (cur2++cur4)/\sa∈zl (cur2++cur4):=by rw[zT];exact⟨List.mem_append_left _ tU.1,List.mem_append_left _ tU.2⟩
   obtain⟨nb1,nb2,nb3⟩:=hW.cells cR.1;obtain⟨na1,na2,na3⟩:=hW.cells cR.2;have To:js (im S w1) w1 sb sa u:=o3.frame (Hl.block _ o3.lt1 nb2) (Hl.block _ o3.lt2 na2) (Qi Hl λa e=>hW.rng.noCell (Or.inr e));cases hg:jq (cur4.map vV) x with
   |none=>
    rw[hg]at Tn;simp only[if_true]at Tn;obtain⟨w2,Sf,H9,Hq,_⟩:=zO.del (P:=prog) (t:=239) (e:=300) Zd (by kernel_rfl) NN x 0;have wk:zD kY w2 sm sq:=SJ.frame (Hq.block _ SJ.lt Hx);have MZ:zD kY w2 m4 (cur4.map vV):=SK.frame (Hq.block _ SK.lt Ho);have q4:w2.cell? ⟨t,4,none⟩=some (.map (some sm)):=Hq.cell a_ c4;have e0:w2.cell? ⟨rt,0,none⟩=some (.map (some m4)):=Hq.cell tT d0;have rj:js (im S w2) w2 sb sa u:=To.frame (Hq.block _ To.lt1 nb1) (Hq.block _ To.lt2 na1) (Qi Hq λa e=>NN.noCell (Or.inl e));have heN:=sH w2 wk;have Ai:(cur4.map vV).length<maxLen:=by have:=X_ _ hW.b4.keys;simp only[List.length_map]at this⊢;simp only[maxLen];omega
    have hgo:∀w9,za w2 w9->w9.cell? ⟨rt,0,none⟩=some (.map (some m4))/\∃w3,(Instr.mapUpdate 239 (.map (some m4)) (kY x) (ptr sb)).run prog w9=.ok () w3/\kJ S F w w3 m m4 w.heap.size e2 e4 (cur2.filter λe=>e.1≠x) (cur4++[(x,sb,sa,u)]) (yH left x):=λw9 R0=>by obtain⟨w3,pi,Aj,r6⟩:=zD.put (P:=prog) (t:=239) (e:=300) Zd (by kernel_rfl) (MZ.frame (R0.block _ MZ.lt (λe=>e))) Ai x (ptr sb);exact⟨R0.le _ _ e0,w3,pi,hW.move Ho Np hg NN Hl H9 Hq (zq.trans (za.mod R0 _) r6 λ_ _ e=>e) Aj⟩
    have HGO:=hid hgo;clear hgo;have ww:=hid (GO rj RA);clear hW SJ SK sH NN Hl H9 Hq wk MZ RQ Ss Np o1 o2 o3 To rj tnot rnot snot k1 hg e0;cases b<;>cases ok
    case false.true=>
     go_wp2_with (first|(at_delete;refine vI rfl rfl rfl rfl Sf ?_)|(go_at_call 89;go_must (refine ww.out.mono ?_);rintro e w9 ⟨rfl,R0⟩;obtain⟨e0,w3,pi,hN⟩:=HGO.out w9 R0;have HN:=hid hN;clear hN R0));go_roundw
     case rel=>exact⟨_,_,_,HN.out⟩
     case measure=>rw[HN.out.rng.left_eq,Ma.out];exact Hb
    all_goals
     obtain⟨e0,w3,pi,hN⟩:=HGO.out w2 (za.refl w2);have HN:=hid hN;clear hN;go_wp2_with (at_delete;refine vI rfl rfl rfl rfl Sf ?_);go_roundw
     case rel=>exact⟨_,_,_,HN.out⟩
     case measure=>rw[HN.out.rng.left_eq,Ma.out];exact Hb
   |some y=>
    rw[hg]at Tn;simp only[if_true]at Tn;obtain⟨bb,a,u4,M0,rfl⟩:=Qh (Qb hg);have Me:u4=[]:=hW.clean _ M0 _ RQ rfl;subst Me;obtain⟨u1,_⟩:=To.used;have heO:=sH w1 SJ;obtain⟨p1,p2,p3⟩:=hW.b4.ok _ M0;have tV:=qh M0;have cS:bb∈zl (cur2++cur4)/\a∈zl (cur2++cur4):=by rw[zT];exact⟨List.mem_append_right _ tV.1,List.mem_append_right _ tV.2⟩
    have Pb:js (im S w1) w1 bb a []:=p3.frame (Hl.block _ p3.lt1 (hW.cells cS.1).2.1) (Hl.block _ p3.lt2 (hW.cells cS.2).2.1) (Qi Hl λa e=>hW.rng.noCell (Or.inr e));have Rj:=hW.apart;rw[List.flatMap_append,List.nodup_append]at Rj;have M5:∀w9,za w1 w9->Calls prog 91 #[ptr bb,ptr sb] w9 λe w2=>e=.returned (.tuple #[])/\kJ S F w w2 m m4 w.heap.size e2 e4 cur2 (ya cur4 x u) (yH left x):=λw9 R0=>by refine(D5 (Sb.out _ p1) (Sb.out _ p2) (Pb.new R0) (To.new R0) (Rj.2.2 _ tU.1 _ tV.1) (Rj.2.2 _ tU.1 _ tV.2) (Rj.2.2 _ tU.2 _ tV.1) (Rj.2.2 _ tU.2 _ tV.2)).mono ?_;rintro e w2 ⟨rfl,Hq,pw⟩;exact⟨rfl,hW.merge Sb.out Ho Np M0 NN Hl (zq.trans (za.mod R0 _) Hq λ_ _ e=>e) pw⟩
    have HMG:=hid M5;clear M5;have LF:u.length<512:=To.2.1;have cU:2<=u.length->Calls prog 90 #[.iface 300 (ptr sb)] w1 λe w'=>e=.returned (.tuple #[])/\za w1 w':=λh2=>D6 (D7 (S:=S) RA) Ge To (by omega) (by omega);have bj:=hid cU;clear cU;have Rp:=hid (HMG.out w1 (za.refl w1));clear hW SJ SK sH NN Hl RQ Ss Np o1 o2 o3 To tnot rnot snot k1 hg p1 p2 p3 Pb Rj M0 RA;obtain⟨n,hn⟩:∃n,u.length=n:=⟨_,rfl⟩;rw[hn]at u1 LF;by_cases h2:2<=n
    ·have Ph:=hid (bj.out (by rw[hn];exact h2));have hug:decide ((1:Int)<(n:Int))=true:=by simp;omega
     clear hn;cases b<;>cases ok
     case false.true=>
      go_wp2_with (first|(go_at_call 90;go_must (refine Ph.out.mono ?_);rintro e w9 ⟨rfl,R0⟩;have HM9:=hid (HMG.out w9 R0);clear R0)|(go_at_call 91;go_must (refine HM9.out.mono ?_);rintro e w2 ⟨rfl,hn⟩;have HN:=hid hn;clear hn));go_roundw
      case rel=>exact⟨_,_,_,HN.out⟩
      case measure=>rw[HN.out.rng.left_eq,Ma.out];exact Hb
     all_goals
      go_wp2_with (go_at_call 91;go_must (refine Rp.out.mono ?_);rintro e w2 ⟨rfl,hn⟩;have HN:=hid hn;clear hn);go_roundw
      case rel=>exact⟨_,_,_,HN.out⟩
      case measure=>rw[HN.out.rng.left_eq,Ma.out];exact Hb
    ·have hug:decide ((1:Int)<(n:Int))=false:=by simp;omega
     clear hn;cases b<;>cases ok
     all_goals
      go_wp2_with (go_at_call 91;go_must (refine Rp.out.mono ?_);rintro e w2 ⟨rfl,hn⟩;have HN:=hid hn;clear hn);go_roundw
      case rel=>exact⟨_,_,_,HN.out⟩
      case measure=>rw[HN.out.rng.left_eq,Ma.out];exact Hb
variable{P:Program}{e:TypeId}{x:Nat}
theorem KD{w:World}{o:Nat}{c:Array Value}{fr:Nat×Nat}(hh:w.heap[b]? =some (.cells c e fr)){s:Nat}(hs:P.cellsOf e=s)(St:s≠0)
  (h1:byteOfCell P P.depth e (o % s)=some x):(byteOf ⟨b,o,none⟩).run P w=.ok (o/s*P.bytesOf e+x) w:=by
 subst hs;have hsh:w.shape? b=some (e,c.size):=by simp[World.shape?,hh]
 simp[byteOf,noView,viewAt,hsh,St,h1,Result.andThen]
variable{y:Nat}
theorem Qj{w:World}{o:Nat}{c:Array Value}{fr:Nat×Nat}(hh:w.heap[b]? =some (.cells c e fr)){s:Nat}(hs:P.cellsOf e=s)(St:s≠0)(cells bytes:Nat)
  (h1:byteOfCell P P.depth e (o % s)=some x)(h2:byteOfCell P P.depth e ((o+cells)% s)=some y):∃A,(partAt ⟨b,o,none⟩ cells bytes).run P w=.ok A w:=by
 refine⟨if (o+cells)/s*P.bytesOf e+y=o/s*P.bytesOf e+x+bytes then ⟨b,o+cells,none⟩else ⟨b,o+cells,some (o/s*P.bytesOf e+x+bytes)⟩,?_⟩;simp[partAt,KD hh hs St h1,KD hh hs St h2,Result.andThen]
def vA(w:World)(be db t rt:Nat):Prop:=∃n,w.heap[be]? =some (.cells #[.int .i64 n,ptr db,.int .i64 1000,ptr t,ptr rt,.pointer none,.int .u64 0,.nilIface,.nilFunc,.pointer none] 261 (0,0))
variable{C:List zZ}{be:Nat}{dv:Value}{wt:Bool}
theorem KE{w:World}{db:Nat}(hS:∀b,S b->b<w.heap.size)(pU:∃c,w.heap[be]? =some (.cells c 261 (0,0)))(hb:w.cell? ⟨be,1,none⟩=some (ptr db))(hd:w.cell? ⟨db,0,none⟩=some dv)(hD:jN (im S w) C dv)(Hx:C.length<=1000):
  Calls prog 88 #[ptr be,.bool wt] w λe w'=>∃tx,e=.returned (ptr tx)/\za w w'/\∃bs,kr (im S w) w' (λb=>w.heap.size<=b/\b<w'.heap.size) tx db wt bs/\bs.map (·.2)=C:=by
 have HB:=hid (D4 (wt:=wt) hS hd hD Hx);clear hS hd hD;obtain⟨cc,pU⟩:=pU;have tW:∀w',w'.heap[be]? =w.heap[be]? ->∃A,(partAt ⟨be,0,none⟩ 1 8).run prog w'=.ok A w':=λw' h'=>
  Qj (h'.trans pU) (s:=10) (x:=0) (y:=8) (by kernel_rfl) (by decide) 1 8 (by kernel_rfl) (by kernel_rfl)
 have Ro:=(Array.getElem?_eq_some_iff.1 pU).1;obtain⟨A,hA⟩:=tW w rfl;have HP:=hid tW;clear tW;go_enter func88,ntmps88;go_wp2_with (first|(go_at_call 105;go_must (refine HB.out.mono ?_);rintro e w1 ⟨rfl,hn,bs,ht,rZ,pL⟩;have HN:=hid hn;have HT:=hid ht;have BI:=hid rZ;obtain⟨A1,hA1⟩:=HP.out w1 (HN.out.block _ Ro (λe=>e));clear hn ht rZ)|go_in);go_returns;exact⟨_,rfl,HN.out,bs,HT.out.toF,BI.out⟩
theorem QN{w:World}{c:Array Value}(h:w.heap[t]? =some (.cells c 290 (0,0))):∃A,(partAt ⟨t,0,none⟩ 0 0).run prog w=.ok A w:=
 Qj h (s:=6) (x:=0) (y:=0) (by kernel_rfl) (by decide) 0 0 (by kernel_rfl) (by kernel_rfl)
theorem Kp{w:World}{c:Array Value}(h:w.heap[t]? =some (.cells c 252 (0,0))):∃A,(partAt ⟨t,0,none⟩ 0 0).run prog w=.ok A w:=
 Qj h (s:=6) (x:=0) (y:=0) (by kernel_rfl) (by decide) 0 0 (by kernel_rfl) (by kernel_rfl)
theorem Gf{w:World}{c:Array Value}(h:w.heap[t]? =some (.cells c 290 (0,0))):Calls prog 76 #[ptr t] w λe w'=>e=.returned (.tuple #[])/\w=w':=by obtain⟨A,hA⟩:=QN h;go_enter func76,ntmps76;go_wp2;go_returns;exact⟨rfl,rfl⟩
theorem f7{w:World}{c:Array Value}(h:w.heap[t]? =some (.cells c 290 (0,0))):Calls prog 225 #[ptr t] w λe w'=>e=.returned (.tuple #[])/\w=w':=by obtain⟨A,hA⟩:=QN h;go_enter func225,ntmps225;go_wp2;go_returns;exact⟨rfl,rfl⟩
theorem dU(w:World):(binOp .neq 1 .nilFunc .nilFunc).run prog w=.ok (.bool false) w:=by kernel_rfl
variable{pdel pend wtx:Nat}
theorem GQ{w:World}{m sm db:Nat}(h:qU w t wtx be pend m sm pdel)(hb:vA w be db t rt):Calls prog 331 #[ptr t] w λe w'=>e=.returned (.tuple #[])/\w=w':=by
 obtain⟨A,hA⟩:=QN h;obtain⟨n,hb⟩:=hb;have c1:w.cell? ⟨t,1,none⟩=some (ptr be):=by rw[cell_of_row w t 1 _ _ (0,0) h];rfl
 have c8:w.cell? ⟨be,8,none⟩=some .nilFunc:=by rw[cell_of_row w be 8 _ _ (0,0) hb];rfl
 go_enter func331,ntmps331;have P2:=dU w;go_wp2;go_returns;exact⟨rfl,rfl⟩
theorem Kq{w:World}{c:Array Value}(h:w.heap[t]? =some (.cells c 252 (0,0))):Calls prog 80 #[ptr t] w λe w'=>e=.returned (.tuple #[])/\w=w':=by obtain⟨A,hA⟩:=Kp h;go_enter func80,ntmps80;go_wp2;go_returns;exact⟨rfl,rfl⟩
theorem QO{w:World}{c:Array Value}(h:w.heap[t]? =some (.cells c 252 (0,0))):Calls prog 82 #[ptr t] w λe w'=>e=.returned (.tuple #[])/\w=w':=by obtain⟨A,hA⟩:=Kp h;go_enter func82,ntmps82;go_wp2;go_returns;exact⟨rfl,rfl⟩
theorem D8{w:World}{c:Array Value}(h:w.heap[t]? =some (.cells c 252 (0,0))):Calls prog 221 #[ptr t] w λe w'=>e=.returned (.tuple #[])/\w=w':=by obtain⟨A,hA⟩:=Kp h;go_enter func221,ntmps221;go_wp2;go_returns;exact⟨rfl,rfl⟩
theorem KF{w:World}{c:Array Value}(h:w.heap[t]? =some (.cells c 252 (0,0))):Calls prog 222 #[ptr t] w λe w'=>e=.returned (.tuple #[])/\w=w':=by obtain⟨A,hA⟩:=Kp h;go_enter func222,ntmps222;go_wp2;go_returns;exact⟨rfl,rfl⟩
theorem QP{w:World}{m sm db:Nat}(h:qU w t wtx be pend m sm pdel)(hb:vA w be db t rt)(hp:pend<1000):Calls prog 84 #[ptr t] w λe w'=>e=.returned (.tuple #[])/\∃n,w'=w.drewN n:=by
 obtain⟨n,hb⟩:=hb;have c1:w.cell? ⟨t,1,none⟩=some (ptr be):=by rw[cell_of_row w t 1 _ _ (0,0) h];rfl
 have c2:w.cell? ⟨t,2,none⟩=some (.int .i64 pend):=by rw[cell_of_row w t 2 _ _ (0,0) h];rfl
 have c8:w.cell? ⟨be,2,none⟩=some (.int .i64 1000):=by rw[cell_of_row w be 2 _ _ (0,0) hb];rfl
 have pD:decide ((1000:Int)<=(pend:Int))=false:=by simp;omega
 have RG:∀n:Nat,∃A,(partAt ⟨t,0,none⟩ 0 0).run prog (w.drewN n)=.ok A (w.drewN n):=λn=>QN (w:=w.drewN n) h;have HP:=hid RG;clear RG;go_enter func84,ntmps84;go_wp2;go_quiet (fail);obtain⟨A,hA⟩:=HP.out nq;go_wp2;go_returns;exact⟨rfl,_,rfl⟩
theorem D9{w:World}{n:Int}{mu:Nat}{tx cmv wgv:Value}(hS:∀j,S j->j<w.heap.size)(pG:∀j,F j->S j)(Ir:S rt)(bm:S m4)(Py:rt∉zl e4)
  (PF:w.heap[rt]? =some (.cells #[.map (some m4),.int .u64 n,ptr mu,tx,cmv,wgv] 252 (0,0)))(h4:zQ (im S w) w F m4 e4):
  Calls prog 86 #[ptr rt] w λe w'=>e=.returned (.tuple #[])/\∃(cm wg:Nat) (cur:zY),zq (λj=>j=rt\/j=m4\/j∈zl e4) w w'/\
   w'.heap[rt]? =some (.cells #[.map (some m4),.int .u64 n,ptr mu,.pointer none,.map (some cm),ptr wg] 252 (0,0))/\zD kY w' cm []/\w.heap.size<=cm/\zQ (im S w') w' F m4 cur/\(∀e∈cur,e.2.2.2=[])/\
   (∀e∈cur,∃f∈e4,f.1=e.1/\f.2.1=e.2.1/\f.2.2.1=e.2.2.1):=by
 have c0:w.cell? ⟨rt,0,none⟩=some (.map (some m4)):=by rw[cell_of_row w rt 0 _ _ (0,0) PF];rfl
 have Mb:rt≠m4:=λe=>by rw[h4.map.noCell (a:=⟨rt,0,none⟩) e]at c0;cases c0
 have HB:=hid (Xr hS pG c0 Py h4);have pZ:=World.block_lt_of_cell? w _ c0;have LG:=hid PF;clear PF;have Rr:=hid Py;clear Py;have HS:=hid hS;clear hS;have Sb:=hid pG;clear pG;have H4:=hid h4;clear h4;go_enter func86,ntmps86;go_wp2_with fail;refine HB.out.mono ?_;rintro e w1 ⟨rfl,cur,Hl,Pb,PZ,pI⟩;have Pv:w1.heap[rt]? =some (.cells #[.map (some m4),.int .u64 n,ptr mu,tx,cmv,wgv] 252 (0,0)):=by rw[Hl.block rt pZ (λe=>by rcases e with e|e;exact Mb e;exact Rr.out e)];exact LG.out
 have k3:w1.cell? ⟨rt,3,none⟩=some tx:=by rw[cell_of_row w1 rt 3 _ _ (0,0) Pv];rfl
 have k4:w1.cell? ⟨rt,4,none⟩=some cmv:=by rw[cell_of_row w1 rt 4 _ _ (0,0) Pv];rfl
 have k5:w1.cell? ⟨rt,5,none⟩=some wgv:=by rw[cell_of_row w1 rt 5 _ _ (0,0) Pv];rfl
 have f3:w1.frozen? ⟨rt,3,none⟩=false:=by simp[World.frozen?,Pv]
 have f4:w1.frozen? ⟨rt,4,none⟩=false:=by simp[World.frozen?,Pv]
 have f5:w1.frozen? ⟨rt,5,none⟩=false:=by simp[World.frozen?,Pv]
 have heS:rt<w1.heap.size:=Nat.lt_of_lt_of_le pZ Hl.size;have Rp:=hid Hl;clear Hl;have Rq:=hid Pb;clear Pb;have ES:=hid PZ;clear PZ;have RV:=hid pI;clear pI;have tD:=hid Pv;clear Pv;have Su:= @run_makeMap prog;go_wp2;go_returns;refine⟨rfl,?_⟩;have mI:(((w1.setCell ⟨rt,4,none⟩ (.map (some w1.heap.size))).setCell ⟨rt,3,none⟩ (.pointer none)).setCell ⟨rt,5,none⟩ (ptr (w1.heap.size+1))).heap[rt]? =some (.cells #[.map (some m4),.int .u64 n,ptr mu,.pointer none,.map (some w1.heap.size),ptr (w1.heap.size+1)] 252 (0,0)):=by rw[heap_setCell_same _ rt 5 _ _ _ (heap_setCell_same _ rt 3 _ _ _ (heap_setCell_same w1 rt 4 _ _ _ tD.out))];rfl
 have r6:zq (· =rt) w1 (((w1.setCell ⟨rt,4,none⟩ (.map (some w1.heap.size))).setCell ⟨rt,3,none⟩ (.pointer none)).setCell ⟨rt,5,none⟩ (ptr (w1.heap.size+1))):=
  vx (S:=(· =rt)) (vx (S:=(· =rt)) (vx (S:=(· =rt)) (zq.refl _ _) rfl _) rfl _) rfl _
 have pL:(((w1.setCell ⟨rt,4,none⟩ (.map (some w1.heap.size))).setCell ⟨rt,3,none⟩ (.pointer none)).setCell ⟨rt,5,none⟩ (ptr (w1.heap.size+1))).heap.size=w1.heap.size:=by simp[World.setCell]
 generalize(((w1.setCell ⟨rt,4,none⟩ (.map (some w1.heap.size))).setCell ⟨rt,3,none⟩ (.pointer none)).setCell ⟨rt,5,none⟩ (ptr (w1.heap.size+1)))=W at*
 have Ak:zq (· =rt) w1 ((W.alloc (.map #[] 0)).alloc (.cells #[] 246)):=(r6.alloc _).alloc _;have hY:(im S w1).le (im S ((W.alloc (.map #[] 0)).alloc (.cells #[] 246))):=(Ak.mono (S':=S) λ_ _ e=>by rw[e];exact Ir).im λ_ _ h=>h;have Lu:∀e∈cur,e.2.1∈zl e4/\e.2.2.1∈zl e4:=λe he=>by obtain⟨f,hf,_,f1,f2⟩:=RV.out e he;rw[<-f1,<-f2];exact qh hf
 refine⟨w1.heap.size,w1.heap.size+1,cur,(Rp.out.mono λj _ e=>Or.inr e).trans (Ak.mono λj _ e=>Or.inl e) λ_ _ e=>e,?_,?_,Rp.out.size,⟨Rq.out.map.frame (Ak.block _ Rq.out.map.lt (λe=>Mb e.symm)),λe he=> ?_,Rq.out.apart⟩,ES.out,RV.out⟩
 ·rw[Below.heap_alloc _ _ _ (by simp;omega),Below.heap_alloc _ _ _ (by omega)];exact mI
 ·have h0:=zD.made kY W;rw[pL]at h0;exact h0.frame (Below.heap_alloc _ _ _ (by simp;omega))
 ·obtain⟨q1,q2,q3⟩:=Rq.out.ok e he;have m1:=Lu e he;exact⟨q1,q2,q3.frame (Ak.block _ q3.lt1 (λh=>Rr.out (by have:=m1.1;rw[h]at this;exact this))) (Ak.block _ q3.lt2 (λh=>Rr.out (by have:=m1.2;rw[h]at this;exact this))) hY⟩
theorem f8{w:World}{m sm:Nat}(h:qU w t wtx be 0 m sm pdel):Calls prog 87 #[ptr t,.bool false] w λe w'=>e=.returned (.tuple #[])/\w=w':=by
 have c0:w.cell? ⟨t,0,none⟩=some (ptr wtx):=by rw[cell_of_row w t 0 _ _ (0,0) h];rfl
 have c2:w.cell? ⟨t,2,none⟩=some (.int .i64 0):=by rw[cell_of_row w t 2 _ _ (0,0) h];rfl
 go_enter func87,ntmps87;go_wp2;go_returns;exact⟨rfl,rfl⟩
theorem GR{w:World}{m sm db:Nat}{bs:List (Nat×zZ)}(hS:∀b,S b->b<w.heap.size)(pG:∀b,F b->S b)(SE:S t)(mi:S be)(bo:S db)(TM: ¬F t)(sf: ¬F be)(hFd: ¬F db)(hp:0<pend)
  (Pd:qU w t wtx be pend m sm pdel)(pU:vA w be db t rt)(rE:w.heap[db]? =some (.cells #[dv] 79 (0,0)))(h:kr (im S w) w F wtx db true bs)(Hx:bs.length<=1000):
  Calls prog 87 #[ptr t,.bool false] w λe w'=>e=.returned (.tuple #[])/\∃(tx':Nat) (F':Nat->Prop) (bs':List (Nat×zZ)) (dv':Value),
   zq (λj=>j=t\/j=be\/j=db\/F j) w w'/\(∀j,F' j->w.heap.size<=j/\j<w'.heap.size)/\qU w' t tx' be 0 m sm pdel/\vA w' be db t rt/\w'.heap[db]? =some (.cells #[dv'] 79 (0,0))/\jN (im (λj=>S j\/F' j) w') (bs.map (·.2)) dv'/\
   kr (im (λj=>S j\/F' j) w') w' F' tx' db true bs'/\bs'.map (·.2)=bs.map (·.2):=by
 obtain⟨nb,pU⟩:=pU;have EW:=h.ftx;have c0:w.cell? ⟨t,0,none⟩=some (ptr wtx):=by rw[cell_of_row w t 0 _ _ (0,0) Pd];rfl
 have c2:w.cell? ⟨t,2,none⟩=some (.int .i64 pend):=by rw[cell_of_row w t 2 _ _ (0,0) Pd];rfl
 have hwt:wtx≠t:=λe=>TM (by rw[<-e];exact EW);have EY:wtx≠be:=λe=>sf (by rw[<-e];exact EW);have Ix:db≠t:=λe=>by unfold qU at Pd;rw[e,Pd]at rE;simp at rE
 have Al:db≠be:=λe=>by rw[e,pU]at rE;simp at rE
 have mH:t≠be:=λe=>by unfold qU at Pd;rw[e,pU]at Pd;simp at Pd
 have mB:((pend:Int)==0)=false:=by simp;omega
 have HC:=hid (GH hS (pG _ EW) bo h rE Hx);have Pi:∀w1,zq (λb=>b=wtx\/b=db) w w1->w1.heap[t]? =some (.cells #[ptr wtx,ptr be,.int .i64 pend,.map (some m),.map (some sm),.int .i64 pdel] 290 (0,0))/\
   w1.heap[be]? =some (.cells #[.int .i64 nb,ptr db,.int .i64 1000,ptr t,ptr rt,.pointer none,.int .u64 0,.nilIface,.nilFunc,.pointer none] 261 (0,0)):=λw1 hm=>by
  refine⟨(hm.block t (Array.getElem?_eq_some_iff.1 Pd).1 (λe=> ?_)).trans Pd,(hm.block be (Array.getElem?_eq_some_iff.1 pU).1 (λe=> ?_)).trans pU⟩
  ·rcases e with e|e
   ·exact hwt e.symm
   ·exact Ix e.symm
  ·rcases e with e|e
   ·exact EY e.symm
   ·exact Al e.symm
 have rT:=hid Pi;clear Pi;have HS:=hid hS;clear hS;have Sb:=hid pG;clear pG;have Ro:=(Array.getElem?_eq_some_iff.1 pU).1;clear h Pd pU rE;go_enter func87,ntmps87;go_wp2_with fail;refine HC.out.mono ?_;rintro e w1 ⟨rfl,Hl,dv',PS,hD1⟩;obtain⟨sU,Pb⟩:=rT.out w1 Hl;have k2:w1.cell? ⟨t,2,none⟩=some (.int .i64 pend):=by rw[cell_of_row w1 t 2 _ _ (0,0) sU];rfl
 have k1:w1.cell? ⟨t,1,none⟩=some (ptr be):=by rw[cell_of_row w1 t 1 _ _ (0,0) sU];rfl
 have k0:w1.cell? ⟨t,0,none⟩=some (ptr wtx):=by rw[cell_of_row w1 t 0 _ _ (0,0) sU];rfl
 have fk2:w1.frozen? ⟨t,2,none⟩=false:=by simp[World.frozen?,sU]
 have b0:w1.cell? ⟨be,0,none⟩=some (.int .i64 nb):=by rw[cell_of_row w1 be 0 _ _ (0,0) Pb];rfl
 have fb0:w1.frozen? ⟨be,0,none⟩=false:=by simp[World.frozen?,Pb]
 obtain⟨nb',rV⟩:∃nb',nb'=wrap64 (nb+1):=⟨_,rfl⟩;obtain⟨w2,PO⟩:=zex ((w1.setCell ⟨be,0,none⟩ (.int .i64 nb')).setCell ⟨t,2,none⟩ (.int .i64 0));have SG:w2.heap[t]? =some (.cells #[ptr wtx,ptr be,.int .i64 ((0:Nat):Int),.map (some m),.map (some sm),.int .i64 pdel] 290 (0,0)):=by rw[PO,heap_setCell_same _ t 2 _ _ _ ((Below.heap_setCell _ _ _ _ mH).trans sU)];rfl
 have pw:w2.heap[be]? =some (.cells #[.int .i64 nb',ptr db,.int .i64 1000,ptr t,ptr rt,.pointer none,.int .u64 0,.nilIface,.nilFunc,.pointer none] 261 (0,0)):=by rw[PO,Below.heap_setCell _ _ _ _ (λe=>mH e.symm),heap_setCell_same w1 be 0 _ _ _ Pb];rfl
 have Pe:w2.heap[db]? =some (.cells #[dv'] 79 (0,0)):=by rw[PO,Below.heap_setCell _ _ _ _ Ix,Below.heap_setCell _ _ _ _ Al];exact PS
 have Hq:zq (λj=>j=t\/j=be) w1 w2:=by rw[PO];exact vx (S:=λj=>j=t\/j=be) (vx (S:=λj=>j=t\/j=be) (zq.refl _ _) (Or.inr rfl) _) (Or.inl rfl) _
 have BS:jN (im S w2) (bs.map (·.2)) dv':=hD1.mono ((Hq.mono (S':=S) λj _ e=>by rcases e with rfl|rfl;exact SE;exact mi).im λ_ _ h=>h);have NQ:=KE (S:=S) (w:=w2) (be:=be) (db:=db) (dv:=dv') (wt:=true) (C:=bs.map (·.2)) (λj e=>Nat.lt_of_lt_of_le (HS.out j e) (Nat.le_trans Hl.size Hq.size)) ⟨_,pw⟩ (by rw[cell_of_row w2 be 1 _ _ (0,0) pw];rfl) (by rw[cell_of_row w2 db 0 _ _ (0,0) Pe];rfl) BS (by simpa using Hx);have Am:=hid NQ;clear NQ;have Rp:=hid Hl;clear Hl;have mC:=hid Hq;clear Hq;have cV:=hid SG;clear SG;have SB:=hid pw;clear pw;have Nl:=hid Pe;clear Pe;have ww:=hid BS;clear BS;have rh:w2.cell? ⟨t,1,none⟩=some (ptr be):=by rw[cell_of_row w2 t 1 _ _ (0,0) cV.out];rfl
 clear hD1 PS;go_wp2_with fail;rw[<-rV,<-PO];refine Am.out.mono ?_;rintro e w3 ⟨tx',rfl,Hg,bs',P0,An⟩;have k3:w3.cell? ⟨t,0,none⟩=some (ptr wtx):=Hg.le _ _ (by rw[cell_of_row w2 t 0 _ _ (0,0) cV.out];rfl);have h3:=Hg.heap cV.out;have f3:w3.frozen? ⟨t,0,none⟩=false:=by simp[World.frozen?,h3]
 have Rb:=hid Hg;clear Hg;have sI:=hid P0;clear P0;have BI:=hid An;clear An;have H3:=hid h3;clear h3;go_wp2;go_returns;have LB:zq (· =t) w3 (w3.setCell ⟨t,0,none⟩ (ptr tx')):=vx (S:=(· =t)) (zq.refl _ _) rfl _;have heU:t<w2.heap.size:=(Array.getElem?_eq_some_iff.1 cV.out).1;have heV:w.heap.size<=w2.heap.size:=Nat.le_trans Rp.out.size mC.out.size;have hF':∀j,(w2.heap.size<=j/\j<w3.heap.size)->¬S j:=λj e hs=>by have:=HS.out j hs;omega
 have hY:(im S w2).le (im (λj=>S j\/(w2.heap.size<=j/\j<w3.heap.size)) (w3.setCell ⟨t,0,none⟩ (ptr tx'))):=
  (zq.trans (za.mod Rb.out S) (LB.mono (S':=S) λ_ _ e=>by rw[e];exact SE) λ_ _ e=>e).im λj hj e=>by
   rcases e with e|e
   ·exact e
   ·omega
 refine⟨rfl,tx',λj=>w2.heap.size<=j/\j<w3.heap.size,bs',dv',?_,?_,?_,⟨nb',?_⟩,?_,ww.out.mono hY,?_,BI.out⟩
 ·refine zq.trans (zq.trans (zq.trans (Rp.out.mono λj _ e=> ?_) (mC.out.mono λj _ e=> ?_) λ_ _ e=>e) Rb.out λ_ _ e=>e.elim) LB λj _ e=>Or.inl e
  ·rcases e with e|e
   ·exact Or.inr (Or.inr (Or.inr (by rw[e];exact EW)))
   ·exact Or.inr (Or.inr (Or.inl e))
  ·rcases e with e|e
   ·exact Or.inl e
   ·exact Or.inr (Or.inl e)
 ·intro j e;refine⟨by omega,?_⟩;have:(w3.setCell ⟨t,0,none⟩ (ptr tx')).heap.size=w3.heap.size:=by simp[World.setCell]
  exact Nat.lt_of_lt_of_le e.2 (Nat.le_of_eq this.symm)
 ·unfold qU;rw[heap_setCell_same w3 t 0 _ _ _ H3.out];rfl
 ·rw[Below.heap_setCell _ _ _ _ (λe=>mH e.symm)];exact Rb.out.heap SB.out
 ·rw[Below.heap_setCell _ _ _ _ Ix];exact Rb.out.heap Nl.out
 ·exact sI.out.frame (λj e=>Below.heap_setCell _ _ _ _ (λe2=>by subst e2;omega)) hY
theorem f_{w:World}{m sm db:Nat}{bs:List (Nat×zZ)}(hS:∀b,S b->b<w.heap.size)(pG:∀b,F b->S b)(SE:S t)(mi:S be)(bo:S db)(TM: ¬F t)(sf: ¬F be)(hFd: ¬F db)
  (Pd:qU w t wtx be pend m sm pdel)(pU:vA w be db t rt)(rE:w.heap[db]? =some (.cells #[dv] 79 (0,0)))(hD:jN (im S w) C dv)(h:kr (im S w) w F wtx db true bs)(Hx:bs.length<=1000)(rD:pend=0->C=bs.map (·.2)):
  Calls prog 87 #[ptr t,.bool false] w λe w'=>e=.returned (.tuple #[])/\∃(tx':Nat) (F':Nat->Prop) (bs':List (Nat×zZ)) (dv':Value),
   zq (λj=>j=t\/j=be\/j=db\/F j) w w'/\(∀j,F' j->w.heap.size<=j/\j<w'.heap.size)/\qU w' t tx' be 0 m sm pdel/\vA w' be db t rt/\w'.heap[db]? =some (.cells #[dv'] 79 (0,0))/\jN (im (λj=>S j\/F' j) w') (bs.map (·.2)) dv'/\
   kr (im (λj=>S j\/F' j) w') w' (λj=>F j\/F' j) tx' db true bs'/\bs'.map (·.2)=bs.map (·.2):=by
 by_cases hp:pend=0
 ·subst hp;refine(f8 Pd).mono ?_;rintro e w' ⟨rfl,rfl⟩;have hY:(im S w).le (im (λj=>S j\/False) w):=jn λj e=>e.elim id False.elim;refine⟨rfl,wtx,λ_=>False,bs,dv,zq.refl _ _,λ_ e=>e.elim,Pd,pU,rE,by rw[<-rD rfl];exact hD.mono hY,(h.frame (λ_ _=>rfl) hY).mono λ_ e=>Or.inl e,rfl⟩
 ·refine(GR hS pG SE mi bo TM sf hFd (Nat.pos_of_ne_zero hp) Pd pU rE h Hx).mono ?_;rintro e w' ⟨rfl,tx',F',bs',dv',h1,h2,h3,h4,h5,h6,h7,h8⟩;exact⟨rfl,tx',F',bs',dv',h1,h2,h3,h4,h5,h6,h7.mono λ_ e=>Or.inr e,h8⟩
theorem qU.cells{w:World}{m sm:Nat}(h:qU w t wtx be pend m sm pdel):w.cell? ⟨t,0,none⟩=some (ptr wtx)/\w.cell? ⟨t,1,none⟩=some (ptr be)/\w.cell? ⟨t,2,none⟩=some (.int .i64 pend)/\w.cell? ⟨t,5,none⟩=some (.int .i64 pdel):=by unfold qU at h;refine⟨?_,?_,?_,?_⟩<;>rw[cell_of_row w t _ _ _ (0,0) h]<;>rfl
theorem vA.cells{w:World}{db:Nat}(h:vA w be db t rt):w.cell? ⟨be,1,none⟩=some (ptr db)/\w.cell? ⟨be,2,none⟩=some (.int .i64 1000)/\w.cell? ⟨be,3,none⟩=some (ptr t)/\w.cell? ⟨be,4,none⟩=some (ptr rt)/\w.cell? ⟨be,7,none⟩=some .nilIface/\w.cell? ⟨be,8,none⟩=some .nilFunc:=by obtain⟨n,h⟩:=h;refine⟨?_,?_,?_,?_,?_,?_⟩<;>rw[cell_of_row w be _ _ _ (0,0) h]<;>rfl
theorem vA.frame{w:World}{db:Nat}(h:vA w be db t rt)(hb:w'.heap[be]? =w.heap[be]?):vA w' be db t rt:=by obtain⟨n,h⟩:=h;exact⟨n,hb.trans h⟩
theorem qU.frame{w:World}{m sm:Nat}(h:qU w t wtx be pend m sm pdel)(hb:w'.heap[t]? =w.heap[t]?):qU w' t wtx be pend m sm pdel:=hb.trans h
theorem vA.lt{w:World}{db:Nat}(h:vA w be db t rt):be<w.heap.size:=by obtain⟨n,h⟩:=h;exact(Array.getElem?_eq_some_iff.1 h).1
theorem qU.lt{w:World}{m sm:Nat}(h:qU w t wtx be pend m sm pdel):t<w.heap.size:=(Array.getElem?_eq_some_iff.1 h).1
structure kt(w:World)(t be db rt m sm:Nat)(c3:Value):Prop where
 bt:∃wtx pend pdel,qU w t wtx be pend m sm pdel
 be:vA w be db t rt
 rt:∃c:Array Value,w.heap[rt]? =some (.cells c 252 (0,0))/\c[3]? =some c3
variable{c3:Value}
theorem kt.cells{w:World}{db m sm:Nat}(h:kt w t be db rt m sm c3):w.cell? ⟨t,1,none⟩=some (ptr be)/\w.cell? ⟨be,4,none⟩=some (ptr rt)/\w.cell? ⟨be,7,none⟩=some .nilIface/\w.cell? ⟨rt,3,none⟩=some c3/\w.frozen? ⟨rt,3,none⟩=false/\
  (∃v,w.cell? ⟨t,5,none⟩=some v)/\w.frozen? ⟨t,5,none⟩=false:=by
 obtain⟨⟨wtx,pend,pdel,h1⟩,h2,c,h3,h4⟩:=h;exact⟨h1.cells.2.1,h2.cells.2.2.2.1,h2.cells.2.2.2.2.1,by rw[cell_of_row w rt 3 _ _ (0,0) h3];exact h4,by simp[World.frozen?,h3],⟨_,h1.cells.2.2.2⟩,h1.frozen 5⟩
theorem VZ{w:World}{db m sm rtx:Nat}{R1 R2 R3:World->Prop}{R4:Nat->World->Prop}
  (h0:kt w t be db rt m sm (ptr rtx))
  (cW:Calls prog 85 #[ptr rtx] w λe w'=>e=.returned .nilIface/\kt w' t be db rt m sm (ptr rtx)/\R1 w')
  (M6:∀w1,R1 w1->Calls prog 86 #[ptr rt] w1 λe w'=>e=.returned (.tuple #[])/\kt w' t be db rt m sm (.pointer none)/\R2 w')
  (NY:∀w2,R2 w2->Calls prog 87 #[ptr t,.bool false] w2 λe w'=>e=.returned (.tuple #[])/\kt w' t be db rt m sm (.pointer none)/\R3 w')
  (M7:∀w3,R3 w3->kt (w3.setCell ⟨t,5,none⟩ (.int .i64 0)) t be db rt m sm (.pointer none)/\∀w4,w4=(w3.setCell ⟨t,5,none⟩ (.int .i64 0)).drew->Calls prog 88 #[ptr be,.bool false] w4 λe w'=>∃tx',e=.returned (ptr tx')/\kt w' t be db rt m sm (.pointer none)/\R4 tx' w'):
  Calls prog 81 #[ptr t,.bool false] w λe w'=>e=.returned (.tuple #[])/\∃tx' w4,R4 tx' w4/\kt w4 t be db rt m sm (.pointer none)/\w'=w4.setCell ⟨rt,3,none⟩ (ptr tx'):=by
 obtain⟨a1,a4,a7,a3,_,_,_⟩:=h0.cells;have HR:=hid cW;clear cW;have HS:=hid M6;clear M6;have HC:=hid NY;clear NY;have HB:=hid M7;clear M7;clear h0;go_enter func81,ntmps81;go_wp2_with fail;refine HR.out.mono ?_;rintro e w1 ⟨rfl,k1,r1⟩;obtain⟨b1,b4,_,_,_,_,_⟩:=k1.cells;have R1':=hid r1;clear r1;clear k1 a1 a4 a7 a3;go_wp2_with fail;refine(HS.out w1 R1'.out).mono ?_;rintro e w2 ⟨rfl,k2,r2⟩;obtain⟨c1,c4,_,_,_,_,_⟩:=k2.cells;have R2':=hid r2;clear r2;clear k2 b1 b4;go_wp2_with fail;refine(HC.out w2 R2'.out).mono ?_;rintro e w3 ⟨rfl,k3,r3⟩;obtain⟨d1,d4,_,_,_,⟨v5,d5⟩,d5f⟩:=k3.cells;obtain⟨k3',NQ⟩:=HB.out w3 r3;obtain⟨e1,e4,_,e3,e3f,_,_⟩:=k3'.cells;have Am:=hid NQ;clear NQ;clear k3 k3' r3 c1 c4;go_wp2_with fail;generalize w3.setCell ⟨t,5,none⟩ (.int .i64 0)=w3' at*
 go_region_with (go_at_call 88;refine(Am.out _ rfl).mono ?_;rintro e w4 ⟨tx',rfl,k4,r4⟩;obtain⟨g1,g4,_,g3,g3f,_,_⟩:=k4.cells;have K4:=hid k4;have R4':=hid r4;clear k4 r4)
 all_goals
  go_wp2;go_returns;exact⟨rfl,tx',w4,R4'.out,K4.out,rfl⟩
structure Z9(l:zu)(w:World)(I:zN)(tv:Value)(cs:List (zF×Value))(C:List zZ)(wb:List (Nat×zZ))(pend pdel:Nat)(e2 e4:zY):Prop where
 bnd:∀b,l b≠0->b<w.heap.size
 lab:l I.be=1/\l I.t=2/\l I.rt=3/\l I.db=4/\l I.m=5/\l I.sm=6/\l I.m4=7/\l I.cm=8
 be:vA w I.be I.db I.t I.rt
 bt:qU w I.t I.wtx I.be pend I.m I.sm pdel
 rt:∃(n:Int) (mu wg:Nat),w.heap[I.rt]? =some (.cells #[.map (some I.m4),.int .u64 n,ptr mu,tv,.map (some I.cm),ptr wg] 252 (0,0))
 db:∃dv,w.heap[I.db]? =some (.cells #[dv] 79 (0,0))/\jN (im l.some w) C dv
 wtx:kr (im l.some w) w (l.is 9) I.wtx I.db true wb
 buf2:zQ (im l.some w) w (l.is 11) I.m e2
 buf4:zQ (im l.some w) w (l.is 11) I.m4 e4
 apart:((e2++e4).flatMap λe=>[e.2.1,e.2.2.1]).Nodup
 sq:∃sq,zD kY w I.sm sq/\k_ sq
 cm:zD kY w I.cm cs
variable{l:zu}{rb wb:List (Nat×zZ)}
theorem jX.toC{w:World}{I:zN}(h:jX l w I C wb rb pend pdel e2 e4):∃cs,Z9 l w I (ptr I.rtx) cs C wb pend pdel e2 e4/\(∀c∈cs,∃x∈rb,x.2.1=c.1.name/\c.2=ptr x.1):=by obtain⟨h1,h2,h3,h4,⟨n,mu,wg,h5⟩,h6,h8,h9,Tj,sg,Tk,⟨sq,tB,sh⟩,⟨cs,NW,LA⟩⟩:=h;exact⟨cs,⟨h1,h2,h3,h4,⟨n,mu,wg,h5⟩,h6,h8,Tj,sg,Tk,⟨sq,tB,sh⟩,NW⟩,LA⟩
theorem Z9.toS{w:World}{I:zN}{cs:List (zF×Value)}(h:Z9 l w I (ptr I.rtx) cs C wb pend pdel e2 e4)(hr:kr (im l.some w) w (l.is 10) I.rtx I.db false rb)
  (hc:∀c∈cs,∃x∈rb,x.2.1=c.1.name/\c.2=ptr x.1):jX l w I C wb rb pend pdel e2 e4:=by
 obtain⟨h1,h2,h3,h4,h5,h6,h8,Tj,sg,Tk,⟨sq,tB,sh⟩,NW⟩:=h;exact⟨h1,h2,h3,h4,h5,h6,h8,hr,Tj,sg,Tk,⟨sq,tB,sh⟩,⟨cs,NW,hc⟩⟩
structure zdp(T:Nat->Prop)(l l':zu)(w w':World)(I:zN)(tv:Value)(cs:List (zF×Value))(C:List zZ)(wb:List (Nat×zZ))(pend pdel:Nat)(e2 e4:zY):Prop where
 bnd:∀b,l' b≠0->b<w'.heap.size
 lab:l' I.be=1/\l' I.t=2/\l' I.rt=3/\l' I.db=4/\l' I.m=5/\l' I.sm=6/\l' I.m4=7/\l' I.cm=8
 le:(im l.some w).le (im l'.some w')
 be: ¬T 1->vA w' I.be I.db I.t I.rt
 bt: ¬T 2->qU w' I.t I.wtx I.be pend I.m I.sm pdel
 rt: ¬T 3->∃(n:Int) (mu wg:Nat),w'.heap[I.rt]? =some (.cells #[.map (some I.m4),.int .u64 n,ptr mu,tv,.map (some I.cm),ptr wg] 252 (0,0))
 db: ¬T 4->∃dv,w'.heap[I.db]? =some (.cells #[dv] 79 (0,0))/\jN (im l'.some w') C dv
 wtx: ¬T 9->kr (im l'.some w') w' (l'.is 9) I.wtx I.db true wb
 buf2: ¬T 5->¬T 11->zQ (im l'.some w') w' (l'.is 11) I.m e2
 buf4: ¬T 7->¬T 11->zQ (im l'.some w') w' (l'.is 11) I.m4 e4
 sq: ¬T 6->∃sq,zD kY w' I.sm sq/\k_ sq
 cm: ¬T 8->zD kY w' I.cm cs
variable{l':zu}{tv:Value}
theorem Z9.kept{w:World}{I:zN}{cs:List (zF×Value)}(h:Z9 l w I tv cs C wb pend pdel e2 e4)(hs:zB l w l' w')(T:Nat->Prop)
  (hT:∀j,l.own j->T (l j)\/w'.heap[j]? =w.heap[j]?):zdp T l l' w w' I tv cs C wb pend pdel e2 e4:=by
 obtain⟨h1,⟨l1,l2,l3,l4,l5,l6,l7,l8⟩,h3,h4,⟨n,mu,wg,h5⟩,⟨dv,h6,h7⟩,h8,Tj,sg,Tk,⟨sq,tB,sh⟩,NW⟩:=h;have bnd:∀{j n},l j=n->n≠0->j<w.heap.size:=λe h0=>h1 _ (by rw[e];exact h0);have lab:∀{j n},l j=n->n≠0->l' j=n:=λe h0=>(hs.old _ (bnd e h0)).trans e;have same:∀{j n},l j=n->n≠0->n<=11->¬T n->w'.heap[j]? =w.heap[j]? :=λ{j n} e h0 sg ht=>by
  rcases hT j ⟨by rw[e];exact h0,by rw[e];exact sg⟩with e2|e2
  ·rw[e]at e2;exact absurd e2 ht
  ·exact e2
 have d:∀n,0<n->n≠0:=λn h=>Nat.ne_of_gt h;have buf:∀{m:Nat} {e:zY} {n:Nat},l m=n->n≠0->n<=11->¬T n->¬T 11->zQ (im l.some w) w (l.is 11) m e->zQ (im l'.some w') w' (l'.is 11) m e:=λ{m e n} hm h0 sg ht SG hb=>by have:=hb.frame (w':=w') (same hm h0 sg ht) (λj hj=>same hj (by decide) (by decide) SG) hs.le;exact⟨this.map,λx hx=>⟨lab (this.ok x hx).1 (by decide),lab (this.ok x hx).2.1 (by decide),(this.ok x hx).2.2⟩,this.apart⟩
 exact{
  bnd:=hs.bnd
  lab:=⟨lab l1 (by decide),lab l2 (by decide),lab l3 (by decide),lab l4 (by decide),lab l5 (by decide),lab l6 (by decide),lab l7 (by decide),lab l8 (by decide)⟩
  le:=hs.le
  be:=λht=>h3.frame (same l1 (by decide) (by decide) ht)
  bt:=λht=>h4.frame (same l2 (by decide) (by decide) ht)
  rt:=λht=>⟨n,mu,wg,(same l3 (by decide) (by decide) ht).trans h5⟩
  db:=λht=>⟨dv,(same l4 (by decide) (by decide) ht).trans h6,h7.mono hs.le⟩
  wtx:=λht=>(h8.frame (λj hj=>same hj (by decide) (by decide) ht) hs.le).mono λj hj=>lab hj (by decide)
  buf2:=λht SG=>buf l5 (by decide) (by decide) ht SG Tj
  buf4:=λht SG=>buf l7 (by decide) (by decide) ht SG sg
  sq:=λht=>⟨sq,tB.frame (same l6 (by decide) (by decide) ht),sh⟩
  cm:=λht=>NW.frame (same l8 (by decide) (by decide) ht)}
theorem Z9.skip{w:World}{I:zN}{cs:List (zF×Value)}(h:Z9 l w I tv cs C wb pend pdel e2 e4)(hs:zB l w l' w')
  (hT:∀j,l.own j->l j=10\/w'.heap[j]? =w.heap[j]?):Z9 l' w' I tv cs C wb pend pdel e2 e4:=by
 have k:=h.kept hs (· =10) hT;exact⟨k.bnd,k.lab,k.be (by decide),k.bt (by decide),k.rt (by decide),k.db (by decide),k.wtx (by decide),k.buf2 (by decide) (by decide),k.buf4 (by decide) (by decide),h.apart,k.sq (by decide),k.cm (by decide)⟩
theorem zB.ofMod{w:World}(hb:∀b,l b≠0->b<w.heap.size)(hm:zq l.own w w'):zB l w l w' where
 mod:=hm
 old _ _:=rfl
 new b Ry:=by
  by_cases e:l b=0
  ·omega
  ·have:=hb b e;omega
 bnd b e:=Nat.lt_of_lt_of_le (hb b e) hm.size
variable{n:Nat}
theorem zB.ofAdd{w:World}(Iy:n<=11)(hb:∀b,l b≠0->b<w.heap.size)(hm:zq l.own w w')(hF:∀b,F b->w.heap.size<=b/\b<w'.heap.size):zB l w (l.add F n) w' where
 mod:=hm
 old b Hb:=zu.add_neg λe=>by have:=(hF b e).1;omega
 new b pD:=by
  have h0:l b=0:=by
   by_cases e:l b=0
   ·exact e
   ·have:=hb b e;omega
  by_cases sf:F b
  ·rw[zu.add_pos sf h0];exact Iy
  ·rw[zu.add_neg sf,h0];omega
 bnd b e:=by
  by_cases h0:l b=0
  ·by_cases sf:F b
   ·exact(hF b sf).2
   ·rw[zu.add_neg sf]at e;exact absurd h0 e
  ·exact Nat.lt_of_lt_of_le (hb b h0) hm.size
theorem Z9.setTx{w:World}{I:zN}{cs:List (zF×Value)}(h:Z9 l w I tv cs C wb pend pdel e2 e4)(rtx:Nat):
  zB l w l (w.setCell ⟨I.rt,3,none⟩ (ptr rtx))/\Z9 l (w.setCell ⟨I.rt,3,none⟩ (ptr rtx)) {I with rtx:=rtx} (ptr rtx) cs C wb pend pdel e2 e4:=by
 have l3:=h.lab.2.2.1;have hm:zq (· =I.rt) w (w.setCell ⟨I.rt,3,none⟩ (ptr rtx)):=vx (S:=(· =I.rt)) (zq.refl _ _) rfl _;have hs:zB l w l (w.setCell ⟨I.rt,3,none⟩ (ptr rtx)):=zB.ofMod h.bnd (hm.mono λj _ e=>⟨by rw[e,l3];decide,by rw[e,l3];decide⟩);have k:=h.kept hs (· =3) λj _=>by
  by_cases e:j=I.rt
  ·exact Or.inl (by rw[e];exact l3)
  ·exact Or.inr (Below.heap_setCell _ _ _ _ e)
 obtain⟨n,mu,wg,h5⟩:=h.rt;refine⟨hs,k.bnd,k.lab,k.be (by decide),k.bt (by decide),⟨n,mu,wg,?_⟩,k.db (by decide),k.wtx (by decide),k.buf2 (by decide) (by decide),k.buf4 (by decide) (by decide),h.apart,k.sq (by decide),k.cm (by decide)⟩;rw[heap_setCell_same w I.rt 3 _ _ _ h5];rfl
theorem Z9.setDel{w:World}{I:zN}{cs:List (zF×Value)}(h:Z9 l w I tv cs C wb pend pdel e2 e4):
  zB l w l (w.setCell ⟨I.t,5,none⟩ (.int .i64 0))/\Z9 l (w.setCell ⟨I.t,5,none⟩ (.int .i64 0)) I tv cs C wb pend 0 e2 e4:=by
 have l2:=h.lab.2.1;have hm:zq (· =I.t) w (w.setCell ⟨I.t,5,none⟩ (.int .i64 0)):=vx (S:=(· =I.t)) (zq.refl _ _) rfl _;have hs:zB l w l (w.setCell ⟨I.t,5,none⟩ (.int .i64 0)):=zB.ofMod h.bnd (hm.mono λj _ e=>⟨by rw[e,l2];decide,by rw[e,l2];decide⟩);have k:=h.kept hs (· =2) λj _=>by
  by_cases e:j=I.t
  ·exact Or.inl (by rw[e];exact l2)
  ·exact Or.inr (Below.heap_setCell _ _ _ _ e)
 have h4:=h.bt;refine⟨hs,k.bnd,k.lab,k.be (by decide),?_,k.rt (by decide),k.db (by decide),k.wtx (by decide),k.buf2 (by decide) (by decide),k.buf4 (by decide) (by decide),h.apart,k.sq (by decide),k.cm (by decide)⟩;unfold qU at h4⊢;rw[heap_setCell_same w I.t 5 _ _ _ h4];rfl
theorem Z9.keeps{w:World}{I:zN}{cs:List (zF×Value)}(h:Z9 l w I tv cs C wb pend pdel e2 e4):kt w I.t I.be I.db I.rt I.m I.sm tv:=by obtain⟨n,mu,wg,h5⟩:=h.rt;exact⟨⟨_,_,_,h.bt⟩,h.be,_,h5,rfl⟩
theorem Z9.reset{w:World}{I:zN}{cs:List (zF×Value)}(h:Z9 l w I tv cs C wb pend pdel e2 e4):
  Calls prog 86 #[ptr I.rt] w λe w'=>e=.returned (.tuple #[])/\∃(l':zu) (cm:Nat) (cur:zY),zB l w l' w'/\Z9 l' w' {I with cm:=cm} (.pointer none) [] C wb pend pdel e2 cur/\(∀e∈cur,e.2.2.2=[]):=by
 obtain⟨n,mu,wg,h5⟩:=h.rt;have l3:=h.lab.2.2.1;have l7:=h.lab.2.2.2.2.2.2.1;have Py:I.rt∉zl e4:=λhj=>by have:=(h.buf4.blocks hj).1;unfold zu.is at this;rw[l3]at this;cases this
 refine(D9 (S:=l.some) (F:=l.is 11) h.bnd (λj e=>by show l j≠0;rw[e];decide) (by show l _≠0;rw[l3];decide) (by show l _≠0;rw[l7];decide) Py h5 h.buf4).mono ?_;rintro e w' ⟨rfl,cm,wg',cur,hm,PF,T_,rD,S4,hz,MI⟩;have Ha:∀j,(j=I.rt\/j=I.m4\/j∈zl e4)->l.own j:=λj e=>by
  rcases e with rfl|rfl|e
  ·exact⟨by rw[l3];decide,by rw[l3];decide⟩
  ·exact⟨by rw[l7];decide,by rw[l7];decide⟩
  ·have:=(h.buf4.blocks e).1;unfold zu.is at this;exact⟨by rw[this];decide,by rw[this];decide⟩
 have h0:∀b,b=cm->l b=0:=λb e=>by
  by_cases e0:l b=0
  ·exact e0
  ·have:=h.bnd b e0;omega
 have hs:zB l w (l.add (· =cm) 8) w':=zB.ofAdd (by decide) h.bnd (hm.mono λj _ e=>Ha j e) λb e=>⟨by rw[e];exact rD,by rw[e];exact T_.lt⟩;have k:=h.kept hs (λn=>n=3\/n=7\/n=11) λj ho=>by
  by_cases e:j=I.rt\/j=I.m4\/j∈zl e4
  ·rcases e with rfl|rfl|e
   ·exact Or.inl (Or.inl l3)
   ·exact Or.inl (Or.inr (Or.inl l7))
   ·exact Or.inl (Or.inr (Or.inr (h.buf4.blocks e).1))
  ·exact Or.inr (hm.block j (h.bnd j ho.1) e)
 have kl:=k.lab;have pF:∀{j n},l j=n->n≠0->(l.add (· =cm) 8) j=n:=λ{j n} e hn=>(zu.add_old (by rw[e];exact hn)).trans e;have Rj:=h.apart;rw[List.flatMap_append,List.nodup_append]at Rj;have C6:∀x∈zl e2,¬(x=I.rt\/x=I.m4\/x∈zl e4):=λx hx e=>by
  have:=(h.buf2.blocks hx).1;unfold zu.is at this;rcases e with rfl|rfl|e
  ·rw[l3]at this;cases this
  ·rw[l7]at this;cases this
  ·exact Rj.2.2 x hx x e rfl
 have pr:I.m≠I.rt/\I.m≠I.m4:=⟨λe=>(by have:=h.lab.2.2.2.2.1;rw[e,l3]at this;cases this),λe=>(by have:=h.lab.2.2.2.2.1;rw[e,l7]at this;cases this)⟩;have pw:=(h.buf2.exact).mod hm (λe=>by
  rcases e with e|e|e
  ·exact pr.1 e
  ·exact pr.2 e
  ·exact h.buf4.notMap h.buf2.map e) C6 hs.le
 have bf:(im l.some w').le (im (l.add (· =cm) 8).some w'):=λa v ha=>by
  obtain⟨a1,a2⟩:=zi.1 ha;refine zi.2 ⟨λe=> ?_,a2⟩;rw[Qf (by decide)]at e;rcases e with e|e
  ·exact a1 e
  ·rw[T_.noCell e]at a2;cases a2
 refine⟨rfl,l.add (· =cm) 8,cm,cur,hs,⟨k.bnd,⟨kl.1,kl.2.1,kl.2.2.1,kl.2.2.2.1,kl.2.2.2.2.1,kl.2.2.2.2.2.1,kl.2.2.2.2.2.2.1,zu.add_pos rfl (h0 _ rfl)⟩,k.be (by decide),k.bt (by decide),⟨n,mu,wg',PF⟩,k.db (by decide),k.wtx (by decide),?_,?_,?_,k.sq (by decide),T_⟩,hz⟩
 ·exact⟨pw.map,λx hx=>⟨pF (h.buf2.ok x hx).1 (by decide),pF (h.buf2.ok x hx).2.1 (by decide),(pw.ok x hx).2.2⟩,pw.apart⟩
 ·exact⟨S4.map,λx hx=>⟨pF (S4.ok x hx).1 (by decide),pF (S4.ok x hx).2.1 (by decide),(S4.ok x hx).2.2.frame rfl rfl bf⟩,S4.apart⟩
 ·rw[List.flatMap_append,List.nodup_append];refine⟨Rj.1,S4.apart,λx hx y hy e=> ?_⟩;obtain⟨f,hf,C8⟩:=List.mem_flatMap.1 hy;obtain⟨g,hg,_,g1,g2⟩:=MI f hf;have m1:=qh hg;simp only[List.mem_cons,List.not_mem_nil,or_false]at C8;rcases C8 with rfl|rfl
  ·exact Rj.2.2 x hx _ m1.1 (e.trans g1.symm)
  ·exact Rj.2.2 x hx _ m1.2 (e.trans g2.symm)
theorem Z9.commit{w:World}{I:zN}{cs:List (zF×Value)}(h:Z9 l w I tv cs C wb pend pdel e2 e4)(Hx:wb.length<=1000)(rD:pend=0->C=wb.map (·.2)):
  Calls prog 87 #[ptr I.t,.bool false] w λe w'=>e=.returned (.tuple #[])/\∃(l':zu) (tx:Nat) (wb':List (Nat×zZ)),zB l w l' w'/\wb'.map (·.2)=wb.map (·.2)/\Z9 l' w' {I with wtx:=tx} tv cs (wb.map (·.2)) wb' 0 pdel e2 e4:=by
 obtain⟨l1,l2,l3,l4,l5,l6,l7,l8⟩:=h.lab;obtain⟨dv,hd,hD⟩:=h.db;refine(f_ (S:=l.some) (F:=l.is 9) h.bnd (λj e=>by show l j≠0;rw[e];decide) (by show l _≠0;rw[l2];decide) (by show l _≠0;rw[l1];decide) (by show l _≠0;rw[l4];decide)
  (by show ¬(l _=9);rw[l2];decide) (by show ¬(l _=9);rw[l1];decide) (by show ¬(l _=9);rw[l4];decide) h.bt h.be hd hD h.wtx Hx rD).mono ?_
 rintro e w' ⟨rfl,tx,F',wb',dv',hm,hF,Pd,pU,rE,hD',htx,S8⟩;have Ha:∀j,(j=I.t\/j=I.be\/j=I.db\/l.is 9 j)->l.own j:=λj e=>by
  rcases e with rfl|rfl|rfl|e
  ·exact⟨by rw[l2];decide,by rw[l2];decide⟩
  ·exact⟨by rw[l1];decide,by rw[l1];decide⟩
  ·exact⟨by rw[l4];decide,by rw[l4];decide⟩
  ·unfold zu.is at e;exact⟨by rw[e];decide,by rw[e];decide⟩
 have h0:∀b,F' b->l b=0:=λb e=>by
  by_cases e0:l b=0
  ·exact e0
  ·have:=h.bnd b e0;have:=(hF b e).1;omega
 have hs:zB l w (l.add F' 9) w':=zB.ofAdd (by decide) h.bnd (hm.mono λj _ e=>Ha j e) hF;have k:=h.kept hs (λn=>n=1\/n=2\/n=4\/n=9) λj ho=>by
  by_cases e:j=I.t\/j=I.be\/j=I.db\/l.is 9 j
  ·rcases e with rfl|rfl|rfl|e
   ·exact Or.inl (Or.inr (Or.inl l2))
   ·exact Or.inl (Or.inl l1)
   ·exact Or.inl (Or.inr (Or.inr (Or.inl l4)))
   ·exact Or.inl (Or.inr (Or.inr (Or.inr e)))
  ·exact Or.inr (hm.block j (h.bnd j ho.1) e)
 have tu:(l.add F' 9).some=λj=>l.some j\/F' j:=Qf (by decide);refine⟨rfl,l.add F' 9,tx,wb',hs,S8,⟨k.bnd,k.lab,pU,Pd,k.rt (by decide),⟨dv',rE,by rw[tu];exact hD'⟩,?_,k.buf2 (by decide) (by decide),k.buf4 (by decide) (by decide),h.apart,k.sq (by decide),k.cm (by decide)⟩⟩;rw[tu];refine htx.mono λj e=> ?_;rcases e with e|e
 ·exact(zu.add_old (by rw[e];decide)).trans e
 ·exact zu.add_pos e (h0 j e)
theorem Z9.begin{w:World}{I:zN}{cs:List (zF×Value)}(h:Z9 l w I tv cs C wb pend pdel e2 e4)(Hx:C.length<=1000):
  Calls prog 88 #[ptr I.be,.bool false] w λe w'=>∃tx,e=.returned (ptr tx)/\∃(l':zu) (rb:List (Nat×zZ)),zB l w l' w'/\Z9 l' w' I tv cs C wb pend pdel e2 e4/\rb.map (·.2)=C/\kr (im l'.some w') w' (l'.is 10) tx I.db false rb:=by
 obtain⟨dv,hd,hD⟩:=h.db;have pU:=h.be;obtain⟨nb,hb⟩:=id pU;refine(KE (S:=l.some) (wt:=false) h.bnd ⟨_,hb⟩ pU.cells.1 (by rw[cell_of_row w I.db 0 _ _ (0,0) hd];rfl) hD Hx).mono ?_;rintro e w' ⟨tx,rfl,hn,rb,htx,S8⟩;have h0:∀b,(w.heap.size<=b/\b<w'.heap.size)->l b=0:=λb e=>by
  by_cases e0:l b=0
  ·exact e0
  ·have:=h.bnd b e0;omega
 have hs:zB l w (l.add (λb=>w.heap.size<=b/\b<w'.heap.size) 10) w':=zB.ofAdd (by decide) h.bnd (hn.mod _) λb e=>e;refine⟨tx,rfl,_,rb,hs,h.skip hs λj ho=>Or.inr (hn.block j (h.bnd j ho.1) (λe=>e)),S8,?_⟩;exact(htx.frame (λ_ _=>rfl) hs.le).mono λj e=>zu.add_pos e (h0 j e)
theorem zB.drew{w:World}(h:zB l w l' w'):zB l w l' w'.drew:=⟨h.mod.drew,h.old,h.new,h.bnd⟩
theorem Z9.drew{w:World}{I:zN}{cs:List (zF×Value)}(h:Z9 l w I tv cs C wb pend pdel e2 e4):Z9 l w.drew I tv cs C wb pend pdel e2 e4:=
 ⟨h.bnd,h.lab,h.be,h.bt,h.rt,h.db,h.wtx.frame (λ_ _=>rfl) (Rd.le_refl _),h.buf2.frame rfl (λ_ _=>rfl) (Rd.le_refl _),h.buf4.frame rfl (λ_ _=>rfl) (Rd.le_refl _),h.apart,h.sq,h.cm⟩
theorem J2{w:World}{I:zN}(h:jX l w I C wb rb pend pdel e2 e4)(Hx:wb.length<=1000)(rD:pend=0->C=wb.map (·.2)):
  Calls prog 81 #[ptr I.t,.bool false] w λe w'=>e=.returned (.tuple #[])/\∃(l':zu) (wtx rtx cm:Nat) (wb' rb':List (Nat×zZ)) (e4':zY),zB l w l' w'/\wb'.map (·.2)=wb.map (·.2)/\rb'.map (·.2)=wb.map (·.2)/\(∀e∈e4',e.2.2.2=[])/\
   jX l' w' {I with wtx:=wtx,rtx:=rtx,cm:=cm} (wb.map (·.2)) wb' rb' 0 0 e2 e4':=by
 obtain⟨cs,hC,_⟩:=h.toC;have ny:=h.rtx;obtain⟨lv,hx,_⟩:=ny.htx;have bq:l I.rtx=10:=ny.ftx;refine(VZ (R1:=λw1=>zB l w l w1/\Z9 l w1 I (ptr I.rtx) cs C wb pend pdel e2 e4)
  (R2:=λw2=>∃(l2:zu) (cm:Nat) (cur:zY),zB l w l2 w2/\Z9 l2 w2 {I with cm:=cm} (.pointer none) [] C wb pend pdel e2 cur/\(∀e∈cur,e.2.2.2=[]))
  (R3:=λw3=>∃(l3:zu) (cm tx:Nat) (cur:zY) (wb':List (Nat×zZ)),zB l w l3 w3/\wb'.map (·.2)=wb.map (·.2)/\Z9 l3 w3 {I with cm:=cm,wtx:=tx} (.pointer none) [] (wb.map (·.2)) wb' 0 pdel e2 cur/\(∀e∈cur,e.2.2.2=[]))
  (R4:=λrtx w4=>∃(l4:zu) (cm tx:Nat) (cur:zY) (wb' rb':List (Nat×zZ)),zB l w l4 w4/\wb'.map (·.2)=wb.map (·.2)/\rb'.map (·.2)=wb.map (·.2)/\Z9 l4 w4 {I with cm:=cm,wtx:=tx} (.pointer none) [] (wb.map (·.2)) wb' 0 0 e2 cur/\(∀e∈cur,e.2.2.2=[])/\kr (im l4.some w4) w4 (l4.is 10) rtx I.db false rb')
  hC.keeps ?_ ?_ ?_ ?_).mono ?_
 ·refine(dL hx).mono ?_;rintro e w' ⟨rfl,hm⟩;have hs:zB l w l w':=zB.ofMod h.bnd (hm.mono λj _ e=>⟨by rw[e,bq];decide,by rw[e,bq];decide⟩);have M8:=hC.skip hs λj ho=>by
   by_cases e:j=I.rtx
   ·exact Or.inl (by rw[e];exact bq)
   ·exact Or.inr (hm.block j (h.bnd j ho.1) e)
  exact⟨rfl,M8.keeps,hs,M8⟩
 ·rintro w1 ⟨hs,EZ⟩;refine EZ.reset.mono ?_;rintro e w' ⟨rfl,l',cm,cur,MM,M8,hz⟩;exact⟨rfl,M8.keeps,l',cm,cur,hs.trans MM,M8,hz⟩
 ·rintro w2 ⟨l2,cm,cur,hs,Sg,hz⟩;refine(Sg.commit Hx rD).mono ?_;rintro e w' ⟨rfl,l',tx,wb',MM,S8,M8⟩;exact⟨rfl,M8.keeps,l',cm,tx,cur,wb',hs.trans MM,S8,M8,hz⟩
 ·rintro w3 ⟨l3,cm,tx,cur,wb',hs,S8,hC3,hz⟩;obtain⟨Pa,Ao⟩:=hC3.setDel;refine⟨Ao.keeps,?_⟩;rintro w4 rfl;refine(Ao.drew.begin (by simpa using Hx)).mono ?_;rintro e w' ⟨rtx,rfl,l',rb',MM,M8,Py,htx⟩;exact⟨rtx,rfl,M8.keeps,l',cm,tx,cur,wb',rb',(hs.trans Pa.drew).trans MM,S8,Py,M8,hz,htx⟩
 ·rintro e w' ⟨rfl,rtx,w4,⟨l4,cm,tx,cur,wb',rb',hs,S8,Py,hC4,hz,htx⟩,_,rfl⟩;obtain⟨pC,Ap⟩:=hC4.setTx rtx;have l3:=hC4.lab.2.2.1;have Iz:kr (im l4.some (w4.setCell ⟨I.rt,3,none⟩ (ptr rtx))) (w4.setCell ⟨I.rt,3,none⟩ (ptr rtx)) (l4.is 10) rtx I.db false rb':=
   htx.frame (λj e=>Below.heap_setCell _ _ _ _ (λe2=>by subst e2;unfold zu.is at e;rw[l3]at e;cases e)) pC.le
  exact⟨rfl,l4,tx,rtx,cm,wb',rb',cur,hs.trans pC,S8,Py,hz,Ap.toS Iz (λc hc=>by cases hc)⟩
theorem kt.rtCells{w:World}{db m sm:Nat}(h:kt w t be db rt m sm c3):∃c,w.heap[rt]? =some (.cells c 252 (0,0)):=by obtain⟨_,_,c,h3,_⟩:=h;exact⟨c,h3⟩
theorem kt.btCells{w:World}{db m sm:Nat}(h:kt w t be db rt m sm c3):∃c,w.heap[t]? =some (.cells c 290 (0,0)):=by obtain⟨⟨_,_,_,h3⟩,_⟩:=h;exact⟨_,h3⟩
theorem jX.keeps{w:World}{I:zN}(h:jX l w I C wb rb pend pdel e2 e4):kt w I.t I.be I.db I.rt I.m I.sm (ptr I.rtx):=by obtain⟨cs,hC,_⟩:=h.toC;exact hC.keeps
theorem dV{w:World}{db m sm:Nat}{R:World->Prop}(h0:kt w t be db rt m sm c3)
  (hu:Calls prog 81 #[ptr t,.bool false] w λe w'=>e=.returned (.tuple #[])/\(∃c3',kt w' t be db rt m sm c3')/\R w'):
  Calls prog 77 #[ptr t,.bool false] w λe w'=>e=.returned (.tuple #[])/\R w':=by
 obtain⟨a1,a4,_,_,_,_,_⟩:=h0.cells;obtain⟨c,PF⟩:=h0.rtCells;have HL:=hid (Kq PF);have HU:=hid hu;clear hu;clear h0 PF;go_enter func77,ntmps77;go_wp2_with (go_at_call 80;go_must (refine HL.out.mono ?_);rintro e w1 ⟨rfl,rfl⟩);refine HU.out.mono ?_;rintro e w1 ⟨rfl,⟨c3',k1⟩,r1⟩;obtain⟨b1,b4,_,_,_,_,_⟩:=k1.cells;obtain⟨c',tE⟩:=k1.rtCells;have HK:=hid (QO tE);have HR:=hid r1;clear r1;clear k1 tE;go_wp2_with (go_at_call 82;go_must (refine HK.out.mono ?_);rintro e w2 ⟨rfl,rfl⟩);go_returns;exact⟨rfl,HR.out⟩
theorem Gg{w:World}{m sm db:Nat}(h:qU w t wtx be 0 m sm pdel)(hb:vA w be db t rt):
  Calls prog 78 #[ptr t] w λe w'=>e=.returned (.tuple #[])/\∃n,w'=w.drewN n:=by
 have c2:=h.cells.2.2.1;have HU:=hid (QP h hb (by omega));clear h hb;go_enter func78,ntmps78;go_wp2_with (go_at_call 84;go_must (refine HU.out.mono ?_);rintro e w1 ⟨rfl,n,rfl⟩);go_returns;exact⟨rfl,_,rfl⟩
theorem dW{w:World}{db m sm:Nat}{R:World->Prop}(h0:kt w t be db rt m sm c3)
  (hu:Calls prog 77 #[ptr t,.bool false] w λe w'=>e=.returned (.tuple #[])/\(∃wtx pdel,qU w' t wtx be 0 m sm pdel/\vA w' be db t rt)/\R w'):
  Calls prog 74 #[ptr t] w λe w'=>e=.returned (.tuple #[])/\∃w1 n,R w1/\w'=w1.drewN n:=by
 obtain⟨c,Pd⟩:=h0.btCells;have HL:=hid (Gf Pd);have HU:=hid hu;clear hu;clear h0 Pd;go_enter func74,ntmps74;go_wp2_with (go_at_call 76;go_must (refine HL.out.mono ?_);rintro e w1 ⟨rfl,rfl⟩);refine HU.out.mono ?_;rintro e w1 ⟨rfl,⟨wtx,pdel,k1,k2⟩,r1⟩;have HK:=hid (Gg k1 k2);have HR:=hid r1;clear r1;clear k1 k2;go_wp2_with (go_at_call 78;go_must (refine HK.out.mono ?_);rintro e w2 ⟨rfl,n,rfl⟩);go_returns;exact⟨rfl,w1,_,HR.out,rfl⟩
theorem jX.drewN{w:World}{I:zN}(h:jX l w I C wb rb pend pdel e2 e4)(n:Nat):jX l (w.drewN n) I C wb rb pend pdel e2 e4:=
 h.frame h.bnd (λ_ _=>⟨rfl,rfl⟩) (Rd.le_refl _)
theorem zB.drewN{w:World}(h:zB l w l' w')(n:Nat):zB l w l' (w'.drewN n):=⟨h.mod.drewN n,h.old,h.new,h.bnd⟩
def jY(l:zu)(w:World)(I:zN)(D:List zZ)(e2:zY)(w':World):Prop:=
 ∃(l':zu) (wtx rtx cm:Nat) (wb' rb':List (Nat×zZ)) (e4':zY),zB l w l' w'/\wb'.map (·.2)=D/\rb'.map (·.2)=D/\(∀e∈e4',e.2.2.2=[])/\jX l' w' {I with wtx:=wtx,rtx:=rtx,cm:=cm} D wb' rb' 0 0 e2 e4'
theorem jY.drewN{w:World}{I:zN}{D:List zZ}(h:jY l w I D e2 w')(n:Nat):jY l w I D e2 (w'.drewN n):=by obtain⟨l',a,b,c,wb',rb',e4',h1,h2,h3,h4,h5⟩:=h;exact⟨l',a,b,c,wb',rb',e4',h1.drewN n,h2,h3,h4,h5.drewN n⟩
theorem Xs{w:World}{I:zN}(h:jX l w I C wb rb pend pdel e2 e4)(Hx:wb.length<=1000)(rD:pend=0->C=wb.map (·.2)):
  Calls prog 77 #[ptr I.t,.bool false] w λe w'=>e=.returned (.tuple #[])/\(∃wtx pdel,qU w' I.t wtx I.be 0 I.m I.sm pdel/\vA w' I.be I.db I.t I.rt)/\jY l w I (wb.map (·.2)) e2 w':=by
 refine dV h.keeps ((J2 h Hx rD).mono ?_);rintro e w' ⟨rfl,l',a,b,c,wb',rb',e4',h1,h2,h3,h4,h5⟩;exact⟨rfl,⟨_,h5.keeps⟩,⟨_,_,h5.bt,h5.be⟩,l',a,b,c,wb',rb',e4',h1,h2,h3,h4,h5⟩
theorem Xt{w:World}{I:zN}(h:jX l w I C wb rb pend pdel e2 e4)(Hx:wb.length<=1000)(rD:pend=0->C=wb.map (·.2)):
  Calls prog 74 #[ptr I.t] w λe w'=>e=.returned (.tuple #[])/\jY l w I (wb.map (·.2)) e2 w':=by
 refine(dW h.keeps (Xs h Hx rD)).mono ?_;rintro e w' ⟨rfl,w1,n,hc,rfl⟩;exact⟨rfl,hc.drewN n⟩
theorem KG{w:World}{I:zN}(h:jX l w I C wb rb pend pdel e2 e4)(Hx:wb.length<=1000)(rD:pend=0->C=wb.map (·.2)):
  Calls prog 151 #[ptr I.be] w λe w'=>e=.returned (.tuple #[])/\jY l w I (wb.map (·.2)) e2 w':=by
 have HC:=hid (Xt h Hx rD);have c3:=(show vA w I.be I.db I.t I.rt from h.be).cells.2.2.1;clear h Hx rD;go_enter func151,ntmps151;go_wp2_with (go_at_call 74;go_must (refine HC.out.mono ?_);rintro e w1 ⟨rfl,h1⟩;have H1:=hid h1;clear h1);go_returns;exact⟨rfl,H1.out⟩
theorem gi{w:World}{I:zN}(h:jX l w I C wb rb pend pdel e2 e4)(rF:∀e∈e2,zM e.2.2.2)(Me:∀e∈e4,e.2.2.2=[]):
  Calls prog 83 #[.pointer (some ⟨I.t,3,none⟩),.pointer (some ⟨I.rt,0,none⟩)] w λe w'=>e=.returned (.tuple #[])/\∃(c2 c4:zY),zB l w l w'/\jX l w' I C wb rb pend pdel c2 c4/\(∀e∈c2,e.2.2.2=[]):=by
 obtain⟨cs,hC,RO⟩:=h.toC;obtain⟨l1,l2,l3,l4,l5,l6,l7,l8⟩:=h.lab;obtain⟨n,mu,wg,PF⟩:=h.rt;obtain⟨sq,Md,sh⟩:=h.sq;have nn:∀{a b m n:Nat},l a=m->l b=n->m≠n->a≠b:=λh1 h2 h3 e=>by subst e;exact h3 (h1.symm.trans h2)
 have so:∀{a m:Nat},l a=m->m≠0->l.some a:=λ{a m} h1 h2=>by show l a≠0;rw[h1];exact h2
 have nb:∀{a m:Nat},l a=m->m≠11->a∉zl (e2++e4):=λ{a m} h1 h2 hj=>by
  rw[zT]at hj;rcases List.mem_append.1 hj with hj|hj
  ·have:=(h.buf2.blocks hj).1;unfold zu.is at this;exact h2 (h1.symm.trans this)
  ·have:=(h.buf4.blocks hj).1;unfold zu.is at this;exact h2 (h1.symm.trans this)
 have Pd:=h.bt;refine(GP (S:=l.some) (F:=l.is 11) (t:=I.t) (rt:=I.rt) (m:=I.m) (sm:=I.sm) (m4:=I.m4) (ver:=n) h.bnd (λj e=>so e (by decide)) (so l5 (by decide)) (so l6 (by decide)) (so l7 (by decide)) (so l3 (by decide)) (nn l7 l5 (by decide)) (nn l6 l5 (by decide)) (nn l6 l7 (by decide))
  (by rw[cell_of_row w I.t 3 _ _ (0,0) Pd];rfl) (by rw[cell_of_row w I.t 4 _ _ (0,0) Pd];rfl) (by rw[cell_of_row w I.rt 0 _ _ (0,0) PF];rfl) (by rw[cell_of_row w I.rt 1 _ _ (0,0) PF];rfl) (by simp[World.frozen?,PF])
  (nb l2 (by decide)) (nb l3 (by decide)) h.buf2 h.buf4 h.apart Md sh rF Me).mono ?_
 rintro e w' ⟨rfl,c2,c4,sq',ver',hm,tE,pw,S4,Rj,IA,IB,hz⟩;have hT:∀j,(j=I.m\/j=I.sm\/j=I.m4\/j=I.rt\/j∈zl (e2++e4))->l j=5\/l j=6\/l j=7\/l j=3\/l j=11:=λj e=>by
  rcases e with rfl|rfl|rfl|rfl|hj
  ·exact Or.inl l5
  ·exact Or.inr (Or.inl l6)
  ·exact Or.inr (Or.inr (Or.inl l7))
  ·exact Or.inr (Or.inr (Or.inr (Or.inl l3)))
  ·rw[zT]at hj;rcases List.mem_append.1 hj with hj|hj
   ·exact Or.inr (Or.inr (Or.inr (Or.inr (h.buf2.blocks hj).1)))
   ·exact Or.inr (Or.inr (Or.inr (Or.inr (h.buf4.blocks hj).1)))
 have hs:zB l w l w':=zB.ofMod h.bnd (hm.mono λj _ e=>by have:=hT j e;unfold zu.own;omega)
 have hk:=hC.kept hs (λn=>n=5\/n=6\/n=7\/n=3\/n=11) λj ho=>by
  by_cases e:j=I.m\/j=I.sm\/j=I.m4\/j=I.rt\/j∈zl (e2++e4)
  ·exact Or.inl (hT j e)
  ·exact Or.inr (hm.block j (h.bnd j ho.1) e)
 have ny:=h.rtx.frame (w':=w') (λj e=>hm.block j (h.bnd j (by rw[e];decide)) (λe2=>by have:=hT j e2;unfold zu.is at e;omega)) hs.le
 refine⟨rfl,c2,c4,hs,Z9.toS ⟨hk.bnd,hk.lab,hk.be (by decide),hk.bt (by decide),⟨ver',mu,wg,?_⟩,hk.db (by decide),hk.wtx (by decide),pw,S4,Rj,⟨sq',IA,IB⟩,hk.cm (by decide)⟩ ny RO,hz⟩;rw[tE _ _ PF];rfl
theorem dX{w:World}{m sm db:Nat}{R1 R2:World->Prop}(hp:0<pend)(rm:pend<1000)(h0:kt w t be db rt m sm c3)(Pd:qU w t wtx be pend m sm pdel)
  (hw:Calls prog 83 #[.pointer (some ⟨t,3,none⟩),.pointer (some ⟨rt,0,none⟩)] w.drew λe w'=>e=.returned (.tuple #[])/\(∃c3,kt w' t be db rt m sm c3)/\qU w' t wtx be pend m sm pdel/\R1 w')
  (Ra:pdel=0->∀w' n,R1 w'->R2 (w'.drewN n))
  (r8:pdel≠0->∀w' n,R1 w'->Calls prog 77 #[ptr t,.bool false] (w'.drewN n) λe w'=>e=.returned (.tuple #[])/\(∃wtx pdel,qU w' t wtx be 0 m sm pdel/\vA w' be db t rt)/\∀n,R2 (w'.drewN n)):
  Calls prog 78 #[ptr t] w λe w'=>e=.returned (.tuple #[])/\R2 w':=by
 obtain⟨a1,a4,_,_,_,_,_⟩:=h0.cells;obtain⟨c,PF⟩:=h0.rtCells;have a2:=Pd.cells.2.2.1;have Ho:((pend:Int)==0)=false:=by simp;omega
 have HL:=hid (Kq PF);have HW:=hid hw;clear hw;have Mc:=hid Ra;clear Ra;have Tg:=hid r8;clear r8;clear h0 PF Pd;go_enter func78,ntmps78;go_wp2_with (go_at_call 80;go_must (refine HL.out.mono ?_);rintro e w1 ⟨rfl,rfl⟩);go_still_tail 14,(by kernel_rfl);go_wp2_with fail;refine HW.out.mono ?_;rintro e w1 ⟨rfl,⟨c3',k1⟩,kb,r1⟩;obtain⟨b1,b4,_,_,_,_,_⟩:=k1.cells;obtain⟨c',tE⟩:=k1.rtCells;have b2:=kb.cells.2.2.1;have b5:=kb.cells.2.2.2;have bl:=k1.be.cells.2.1;have HK:=hid (QO tE);have pD:decide ((1000:Int)<=(pend:Int))=false:=by simp;omega
 have HU:=hid (λn:Nat=>QP (w:=w1.drewN n) kb k1.be rm);have tD:=hid r1;clear r1;clear k1 tE kb;by_cases Mf:pdel=0
 ·have hC0:=Mc.out Mf;have HC:=hid hC0;clear hC0;subst Mf;go_wp2_with (go_at_call 82;go_must (refine HK.out.mono ?_);rintro e w2 ⟨rfl,rfl⟩);go_quiet (fail);go_wp2_with (go_at_call 84;go_must (refine(HU.out nq).mono ?_);rintro e w2 ⟨rfl,n,rfl⟩);go_returns;exact⟨rfl,HC.out w1 (nq+n) tD.out⟩
 ·have EZ:=Tg.out Mf;have HC:=hid EZ;clear EZ;have mB:decide ((0:Int)<(pdel:Int))=true:=by simp;omega
  go_wp2_with (go_at_call 82;go_must (refine HK.out.mono ?_);rintro e w2 ⟨rfl,rfl⟩);go_quiet (fail);go_wp2_with fail;refine(HC.out w1 nq tD.out).mono ?_;rintro e w2 ⟨rfl,⟨wtx',pdel',k1,k2⟩,r2⟩;have cX:=hid (QP k1 k2 (by omega));have Nn:=hid r2;clear r2;clear k1 k2;go_wp2_with (go_at_call 84;go_must (refine cX.out.mono ?_);rintro e w3 ⟨rfl,n,rfl⟩);go_returns;exact⟨rfl,Nn.out n⟩
def dY(l:zu)(w:World)(I:zN)(C D:List zZ)(wb rb:List (Nat×zZ))(pend pdel:Nat)(w':World):Prop:=
 ∃c2:zY,(∀e∈c2,e.2.2.2=[])/\((pdel=0/\∃(c4:zY),zB l w l w'/\jX l w' I C wb rb pend 0 c2 c4)\/(pdel≠0/\jY l w I D c2 w'))
theorem GS{w:World}{I:zN}(h:jX l w I C wb rb pend pdel e2 e4)(hp:0<pend)(rm:pend<1000)(Hx:wb.length<=1000)(rF:∀e∈e2,zM e.2.2.2)(Me:∀e∈e4,e.2.2.2=[]):
  Calls prog 78 #[ptr I.t] w λe w'=>e=.returned (.tuple #[])/\dY l w I C (wb.map (·.2)) wb rb pend pdel w':=by
 have hd:jX l w.drew I C wb rb pend pdel e2 e4:=h.drewN 1;refine dX (R1:=λw1=>∃(c2 c4:zY),zB l w l w1/\jX l w1 I C wb rb pend pdel c2 c4/\(∀e∈c2,e.2.2.2=[])) (R2:=λw2=>dY l w I C (wb.map (·.2)) wb rb pend pdel w2) hp rm h.keeps h.bt ?_ ?_ ?_
 ·refine(gi hd rF Me).mono ?_;rintro e w' ⟨rfl,c2,c4,hs,hB,hz⟩;exact⟨rfl,⟨_,hB.keeps⟩,hB.bt,c2,c4,⟨hs.mod.undrew,hs.old,hs.new,hs.bnd⟩,hB,hz⟩
 ·rintro h0 w' n ⟨c2,c4,hs,hB,hz⟩;subst h0;exact⟨c2,hz,Or.inl ⟨rfl,c4,hs.drewN n,hB.drewN n⟩⟩
 ·rintro h0 w' n ⟨c2,c4,hs,hB,hz⟩;refine(Xs (hB.drewN n) Hx (λe=>by omega)).mono ?_;rintro e w2 ⟨rfl,hk,hc⟩;refine⟨rfl,hk,λk=>⟨c2,hz,Or.inr ⟨h0,?_⟩⟩⟩;obtain⟨l',a,b,c,wb',rb',e4',h1,h2,h3,h4,h5⟩:=hc;exact⟨l',a,b,c,wb',rb',e4',((hs.drewN n).trans h1).drewN k,h2,h3,h4,h5.drewN k⟩
theorem za1(fv:Value)(w:World):Calls prog 182 #[.int .i64 0,fv] w λe w'=>e=.returned (.int .i64 0)/\w=w':=by go_enter func182,ntmps182;go_wp2;refine wp_loop_once ?_;go_wp2;go_returns;exact⟨rfl,rfl⟩
variable{kv:Value}
theorem GT{w:World}{ev lim:Value}(hk:∃p n c,kv=.slice p n c)(hu:w.cell? ⟨bb,1,none⟩=some (.int .i64 0)):
  Calls prog 323 #[ptr bb,kv,ev,lim] w λe w'=>e=.returned (.tuple #[.slice none 0 0,.slice none 0 0])/\za w w':=by
 obtain⟨kp,kn,kc,rfl⟩:=hk;have Ro:=World.block_lt_of_cell? w _ hu;go_enter func323,ntmps323;go_wp2_with (go_at_call 182;go_must (refine(za1 _ _).mono ?_);rintro e w1 ⟨rfl,rfl⟩);go_returns;exact⟨rfl,((za.refl w).alloc _).alloc _⟩
theorem dZ{w:World}{fv:Value}(hu:w.cell? ⟨bb,1,none⟩=some (.int .i64 0)):
  Calls prog 321 #[ptr bb,fv] w λe w'=>e=.returned .nilIface/\w=w':=by
 go_enter func321,ntmps321;go_wp2;refine wp_loop_once ?_;go_wp2;go_returns;exact⟨rfl,rfl⟩
theorem Xu{w:World}{m:Nat}(h:zQ r w F m es)(hz:∀e∈es,e.2.2.2=[])(b:zF):(∀w',w'.heap[m]? =w.heap[m]? ->(Instr.lookup 239 (.map (some m)) (kY b) false).run prog w'=.ok (.pointer none) w')\/
  ∃bb,bb<w.heap.size/\w.cell? ⟨bb,1,none⟩=some (.int .i64 0)/\∀w',w'.heap[m]? =w.heap[m]? ->(Instr.lookup 239 (.map (some m)) (kY b) false).run prog w'=.ok (ptr bb) w':=by
 have hl:=λ(w':World) (e:w'.heap[m]? =w.heap[m]?)=>zD.look (P:=prog) (t:=239) (e:=300) Zd (by kernel_rfl) (z:=.pointer none) (by kernel_rfl) (h.map.frame e) b false;cases hg:jq (es.map λe=>(e.1,ptr e.2.1)) b with
 |none=>exact Or.inl λw' e=>by have:=hl w' e;rw[hg]at this;exact this
 |some y=>obtain⟨bb,a,u,he,rfl⟩:=Qh (Qb hg);have hu:=hz _ he;simp only at hu;subst hu;have hb:=(h.ok _ he).2.2;exact Or.inr ⟨bb,hb.lt1,hb.used.1,λw' e=>by have:=hl w' e;rw[hg]at this;exact this⟩
variable{q:Nat}
theorem D_{w:World}{m:Nat}{b:zF}{ev lim:Value}(h:zQ r w F m es)(hz:∀e∈es,e.2.2.2=[])(hk:∃p n c,kv=.slice p n c)(M9:∃p n c,ev=.slice p n c)(Aq:∃n,lim=.int .i64 n)(hq:w.cell? ⟨q,0,none⟩=some (.map (some m))):
  Calls prog 318 #[ptr q,b.val,kv,ev,lim] w λe w'=>e=.returned (.tuple #[.slice none 0 0,.slice none 0 0])/\za w w':=by
 obtain⟨kp,kn,kc,rfl⟩:=hk;obtain⟨ep,en,ec,rfl⟩:=M9;obtain⟨nl,rfl⟩:=Aq;have wy:=h.map.lt;have MO:=World.block_lt_of_cell? w _ hq;have NU:=xi b;have Hm:=QM b.raw;have hD:zq (λ_=>False) w ((w.alloc (.cells #[.int .i64 b.num,.string ⟨b.name.toArray⟩,.bool false] 428)).drew):=((za.refl w).alloc _).drew;rcases Xu h hz b with hl|⟨bb,Ro,IC,hl⟩
 ·have S7:=hl ((w.alloc (.cells #[.int .i64 b.num,.string ⟨b.name.toArray⟩,.bool false] 428)).drew) (hD.block _ wy (λe=>e));have HD:=hid hD;clear hD;clear hl h hz;unfold zF.val;generalize zF.raw b=raw at*
  go_enter func318,ntmps318;go_wp2;go_region_with (go_at_call 298;refine(NU _).mono ?_;rintro e w1 ⟨rfl,rfl⟩)
  all_goals
   go_wp2;go_returns;exact⟨rfl,HD.out⟩
 ·have S7:=hl ((w.alloc (.cells #[.int .i64 b.num,.string ⟨b.name.toArray⟩,.bool false] 428)).drew) (hD.block _ wy (λe=>e));have BU:=hid (GT (kv:=.slice kp kn kc) (ev:=.slice ep en ec) (lim:=.int .i64 nl) ⟨_,_,_,rfl⟩ (za.le hD _ _ IC));have HD:=hid hD;clear hD;clear hl h hz;unfold zF.val;generalize zF.raw b=raw at*
  go_enter func318,ntmps318;go_wp2;go_region_with (go_at_call 298;refine(NU _).mono ?_;rintro e w1 ⟨rfl,rfl⟩)
  all_goals
   go_wp2_with (go_at_call 323;go_must (refine BU.out.mono ?_);rintro e w2 ⟨rfl,hn⟩;have HN:=hid hn;clear hn);go_returns;exact⟨rfl,za.trans HD.out HN.out⟩
theorem vY(v:Value)(w:World):Calls prog 69 #[v] w λe w'=>e=.returned (.tuple #[])/\w=w':=by go_enter func69,ntmps69;go_wp2;go_returns;exact⟨rfl,rfl⟩
theorem QQ(v:Value)(w:World):Calls prog 70 #[v] w λe w'=>e=.returned (.tuple #[])/\w=w':=by go_enter func70,ntmps70;go_wp2;go_returns;exact⟨rfl,rfl⟩
theorem Qk(v:Value)(w:World):Calls prog 96 #[v] w λe w'=>e=.returned (.tuple #[])/\w=w':=by go_enter func96,ntmps96;go_wp2;go_returns;exact⟨rfl,rfl⟩
theorem KH(v:Value)(w:World):Calls prog 98 #[v] w λe w'=>e=.returned (.tuple #[])/\w=w':=by go_enter func98,ntmps98;go_wp2;go_returns;exact⟨rfl,rfl⟩
variable{bytes sz:Nat}
theorem vd{w:World}{ops:Array Oper}{rest:List Oper}{o:Oper}{a:Act}{Q:Exit->Act->World->Prop}{t:TypeId}{z:Value}
  (E:yy P t e z sz bytes)(Tc:o.guard=none){s x:Operand}(ho:o.op=.call {callee:=.builtin .append,args:= #[s,x],argTypes:= #[t,t]})
  {p:Option Addr}{n c:Nat}(hs:a.eval s=.slice p n c)(hx:a.eval x=.slice none 0 0)(P5:n<=c)(hp:p=none->c=0)
  (h:wpList P ops Q rest (a.put o.dst (.slice p n c)) w):wpList P ops Q (o::rest) a w:=by
 obtain⟨i,hi,hz,pL,TF⟩:=info_parts E.info;refine wpList_plain Tc λK hK=> ?_;have pQ:(Builtin.append_ #[t,t] o.type #[.slice p n c,.slice none 0 0]).run P w=.ok (.slice p n c) w:=by
  cases p with
  |none=>
   have:c=0:=hp rfl;subst this;have:n=0:=by omega
   subst this;simp[Builtin.append_,run_underlying E.under,sizeOf,typeInfo,hi,Builtin.lenOf,Builtin.firstCells,loadCells]
  |some ad=>simp[Builtin.append_,run_underlying E.under,sizeOf,typeInfo,hi,Builtin.lenOf,Builtin.firstCells,P5,storeCells]
 unfold Oper.wp execOp;simp only[ho,resolve,invoke,builtin,Sem.run_bind,Sem.run_pure,Result.andThen_ok,List.map_toArray,List.map_cons,List.map_nil,hs,hx,pQ];exact hK _ _ h
def Plain(v:Value):Prop:=∃p n c,v=.slice p n c/\n<=c/\(p=none->c=0)
theorem qP.plain{l:List Bytes}(h:qP r l v):Plain v:=by obtain⟨cs,⟨p,n,c,rfl,_,h1,_,h2,_⟩,_⟩:=h;exact⟨p,n,c,rfl,h1,h2⟩
variable{bk tx:Nat}{nm:Bytes}{ps:yr}
theorem gj{w:World}{db:Nat}{bs:List (Nat×zZ)}{k:Bytes}(hS:∀b,S b->b<w.heap.size)
  (h:kr (im S w) w F tx db wt bs)(hj:bs[j]? =some (bk,(nm,ps)))(rJ:zM (zJ ps))(Ho:∀p∈ps,p.1≠[])(Hx:ps.length<=1000000)(hk:Bs (im S w) k kv):
  Calls prog 255 #[ptr bk] w λe w2=>e=.returned (ptr w.heap.size)/\za w w2/\
   (∀lim:Int,Calls prog 320 #[ptr w.heap.size,kv,.slice none 0 0,.int .i64 lim] w2 λe w3=>∃ks vs,e=.returned (.tuple #[ks,vs])/\za w w3/\Plain ks/\qP (im S w3) (qX ps k).toList vs):=by
 obtain⟨_,nv,pv,fp,g1,g2,g3⟩:=h.hb _ (List.mem_of_getElem? hj);have c2:w.cell? ⟨bk,2,none⟩=some pv:=by rw[cell_of_row w bk 2 _ _ (0,0) g1];rfl
 refine(xX c2 g3.shape).mono ?_;rintro e w2 ⟨rfl,rfl⟩;have Hj:za w (w.alloc (.cells #[pv,.int .i64 0,ptr bk] 486)):=(za.refl w).alloc _;refine⟨rfl,Hj,λlim=> ?_⟩;have Hc:=zg w (.cells #[pv,.int .i64 0,ptr bk] 486);have Ro:bk<w.heap.size:=World.block_lt_of_cell? w _ c2;have hY:=xw (S:=S) Hj (Nat.le_refl _);refine(ZT (S:=S) (bk:=bk) (ps:=ps) (pv:=pv) (x:=k) (lim:=lim) (λq e=>Nat.lt_of_lt_of_le (hS q e) Hj.size) (by simp) (by rw[cell_of_row _ w.heap.size 0 _ _ (0,0) Hc];rfl) (by rw[cell_of_row _ w.heap.size 1 _ _ (0,0) Hc];rfl) (by rw[cell_of_row _ w.heap.size 2 _ _ (0,0) Hc];rfl)
  (by unfold World.frozen?;rw[Hc];rfl) (by omega) (by rw[World.cell?_alloc_lt _ _ _ (by simpa using Ro)];exact c2) (g3.mono hY) rJ Ho Hx (hk.mono hY)).mono ?_
 rintro e w3 ⟨ks,vs,rfl,r6,M_,Td⟩;exact⟨ks,vs,rfl,zq.trans Hj r6 (λq hq e=>by omega),M_.plain,Td⟩
variable{xv:Value}
theorem JC{w:World}{db:Nat}{bs:List (Nat×zZ)}(h:kr (im S w) w F tx db wt bs)(hj:bs[j]? =some (bk,(nm,ps)))(pS:zk (zG bs) nm=j)(RI:zx (zG bs) nm=true)(hx:Bs (im S w) nm xv):
  Calls prog 319 #[ptr tx,xv] w λe w'=>e=.returned (ptr bk)/\w=w':=by
 have rC:=(List.getElem?_eq_some_iff.1 hj).1;have Th:=(List.getElem?_eq_some_iff.1 hj).2;have:=Zc h (zd _ _) hx rC pS RI;rw[Th]at this;exact this
end Go.Proofs.YtbmdoinjkligiaaGreat
