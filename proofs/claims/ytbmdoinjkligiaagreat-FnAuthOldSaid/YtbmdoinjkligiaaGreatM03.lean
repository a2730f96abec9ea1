/- Contracts and laws that the last text joins. -/
import Derived.Test.YtbmdoinjkligiaaGreatM02
set_option maxRecDepth 100000
set_option maxHeartbeats 40000000
set_option linter.all false
namespace Go.Proofs.YtbmdoinjkligiaaGreat
open Tryz
open Lib(hid)
open Go.RowKit
variable{rc v:Value}
theorem Ue{D:World->Prop}{T:TypeId}{g:FuncId}{n:Int}{w:World}(h:G8 D T v g rc n)(hw:D w)(h0:0<=n)(hn:n<=1000):
  Calls prog 106 #[.iface T v,.int .i64 n] w λe w'=>e=.returned (.tuple #[])/\za w w':=by
 have H:=hid h;have HW:=hid hw;clear h hw;go_enter func106,ntmps106;go_wp2;go_loopw [5,6] (λi j wr=>∃a:Int,0<=a/\a<=1000/\i=.int .i64 a/\j=.int .i64 (a+20)/\za w wr) (λi _ _=>(n-intOf i).toNat)
 case atStart=>exact⟨0,by omega,by omega,rfl,rfl,za.refl w⟩
 case round=>
  obtain⟨a,ha1,ha2,rfl,rfl,hD⟩:=hrel;have HD:=hid hD;clear hD;by_cases hlt:a+20<=n
  ·go_wp2_with (go_at_call 109;refine(x8 H.out (H.out.new _ _ HW.out HD.out) (by omega) (by omega) (by omega) hn).mono ?_;rintro e w1 ⟨rfl,hd1⟩;have HD1:=hid hd1;clear hd1);go_roundw
   case rel=>exact⟨a+20,by omega,by omega,rfl,by go_num,HD.out.trans HD1.out⟩
   case measure=>simp[intOf];omega
  ·go_wp2_with (go_at_call 109;refine(x8 H.out (H.out.new _ _ HW.out HD.out) (by omega) (by omega) (by omega) hn).mono ?_;rintro e w1 ⟨rfl,hd1⟩;have HD1:=hid hd1;clear hd1);have HD2:=hid (HD.out.trans HD1.out);clear HD HD1 ha1 ha2 hlt;go_loopw [4,5,6,7] (λbs _ _ _ wr=>∃s:Int,20<=s/\s<=4000/\bs=.int .i64 s/\za w wr) (λbs _ _ _ _=>(n-intOf bs).toNat)
   case atStart=>exact⟨20,by omega,by omega,rfl,HD2.out⟩
   case round=>
    obtain⟨s,hs1,hs2,rfl,hD⟩:=hrel;have HD:=hid hD;clear hD;by_cases hlt:s<n
    ·go_wp2;go_loopw [5,6] (λi j wr=>∃a:Int,0<=a/\a<=1000/\i=.int .i64 a/\j=.int .i64 (a+2*s)/\za w wr) (λi _ _=>(n-intOf i).toNat)
     case atStart=>exact⟨0,by omega,by omega,rfl,by go_num,HD.out⟩
     case round=>
      obtain⟨a,ha1,ha2,rfl,rfl,hD2⟩:=hrel;have HE:=hid hD2;clear hD2;by_cases hlt2:a+2*s<=n
      ·go_wp2_with (go_at_call 118;refine(ZJ H.out hn _ _ _ _ _ (H.out.new _ _ HW.out HE.out) (Nat.le_refl _) (by omega) (by omega) (by omega) (by omega)).mono ?_;rintro e w1 ⟨rfl,hd1⟩;have HD1:=hid hd1;clear hd1);go_roundw
       case rel=>exact⟨a+2*s,by omega,by omega,rfl,by go_num,HE.out.trans HD1.out⟩
       case measure=>simp[intOf];omega
      ·by_cases hlt3:a+s<n
       ·go_wp2_with (go_at_call 118;refine(ZJ H.out hn _ _ _ _ _ (H.out.new _ _ HW.out HE.out) (Nat.le_refl _) (by omega) (by omega) (by omega) (by omega)).mono ?_;rintro e w1 ⟨rfl,hd1⟩;have HD1:=hid hd1;clear hd1);go_roundw
        case rel=>exact⟨s*2,by omega,by omega,rfl,HE.out.trans HD1.out⟩
        case measure=>simp[intOf];omega
       ·go_wp2;go_roundw
        case rel=>exact⟨s*2,by omega,by omega,rfl,HE.out⟩
        case measure=>simp[intOf];omega
    ·go_wp2;go_returns;exact⟨rfl,HD.out⟩
theorem Uf{D:World->Prop}{T:TypeId}{rn:Value}{g gn:FuncId}{n:Int}{w:World}(h:G8 D T v g rc n)(hN:zcQ D T v gn rn n)(hw:D w)(h0:0<=n)(hn:n<=1000):
  Calls prog 99 #[.iface T v] w λe w'=>e=.returned (.tuple #[])/\za w w':=by
 have hmeth:=hN.meth;have hnil:=hN.nil;have hent:=hN.enter;have H:=hid h;have HN:=hid hN;have HW:=hid hw;clear h hw hN;go_enter func99,ntmps99;go_wp2_with fail;refine(HN.out.len _ HW.out).mono ?_;rintro e w1 ⟨rfl,h1⟩;have H1:=hid h1;clear h1;go_wp2_with fail;refine(Ue H.out (H.out.new _ _ HW.out H1.out) h0 hn).mono ?_;rintro e w2 ⟨rfl,h2⟩;have H2:=hid (H1.out.trans h2);clear h2;go_wp2;go_returns;exact⟨rfl,H2.out⟩
variable{bb:Nat}
theorem zcR{w:World}{n:Int}(hu:w.cell? ⟨bb,1,none⟩=some (.int .i64 n)):
  Calls prog 252 #[ptr bb] w λe w'=>e=.returned (.int .i64 n)/\za w w':=by
 go_enter func252,ntmps252;go_wp2;go_returns;exact⟨rfl,za.refl w⟩
variable{S:Nat->Prop}{a:Nat}{ks:List Bytes}
theorem jv.key{w:World}(h:jv (im S w) w bb a ks){i:Nat}(hi:i<ks.length):∃p n c,w.cell? ⟨a,i*2,none⟩=some (.slice p n c)/\Z9 w ks[i] (.slice p n c):=by obtain⟨g1,g2,arr,g3,g4,g5,g6⟩:=h;obtain⟨k,v,kv,vv,e0,e1,e2,e3,e4⟩:=g6 i hi;obtain⟨p,n,c,rfl,_⟩:=e3.shape;refine⟨p,n,c,by rw[cell_of_row w a _ _ _ (0,0) g3];exact e1,?_⟩;rw[List.getElem?_eq_getElem hi]at e0;cases e0;exact e3.mono (zd _ _)
theorem Gr{w:World}(h:jv (im S w) w bb a ks){x y:Int}(hx0:0<=x)(hy0:0<=y)(hx:x.toNat<ks.length)(hy:y.toNat<ks.length):
  Calls prog 253 #[ptr bb,.int .i64 x,.int .i64 y] w λe w'=>e=.returned (.bool (decide (zt ks[x.toNat] ks[y.toNat]<0)))/\za w w':=by
 obtain⟨i,rfl⟩:=Int.eq_ofNat_of_zero_le hx0;obtain⟨j,rfl⟩:=Int.eq_ofNat_of_zero_le hy0;simp only[Int.toNat_natCast]at hx hy⊢;have c0:w.cell? ⟨bb,0,none⟩=some (.slice (some ⟨a,0,none⟩) 512 512):=by rw[cell_of_row w bb 0 _ _ (0,0) h.1];rfl
 have hlt:ks.length<512:=h.2.1;have hi5:(i:Int)<512:=by omega
 have hj5:(j:Int)<512:=by omega
 obtain⟨p1,n1,c1,k1,b1⟩:=h.key hx;obtain⟨p2,n2,c2,k2,b2⟩:=h.key hy;have B1:=hid b1;clear b1;have B2:=hid b2;clear b2;clear h;go_enter func253,ntmps253;go_wp2;go_quiet ((go_at_call 104;exact zw (yb (by exact B1.out) (by exact B2.out))));go_wp2;go_returns;exact⟨rfl,(za.refl w).drewN _⟩
theorem dY(bb:Nat)(W:World):(method 608 300 (ptr bb) "Less").run prog W=.ok (253,ptr bb) W:=by kernel_rfl
theorem Ug(bb:Nat)(W:World):(method 608 300 (ptr bb) "Len").run prog W=.ok (252,ptr bb) W:=by kernel_rfl
theorem Uh(bb:Nat)(W:World):(nilAhead 608 300 (ptr bb) "Less").run prog W=.ok (some false) W:=by kernel_rfl
theorem G9(bb:Nat)(W:World):(nilAhead 608 300 (ptr bb) "Len").run prog W=.ok (some false) W:=by kernel_rfl
theorem gq(args:Array Value)(W:World):(callFunc 253 args).run prog W=.ok (.enter 253 args) W:=by kernel_rfl
theorem dZ(args:Array Value)(W:World):(callFunc 252 args).run prog W=.ok (.enter 252 args) W:=by kernel_rfl
variable{j:Nat}
theorem zM.lt(h:zM ks){i:Nat}(hi:i<ks.length)(hj:j<ks.length)(hij:i<j):zt ks[i] ks[j]<0:=List.pairwise_iff_getElem.1 h _ _ hi hj hij
variable{w':World}
theorem jv.new{w:World}(h:jv (im S w) w bb a ks)(hn:za w w'):jv (im S w') w' bb a ks:=
 h.frame (hn.block _ h.lt1 (λe=>e)) (hn.block _ h.lt2 (λe=>e)) (za.im hn S)
theorem Wt(hr:zM ks):G8 (λW=>jv (im S W) W bb a ks) 300 (ptr bb) 253 (ptr bb) ks.length where
 new _ _ h hn:=h.new hn
 meth:=dY bb
 nil:=Uh bb
 enter:=gq
 ge W x y h h0 h1 h2:=by
  have hx:x.toNat<ks.length:=by omega
  have hy:y.toNat<ks.length:=by omega
  refine(Gr h (by omega) h0 hx hy).mono ?_;rintro e w' ⟨rfl,hn⟩;refine⟨?_,hn⟩;have hd:decide (zt ks[x.toNat] ks[y.toNat]<0)=false:=by
   rw[decide_eq_false_iff_not];rcases Nat.lt_or_ge y.toNat x.toNat with e|e
   ·exact y9 (hr.lt hy hx e)
   ·have:x.toNat=y.toNat:=by omega
    simp only[this];exact zI _
  rw[hd]
 lt W x y h h0 h1 h2:=by
  have hx:x.toNat<ks.length:=by omega
  have hy:y.toNat<ks.length:=by omega
  refine(Gr h h0 (by omega) hx hy).mono ?_;rintro e w' ⟨rfl,hn⟩;refine⟨?_,hn⟩;have hd:decide (zt ks[x.toNat] ks[y.toNat]<0)=true:=by rw[decide_eq_true_iff];exact hr.lt hx hy (by omega)
  rw[hd]
theorem Gs:zcQ (λW=>jv (im S W) W bb a ks) 300 (ptr bb) 252 (ptr bb) ks.length where
 meth:=Ug bb
 nil:=G9 bb
 enter:=dZ
 len W h:=zcR (by rw[cell_of_row W bb 1 _ _ (0,0) h.1];rfl)
variable{b:Nat}
theorem ZK{w:World}{o:Nat}{c:Array Value}{T:TypeId}(h:w.heap[b]? =some (.cells c T (0,0)))(hv:c[o]? =some v):w.setCell ⟨b,o,none⟩ v=w:=by
 have hh:(w.setCell ⟨b,o,none⟩ v).heap=w.heap:=Array.ext_getElem? λi=>by
  by_cases e:i=b
  ·subst e;rw[heap_setCell_same w i o c T v h,h];obtain⟨hl,he⟩:=Array.getElem?_eq_some_iff.1 hv;have:c.setIfInBounds o v=c:=by
    apply Array.ext_getElem?;intro j;rw[Array.getElem?_setIfInBounds];split
    ·rename_i e;subst e;exact hv.symm
    ·rfl
   rw[this]
  ·exact Below.heap_setCell _ _ _ _ e
 have h2:w.setCell ⟨b,o,none⟩ v={w with heap:=(w.setCell ⟨b,o,none⟩ v).heap}:=rfl;rw[h2,hh]
theorem G_{w:World}(h:jv (im S w) w bb a ks)(hr:zM ks):
  Calls prog 89 #[ptr bb] w λe w'=>e=.returned (.tuple #[])/\za w w':=by
 obtain⟨n,hn⟩:∃n,ks.length=n:=⟨_,rfl⟩;obtain⟨u1,_⟩:=h.used;have hlt:ks.length<512:=h.2.1;rw[hn]at u1 hlt;have HS:=hid (Wt (S:=S) (bb:=bb) (a:=a) hr);have HL:=hid (Gs (S:=S) (bb:=bb) (a:=a) (ks:=ks));rw[hn]at HS HL;have HH:=hid h;clear h;have HN:=hid hn;clear hn;have HR:=hid hr;clear hr;by_cases h1:n<=1
 ·go_enter func89,ntmps89;go_wp2;go_returns;exact⟨rfl,za.refl w⟩
 ·go_enter func89,ntmps89;go_wp2_with fail;refine(Uf HS.out HL.out HH.out (by omega) (by omega)).mono ?_;rintro e w1 ⟨rfl,hn1⟩;have HB1:=hid (HH.out.new hn1);have HN1:=hid hn1;clear hn1;go_wp2_with fail;go_loopw [2,3] (λi j wr=>∃q r:Nat,q+1<=r/\r<=q+1/\r<=n/\i=.int .i64 q/\j=.int .i64 r/\za w wr) (λ_ j _=>n-(intOf j).toNat)
  case atStart=>exact⟨0,1,by omega,by omega,by omega,rfl,rfl,HN1.out⟩
  case round=>
   obtain⟨q,r,hr1,hr1',hr2,rfl,rfl,hM⟩:=hrel;have hB:=HH.out.new hM;obtain⟨v1,v1f⟩:=hB.used;rw[HN.out]at v1;have c0:wr.cell? ⟨bb,0,none⟩=some (.slice (some ⟨a,0,none⟩) 512 512):=by rw[cell_of_row wr bb 0 _ _ (0,0) hB.1];rfl
   by_cases hlt2:r<n
   ·have hri:(r:Int)<512:=by omega
    have hri0:(0:Int)<=r:=by omega
    have hqi:(q:Int)<512:=by omega
    have hqi0:(0:Int)<=q:=by omega
    have hkr:r<ks.length:=by rw[HN.out];exact hlt2
    have hkq:q<ks.length:=by rw[HN.out];omega
    obtain⟨p1,n1,q1,k1,b1⟩:=hB.key hkr;obtain⟨p2,n2,q2,k2,b2⟩:=hB.key hkq;have hne:(ks[r]==ks[q])=false:=by simp only[beq_eq_false_iff_ne];intro e;have:=HR.out.lt hkq hkr (by omega);rw[e]at this;exact zI _ this
    obtain⟨arr,vp,vn,vc,g3,k3,g4,g5⟩:∃(arr:Array Value) (vp:Option Addr) (vn vc:Nat),wr.heap[a]? =some (.cells arr 313 (0,0))/\wr.cell? ⟨a,r*2+1,none⟩=some (.slice vp vn vc)/\arr[r*2]? =some (.slice p1 n1 q1)/\arr[r*2+1]? =some (.slice vp vn vc):=by obtain⟨_,_,arr,g3,g4,g5,g6⟩:=hB;obtain⟨k,v,kv,vv,e0,e1,e2,e3,e4⟩:=g6 r hkr;obtain⟨vp,vn,vc,rfl,_⟩:=e4.shape;have k1':=k1;rw[cell_of_row wr a _ _ _ (0,0) g3]at k1';exact⟨arr,vp,vn,vc,g3,by rw[cell_of_row wr a _ _ _ (0,0) g3];exact e2,k1',e2⟩
    have f0:wr.frozen? ⟨a,r*2,none⟩=false:=by simp[World.frozen?,g3]
    have f1:wr.frozen? ⟨a,r*2+1,none⟩=false:=by simp[World.frozen?,g3]
    have G3:=hid g3;clear g3;have G4:=hid g4;clear g4;have G5:=hid g5;clear g5;have B1:=hid b1;clear b1;have B2:=hid b2;clear b2;have HM:=hid hM;clear hM;have HB:=hid hB;clear hB;have hq1:(q:Int)+1=r:=by omega
    have HNE:=hid hne;clear hne;go_wp2;go_quiet ((go_at_call 100;exact zw (qh (by exact B1.out) (by exact B2.out))));rw[HNE.out];go_wp2;go_region;go_wp2;go_roundw
    case rel=>have e1:∀m,(wr.drewN m).setCell ⟨a,r*2,none⟩ (.slice p1 n1 q1)=wr.drewN m:=λm=>ZK G3.out G4.out;have e2:∀m,(wr.drewN m).setCell ⟨a,r*2+1,none⟩ (.slice vp vn vc)=wr.drewN m:=λm=>ZK G3.out G5.out;refine⟨r,r+1,by omega,by omega,by omega,rfl,by go_num,?_⟩;rw[e1,e2];exact HM.out.drewN _
    case measure=>simp[intOf];omega
   ·have hfin:∀m,za w ((wr.drewN m).setCell ⟨bb,1,none⟩ (.int .i64 r)):=λm=>by
     have e0:r=ks.length:=by rw[HN.out];omega
     have e1:(wr.drewN m).setCell ⟨bb,1,none⟩ (.int .i64 r)=wr.drewN m:=ZK hB.1 (by rw[e0];rfl);rw[e1];exact hM.drewN m
    have HFIN:=hid hfin;clear hfin;have hq1:(q:Int)+1=r:=by omega
    clear hM hB;go_wp2;go_returns;exact⟨rfl,HFIN.out 0⟩
structure kK(S F:Nat->Prop)(w wr:World)(m m4 R:Nat)(e2 e4 cur2 cur4:zZ)(left:List (zF×Value)):Prop where
 rng:zP k6 wr m R (cur2.map vX) left
 mod:zo (λj=>j=m\/j=m4\/j∈zl (e2++e4)) w wr
 b2:zR (im S wr) wr F m cur2
 b4:zR (im S wr) wr F m4 cur4
 apart:((cur2++cur4).flatMap λe=>[e.2.1,e.2.2.1]).Nodup
 u2:∀e∈cur2,zM e.2.2.2
 u4:∀e∈cur4,zM e.2.2.2
 clean:∀e∈cur4,∀x∈left,x.1=e.1->e.2.2.2=[]
 sub:∀j∈zl (cur2++cur4),j∈zl (e2++e4)
 fresh:w.heap.size<=R
 nd:(left.map (·.1)).Nodup
theorem zV(a b:zZ):zl (a++b)=zl a++zl b:=by simp[zl]
variable{F:Nat->Prop}{es:zZ}{r:Rd}
theorem zR.cellsAt{w:World}{m:Nat}(h:zR r w F m es)(hj:j∈zl es):∃c T g,w.heap[j]? =some (.cells c T g):=by
 obtain⟨e,he,hje⟩:=List.mem_flatMap.1 hj;obtain⟨_,_,q1,_,ar,q3,_⟩:=h.ok e he;simp only[List.mem_cons,List.not_mem_nil,or_false]at hje;rcases hje with rfl|rfl
 ·exact⟨_,_,_,q1⟩
 ·exact⟨_,_,_,q3⟩
variable{α:Type}
theorem zR.notMap{w:World}{m m':Nat}{kf:α->Value}{xs:List (α×Value)}(h:zR r w F m es)(h':zD kf w m' xs):m'∉zl es:=λhj=>by obtain⟨c,T,g,h1⟩:=h.cellsAt hj;obtain⟨a,ck,h2,_⟩:=h';rw[h1]at h2;cases h2
variable{e2 e4:zZ}{m4:Nat}{wr:World}
theorem kK.cells{w:World}{m R:Nat}{cur2 cur4:zZ}{left:List (zF×Value)}(h:kK S F w wr m m4 R e2 e4 cur2 cur4 left)(hj:j∈zl (cur2++cur4)):j≠m/\j≠R/\j≠m4:=by
 have h0:∃c T g,wr.heap[j]? =some (.cells c T g):=by
  rw[zV]at hj;rcases List.mem_append.1 hj with e|e
  ·exact h.b2.cellsAt e
  ·exact h.b4.cellsAt e
 obtain⟨c,T,g,h1⟩:=h0;have:=h.rng.notCells h1;refine⟨this.1,this.2,λe=> ?_⟩;subst e;obtain⟨a,ck,h2,_⟩:=h.b4.map;rw[h1]at h2;cases h2
theorem V2{a b:zZ}(h:((a++b).flatMap λe=>[e.2.1,e.2.2.1]).Nodup)(x:zF)(u:List Bytes):((a++yd b x u).flatMap λe=>[e.2.1,e.2.2.1]).Nodup:=by rw[List.flatMap_append,jZ,<-List.flatMap_append];exact h
variable{w1 w2:World}
theorem kK.merge{w:World}{m R:Nat}{cur2 cur4:zZ}{left:List (zF×Value)}(h:kK S F w wr m m4 R e2 e4 cur2 cur4 left)(hFS:∀j,F j->S j)(hne:m4≠m){x:zF}{sb sa:Nat}{u:List Bytes}
  (hs:(x,sb,sa,u)∈cur2)(hb:(x,bb,a,[])∈cur4)(hr1:zP k6 w1 m R (cur2.map vX) (yK left x))(hm1:zo (· =R) wr w1)(hm2:zo (λj=>j=bb\/j=a) w1 w2)(hbb:jv (im S w2) w2 bb a u):
  kK S F w w2 m m4 R e2 e4 cur2 (yd cur4 x u) (yK left x):=by
 have hwr:w.heap.size<=wr.heap.size:=h.mod.size;obtain⟨o1,o2,o3⟩:=h.b4.ok _ hb;have hin4:=qm hb;have hin:bb∈zl (cur2++cur4)/\a∈zl (cur2++cur4):=by rw[zV];exact⟨List.mem_append_right _ hin4.1,List.mem_append_right _ hin4.2⟩
 have hTS:∀j,(j=bb\/j=a)->S j:=λj e=>by rcases e with rfl|rfl;exact hFS _ o1;exact hFS _ o2
 have hle1:(im S wr).le (im S w1):=Qp hm1 λa e=>h.rng.noCell (Or.inr e);have hle2:(im S w1).le (im S w2):=(hm2.mono (S':=S) λj _ e=>hTS j e).im λ_ _ h=>h;have hle:=hle1.le_trans hle2;obtain⟨nb1,nb2,nb3⟩:=h.cells hin.1;obtain⟨na1,na2,na3⟩:=h.cells hin.2;have keep:∀j,j<wr.heap.size->j≠R->j≠bb->j≠a->w2.heap[j]? =wr.heap[j]? :=λj hj h1 h2 h3=>
  (hm2.block j (Nat.lt_of_lt_of_le hj hm1.size) (λe=>by rcases e with e|e;exact h2 e;exact h3 e)).trans (hm1.block j hj h1)
 have hmm:w2.heap[m]? =w1.heap[m]? :=hm2.block m hr1.owns.lt (λe=>by rcases e with e|e;exact nb1 e.symm;exact na1 e.symm);have hRR:w2.heap[R]? =w1.heap[R]? :=hm2.block R hr1.ne.2 (λe=>by rcases e with e|e;exact nb2 e.symm;exact na2 e.symm);have hR4:m4≠R:=λe=>by obtain⟨aa,ck,s,n,c0,_,_,_,q4,_⟩:=h.rng;obtain⟨a',ck',q5,_⟩:=h.b4.map;rw[e,q4]at q5;cases q5
 have cross:∀e∈cur2,e.2.1≠bb/\e.2.1≠a/\e.2.2.1≠bb/\e.2.2.1≠a:=λe he=>by have:=h.apart;rw[List.flatMap_append,List.nodup_append]at this;have k:=this.2.2;have m1:=qm he;exact⟨k _ m1.1 _ hin4.1,k _ m1.1 _ hin4.2,k _ m1.2 _ hin4.1,k _ m1.2 _ hin4.2⟩
 refine⟨hr1.frame hmm hRR,?_,⟨hr1.owns.frame hmm,λe he=> ?_,h.b2.apart⟩,⟨?_,λe he=> ?_,by rw[jZ];exact h.b4.apart⟩,V2 h.apart x u,h.u2,λe he=> ?_,λe he y hy hye=> ?_,λj hj=> ?_,h.fresh,ZI h.nd x⟩
 ·refine zo.trans (zo.trans h.mod hm1 λj hj e=> ?_) hm2 λj _ e=> ?_
  ·have:=h.fresh;omega
  ·rcases e with rfl|rfl
   ·exact Or.inr (Or.inr (h.sub _ hin.1))
   ·exact Or.inr (Or.inr (h.sub _ hin.2))
 ·obtain⟨q1,q2,q3⟩:=h.b2.ok e he;obtain⟨c1,c2,c3,c4⟩:=cross e he;have m1:=qm he;have hmem:∀j,j∈zl cur2->j∈zl (cur2++cur4):=λj hj=>by rw[zV];exact List.mem_append_left _ hj
  exact⟨q1,q2,q3.frame (keep _ q3.lt1 (h.cells (hmem _ m1.1)).2.1 c1 c2) (keep _ q3.lt2 (h.cells (hmem _ m1.2)).2.1 c3 c4) hle⟩
 ·rw[Qk (λi y _=>(i,ptr y))];exact h.b4.map.frame (keep m4 h.b4.map.lt hR4 (λe=>nb3 e.symm) (λe=>na3 e.symm))
 ·unfold yd at he;obtain⟨g,hg,rfl⟩:=List.mem_map.1 he;by_cases e1:g.1=x
  ·rw[if_pos e1];have:g=(x,bb,a,[]):=gh h.b4.keys hg hb e1;subst this;exact⟨o1,o2,hbb⟩
  ·rw[if_neg e1];obtain⟨q1,q2,q3⟩:=h.b4.ok g hg;obtain⟨a1,a2,a3,a4⟩:=Ql h.b4.apart hg hb e1;have m1:=qm hg;have hmem:∀j,j∈zl cur4->j∈zl (cur2++cur4):=λj hj=>by rw[zV];exact List.mem_append_right _ hj
   exact⟨q1,q2,q3.frame (keep _ q3.lt1 (h.cells (hmem _ m1.1)).2.1 a1 a2) (keep _ q3.lt2 (h.cells (hmem _ m1.2)).2.1 a3 a4) hle⟩
 ·unfold yd at he;obtain⟨g,hg,rfl⟩:=List.mem_map.1 he;split
  ·have hu:=h.u2 _ hs;exact hu
  ·exact h.u4 g hg
 ·unfold yd at he;obtain⟨g,hg,rfl⟩:=List.mem_map.1 he;obtain⟨y1,y2⟩:=Qn.1 hy;by_cases e1:g.1=x
  ·rw[if_pos e1]at hye;exact absurd (hye.trans e1) y2
  ·rw[if_neg e1]at hye⊢;exact h.clean g hg y y1 hye
 ·have e:zl (cur2++yd cur4 x u)=zl (cur2++cur4):=by
   rw[zV,zV];show _++(yd cur4 x u).flatMap (λe=>[e.2.1,e.2.2.1])=_;rw[jZ]
  rw[e]at hj;exact h.sub j hj
theorem kK.move{w w3:World}{m R:Nat}{cur2 cur4:zZ}{left:List (zF×Value)}(h:kK S F w wr m m4 R e2 e4 cur2 cur4 left)(hne:m4≠m){x:zF}{sb sa:Nat}{u:List Bytes}
  (hs:(x,sb,sa,u)∈cur2)(hno:jt (cur4.map vX) x=none)(hr1:zP k6 w1 m R (cur2.map vX) (yK left x))(hm1:zo (· =R) wr w1)(hr2:zP k6 w2 m R (yK (cur2.map vX) x) (yK (yK left x) x))(hm2:zo (· =m) w1 w2)
  (hm3:zo (· =m4) w2 w3)(h3:zD k6 w3 m4 (xx (cur4.map vX) x (ptr sb))):
  kK S F w w3 m m4 R e2 e4 (cur2.filter λe=>e.1≠x) (cur4++[(x,sb,sa,u)]) (yK left x):=by
 have hle1:(im S wr).le (im S w1):=Qp hm1 λa e=>h.rng.noCell (Or.inr e);have hle2:(im S w1).le (im S w2):=Qp hm2 λa e=>hr1.noCell (Or.inl e);have hR4:m4≠R:=λe=>by obtain⟨aa,ck,s,n,c0,_,_,_,q4,_⟩:=h.rng;obtain⟨a',ck',q5,_⟩:=h.b4.map;rw[e,q4]at q5;cases q5
 have h42:w2.heap[m4]? =wr.heap[m4]? :=(hm2.block _ (Nat.lt_of_lt_of_le h.b4.map.lt hm1.size) hne).trans (hm1.block _ h.b4.map.lt hR4);have hle3:(im S w2).le (im S w3):=Qp hm3 λa e=>(h.b4.map.frame h42).noCell e;have hle:=(hle1.le_trans hle2).le_trans hle3;have keep:∀j,j<wr.heap.size->j≠R->j≠m->j≠m4->w3.heap[j]? =wr.heap[j]? :=λj hj a1 a2 a3=>
  ((hm3.block j (Nat.lt_of_lt_of_le hj (Nat.le_trans hm1.size hm2.size)) a3).trans (hm2.block j (Nat.lt_of_lt_of_le hj hm1.size) a2)).trans (hm1.block j hj a1)
 have hmm:w3.heap[m]? =w2.heap[m]? :=hm3.block m hr2.owns.lt (λe=>hne e.symm);have hRR:w3.heap[R]? =w2.heap[R]? :=hm3.block R hr2.ne.2 (λe=>hR4 e.symm);have hmem2:∀j,j∈zl cur2->j∈zl (cur2++cur4):=λj hj=>by rw[zV];exact List.mem_append_left _ hj
 have hmem4:∀j,j∈zl cur4->j∈zl (cur2++cur4):=λj hj=>by rw[zV];exact List.mem_append_right _ hj
 have fr2:∀e∈cur2,F e.2.1/\F e.2.2.1/\jv (im S w3) w3 e.2.1 e.2.2.1 e.2.2.2:=λe he=>by obtain⟨q1,q2,q3⟩:=h.b2.ok e he;have m1:=qm he;obtain⟨a1,a2,a3⟩:=h.cells (hmem2 _ m1.1);obtain⟨c1,c2,c3⟩:=h.cells (hmem2 _ m1.2);exact⟨q1,q2,q3.frame (keep _ q3.lt1 a2 a1 a3) (keep _ q3.lt2 c2 c1 c3) hle⟩
 have fr4:∀e∈cur4,F e.2.1/\F e.2.2.1/\jv (im S w3) w3 e.2.1 e.2.2.1 e.2.2.2:=λe he=>by obtain⟨q1,q2,q3⟩:=h.b4.ok e he;have m1:=qm he;obtain⟨a1,a2,a3⟩:=h.cells (hmem4 _ m1.1);obtain⟨c1,c2,c3⟩:=h.cells (hmem4 _ m1.2);exact⟨q1,q2,q3.frame (keep _ q3.lt1 a2 a1 a3) (keep _ q3.lt2 c2 c1 c3) hle⟩
 have hsubf:∀j∈zl (cur2.filter λe=>e.1≠x),j∈zl cur2/\j≠sb/\j≠sa:=λj hj=>by
  obtain⟨e,he,hje⟩:=List.mem_flatMap.1 hj;obtain⟨he1,he2⟩:=List.mem_filter.1 he;obtain⟨a1,a2,a3,a4⟩:=Ql h.b2.apart he1 hs (by simpa using he2);have m1:=qm he1;simp only[List.mem_cons,List.not_mem_nil,or_false]at hje;rcases hje with rfl|rfl
  ·exact⟨m1.1,a1,a2⟩
  ·exact⟨m1.2,a3,a4⟩
 have hap:=h.apart;rw[List.flatMap_append,List.nodup_append]at hap;have hsm:=qm hs;have hx4:∀j∈zl cur4,j≠sb/\j≠sa:=λj hj=>⟨λe=>hap.2.2 _ hsm.1 _ hj e.symm,λe=>hap.2.2 _ hsm.2 _ hj e.symm⟩;have hsbsa:sb≠sa:=by have:=(h.b2.ok _ hs).2.2;obtain⟨q1,_,ar,q3,_⟩:=this;intro e;rw[e,q3]at q1;simp at q1
 have hnd4:((cur4++[(x,sb,sa,u)]).flatMap λe=>[e.2.1,e.2.2.1]).Nodup:=by
  rw[List.flatMap_append,List.nodup_append];refine⟨hap.2.1,by simpa using hsbsa,λy hy z hz e=> ?_⟩;simp only[List.flatMap_cons,List.flatMap_nil,List.append_nil,List.mem_cons,List.not_mem_nil,or_false]at hz;obtain⟨n1,n2⟩:=hx4 y hy;rcases hz with rfl|rfl
  ·exact n1 e
  ·exact n2 e
 have hput:xx (cur4.map vX) x (ptr sb)=(cur4++[(x,sb,sa,u)]).map vX:=by unfold xx;rw[hno];simp
 rw[KG,Jk]at hr2;refine⟨hr2.frame hmm hRR,?_,⟨hr2.owns.frame hmm,λe he=>fr2 e (List.mem_filter.1 he).1,ZH h.b2.apart _⟩,⟨by rw[<-hput];exact h3,λe he=> ?_,hnd4⟩,?_,λe he=>h.u2 e (List.mem_filter.1 he).1,λe he=> ?_,λe he y hy hye=> ?_,λj hj=> ?_,h.fresh,ZI h.nd x⟩
 ·refine zo.trans (zo.trans (zo.trans h.mod hm1 λj hj e=> ?_) hm2 λj _ e=>Or.inl e) hm3 λj _ e=>Or.inr (Or.inl e);have:=h.fresh;omega
 ·rcases List.mem_append.1 he with he|he
  ·exact fr4 e he
  ·simp only[List.mem_singleton]at he;subst he;exact fr2 _ hs
 ·rw[List.flatMap_append,List.nodup_append];refine⟨ZH h.b2.apart _,hnd4,λy hy z hz e=> ?_⟩;obtain⟨n1,n2,n3⟩:=hsubf y hy;rw[List.flatMap_append]at hz;rcases List.mem_append.1 hz with hz|hz
  ·exact hap.2.2 _ n1 _ hz e
  ·simp only[List.flatMap_cons,List.flatMap_nil,List.append_nil,List.mem_cons,List.not_mem_nil,or_false]at hz;rcases hz with rfl|rfl
   ·exact n2 e
   ·exact n3 e
 ·rcases List.mem_append.1 he with he|he
  ·exact h.u4 e he
  ·simp only[List.mem_singleton]at he;subst he;exact h.u2 _ hs
 ·obtain⟨y1,y2⟩:=Qn.1 hy;rcases List.mem_append.1 he with he|he
  ·exact h.clean e he y y1 hye
  ·simp only[List.mem_singleton]at he;subst he;exact absurd hye y2
 ·refine h.sub j ?_;rw[zV]at hj⊢;rcases List.mem_append.1 hj with hj|hj
  ·exact List.mem_append_left _ (hsubf j hj).1
  ·rw[zV]at hj;rcases List.mem_append.1 hj with hj|hj
   ·exact List.mem_append_right _ hj
   ·simp only[zl,List.flatMap_cons,List.flatMap_nil,List.append_nil,List.mem_cons,List.not_mem_nil,or_false]at hj;rcases hj with rfl|rfl
    ·exact List.mem_append_left _ hsm.1
    ·exact List.mem_append_left _ hsm.2
variable{rt t:Nat}{sq:List (zF×Value)}
theorem Da{w:World}{m sm:Nat}{ver:Int}(hS:∀j,S j->j<w.heap.size)(hFS:∀j,F j->S j)(hSm:S m)(hSs:S sm)(hSm4:S m4)(hSr:S rt)(hne:m4≠m)(hsm:sm≠m)(hs4:sm≠m4)
  (h3:w.cell? ⟨t,3,none⟩=some (.map (some m)))(h4:w.cell? ⟨t,4,none⟩=some (.map (some sm)))(hr0:w.cell? ⟨rt,0,none⟩=some (.map (some m4)))(hr1:w.cell? ⟨rt,1,none⟩=some (.int .u64 ver))(hrf:w.frozen? ⟨rt,1,none⟩=false)
  (htb:t∉zl (e2++e4))(hrb:rt∉zl (e2++e4))(h2:zR (im S w) w F m e2)(hb4:zR (im S w) w F m4 e4)(hap:((e2++e4).flatMap λe=>[e.2.1,e.2.2.1]).Nodup)(hsq:zD k6 w sm sq)(hbo:vf sq)
  (hu2:∀e∈e2,zM e.2.2.2)(hu4:∀e∈e4,e.2.2.2=[]):
  Calls prog 83 #[.pointer (some ⟨t,3,none⟩),.pointer (some ⟨rt,0,none⟩)] w λe w'=>e=.returned (.tuple #[])/\∃(c2 c4:zZ) (sq':List (zF×Value)) (ver':Int),
   zo (λj=>j=m\/j=sm\/j=m4\/j=rt\/j∈zl (e2++e4)) w w'/\(∀c T,w.heap[rt]? =some (.cells c T (0,0))->w'.heap[rt]? =some (.cells (c.setIfInBounds 1 (.int .u64 ver')) T (0,0)))/\
   zR (im S w') w' F m c2/\zR (im S w') w' F m4 c4/\((c2++c4).flatMap λe=>[e.2.1,e.2.2.1]).Nodup/\zD k6 w' sm sq'/\vf sq'/\(∀e∈c2,e.2.2.2=[]):=by
 obtain⟨w0,hrange,hrg0,hn0,hsz0⟩:=zD.range (P:=prog) (k:=299) (t:=239) (e:=300) (by kernel_rfl) h2.map;have htm:t≠m:=λe=>by rw[h2.map.noCell (a:=⟨t,3,none⟩) e]at h3;cases h3
 have htm4:t≠m4:=λe=>by rw[hb4.map.noCell (a:=⟨t,3,none⟩) e]at h3;cases h3
 have hrm:rt≠m:=λe=>by rw[h2.map.noCell (a:=⟨rt,0,none⟩) e]at hr0;cases hr0
 have hrm4:rt≠m4:=λe=>by rw[hb4.map.noCell (a:=⟨rt,0,none⟩) e]at hr0;cases hr0
 have hsb:sm∉zl (e2++e4):=λhj=>by
  rw[zV]at hj;rcases List.mem_append.1 hj with e|e
  ·exact h2.notMap hsq e
  ·exact hb4.notMap hsq e
 have hle0:(im S w).le (im S w0):=za.im hn0 S;have hW0:kK S F w w0 m m4 w.heap.size e2 e4 e2 e4 (e2.map vX):=by
  refine⟨hrg0,hn0.mod _,⟨hrg0.owns,λe he=> ?_,h2.apart⟩,⟨hb4.map.frame (hn0.block _ hb4.map.lt (λe=>e)),λe he=> ?_,hb4.apart⟩,hap,hu2,λe he=>by rw[hu4 e he];exact List.Pairwise.nil,λe he _ _ _=>hu4 e he,λ_ e=>e,Nat.le_refl _,hrg0.owns.nodup⟩
  ·obtain⟨q1,q2,q3⟩:=h2.ok e he;exact⟨q1,q2,q3.frame (hn0.block _ q3.lt1 (λe=>e)) (hn0.block _ q3.lt2 (λe=>e)) hle0⟩
  ·obtain⟨q1,q2,q3⟩:=hb4.ok e he;exact⟨q1,q2,q3.frame (hn0.block _ q3.lt1 (λe=>e)) (hn0.block _ q3.lt2 (λe=>e)) hle0⟩
 have HW0:=hid hW0;clear hW0;have HFS:=hid hFS;clear hFS;have HS:=hid hS;clear hS;have HTB:=hid htb;clear htb;have HRB:=hid hrb;clear hrb;have HSB:=hid hsb;clear hsb;have HSQ:=hid hsq;clear hsq;have HBO:=hid hbo;clear hbo;have htl:=World.block_lt_of_cell? w _ h3;have hrl:=World.block_lt_of_cell? w _ hr0;clear hrg0 hn0 hsz0 hle0 h2 hb4 hap hu2 hu4;go_enter func83,ntmps83;go_wp2;go_loopw [4] (λ_ wr=>∃cur2 cur4 left,kK S F w wr m m4 w.heap.size e2 e4 cur2 cur4 left) (λ_ wr=>wr.rangeLeft m w.heap.size)
 case atStart=>exact⟨_,_,_,HW0.out⟩
 case round=>
  obtain⟨cur2,cur4,left,hW⟩:=hrel;have tnot:∀j,j=t->¬(j=m\/j=m4\/j∈zl (e2++e4)):=λj e h=>by
   subst e;rcases h with e|e|e
   ·exact htm e
   ·exact htm4 e
   ·exact HTB.out e
  have rnot:∀j,j=rt->¬(j=m\/j=m4\/j∈zl (e2++e4)):=λj e h=>by
   subst e;rcases h with e|e|e
   ·exact hrm e
   ·exact hrm4 e
   ·exact HRB.out e
  have snot: ¬(sm=m\/sm=m4\/sm∈zl (e2++e4)):=λh=>by
   rcases h with e|e|e
   ·exact hsm e
   ·exact hs4 e
   ·exact HSB.out e
  rcases zP.next (P:=prog) (k:=299) Zg hW.rng 0 with⟨hl,hnx⟩|⟨x,v,w1,hxl,hxe,hnx,hg1,hm1,hs1,hen⟩
  ·
   have c3:wr.cell? ⟨t,3,none⟩=some (.map (some m)):=hW.mod.cell (tnot t rfl) h3;have c4:wr.cell? ⟨t,4,none⟩=some (.map (some sm)):=hW.mod.cell (tnot t rfl) h4;have hsub2:∀j∈zl cur2,j∈zl (e2++e4):=λj hj=>hW.sub j (by rw[zV];exact List.mem_append_left _ hj);have hsqr:zD k6 wr sm sq:=HSQ.out.frame (hW.mod.block _ HSQ.out.lt snot);have hcall:=KH (S:=S) (F:=F) (λj e=>Nat.lt_of_lt_of_le (HS.out j e) hW.mod.size) HFS.out hSs c3 c4 (λe=>HTB.out (hsub2 _ e)) (λe=>HSB.out (hsub2 _ e)) hsm hW.b2 hsqr HBO.out;have hfin:∀(w5:World) (c2:zZ) (sq':List (zF×Value)) (ver':Int),zo (λj=>j=m\/j=sm\/j∈zl cur2) wr w5->zR (im S w5) w5 F m c2->zD k6 w5 sm sq'->vf sq'->(∀e∈c2,e.2.2.2=[])->(∀e∈c2,∃f∈cur2,f.1=e.1/\f.2.1=e.2.1/\f.2.2.1=e.2.2.1)->
     ∃(c2 c4:zZ) (sq':List (zF×Value)) (ver'':Int),
      zo (λj=>j=m\/j=sm\/j=m4\/j=rt\/j∈zl (e2++e4)) w (w5.setCell ⟨rt,1,none⟩ (.int .u64 ver'))/\(∀c T,w.heap[rt]? =some (.cells c T (0,0))->(w5.setCell ⟨rt,1,none⟩ (.int .u64 ver')).heap[rt]? =some (.cells (c.setIfInBounds 1 (.int .u64 ver'')) T (0,0)))/\
      zR (im S (w5.setCell ⟨rt,1,none⟩ (.int .u64 ver'))) (w5.setCell ⟨rt,1,none⟩ (.int .u64 ver')) F m c2/\zR (im S (w5.setCell ⟨rt,1,none⟩ (.int .u64 ver'))) (w5.setCell ⟨rt,1,none⟩ (.int .u64 ver')) F m4 c4/\((c2++c4).flatMap λe=>[e.2.1,e.2.2.1]).Nodup/\zD k6 (w5.setCell ⟨rt,1,none⟩ (.int .u64 ver')) sm sq'/\vf sq'/\(∀e∈c2,e.2.2.2=[]):=by
    intro w5 c2 sq' ver' hm5 hb5 hs5 hbo5 hz5 hsb5;have hms:zo (· =rt) w5 (w5.setCell ⟨rt,1,none⟩ (.int .u64 ver')):=vA (S:=(· =rt)) (zo.refl _ _) rfl _;have hleA:(im S wr).le (im S w5):=(hm5.mono (S':=S) λj _ e=>by
     rcases e with e|e|e
     ·rw[e];exact hSm
     ·rw[e];exact hSs
     ·exact HFS.out _ (hW.b2.blocks e).1).im λ_ _ h=>h
    have hleB:(im S w5).le (im S (w5.setCell ⟨rt,1,none⟩ (.int .u64 ver'))):=(hms.mono (S':=S) λ_ _ e=>by rw[e];exact hSr).im λ_ _ h=>h;have hc2b:∀e∈c2,e.2.1∈zl cur2/\e.2.2.1∈zl cur2:=λe he=>by obtain⟨f,hf,_,f1,f2⟩:=hsb5 e he;rw[<-f1,<-f2];exact qm hf
    have hrs:rt≠sm:=λe=>by rw[HSQ.out.noCell (a:=⟨rt,0,none⟩) e]at hr0;cases hr0
    have hap:=hW.apart;rw[List.flatMap_append,List.nodup_append]at hap;have h4n:∀j∈zl cur4,j<wr.heap.size->(w5.setCell ⟨rt,1,none⟩ (.int .u64 ver')).heap[j]? =wr.heap[j]? :=λj hj hlt=>by
     have hjall:j∈zl (cur2++cur4):=by rw[zV];exact List.mem_append_right _ hj
     obtain⟨a1,a2,a3⟩:=hW.cells hjall;rw[Below.heap_setCell _ _ _ _ (λe=>rnot j e (Or.inr (Or.inr (hW.sub j hjall)))),hm5.block j hlt (λe=> ?_)];rcases e with e|e|e
     ·exact a1 e
     ·exact HSB.out (by rw[<-e];exact hW.sub j hjall)
     ·exact hap.2.2 j e j hj rfl
    refine⟨c2,cur4,sq',ver',?_,?_,?_,?_,?_,hs5.frame (Below.heap_setCell _ _ _ _ (λe=>hrs e.symm)),hbo5,hz5⟩
    ·refine vA (S:=λj=>j=m\/j=sm\/j=m4\/j=rt\/j∈zl (e2++e4)) (zo.trans (hW.mod.mono λj _ e=> ?_) hm5 λj _ e=> ?_) (Or.inr (Or.inr (Or.inr (Or.inl rfl)))) _
     ·rcases e with e|e|e
      ·exact Or.inl e
      ·exact Or.inr (Or.inr (Or.inl e))
      ·exact Or.inr (Or.inr (Or.inr (Or.inr e)))
     ·rcases e with e|e|e
      ·exact Or.inl e
      ·exact Or.inr (Or.inl e)
      ·exact Or.inr (Or.inr (Or.inr (Or.inr (hsub2 _ e))))
    ·intro c T hc;have h5:w5.heap[rt]? =some (.cells c T (0,0)):=by
      rw[hm5.block rt (Nat.lt_of_lt_of_le hrl hW.mod.size) (λe=> ?_),hW.mod.block rt hrl (rnot rt rfl)]
      ·exact hc
      ·rcases e with e|e|e
       ·exact hrm e
       ·exact hrs e
       ·exact HRB.out (hsub2 _ e)
     rw[heap_setCell_same w5 rt 1 _ _ _ h5]
    ·refine⟨hb5.map.frame (Below.heap_setCell _ _ _ _ (λe=>hrm e.symm)),λe he=> ?_,hb5.apart⟩;obtain⟨q1,q2,q3⟩:=hb5.ok e he;have m1:=hc2b e he;exact⟨q1,q2,q3.frame (Below.heap_setCell _ _ _ _ (λh=>HRB.out (by have:=hsub2 _ m1.1;rw[h]at this;exact this))) (Below.heap_setCell _ _ _ _ (λh=>HRB.out (by have:=hsub2 _ m1.2;rw[h]at this;exact this))) hleB⟩
    ·refine⟨hW.b4.map.frame ?_,λe he=> ?_,hW.b4.apart⟩
     ·rw[Below.heap_setCell _ _ _ _ (λe=>hrm4 e.symm),hm5.block m4 hW.b4.map.lt (λe=> ?_)];rcases e with e|e|e
      ·exact hne e
      ·exact hs4 e.symm
      ·exact hW.b2.notMap hW.b4.map e
     ·obtain⟨q1,q2,q3⟩:=hW.b4.ok e he;have m1:=qm he;exact⟨q1,q2,q3.frame (h4n _ m1.1 q3.lt1) (h4n _ m1.2 q3.lt2) (hleA.le_trans hleB)⟩
    ·rw[List.flatMap_append,List.nodup_append];refine⟨hb5.apart,hap.2.1,λy hy z hz e=> ?_⟩;obtain⟨f,hf,hyf⟩:=List.mem_flatMap.1 hy;have m1:=hc2b f hf;simp only[List.mem_cons,List.not_mem_nil,or_false]at hyf;rcases hyf with rfl|rfl
     ·exact hap.2.2 _ m1.1 _ hz e
     ·exact hap.2.2 _ m1.2 _ hz e
   have hr5:∀w5,zo (λj=>j=m\/j=sm\/j∈zl cur2) wr w5->w5.cell? ⟨rt,1,none⟩=some (.int .u64 ver)/\w5.frozen? ⟨rt,1,none⟩=false:=λw5 hm5=>by
    have hb:w5.heap[rt]? =w.heap[rt]? :=(hm5.block rt (Nat.lt_of_lt_of_le hrl hW.mod.size) (λe=>by
     rcases e with e|e|e
     ·exact hrm e
     ·rw[HSQ.out.noCell (a:=⟨rt,0,none⟩) e]at hr0;cases hr0
     ·exact HRB.out (hsub2 _ e))).trans (hW.mod.block rt hrl (rnot rt rfl))
    exact⟨by rw[World.cell?_of_block hb];exact hr1,by rw[World.frozen?_of_block hb];exact hrf⟩
   have HFIN:=hid hfin;clear hfin;have HR5:=hid hr5;clear hr5;have HC:=hid hcall;clear hcall;clear hW hsqr hsub2 tnot rnot snot;go_wp2_with fail;refine HC.out.mono ?_;rintro e w5 ⟨rfl,c2,sq',hm5,hb5,hs5,hbo5,hz5,hsb5⟩;obtain⟨v1,v2⟩:=HR5.out w5 hm5;have HF:=hid (λver'=>HFIN.out w5 c2 sq' ver' hm5 hb5 hs5 hbo5 hz5 hsb5);clear hm5 hb5 hs5 hbo5 hz5 hsb5;go_wp2;go_returns;exact⟨rfl,HF.out _⟩
  ·obtain⟨sb,sa,u,hsin,rfl⟩:=Qo hxe;have hR:w.heap.size<=w.heap.size:=Nat.le_refl _;have k1:∀{p:Addr} {y:Value},p.block<w.heap.size->wr.cell? p=some y->w1.cell? p=some y:=λ{p y} hp hc=>hm1.cell (λe=>by omega) hc;have c3:w1.cell? ⟨t,3,none⟩=some (.map (some m)):=k1 htl (hW.mod.cell (tnot t rfl) h3);have c4:w1.cell? ⟨t,4,none⟩=some (.map (some sm)):=k1 htl (hW.mod.cell (tnot t rfl) h4);have d0:w1.cell? ⟨rt,0,none⟩=some (.map (some m4)):=k1 hrl (hW.mod.cell (rnot rt rfl) hr0);have hR4:m4≠w.heap.size:=λe=>by
    obtain⟨aa,ck,s,n,c0,_,_,_,q4,_⟩:=hW.rng;obtain⟨a',ck',q5,_⟩:=hW.b4.map;rw[e,q4]at q5;cases q5
   have hsqr:zD k6 w1 sm sq:=(HSQ.out.frame (hW.mod.block _ HSQ.out.lt snot)).frame (hm1.block _ (Nat.lt_of_lt_of_le HSQ.out.lt hW.mod.size) (λe=>by have:=HSQ.out.lt;omega));have hm4map:zD k6 w1 m4 (cur4.map vX):=hW.b4.map.frame (hm1.block _ hW.b4.map.lt hR4);have hlook4:=zD.look (P:=prog) (t:=239) (e:=300) Zg (by kernel_rfl) (z:=.pointer none) (by kernel_rfl) hm4map x true;have hslook:∃b ok:Bool,∀w',zD k6 w' sm sq->(Instr.lookup 286 (.map (some sm)) (k6 x) true).run prog w'=.ok (.tuple #[.bool b,.bool ok]) w':=by
    cases hg:jt sq x with
    |none=>refine⟨false,false,λw' h'=> ?_⟩;have:=zD.look (P:=prog) (t:=286) (e:=4) Zg (by kernel_rfl) (z:=.bool false) (by kernel_rfl) h' x true;rw[hg]at this;exact this
    |some y=>obtain⟨b,hb⟩:=HBO.out _ (Qi hg);simp only at hb;subst hb;refine⟨b,true,λw' h'=> ?_⟩;have:=zD.look (P:=prog) (t:=286) (e:=4) Zg (by kernel_rfl) (z:=.bool false) (by kernel_rfl) h' x true;rw[hg]at this;exact this
   obtain⟨b,ok,hslook⟩:=hslook;have hlt:=gp hxl;have hlq:=hW.rng.left_eq;have HLQ:=hid hlq;clear hlq;have hus:zM u:=hW.u2 _ hsin;obtain⟨o1,o2,o3⟩:=hW.b2.ok _ hsin;have hsmem:=qm hsin;have hsall:sb∈zl (cur2++cur4)/\sa∈zl (cur2++cur4):=by rw[zV];exact⟨List.mem_append_left _ hsmem.1,List.mem_append_left _ hsmem.2⟩
   obtain⟨nb1,nb2,nb3⟩:=hW.cells hsall.1;obtain⟨na1,na2,na3⟩:=hW.cells hsall.2;have hs1':jv (im S w1) w1 sb sa u:=o3.frame (hm1.block _ o3.lt1 nb2) (hm1.block _ o3.lt2 na2) (Qp hm1 λa e=>hW.rng.noCell (Or.inr e));cases hg:jt (cur4.map vX) x with
   |none=>
    rw[hg]at hlook4;simp only[if_true]at hlook4;obtain⟨w2,hdel,hg2,hm2,_⟩:=zP.del (P:=prog) (t:=239) (e:=300) Zg (by kernel_rfl) hg1 x 0;have hsq2:zD k6 w2 sm sq:=hsqr.frame (hm2.block _ hsqr.lt hsm);have hm4m2:zD k6 w2 m4 (cur4.map vX):=hm4map.frame (hm2.block _ hm4map.lt hne);have q4:w2.cell? ⟨t,4,none⟩=some (.map (some sm)):=hm2.cell htm c4;have e0:w2.cell? ⟨rt,0,none⟩=some (.map (some m4)):=hm2.cell hrm d0;have hs2:jv (im S w2) w2 sb sa u:=hs1'.frame (hm2.block _ hs1'.lt1 nb1) (hm2.block _ hs1'.lt2 na1) (Qp hm2 λa e=>hg1.noCell (Or.inl e));have hsl2:=hslook w2 hsq2;have hl4:(cur4.map vX).length<maxLen:=by have:=gj _ hW.b4.keys;simp only[List.length_map]at this⊢;simp only[maxLen];omega
    have hgo:∀w9,za w2 w9->w9.cell? ⟨rt,0,none⟩=some (.map (some m4))/\∃w3,(Instr.mapUpdate 239 (.map (some m4)) (k6 x) (ptr sb)).run prog w9=.ok () w3/\kK S F w w3 m m4 w.heap.size e2 e4 (cur2.filter λe=>e.1≠x) (cur4++[(x,sb,sa,u)]) (yK left x):=λw9 hn9=>by obtain⟨w3,hput,hmap3,hm3⟩:=zD.put (P:=prog) (t:=239) (e:=300) Zg (by kernel_rfl) (hm4m2.frame (hn9.block _ hm4m2.lt (λe=>e))) hl4 x (ptr sb);exact⟨hn9.le _ _ e0,w3,hput,hW.move hne hsin hg hg1 hm1 hg2 hm2 (zo.trans (za.mod hn9 _) hm3 λ_ _ e=>e) hmap3⟩
    have HGO:=hid hgo;clear hgo;have HDD:=hid (G_ hs2 hus);clear hW hsqr hm4map hslook hg1 hm1 hg2 hm2 hsq2 hm4m2 hxl hxe hsin o1 o2 o3 hs1' hs2 tnot rnot snot k1 hg e0;cases b<;>cases ok
    case false.true=>
     go_wp2_with (first|(at_delete;refine vL rfl rfl rfl rfl hdel ?_)|(go_at_call 89;go_must (refine HDD.out.mono ?_);rintro e w9 ⟨rfl,hn9⟩;obtain⟨e0,w3,hput,hN⟩:=HGO.out w9 hn9;have HN:=hid hN;clear hN hn9));go_roundw
     case rel=>exact⟨_,_,_,HN.out⟩
     case measure=>rw[HN.out.rng.left_eq,HLQ.out];exact hlt
    all_goals
     obtain⟨e0,w3,hput,hN⟩:=HGO.out w2 (za.refl w2);have HN:=hid hN;clear hN;go_wp2_with (at_delete;refine vL rfl rfl rfl rfl hdel ?_);go_roundw
     case rel=>exact⟨_,_,_,HN.out⟩
     case measure=>rw[HN.out.rng.left_eq,HLQ.out];exact hlt
   |some y=>
    rw[hg]at hlook4;simp only[if_true]at hlook4;obtain⟨bb,a,u4,hbin,rfl⟩:=Qo (Qi hg);have hu4:u4=[]:=hW.clean _ hbin _ hxl rfl;subst hu4;obtain⟨u1,_⟩:=hs1'.used;have hsl1:=hslook w1 hsqr;obtain⟨p1,p2,p3⟩:=hW.b4.ok _ hbin;have hbmem:=qm hbin;have hball:bb∈zl (cur2++cur4)/\a∈zl (cur2++cur4):=by rw[zV];exact⟨List.mem_append_right _ hbmem.1,List.mem_append_right _ hbmem.2⟩
    have hb1:jv (im S w1) w1 bb a []:=p3.frame (hm1.block _ p3.lt1 (hW.cells hball.1).2.1) (hm1.block _ p3.lt2 (hW.cells hball.2).2.1) (Qp hm1 λa e=>hW.rng.noCell (Or.inr e));have hap:=hW.apart;rw[List.flatMap_append,List.nodup_append]at hap;have hmerge:∀w9,za w1 w9->Calls prog 91 #[ptr bb,ptr sb] w9 λe w2=>e=.returned (.tuple #[])/\kK S F w w2 m m4 w.heap.size e2 e4 cur2 (yd cur4 x u) (yK left x):=λw9 hn9=>by refine(Wr (HFS.out _ p1) (HFS.out _ p2) (hb1.new hn9) (hs1'.new hn9) (hap.2.2 _ hsmem.1 _ hbmem.1) (hap.2.2 _ hsmem.1 _ hbmem.2) (hap.2.2 _ hsmem.2 _ hbmem.1) (hap.2.2 _ hsmem.2 _ hbmem.2)).mono ?_;rintro e w2 ⟨rfl,hm2,hb2⟩;exact⟨rfl,hW.merge HFS.out hne hsin hbin hg1 hm1 (zo.trans (za.mod hn9 _) hm2 λ_ _ e=>e) hb2⟩
    have HMG:=hid hmerge;clear hmerge;have hul:u.length<512:=hs1'.2.1;have hsort:2<=u.length->Calls prog 90 #[.iface 300 (ptr sb)] w1 λe w'=>e=.returned (.tuple #[])/\za w1 w':=λh2=>Ws (Wt (S:=S) hus) Gs hs1' (by omega) (by omega);have HSO:=hid hsort;clear hsort;have HM1:=hid (HMG.out w1 (za.refl w1));clear hW hsqr hm4map hslook hg1 hm1 hxl hxe hsin o1 o2 o3 hs1' tnot rnot snot k1 hg p1 p2 p3 hb1 hap hbin hus;obtain⟨n,hn⟩:∃n,u.length=n:=⟨_,rfl⟩;rw[hn]at u1 hul;by_cases h2:2<=n
    ·have HS2:=hid (HSO.out (by rw[hn];exact h2));have hug:decide ((1:Int)<(n:Int))=true:=by simp;omega
     clear hn;cases b<;>cases ok
     case false.true=>
      go_wp2_with (first|(go_at_call 90;go_must (refine HS2.out.mono ?_);rintro e w9 ⟨rfl,hn9⟩;have HM9:=hid (HMG.out w9 hn9);clear hn9)|(go_at_call 91;go_must (refine HM9.out.mono ?_);rintro e w2 ⟨rfl,hn⟩;have HN:=hid hn;clear hn));go_roundw
      case rel=>exact⟨_,_,_,HN.out⟩
      case measure=>rw[HN.out.rng.left_eq,HLQ.out];exact hlt
     all_goals
      go_wp2_with (go_at_call 91;go_must (refine HM1.out.mono ?_);rintro e w2 ⟨rfl,hn⟩;have HN:=hid hn;clear hn);go_roundw
      case rel=>exact⟨_,_,_,HN.out⟩
      case measure=>rw[HN.out.rng.left_eq,HLQ.out];exact hlt
    ·have hug:decide ((1:Int)<(n:Int))=false:=by simp;omega
     clear hn;cases b<;>cases ok
     all_goals
      go_wp2_with (go_at_call 91;go_must (refine HM1.out.mono ?_);rintro e w2 ⟨rfl,hn⟩;have HN:=hid hn;clear hn);go_roundw
      case rel=>exact⟨_,_,_,HN.out⟩
      case measure=>rw[HN.out.rng.left_eq,HLQ.out];exact hlt
variable{P:Program}{e:TypeId}{x:Nat}
theorem KI{w:World}{o:Nat}{c:Array Value}{fr:Nat×Nat}(hh:w.heap[b]? =some (.cells c e fr)){s:Nat}(hs:P.cellsOf e=s)(hs0:s≠0)
  (h1:byteOfCell P P.depth e (o % s)=some x):(byteOf ⟨b,o,none⟩).run P w=.ok (o/s*P.bytesOf e+x) w:=by
 subst hs;have hsh:w.shape? b=some (e,c.size):=by simp[World.shape?,hh]
 simp[byteOf,noView,viewAt,hsh,hs0,h1,Result.andThen]
variable{y:Nat}
theorem Qq{w:World}{o:Nat}{c:Array Value}{fr:Nat×Nat}(hh:w.heap[b]? =some (.cells c e fr)){s:Nat}(hs:P.cellsOf e=s)(hs0:s≠0)(cells bytes:Nat)
  (h1:byteOfCell P P.depth e (o % s)=some x)(h2:byteOfCell P P.depth e ((o+cells)% s)=some y):∃A,(partAt ⟨b,o,none⟩ cells bytes).run P w=.ok A w:=by
 refine⟨if (o+cells)/s*P.bytesOf e+y=o/s*P.bytesOf e+x+bytes then ⟨b,o+cells,none⟩else ⟨b,o+cells,some (o/s*P.bytesOf e+x+bytes)⟩,?_⟩;simp[partAt,KI hh hs hs0 h1,KI hh hs hs0 h2,Result.andThen]
def vC(w:World)(be db t rt:Nat):Prop:=∃n,w.heap[be]? =some (.cells #[.int .i64 n,ptr db,.int .i64 1000,ptr t,ptr rt,.pointer none,.int .u64 0,.nilIface,.nilFunc,.pointer none] 261 (0,0))
variable{C:List z_}{be:Nat}{dv:Value}{wt:Bool}
theorem KJ{w:World}{db:Nat}(hS:∀b,S b->b<w.heap.size)(hbe:∃c,w.heap[be]? =some (.cells c 261 (0,0)))(hb:w.cell? ⟨be,1,none⟩=some (ptr db))(hd:w.cell? ⟨db,0,none⟩=some dv)(hD:jP (im S w) C dv)(hsm:C.length<=1000):
  Calls prog 88 #[ptr be,.bool wt] w λe w'=>∃tx,e=.returned (ptr tx)/\za w w'/\∃bs,kw (im S w) w' (λb=>w.heap.size<=b/\b<w'.heap.size) tx db wt bs/\bs.map (·.2)=C:=by
 have HB:=hid (Wq (wt:=wt) hS hd hD hsm);clear hS hd hD;obtain⟨cc,hbe⟩:=hbe;have hpart:∀w',w'.heap[be]? =w.heap[be]? ->∃A,(partAt ⟨be,0,none⟩ 1 8).run prog w'=.ok A w':=λw' h'=>
  Qq (h'.trans hbe) (s:=10) (x:=0) (y:=8) (by kernel_rfl) (by decide) 1 8 (by kernel_rfl) (by kernel_rfl)
 have hbl:=(Array.getElem?_eq_some_iff.1 hbe).1;obtain⟨A,hA⟩:=hpart w rfl;have HP:=hid hpart;clear hpart;go_enter func88,ntmps88;go_wp2_with (first|(go_at_call 105;go_must (refine HB.out.mono ?_);rintro e w1 ⟨rfl,hn,bs,ht,hbs,hsz⟩;have HN:=hid hn;have HT:=hid ht;have HBS:=hid hbs;obtain⟨A1,hA1⟩:=HP.out w1 (HN.out.block _ hbl (λe=>e));clear hn ht hbs)|go_in);go_returns;exact⟨_,rfl,HN.out,bs,HT.out.toF,HBS.out⟩
theorem QT{w:World}{c:Array Value}(h:w.heap[t]? =some (.cells c 290 (0,0))):∃A,(partAt ⟨t,0,none⟩ 0 0).run prog w=.ok A w:=
 Qq h (s:=6) (x:=0) (y:=0) (by kernel_rfl) (by decide) 0 0 (by kernel_rfl) (by kernel_rfl)
theorem Ku{w:World}{c:Array Value}(h:w.heap[t]? =some (.cells c 252 (0,0))):∃A,(partAt ⟨t,0,none⟩ 0 0).run prog w=.ok A w:=
 Qq h (s:=6) (x:=0) (y:=0) (by kernel_rfl) (by decide) 0 0 (by kernel_rfl) (by kernel_rfl)
theorem Gt{w:World}{c:Array Value}(h:w.heap[t]? =some (.cells c 290 (0,0))):Calls prog 76 #[ptr t] w λe w'=>e=.returned (.tuple #[])/\w=w':=by obtain⟨A,hA⟩:=QT h;go_enter func76,ntmps76;go_wp2;go_returns;exact⟨rfl,rfl⟩
theorem Ui{w:World}{c:Array Value}(h:w.heap[t]? =some (.cells c 290 (0,0))):Calls prog 225 #[ptr t] w λe w'=>e=.returned (.tuple #[])/\w=w':=by obtain⟨A,hA⟩:=QT h;go_enter func225,ntmps225;go_wp2;go_returns;exact⟨rfl,rfl⟩
theorem d9(w:World):(binOp .neq 1 .nilFunc .nilFunc).run prog w=.ok (.bool false) w:=by kernel_rfl
variable{pdel pend wtx:Nat}
theorem Db{w:World}{m sm db:Nat}(h:qW w t wtx be pend m sm pdel)(hb:vC w be db t rt):Calls prog 331 #[ptr t] w λe w'=>e=.returned (.tuple #[])/\w=w':=by
 obtain⟨A,hA⟩:=QT h;obtain⟨n,hb⟩:=hb;have c1:w.cell? ⟨t,1,none⟩=some (ptr be):=by rw[cell_of_row w t 1 _ _ (0,0) h];rfl
 have c8:w.cell? ⟨be,8,none⟩=some .nilFunc:=by rw[cell_of_row w be 8 _ _ (0,0) hb];rfl
 go_enter func331,ntmps331;have hnq:=d9 w;go_wp2;go_returns;exact⟨rfl,rfl⟩
theorem Kv{w:World}{c:Array Value}(h:w.heap[t]? =some (.cells c 252 (0,0))):Calls prog 80 #[ptr t] w λe w'=>e=.returned (.tuple #[])/\w=w':=by obtain⟨A,hA⟩:=Ku h;go_enter func80,ntmps80;go_wp2;go_returns;exact⟨rfl,rfl⟩
theorem QU{w:World}{c:Array Value}(h:w.heap[t]? =some (.cells c 252 (0,0))):Calls prog 82 #[ptr t] w λe w'=>e=.returned (.tuple #[])/\w=w':=by obtain⟨A,hA⟩:=Ku h;go_enter func82,ntmps82;go_wp2;go_returns;exact⟨rfl,rfl⟩
theorem Wu{w:World}{c:Array Value}(h:w.heap[t]? =some (.cells c 252 (0,0))):Calls prog 221 #[ptr t] w λe w'=>e=.returned (.tuple #[])/\w=w':=by obtain⟨A,hA⟩:=Ku h;go_enter func221,ntmps221;go_wp2;go_returns;exact⟨rfl,rfl⟩
theorem KL{w:World}{c:Array Value}(h:w.heap[t]? =some (.cells c 252 (0,0))):Calls prog 222 #[ptr t] w λe w'=>e=.returned (.tuple #[])/\w=w':=by obtain⟨A,hA⟩:=Ku h;go_enter func222,ntmps222;go_wp2;go_returns;exact⟨rfl,rfl⟩
theorem QV{w:World}{m sm db:Nat}(h:qW w t wtx be pend m sm pdel)(hb:vC w be db t rt)(hp:pend<1000):Calls prog 84 #[ptr t] w λe w'=>e=.returned (.tuple #[])/\∃n,w'=w.drewN n:=by
 obtain⟨n,hb⟩:=hb;have c1:w.cell? ⟨t,1,none⟩=some (ptr be):=by rw[cell_of_row w t 1 _ _ (0,0) h];rfl
 have c2:w.cell? ⟨t,2,none⟩=some (.int .i64 pend):=by rw[cell_of_row w t 2 _ _ (0,0) h];rfl
 have c8:w.cell? ⟨be,2,none⟩=some (.int .i64 1000):=by rw[cell_of_row w be 2 _ _ (0,0) hb];rfl
 have hge:decide ((1000:Int)<=(pend:Int))=false:=by simp;omega
 have hpa:∀n:Nat,∃A,(partAt ⟨t,0,none⟩ 0 0).run prog (w.drewN n)=.ok A (w.drewN n):=λn=>QT (w:=w.drewN n) h;have HP:=hid hpa;clear hpa;go_enter func84,ntmps84;go_wp2;go_quiet (fail);obtain⟨A,hA⟩:=HP.out nq;go_wp2;go_returns;exact⟨rfl,_,rfl⟩
theorem Wv{w:World}{n:Int}{mu:Nat}{tx cmv wgv:Value}(hS:∀j,S j->j<w.heap.size)(hFS:∀j,F j->S j)(hSr:S rt)(hS4:S m4)(hrb:rt∉zl e4)
  (hrt:w.heap[rt]? =some (.cells #[.map (some m4),.int .u64 n,ptr mu,tx,cmv,wgv] 252 (0,0)))(h4:zR (im S w) w F m4 e4):
  Calls prog 86 #[ptr rt] w λe w'=>e=.returned (.tuple #[])/\∃(cm wg:Nat) (cur:zZ),zo (λj=>j=rt\/j=m4\/j∈zl e4) w w'/\
   w'.heap[rt]? =some (.cells #[.map (some m4),.int .u64 n,ptr mu,.pointer none,.map (some cm),ptr wg] 252 (0,0))/\zD k6 w' cm []/\w.heap.size<=cm/\zR (im S w') w' F m4 cur/\(∀e∈cur,e.2.2.2=[])/\
   (∀e∈cur,∃f∈e4,f.1=e.1/\f.2.1=e.2.1/\f.2.2.1=e.2.2.1):=by
 have c0:w.cell? ⟨rt,0,none⟩=some (.map (some m4)):=by rw[cell_of_row w rt 0 _ _ (0,0) hrt];rfl
 have hr4:rt≠m4:=λe=>by rw[h4.map.noCell (a:=⟨rt,0,none⟩) e]at c0;cases c0
 have HB:=hid (Xv hS hFS c0 hrb h4);have hrl:=World.block_lt_of_cell? w _ c0;have HRT:=hid hrt;clear hrt;have HRB:=hid hrb;clear hrb;have HS:=hid hS;clear hS;have HFS:=hid hFS;clear hFS;have H4:=hid h4;clear h4;go_enter func86,ntmps86;go_wp2_with fail;refine HB.out.mono ?_;rintro e w1 ⟨rfl,cur,hm1,hb1,hz1,hs1⟩;have hr1:w1.heap[rt]? =some (.cells #[.map (some m4),.int .u64 n,ptr mu,tx,cmv,wgv] 252 (0,0)):=by rw[hm1.block rt hrl (λe=>by rcases e with e|e;exact hr4 e;exact HRB.out e)];exact HRT.out
 have k3:w1.cell? ⟨rt,3,none⟩=some tx:=by rw[cell_of_row w1 rt 3 _ _ (0,0) hr1];rfl
 have k4:w1.cell? ⟨rt,4,none⟩=some cmv:=by rw[cell_of_row w1 rt 4 _ _ (0,0) hr1];rfl
 have k5:w1.cell? ⟨rt,5,none⟩=some wgv:=by rw[cell_of_row w1 rt 5 _ _ (0,0) hr1];rfl
 have f3:w1.frozen? ⟨rt,3,none⟩=false:=by simp[World.frozen?,hr1]
 have f4:w1.frozen? ⟨rt,4,none⟩=false:=by simp[World.frozen?,hr1]
 have f5:w1.frozen? ⟨rt,5,none⟩=false:=by simp[World.frozen?,hr1]
 have hrl1:rt<w1.heap.size:=Nat.lt_of_lt_of_le hrl hm1.size;have HM1:=hid hm1;clear hm1;have HB1:=hid hb1;clear hb1;have HZ1:=hid hz1;clear hz1;have HS1:=hid hs1;clear hs1;have HR1:=hid hr1;clear hr1;have hmm:= @run_makeMap prog;go_wp2;go_returns;refine⟨rfl,?_⟩;have hr3:(((w1.setCell ⟨rt,4,none⟩ (.map (some w1.heap.size))).setCell ⟨rt,3,none⟩ (.pointer none)).setCell ⟨rt,5,none⟩ (ptr (w1.heap.size+1))).heap[rt]? =some (.cells #[.map (some m4),.int .u64 n,ptr mu,.pointer none,.map (some w1.heap.size),ptr (w1.heap.size+1)] 252 (0,0)):=by rw[heap_setCell_same _ rt 5 _ _ _ (heap_setCell_same _ rt 3 _ _ _ (heap_setCell_same w1 rt 4 _ _ _ HR1.out))];rfl
 have hm3:zo (· =rt) w1 (((w1.setCell ⟨rt,4,none⟩ (.map (some w1.heap.size))).setCell ⟨rt,3,none⟩ (.pointer none)).setCell ⟨rt,5,none⟩ (ptr (w1.heap.size+1))):=
  vA (S:=(· =rt)) (vA (S:=(· =rt)) (vA (S:=(· =rt)) (zo.refl _ _) rfl _) rfl _) rfl _
 have hsz:(((w1.setCell ⟨rt,4,none⟩ (.map (some w1.heap.size))).setCell ⟨rt,3,none⟩ (.pointer none)).setCell ⟨rt,5,none⟩ (ptr (w1.heap.size+1))).heap.size=w1.heap.size:=by simp[World.setCell]
 generalize(((w1.setCell ⟨rt,4,none⟩ (.map (some w1.heap.size))).setCell ⟨rt,3,none⟩ (.pointer none)).setCell ⟨rt,5,none⟩ (ptr (w1.heap.size+1)))=W at*
 have hmA:zo (· =rt) w1 ((W.alloc (.map #[] 0)).alloc (.cells #[] 246)):=(hm3.alloc _).alloc _;have hle:(im S w1).le (im S ((W.alloc (.map #[] 0)).alloc (.cells #[] 246))):=(hmA.mono (S':=S) λ_ _ e=>by rw[e];exact hSr).im λ_ _ h=>h;have hcb:∀e∈cur,e.2.1∈zl e4/\e.2.2.1∈zl e4:=λe he=>by obtain⟨f,hf,_,f1,f2⟩:=HS1.out e he;rw[<-f1,<-f2];exact qm hf
 refine⟨w1.heap.size,w1.heap.size+1,cur,(HM1.out.mono λj _ e=>Or.inr e).trans (hmA.mono λj _ e=>Or.inl e) λ_ _ e=>e,?_,?_,HM1.out.size,⟨HB1.out.map.frame (hmA.block _ HB1.out.map.lt (λe=>hr4 e.symm)),λe he=> ?_,HB1.out.apart⟩,HZ1.out,HS1.out⟩
 ·rw[Below.heap_alloc _ _ _ (by simp;omega),Below.heap_alloc _ _ _ (by omega)];exact hr3
 ·have h0:=zD.made k6 W;rw[hsz]at h0;exact h0.frame (Below.heap_alloc _ _ _ (by simp;omega))
 ·obtain⟨q1,q2,q3⟩:=HB1.out.ok e he;have m1:=hcb e he;exact⟨q1,q2,q3.frame (hmA.block _ q3.lt1 (λh=>HRB.out (by have:=m1.1;rw[h]at this;exact this))) (hmA.block _ q3.lt2 (λh=>HRB.out (by have:=m1.2;rw[h]at this;exact this))) hle⟩
theorem Uj{w:World}{m sm:Nat}(h:qW w t wtx be 0 m sm pdel):Calls prog 87 #[ptr t,.bool false] w λe w'=>e=.returned (.tuple #[])/\w=w':=by
 have c0:w.cell? ⟨t,0,none⟩=some (ptr wtx):=by rw[cell_of_row w t 0 _ _ (0,0) h];rfl
 have c2:w.cell? ⟨t,2,none⟩=some (.int .i64 0):=by rw[cell_of_row w t 2 _ _ (0,0) h];rfl
 go_enter func87,ntmps87;go_wp2;go_returns;exact⟨rfl,rfl⟩
theorem Dc{w:World}{m sm db:Nat}{bs:List (Nat×z_)}(hS:∀b,S b->b<w.heap.size)(hFS:∀b,F b->S b)(hSt:S t)(hSb:S be)(hSd:S db)(hFt: ¬F t)(hFb: ¬F be)(hFd: ¬F db)(hp:0<pend)
  (hbt:qW w t wtx be pend m sm pdel)(hbe:vC w be db t rt)(hdb:w.heap[db]? =some (.cells #[dv] 79 (0,0)))(h:kw (im S w) w F wtx db true bs)(hsm:bs.length<=1000):
  Calls prog 87 #[ptr t,.bool false] w λe w'=>e=.returned (.tuple #[])/\∃(tx':Nat) (F':Nat->Prop) (bs':List (Nat×z_)) (dv':Value),
   zo (λj=>j=t\/j=be\/j=db\/F j) w w'/\(∀j,F' j->w.heap.size<=j/\j<w'.heap.size)/\qW w' t tx' be 0 m sm pdel/\vC w' be db t rt/\w'.heap[db]? =some (.cells #[dv'] 79 (0,0))/\jP (im (λj=>S j\/F' j) w') (bs.map (·.2)) dv'/\
   kw (im (λj=>S j\/F' j) w') w' F' tx' db true bs'/\bs'.map (·.2)=bs.map (·.2):=by
 obtain⟨nb,hbe⟩:=hbe;have hFx:=h.ftx;have c0:w.cell? ⟨t,0,none⟩=some (ptr wtx):=by rw[cell_of_row w t 0 _ _ (0,0) hbt];rfl
 have c2:w.cell? ⟨t,2,none⟩=some (.int .i64 pend):=by rw[cell_of_row w t 2 _ _ (0,0) hbt];rfl
 have hwt:wtx≠t:=λe=>hFt (by rw[<-e];exact hFx);have hwb:wtx≠be:=λe=>hFb (by rw[<-e];exact hFx);have hdt:db≠t:=λe=>by unfold qW at hbt;rw[e,hbt]at hdb;simp at hdb
 have hdb':db≠be:=λe=>by rw[e,hbe]at hdb;simp at hdb
 have htb:t≠be:=λe=>by unfold qW at hbt;rw[e,hbe]at hbt;simp at hbt
 have hgt:((pend:Int)==0)=false:=by simp;omega
 have HC:=hid (GX hS (hFS _ hFx) hSd h hdb hsm);have hrest:∀w1,zo (λb=>b=wtx\/b=db) w w1->w1.heap[t]? =some (.cells #[ptr wtx,ptr be,.int .i64 pend,.map (some m),.map (some sm),.int .i64 pdel] 290 (0,0))/\
   w1.heap[be]? =some (.cells #[.int .i64 nb,ptr db,.int .i64 1000,ptr t,ptr rt,.pointer none,.int .u64 0,.nilIface,.nilFunc,.pointer none] 261 (0,0)):=λw1 hm=>by
  refine⟨(hm.block t (Array.getElem?_eq_some_iff.1 hbt).1 (λe=> ?_)).trans hbt,(hm.block be (Array.getElem?_eq_some_iff.1 hbe).1 (λe=> ?_)).trans hbe⟩
  ·rcases e with e|e
   ·exact hwt e.symm
   ·exact hdt e.symm
  ·rcases e with e|e
   ·exact hwb e.symm
   ·exact hdb' e.symm
 have HREST:=hid hrest;clear hrest;have HS:=hid hS;clear hS;have HFS:=hid hFS;clear hFS;have hbl:=(Array.getElem?_eq_some_iff.1 hbe).1;clear h hbt hbe hdb;go_enter func87,ntmps87;go_wp2_with fail;refine HC.out.mono ?_;rintro e w1 ⟨rfl,hm1,dv',hd1,hD1⟩;obtain⟨ht1,hb1⟩:=HREST.out w1 hm1;have k2:w1.cell? ⟨t,2,none⟩=some (.int .i64 pend):=by rw[cell_of_row w1 t 2 _ _ (0,0) ht1];rfl
 have k1:w1.cell? ⟨t,1,none⟩=some (ptr be):=by rw[cell_of_row w1 t 1 _ _ (0,0) ht1];rfl
 have k0:w1.cell? ⟨t,0,none⟩=some (ptr wtx):=by rw[cell_of_row w1 t 0 _ _ (0,0) ht1];rfl
 have fk2:w1.frozen? ⟨t,2,none⟩=false:=by simp[World.frozen?,ht1]
 have b0:w1.cell? ⟨be,0,none⟩=some (.int .i64 nb):=by rw[cell_of_row w1 be 0 _ _ (0,0) hb1];rfl
 have fb0:w1.frozen? ⟨be,0,none⟩=false:=by simp[World.frozen?,hb1]
 obtain⟨nb',hnb⟩:∃nb',nb'=wrap64 (nb+1):=⟨_,rfl⟩;obtain⟨w2,hw2⟩:=zex ((w1.setCell ⟨be,0,none⟩ (.int .i64 nb')).setCell ⟨t,2,none⟩ (.int .i64 0));have ht2:w2.heap[t]? =some (.cells #[ptr wtx,ptr be,.int .i64 ((0:Nat):Int),.map (some m),.map (some sm),.int .i64 pdel] 290 (0,0)):=by rw[hw2,heap_setCell_same _ t 2 _ _ _ ((Below.heap_setCell _ _ _ _ htb).trans ht1)];rfl
 have hb2:w2.heap[be]? =some (.cells #[.int .i64 nb',ptr db,.int .i64 1000,ptr t,ptr rt,.pointer none,.int .u64 0,.nilIface,.nilFunc,.pointer none] 261 (0,0)):=by rw[hw2,Below.heap_setCell _ _ _ _ (λe=>htb e.symm),heap_setCell_same w1 be 0 _ _ _ hb1];rfl
 have hd2:w2.heap[db]? =some (.cells #[dv'] 79 (0,0)):=by rw[hw2,Below.heap_setCell _ _ _ _ hdt,Below.heap_setCell _ _ _ _ hdb'];exact hd1
 have hm2:zo (λj=>j=t\/j=be) w1 w2:=by rw[hw2];exact vA (S:=λj=>j=t\/j=be) (vA (S:=λj=>j=t\/j=be) (zo.refl _ _) (Or.inr rfl) _) (Or.inl rfl) _
 have hD2:jP (im S w2) (bs.map (·.2)) dv':=hD1.mono ((hm2.mono (S':=S) λj _ e=>by rcases e with rfl|rfl;exact hSt;exact hSb).im λ_ _ h=>h);have hbg:=KJ (S:=S) (w:=w2) (be:=be) (db:=db) (dv:=dv') (wt:=true) (C:=bs.map (·.2)) (λj e=>Nat.lt_of_lt_of_le (HS.out j e) (Nat.le_trans hm1.size hm2.size)) ⟨_,hb2⟩ (by rw[cell_of_row w2 be 1 _ _ (0,0) hb2];rfl) (by rw[cell_of_row w2 db 0 _ _ (0,0) hd2];rfl) hD2 (by simpa using hsm);have HBG:=hid hbg;clear hbg;have HM1:=hid hm1;clear hm1;have HM2:=hid hm2;clear hm2;have HT2:=hid ht2;clear ht2;have HB2:=hid hb2;clear hb2;have HD2:=hid hd2;clear hd2;have HDD:=hid hD2;clear hD2;have hk1:w2.cell? ⟨t,1,none⟩=some (ptr be):=by rw[cell_of_row w2 t 1 _ _ (0,0) HT2.out];rfl
 clear hD1 hd1;go_wp2_with fail;rw[<-hnb,<-hw2];refine HBG.out.mono ?_;rintro e w3 ⟨tx',rfl,hn3,bs',ht3,hbs'⟩;have k3:w3.cell? ⟨t,0,none⟩=some (ptr wtx):=hn3.le _ _ (by rw[cell_of_row w2 t 0 _ _ (0,0) HT2.out];rfl);have h3:=hn3.heap HT2.out;have f3:w3.frozen? ⟨t,0,none⟩=false:=by simp[World.frozen?,h3]
 have HN3:=hid hn3;clear hn3;have HT3:=hid ht3;clear ht3;have HBS:=hid hbs';clear hbs';have H3:=hid h3;clear h3;go_wp2;go_returns;have hms:zo (· =t) w3 (w3.setCell ⟨t,0,none⟩ (ptr tx')):=vA (S:=(· =t)) (zo.refl _ _) rfl _;have htl2:t<w2.heap.size:=(Array.getElem?_eq_some_iff.1 HT2.out).1;have hs02:w.heap.size<=w2.heap.size:=Nat.le_trans HM1.out.size HM2.out.size;have hF':∀j,(w2.heap.size<=j/\j<w3.heap.size)->¬S j:=λj e hs=>by have:=HS.out j hs;omega
 have hle:(im S w2).le (im (λj=>S j\/(w2.heap.size<=j/\j<w3.heap.size)) (w3.setCell ⟨t,0,none⟩ (ptr tx'))):=
  (zo.trans (za.mod HN3.out S) (hms.mono (S':=S) λ_ _ e=>by rw[e];exact hSt) λ_ _ e=>e).im λj hj e=>by
   rcases e with e|e
   ·exact e
   ·omega
 refine⟨rfl,tx',λj=>w2.heap.size<=j/\j<w3.heap.size,bs',dv',?_,?_,?_,⟨nb',?_⟩,?_,HDD.out.mono hle,?_,HBS.out⟩
 ·refine zo.trans (zo.trans (zo.trans (HM1.out.mono λj _ e=> ?_) (HM2.out.mono λj _ e=> ?_) λ_ _ e=>e) HN3.out λ_ _ e=>e.elim) hms λj _ e=>Or.inl e
  ·rcases e with e|e
   ·exact Or.inr (Or.inr (Or.inr (by rw[e];exact hFx)))
   ·exact Or.inr (Or.inr (Or.inl e))
  ·rcases e with e|e
   ·exact Or.inl e
   ·exact Or.inr (Or.inl e)
 ·intro j e;refine⟨by omega,?_⟩;have:(w3.setCell ⟨t,0,none⟩ (ptr tx')).heap.size=w3.heap.size:=by simp[World.setCell]
  exact Nat.lt_of_lt_of_le e.2 (Nat.le_of_eq this.symm)
 ·unfold qW;rw[heap_setCell_same w3 t 0 _ _ _ H3.out];rfl
 ·rw[Below.heap_setCell _ _ _ _ (λe=>htb e.symm)];exact HN3.out.heap HB2.out
 ·rw[Below.heap_setCell _ _ _ _ hdt];exact HN3.out.heap HD2.out
 ·exact HT3.out.frame (λj e=>Below.heap_setCell _ _ _ _ (λe2=>by subst e2;omega)) hle
theorem Uk{w:World}{m sm db:Nat}{bs:List (Nat×z_)}(hS:∀b,S b->b<w.heap.size)(hFS:∀b,F b->S b)(hSt:S t)(hSb:S be)(hSd:S db)(hFt: ¬F t)(hFb: ¬F be)(hFd: ¬F db)
  (hbt:qW w t wtx be pend m sm pdel)(hbe:vC w be db t rt)(hdb:w.heap[db]? =some (.cells #[dv] 79 (0,0)))(hD:jP (im S w) C dv)(h:kw (im S w) w F wtx db true bs)(hsm:bs.length<=1000)(hcl:pend=0->C=bs.map (·.2)):
  Calls prog 87 #[ptr t,.bool false] w λe w'=>e=.returned (.tuple #[])/\∃(tx':Nat) (F':Nat->Prop) (bs':List (Nat×z_)) (dv':Value),
   zo (λj=>j=t\/j=be\/j=db\/F j) w w'/\(∀j,F' j->w.heap.size<=j/\j<w'.heap.size)/\qW w' t tx' be 0 m sm pdel/\vC w' be db t rt/\w'.heap[db]? =some (.cells #[dv'] 79 (0,0))/\jP (im (λj=>S j\/F' j) w') (bs.map (·.2)) dv'/\
   kw (im (λj=>S j\/F' j) w') w' (λj=>F j\/F' j) tx' db true bs'/\bs'.map (·.2)=bs.map (·.2):=by
 by_cases hp:pend=0
 ·subst hp;refine(Uj hbt).mono ?_;rintro e w' ⟨rfl,rfl⟩;have hle:(im S w).le (im (λj=>S j\/False) w):=jq λj e=>e.elim id False.elim;refine⟨rfl,wtx,λ_=>False,bs,dv,zo.refl _ _,λ_ e=>e.elim,hbt,hbe,hdb,by rw[<-hcl rfl];exact hD.mono hle,(h.frame (λ_ _=>rfl) hle).mono λ_ e=>Or.inl e,rfl⟩
 ·refine(Dc hS hFS hSt hSb hSd hFt hFb hFd (Nat.pos_of_ne_zero hp) hbt hbe hdb h hsm).mono ?_;rintro e w' ⟨rfl,tx',F',bs',dv',h1,h2,h3,h4,h5,h6,h7,h8⟩;exact⟨rfl,tx',F',bs',dv',h1,h2,h3,h4,h5,h6,h7.mono λ_ e=>Or.inr e,h8⟩
theorem qW.cells{w:World}{m sm:Nat}(h:qW w t wtx be pend m sm pdel):w.cell? ⟨t,0,none⟩=some (ptr wtx)/\w.cell? ⟨t,1,none⟩=some (ptr be)/\w.cell? ⟨t,2,none⟩=some (.int .i64 pend)/\w.cell? ⟨t,5,none⟩=some (.int .i64 pdel):=by unfold qW at h;refine⟨?_,?_,?_,?_⟩<;>rw[cell_of_row w t _ _ _ (0,0) h]<;>rfl
theorem vC.cells{w:World}{db:Nat}(h:vC w be db t rt):w.cell? ⟨be,1,none⟩=some (ptr db)/\w.cell? ⟨be,2,none⟩=some (.int .i64 1000)/\w.cell? ⟨be,3,none⟩=some (ptr t)/\w.cell? ⟨be,4,none⟩=some (ptr rt)/\w.cell? ⟨be,7,none⟩=some .nilIface/\w.cell? ⟨be,8,none⟩=some .nilFunc:=by obtain⟨n,h⟩:=h;refine⟨?_,?_,?_,?_,?_,?_⟩<;>rw[cell_of_row w be _ _ _ (0,0) h]<;>rfl
theorem vC.frame{w:World}{db:Nat}(h:vC w be db t rt)(hb:w'.heap[be]? =w.heap[be]?):vC w' be db t rt:=by obtain⟨n,h⟩:=h;exact⟨n,hb.trans h⟩
theorem qW.frame{w:World}{m sm:Nat}(h:qW w t wtx be pend m sm pdel)(hb:w'.heap[t]? =w.heap[t]?):qW w' t wtx be pend m sm pdel:=hb.trans h
theorem vC.lt{w:World}{db:Nat}(h:vC w be db t rt):be<w.heap.size:=by obtain⟨n,h⟩:=h;exact(Array.getElem?_eq_some_iff.1 h).1
theorem qW.lt{w:World}{m sm:Nat}(h:qW w t wtx be pend m sm pdel):t<w.heap.size:=(Array.getElem?_eq_some_iff.1 h).1
structure kA(w:World)(t be db rt m sm:Nat)(c3:Value):Prop where
 bt:∃wtx pend pdel,qW w t wtx be pend m sm pdel
 be:vC w be db t rt
 rt:∃c:Array Value,w.heap[rt]? =some (.cells c 252 (0,0))/\c[3]? =some c3
variable{c3:Value}
theorem kA.cells{w:World}{db m sm:Nat}(h:kA w t be db rt m sm c3):w.cell? ⟨t,1,none⟩=some (ptr be)/\w.cell? ⟨be,4,none⟩=some (ptr rt)/\w.cell? ⟨be,7,none⟩=some .nilIface/\w.cell? ⟨rt,3,none⟩=some c3/\w.frozen? ⟨rt,3,none⟩=false/\
  (∃v,w.cell? ⟨t,5,none⟩=some v)/\w.frozen? ⟨t,5,none⟩=false:=by
 obtain⟨⟨wtx,pend,pdel,h1⟩,h2,c,h3,h4⟩:=h;exact⟨h1.cells.2.1,h2.cells.2.2.2.1,h2.cells.2.2.2.2.1,by rw[cell_of_row w rt 3 _ _ (0,0) h3];exact h4,by simp[World.frozen?,h3],⟨_,h1.cells.2.2.2⟩,h1.frozen 5⟩
theorem V3{w:World}{db m sm rtx:Nat}{R1 R2 R3:World->Prop}{R4:Nat->World->Prop}
  (h0:kA w t be db rt m sm (ptr rtx))
  (hroll:Calls prog 85 #[ptr rtx] w λe w'=>e=.returned .nilIface/\kA w' t be db rt m sm (ptr rtx)/\R1 w')
  (hreset:∀w1,R1 w1->Calls prog 86 #[ptr rt] w1 λe w'=>e=.returned (.tuple #[])/\kA w' t be db rt m sm (.pointer none)/\R2 w')
  (hcommit:∀w2,R2 w2->Calls prog 87 #[ptr t,.bool false] w2 λe w'=>e=.returned (.tuple #[])/\kA w' t be db rt m sm (.pointer none)/\R3 w')
  (hbegin:∀w3,R3 w3->kA (w3.setCell ⟨t,5,none⟩ (.int .i64 0)) t be db rt m sm (.pointer none)/\∀w4,w4=(w3.setCell ⟨t,5,none⟩ (.int .i64 0)).drew->Calls prog 88 #[ptr be,.bool false] w4 λe w'=>∃tx',e=.returned (ptr tx')/\kA w' t be db rt m sm (.pointer none)/\R4 tx' w'):
  Calls prog 81 #[ptr t,.bool false] w λe w'=>e=.returned (.tuple #[])/\∃tx' w4,R4 tx' w4/\kA w4 t be db rt m sm (.pointer none)/\w'=w4.setCell ⟨rt,3,none⟩ (ptr tx'):=by
 obtain⟨a1,a4,a7,a3,_,_,_⟩:=h0.cells;have HR:=hid hroll;clear hroll;have HS:=hid hreset;clear hreset;have HC:=hid hcommit;clear hcommit;have HB:=hid hbegin;clear hbegin;clear h0;go_enter func81,ntmps81;go_wp2_with fail;refine HR.out.mono ?_;rintro e w1 ⟨rfl,k1,r1⟩;obtain⟨b1,b4,_,_,_,_,_⟩:=k1.cells;have R1':=hid r1;clear r1;clear k1 a1 a4 a7 a3;go_wp2_with fail;refine(HS.out w1 R1'.out).mono ?_;rintro e w2 ⟨rfl,k2,r2⟩;obtain⟨c1,c4,_,_,_,_,_⟩:=k2.cells;have R2':=hid r2;clear r2;clear k2 b1 b4;go_wp2_with fail;refine(HC.out w2 R2'.out).mono ?_;rintro e w3 ⟨rfl,k3,r3⟩;obtain⟨d1,d4,_,_,_,⟨v5,d5⟩,d5f⟩:=k3.cells;obtain⟨k3',hbg⟩:=HB.out w3 r3;obtain⟨e1,e4,_,e3,e3f,_,_⟩:=k3'.cells;have HBG:=hid hbg;clear hbg;clear k3 k3' r3 c1 c4;go_wp2_with fail;generalize w3.setCell ⟨t,5,none⟩ (.int .i64 0)=w3' at*
 go_region_with (go_at_call 88;refine(HBG.out _ rfl).mono ?_;rintro e w4 ⟨tx',rfl,k4,r4⟩;obtain⟨g1,g4,_,g3,g3f,_,_⟩:=k4.cells;have K4:=hid k4;have R4':=hid r4;clear k4 r4)
 all_goals
  go_wp2;go_returns;exact⟨rfl,tx',w4,R4'.out,K4.out,rfl⟩
structure Qf(l:zu)(w:World)(I:zN)(tv:Value)(cs:List (zF×Value))(C:List z_)(wb:List (Nat×z_))(pend pdel:Nat)(e2 e4:zZ):Prop where
 bnd:∀b,l b≠0->b<w.heap.size
 lab:l I.be=1/\l I.t=2/\l I.rt=3/\l I.db=4/\l I.m=5/\l I.sm=6/\l I.m4=7/\l I.cm=8
 be:vC w I.be I.db I.t I.rt
 bt:qW w I.t I.wtx I.be pend I.m I.sm pdel
 rt:∃(n:Int) (mu wg:Nat),w.heap[I.rt]? =some (.cells #[.map (some I.m4),.int .u64 n,ptr mu,tv,.map (some I.cm),ptr wg] 252 (0,0))
 db:∃dv,w.heap[I.db]? =some (.cells #[dv] 79 (0,0))/\jP (im l.some w) C dv
 wtx:kw (im l.some w) w (l.is 9) I.wtx I.db true wb
 buf2:zR (im l.some w) w (l.is 11) I.m e2
 buf4:zR (im l.some w) w (l.is 11) I.m4 e4
 apart:((e2++e4).flatMap λe=>[e.2.1,e.2.2.1]).Nodup
 sq:∃sq,zD k6 w I.sm sq/\vf sq
 cm:zD k6 w I.cm cs
variable{l:zu}{rb wb:List (Nat×z_)}
theorem j4.toC{w:World}{I:zN}(h:j4 l w I C wb rb pend pdel e2 e4):∃cs,Qf l w I (ptr I.rtx) cs C wb pend pdel e2 e4/\(∀c∈cs,∃x∈rb,x.2.1=c.1.name/\c.2=ptr x.1):=by obtain⟨h1,h2,h3,h4,⟨n,mu,wg,h5⟩,h6,h8,h9,h10,h11,h12,⟨sq,h13,hbo⟩,⟨cs,h14,h15⟩⟩:=h;exact⟨cs,⟨h1,h2,h3,h4,⟨n,mu,wg,h5⟩,h6,h8,h10,h11,h12,⟨sq,h13,hbo⟩,h14⟩,h15⟩
theorem Qf.toS{w:World}{I:zN}{cs:List (zF×Value)}(h:Qf l w I (ptr I.rtx) cs C wb pend pdel e2 e4)(hr:kw (im l.some w) w (l.is 10) I.rtx I.db false rb)
  (hc:∀c∈cs,∃x∈rb,x.2.1=c.1.name/\c.2=ptr x.1):j4 l w I C wb rb pend pdel e2 e4:=by
 obtain⟨h1,h2,h3,h4,h5,h6,h8,h10,h11,h12,⟨sq,h13,hbo⟩,h14⟩:=h;exact⟨h1,h2,h3,h4,h5,h6,h8,hr,h10,h11,h12,⟨sq,h13,hbo⟩,⟨cs,h14,hc⟩⟩
structure zdQ(T:Nat->Prop)(l l':zu)(w w':World)(I:zN)(tv:Value)(cs:List (zF×Value))(C:List z_)(wb:List (Nat×z_))(pend pdel:Nat)(e2 e4:zZ):Prop where
 bnd:∀b,l' b≠0->b<w'.heap.size
 lab:l' I.be=1/\l' I.t=2/\l' I.rt=3/\l' I.db=4/\l' I.m=5/\l' I.sm=6/\l' I.m4=7/\l' I.cm=8
 le:(im l.some w).le (im l'.some w')
 be: ¬T 1->vC w' I.be I.db I.t I.rt
 bt: ¬T 2->qW w' I.t I.wtx I.be pend I.m I.sm pdel
 rt: ¬T 3->∃(n:Int) (mu wg:Nat),w'.heap[I.rt]? =some (.cells #[.map (some I.m4),.int .u64 n,ptr mu,tv,.map (some I.cm),ptr wg] 252 (0,0))
 db: ¬T 4->∃dv,w'.heap[I.db]? =some (.cells #[dv] 79 (0,0))/\jP (im l'.some w') C dv
 wtx: ¬T 9->kw (im l'.some w') w' (l'.is 9) I.wtx I.db true wb
 buf2: ¬T 5->¬T 11->zR (im l'.some w') w' (l'.is 11) I.m e2
 buf4: ¬T 7->¬T 11->zR (im l'.some w') w' (l'.is 11) I.m4 e4
 sq: ¬T 6->∃sq,zD k6 w' I.sm sq/\vf sq
 cm: ¬T 8->zD k6 w' I.cm cs
variable{l':zu}{tv:Value}
theorem Qf.kept{w:World}{I:zN}{cs:List (zF×Value)}(h:Qf l w I tv cs C wb pend pdel e2 e4)(hs:zB l w l' w')(T:Nat->Prop)
  (hT:∀j,l.own j->T (l j)\/w'.heap[j]? =w.heap[j]?):zdQ T l l' w w' I tv cs C wb pend pdel e2 e4:=by
 obtain⟨h1,⟨l1,l2,l3,l4,l5,l6,l7,l8⟩,h3,h4,⟨n,mu,wg,h5⟩,⟨dv,h6,h7⟩,h8,h10,h11,h12,⟨sq,h13,hbo⟩,h14⟩:=h;have bnd:∀{j n},l j=n->n≠0->j<w.heap.size:=λe h0=>h1 _ (by rw[e];exact h0);have lab:∀{j n},l j=n->n≠0->l' j=n:=λe h0=>(hs.old _ (bnd e h0)).trans e;have same:∀{j n},l j=n->n≠0->n<=11->¬T n->w'.heap[j]? =w.heap[j]? :=λ{j n} e h0 h11 ht=>by
  rcases hT j ⟨by rw[e];exact h0,by rw[e];exact h11⟩with e2|e2
  ·rw[e]at e2;exact absurd e2 ht
  ·exact e2
 have d:∀n,0<n->n≠0:=λn h=>Nat.ne_of_gt h;have buf:∀{m:Nat} {e:zZ} {n:Nat},l m=n->n≠0->n<=11->¬T n->¬T 11->zR (im l.some w) w (l.is 11) m e->zR (im l'.some w') w' (l'.is 11) m e:=λ{m e n} hm h0 h11 ht ht2 hb=>by have:=hb.frame (w':=w') (same hm h0 h11 ht) (λj hj=>same hj (by decide) (by decide) ht2) hs.le;exact⟨this.map,λx hx=>⟨lab (this.ok x hx).1 (by decide),lab (this.ok x hx).2.1 (by decide),(this.ok x hx).2.2⟩,this.apart⟩
 exact{
  bnd:=hs.bnd
  lab:=⟨lab l1 (by decide),lab l2 (by decide),lab l3 (by decide),lab l4 (by decide),lab l5 (by decide),lab l6 (by decide),lab l7 (by decide),lab l8 (by decide)⟩
  le:=hs.le
  be:=λht=>h3.frame (same l1 (by decide) (by decide) ht)
  bt:=λht=>h4.frame (same l2 (by decide) (by decide) ht)
  rt:=λht=>⟨n,mu,wg,(same l3 (by decide) (by decide) ht).trans h5⟩
  db:=λht=>⟨dv,(same l4 (by decide) (by decide) ht).trans h6,h7.mono hs.le⟩
  wtx:=λht=>(h8.frame (λj hj=>same hj (by decide) (by decide) ht) hs.le).mono λj hj=>lab hj (by decide)
  buf2:=λht ht2=>buf l5 (by decide) (by decide) ht ht2 h10
  buf4:=λht ht2=>buf l7 (by decide) (by decide) ht ht2 h11
  sq:=λht=>⟨sq,h13.frame (same l6 (by decide) (by decide) ht),hbo⟩
  cm:=λht=>h14.frame (same l8 (by decide) (by decide) ht)}
theorem Qf.skip{w:World}{I:zN}{cs:List (zF×Value)}(h:Qf l w I tv cs C wb pend pdel e2 e4)(hs:zB l w l' w')
  (hT:∀j,l.own j->l j=10\/w'.heap[j]? =w.heap[j]?):Qf l' w' I tv cs C wb pend pdel e2 e4:=by
 have k:=h.kept hs (· =10) hT;exact⟨k.bnd,k.lab,k.be (by decide),k.bt (by decide),k.rt (by decide),k.db (by decide),k.wtx (by decide),k.buf2 (by decide) (by decide),k.buf4 (by decide) (by decide),h.apart,k.sq (by decide),k.cm (by decide)⟩
theorem zB.ofMod{w:World}(hb:∀b,l b≠0->b<w.heap.size)(hm:zo l.own w w'):zB l w l w' where
 mod:=hm
 old _ _:=rfl
 new b hb':=by
  by_cases e:l b=0
  ·omega
  ·have:=hb b e;omega
 bnd b e:=Nat.lt_of_lt_of_le (hb b e) hm.size
variable{n:Nat}
theorem zB.ofAdd{w:World}(hn11:n<=11)(hb:∀b,l b≠0->b<w.heap.size)(hm:zo l.own w w')(hF:∀b,F b->w.heap.size<=b/\b<w'.heap.size):zB l w (l.add F n) w' where
 mod:=hm
 old b hlt:=zu.add_neg λe=>by have:=(hF b e).1;omega
 new b hge:=by
  have h0:l b=0:=by
   by_cases e:l b=0
   ·exact e
   ·have:=hb b e;omega
  by_cases hFb:F b
  ·rw[zu.add_pos hFb h0];exact hn11
  ·rw[zu.add_neg hFb,h0];omega
 bnd b e:=by
  by_cases h0:l b=0
  ·by_cases hFb:F b
   ·exact(hF b hFb).2
   ·rw[zu.add_neg hFb]at e;exact absurd h0 e
  ·exact Nat.lt_of_lt_of_le (hb b h0) hm.size
theorem Qf.setTx{w:World}{I:zN}{cs:List (zF×Value)}(h:Qf l w I tv cs C wb pend pdel e2 e4)(rtx:Nat):
  zB l w l (w.setCell ⟨I.rt,3,none⟩ (ptr rtx))/\Qf l (w.setCell ⟨I.rt,3,none⟩ (ptr rtx)) {I with rtx:=rtx} (ptr rtx) cs C wb pend pdel e2 e4:=by
 have l3:=h.lab.2.2.1;have hm:zo (· =I.rt) w (w.setCell ⟨I.rt,3,none⟩ (ptr rtx)):=vA (S:=(· =I.rt)) (zo.refl _ _) rfl _;have hs:zB l w l (w.setCell ⟨I.rt,3,none⟩ (ptr rtx)):=zB.ofMod h.bnd (hm.mono λj _ e=>⟨by rw[e,l3];decide,by rw[e,l3];decide⟩);have k:=h.kept hs (· =3) λj _=>by
  by_cases e:j=I.rt
  ·exact Or.inl (by rw[e];exact l3)
  ·exact Or.inr (Below.heap_setCell _ _ _ _ e)
 obtain⟨n,mu,wg,h5⟩:=h.rt;refine⟨hs,k.bnd,k.lab,k.be (by decide),k.bt (by decide),⟨n,mu,wg,?_⟩,k.db (by decide),k.wtx (by decide),k.buf2 (by decide) (by decide),k.buf4 (by decide) (by decide),h.apart,k.sq (by decide),k.cm (by decide)⟩;rw[heap_setCell_same w I.rt 3 _ _ _ h5];rfl
theorem Qf.setDel{w:World}{I:zN}{cs:List (zF×Value)}(h:Qf l w I tv cs C wb pend pdel e2 e4):
  zB l w l (w.setCell ⟨I.t,5,none⟩ (.int .i64 0))/\Qf l (w.setCell ⟨I.t,5,none⟩ (.int .i64 0)) I tv cs C wb pend 0 e2 e4:=by
 have l2:=h.lab.2.1;have hm:zo (· =I.t) w (w.setCell ⟨I.t,5,none⟩ (.int .i64 0)):=vA (S:=(· =I.t)) (zo.refl _ _) rfl _;have hs:zB l w l (w.setCell ⟨I.t,5,none⟩ (.int .i64 0)):=zB.ofMod h.bnd (hm.mono λj _ e=>⟨by rw[e,l2];decide,by rw[e,l2];decide⟩);have k:=h.kept hs (· =2) λj _=>by
  by_cases e:j=I.t
  ·exact Or.inl (by rw[e];exact l2)
  ·exact Or.inr (Below.heap_setCell _ _ _ _ e)
 have h4:=h.bt;refine⟨hs,k.bnd,k.lab,k.be (by decide),?_,k.rt (by decide),k.db (by decide),k.wtx (by decide),k.buf2 (by decide) (by decide),k.buf4 (by decide) (by decide),h.apart,k.sq (by decide),k.cm (by decide)⟩;unfold qW at h4⊢;rw[heap_setCell_same w I.t 5 _ _ _ h4];rfl
theorem Qf.keeps{w:World}{I:zN}{cs:List (zF×Value)}(h:Qf l w I tv cs C wb pend pdel e2 e4):kA w I.t I.be I.db I.rt I.m I.sm tv:=by obtain⟨n,mu,wg,h5⟩:=h.rt;exact⟨⟨_,_,_,h.bt⟩,h.be,_,h5,rfl⟩
theorem Qf.reset{w:World}{I:zN}{cs:List (zF×Value)}(h:Qf l w I tv cs C wb pend pdel e2 e4):
  Calls prog 86 #[ptr I.rt] w λe w'=>e=.returned (.tuple #[])/\∃(l':zu) (cm:Nat) (cur:zZ),zB l w l' w'/\Qf l' w' {I with cm:=cm} (.pointer none) [] C wb pend pdel e2 cur/\(∀e∈cur,e.2.2.2=[]):=by
 obtain⟨n,mu,wg,h5⟩:=h.rt;have l3:=h.lab.2.2.1;have l7:=h.lab.2.2.2.2.2.2.1;have hrb:I.rt∉zl e4:=λhj=>by have:=(h.buf4.blocks hj).1;unfold zu.is at this;rw[l3]at this;cases this
 refine(Wv (S:=l.some) (F:=l.is 11) h.bnd (λj e=>by show l j≠0;rw[e];decide) (by show l _≠0;rw[l3];decide) (by show l _≠0;rw[l7];decide) hrb h5 h.buf4).mono ?_;rintro e w' ⟨rfl,cm,wg',cur,hm,hrt,hcm,hcl,hb4,hz,hsub⟩;have hown:∀j,(j=I.rt\/j=I.m4\/j∈zl e4)->l.own j:=λj e=>by
  rcases e with rfl|rfl|e
  ·exact⟨by rw[l3];decide,by rw[l3];decide⟩
  ·exact⟨by rw[l7];decide,by rw[l7];decide⟩
  ·have:=(h.buf4.blocks e).1;unfold zu.is at this;exact⟨by rw[this];decide,by rw[this];decide⟩
 have h0:∀b,b=cm->l b=0:=λb e=>by
  by_cases e0:l b=0
  ·exact e0
  ·have:=h.bnd b e0;omega
 have hs:zB l w (l.add (· =cm) 8) w':=zB.ofAdd (by decide) h.bnd (hm.mono λj _ e=>hown j e) λb e=>⟨by rw[e];exact hcl,by rw[e];exact hcm.lt⟩;have k:=h.kept hs (λn=>n=3\/n=7\/n=11) λj ho=>by
  by_cases e:j=I.rt\/j=I.m4\/j∈zl e4
  ·rcases e with rfl|rfl|e
   ·exact Or.inl (Or.inl l3)
   ·exact Or.inl (Or.inr (Or.inl l7))
   ·exact Or.inl (Or.inr (Or.inr (h.buf4.blocks e).1))
  ·exact Or.inr (hm.block j (h.bnd j ho.1) e)
 have kl:=k.lab;have hold:∀{j n},l j=n->n≠0->(l.add (· =cm) 8) j=n:=λ{j n} e hn=>(zu.add_old (by rw[e];exact hn)).trans e;have hap:=h.apart;rw[List.flatMap_append,List.nodup_append]at hap;have hnot:∀x∈zl e2,¬(x=I.rt\/x=I.m4\/x∈zl e4):=λx hx e=>by
  have:=(h.buf2.blocks hx).1;unfold zu.is at this;rcases e with rfl|rfl|e
  ·rw[l3]at this;cases this
  ·rw[l7]at this;cases this
  ·exact hap.2.2 x hx x e rfl
 have hm5:I.m≠I.rt/\I.m≠I.m4:=⟨λe=>(by have:=h.lab.2.2.2.2.1;rw[e,l3]at this;cases this),λe=>(by have:=h.lab.2.2.2.2.1;rw[e,l7]at this;cases this)⟩;have hb2:=(h.buf2.exact).mod hm (λe=>by
  rcases e with e|e|e
  ·exact hm5.1 e
  ·exact hm5.2 e
  ·exact h.buf4.notMap h.buf2.map e) hnot hs.le
 have hle':(im l.some w').le (im (l.add (· =cm) 8).some w'):=λa v ha=>by
  obtain⟨a1,a2⟩:=zi.1 ha;refine zi.2 ⟨λe=> ?_,a2⟩;rw[Qm (by decide)]at e;rcases e with e|e
  ·exact a1 e
  ·rw[hcm.noCell e]at a2;cases a2
 refine⟨rfl,l.add (· =cm) 8,cm,cur,hs,⟨k.bnd,⟨kl.1,kl.2.1,kl.2.2.1,kl.2.2.2.1,kl.2.2.2.2.1,kl.2.2.2.2.2.1,kl.2.2.2.2.2.2.1,zu.add_pos rfl (h0 _ rfl)⟩,k.be (by decide),k.bt (by decide),⟨n,mu,wg',hrt⟩,k.db (by decide),k.wtx (by decide),?_,?_,?_,k.sq (by decide),hcm⟩,hz⟩
 ·exact⟨hb2.map,λx hx=>⟨hold (h.buf2.ok x hx).1 (by decide),hold (h.buf2.ok x hx).2.1 (by decide),(hb2.ok x hx).2.2⟩,hb2.apart⟩
 ·exact⟨hb4.map,λx hx=>⟨hold (hb4.ok x hx).1 (by decide),hold (hb4.ok x hx).2.1 (by decide),(hb4.ok x hx).2.2.frame rfl rfl hle'⟩,hb4.apart⟩
 ·rw[List.flatMap_append,List.nodup_append];refine⟨hap.1,hb4.apart,λx hx y hy e=> ?_⟩;obtain⟨f,hf,hyf⟩:=List.mem_flatMap.1 hy;obtain⟨g,hg,_,g1,g2⟩:=hsub f hf;have m1:=qm hg;simp only[List.mem_cons,List.not_mem_nil,or_false]at hyf;rcases hyf with rfl|rfl
  ·exact hap.2.2 x hx _ m1.1 (e.trans g1.symm)
  ·exact hap.2.2 x hx _ m1.2 (e.trans g2.symm)
theorem Qf.commit{w:World}{I:zN}{cs:List (zF×Value)}(h:Qf l w I tv cs C wb pend pdel e2 e4)(hsm:wb.length<=1000)(hcl:pend=0->C=wb.map (·.2)):
  Calls prog 87 #[ptr I.t,.bool false] w λe w'=>e=.returned (.tuple #[])/\∃(l':zu) (tx:Nat) (wb':List (Nat×z_)),zB l w l' w'/\wb'.map (·.2)=wb.map (·.2)/\Qf l' w' {I with wtx:=tx} tv cs (wb.map (·.2)) wb' 0 pdel e2 e4:=by
 obtain⟨l1,l2,l3,l4,l5,l6,l7,l8⟩:=h.lab;obtain⟨dv,hd,hD⟩:=h.db;refine(Uk (S:=l.some) (F:=l.is 9) h.bnd (λj e=>by show l j≠0;rw[e];decide) (by show l _≠0;rw[l2];decide) (by show l _≠0;rw[l1];decide) (by show l _≠0;rw[l4];decide)
  (by show ¬(l _=9);rw[l2];decide) (by show ¬(l _=9);rw[l1];decide) (by show ¬(l _=9);rw[l4];decide) h.bt h.be hd hD h.wtx hsm hcl).mono ?_
 rintro e w' ⟨rfl,tx,F',wb',dv',hm,hF,hbt,hbe,hdb,hD',htx,heq⟩;have hown:∀j,(j=I.t\/j=I.be\/j=I.db\/l.is 9 j)->l.own j:=λj e=>by
  rcases e with rfl|rfl|rfl|e
  ·exact⟨by rw[l2];decide,by rw[l2];decide⟩
  ·exact⟨by rw[l1];decide,by rw[l1];decide⟩
  ·exact⟨by rw[l4];decide,by rw[l4];decide⟩
  ·unfold zu.is at e;exact⟨by rw[e];decide,by rw[e];decide⟩
 have h0:∀b,F' b->l b=0:=λb e=>by
  by_cases e0:l b=0
  ·exact e0
  ·have:=h.bnd b e0;have:=(hF b e).1;omega
 have hs:zB l w (l.add F' 9) w':=zB.ofAdd (by decide) h.bnd (hm.mono λj _ e=>hown j e) hF;have k:=h.kept hs (λn=>n=1\/n=2\/n=4\/n=9) λj ho=>by
  by_cases e:j=I.t\/j=I.be\/j=I.db\/l.is 9 j
  ·rcases e with rfl|rfl|rfl|e
   ·exact Or.inl (Or.inr (Or.inl l2))
   ·exact Or.inl (Or.inl l1)
   ·exact Or.inl (Or.inr (Or.inr (Or.inl l4)))
   ·exact Or.inl (Or.inr (Or.inr (Or.inr e)))
  ·exact Or.inr (hm.block j (h.bnd j ho.1) e)
 have hadd:(l.add F' 9).some=λj=>l.some j\/F' j:=Qm (by decide);refine⟨rfl,l.add F' 9,tx,wb',hs,heq,⟨k.bnd,k.lab,hbe,hbt,k.rt (by decide),⟨dv',hdb,by rw[hadd];exact hD'⟩,?_,k.buf2 (by decide) (by decide),k.buf4 (by decide) (by decide),h.apart,k.sq (by decide),k.cm (by decide)⟩⟩;rw[hadd];refine htx.mono λj e=> ?_;rcases e with e|e
 ·exact(zu.add_old (by rw[e];decide)).trans e
 ·exact zu.add_pos e (h0 j e)
theorem Qf.begin{w:World}{I:zN}{cs:List (zF×Value)}(h:Qf l w I tv cs C wb pend pdel e2 e4)(hsm:C.length<=1000):
  Calls prog 88 #[ptr I.be,.bool false] w λe w'=>∃tx,e=.returned (ptr tx)/\∃(l':zu) (rb:List (Nat×z_)),zB l w l' w'/\Qf l' w' I tv cs C wb pend pdel e2 e4/\rb.map (·.2)=C/\kw (im l'.some w') w' (l'.is 10) tx I.db false rb:=by
 obtain⟨dv,hd,hD⟩:=h.db;have hbe:=h.be;obtain⟨nb,hb⟩:=id hbe;refine(KJ (S:=l.some) (wt:=false) h.bnd ⟨_,hb⟩ hbe.cells.1 (by rw[cell_of_row w I.db 0 _ _ (0,0) hd];rfl) hD hsm).mono ?_;rintro e w' ⟨tx,rfl,hn,rb,htx,heq⟩;have h0:∀b,(w.heap.size<=b/\b<w'.heap.size)->l b=0:=λb e=>by
  by_cases e0:l b=0
  ·exact e0
  ·have:=h.bnd b e0;omega
 have hs:zB l w (l.add (λb=>w.heap.size<=b/\b<w'.heap.size) 10) w':=zB.ofAdd (by decide) h.bnd (hn.mod _) λb e=>e;refine⟨tx,rfl,_,rb,hs,h.skip hs λj ho=>Or.inr (hn.block j (h.bnd j ho.1) (λe=>e)),heq,?_⟩;exact(htx.frame (λ_ _=>rfl) hs.le).mono λj e=>zu.add_pos e (h0 j e)
theorem zB.drew{w:World}(h:zB l w l' w'):zB l w l' w'.drew:=⟨h.mod.drew,h.old,h.new,h.bnd⟩
theorem Qf.drew{w:World}{I:zN}{cs:List (zF×Value)}(h:Qf l w I tv cs C wb pend pdel e2 e4):Qf l w.drew I tv cs C wb pend pdel e2 e4:=
 ⟨h.bnd,h.lab,h.be,h.bt,h.rt,h.db,h.wtx.frame (λ_ _=>rfl) (Rd.le_refl _),h.buf2.frame rfl (λ_ _=>rfl) (Rd.le_refl _),h.buf4.frame rfl (λ_ _=>rfl) (Rd.le_refl _),h.apart,h.sq,h.cm⟩
theorem J7{w:World}{I:zN}(h:j4 l w I C wb rb pend pdel e2 e4)(hsm:wb.length<=1000)(hcl:pend=0->C=wb.map (·.2)):
  Calls prog 81 #[ptr I.t,.bool false] w λe w'=>e=.returned (.tuple #[])/\∃(l':zu) (wtx rtx cm:Nat) (wb' rb':List (Nat×z_)) (e4':zZ),zB l w l' w'/\wb'.map (·.2)=wb.map (·.2)/\rb'.map (·.2)=wb.map (·.2)/\(∀e∈e4',e.2.2.2=[])/\
   j4 l' w' {I with wtx:=wtx,rtx:=rtx,cm:=cm} (wb.map (·.2)) wb' rb' 0 0 e2 e4':=by
 obtain⟨cs,hC,_⟩:=h.toC;have hrtx:=h.rtx;obtain⟨lv,hx,_⟩:=hrtx.htx;have hl10:l I.rtx=10:=hrtx.ftx;refine(V3 (R1:=λw1=>zB l w l w1/\Qf l w1 I (ptr I.rtx) cs C wb pend pdel e2 e4)
  (R2:=λw2=>∃(l2:zu) (cm:Nat) (cur:zZ),zB l w l2 w2/\Qf l2 w2 {I with cm:=cm} (.pointer none) [] C wb pend pdel e2 cur/\(∀e∈cur,e.2.2.2=[]))
  (R3:=λw3=>∃(l3:zu) (cm tx:Nat) (cur:zZ) (wb':List (Nat×z_)),zB l w l3 w3/\wb'.map (·.2)=wb.map (·.2)/\Qf l3 w3 {I with cm:=cm,wtx:=tx} (.pointer none) [] (wb.map (·.2)) wb' 0 pdel e2 cur/\(∀e∈cur,e.2.2.2=[]))
  (R4:=λrtx w4=>∃(l4:zu) (cm tx:Nat) (cur:zZ) (wb' rb':List (Nat×z_)),zB l w l4 w4/\wb'.map (·.2)=wb.map (·.2)/\rb'.map (·.2)=wb.map (·.2)/\Qf l4 w4 {I with cm:=cm,wtx:=tx} (.pointer none) [] (wb.map (·.2)) wb' 0 0 e2 cur/\(∀e∈cur,e.2.2.2=[])/\kw (im l4.some w4) w4 (l4.is 10) rtx I.db false rb')
  hC.keeps ?_ ?_ ?_ ?_).mono ?_
 ·refine(dR hx).mono ?_;rintro e w' ⟨rfl,hm⟩;have hs:zB l w l w':=zB.ofMod h.bnd (hm.mono λj _ e=>⟨by rw[e,hl10];decide,by rw[e,hl10];decide⟩);have hC':=hC.skip hs λj ho=>by
   by_cases e:j=I.rtx
   ·exact Or.inl (by rw[e];exact hl10)
   ·exact Or.inr (hm.block j (h.bnd j ho.1) e)
  exact⟨rfl,hC'.keeps,hs,hC'⟩
 ·rintro w1 ⟨hs,hC1⟩;refine hC1.reset.mono ?_;rintro e w' ⟨rfl,l',cm,cur,hs',hC',hz⟩;exact⟨rfl,hC'.keeps,l',cm,cur,hs.trans hs',hC',hz⟩
 ·rintro w2 ⟨l2,cm,cur,hs,hC2,hz⟩;refine(hC2.commit hsm hcl).mono ?_;rintro e w' ⟨rfl,l',tx,wb',hs',heq,hC'⟩;exact⟨rfl,hC'.keeps,l',cm,tx,cur,wb',hs.trans hs',heq,hC',hz⟩
 ·rintro w3 ⟨l3,cm,tx,cur,wb',hs,heq,hC3,hz⟩;obtain⟨hs3,hC3'⟩:=hC3.setDel;refine⟨hC3'.keeps,?_⟩;rintro w4 rfl;refine(hC3'.drew.begin (by simpa using hsm)).mono ?_;rintro e w' ⟨rtx,rfl,l',rb',hs',hC',hrb,htx⟩;exact⟨rtx,rfl,hC'.keeps,l',cm,tx,cur,wb',rb',(hs.trans hs3.drew).trans hs',heq,hrb,hC',hz,htx⟩
 ·rintro e w' ⟨rfl,rtx,w4,⟨l4,cm,tx,cur,wb',rb',hs,heq,hrb,hC4,hz,htx⟩,_,rfl⟩;obtain⟨hs5,hC5⟩:=hC4.setTx rtx;have l3:=hC4.lab.2.2.1;have htx':kw (im l4.some (w4.setCell ⟨I.rt,3,none⟩ (ptr rtx))) (w4.setCell ⟨I.rt,3,none⟩ (ptr rtx)) (l4.is 10) rtx I.db false rb':=
   htx.frame (λj e=>Below.heap_setCell _ _ _ _ (λe2=>by subst e2;unfold zu.is at e;rw[l3]at e;cases e)) hs5.le
  exact⟨rfl,l4,tx,rtx,cm,wb',rb',cur,hs.trans hs5,heq,hrb,hz,hC5.toS htx' (λc hc=>by cases hc)⟩
theorem kA.rtCells{w:World}{db m sm:Nat}(h:kA w t be db rt m sm c3):∃c,w.heap[rt]? =some (.cells c 252 (0,0)):=by obtain⟨_,_,c,h3,_⟩:=h;exact⟨c,h3⟩
theorem kA.btCells{w:World}{db m sm:Nat}(h:kA w t be db rt m sm c3):∃c,w.heap[t]? =some (.cells c 290 (0,0)):=by obtain⟨⟨_,_,_,h3⟩,_⟩:=h;exact⟨_,h3⟩
theorem j4.keeps{w:World}{I:zN}(h:j4 l w I C wb rb pend pdel e2 e4):kA w I.t I.be I.db I.rt I.m I.sm (ptr I.rtx):=by obtain⟨cs,hC,_⟩:=h.toC;exact hC.keeps
theorem d_{w:World}{db m sm:Nat}{R:World->Prop}(h0:kA w t be db rt m sm c3)
  (hu:Calls prog 81 #[ptr t,.bool false] w λe w'=>e=.returned (.tuple #[])/\(∃c3',kA w' t be db rt m sm c3')/\R w'):
  Calls prog 77 #[ptr t,.bool false] w λe w'=>e=.returned (.tuple #[])/\R w':=by
 obtain⟨a1,a4,_,_,_,_,_⟩:=h0.cells;obtain⟨c,hrt⟩:=h0.rtCells;have HL:=hid (Kv hrt);have HU:=hid hu;clear hu;clear h0 hrt;go_enter func77,ntmps77;go_wp2_with (go_at_call 80;go_must (refine HL.out.mono ?_);rintro e w1 ⟨rfl,rfl⟩);refine HU.out.mono ?_;rintro e w1 ⟨rfl,⟨c3',k1⟩,r1⟩;obtain⟨b1,b4,_,_,_,_,_⟩:=k1.cells;obtain⟨c',hrt'⟩:=k1.rtCells;have HK:=hid (QU hrt');have HR:=hid r1;clear r1;clear k1 hrt';go_wp2_with (go_at_call 82;go_must (refine HK.out.mono ?_);rintro e w2 ⟨rfl,rfl⟩);go_returns;exact⟨rfl,HR.out⟩
theorem Gu{w:World}{m sm db:Nat}(h:qW w t wtx be 0 m sm pdel)(hb:vC w be db t rt):
  Calls prog 78 #[ptr t] w λe w'=>e=.returned (.tuple #[])/\∃n,w'=w.drewN n:=by
 have c2:=h.cells.2.2.1;have HU:=hid (QV h hb (by omega));clear h hb;go_enter func78,ntmps78;go_wp2_with (go_at_call 84;go_must (refine HU.out.mono ?_);rintro e w1 ⟨rfl,n,rfl⟩);go_returns;exact⟨rfl,_,rfl⟩
theorem ua{w:World}{db m sm:Nat}{R:World->Prop}(h0:kA w t be db rt m sm c3)
  (hu:Calls prog 77 #[ptr t,.bool false] w λe w'=>e=.returned (.tuple #[])/\(∃wtx pdel,qW w' t wtx be 0 m sm pdel/\vC w' be db t rt)/\R w'):
  Calls prog 74 #[ptr t] w λe w'=>e=.returned (.tuple #[])/\∃w1 n,R w1/\w'=w1.drewN n:=by
 obtain⟨c,hbt⟩:=h0.btCells;have HL:=hid (Gt hbt);have HU:=hid hu;clear hu;clear h0 hbt;go_enter func74,ntmps74;go_wp2_with (go_at_call 76;go_must (refine HL.out.mono ?_);rintro e w1 ⟨rfl,rfl⟩);refine HU.out.mono ?_;rintro e w1 ⟨rfl,⟨wtx,pdel,k1,k2⟩,r1⟩;have HK:=hid (Gu k1 k2);have HR:=hid r1;clear r1;clear k1 k2;go_wp2_with (go_at_call 78;go_must (refine HK.out.mono ?_);rintro e w2 ⟨rfl,n,rfl⟩);go_returns;exact⟨rfl,w1,_,HR.out,rfl⟩
theorem j4.drewN{w:World}{I:zN}(h:j4 l w I C wb rb pend pdel e2 e4)(n:Nat):j4 l (w.drewN n) I C wb rb pend pdel e2 e4:=
 h.frame h.bnd (λ_ _=>⟨rfl,rfl⟩) (Rd.le_refl _)
theorem zB.drewN{w:World}(h:zB l w l' w')(n:Nat):zB l w l' (w'.drewN n):=⟨h.mod.drewN n,h.old,h.new,h.bnd⟩
def j6(l:zu)(w:World)(I:zN)(D:List z_)(e2:zZ)(w':World):Prop:=
 ∃(l':zu) (wtx rtx cm:Nat) (wb' rb':List (Nat×z_)) (e4':zZ),zB l w l' w'/\wb'.map (·.2)=D/\rb'.map (·.2)=D/\(∀e∈e4',e.2.2.2=[])/\j4 l' w' {I with wtx:=wtx,rtx:=rtx,cm:=cm} D wb' rb' 0 0 e2 e4'
theorem j6.drewN{w:World}{I:zN}{D:List z_}(h:j6 l w I D e2 w')(n:Nat):j6 l w I D e2 (w'.drewN n):=by obtain⟨l',a,b,c,wb',rb',e4',h1,h2,h3,h4,h5⟩:=h;exact⟨l',a,b,c,wb',rb',e4',h1.drewN n,h2,h3,h4,h5.drewN n⟩
theorem Xw{w:World}{I:zN}(h:j4 l w I C wb rb pend pdel e2 e4)(hsm:wb.length<=1000)(hcl:pend=0->C=wb.map (·.2)):
  Calls prog 77 #[ptr I.t,.bool false] w λe w'=>e=.returned (.tuple #[])/\(∃wtx pdel,qW w' I.t wtx I.be 0 I.m I.sm pdel/\vC w' I.be I.db I.t I.rt)/\j6 l w I (wb.map (·.2)) e2 w':=by
 refine d_ h.keeps ((J7 h hsm hcl).mono ?_);rintro e w' ⟨rfl,l',a,b,c,wb',rb',e4',h1,h2,h3,h4,h5⟩;exact⟨rfl,⟨_,h5.keeps⟩,⟨_,_,h5.bt,h5.be⟩,l',a,b,c,wb',rb',e4',h1,h2,h3,h4,h5⟩
theorem Xx{w:World}{I:zN}(h:j4 l w I C wb rb pend pdel e2 e4)(hsm:wb.length<=1000)(hcl:pend=0->C=wb.map (·.2)):
  Calls prog 74 #[ptr I.t] w λe w'=>e=.returned (.tuple #[])/\j6 l w I (wb.map (·.2)) e2 w':=by
 refine(ua h.keeps (Xw h hsm hcl)).mono ?_;rintro e w' ⟨rfl,w1,n,hc,rfl⟩;exact⟨rfl,hc.drewN n⟩
theorem KM{w:World}{I:zN}(h:j4 l w I C wb rb pend pdel e2 e4)(hsm:wb.length<=1000)(hcl:pend=0->C=wb.map (·.2)):
  Calls prog 151 #[ptr I.be] w λe w'=>e=.returned (.tuple #[])/\j6 l w I (wb.map (·.2)) e2 w':=by
 have HC:=hid (Xx h hsm hcl);have c3:=(show vC w I.be I.db I.t I.rt from h.be).cells.2.2.1;clear h hsm hcl;go_enter func151,ntmps151;go_wp2_with (go_at_call 74;go_must (refine HC.out.mono ?_);rintro e w1 ⟨rfl,h1⟩;have H1:=hid h1;clear h1);go_returns;exact⟨rfl,H1.out⟩
theorem gr{w:World}{I:zN}(h:j4 l w I C wb rb pend pdel e2 e4)(hu2:∀e∈e2,zM e.2.2.2)(hu4:∀e∈e4,e.2.2.2=[]):
  Calls prog 83 #[.pointer (some ⟨I.t,3,none⟩),.pointer (some ⟨I.rt,0,none⟩)] w λe w'=>e=.returned (.tuple #[])/\∃(c2 c4:zZ),zB l w l w'/\j4 l w' I C wb rb pend pdel c2 c4/\(∀e∈c2,e.2.2.2=[]):=by
 obtain⟨cs,hC,hcs⟩:=h.toC;obtain⟨l1,l2,l3,l4,l5,l6,l7,l8⟩:=h.lab;obtain⟨n,mu,wg,hrt⟩:=h.rt;obtain⟨sq,hsq,hbo⟩:=h.sq;have nn:∀{a b m n:Nat},l a=m->l b=n->m≠n->a≠b:=λh1 h2 h3 e=>by subst e;exact h3 (h1.symm.trans h2)
 have so:∀{a m:Nat},l a=m->m≠0->l.some a:=λ{a m} h1 h2=>by show l a≠0;rw[h1];exact h2
 have nb:∀{a m:Nat},l a=m->m≠11->a∉zl (e2++e4):=λ{a m} h1 h2 hj=>by
  rw[zV]at hj;rcases List.mem_append.1 hj with hj|hj
  ·have:=(h.buf2.blocks hj).1;unfold zu.is at this;exact h2 (h1.symm.trans this)
  ·have:=(h.buf4.blocks hj).1;unfold zu.is at this;exact h2 (h1.symm.trans this)
 have hbt:=h.bt;refine(Da (S:=l.some) (F:=l.is 11) (t:=I.t) (rt:=I.rt) (m:=I.m) (sm:=I.sm) (m4:=I.m4) (ver:=n) h.bnd (λj e=>so e (by decide)) (so l5 (by decide)) (so l6 (by decide)) (so l7 (by decide)) (so l3 (by decide)) (nn l7 l5 (by decide)) (nn l6 l5 (by decide)) (nn l6 l7 (by decide))
  (by rw[cell_of_row w I.t 3 _ _ (0,0) hbt];rfl) (by rw[cell_of_row w I.t 4 _ _ (0,0) hbt];rfl) (by rw[cell_of_row w I.rt 0 _ _ (0,0) hrt];rfl) (by rw[cell_of_row w I.rt 1 _ _ (0,0) hrt];rfl) (by simp[World.frozen?,hrt])
  (nb l2 (by decide)) (nb l3 (by decide)) h.buf2 h.buf4 h.apart hsq hbo hu2 hu4).mono ?_
 rintro e w' ⟨rfl,c2,c4,sq',ver',hm,hrt',hb2,hb4,hap,hsq',hbo',hz⟩;have hT:∀j,(j=I.m\/j=I.sm\/j=I.m4\/j=I.rt\/j∈zl (e2++e4))->l j=5\/l j=6\/l j=7\/l j=3\/l j=11:=λj e=>by
  rcases e with rfl|rfl|rfl|rfl|hj
  ·exact Or.inl l5
  ·exact Or.inr (Or.inl l6)
  ·exact Or.inr (Or.inr (Or.inl l7))
  ·exact Or.inr (Or.inr (Or.inr (Or.inl l3)))
  ·rw[zV]at hj;rcases List.mem_append.1 hj with hj|hj
   ·exact Or.inr (Or.inr (Or.inr (Or.inr (h.buf2.blocks hj).1)))
   ·exact Or.inr (Or.inr (Or.inr (Or.inr (h.buf4.blocks hj).1)))
 have hs:zB l w l w':=zB.ofMod h.bnd (hm.mono λj _ e=>by have:=hT j e;unfold zu.own;omega)
 have hk:=hC.kept hs (λn=>n=5\/n=6\/n=7\/n=3\/n=11) λj ho=>by
  by_cases e:j=I.m\/j=I.sm\/j=I.m4\/j=I.rt\/j∈zl (e2++e4)
  ·exact Or.inl (hT j e)
  ·exact Or.inr (hm.block j (h.bnd j ho.1) e)
 have hrtx:=h.rtx.frame (w':=w') (λj e=>hm.block j (h.bnd j (by rw[e];decide)) (λe2=>by have:=hT j e2;unfold zu.is at e;omega)) hs.le
 refine⟨rfl,c2,c4,hs,Qf.toS ⟨hk.bnd,hk.lab,hk.be (by decide),hk.bt (by decide),⟨ver',mu,wg,?_⟩,hk.db (by decide),hk.wtx (by decide),hb2,hb4,hap,⟨sq',hsq',hbo'⟩,hk.cm (by decide)⟩ hrtx hcs,hz⟩;rw[hrt' _ _ hrt];rfl
theorem ud{w:World}{m sm db:Nat}{R1 R2:World->Prop}(hp:0<pend)(hp2:pend<1000)(h0:kA w t be db rt m sm c3)(hbt:qW w t wtx be pend m sm pdel)
  (hw:Calls prog 83 #[.pointer (some ⟨t,3,none⟩),.pointer (some ⟨rt,0,none⟩)] w.drew λe w'=>e=.returned (.tuple #[])/\(∃c3,kA w' t be db rt m sm c3)/\qW w' t wtx be pend m sm pdel/\R1 w')
  (hc0:pdel=0->∀w' n,R1 w'->R2 (w'.drewN n))
  (hc1:pdel≠0->∀w' n,R1 w'->Calls prog 77 #[ptr t,.bool false] (w'.drewN n) λe w'=>e=.returned (.tuple #[])/\(∃wtx pdel,qW w' t wtx be 0 m sm pdel/\vC w' be db t rt)/\∀n,R2 (w'.drewN n)):
  Calls prog 78 #[ptr t] w λe w'=>e=.returned (.tuple #[])/\R2 w':=by
 obtain⟨a1,a4,_,_,_,_,_⟩:=h0.cells;obtain⟨c,hrt⟩:=h0.rtCells;have a2:=hbt.cells.2.2.1;have hne:((pend:Int)==0)=false:=by simp;omega
 have HL:=hid (Kv hrt);have HW:=hid hw;clear hw;have HC0:=hid hc0;clear hc0;have HC1:=hid hc1;clear hc1;clear h0 hrt hbt;go_enter func78,ntmps78;go_wp2_with (go_at_call 80;go_must (refine HL.out.mono ?_);rintro e w1 ⟨rfl,rfl⟩);go_still_tail 14,(by kernel_rfl);go_wp2_with fail;refine HW.out.mono ?_;rintro e w1 ⟨rfl,⟨c3',k1⟩,kb,r1⟩;obtain⟨b1,b4,_,_,_,_,_⟩:=k1.cells;obtain⟨c',hrt'⟩:=k1.rtCells;have b2:=kb.cells.2.2.1;have b5:=kb.cells.2.2.2;have bl:=k1.be.cells.2.1;have HK:=hid (QU hrt');have hge:decide ((1000:Int)<=(pend:Int))=false:=by simp;omega
 have HU:=hid (λn:Nat=>QV (w:=w1.drewN n) kb k1.be hp2);have HR1:=hid r1;clear r1;clear k1 hrt' kb;by_cases hpd:pdel=0
 ·have hC0:=HC0.out hpd;have HC:=hid hC0;clear hC0;subst hpd;go_wp2_with (go_at_call 82;go_must (refine HK.out.mono ?_);rintro e w2 ⟨rfl,rfl⟩);go_quiet (fail);go_wp2_with (go_at_call 84;go_must (refine(HU.out nq).mono ?_);rintro e w2 ⟨rfl,n,rfl⟩);go_returns;exact⟨rfl,HC.out w1 (nq+n) HR1.out⟩
 ·have hC1:=HC1.out hpd;have HC:=hid hC1;clear hC1;have hgt:decide ((0:Int)<(pdel:Int))=true:=by simp;omega
  go_wp2_with (go_at_call 82;go_must (refine HK.out.mono ?_);rintro e w2 ⟨rfl,rfl⟩);go_quiet (fail);go_wp2_with fail;refine(HC.out w1 nq HR1.out).mono ?_;rintro e w2 ⟨rfl,⟨wtx',pdel',k1,k2⟩,r2⟩;have HU2:=hid (QV k1 k2 (by omega));have HR2:=hid r2;clear r2;clear k1 k2;go_wp2_with (go_at_call 84;go_must (refine HU2.out.mono ?_);rintro e w3 ⟨rfl,n,rfl⟩);go_returns;exact⟨rfl,HR2.out n⟩
def ue(l:zu)(w:World)(I:zN)(C D:List z_)(wb rb:List (Nat×z_))(pend pdel:Nat)(w':World):Prop:=
 ∃c2:zZ,(∀e∈c2,e.2.2.2=[])/\((pdel=0/\∃(c4:zZ),zB l w l w'/\j4 l w' I C wb rb pend 0 c2 c4)\/(pdel≠0/\j6 l w I D c2 w'))
theorem Dd{w:World}{I:zN}(h:j4 l w I C wb rb pend pdel e2 e4)(hp:0<pend)(hp2:pend<1000)(hsm:wb.length<=1000)(hu2:∀e∈e2,zM e.2.2.2)(hu4:∀e∈e4,e.2.2.2=[]):
  Calls prog 78 #[ptr I.t] w λe w'=>e=.returned (.tuple #[])/\ue l w I C (wb.map (·.2)) wb rb pend pdel w':=by
 have hd:j4 l w.drew I C wb rb pend pdel e2 e4:=h.drewN 1;refine ud (R1:=λw1=>∃(c2 c4:zZ),zB l w l w1/\j4 l w1 I C wb rb pend pdel c2 c4/\(∀e∈c2,e.2.2.2=[])) (R2:=λw2=>ue l w I C (wb.map (·.2)) wb rb pend pdel w2) hp hp2 h.keeps h.bt ?_ ?_ ?_
 ·refine(gr hd hu2 hu4).mono ?_;rintro e w' ⟨rfl,c2,c4,hs,hB,hz⟩;exact⟨rfl,⟨_,hB.keeps⟩,hB.bt,c2,c4,⟨hs.mod.undrew,hs.old,hs.new,hs.bnd⟩,hB,hz⟩
 ·rintro h0 w' n ⟨c2,c4,hs,hB,hz⟩;subst h0;exact⟨c2,hz,Or.inl ⟨rfl,c4,hs.drewN n,hB.drewN n⟩⟩
 ·rintro h0 w' n ⟨c2,c4,hs,hB,hz⟩;refine(Xw (hB.drewN n) hsm (λe=>by omega)).mono ?_;rintro e w2 ⟨rfl,hk,hc⟩;refine⟨rfl,hk,λk=>⟨c2,hz,Or.inr ⟨h0,?_⟩⟩⟩;obtain⟨l',a,b,c,wb',rb',e4',h1,h2,h3,h4,h5⟩:=hc;exact⟨l',a,b,c,wb',rb',e4',((hs.drewN n).trans h1).drewN k,h2,h3,h4,h5.drewN k⟩
theorem zbt(fv:Value)(w:World):Calls prog 182 #[.int .i64 0,fv] w λe w'=>e=.returned (.int .i64 0)/\w=w':=by go_enter func182,ntmps182;go_wp2;refine wp_loop_once ?_;go_wp2;go_returns;exact⟨rfl,rfl⟩
variable{kv:Value}
theorem De{w:World}{ev lim:Value}(hk:∃p n c,kv=.slice p n c)(hu:w.cell? ⟨bb,1,none⟩=some (.int .i64 0)):
  Calls prog 323 #[ptr bb,kv,ev,lim] w λe w'=>e=.returned (.tuple #[.slice none 0 0,.slice none 0 0])/\za w w':=by
 obtain⟨kp,kn,kc,rfl⟩:=hk;have hbl:=World.block_lt_of_cell? w _ hu;go_enter func323,ntmps323;go_wp2_with (go_at_call 182;go_must (refine(zbt _ _).mono ?_);rintro e w1 ⟨rfl,rfl⟩);go_returns;exact⟨rfl,((za.refl w).alloc _).alloc _⟩
theorem uf{w:World}{fv:Value}(hu:w.cell? ⟨bb,1,none⟩=some (.int .i64 0)):
  Calls prog 321 #[ptr bb,fv] w λe w'=>e=.returned .nilIface/\w=w':=by
 go_enter func321,ntmps321;go_wp2;refine wp_loop_once ?_;go_wp2;go_returns;exact⟨rfl,rfl⟩
theorem Xy{w:World}{m:Nat}(h:zR r w F m es)(hz:∀e∈es,e.2.2.2=[])(b:zF):(∀w',w'.heap[m]? =w.heap[m]? ->(Instr.lookup 239 (.map (some m)) (k6 b) false).run prog w'=.ok (.pointer none) w')\/
  ∃bb,bb<w.heap.size/\w.cell? ⟨bb,1,none⟩=some (.int .i64 0)/\∀w',w'.heap[m]? =w.heap[m]? ->(Instr.lookup 239 (.map (some m)) (k6 b) false).run prog w'=.ok (ptr bb) w':=by
 have hl:=λ(w':World) (e:w'.heap[m]? =w.heap[m]?)=>zD.look (P:=prog) (t:=239) (e:=300) Zg (by kernel_rfl) (z:=.pointer none) (by kernel_rfl) (h.map.frame e) b false;cases hg:jt (es.map λe=>(e.1,ptr e.2.1)) b with
 |none=>exact Or.inl λw' e=>by have:=hl w' e;rw[hg]at this;exact this
 |some y=>obtain⟨bb,a,u,he,rfl⟩:=Qo (Qi hg);have hu:=hz _ he;simp only at hu;subst hu;have hb:=(h.ok _ he).2.2;exact Or.inr ⟨bb,hb.lt1,hb.used.1,λw' e=>by have:=hl w' e;rw[hg]at this;exact this⟩
variable{q:Nat}
theorem Ww{w:World}{m:Nat}{b:zF}{ev lim:Value}(h:zR r w F m es)(hz:∀e∈es,e.2.2.2=[])(hk:∃p n c,kv=.slice p n c)(hev:∃p n c,ev=.slice p n c)(hlim:∃n,lim=.int .i64 n)(hq:w.cell? ⟨q,0,none⟩=some (.map (some m))):
  Calls prog 318 #[ptr q,b.val,kv,ev,lim] w λe w'=>e=.returned (.tuple #[.slice none 0 0,.slice none 0 0])/\za w w':=by
 obtain⟨kp,kn,kc,rfl⟩:=hk;obtain⟨ep,en,ec,rfl⟩:=hev;obtain⟨nl,rfl⟩:=hlim;have hml:=h.map.lt;have hql:=World.block_lt_of_cell? w _ hq;have HID:=xl b;have hmeth:=QS b.raw;have hD:zo (λ_=>False) w ((w.alloc (.cells #[.int .i64 b.num,.string ⟨b.name.toArray⟩,.bool false] 428)).drew):=((za.refl w).alloc _).drew;rcases Xy h hz b with hl|⟨bb,hbl,hbu,hl⟩
 ·have hl0:=hl ((w.alloc (.cells #[.int .i64 b.num,.string ⟨b.name.toArray⟩,.bool false] 428)).drew) (hD.block _ hml (λe=>e));have HD:=hid hD;clear hD;clear hl h hz;unfold zF.val;generalize zF.raw b=raw at*
  go_enter func318,ntmps318;go_wp2;go_region_with (go_at_call 298;refine(HID _).mono ?_;rintro e w1 ⟨rfl,rfl⟩)
  all_goals
   go_wp2;go_returns;exact⟨rfl,HD.out⟩
 ·have hl0:=hl ((w.alloc (.cells #[.int .i64 b.num,.string ⟨b.name.toArray⟩,.bool false] 428)).drew) (hD.block _ hml (λe=>e));have HBR:=hid (De (kv:=.slice kp kn kc) (ev:=.slice ep en ec) (lim:=.int .i64 nl) ⟨_,_,_,rfl⟩ (za.le hD _ _ hbu));have HD:=hid hD;clear hD;clear hl h hz;unfold zF.val;generalize zF.raw b=raw at*
  go_enter func318,ntmps318;go_wp2;go_region_with (go_at_call 298;refine(HID _).mono ?_;rintro e w1 ⟨rfl,rfl⟩)
  all_goals
   go_wp2_with (go_at_call 323;go_must (refine HBR.out.mono ?_);rintro e w2 ⟨rfl,hn⟩;have HN:=hid hn;clear hn);go_returns;exact⟨rfl,za.trans HD.out HN.out⟩
theorem v_(v:Value)(w:World):Calls prog 69 #[v] w λe w'=>e=.returned (.tuple #[])/\w=w':=by go_enter func69,ntmps69;go_wp2;go_returns;exact⟨rfl,rfl⟩
theorem QW(v:Value)(w:World):Calls prog 70 #[v] w λe w'=>e=.returned (.tuple #[])/\w=w':=by go_enter func70,ntmps70;go_wp2;go_returns;exact⟨rfl,rfl⟩
theorem Qr(v:Value)(w:World):Calls prog 96 #[v] w λe w'=>e=.returned (.tuple #[])/\w=w':=by go_enter func96,ntmps96;go_wp2;go_returns;exact⟨rfl,rfl⟩
theorem KN(v:Value)(w:World):Calls prog 98 #[v] w λe w'=>e=.returned (.tuple #[])/\w=w':=by go_enter func98,ntmps98;go_wp2;go_returns;exact⟨rfl,rfl⟩
variable{bytes sz:Nat}
theorem vg{w:World}{ops:Array Oper}{rest:List Oper}{o:Oper}{a:Act}{Q:Exit->Act->World->Prop}{t:TypeId}{z:Value}
  (E:yB P t e z sz bytes)(hgd:o.guard=none){s x:Operand}(ho:o.op=.call {callee:=.builtin .append,args:= #[s,x],argTypes:= #[t,t]})
  {p:Option Addr}{n c:Nat}(hs:a.eval s=.slice p n c)(hx:a.eval x=.slice none 0 0)(hnc:n<=c)(hp:p=none->c=0)
  (h:wpList P ops Q rest (a.put o.dst (.slice p n c)) w):wpList P ops Q (o::rest) a w:=by
 obtain⟨i,hi,hz,hsz,hby⟩:=info_parts E.info;refine wpList_plain hgd λK hK=> ?_;have hrun:(Builtin.append_ #[t,t] o.type #[.slice p n c,.slice none 0 0]).run P w=.ok (.slice p n c) w:=by
  cases p with
  |none=>
   have:c=0:=hp rfl;subst this;have:n=0:=by omega
   subst this;simp[Builtin.append_,run_underlying E.under,sizeOf,typeInfo,hi,Builtin.lenOf,Builtin.firstCells,loadCells]
  |some ad=>simp[Builtin.append_,run_underlying E.under,sizeOf,typeInfo,hi,Builtin.lenOf,Builtin.firstCells,hnc,storeCells]
 unfold Oper.wp execOp;simp only[ho,resolve,invoke,builtin,Sem.run_bind,Sem.run_pure,Result.andThen_ok,List.map_toArray,List.map_cons,List.map_nil,hs,hx,hrun];exact hK _ _ h
def Plain(v:Value):Prop:=∃p n c,v=.slice p n c/\n<=c/\(p=none->c=0)
theorem qQ.plain{l:List Bytes}(h:qQ r l v):Plain v:=by obtain⟨cs,⟨p,n,c,rfl,_,h1,_,h2,_⟩,_⟩:=h;exact⟨p,n,c,rfl,h1,h2⟩
variable{bk tx:Nat}{nm:Bytes}{ps:yu}
theorem gt{w:World}{db:Nat}{bs:List (Nat×z_)}{k:Bytes}(hS:∀b,S b->b<w.heap.size)
  (h:kw (im S w) w F tx db wt bs)(hj:bs[j]? =some (bk,(nm,ps)))(hri:zM (zJ ps))(hne:∀p∈ps,p.1≠[])(hsm:ps.length<=1000000)(hk:Bs (im S w) k kv):
  Calls prog 255 #[ptr bk] w λe w2=>e=.returned (ptr w.heap.size)/\za w w2/\
   (∀lim:Int,Calls prog 320 #[ptr w.heap.size,kv,.slice none 0 0,.int .i64 lim] w2 λe w3=>∃ks vs,e=.returned (.tuple #[ks,vs])/\za w w3/\Plain ks/\qQ (im S w3) (qZ ps k).toList vs):=by
 obtain⟨_,nv,pv,fp,g1,g2,g3⟩:=h.hb _ (List.mem_of_getElem? hj);have c2:w.cell? ⟨bk,2,none⟩=some pv:=by rw[cell_of_row w bk 2 _ _ (0,0) g1];rfl
 refine(x7 c2 g3.shape).mono ?_;rintro e w2 ⟨rfl,rfl⟩;have hn2:za w (w.alloc (.cells #[pv,.int .i64 0,ptr bk] 486)):=(za.refl w).alloc _;refine⟨rfl,hn2,λlim=> ?_⟩;have hcc:=zg w (.cells #[pv,.int .i64 0,ptr bk] 486);have hbl:bk<w.heap.size:=World.block_lt_of_cell? w _ c2;have hle:=xz (S:=S) hn2 (Nat.le_refl _);refine(Z0 (S:=S) (bk:=bk) (ps:=ps) (pv:=pv) (x:=k) (lim:=lim) (λq e=>Nat.lt_of_lt_of_le (hS q e) hn2.size) (by simp) (by rw[cell_of_row _ w.heap.size 0 _ _ (0,0) hcc];rfl) (by rw[cell_of_row _ w.heap.size 1 _ _ (0,0) hcc];rfl) (by rw[cell_of_row _ w.heap.size 2 _ _ (0,0) hcc];rfl)
  (by unfold World.frozen?;rw[hcc];rfl) (by omega) (by rw[World.cell?_alloc_lt _ _ _ (by simpa using hbl)];exact c2) (g3.mono hle) hri hne hsm (hk.mono hle)).mono ?_
 rintro e w3 ⟨ks,vs,rfl,hm3,hk3,hv3⟩;exact⟨ks,vs,rfl,zo.trans hn2 hm3 (λq hq e=>by omega),hk3.plain,hv3⟩
variable{xv:Value}
theorem JH{w:World}{db:Nat}{bs:List (Nat×z_)}(h:kw (im S w) w F tx db wt bs)(hj:bs[j]? =some (bk,(nm,ps)))(hpl:zk (zG bs) nm=j)(hfd:zx (zG bs) nm=true)(hx:Bs (im S w) nm xv):
  Calls prog 319 #[ptr tx,xv] w λe w'=>e=.returned (ptr bk)/\w=w':=by
 have hjl:=(List.getElem?_eq_some_iff.1 hj).1;have hje:=(List.getElem?_eq_some_iff.1 hj).2;have:=Zf h (zd _ _) hx hjl hpl hfd;rw[hje]at this;exact this
end Go.Proofs.YtbmdoinjkligiaaGreat
