/- Contracts and laws that the last text joins. -/
import Derived.Test.YtbmdoinjkligiaaGreatRows
import Derived.JoinedOf
import Derived.Handed
import Derived.ChangeSame
import Derived.Carry
import Derived.Deep.Slices
import Derived.Deep.Fields
import Derived.Test.YtbmdoinjkligiaaGreatM24
set_option maxRecDepth 100000
set_option maxHeartbeats 40000000
set_option linter.all false
namespace Go.Proofs.YtbmdoinjkligiaaGreat
open Go.Proofs.Tryz Tryz
open Lib(hid)
open Go.RowKit
theorem zco{w:World}{n:Bytes}:Calls prog 25 #[zb n] w (zau w λb=>b=decide (n.length<=64)):=by unfold zb;go_enter func25,ntmps25;go_wp2;go_returns;refine⟨_,rfl,rfl,?_⟩;show decide ((n.length:Int)<=64)=_;rw[decide_eq_decide];omega
theorem Wa{w:World}{k e:Bytes}:Calls prog 27 #[zb k,zb e] w (zau w λb=>b=zT k e):=by
 unfold zb;go_enter func27,ntmps27;go_wp2
 all_goals
  go_returns;refine⟨_,rfl,rfl,?_⟩;unfold zT
  first|(simp[*,jl];done)|(show _=_;rw[jl,Bool.eq_iff_iff];simp[*,List.isEmpty_iff])
theorem dO(n:Bytes):∃b,(∀W,Calls prog 25 #[zb n] W λe w'=>e=.returned (.bool b)/\W=w')/\zd3 n b:=by refine⟨decide (n.length<=64),λW=>zco.mono ?_,λe=>of_decide_eq_true e⟩;rintro e w' ⟨b,rfl,rfl,rfl⟩;exact⟨rfl,rfl⟩
theorem zbc{w:World}{k e:Bytes}{b:Bool}(hb:b=zT k e):Calls prog 27 #[zb k,zb e] w λe w'=>e=.returned (.bool b)/\w=w':=by rw[hb];refine Wa.mono ?_;rintro e w' ⟨b,rfl,rfl,rfl⟩;exact⟨rfl,rfl⟩
structure zS.good(p:zS):Prop where
 kind:0<=p.kind/\p.kind<=2
 key:p.key.length<=64
 stop:p.stop.length<=64
 range:zT p.key p.stop=true
structure zcp(l:List zS):Prop where
 good:∀p∈l,p.good
 len:l.length<=12
def Wb(l:List zS)(b:Bool):Prop:=b=true->zcp l
variable{k:Nat}
theorem Gl{l:List zS}(h:k<l.length)(h1:∀o∈l.take k,o.good)(h2:l[k].good):∀o∈l.take (k+1),o.good:=by
 intro o ho;rw[List.take_succ_eq_append_getElem h]at ho;rcases List.mem_append.1 ho with e|e
 ·exact h1 o e
 ·rw[List.mem_singleton]at e;rw[e];exact h2
variable{v:Value}
theorem Wc{w:World}{l:List zS}(h:Q4 w.cell? l v):Calls prog 23 #[v] w (DE w (Wb l)):=by
 obtain⟨p,c,rfl,hlc,hc,hp⟩:=jW.shape yM (by decide) h;have HP:=hid hp;have H:=hid h;obtain⟨n,hn⟩:=zex (l.length);rw[<-hn]at hlc⊢;have HN:=hid hn;clear h hp hn;go_enter func23,ntmps23;go_wp2;go_loopw [7] (λi wr=>∃k:Nat,k<=n/\i=.int .i64 k/\za w wr/\∀o∈l.take k,o.good) (λi _=>n-(intOf i).toNat)
 case atStart=>exact⟨0,Nat.zero_le _,rfl,za.refl w,λo ho=>by cases ho⟩
 case round=>
  obtain⟨k,hk,rfl,hnr,hall⟩:=hrel;by_cases hlt:k<n
  ·have hkl:k<l.length:=by rw[<-HN.out];exact hlt
   obtain⟨b,o,rfl⟩:=HP.out (xt hkl);obtain⟨d0,d1,d2⟩:=Vz (jW.range yM (H.out.mono hnr.le) hkl);obtain⟨ke,e1⟩:∃z,zb l[k].key=.string z:=⟨_,rfl⟩;obtain⟨st,e2⟩:∃z,zb l[k].stop=.string z:=⟨_,rfl⟩;obtain⟨bk,hK,hkk⟩:=dO l[k].key;obtain⟨be,hE,he⟩:=dO l[k].stop;obtain⟨bv,hbv⟩:=zex (zT l[k].key l[k].stop);have hV:=λW=>zbc (w:=W) hbv;obtain⟨ki,hki⟩:=zex (l[k].kind);have hgood:0<=ki->ki<=2->bk=true->be=true->bv=true->l[k].good:=λq1 q2 q3 q4 q5=>
    ⟨by rw[<-hki];exact⟨q1,q2⟩,hkk q3,he q4,by rw[<-hbv];exact q5⟩
   have HNR:=hid hnr;have HALL:=hid hall;have HGD:=hid hgood;rw[e1]at d1 hK hV;rw[e2]at d2 hE hV;rw[<-hki]at d0;have HK:=hid hK;have HE:=hid hE;have HV:=hid hV;clear hnr hall e1 e2 hK hE hV hkk he hbv hki hgood;by_cases c1:ki<0
   ·have t1:decide (ki<0)=true:=by simp;omega
    go_wp2_with (first|((with_reducible refine(HK.out _).mono ?_);rintro e w2 ⟨rfl,rfl⟩)|((with_reducible refine(HE.out _).mono ?_);rintro e w2 ⟨rfl,rfl⟩)|((with_reducible refine(HV.out _).mono ?_);rintro e w2 ⟨rfl,rfl⟩));go_returns;exact⟨false,rfl,HNR.out.alloc _,λe=>by cases e⟩
   have t1:decide (ki<0)=false:=by simp;omega
   by_cases c2:2<ki
   ·have t2:decide (2<ki)=true:=by simp;omega
    go_wp2_with (first|((with_reducible refine(HK.out _).mono ?_);rintro e w2 ⟨rfl,rfl⟩)|((with_reducible refine(HE.out _).mono ?_);rintro e w2 ⟨rfl,rfl⟩)|((with_reducible refine(HV.out _).mono ?_);rintro e w2 ⟨rfl,rfl⟩));go_returns;exact⟨false,rfl,HNR.out.alloc _,λe=>by cases e⟩
   have t2:decide (2<ki)=false:=by simp;omega
   cases bk
   ·skip
    go_wp2_with (first|((with_reducible refine(HK.out _).mono ?_);rintro e w2 ⟨rfl,rfl⟩)|((with_reducible refine(HE.out _).mono ?_);rintro e w2 ⟨rfl,rfl⟩)|((with_reducible refine(HV.out _).mono ?_);rintro e w2 ⟨rfl,rfl⟩));go_returns;exact⟨false,rfl,HNR.out.alloc _,λe=>by cases e⟩
   cases be
   ·skip
    go_wp2_with (first|((with_reducible refine(HK.out _).mono ?_);rintro e w2 ⟨rfl,rfl⟩)|((with_reducible refine(HE.out _).mono ?_);rintro e w2 ⟨rfl,rfl⟩)|((with_reducible refine(HV.out _).mono ?_);rintro e w2 ⟨rfl,rfl⟩));go_returns;exact⟨false,rfl,HNR.out.alloc _,λe=>by cases e⟩
   cases bv
   ·skip
    go_wp2_with (first|((with_reducible refine(HK.out _).mono ?_);rintro e w2 ⟨rfl,rfl⟩)|((with_reducible refine(HE.out _).mono ?_);rintro e w2 ⟨rfl,rfl⟩)|((with_reducible refine(HV.out _).mono ?_);rintro e w2 ⟨rfl,rfl⟩));go_returns;exact⟨false,rfl,HNR.out.alloc _,λe=>by cases e⟩
   go_wp2_with (first|((with_reducible refine(HK.out _).mono ?_);rintro e w2 ⟨rfl,rfl⟩)|((with_reducible refine(HE.out _).mono ?_);rintro e w2 ⟨rfl,rfl⟩)|((with_reducible refine(HV.out _).mono ?_);rintro e w2 ⟨rfl,rfl⟩));go_roundw
   case rel=>exact⟨k+1,by omega,by go_num,HNR.out.alloc _,Gl hkl HALL.out (HGD.out (by omega) (by omega) (by simp) (by simp) (by simp))⟩
   case measure=>simp[intOf];omega
  ·have hkn:k=n:=by omega
   subst hkn;have HNR:=hid hnr;have HALL:=hid hall;clear hnr hall;go_wp2;go_returns;refine⟨_,rfl,HNR.out,λe=> ?_⟩;have e:decide ((k:Int)<=12)=true:=e;have e:=of_decide_eq_true e;have ht:l.take k=l:=List.take_of_length_le (by rw[HN.out];exact Nat.le_refl _);exact⟨by have:=HALL.out;rwa [ht]at this,by rw[<-HN.out];omega⟩
def y8(u k:Bytes)(j:Nat):List zH:=(([1,0]:List Int).take j).map λx=>yQ 16 u k [] x
def EA(ux kx:ByteArray)(x:Int):List Value:=[.int .i64 16,.string ux,.string ⟨#[]⟩,.int .i64 0,.string kx,.string ⟨#[]⟩,.bool false,.int .i64 x,.bool false]
theorem zcL{u k:Bytes}{ux kx:ByteArray}(hu:zb u=.string ux)(hk:zb k=.string kx)(x:Int):EA ux kx x=yP zH.cells [yQ 16 u k [] x]:=by unfold EA;rw[<-hu,<-hk];rfl
theorem zcr{ps:List zS}(hp:∀p∈ps,p.good)(hl:ps.length<=4){u k:Bytes}(hu:u.length<=64)(hk:k.length<=64)(hk0:k≠[]):
  (∀o∈qg [ps.map zS.m]++y8 u k 2,o.runs/\o.kind≠13)/\gs (qg [ps.map zS.m]++y8 u k 2)<=12/\(qg [ps.map zS.m]++y8 u k 2).length<=99/\
   ∃an e2 rev,an.length=(qg [ps.map zS.m]).length/\e2≠14/\zA.start.run (qg [ps.map zS.m]++y8 u k 2)=an++[⟨14,rev,true,false,[],[]⟩,⟨e2,rev,true,false,[],[]⟩]:=by
 have hv:∀q∈[ps.map zS.m],∀p∈q,zT p.key p.stop=true/\p.fine:=by intro q hq p hpq;rw[List.mem_singleton]at hq;subst hq;obtain⟨x,hx,rfl⟩:=List.mem_map.1 hpq;have h:=hp x hx;have hk:=h.kind;exact⟨h.range,by show x.kind.toNat<=2;omega,h.key,h.stop⟩
 have hvk:zT k []=true:=by unfold zT;rw[decide_eq_false hk0];rfl
 have hr:=Gk λq hq p hpq=>(hv q hq p hpq).2;have hlen:(qg [ps.map zS.m]).length<=20:=by
  unfold qg;have h1:=xJ [ps.map zS.m] 0 λq hq=>by rw[List.mem_singleton]at hq;rw[hq,List.length_map];omega
  rw[List.length_append,List.length_append];show 3+(_+1)<=20;have:[ps.map zS.m].length*14=14:=rfl;omega
 refine⟨λo ho=> ?_,?_,?_,?_⟩
 ·rcases List.mem_append.1 ho with ho|ho
  ·exact hr o ho
  ·have ho:o∈[yQ 16 u k [] 1,yQ 16 u k [] 0]:=ho;rcases List.mem_cons.1 ho with rfl|ho
   ·exact⟨GR (by omega) (by omega) hu hk (Nat.zero_le _) hvk,dL 16 rfl (by omega)⟩
   ·rw[List.mem_singleton]at ho;rw[ho];exact⟨GR (by omega) (by omega) hu hk (Nat.zero_le _) hvk,dL 16 rfl (by omega)⟩
 ·rw[ZA,za9,List.flatten_cons,List.flatten_nil,List.append_nil,List.length_map];show ps.length+0<=12;omega
 ·rw[List.length_append];show _+2<=99;omega
 ·obtain⟨rev,an,h1,h2⟩:=fP (l:=[ps.map zS.m]) (show 1<=3 by omega) λq hq p hpq=>(hv q hq p hpq).1;refine⟨zA.start.run (qg [ps.map zS.m]),_,rev,zbS _ _,zcn (s:=zO true rev (qV 0 [ps.map zS.m]) (yA 0 [ps.map zS.m])) (kind:=16) (u:=u) (k:=k) (e:=[]) (by omega),?_⟩;rw[YD,h1];refine congrArg (zA.start.run (qg [ps.map zS.m])++ ·) ?_;have s1:=fQ (s:=zO true rev (qV 0 [ps.map zS.m]) (yA 0 [ps.map zS.m])) (kind:=16) (u:=u) (k:=k) (e:=[]) (old:=1) (by omega);have s2:=fQ (s:=zO true rev (qV 0 [ps.map zS.m]) (yA 0 [ps.map zS.m])) (kind:=16) (u:=u) (k:=k) (e:=[]) (old:=0) (by omega);rw[zcm (by omega)]at s1;show zA.run _ [yQ 16 u k [] 1,yQ 16 u k [] 0]=_;show(zA.step _ _).2::(zA.step (zA.step _ _).1 _).2::[]=_;rw[s1];show _::(zA.step _ _).2::[]=_;rw[s2];rfl
variable{b base n sz:Nat}{e:TypeId}{xs:List Value}
theorem X8{w:World}{T:TypeId}{cs:Array Value}(h:w.ownsRow base e sz v n xs)(hr:w.heap[b]? =some (.cells cs T (0,0)))(hT:e≠T):v.ownBlock≠some b:=λe9=>by
 rcases h.2 with⟨rfl,_⟩|⟨g,cap,cur,rfl,_,hg,_⟩
 ·cases e9
 ·have e8:g=b:=by simpa[Value.ownBlock]using e9
  rw[e8,hr]at hg;cases hg;exact hT rfl
variable{t:Nat}
theorem Je{u k:Bytes}(ht:t<2):y8 u k (t+1)=y8 u k t++[yQ 16 u k [] (([1,0]:List Int)[t]'ht)]:=by unfold y8;rw[List.take_succ_eq_append_getElem (show t<([1,0]:List Int).length from ht),List.map_append];rfl
theorem zbf(hR:∀o:zH,o.runs->o.kind≠13->zdz o){w:World}{l:List zS}{u k:Bytes}(h:Q4 w.cell? l v):
  Calls prog 6 #[v,zb u,zb k] w λe w'=>e=.returned (.bool true)/\za w w':=by
 obtain⟨ux,hux⟩:∃z,zb u=.string z:=⟨_,rfl⟩;obtain⟨kx,hkx⟩:∃z,zb k=.string z:=⟨_,rfl⟩;obtain⟨p,c,rfl,hlc,hc,hp⟩:=jW.shape yM (by decide) h;have hkey:kx.toList=k:=by
  have:kx=⟨k.toArray⟩:=by unfold zb at hkx;injection hkx with e;exact e.symm
  rw[this,ByteArray.toList_eq]
 obtain⟨bu,hU,hub⟩:=dO u;obtain⟨bk,hK,hkb⟩:=dO k;rw[hux]at hU⊢;rw[hkx]at hK⊢;have HU:=hid hU;have HK:=hid hK;have HUX:=hid hux;have HKX:=hid hkx;have HKEY:=hid hkey;have HUB:=hid hub;have HKB:=hid hkb;have H:=hid h;have HRR:=hid hR;obtain⟨n,hn⟩:=zex (l.length);rw[<-hn]at hlc⊢;have HN:=hid hn;have HF:=hid (zed h);rw[<-hn]at HF;clear h hp hn hU hK hux hkx hkey hub hkb hR;go_enter func6,ntmps6;go_wp2_with fail;refine HF.out.mono ?_;rintro e w2 ⟨b,rfl,hn2,_⟩;have HN2:=hid hn2;clear hn2;cases b
 ·go_wp2;go_returns;exact⟨rfl,HN2.out⟩
 by_cases hu1:2147483647<ux.size
 ·have t1:decide (2147483647<(ux.size:Int))=true:=by simp;omega
  go_wp2;go_returns;exact⟨rfl,HN2.out⟩
 have t1:decide (2147483647<(ux.size:Int))=false:=by simp;omega
 by_cases hk1:2147483647<kx.size
 ·have t2:decide (2147483647<(kx.size:Int))=true:=by simp;omega
  go_wp2;go_returns;exact⟨rfl,HN2.out⟩
 have t2:decide (2147483647<(kx.size:Int))=false:=by simp;omega
 have HPR:=hid (Wc (H.out.mono HN2.out.le));rw[<-HN.out]at HPR;go_wp2_with fail;refine HPR.out.mono ?_;rintro e w3 ⟨b,rfl,hn3,hpo⟩;have HN3:=hid (HN2.out.trans hn3);have HPO:=hid hpo;clear hn3 hpo;cases b
 ·go_wp2;go_returns;exact⟨rfl,HN3.out⟩
 by_cases hn4:4<n
 ·have t3:decide (4<(n:Int))=true:=by simp;omega
  go_wp2;go_returns;exact⟨rfl,HN3.out⟩
 have t3:decide (4<(n:Int))=false:=by simp;omega
 have HAP:=hid (Wf (H.out.mono HN3.out.le));rw[<-HN.out]at HAP;go_wp2_with fail;refine HAP.out.mono ?_;rintro e w4 ⟨b,rfl,hn5,_⟩;have HN4:=hid (HN3.out.trans hn5);clear hn5;cases b
 ·go_wp2;go_returns;exact⟨rfl,HN4.out⟩
 go_wp2_with fail;refine(HU.out _).mono ?_;rintro e w9 ⟨rfl,rfl⟩;cases bu
 ·go_wp2;go_returns;exact⟨rfl,HN4.out⟩
 go_wp2_with fail;refine(HK.out _).mono ?_;rintro e w9 ⟨rfl,rfl⟩;cases bk
 ·go_wp2;go_returns;exact⟨rfl,HN4.out⟩
 by_cases hk0:kx.toList=[]
 ·have t4:kx.toList.isEmpty=true:=by rw[hk0];rfl
  go_wp2;go_returns;exact⟨rfl,HN4.out⟩
 have t4:kx.toList.isEmpty=false:=by rw[Bool.eq_false_iff];simpa using hk0
 have hpok:=HPO.out rfl;have hkne:k≠[]:=by rw[<-HKEY.out];exact hk0
 obtain⟨hruns,hgs,hl99,an,e2,rev,hanl,he2,hrun⟩:=zcr hpok.good (by rw[<-HN.out];omega) (HUB.out rfl) (HKB.out rfl) hkne;have hanl20:an.length<=97:=by rw[List.length_append]at hl99;rw[hanl];have:(y8 u k 2).length=2:=rfl;omega
 obtain⟨W5,hW5⟩:=zex (w4.alloc (.cells #[.slice p n c] 40));have hn5:za w4 W5:=by rw[hW5];exact(za.refl w4).alloc _
 have hro:GS W5.cell? [l] (.slice (some ⟨w4.heap.size,0,none⟩) 1 1):=by refine⟨[.slice p n c],by rw[hW5];exact Sl.made w4 [.slice p n c] _ 1 1 rfl (by decide),qy.cons ?_ qy.nil⟩;have h1:=H.out.mono (HN4.out.trans hn5).le;rw[<-HN.out]at h1;exact h1
 have HCT:=hid (D_ hro (by simp) λps hps=>by rw[List.mem_singleton]at hps;subst hps;exact⟨hpok.len,λx hx=>(hpok.good x hx).kind.1⟩)
 have HRUN:=hid hrun;have HRS:=hid hruns;have HGS:=hid hgs;have HL99:=hid hl99;have HANL:=hid hanl;have HE2:=hid he2;have HW5:=hid hW5;have HN5:=hid (HN4.out.trans hn5);clear hpok hkne hruns hgs hl99 hanl he2 hrun hW5 hn5 hro;go_upto_region 5 with fail
 go_wp2_with fail;rw[<-HW5.out];refine HCT.out.mono ?_;rintro e w6 ⟨z,m,rfl,hn6,hown⟩;obtain⟨q,m2,c2,rfl⟩:=(Sl.of_own hown).shape;have hm2:m2=an.length:=by obtain⟨p',n',c',e,hl',_⟩:=Sl.of_own hown;simp only[Value.slice.injEq]at e;obtain⟨_,rfl,_⟩:=e;rw[kX ZW]at hl';rw[HANL.out];exact(Nat.eq_of_mul_eq_mul_right (by decide) hl').symm
 have HM2:=hid hm2;have HN6:=hid hn6;have HOWN:=hid hown;obtain⟨W7,hW7⟩:=zex (w6.alloc (.cells #[.int .i64 1,.int .i64 0] 3));have hn7:za w6 W7:=by rw[hW7];exact(za.refl w6).alloc _
 have hb7:W7.heap[w6.heap.size]? =some (.cells #[.int .i64 1,.int .i64 0] 3 (0,0)):=by rw[hW7];exact zg w6 _
 have HW7:=hid hW7;have HN7:=hid (hn6.trans hn7);have HB7:=hid hb7;have HOW7:=hid (show W7.ownsRow W5.heap.size 35 9 (.slice q m2 c2) m (yP zH.cells (qg [l.map zS.m]++y8 u k 0)) by have h1:qg [l.map zS.m]++y8 u k 0=qg [l.map zS.m]:=List.append_nil _;rw[h1,hW7];exact World.ownsRow.alloc hown _)
 clear hm2 hn6 hown hW7 hn7 hb7;go_upto_region 8 with fail
 rw[<-HW7.out];go_loopw [7,59] (λz j wr=>∃t m:Nat,t<=2/\j=.int .i64 t/\za W5 wr/\wr.heap[w6.heap.size]? =some (.cells #[.int .i64 1,.int .i64 0] 3 (0,0))/\wr.ownsRow W5.heap.size 35 9 z m (yP zH.cells (qg [l.map zS.m]++y8 u k t))) (λ_ j _=>2-(intOf j).toNat)
 case atStart=>exact⟨0,m,by omega,rfl,HN7.out,HB7.out,HOW7.out⟩
 case round=>
  obtain⟨t,m,ht2,rfl,hnr,hb,hown⟩:=hrel;obtain⟨yp,yn,yc,rfl⟩:=(Sl.of_own hown).shape;have HB:=hid (ZC (l:=qg [l.map zS.m]++y8 u k t) (by rw[List.length_append,<-HANL.out];show _+((([1,0]:List Int).take t).map λx=>yQ 16 u k [] x).length<=99;rw[List.length_map,List.length_take];have:min t ([1,0]:List Int).length<=2:=Nat.min_le_right _ _;omega))
  have HNR:=hid hnr;have HBR:=hid hb;have HOQ:=hid hown;have g0:wr.cell? ⟨w6.heap.size,0,none⟩=some (.int .i64 1):=by rw[cell_of_row wr _ 0 _ _ (0,0) hb];rfl
  have g1:wr.cell? ⟨w6.heap.size,1,none⟩=some (.int .i64 0):=by rw[cell_of_row wr _ 1 _ _ (0,0) hb];rfl
  clear hnr hown hb;rcases(by omega:t=0\/t=1\/t=2)with rfl|rfl|rfl
  ·have HE:=hid (zcL HUX.out HKX.out 1);have HO:=hid (show∀y∈EA ux kx 1,y.oneCell'=true by rw[HE.out];exact xw _);have HAS:=hid (show y8 u k 1=y8 u k 0++[yQ 16 u k [] 1]from Je (by decide));go_wp2_with (at_builtin;refine ql Ju rfl rfl (HNR.out.alloc _) (World.ownsRow.alloc HOQ.out _) rfl rfl (Sl.made _ (EA ux kx 1) _ 9 1 rfl (by decide)) HO.out HB.out ?_;intro v8 w8 m8 hm8 ho hn8 hg hs8;obtain⟨p8,n8,c8,rfl⟩:=hs8.shape;rw[HE.out,ZB,List.append_assoc,<-HAS.out]at ho;have HN8:=hid hn8;have HB8:=hid (((zo.of_grown hg).block w6.heap.size (Nat.lt_of_lt_of_le (Array.getElem?_eq_some_iff.1 HBR.out).1 (zo.size ((za.refl wr).alloc _))) (X8 HOQ.out HBR.out (by decide))).trans (za.heap ((za.refl wr).alloc _) HBR.out));have HOW8:=hid ho;clear ho hn8 hg hs8 hm8);go_roundw
   case rel=>exact⟨1,_,by omega,by go_num,HN8.out,HB8.out,HOW8.out⟩
   case measure=>simp[intOf]
  ·have HE:=hid (zcL HUX.out HKX.out 0);have HO:=hid (show∀y∈EA ux kx 0,y.oneCell'=true by rw[HE.out];exact xw _);have HAS:=hid (show y8 u k 2=y8 u k 1++[yQ 16 u k [] 0]from Je (by decide));go_wp2_with (at_builtin;refine ql Ju rfl rfl (HNR.out.alloc _) (World.ownsRow.alloc HOQ.out _) rfl rfl (Sl.made _ (EA ux kx 0) _ 9 1 rfl (by decide)) HO.out HB.out ?_;intro v8 w8 m8 hm8 ho hn8 hg hs8;obtain⟨p8,n8,c8,rfl⟩:=hs8.shape;rw[HE.out,ZB,List.append_assoc,<-HAS.out]at ho;have HN8:=hid hn8;have HB8:=hid (((zo.of_grown hg).block w6.heap.size (Nat.lt_of_lt_of_le (Array.getElem?_eq_some_iff.1 HBR.out).1 (zo.size ((za.refl wr).alloc _))) (X8 HOQ.out HBR.out (by decide))).trans (za.heap ((za.refl wr).alloc _) HBR.out));have HOW8:=hid ho;clear ho hn8 hg hs8 hm8);go_roundw
   case rel=>exact⟨2,_,by omega,by go_num,HN8.out,HB8.out,HOW8.out⟩
   case measure=>simp[intOf]
  ·have hm3:yn=an.length+2:=by
    obtain⟨p',n',c',e,hl',_⟩:=Sl.of_own HOQ.out;simp only[Value.slice.injEq]at e;obtain⟨_,rfl,_⟩:=e;rw[kX ZW,List.length_append,<-HANL.out]at hl';exact(Nat.eq_of_mul_eq_mul_right (by decide) hl').symm
   have HAU:=hid (zbe (l:=qg [l.map zS.m]++y8 u k 2) (Sl.of_own HOQ.out) (λo ho=>(HRS.out o ho).1) (λo ho=>HRR.out o (HRS.out o ho).1 (HRS.out o ho).2) HL99.out HGS.out);rw[HRUN.out]at HAU;have HM3:=hid hm3;clear hm3 g0 g1;go_wp2_with fail;refine HAU.out.mono ?_;rintro e w9 ⟨v',rfl,hn9,hans⟩;obtain⟨p9,c9,rfl,_,_,hp9⟩:=hans.shape;have hlen:(an++[(⟨14,rev,true,false,[],[]⟩:vE),⟨e2,rev,true,false,[],[]⟩]).length=an.length+2:=by rw[List.length_append];rfl
   obtain⟨b,o,rfl⟩:=hp9 (by omega);obtain⟨_,_,k1⟩:=hans.cells (i:=an.length) (by omega);obtain⟨_,_,k2⟩:=hans.cells (i:=an.length+1) (by omega);rw[List.getElem_append_right (by omega)]at k1;rw[List.getElem_append_right (by omega)]at k2;simp only[Nat.sub_self,Nat.add_sub_cancel_left,List.getElem_cons_zero,List.getElem_cons_succ]at k1 k2;have d1:w9.cell? ⟨b,o+an.length*6,none⟩=some (.int .i64 14):=k1.err;have d2:w9.cell? ⟨b,o+an.length*6+1,none⟩=some (.int .u64 rev):=k1.rev;have d3:w9.cell? ⟨b,o+(an.length+1)*6,none⟩=some (.int .i64 e2):=k2.err;have d4:w9.cell? ⟨b,o+(an.length+1)*6+1,none⟩=some (.int .u64 rev):=k2.rev;rw[<-HM2.out]at d1 d2 d3 d4 hlen hanl20;rw[hlen];have HN9:=hid hn9;have f1:IntKind.i64.wrap ((m2:Int)+1)=(m2:Int)+1:=IntWalk.i64_in _ (by omega);have f2:IntKind.i64.wrap ((m2:Int)+2)=(m2:Int)+2:=IntWalk.i64_in _ (by omega);have f3:(0:Int)<=m2:=by omega
   have f4:(0:Int)<=(m2:Int)+1:=by omega
   have f5:(m2:Int)<(m2:Int)+2:=by omega
   have f6:(m2:Int)+1<(m2:Int)+2:=by omega
   have f7:((m2:Int)+1).toNat=m2+1:=by omega
   have f8:((e2:Int) !=14)=true:=by have:=HE2.out;simp;omega
   clear k1 k2 hp9 hans hlen hn9;go_wp2;go_quiet ((fail));go_wp2;go_returns;exact⟨rfl,za.trans (za.trans (za.trans HN5.out HNR.out) HN9.out) ((za.refl w9).drewN _)⟩
section
open Go.RowKit Go.ChangeShapes Go.WideShapes Go.Deep
theorem own0:ownKnob prog.godebug=none:=by kernel_rfl
theorem laid0:laidOutB prog=true:=by kernel_rfl
section
variable{H:Type}{enc:TypeId×Value->H}{w:World}{base:Nat}{spare:Nat->Bool}{held:Bool}
theorem zee{l:List Value}(h:l.length=3):∃a b c,l=[a,b,c]:=by
 match l,h with
 |[a,b,c],_=>exact⟨a,b,c,rfl⟩
theorem fY{t:TypeId}{fs:Array Field}{n:Nat}{cs:List Value}{x:DataW H×List MemPlace}(hu:prog.underlying t=some (.struct fs))(hone:oneCellFields prog fs=true)(hC:prog.cellsOf t=fs.size)(h:DataW.trod enc prog w base spare held n t cs=some x):
  cs.length=fs.size/\∀(j:Nat) (f:Field),fs[j]? =some f->∃m y c,cs[j]? =some c/\DataW.trod enc prog w base spare held m f.type [c]=some y:=by
 obtain⟨ys,m,_,_,hl,hyl,hf⟩:=DataW.trod_struct hu h;rw[hC]at hl;refine⟨hl,λj f hj=> ?_⟩;have hjl:j<fs.size:=(Array.getElem?_eq_some_iff.1 hj).1;obtain⟨ho,hk⟩:=hone_of hone j f hj;have h1:=hf j f hj;rw[ho,hk]at h1;have hv:cs[j]? =some (cs[j]'(by omega)):=List.getElem?_eq_getElem (by omega);have e1:(cs.drop j).take 1=[cs[j]'(by omega)]:=by rw[List.drop_eq_getElem_cons (by omega)];rfl
 rw[e1]at h1;have hys:ys[j]? =some (ys[j]'(by omega)):=List.getElem?_eq_getElem (by omega);exact⟨m,_,_,hv,h1.trans hys⟩
theorem Jf{n:Nat}{c:Value}{x:DataW H×List MemPlace}(h:DataW.trod enc prog w base spare held n 9 [c]=some x):∃b:Bytes,c=zb b:=by obtain⟨s,hs,_⟩:=DataW.trod_string underlying9 h;simp only[List.cons.injEq,and_true]at hs;refine⟨s.data.toList,hs.trans ?_⟩;unfold zb;rw[Array.toArray_toList]
theorem zbg{n:Nat}{c:Value}{x:DataW H×List MemPlace}(h:DataW.trod enc prog w base spare held n 3 [c]=some x):∃k,c=.int .i64 k:=by obtain⟨k,hs,_⟩:=DataW.trod_int underlying3 h;simp only[List.cons.injEq,and_true]at hs;exact⟨k,hs⟩
theorem Wg{n:Nat}{cs:List Value}{x:DataW H×List MemPlace}(h:DataW.trod enc prog w base spare held n 33 cs=some x):∃p:zS,cs=p.cells.toList:=by obtain⟨hl,hf⟩:=fY underlying33 (by kernel_rfl) (by kernel_rfl) h;obtain⟨_,_,c0,h0,t0⟩:=hf 0 _ rfl;obtain⟨_,_,c1,h1,t1⟩:=hf 1 _ rfl;obtain⟨_,_,c2,h2,t2⟩:=hf 2 _ rfl;obtain⟨k,rfl⟩:=zbg t0;obtain⟨a,rfl⟩:=Jf t1;obtain⟨b,rfl⟩:=Jf t2;refine⟨⟨k,a,b⟩,?_⟩;obtain⟨d0,d1,d2,rfl⟩:=zee (show cs.length=3 from hl);simp only[List.getElem?_cons_zero,List.getElem?_cons_succ,Option.some.injEq]at h0 h1 h2;rw[h0,h1,h2];rfl
theorem Gm{fuel:Nat}{v:Value}{x:DataW H×List MemPlace}(h:DataW.trod enc prog w base spare held fuel 40 [v]=some x):∃l,Q4 w.cell? l v:=by
 have hC:prog.cellsOf 33=3:=by kernel_rfl
 rcases open_slice underlying40 h with⟨hcs,_⟩|⟨a,len,cap,m,n,D,Pl,hcs,hb,hl,hm,hmm,hx,hi⟩
 ·simp only[List.cons.injEq,and_true]at hcs;exact⟨[],by rw[hcs];exact Sl.nil _ _⟩
 ·simp only[List.cons.injEq,and_true]at hcs;have hlm:len<=m:=by rw[hmm];split<;>omega
  have hp:∀i,i<len->∃p:zS,∀j v,p.cells.toList[j]? =some v->w.cell? (a.add (i*3+j))=some v:=λi hil=>by obtain⟨cs',hc,ht⟩:=hi i (by omega);obtain⟨p,rfl⟩:=Wg ht;rw[hC]at hc;obtain⟨_,_,hat⟩:=World.cells?_some hc;refine⟨p,λj v hj=> ?_⟩;have hj3:j<3:=(List.getElem?_eq_some_iff.1 hj).1;rw[<-Go.Deep.add_add,hat j hj3,hj]
  have:Inhabited zS:=⟨⟨0,[],[]⟩⟩;obtain⟨f,hf⟩:=choose_lt hp;refine⟨(List.range len).map f,?_⟩;have hlen:((List.range len).map f).length=len:=by simp
  refine⟨some a,len,cap,hcs,by rw[kX yM,hlen],hl,by unfold maxLen at hm;omega,(λe=>by cases e),?_⟩;by_cases h0:len=0
  ·left;subst h0;rfl
  ·right;obtain⟨b,o,s⟩:=a;have hs:s=none:=by
    have h1:=hf 0 (by omega) 0 _ rfl;have:=World.cell?_spot h1;simpa[Addr.add]using this
   subst hs;refine⟨b,o,rfl,λq hq=> ?_⟩;rw[kX yM,hlen]at hq;have hq1:q/3<len:=by omega
   have hq2:q % 3<3:=Nat.mod_lt _ (by omega);have h1:(((List.range len).map f)[q/3]'(by rw[hlen];exact hq1))=f (q/3):=by simp
   have h2:(f (q/3)).cells.toList[q % 3]? =some ((f (q/3)).cells.toList[q % 3]'(by show q % 3<3;exact hq2)):=List.getElem?_eq_getElem _;have h3:=Vy yM ((List.range len).map f) (q/3) (by rw[hlen];exact hq1) (q % 3) _ (by rw[h1];exact h2);have h4:=hf (q/3) hq1 (q % 3) _ h2;have e:q/3*3+q % 3=q:=by omega
   rw[e]at h3 h4;obtain⟨_,h5⟩:=List.getElem?_eq_some_iff.1 h3;rw[h5];rw[Addr.add_mid]at h4;exact h4
theorem zbh{f:Func}{s:ChangeSpec}{apart fresh handsOn again:Bool}{W W':World}{args:Array Value}{ds gs:List (DataW H)}{before pa pv:List MemPlace}{t:TypeId}{r:Bool}(ht:prog.underlying t=some .bool)(hrt:f.resultTypes= #[t])
  (hW:DataW.Whole enc prog f.params.toList s.vars apart W args.toList ds gs before)
  (hres:(s.fn H (ds++gs)).results=[.lit (.bool r)])
  (hargs:∀sp:Nat->Bool,(∀p∈before,sp p.block=true)->DataW.TrodAll enc prog W' 0 sp true f.params.toList args.toList (s.fn H (ds++gs)).args pa)
  (hvars:∀sp:Nat->Bool,(∀p∈before,sp p.block=true)->DataW.TrodVars enc prog W' sp s.vars (s.fn H (ds++gs)).vars pv)
  (hps:before=pa++pv)(hb:Below W.heap.size W W'):s.post enc prog f apart fresh handsOn again W args (.bool r) W':=by
 have hlt:∀p∈before,p.block<W.heap.size:=λp hp=>hW.lt p hp;have hold:∀p∈before,(λb=>decide (b<W.heap.size)) p.block=true:=λp hp=>by simpa using hlt p hp
 have hr:∀(b:Nat) (sp:Nat->Bool) (hd:Bool),DataW.TrodAll enc prog W' b sp hd f.resultTypes.toList ((Value.bool r).resultList f.resultTypes.size) (s.fn H (ds++gs)).results []:=λb sp hd=>by rw[hres,hrt];exact trodAll_mk1 (shut_bool ht r)
 refine⟨ds,gs,before,[],pa,pv,hW,hr _ _ _,hargs _ hold,hvars _ hold,World.keptBut_mono (λp hp=>⟨hp,?_⟩) (hb.frame (· ∈before)),λ_=> ?_⟩
 ·rw[hps,List.mem_append]at hp;exact Or.inr hp
 ·obtain⟨_,_,_,_,_,hz,hn⟩:=hW;refine⟨ok_one hrt rfl (okWide_bool_mk ht r),_,_,([]++pa)++pv,⟨[]++pa,pv,trodAll_append (hargs _ (λ_ _=>rfl)) (hr _ _ _),hvars _ (λ_ _=>rfl),rfl,?_,?_⟩,?_⟩
  ·intro b off hp;have hin:MemPlace.cell b off∈before:=by rw[hps];simpa using hp
   rw[hb.frozen (hlt _ hin)];exact hz b off hin
  ·intro ha;have:=hn ha;rw[hps]at this;simpa using this
  ·intro p hp _;rw[hps];simpa using hp
end
end
end Go.Proofs.YtbmdoinjkligiaaGreat
