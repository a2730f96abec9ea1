/- Contracts and laws that the last text joins. -/
import Derived.Maps.RangeWalk
import Derived.Handy
import Derived.Shelf.Small.Bits
import Derived.Shelf.Sort.Plain
import Derived.Shelf.GgSortMore.SortSort
import Derived.Test.YtbmdoinjkligiaaGreatM01
set_option maxRecDepth 100000
set_option maxHeartbeats 40000000
set_option linter.all false
namespace Go.Proofs.YtbmdoinjkligiaaGreat
open Tryz
open Lib(hid)
open Go.RowKit
variable{α β:Type}
theorem X8{es:List (α×β)}(hn:(es.map (·.1)).Nodup){e f:α×β}(he:e∈es)(hf:f∈es)(h:e.1=f.1):e=f:=by
 induction es with
 |nil=>simp at he
 |cons x es ih=>
  simp only[List.map_cons,List.nodup_cons]at hn;rcases List.mem_cons.1 he with e1|he
  ·rcases List.mem_cons.1 hf with f1|hf
   ·rw[e1,f1]
   ·exact absurd (List.mem_map.2 ⟨f,hf,by rw[<-h,e1]⟩) hn.1
  ·rcases List.mem_cons.1 hf with f1|hf
   ·exact absurd (List.mem_map.2 ⟨e,he,by rw[h,f1]⟩) hn.1
   ·exact ih hn.2 he hf
theorem Yn{es:List (zF×(Nat×Nat×List Bytes))}(hn:(es.map (·.1)).Nodup){b:zF}{x:Nat×Nat×List Bytes}(h:(b,x)∈es):yz es b=x.2.2:=by
 unfold yz
 induction es with
 |nil=>simp at h
 |cons e es ih=>
  simp only[List.map_cons,List.nodup_cons]at hn;rcases List.mem_cons.1 h with h|h
  ·rw[<-h];simp
  ·have Ho: ¬e.1=b:=λe2=>hn.1 (List.mem_map.2 ⟨_,h,e2.symm⟩);simp only[List.find?_cons,Ho,decide_false];exact ih hn.2 h
variable{F:Nat->Prop}{r:Rd}
theorem zQ.keys{w:World}{m:Nat}{es:List (zF×(Nat×Nat×List Bytes))}(h:zQ r w F m es):(es.map (·.1)).Nodup:=by
 have:=h.map.nodup
 rwa [List.map_map]at this
def ya(es:List (zF×(Nat×Nat×List Bytes)))(b:zF)(u:List Bytes):List (zF×(Nat×Nat×List Bytes)):=es.map λe=>if e.1=b then (e.1,e.2.1,e.2.2.1,u)else e
theorem Qd(f:zF->Nat->Nat->α)(es:List (zF×(Nat×Nat×List Bytes)))(b:zF)(u:List Bytes):(ya es b u).map (λe=>f e.1 e.2.1 e.2.2.1)=es.map (λe=>f e.1 e.2.1 e.2.2.1):=by unfold ya;rw[List.map_map];refine List.map_congr_left λe _=> ?_;simp only[Function.comp];split<;>rfl
theorem jW(es:List (zF×(Nat×Nat×List Bytes)))(b:zF)(u:List Bytes):(ya es b u).flatMap (λe=>[e.2.1,e.2.2.1])=es.flatMap (λe=>[e.2.1,e.2.2.1]):=by
 unfold ya
 induction es with
 |nil=>rfl
 |cons e es ih=>simp only[List.map_cons,List.flatMap_cons,ih];split<;>rfl
theorem KA(es:List (zF×(Nat×Nat×List Bytes))){b:zF}(h:∃e∈es,e.1=b)(u:List Bytes)(c:zF):yz (ya es b u) c=if c=b then u else yz es c:=by
 unfold yz ya
 induction es with
 |nil=>obtain⟨e,he,_⟩:=h;simp at he
 |cons e es ih=>
  by_cases hb:e.1=b
  ·simp only[List.map_cons,hb,if_true,List.find?_cons];by_cases hc:c=b
   ·simp[hc]
   ·have: ¬b=c:=λe=>hc e.symm;simp only[this,decide_false,hc,if_false];clear ih h;congr 2
    induction es with
    |nil=>rfl
    |cons f es ih2=>
     by_cases hf:f.1=b
     ·simp only[List.map_cons,hf,if_true,List.find?_cons,this,decide_false];exact ih2
     ·simp only[List.map_cons,hf,if_false,List.find?_cons];split
      ·rfl
      ·exact ih2
  ·simp only[List.map_cons,hb,if_false,List.find?_cons];by_cases hc:e.1=c
   ·have: ¬c=b:=λh=>hb (hc.trans h);simp[hc,this]
   ·simp only[hc,decide_false];obtain⟨x,hx,tS⟩:=h;rcases List.mem_cons.1 hx with rfl|hx
    ·exact absurd tS hb
    ·exact ih ⟨x,hx,tS⟩
theorem Qe{es:List (zF×(Nat×Nat×List Bytes))}(h:(es.flatMap λe=>[e.2.1,e.2.2.1]).Nodup){e f:zF×(Nat×Nat×List Bytes)}(he:e∈es)(hf:f∈es)(Ho:e.1≠f.1):e.2.1≠f.2.1/\e.2.1≠f.2.2.1/\e.2.2.1≠f.2.1/\e.2.2.1≠f.2.2.1:=by
 induction es with
 |nil=>simp at he
 |cons x es ih=>
  simp only[List.flatMap_cons,List.nodup_append]at h;obtain⟨h1,h2,h3⟩:=h;have key:∀y∈es,∀p∈[x.2.1,x.2.2.1],∀q∈[y.2.1,y.2.2.1],p≠q:=λy hy p hp q hq=>h3 p hp q (List.mem_flatMap.2 ⟨y,hy,hq⟩);rcases List.mem_cons.1 he with rfl|he
  ·rcases List.mem_cons.1 hf with rfl|hf
   ·exact absurd rfl Ho
   ·have k:=key f hf;exact⟨k _ (by simp) _ (by simp),k _ (by simp) _ (by simp),k _ (by simp) _ (by simp),k _ (by simp) _ (by simp)⟩
  ·rcases List.mem_cons.1 hf with rfl|hf
   ·have k:=key e (by assumption);exact⟨(k _ (by simp) _ (by simp)).symm,(k _ (by simp) _ (by simp)).symm,(k _ (by simp) _ (by simp)).symm,(k _ (by simp) _ (by simp)).symm⟩
   ·exact ih h2 he hf
variable{S:Nat->Prop}{kv vv:Value}{t:Nat}
theorem dO{w:World}{m:Nat}{es:List (zF×(Nat×Nat×List Bytes))}{b:zF}{k v:Bytes}(hS:∀j,S j->j<w.heap.size)(cE:S m)(pG:∀j,F j->S j)
  (aS: ¬F m)(h3:w.cell? ⟨t,3,none⟩=some (.map (some m)))(h:zQ (im S w) w F m es)(hu:(yz es b).length+1<512)(Hx:es.length<=1000)(hk:Bs (im S w) k kv)(hv:Bs (im S w) v vv):
  Calls prog 343 #[.pointer (some ⟨t,3,none⟩),b.val,kv,vv] w λe w'=>∃F' es',e=.returned (.tuple #[])/\zq (λj=>j=m\/F j) w w'/\(∀j,F j->F' j)/\(∀j,F' j->F j\/w.heap.size<=j/\j<w'.heap.size)/\
   zQ (im (λj=>S j\/F' j) w') w' F' m es'/\es'.length<=es.length+1/\(∀x∈es'.flatMap (λe=>[e.2.1,e.2.2.1]),x∈es.flatMap (λe=>[e.2.1,e.2.2.1])\/w.heap.size<=x)/\∀c,yz es' c=yz es c++if c=b then [k]else []:=by
 by_cases hb:∃e∈es,e.1=b
 ·obtain⟨⟨b',bb,a,u⟩,he,Ry⟩:=hb;simp only at Ry;subst Ry;have Ie:=Yn h.keys he;simp only at Ie;refine(JZ pG h3 h he (by rw[<-Ie];exact hu) hk hv).mono ?_;rintro e w' ⟨rfl,hm,Rz⟩;obtain⟨o1,o2,o3⟩:=h.ok _ he;have Ig:zq F w w':=hm.mono λj _ e=>by rcases e with rfl|rfl;exact o1;exact o2
  have hY:(im S w).le (im S w'):=(Ig.mono (S':=S) λj _ e=>pG j e).im λ_ _ h=>h;have hSF:∀j,(S j\/F j)->S j:=λj e=>by rcases e with e|e;exact e;exact pG j e
  refine⟨F,ya es b' (u++[k]),rfl,Ig.mono λ_ _ e=>Or.inr e,λ_ e=>e,λ_ e=>Or.inl e,⟨?_,?_,?_⟩,?_,?_,?_⟩
  ·rw[Qd (λi x _=>(i,ptr x))];exact h.map.frame (Ig.block m h.map.lt aS)
  ·intro f hf;unfold ya at hf;obtain⟨g,hg,rfl⟩:=List.mem_map.1 hf;by_cases mZ:g.1=b'
   ·rw[if_pos mZ];have:g=(b',bb,a,u):=X8 h.keys hg he mZ;rw[this];exact⟨o1,o2,Rz.frame rfl rfl (jn hSF)⟩
   ·rw[if_neg mZ];obtain⟨q1,q2,q3⟩:=h.ok g hg;obtain⟨a1,a2,a3,a4⟩:=Qe h.apart hg he mZ;refine⟨q1,q2,q3.frame (hm.block _ q3.lt1 (λe=> ?_)) (hm.block _ q3.lt2 (λe=> ?_)) (hY.le_trans (jn hSF))⟩
    ·rcases e with e|e
     ·exact a1 e
     ·exact a2 e
    ·rcases e with e|e
     ·exact a3 e
     ·exact a4 e
  ·rw[jW];exact h.apart
  ·unfold ya;simp
  ·intro x hx;rw[jW]at hx;exact Or.inl hx
  ·intro c;rw[KA es ⟨_,he,rfl⟩];split
   ·rename_i hc;rw[hc,Ie]
   ·simp
 ·have cF:jq (es.map λe=>(e.1,ptr e.2.1)) b=none:=QL.2 λe he Ho=>by
   obtain⟨f,hf,rfl⟩:=List.mem_map.1 he;exact hb ⟨f,hf,Ho⟩
  refine(J0 hS cE h3 h.map cF (by simpa using Hx) hk hv).mono ?_;rintro e w' ⟨bb,a,rfl,hm,Pb,L9,Ho,RZ,Rz⟩;refine⟨λj=>F j\/j=bb\/j=a,es++[(b,bb,a,[k])],rfl,hm.mono λ_ _ e=>Or.inl e,λ_ e=>Or.inl e,?_,⟨?_,?_,?_⟩,by simp,?_,?_⟩
  ·intro j e;rcases e with e|rfl|rfl
   ·exact Or.inl e
   ·exact Or.inr ⟨Pb,Rz.lt1⟩
   ·exact Or.inr ⟨L9,Rz.lt2⟩
  ·have:xu (es.map λe:zF×(Nat×Nat×List Bytes)=>(e.1,ptr e.2.1)) b (ptr bb)=(es++[(b,bb,a,[k])]).map (λe:zF×(Nat×Nat×List Bytes)=>(e.1,ptr e.2.1)):=by
    unfold xu;rw[cF];simp
   rw[<-this];exact RZ
  ·have hY:(im S w).le (im (λj=>S j\/F j\/j=bb\/j=a) w'):=(hm.mono (S':=S) λ_ _ e=>by rw[e];exact cE).im λj hj e=>by
    rcases e with e|e|e|e
    ·exact e
    ·exact pG j e
    ·omega
    ·omega
   intro f hf;rcases List.mem_append.1 hf with hf|hf
   ·obtain⟨q1,q2,q3⟩:=h.ok f hf;refine⟨Or.inl q1,Or.inl q2,q3.frame (hm.block _ q3.lt1 (λe=>aS (by rw[<-e];exact q1))) (hm.block _ q3.lt2 (λe=>aS (by rw[<-e];exact q2))) hY⟩
   ·simp only[List.mem_singleton]at hf;subst hf;refine⟨Or.inr (Or.inl rfl),Or.inr (Or.inr rfl),Rz.frame rfl rfl (jn λj e=> ?_)⟩;rcases e with e|e|e
    ·exact Or.inl e
    ·exact Or.inl (pG j e)
    ·exact Or.inr e
  ·rw[List.flatMap_append,List.nodup_append];refine⟨h.apart,by simpa using Ho,?_⟩;intro x hx y hy RJ;obtain⟨f,hf,hxf⟩:=List.mem_flatMap.1 hx;obtain⟨q1,q2,q3⟩:=h.ok f hf;have RQ:x<w.heap.size:=by
    simp only[List.mem_cons,List.not_mem_nil,or_false]at hxf;rcases hxf with rfl|rfl
    ·exact q3.lt1
    ·exact q3.lt2
   simp only[List.flatMap_cons,List.flatMap_nil,List.append_nil,List.mem_cons,List.not_mem_nil,or_false]at hy;rcases hy with rfl|rfl<;>omega
  ·intro x hx;rw[List.flatMap_append]at hx;rcases List.mem_append.1 hx with hx|hx
   ·exact Or.inl hx
   ·simp only[List.flatMap_cons,List.flatMap_nil,List.append_nil,List.mem_cons,List.not_mem_nil,or_false]at hx;rcases hx with rfl|rfl
    ·exact Or.inr Pb
    ·exact Or.inr L9
  ·intro c;have h0:yz es b=[]:=by
    unfold yz;have:es.find? (λe=>e.1=b)=none:=by rw[List.find?_eq_none];intro f hf;simp only[decide_eq_true_eq];exact λe=>hb ⟨f,hf,e⟩
    rw[this];rfl
   unfold yz;rw[List.find?_append];by_cases hc:c=b
   ·subst hc;have:es.find? (λe=>e.1=c)=none:=by
     rw[List.find?_eq_none];intro f hf;simp only[decide_eq_true_eq];exact λe=>hb ⟨f,hf,e⟩
    simp[this]
   ·have: ¬b=c:=λe=>hc e.symm;simp[hc,this]
theorem zQ.lt{w:World}{m:Nat}{es:List (zF×(Nat×Nat×List Bytes))}(h:zQ r w F m es):∀e∈es,e.2.1<w.heap.size/\e.2.2.1<w.heap.size:=λe he=>⟨(h.ok e he).2.2.lt1,(h.ok e he).2.2.lt2⟩
variable{r':Rd}{w':World}
theorem zQ.mod{w:World}{T:Nat->Prop}{m:Nat}{es:List (zF×(Nat×Nat×List Bytes))}(h:zQ r w F m es)(hT:zq T w w')(hm: ¬T m)(hF:∀b,F b->¬T b)(hr:r.le r'):zQ r' w' F m es:=
 ⟨h.map.frame (hT.block _ h.map.lt hm),λe he=>⟨(h.ok e he).1,(h.ok e he).2.1,(h.ok e he).2.2.frame (hT.block _ (h.lt e he).1 (hF _ (h.ok e he).1)) (hT.block _ (h.lt e he).2 (hF _ (h.ok e he).2.1)) hr⟩,h.apart⟩
variable{sq:List (zF×Value)}
theorem zaY{w:World}{m sm:Nat}{es:List (zF×(Nat×Nat×List Bytes))}{b:zF}{k v:Bytes}(hS:∀j,S j->j<w.heap.size)(cE:S m)(L_:S sm)(pG:∀j,F j->S j)
  (aS: ¬F m)(hFs: ¬F sm)(Ho:sm≠m)(h3:w.cell? ⟨t,3,none⟩=some (.map (some m)))(h4:w.cell? ⟨t,4,none⟩=some (.map (some sm)))(h:zQ (im S w) w F m es)(hq:zD kY w sm sq)(MO:sq.length<=1000)
  (BO:t≠sm)(hu:(yz es b).length+1<512)(Hx:es.length<=1000)(hk:Bs (im S w) k kv)(hv:Bs (im S w) v vv):
  Calls prog 340 #[.pointer (some ⟨t,3,none⟩),b.val,kv,vv] w λe w'=>∃F' es',e=.returned (.tuple #[])/\zq (λj=>j=m\/j=sm\/F j) w w'/\(∀j,F j->F' j)/\(∀j,F' j->F j\/w.heap.size<=j/\j<w'.heap.size)/\
   zQ (im (λj=>S j\/F' j) w') w' F' m es'/\es'.length<=es.length+1/\(∀x∈es'.flatMap (λe=>[e.2.1,e.2.2.1]),x∈es.flatMap (λe=>[e.2.1,e.2.2.1])\/w.heap.size<=x)/\(∀c,yz es' c=yz es c++if c=b then [k]else [])/\zD kY w' sm (xu sq b (.bool false)):=by
 have Hb:t<w.heap.size:=World.block_lt_of_cell? w _ h3;have HD:zq (λ_=>False) w ((w.alloc (.cells #[.int .i64 b.num,.string ⟨b.name.toArray⟩,.bool false] 428)).drew):=((za.refl w).alloc _).drew;obtain⟨w2,pi,RZ,Pg⟩:=zD.put (P:=prog) (t:=286) (e:=4) Zd (by kernel_rfl)
  (hq.frame (w':=(w.alloc (.cells #[.int .i64 b.num,.string ⟨b.name.toArray⟩,.bool false] 428)).drew) (Below.heap_alloc _ _ _ hq.lt)) (by simp only[maxLen];omega) b (.bool false)
 have BP:zq (· =sm) w w2:=zq.trans (za.mod HD _) Pg λ_ _ h=>h;have hY:(im S w).le (im S w2):=(BP.mono (S':=S) λ_ _ e=>by rw[e];exact L_).im λ_ _ h=>h;have wf:=dO (w:=w2) (t:=t) (b:=b) (λj e=>Nat.lt_of_lt_of_le (hS j e) BP.size) cE pG aS (BP.cell (λe=>BO e) h3) (h.mod BP (λe=>Ho e.symm) (λj e e2=>hFs (by rw[<-e2];exact e)) hY) hu Hx (hk.mono hY) (hv.mono hY);obtain⟨kp,kn,kc,rfl,_⟩:=hk.shape;obtain⟨vp,vn,vc,rfl,_⟩:=hv.shape;have Ih:=hid wf;clear wf;have mC:=hid BP;clear BP;have L8:=hid RZ;clear RZ;have CX:=hid Pg;clear Pg;have HS:=hid hS;clear hS;have Sb:=hid pG;clear pG;have HH:=hid h;clear h;have heC:=hq.lt;clear hq hk hv HD hY;revert Ih;unfold zF.val;have NU:=xi b;have Hm:=QM b.raw;generalize zF.raw b=raw at*
 intro Ih;go_enter func340,ntmps340;go_wp2;go_region_with (go_at_call 298;refine(NU _).mono ?_;rintro e w1 ⟨rfl,rfl⟩)
 all_goals
  go_wp2_with fail;refine Ih.out.mono ?_;rintro e w4 ⟨F',es',rfl,pP,NV,MP,rO,h_,cG,RA⟩;have T7:=hid pP;clear pP;have CY:=hid NV;clear NV;have CZ:=hid MP;clear MP;have Lz:=hid rO;clear rO;have Pm:=hid RA;clear RA;have Ii:=hid cG;clear cG;go_wp2;go_end0;have h2s:w.heap.size<=w2.heap.size:=mC.out.size;refine⟨F',es',rfl,zq.trans (mC.out.mono λ_ _ e=>Or.inr (Or.inl e)) T7.out (λj _ e=>by rcases e with e|e;exact Or.inl e;exact Or.inr (Or.inr e)),CY.out,λj e=> ?_,Lz.out,h_,(λx hx=>by rcases Ii.out x hx with e|e;exact Or.inl e;exact Or.inr (by omega)),Pm.out,L8.out.frame (T7.out.block _ (by omega) (λe=> ?_))⟩
  ·rcases CZ.out j e with e|⟨e1,e2⟩
   ·exact Or.inl e
   ·exact Or.inr ⟨by omega,e2⟩
  ·rcases e with e|e
   ·exact Ho e
   ·exact hFs e
theorem za.undrew{w:World}(h:za w.drew w'):za w w':=⟨h.os,h.tape,h.output,h.size,h.block⟩
theorem vy(raw:Value)(W:World):(method 608 428 raw "Name").run prog W=.ok (300,raw) W:=by kernel_rfl
variable{bk j tx:Nat}{nm:Bytes}{nv:Value}{ps:yr}{wt:Bool}
theorem kr.upd{w:World}{db:Nat}{bs:List (Nat×zZ)}(h:kr (im S w) w F tx db wt bs)(pG:∀b,F b->S b){ps':yr}(hj:bs[j]? =some (bk,(nm,ps)))
  (hm:zq (· =bk) w w'){pv' fp:Value}(hb:w'.heap[bk]? =some (.cells #[ptr tx,nv,pv',fp] 328 (0,0)))(hn:Bs (im S w) nm nv)(hp:yR (im S w') ps' pv'):kr (im S w') w' F tx db wt (bs.set j (bk,(nm,ps'))):=by
 have Hf:(bk,(nm,ps))∈bs:=List.mem_of_getElem? hj;have rC:=(List.getElem?_eq_some_iff.1 hj).1;obtain⟨⟨lv,h1,h2,h3⟩,h4,h5,h6⟩:=h;obtain⟨sf,nv0,pv0,fp0,g1,g2,g3⟩:=h5 _ Hf;have Pd:tx≠bk:=λe=>by rw[<-e,h1]at g1;simp at g1
 have hY:(im S w).le (im S w'):=(hm.mono (S':=S) λ_ _ e=>by rw[e];exact pG _ sf).im λ_ _ h=>h;have cH:(bs.set j (bk,(nm,ps'))).map (λb=>b.1)=bs.map (λb=>b.1):=by
  rw[List.map_set];have aT:(bs.map (λb=>b.1))[j]? =some bk:=by rw[List.getElem?_map,hj];rfl
  apply List.ext_getElem?;intro i;rw[List.getElem?_set];split
  ·rename_i e;subst e;rw[if_pos (by simpa using rC),aT]
  ·rfl
 have CQ:∀b,lv.ownBlock=some b->b≠bk:=λb hb e=>by
  rcases h2.2 with⟨rfl,_⟩|⟨g',cap,cur,rfl,_,cA,_⟩
  ·simp[Value.ownBlock]at hb
  ·simp[Value.ownBlock]at hb;subst hb;subst e;rw[g1]at cA;simp at cA
 refine⟨⟨lv,(hm.block _ (Array.getElem?_eq_some_iff.1 h1).1 Pd).trans h1,?_,h3⟩,h4,λb Ry=> ?_,by rw[cH];exact h6⟩
 ·have e:(bs.set j (bk,(nm,ps'))).map (λb=>ptr b.1)=bs.map (λb=>ptr b.1):=by
   have:=congrArg (List.map ptr) cH;rw[List.map_map,List.map_map]at this;exact this
  rw[e,List.length_set];exact zS h2 λb Ry=>hm.block _ (World.ownsRow.lt h2 b Ry).2 (CQ b Ry)
 ·rcases List.mem_or_eq_of_mem_set Ry with pw|rfl
  ·by_cases e:b.1=bk
   ·
    obtain⟨i,hi⟩:=List.getElem?_of_mem Ry;rw[List.getElem?_set]at hi;split at hi
    ·rename_i e2;subst e2;cases hi;exact⟨sf,nv,pv',fp,hb,hn.mono hY,hp⟩
    ·rename_i e2;have g1':(bs.map (λb=>b.1))[i]? =some bk:=by rw[List.getElem?_map,hi];simp[e]
     have g2':(bs.map (λb=>b.1))[j]? =some bk:=by rw[List.getElem?_map,hj];rfl
     exact absurd ((List.getElem?_inj (by simpa using rC) h6).1 (g2'.trans g1'.symm)) e2
   ·obtain⟨q1,q2⟩:=h5 b pw;refine⟨q1,q2.frame (hm.block _ ?_ e) hY⟩;obtain⟨_,_,_,q3,_⟩:=q2;exact(Array.getElem?_eq_some_iff.1 q3).1
  ·exact⟨sf,nv,pv',fp,hb,hn.mono hY,hp⟩
def qU(w:World)(t wtx be pend m sm pdel:Nat):Prop:=w.heap[t]? =some (.cells #[ptr wtx,ptr be,.int .i64 pend,.map (some m),.map (some sm),.int .i64 pdel] 290 (0,0))
variable{be pdel pend wtx:Nat}
theorem X9{w:World}{m sm db:Nat}{b:zF}{bs:List (Nat×zZ)}{k v:Bytes}(hS:∀b,S b->b<w.heap.size)(pG:∀b,F b->S b)(SE:S t)(TM: ¬F t)
  (Pd:qU w t wtx be pend m sm pdel)(h:kr (im S w) w F wtx db true bs)(hj:bs[j]? =some (bk,(b.name,ps)))(pS:zk (zG bs) b.name=j)(RI:zx (zG bs) b.name=true)
  (rJ:zM (zJ ps))(Hx:ps.length<=1000000)(pN:pend<=1000000)(hk:Bs (im S w) k kv)(hv:Bs (im S w) v vv)(tP:k≠[])(pE:k.length<=1000000)(nX:v.length<=100000000):
  Calls prog 342 #[ptr t,b.val,kv,vv,.bool false] w λe w'=>e=.returned (.tuple #[])/\zq (λj=>j=t\/F j) w w'/\qU w' t wtx be (pend+1) m sm pdel/\
   kr (im S w') w' F wtx db true (bs.set j (bk,(b.name,yh ps k v))):=by
 have rC:=(List.getElem?_eq_some_iff.1 hj).1;have Th:=(List.getElem?_eq_some_iff.1 hj).2;obtain⟨sf,nv,pv,fp,g1,g2,g3⟩:=h.hb _ (List.mem_of_getElem? hj);obtain⟨lv,hx,_⟩:=h.htx;have c0:w.cell? ⟨t,0,none⟩=some (ptr wtx):=by rw[cell_of_row w t 0 _ _ (0,0) Pd];rfl
 have C0:bk≠t:=λe=>TM (by rw[<-e];exact sf);have Ti:=jP b;have Hm:=vy b.raw;have Hv:∀w1,za w w1->∀xv,Bs w1.cell? b.name xv->(∀q,xv.ownBlock=some q->w.heap.size<=q)->
   Calls prog 319 #[ptr wtx,xv] w1 λe w'=>e=.returned (ptr bk)/\w1=w':=by
  intro w1 hQ xv wi Pw;have hr:(im S w).le (im S w1):=za.im hQ S;have sU:kr (im S w1) w1 F wtx db true bs:=h.frame (λq hq=>hQ.block q (hS q (pG q hq)) (λe=>e)) hr;have pB:Bs (im S w1) b.name xv:=Bs.im_of (S:=S) (w:=w1) wi λq hq e=>by have:=Pw q hq;have:=hS q e;omega
  have:=Zc sU (zd _ _) pB rC pS RI;rw[Th]at this;exact this
 have pj:=hid Hv;clear Hv;have pi:∀w1,za w w1->Calls prog 344 #[ptr bk,kv,vv] w1 λe w2=>e=.returned .nilIface/\zq (λj=>j=t\/F j) w w2/\w2.heap[t]? =w.heap[t]? /\kr (im S w2) w2 F wtx db true (bs.set j (bk,(b.name,yh ps k v))):=by intro w1 hQ;have hr:(im S w).le (im S w1):=za.im hQ S;have pB:=hQ.heap hx;have sU:kr (im S w1) w1 F wtx db true bs:=h.frame (λq hq=>hQ.block q (hS q (pG q hq)) (λe=>e)) hr;refine(fU (S:=S) (w:=w1) 328 (λq e=>Nat.lt_of_lt_of_le (hS q e) hQ.size) (pG _ sf) (g3.mono hr) rJ Hx (hQ.heap g1) (by rw[cell_of_row w1 wtx 1 _ _ (0,0) pB];rfl) (hk.mono hr) (hv.mono hr) tP pE nX).mono ?_;rintro e w2 ⟨rfl,pv',Ry,C5,mD⟩;have Hq:zq (· =bk) w w2:=zq.trans (za.mod hQ _) C5 λ_ _ h=>h;refine⟨rfl,Hq.mono λq _ e=>Or.inr (by rw[e];exact sf),Hq.block t (World.block_lt_of_cell? w _ c0) (λe=>C0 e.symm),?_⟩;exact sU.upd pG hj C5 Ry (g2.mono hr) mD
 have rK:=hid pi;clear pi;obtain⟨kp,kn,kc,rfl,_⟩:=hk.shape;obtain⟨vp,vn,vc,rfl,_⟩:=hv.shape;have aU:=hid Pd;clear Pd;have ht:=World.block_lt_of_cell? w _ c0;clear hk hv h g1 g2 g3 hx rJ Hx Th hj;unfold zF.val;generalize zF.raw b=raw at*
 go_enter func342,ntmps342;go_wp2;go_region_with (first|(go_at_call 300;refine(Ti _).mono ?_;rintro e w1 ⟨xv,rfl,hQ,pB,rz⟩;have d0:w1.cell? ⟨t,0,none⟩=some (ptr wtx):=hQ.le _ _ c0;obtain⟨xp,xn,xc,rfl,_⟩:=pB.shape;have SF:=hid pB;have SA:=hid rz;have Hs:=hid (za.undrew hQ);clear pB rz hQ)|(go_at_call 319;refine(pj.out _ Hs.out _ SF.out SA.out).mono ?_;rintro e w2 ⟨rfl,rfl⟩))
 all_goals
  go_wp2_with fail;refine(rK.out _ Hs.out).mono ?_;rintro e w2 ⟨rfl,Hq,SG,rU⟩;have pw:w2.heap[t]? =some (.cells #[ptr wtx,ptr be,.int .i64 pend,.map (some m),.map (some sm),.int .i64 pdel] 290 (0,0)):=SG.trans aU.out;have q2:w2.cell? ⟨t,2,none⟩=some (.int .i64 pend):=by rw[cell_of_row w2 t 2 _ _ (0,0) pw];rfl
  have f2:w2.frozen? ⟨t,2,none⟩=false:=by simp[World.frozen?,pw]
  have mC:=hid Hq;clear Hq;have MQ:=hid rU;clear rU;have SB:=hid pw;clear pw;clear SG;go_wp2;go_end0;have aV:zq (· =t) w2 (w2.setCell ⟨t,2,none⟩ (.int .i64 ((pend:Int)+1))):=vx (S:=(· =t)) (zq.refl _ _) rfl _;refine⟨rfl,zq.trans mC.out aV (λ_ _ e=>Or.inl e),?_,?_⟩
  ·unfold qU;rw[heap_setCell_same w2 t 2 _ _ _ SB.out];rfl
  ·exact MQ.out.frame (λq hq=>Below.heap_setCell _ _ _ _ (λe=>TM (by subst e;exact hq))) ((aV.mono (S':=S) λ_ _ e=>by rw[e];exact SE).im λ_ _ h=>h)
theorem GK{w:World}{m sm db:Nat}{b:zF}{bs:List (Nat×zZ)}{k:Bytes}(hS:∀b,S b->b<w.heap.size)(pG:∀b,F b->S b)(SE:S t)(TM: ¬F t)
  (Pd:qU w t wtx be pend m sm pdel)(h:kr (im S w) w F wtx db true bs)(hj:bs[j]? =some (bk,(b.name,ps)))(pS:zk (zG bs) b.name=j)(RI:zx (zG bs) b.name=true)
  (rJ:zM (zJ ps))(Hx:ps.length<=1000000)(pN:pend<=1000000)(hk:Bs (im S w) k kv):
  Calls prog 338 #[ptr t,b.val,kv] w λe w'=>e=.returned (.tuple #[])/\zq (λj=>j=t\/F j) w w'/\qU w' t wtx be (pend+1) m sm pdel/\
   kr (im S w') w' F wtx db true (bs.set j (bk,(b.name,jp ps k))):=by
 have rC:=(List.getElem?_eq_some_iff.1 hj).1;have Th:=(List.getElem?_eq_some_iff.1 hj).2;obtain⟨sf,nv,pv,fp,g1,g2,g3⟩:=h.hb _ (List.mem_of_getElem? hj);obtain⟨lv,hx,_⟩:=h.htx;have c0:w.cell? ⟨t,0,none⟩=some (ptr wtx):=by rw[cell_of_row w t 0 _ _ (0,0) Pd];rfl
 have C0:bk≠t:=λe=>TM (by rw[<-e];exact sf);have Ti:=jP b;have Hm:=vy b.raw;have Hv:∀w1,za w w1->∀xv,Bs w1.cell? b.name xv->(∀q,xv.ownBlock=some q->w.heap.size<=q)->
   Calls prog 319 #[ptr wtx,xv] w1 λe w'=>e=.returned (ptr bk)/\w1=w':=by
  intro w1 hQ xv wi Pw;have hr:(im S w).le (im S w1):=za.im hQ S;have sU:kr (im S w1) w1 F wtx db true bs:=h.frame (λq hq=>hQ.block q (hS q (pG q hq)) (λe=>e)) hr;have pB:Bs (im S w1) b.name xv:=Bs.im_of (S:=S) (w:=w1) wi λq hq e=>by have:=Pw q hq;have:=hS q e;omega
  have:=Zc sU (zd _ _) pB rC pS RI;rw[Th]at this;exact this
 have pj:=hid Hv;clear Hv;have pi:∀w1,za w w1->Calls prog 341 #[ptr bk,kv] w1 λe w2=>e=.returned .nilIface/\zq (λj=>j=t\/F j) w w2/\w2.heap[t]? =w.heap[t]? /\kr (im S w2) w2 F wtx db true (bs.set j (bk,(b.name,jp ps k))):=by intro w1 hQ;have hr:(im S w).le (im S w1):=za.im hQ S;have pB:=hQ.heap hx;have sU:kr (im S w1) w1 F wtx db true bs:=h.frame (λq hq=>hQ.block q (hS q (pG q hq)) (λe=>e)) hr;refine(VW (S:=S) (w:=w1) 328 (λq e=>Nat.lt_of_lt_of_le (hS q e) hQ.size) (pG _ sf) (g3.mono hr) rJ Hx (hQ.heap g1) (by rw[cell_of_row w1 wtx 1 _ _ (0,0) pB];rfl) (hk.mono hr)).mono ?_;rintro e w2 ⟨rfl,pv',Ry,C5,mD⟩;have Hq:zq (· =bk) w w2:=zq.trans (za.mod hQ _) C5 λ_ _ h=>h;refine⟨rfl,Hq.mono λq _ e=>Or.inr (by rw[e];exact sf),Hq.block t (World.block_lt_of_cell? w _ c0) (λe=>C0 e.symm),?_⟩;exact sU.upd pG hj C5 Ry (g2.mono hr) mD
 have rK:=hid pi;clear pi;obtain⟨kp,kn,kc,rfl,_⟩:=hk.shape;have aU:=hid Pd;clear Pd;have ht:=World.block_lt_of_cell? w _ c0;clear hk h g1 g2 g3 hx rJ Hx Th hj;unfold zF.val;generalize zF.raw b=raw at*
 go_enter func338,ntmps338;go_wp2;go_region_with (first|(go_at_call 300;refine(Ti _).mono ?_;rintro e w1 ⟨xv,rfl,hQ,pB,rz⟩;have d0:w1.cell? ⟨t,0,none⟩=some (ptr wtx):=hQ.le _ _ c0;obtain⟨xp,xn,xc,rfl,_⟩:=pB.shape;have SF:=hid pB;have SA:=hid rz;have Hs:=hid (za.undrew hQ);clear pB rz hQ)|(go_at_call 319;refine(pj.out _ Hs.out _ SF.out SA.out).mono ?_;rintro e w2 ⟨rfl,rfl⟩))
 all_goals
  go_wp2_with fail;refine(rK.out _ Hs.out).mono ?_;rintro e w2 ⟨rfl,Hq,SG,rU⟩;have pw:w2.heap[t]? =some (.cells #[ptr wtx,ptr be,.int .i64 pend,.map (some m),.map (some sm),.int .i64 pdel] 290 (0,0)):=SG.trans aU.out;have q2:w2.cell? ⟨t,2,none⟩=some (.int .i64 pend):=by rw[cell_of_row w2 t 2 _ _ (0,0) pw];rfl
  have f2:w2.frozen? ⟨t,2,none⟩=false:=by simp[World.frozen?,pw]
  have mC:=hid Hq;clear Hq;have MQ:=hid rU;clear rU;have SB:=hid pw;clear pw;clear SG;go_wp2;go_end0;have aV:zq (· =t) w2 (w2.setCell ⟨t,2,none⟩ (.int .i64 ((pend:Int)+1))):=vx (S:=(· =t)) (zq.refl _ _) rfl _;refine⟨rfl,zq.trans mC.out aV (λ_ _ e=>Or.inl e),?_,?_⟩
  ·unfold qU;rw[heap_setCell_same w2 t 2 _ _ _ SB.out];rfl
  ·exact MQ.out.frame (λq hq=>Below.heap_setCell _ _ _ _ (λe=>TM (by subst e;exact hq))) ((aV.mono (S':=S) λ_ _ e=>by rw[e];exact SE).im λ_ _ h=>h)
structure zN where
 be:Nat
 t:Nat
 rt:Nat
 db:Nat
 wtx:Nat
 rtx:Nat
 m:Nat
 sm:Nat
 m4:Nat
 cm:Nat
abbrev zu:=Nat->Nat
def zu.some(l:zu):Nat->Prop:=λb=>l b≠0
def zu.is(l:zu)(n:Nat):Nat->Prop:=λb=>l b=n
def zu.own(l:zu):Nat->Prop:=λb=>l b≠0/\l b<=11
structure zB(l:zu)(w:World)(l':zu)(w':World):Prop where
 mod:zq l.own w w'
 old:∀b,b<w.heap.size->l' b=l b
 new:∀b,w.heap.size<=b->l' b<=11
 bnd:∀b,l' b≠0->b<w'.heap.size
variable{l l':zu}
theorem zB.le{w:World}(h:zB l w l' w'):(im l.some w).le (im l'.some w'):=
 (h.mod.mono (S':=l.some) λ_ _ e=>e.1).im λb hb e=>by show l b≠0;rw[<-h.old b hb];exact e
theorem zB.size{w:World}(h:zB l w l' w'):w.heap.size<=w'.heap.size:=h.mod.size
variable{w'':World}
theorem zB.trans{l'':zu}{w:World}(h:zB l w l' w')(k:zB l' w' l'' w''):zB l w l'' w'' where
 mod:=h.mod.trans k.mod λb hb e=>by
  unfold zu.own at*
  rw[h.old b hb]at e;exact e
 old b hb:=by rw[k.old b (Nat.lt_of_lt_of_le hb h.size),h.old b hb]
 new b hb:=by
  by_cases Hb:b<w'.heap.size
  ·rw[k.old b Hb];exact h.new b hb
  ·exact k.new b (by omega)
 bnd:=k.bnd
theorem zB.refl{w:World}(h:∀b,l b≠0->b<w.heap.size):zB l w l w where
 mod:=zq.refl _ _
 old _ _:=rfl
 new b hb:=by
  by_cases e:l b=0
  ·omega
  ·have:=h b e;omega
 bnd:=h
theorem zB.ofNew{w:World}(h:∀b,l b≠0->b<w.heap.size)(hn:za w w'):zB l w l w' where
 mod:=hn.mod _
 old _ _:=rfl
 new b hb:=by
  by_cases e:l b=0
  ·omega
  ·have:=h b e;omega
 bnd b e:=Nat.lt_of_lt_of_le (h b e) hn.size
noncomputable def zu.add(l:zu)(F:Nat->Prop)(n:Nat):zu:=λb=>by classical exact if F b/\l b=0 then n else l b
variable{b n:Nat}
theorem zu.add_pos(h:F b)(h0:l b=0):l.add F n b=n:=by classical simp[zu.add,h,h0]
theorem zu.add_neg(h: ¬F b):l.add F n b=l b:=by classical simp[zu.add,h]
theorem zu.add_old(h:l b≠0):l.add F n b=l b:=by classical simp[zu.add,h]
abbrev zY:=List (zF×(Nat×Nat×List Bytes))
structure jX(l:zu)(w:World)(I:zN)(C:List zZ)(wb rb:List (Nat×zZ))(pend pdel:Nat)(e2 e4:zY):Prop where
 bnd:∀b,l b≠0->b<w.heap.size
 lab:l I.be=1/\l I.t=2/\l I.rt=3/\l I.db=4/\l I.m=5/\l I.sm=6/\l I.m4=7/\l I.cm=8
 be:∃n,w.heap[I.be]? =some (.cells #[.int .i64 n,ptr I.db,.int .i64 1000,ptr I.t,ptr I.rt,.pointer none,.int .u64 0,.nilIface,.nilFunc,.pointer none] 261 (0,0))
 bt:qU w I.t I.wtx I.be pend I.m I.sm pdel
 rt:∃(n:Int) (mu wg:Nat),w.heap[I.rt]? =some (.cells #[.map (some I.m4),.int .u64 n,ptr mu,ptr I.rtx,.map (some I.cm),ptr wg] 252 (0,0))
 db:∃dv,w.heap[I.db]? =some (.cells #[dv] 79 (0,0))/\jN (im l.some w) C dv
 wtx:kr (im l.some w) w (l.is 9) I.wtx I.db true wb
 rtx:kr (im l.some w) w (l.is 10) I.rtx I.db false rb
 buf2:zQ (im l.some w) w (l.is 11) I.m e2
 buf4:zQ (im l.some w) w (l.is 11) I.m4 e4
 apart:((e2++e4).flatMap λe=>[e.2.1,e.2.2.1]).Nodup
 sq:∃sq,zD kY w I.sm sq/\∀e∈sq,∃b,e.2=.bool b
 cm:∃cs:List (zF×Value),zD kY w I.cm cs/\∀c∈cs,∃x∈rb,x.2.1=c.1.name/\c.2=ptr x.1
variable{C:List zZ}{e2 e4:zY}{rb wb:List (Nat×zZ)}
theorem jX.frame{w:World}{I:zN}(h:jX l w I C wb rb pend pdel e2 e4)(hb:∀b,l' b≠0->b<w'.heap.size)
  (hl:∀b,l.own b->l' b=l b/\w'.heap[b]? =w.heap[b]?)(hr:(im l.some w).le (im l'.some w')):jX l' w' I C wb rb pend pdel e2 e4:=by
 obtain⟨h1,⟨l1,l2,l3,l4,l5,l6,l7,l8⟩,⟨nb,h3⟩,h4,⟨nr,mu,wg,h5⟩,⟨dv,h6,h7⟩,h8,h9,Tj,sg,Tk,⟨sq,tB,sh⟩,⟨cs,NW,LA⟩⟩:=h;have own:∀{b n},l b=n->n≠0->n<=11->l.own b:=λe h0 h1=>⟨by rw[e];exact h0,by rw[e];exact h1⟩;have o1:=hl _ (own l1 (by decide) (by decide));have o2:=hl _ (own l2 (by decide) (by decide));have o3:=hl _ (own l3 (by decide) (by decide));have o4:=hl _ (own l4 (by decide) (by decide));have o5:=hl _ (own l5 (by decide) (by decide));have o6:=hl _ (own l6 (by decide) (by decide));have o7:=hl _ (own l7 (by decide) (by decide));have o8:=hl _ (own l8 (by decide) (by decide));have f9:∀n,n≠0->n<=11->∀b,l.is n b->w'.heap[b]? =w.heap[b]? :=λn h0 h1 b e=>(hl b (own e h0 h1)).2;have g9:∀n,n≠0->n<=11->∀b,l.is n b->l'.is n b:=λn h0 h1 b e=>(hl b (own e h0 h1)).1.trans e
 refine⟨hb,⟨o1.1.trans l1,o2.1.trans l2,o3.1.trans l3,o4.1.trans l4,o5.1.trans l5,o6.1.trans l6,o7.1.trans l7,o8.1.trans l8⟩,⟨nb,o1.2.trans h3⟩,o2.2.trans h4,⟨nr,mu,wg,o3.2.trans h5⟩,⟨dv,o4.2.trans h6,h7.mono hr⟩,
  (h8.frame (f9 9 (by decide) (by decide)) hr).mono (g9 9 (by decide) (by decide)),(h9.frame (f9 10 (by decide) (by decide)) hr).mono (g9 10 (by decide) (by decide)),?_,?_,Tk,⟨sq,tB.frame o6.2,sh⟩,⟨cs,NW.frame o8.2,LA⟩⟩
 ·have:=Tj.frame (w':=w') o5.2 (f9 11 (by decide) (by decide)) hr;exact⟨this.map,λe he=>⟨g9 11 (by decide) (by decide) _ (this.ok e he).1,g9 11 (by decide) (by decide) _ (this.ok e he).2.1,(this.ok e he).2.2⟩,this.apart⟩
 ·have:=sg.frame (w':=w') o7.2 (f9 11 (by decide) (by decide)) hr;exact⟨this.map,λe he=>⟨g9 11 (by decide) (by decide) _ (this.ok e he).1,g9 11 (by decide) (by decide) _ (this.ok e he).2.1,(this.ok e he).2.2⟩,this.apart⟩
theorem Qf{F':Nat->Prop}(hn:n≠0):(l.add F' n).some=λj=>l.some j\/F' j:=by
 funext j
 apply propext;by_cases h:l j=0
 ·by_cases hF:F' j
  ·show(l.add F' n j≠0)↔(l j≠0\/F' j);rw[zu.add_pos hF h];simp[hn,hF]
  ·show(l.add F' n j≠0)↔(l j≠0\/F' j);rw[zu.add_neg hF];simp[hF]
 ·show(l.add F' n j≠0)↔(l j≠0\/F' j);rw[zu.add_old h];simp[h]
theorem X_:∀l:List zF,l.Nodup->l.length<=3
 |[],_=>by simp
 |[_],_=>by simp
 |[_,_],_=>by simp
 |[_,_,_],_=>by simp
 |a::b::c::d::r,h=>by exfalso;simp only[List.nodup_cons,List.mem_cons,not_or]at h;cases a<;>cases b<;>cases c<;>cases d<;>simp_all
abbrev zl(es:zY):List Nat:=es.flatMap λe=>[e.2.1,e.2.2.1]
variable{es:zY}
theorem qh{e:zF×(Nat×Nat×List Bytes)}(h:e∈es):e.2.1∈zl es/\e.2.2.1∈zl es:=⟨List.mem_flatMap.2 ⟨e,h,by simp⟩,List.mem_flatMap.2 ⟨e,h,by simp⟩⟩
theorem zQ.exact{w:World}{m:Nat}(h:zQ r w F m es):zQ r w (λx=>x∈zl es) m es:=
 ⟨h.map,λe he=>⟨(qh he).1,(qh he).2,(h.ok e he).2.2⟩,h.apart⟩
variable{x:Nat}
theorem zQ.blocks{w:World}{m:Nat}(h:zQ r w F m es)(hx:x∈zl es):F x/\x<w.heap.size:=by
 obtain⟨e,he,Ss⟩:=List.mem_flatMap.1 hx;simp only[List.mem_cons,List.not_mem_nil,or_false]at Ss;rcases Ss with rfl|rfl
 ·exact⟨(h.ok e he).1,(h.lt e he).1⟩
 ·exact⟨(h.ok e he).2.1,(h.lt e he).2⟩
variable{w1:World}
theorem zaZ{w:World}{I:zN}{wb':List (Nat×zZ)}(h:jX l w I C wb rb pend pdel e2 e4){b:zF}{k v:Bytes}
  (RA:(yz e2 b).length<=500)(hk:Bs (im l.some w) k kv)(hv:Bs (im l.some w) v vv)(Hl:zq (λj=>j=I.t\/l.is 9 j) w w1)(MR:qU w1 I.t I.wtx I.be (pend+1) I.m I.sm pdel)(mE:kr (im l.some w1) w1 (l.is 9) I.wtx I.db true wb'):
  Calls prog 340 #[.pointer (some ⟨I.t,3,none⟩),b.val,kv,vv] w1 λe w'=>∃l' e2',e=.returned (.tuple #[])/\zB l w l' w'/\(∀c,yz e2' c=yz e2 c++if c=b then [k]else [])/\
   jX l' w' I C wb' rb (pend+1) pdel e2' e4:=by
 obtain⟨Hr,⟨l1,l2,l3,l4,l5,l6,l7,l8⟩,⟨nb,h3⟩,_,⟨nr,mu,wg,h5⟩,⟨dv,h6,h7⟩,_,h9,Tj,sg,Tk,⟨sq,tB,sh⟩,⟨cs,NW,LA⟩⟩:=h;have aW:∀j,(j=I.t\/l.is 9 j)->l.some j:=λj e=>by
  rcases e with rfl|e
  ·show l _≠0;rw[l2];decide
  ·show l _≠0;rw[e];decide
 have sE:(im l.some w).le (im l.some w1):=(Hl.mono (S':=l.some) λj _ e=>aW j e).im λ_ _ h=>h;have nt:∀{j n},l j=n->n≠2->n≠9->¬(j=I.t\/l.is 9 j):=λ{j n} e h2 h9 e2=>by
  rcases e2 with e2|e2
  ·rw[e2,l2]at e;exact h2 e.symm
  ·unfold zu.is at e2;rw[e]at e2;exact h9 e2
 have pw:zQ (im l.some w1) w1 (λx=>x∈zl e2) I.m e2:=(Tj.exact).mod Hl (nt l5 (by decide) (by decide)) (λx hx=>nt (Tj.blocks hx).1 (by decide) (by decide)) sE;have aX:∀j,l.some j->j<w1.heap.size:=λj e=>Nat.lt_of_lt_of_le (Hr j e) Hl.size;have c3:w1.cell? ⟨I.t,3,none⟩=some (.map (some I.m)):=by rw[cell_of_row w1 I.t 3 _ _ (0,0) MR];rfl
 have c4:w1.cell? ⟨I.t,4,none⟩=some (.map (some I.sm)):=by rw[cell_of_row w1 I.t 4 _ _ (0,0) MR];rfl
 have wj:zD kY w1 I.sm sq:=tB.frame (Hl.block _ tB.lt (nt l6 (by decide) (by decide)));have MO:sq.length<=1000:=by have:=X_ _ tB.nodup;simp only[List.length_map]at this;omega
 have cI:e2.length<=1000:=by have:=X_ _ Tj.keys;simp only[List.length_map]at this;omega
 refine(zaY (S:=l.some) (F:=λx=>x∈zl e2) (w:=w1) (b:=b) aX (by show l _≠0;rw[l5];decide) (by show l _≠0;rw[l6];decide) (λx hx=>by show l x≠0;rw[(Tj.blocks hx).1];decide)
  (λhx=>by have:=(Tj.blocks hx).1;unfold zu.is at this;rw[l5]at this;cases this) (λhx=>by have:=(Tj.blocks hx).1;unfold zu.is at this;rw[l6]at this;cases this) (λe=>by rw[e,l5]at l6;cases l6) c3 c4 pw wj MO
  (λe=>by rw[e,l6]at l2;cases l2) (by omega) cI (hk.mono sE) (hv.mono sE)).mono ?_
 rintro e w2 ⟨F',es',rfl,Hq,NV,MP,rO,h_,cG,Ij,wk⟩;have nt2:∀{j n},l j=n->n≠5->n≠6->j∉zl e2->¬(j=I.m\/j=I.sm\/j∈zl e2):=λ{j n} e h5 h6 sg e2=>by
  rcases e2 with e2|e2|e2
  ·rw[e2,l5]at e;exact h5 e.symm
  ·rw[e2,l6]at e;exact h6 e.symm
  ·exact sg e2
 have nb2:∀{j n},l j=n->n≠11->j∉zl e2:=λ{j n} e sg hx=>by have:=(Tj.blocks hx).1;unfold zu.is at this;rw[e]at this;exact sg this
 have S5:∀j,(j=I.m\/j=I.sm\/j∈zl e2)->l.own j:=λj e=>by
  rcases e with rfl|rfl|e
  ·exact⟨by rw[l5];decide,by rw[l5];decide⟩
  ·exact⟨by rw[l6];decide,by rw[l6];decide⟩
  ·have:=(Tj.blocks e).1;unfold zu.is at this;exact⟨by rw[this];decide,by rw[this];decide⟩
 have rQ:∀j,(j=I.t\/l.is 9 j)->l.own j:=λj e=>by
  rcases e with rfl|e
  ·exact⟨by rw[l2];decide,by rw[l2];decide⟩
  ·unfold zu.is at e;exact⟨by rw[e];decide,by rw[e];decide⟩
 have Pg:zq l.own w w2:=(Hl.mono λj _ e=>rQ j e).trans (Hq.mono λj _ e=>S5 j e) λ_ _ e=>e;have sf:∀j,F' j->(l.is 11 j)\/w1.heap.size<=j/\j<w2.heap.size:=λj e=>by
  rcases MP j e with e|e
  ·exact Or.inl (Tj.blocks e).1
  ·exact Or.inr e
 have tC:(im l.some w1).le (im (l.add F' 11).some w2):=by
  rw[Qf (by decide)];refine(Hq.mono (S':=l.some) λj _ e=>(S5 j e).1).im λj hj e=> ?_;rcases e with e|e
  ·exact e
  ·rcases sf j e with e|e
   ·show l j≠0;rw[e];decide
   ·omega
 have hY:(im l.some w).le (im (l.add F' 11).some w2):=sE.le_trans tC;have Pp:∀{j n},l j=n->n≠0->(l.add F' 11) j=n:=λ{j n} e h0=>by rw[zu.add_old (by rw[e];exact h0)];exact e
 have same:∀{j n},l j=n->j<w.heap.size->n≠2->n≠9->n≠5->n≠6->j∉zl e2->w2.heap[j]? =w.heap[j]? :=λ{j n} e hj h2 h9 h5 h6 sg=>
  (Hq.block j (Nat.lt_of_lt_of_le hj Hl.size) (nt2 e h5 h6 sg)).trans (Hl.block j hj (nt e h2 h9))
 have same1:∀{j n},l j=n->j<w1.heap.size->n≠5->n≠6->n≠11->w2.heap[j]? =w1.heap[j]? :=λ{j n} e hj h5 h6 sg=>
  Hq.block j hj (nt2 e h5 h6 (nb2 e sg))
 have bnd:=λ{j n} (e:l j=n) (h0:n≠0)=>Hr j (by rw[e];exact h0);have cJ:∀j,(l.add F' 11) j≠0->j<w2.heap.size:=λj e=>by
  by_cases h0:l j=0
  ·by_cases hF:F' j
   ·rcases sf j hF with e2|e2
    ·unfold zu.is at e2;rw[h0]at e2;cases e2
    ·exact e2.2
   ·rw[zu.add_neg hF]at e;exact absurd h0 e
  ·exact Nat.lt_of_lt_of_le (Hr j h0) Pg.size
 refine⟨l.add F' 11,es',rfl,⟨Pg,λj hj=> ?_,λj hj=> ?_,?_⟩,Ij,⟨?_,⟨Pp l1 (by decide),Pp l2 (by decide),Pp l3 (by decide),Pp l4 (by decide),Pp l5 (by decide),Pp l6 (by decide),Pp l7 (by decide),Pp l8 (by decide)⟩,⟨nb,?_⟩,?_,⟨nr,mu,wg,?_⟩,⟨dv,?_,h7.mono hY⟩,?_,?_,?_,?_,?_,⟨_,wk,λe he=> ?_⟩,⟨cs,?_,LA⟩⟩⟩
 ·by_cases hF:F' j
  ·rcases sf j hF with e|e
   ·rw[zu.add_old (by rw[e];decide)]
   ·have:=Hl.size;omega
  ·exact zu.add_neg hF
 ·by_cases hF:F' j
  ·have h0:l j=0:=by
    by_cases e:l j=0
    ·exact e
    ·have:=Hr j e;omega
   rw[zu.add_pos hF h0];decide
  ·rw[zu.add_neg hF];by_cases e:l j=0
   ·omega
   ·have:=Hr j e;omega
 ·exact cJ
 ·exact cJ
 ·rw[same l1 (bnd l1 (by decide)) (by decide) (by decide) (by decide) (by decide) (nb2 l1 (by decide))];exact h3
 ·show w2.heap[I.t]? =_;rw[same1 l2 (Nat.lt_of_lt_of_le (bnd l2 (by decide)) Hl.size) (by decide) (by decide) (by decide)];exact MR
 ·rw[same l3 (bnd l3 (by decide)) (by decide) (by decide) (by decide) (by decide) (nb2 l3 (by decide))];exact h5
 ·rw[same l4 (bnd l4 (by decide)) (by decide) (by decide) (by decide) (by decide) (nb2 l4 (by decide))];exact h6
 ·exact(mE.frame (λj e=>same1 e (Nat.lt_of_lt_of_le (bnd e (by decide)) Hl.size) (by decide) (by decide) (by decide)) tC).mono λj e=>Pp e (by decide)
 ·exact(h9.frame (λj e=>same e (bnd e (by decide)) (by decide) (by decide) (by decide) (by decide) (nb2 e (by decide))) hY).mono λj e=>Pp e (by decide)
 ·have aY:∀j,F' j->(l.add F' 11).is 11 j:=λj e=>by
   by_cases h0:l j=0
   ·exact zu.add_pos e h0
   ·show l.add F' 11 j=11;rw[zu.add_old h0];rcases sf j e with e|e
    ·exact e
    ·have:=Hr j h0;have:=Hl.size;omega
  rw[Qf (by decide)];exact⟨rO.map,λe he=>⟨aY _ (rO.ok e he).1,aY _ (rO.ok e he).2.1,(rO.ok e he).2.2⟩,rO.apart⟩
 ·have C6:∀x,x∈zl e4->x∉zl e2:=λx hx rU=>by
   rw[List.flatMap_append,List.nodup_append]at Tk;exact Tk.2.2 x rU x hx rfl
  have:=(sg.exact).frame (r':=im (l.add F' 11).some w2) (w':=w2) (same l7 (bnd l7 (by decide)) (by decide) (by decide) (by decide) (by decide) (nb2 l7 (by decide)))
   (λx hx=>same (sg.blocks hx).1 (sg.blocks hx).2 (by decide) (by decide) (by decide) (by decide) (C6 x hx)) hY
  exact⟨this.map,λe he=>⟨Pp (sg.ok e he).1 (by decide),Pp (sg.ok e he).2.1 (by decide),(this.ok e he).2.2⟩,this.apart⟩
 ·rw[List.flatMap_append,List.nodup_append]at Tk⊢;refine⟨rO.apart,Tk.2.1,λx hx y hy e=> ?_⟩;subst e;rcases cG x hx with e|e
  ·exact Tk.2.2 x e x hy rfl
  ·have:=(sg.blocks hy).2;have:=Hl.size;omega
 ·unfold xu at he;split at he
  ·obtain⟨f,hf,rfl⟩:=List.mem_map.1 he;by_cases hx:f.1=b
   ·rw[if_pos hx];exact⟨false,rfl⟩
   ·rw[if_neg hx];exact sh f hf
  ·rcases List.mem_append.1 he with he|he
   ·exact sh e he
   ·simp only[List.mem_singleton]at he;subst he;exact⟨false,rfl⟩
 ·exact NW.frame (same l8 (bnd l8 (by decide)) (by decide) (by decide) (by decide) (by decide) (nb2 l8 (by decide)))
theorem qU.frozen{w:World}{m sm:Nat}(h:qU w t wtx be pend m sm pdel)(i:Nat):w.frozen? ⟨t,i,none⟩=false:=by unfold qU at h;simp[World.frozen?,h]
theorem qU.cell5{w:World}{m sm:Nat}(h:qU w t wtx be pend m sm pdel):w.cell? ⟨t,5,none⟩=some (.int .i64 pdel):=by unfold qU at h;rw[cell_of_row w t 5 _ _ (0,0) h];rfl
variable{bv:Value}
theorem ga{w:World}{R:World->Prop}(hA:Calls prog 342 #[ptr t,bv,kv,vv,.bool false] w λe w'=>e=.returned (.tuple #[])/\R w'):
  Calls prog 339 #[ptr t,bv,kv,vv] w λe w'=>e=.returned (.tuple #[])/\R w':=by
 have HA:=hid hA;clear hA;go_enter func339,ntmps339;go_wp2_with (go_at_call 342;go_must (refine HA.out.mono ?_);rintro e w1 ⟨rfl,g1⟩;have G1:=hid g1;clear g1);go_end0;exact⟨rfl,G1.out⟩
theorem zck{w:World}{I:zN}(h:jX l w I C wb rb pend pdel e2 e4){b:zF}{k v:Bytes}
  (hj:wb[j]? =some (bk,(b.name,ps)))(pS:zk (zG wb) b.name=j)(RI:zx (zG wb) b.name=true)(rJ:zM (zJ ps))(Hx:ps.length<=1000000)(pN:pend<=1000000)(RA:(yz e2 b).length<=500)
  (hk:Bs (im l.some w) k kv)(hv:Bs (im l.some w) v vv)(tP:k≠[])(pE:k.length<=1000000)(nX:v.length<=100000000):
  Calls prog 335 #[ptr I.t,b.val,kv,vv] w λe w'=>∃l' e2',e=.returned (.tuple #[])/\zB l w l' w'/\(∀c,yz e2' c=yz e2 c++if c=b then [k]else [])/\
   jX l' w' I C (wb.set j (bk,(b.name,yh ps k v))) rb (pend+1) pdel e2' e4:=by
 have l2:=h.lab.2.1;have hA:=ga (X9 (S:=l.some) (F:=l.is 9) h.bnd (λj e=>by show l j≠0;rw[e];decide) (by show l _≠0;rw[l2];decide) (by show ¬(l _=9);rw[l2];decide) h.bt h.wtx hj pS RI rJ Hx pN hk hv tP pE nX);have hB:∀w1,zq (λj=>j=I.t\/l.is 9 j) w w1->qU w1 I.t I.wtx I.be (pend+1) I.m I.sm pdel->kr (im l.some w1) w1 (l.is 9) I.wtx I.db true (wb.set j (bk,(b.name,yh ps k v)))->
   Calls prog 340 #[.pointer (some ⟨I.t,3,none⟩),b.val,kv,vv] w1 λe w'=>∃l' e2',e=.returned (.tuple #[])/\zB l w l' w'/\(∀c,yz e2' c=yz e2 c++if c=b then [k]else [])/\
    jX l' w' I C (wb.set j (bk,(b.name,yh ps k v))) rb (pend+1) pdel e2' e4:=λw1 h1 h2 h3=>zaZ h RA hk hv h1 h2 h3
 obtain⟨kp,kn,kc,rfl,_⟩:=hk.shape;obtain⟨vp,vn,vc,rfl,_⟩:=hv.shape;have HA:=hid hA;clear hA;have HB:=hid hB;clear hB;clear h hk hv;unfold zF.val at HA HB⊢;generalize zF.raw b=raw at HA HB⊢;go_enter func335,ntmps335;go_wp2_with (first|(go_at_call 339;go_must (refine HA.out.mono ?_);rintro e w1 ⟨rfl,g1,g2,g3⟩;have G1:=hid g1;have G2:=hid g2;have G3:=hid g3;clear g1 g2 g3)|(go_at_call 340;go_must (refine(HB.out w1 G1.out G2.out G3.out).mono ?_);rintro e w2 ⟨l',e2',rfl,k1,k2,k3⟩;have K1:=hid k1;have K2:=hid k2;have K3:=hid k3;clear k1 k2 k3));go_end0;exact⟨l',e2',rfl,K1.out,K2.out,K3.out⟩
theorem kr.setT{w:World}{db:Nat}{bs:List (Nat×zZ)}(h:kr (im S w) w F tx db wt bs)(hm:zq (· =t) w w')(ht:S t)(hF: ¬F t)(Hb:∀j,F j->j<w.heap.size):kr (im S w') w' F tx db wt bs:=
 h.frame (λj e=>hm.block j (Hb j e) (λe2=>hF (by rw[<-e2];exact e))) ((hm.mono (S':=S) λ_ _ e=>by rw[e];exact ht).im λ_ _ h=>h)
theorem jX.wtxTurned{w:World}{I:zN}{wb':List (Nat×zZ)}{pend' pdel':Nat}(h:jX l w I C wb rb pend pdel e2 e4)
  (Hl:zq (λj=>j=I.t\/l.is 9 j) w w1)(MR:qU w1 I.t I.wtx I.be pend' I.m I.sm pdel')(mE:kr (im l.some w1) w1 (l.is 9) I.wtx I.db true wb'):zB l w l w1/\jX l w1 I C wb' rb pend' pdel' e2 e4:=by
 obtain⟨Hr,⟨l1,l2,l3,l4,l5,l6,l7,l8⟩,⟨nb,h3⟩,_,⟨nr,mu,wg,h5⟩,⟨dv,h6,h7⟩,_,h9,Tj,sg,Tk,⟨sq,tB,sh⟩,⟨cs,NW,LA⟩⟩:=h;have nt:∀{j n},l j=n->n≠2->n≠9->¬(j=I.t\/l.is 9 j):=λ{j n} e h2 h9 e2=>by
  rcases e2 with e2|e2
  ·rw[e2,l2]at e;exact h2 e.symm
  ·unfold zu.is at e2;rw[e]at e2;exact h9 e2
 have rQ:∀j,(j=I.t\/l.is 9 j)->l.own j:=λj e=>by
  rcases e with rfl|e
  ·exact⟨by rw[l2];decide,by rw[l2];decide⟩
  ·unfold zu.is at e;exact⟨by rw[e];decide,by rw[e];decide⟩
 have hY:(im l.some w).le (im l.some w1):=(Hl.mono (S':=l.some) λj _ e=>(rQ j e).1).im λ_ _ h=>h;have Pb:∀j,l j≠0->j<w1.heap.size:=λj e=>Nat.lt_of_lt_of_le (Hr j e) Hl.size;have same:∀{j n},l j=n->n≠0->n≠2->n≠9->w1.heap[j]? =w.heap[j]? :=λ{j n} e h0 h2 h9=>Hl.block j (Hr j (by rw[e];exact h0)) (nt e h2 h9);refine⟨⟨Hl.mono λj _ e=>rQ j e,λ_ _=>rfl,λj hj=> ?_,Pb⟩,⟨Pb,⟨l1,l2,l3,l4,l5,l6,l7,l8⟩,⟨nb,?_⟩,MR,⟨nr,mu,wg,?_⟩,⟨dv,?_,h7.mono hY⟩,mE,?_,?_,?_,Tk,⟨sq,?_,sh⟩,⟨cs,?_,LA⟩⟩⟩
 ·by_cases e:l j=0
  ·omega
  ·have:=Hr j e;omega
 ·rw[same l1 (by decide) (by decide) (by decide)];exact h3
 ·rw[same l3 (by decide) (by decide) (by decide)];exact h5
 ·rw[same l4 (by decide) (by decide) (by decide)];exact h6
 ·exact h9.frame (λj e=>same e (by decide) (by decide) (by decide)) hY
 ·exact Tj.frame (same l5 (by decide) (by decide) (by decide)) (λj e=>same e (by decide) (by decide) (by decide)) hY
 ·exact sg.frame (same l7 (by decide) (by decide) (by decide)) (λj e=>same e (by decide) (by decide) (by decide)) hY
 ·exact tB.frame (same l6 (by decide) (by decide) (by decide))
 ·exact NW.frame (same l8 (by decide) (by decide) (by decide))
theorem GL{w:World}{I:zN}(h:jX l w I C wb rb pend pdel e2 e4){b:zF}{k:Bytes}
  (hj:wb[j]? =some (bk,(b.name,ps)))(pS:zk (zG wb) b.name=j)(RI:zx (zG wb) b.name=true)(rJ:zM (zJ ps))(Hx:ps.length<=1000000)(pN:pend<=1000000)(_hpd:pdel<=1000000)
  (hk:Bs (im l.some w) k kv):
  Calls prog 332 #[ptr I.t,b.val,kv] w λe w'=>e=.returned (.tuple #[])/\zB l w l w'/\jX l w' I C (wb.set j (bk,(b.name,jp ps k))) rb (pend+1) (pdel+1) e2 e4:=by
 have l2:=h.lab.2.1;have Ik:∀j,l.is 9 j->l.some j:=λj e=>by show l j≠0;rw[e];decide
 have SE:l.some I.t:=by show l _≠0;rw[l2];decide
 have TM: ¬l.is 9 I.t:=by show ¬(l _=9);rw[l2];decide
 have hA:=GK (S:=l.some) (F:=l.is 9) h.bnd Ik SE TM h.bt h.wtx hj pS RI rJ Hx pN hk;have hB:∀w1 w2,zq (λj=>j=I.t\/l.is 9 j) w w1->kr (im l.some w1) w1 (l.is 9) I.wtx I.db true (wb.set j (bk,(b.name,jp ps k)))->zq (· =I.t) w1 w2->qU w2 I.t I.wtx I.be (pend+1) I.m I.sm (pdel+1)->
   zB l w l w2/\jX l w2 I C (wb.set j (bk,(b.name,jp ps k))) rb (pend+1) (pdel+1) e2 e4:=λw1 w2 h1 h3 h4 h5=>
  h.wtxTurned (zq.trans h1 h4 λ_ _ e=>Or.inl e) h5 (h3.setT h4 SE TM λj e=>Nat.lt_of_lt_of_le (h.bnd j (Ik j e)) h1.size)
 obtain⟨kp,kn,kc,rfl,_⟩:=hk.shape;have HA:=hid hA;clear hA;have HB:=hid hB;clear hB;clear h hk Ik SE TM;unfold zF.val at HA⊢;generalize zF.raw b=raw at HA⊢;go_enter func332,ntmps332;go_wp2_with (go_at_call 338;go_must (refine HA.out.mono ?_);rintro e w1 ⟨rfl,g1,g2,g3⟩;have q5:w1.cell? ⟨I.t,5,none⟩=some (.int .i64 pdel):=g2.cell5;have f5:w1.frozen? ⟨I.t,5,none⟩=false:=g2.frozen 5;have G1:=hid g1;have G2:=hid g2;have G3:=hid g3;clear g1 g2 g3);go_end0;refine⟨rfl,HB.out w1 _ G1.out G3.out (vx (S:=(· =I.t)) (zq.refl _ _) rfl _) ?_⟩;unfold qU;rw[heap_setCell_same w1 I.t 5 _ _ _ G2.out];rfl
variable{cc:Nat}
theorem xw{w:World}(h:za w w')(hc:w.heap.size<=cc):(im S w).le (im (λb=>S b\/b=cc) w'):=
 (za.mod h S).im λj hj e=>by
  rcases e with e|e
  ·exact e
  ·omega
theorem dP{w:World}{m sm db:Nat}{b:zF}{bs:List (Nat×zZ)}{k:Bytes}{lim:Int}(hS:∀b,S b->b<w.heap.size)(pG:∀b,F b->S b)
  (Pd:qU w t wtx be pend m sm pdel)(h:kr (im S w) w F wtx db true bs)(hj:bs[j]? =some (bk,(b.name,ps)))(pS:zk (zG bs) b.name=j)(RI:zx (zG bs) b.name=true)
  (rJ:zM (zJ ps))(Ho:∀p∈ps,p.1≠[])(Hx:ps.length<=1000000)(hk:Bs (im S w) k kv):
  Calls prog 336 #[ptr t,b.val,kv,.slice none 0 0,.int .i64 lim] w λe w'=>∃ks vs,e=.returned (.tuple #[ks,vs])/\za w w'/\qP (im S w') (qX ps k).toList vs:=by
 have rC:=(List.getElem?_eq_some_iff.1 hj).1;have Th:=(List.getElem?_eq_some_iff.1 hj).2;obtain⟨sf,nv,pv,fp,g1,g2,g3⟩:=h.hb _ (List.mem_of_getElem? hj);have c0:w.cell? ⟨t,0,none⟩=some (ptr wtx):=by rw[cell_of_row w t 0 _ _ (0,0) Pd];rfl
 have Ti:=jP b;have Hm:=vy b.raw;have Hv:∀w1,za w w1->∀xv,Bs w1.cell? b.name xv->(∀q,xv.ownBlock=some q->w.heap.size<=q)->
   Calls prog 319 #[ptr wtx,xv] w1 λe w'=>e=.returned (ptr bk)/\w1=w':=by
  intro w1 hQ xv wi Pw;have hr:(im S w).le (im S w1):=za.im hQ S;have sU:kr (im S w1) w1 F wtx db true bs:=h.frame (λq hq=>hQ.block q (hS q (pG q hq)) (λe=>e)) hr;have pB:Bs (im S w1) b.name xv:=Bs.im_of (S:=S) (w:=w1) wi λq hq e=>by have:=Pw q hq;have:=hS q e;omega
  have:=Zc sU (zd _ _) pB rC pS RI;rw[Th]at this;exact this
 have pj:=hid Hv;clear Hv;have nh:∀w1,za w w1->Calls prog 255 #[ptr bk] w1 λe w2=>e=.returned (ptr w1.heap.size)/\za w w2/\
   (∀lim:Int,Calls prog 320 #[ptr w1.heap.size,kv,.slice none 0 0,.int .i64 lim] w2 λe w3=>∃ks vs,e=.returned (.tuple #[ks,vs])/\za w w3/\qP (im S w3) (qX ps k).toList vs):=by
  intro w1 hQ;have Pb:=hQ.heap g1;have c2:w1.cell? ⟨bk,2,none⟩=some pv:=by rw[cell_of_row w1 bk 2 _ _ (0,0) Pb];rfl
  refine(xX c2 g3.shape).mono ?_;rintro e w2 ⟨rfl,rfl⟩;have Hj:za w (w1.alloc (.cells #[pv,.int .i64 0,ptr bk] 486)):=zq.alloc hQ _;refine⟨rfl,Hj,λlim=> ?_⟩;have Hc:=zg w1 (.cells #[pv,.int .i64 0,ptr bk] 486);have Ro:bk<w1.heap.size:=World.block_lt_of_cell? w1 _ c2;have hY:=xw (S:=S) Hj hQ.size;refine(ZT (S:=S) (bk:=bk) (ps:=ps) (pv:=pv) (x:=k) (lim:=lim) (λq e=>Nat.lt_of_lt_of_le (hS q e) Hj.size) (by simp) (by rw[cell_of_row _ w1.heap.size 0 _ _ (0,0) Hc];rfl) (by rw[cell_of_row _ w1.heap.size 1 _ _ (0,0) Hc];rfl) (by rw[cell_of_row _ w1.heap.size 2 _ _ (0,0) Hc];rfl)
   (by unfold World.frozen?;rw[Hc];rfl) (by omega) (by rw[World.cell?_alloc_lt _ _ _ (by simpa using Ro)];exact c2) (g3.mono hY) rJ Ho Hx (hk.mono hY)).mono ?_
  rintro e w3 ⟨ks,vs,rfl,r6,_,Td⟩;exact⟨ks,vs,rfl,zq.trans Hj r6 (λq hq e=>by have:=hQ.size;omega),Td⟩
 have mF:=hid nh;clear nh;obtain⟨kp,kn,kc,rfl,_⟩:=hk.shape;have ht:=World.block_lt_of_cell? w _ c0;clear hk h g1 g2 g3 rJ Hx Th hj Pd Ho;unfold zF.val;generalize zF.raw b=raw at*
 go_enter func336,ntmps336;go_wp2;go_region_with (first|(go_at_call 300;refine(Ti _).mono ?_;rintro e w1 ⟨xv,rfl,hQ,pB,rz⟩;have d0:w1.cell? ⟨t,0,none⟩=some (ptr wtx):=hQ.le _ _ c0;obtain⟨xp,xn,xc,rfl,_⟩:=pB.shape;have SF:=hid pB;have SA:=hid rz;have Hs:=hid (za.undrew hQ);clear pB rz hQ)|(go_at_call 319;refine(pj.out _ Hs.out _ SF.out SA.out).mono ?_;rintro e w2 ⟨rfl,rfl⟩))
 all_goals
  go_wp2_with (first|(go_at_call 255;go_must (refine(mF.out _ Hs.out).mono ?_);rintro e w2 ⟨rfl,Hj,mG⟩;have Pf:=hid Hj;have C7:=hid mG;clear Hj mG)|(go_at_call 320;go_must (refine(C7.out _).mono ?_);rintro e w3 ⟨ks,vs,rfl,Hg,Td⟩;have Rb:=hid Hg;have aB:=hid Td;clear Hg Td));go_ret2;exact⟨_,_,rfl,Rb.out,aB.out⟩
theorem zO.drew{kf:α->Value}{w:World}{m r:Nat}{es left:List (α×Value)}(h:zO kf w m r es left):zO kf w.drew m r es left:=h
abbrev vV(e:zF×(Nat×Nat×List Bytes)):zF×Value:=(e.1,ptr e.2.1)
variable{a bb:Nat}
theorem js.used{w:World}{u:List Bytes}(h:js r w bb a u):w.cell? ⟨bb,1,none⟩=some (.int .i64 u.length)/\w.frozen? ⟨bb,1,none⟩=false:=
 ⟨by rw[cell_of_row w bb 1 _ _ (0,0) h.1];rfl,by simp[World.frozen?,h.1]⟩
theorem js.empty{w:World}{u:List Bytes}(h:js r w bb a u):js r' (w.setCell ⟨bb,1,none⟩ (.int .i64 0)) bb a []:=by
 obtain⟨g1,g2,arr,g3,g4,g5,g6⟩:=h;have th:a≠bb:=by intro e;subst e;rw[g1]at g3;simp at g3
 refine⟨by rw[heap_setCell_same w bb 1 _ _ _ g1];rfl,by decide,arr,by rw[Below.heap_setCell _ _ _ _ th];exact g3,g4,g5,λi hi=>absurd hi (Nat.not_lt_zero i)⟩
structure kF(S F:Nat->Prop)(w wr:World)(m R:Nat)(es cur:zY)(left:List (zF×Value)):Prop where
 rng:zO kY wr m R (cur.map vV) left
 mod:zq (λj=>j=m\/j∈zl es) w wr
 buf:zQ (im S wr) wr F m cur
 done:∀e∈cur,e.2.2.2=[]\/vV e∈left
 sub:∀e∈cur,∃f∈es,f.1=e.1/\f.2.1=e.2.1/\f.2.2.1=e.2.2.1
 fresh:w.heap.size<=R
 nd:(left.map (·.1)).Nodup
theorem ZB(h:(es.flatMap λe=>[e.2.1,e.2.2.1]).Nodup)(p:zF×(Nat×Nat×List Bytes)->Bool):((es.filter p).flatMap λe=>[e.2.1,e.2.2.1]).Nodup:=by
 induction es with
 |nil=>simp
 |cons e es ih=>
  simp only[List.flatMap_cons,List.nodup_append]at h;obtain⟨h1,h2,h3⟩:=h;by_cases hp:p e=true
  ·rw[List.filter_cons_of_pos hp];simp only[List.flatMap_cons,List.nodup_append];refine⟨h1,ih h2,λx hx y hy=>h3 x hx y ?_⟩;obtain⟨f,hf,C8⟩:=List.mem_flatMap.1 hy;exact List.mem_flatMap.2 ⟨f,(List.mem_filter.1 hf).1,C8⟩
  ·rw[List.filter_cons_of_neg (by simpa using hp)];exact ih h2
theorem KB(cur:zY)(b:zF):yH (cur.map vV) b=(cur.filter λe=>e.1≠b).map vV:=by unfold yH;rw[List.filter_map];rfl
theorem zO.notCells{kf:α->Value}{w:World}{m r:Nat}{es left:List (α×Value)}(h:zO kf w m r es left){c:Array Value}{T:TypeId}{g:Nat×Nat}(hj:w.heap[j]? =some (.cells c T g)):j≠m/\j≠r:=by obtain⟨a,ck,s,n,c0,h1,h2,h3,h4,h5⟩:=h;exact⟨λe=>(by subst e;rw[h1]at hj;cases hj),λe=>(by subst e;rw[h4]at hj;cases hj)⟩
theorem Qg[DecidableEq α]{es:List (α×Value)}{x:α}{e:α×Value}:e∈yH es x↔e∈es/\e.1≠x:=by unfold yH;simp
theorem Jg[DecidableEq α](es:List (α×Value))(x:α):yH (yH es x) x=yH es x:=by unfold yH;rw[List.filter_filter];simp
theorem ZC[DecidableEq α]{es:List (α×Value)}(h:(es.map (·.1)).Nodup)(x:α):((yH es x).map (·.1)).Nodup:=by
 unfold yH
 induction es with
 |nil=>simp
 |cons e es ih=>
  simp only[List.map_cons,List.nodup_cons]at h;by_cases he:e.1=x
  ·rw[List.filter_cons_of_neg (by simp[he])];exact ih h.2
  ·rw[List.filter_cons_of_pos (by simpa using he)];simp only[List.map_cons,List.nodup_cons];refine⟨λhm=>h.1 ?_,ih h.2⟩;obtain⟨f,hf,MS⟩:=List.mem_map.1 hm;exact List.mem_map.2 ⟨f,(List.mem_filter.1 hf).1,MS⟩
variable{wr:World}
theorem kF.blocks{w:World}{m R:Nat}{cur:zY}{left:List (zF×Value)}(h:kF S F w wr m R es cur left){e:zF×(Nat×Nat×List Bytes)}(he:e∈cur):e.2.1∈zl es/\e.2.2.1∈zl es:=by obtain⟨f,hf,_,h2,h3⟩:=h.sub e he;rw[<-h2,<-h3];exact qh hf
variable{v:Value}
theorem Qh{cur:zY}{x:zF}(hx:(x,v)∈cur.map vV):∃bb a u,(x,bb,a,u)∈cur/\v=ptr bb:=by obtain⟨e,he,hk⟩:=List.mem_map.1 hx;obtain⟨id,bb,a,u⟩:=e;simp only[vV,Prod.mk.injEq]at hk;obtain⟨rfl,rfl⟩:=hk;exact⟨bb,a,u,he,rfl⟩
theorem zO.noCell{kf:α->Value}{w:World}{m r:Nat}{es left:List (α×Value)}(h:zO kf w m r es left){a:Addr}(ha:a.block=m\/a.block=r):w.cell? a=none:=by
 obtain⟨ar,ck,s,n,c0,h1,h2,h3,h4,h5⟩:=h;rcases ha with e|e
 ·rw[<-e]at h1;simp[World.cell?,h1]
 ·rw[<-e]at h4;simp[World.cell?,h4]
theorem zD.noCell{kf:α->Value}{w:World}{m:Nat}{es:List (α×Value)}(h:zD kf w m es){a:Addr}(ha:a.block=m):w.cell? a=none:=by obtain⟨ar,ck,h1,_⟩:=h;rw[<-ha]at h1;simp[World.cell?,h1]
theorem Qi{T:Nat->Prop}{w:World}(h:zq T w w')(hT:∀a:Addr,T a.block->w.cell? a=none):(im S w).le (im S w'):=λa v ha=>by obtain⟨h1,h2⟩:=zi.1 ha;exact zi.2 ⟨h1,h.cell (λe=>by rw[hT a e]at h2;cases h2) h2⟩
variable{w2:World}
theorem kF.drop{w:World}{m R:Nat}{cur:zY}{left:List (zF×Value)}(h:kF S F w wr m R es cur left)(pG:∀j,F j->S j){x:zF}{u:List Bytes}(he:(x,bb,a,u)∈cur)
  (Pv:zO kY w1 m R (cur.map vV) (yH left x))(Hl:zq (· =R) wr w1)(ry:zO kY w2 m R (yH (cur.map vV) x) (yH (yH left x) x))(Hq:zq (· =m) w1 w2):
  kF S F w (w2.setCell ⟨bb,1,none⟩ (.int .i64 0)) m R es (cur.filter λe=>e.1≠x) (yH left x):=by
 have BQ:w.heap.size<=wr.heap.size:=h.mod.size;obtain⟨o1,o2,o3⟩:=h.buf.ok _ he;have Il:=pG _ o1;have sE:(im S wr).le (im S w1):=Qi Hl λa e=>h.rng.noCell (Or.inr e);have tC:(im S w1).le (im S w2):=Qi Hq λa e=>Pv.noCell (Or.inl e);have LB:zq (· =bb) w2 (w2.setCell ⟨bb,1,none⟩ (.int .i64 0)):=vx (S:=(· =bb)) (zq.refl _ _) rfl _;have C9:(im S w2).le (im S (w2.setCell ⟨bb,1,none⟩ (.int .i64 0))):=(LB.mono (S':=S) λ_ _ e=>by rw[e];exact Il).im λ_ _ h=>h;have hY:=(sE.le_trans tC).le_trans C9;have P5:∀e∈cur,(e.2.1≠m/\e.2.1≠R)/\(e.2.2.1≠m/\e.2.2.1≠R):=λe TL=>by obtain⟨_,_,q⟩:=h.buf.ok e TL;obtain⟨q1,_,ar,q3,_⟩:=q;exact⟨h.rng.notCells q1,h.rng.notCells q3⟩
 have aZ:∀j,j≠m->j≠R->j<wr.heap.size->w2.heap[j]? =wr.heap[j]? :=λj h1 h2 hj=>
  (Hq.block j (Nat.lt_of_lt_of_le hj Hl.size) h1).trans (Hl.block j hj h2)
 have rO:bb≠m/\bb≠R:=(P5 _ he).1;refine⟨?_,?_,⟨?_,?_,ZB h.buf.apart _⟩,?_,?_,h.fresh,ZC h.nd x⟩
 ·rw[KB,Jg]at ry;exact ry.frame (Below.heap_setCell _ _ _ _ (λe=>rO.1 e.symm)) (Below.heap_setCell _ _ _ _ (λe=>rO.2 e.symm))
 ·refine zq.trans (zq.trans (zq.trans h.mod Hl λj hj e=> ?_) Hq λj _ e=>Or.inl e) LB λj _ e=> ?_
  ·have:=h.fresh;omega
  ·rw[e];exact Or.inr (h.blocks he).1
 ·have:=ry.owns;rw[KB]at this;exact this.frame (Below.heap_setCell _ _ _ _ (λe=>rO.1 e.symm))
 ·intro f hf;obtain⟨NV,MP⟩:=List.mem_filter.1 hf;have sF:f.1≠x:=by simpa using MP
  obtain⟨q1,q2,q3⟩:=h.buf.ok f NV;obtain⟨a1,a2,a3,a4⟩:=Qe h.buf.apart NV he sF;obtain⟨⟨n1,n2⟩,n3,n4⟩:=P5 f NV;exact⟨q1,q2,q3.frame ((Below.heap_setCell _ _ _ _ (λe=>a1 e)).trans (aZ _ n1 n2 q3.lt1)) ((Below.heap_setCell _ _ _ _ (λe=>a3 e)).trans (aZ _ n3 n4 q3.lt2)) hY⟩
 ·intro f hf;obtain⟨NV,MP⟩:=List.mem_filter.1 hf;have sF:f.1≠x:=by simpa using MP
  rcases h.done f NV with e|e
  ·exact Or.inl e
  ·exact Or.inr (Qg.2 ⟨e,sF⟩)
 ·intro f hf;exact h.sub f (List.mem_filter.1 hf).1
theorem kF.clear{w:World}{m R:Nat}{cur:zY}{left:List (zF×Value)}(h:kF S F w wr m R es cur left)(pG:∀j,F j->S j){x:zF}{u:List Bytes}(he:(x,bb,a,u)∈cur)
  (Pv:zO kY w1 m R (cur.map vV) (yH left x))(Hl:zq (· =R) wr w1):
  kF S F w (w1.setCell ⟨bb,1,none⟩ (.int .i64 0)) m R es (ya cur x []) (yH left x):=by
 have BQ:w.heap.size<=wr.heap.size:=h.mod.size;obtain⟨o1,o2,o3⟩:=h.buf.ok _ he;have Il:=pG _ o1;have sE:(im S wr).le (im S w1):=Qi Hl λa e=>h.rng.noCell (Or.inr e);have LB:zq (· =bb) w1 (w1.setCell ⟨bb,1,none⟩ (.int .i64 0)):=vx (S:=(· =bb)) (zq.refl _ _) rfl _;have tC:(im S w1).le (im S (w1.setCell ⟨bb,1,none⟩ (.int .i64 0))):=(LB.mono (S':=S) λ_ _ e=>by rw[e];exact Il).im λ_ _ h=>h;have hY:=sE.le_trans tC;have P5:∀e∈cur,(e.2.1≠m/\e.2.1≠R)/\(e.2.2.1≠m/\e.2.2.1≠R):=λe TL=>by obtain⟨_,_,q⟩:=h.buf.ok e TL;obtain⟨q1,_,ar,q3,_⟩:=q;exact⟨h.rng.notCells q1,h.rng.notCells q3⟩
 have rO:bb≠m/\bb≠R:=(P5 _ he).1;have RZ:(ya cur x []).map vV=cur.map vV:=Qd (λi b _=>(i,ptr b)) cur x [];have Ri:∀f∈ya cur x [],∃g∈cur,(g.1=x/\f=(g.1,g.2.1,g.2.2.1,[]))\/(g.1≠x/\f=g):=λf hf=>by
  unfold ya at hf;obtain⟨g,hg,rfl⟩:=List.mem_map.1 hf;refine⟨g,hg,?_⟩;by_cases e:g.1=x
  ·exact Or.inl ⟨e,if_pos e⟩
  ·exact Or.inr ⟨e,if_neg e⟩
 refine⟨?_,?_,⟨?_,?_,by rw[jW];exact h.buf.apart⟩,?_,?_,h.fresh,ZC h.nd x⟩
 ·rw[RZ];exact Pv.frame (Below.heap_setCell _ _ _ _ (λe=>rO.1 e.symm)) (Below.heap_setCell _ _ _ _ (λe=>rO.2 e.symm))
 ·refine zq.trans (zq.trans h.mod Hl λj hj e=> ?_) LB λj _ e=> ?_
  ·have:=h.fresh;omega
  ·rw[e];exact Or.inr (h.blocks he).1
 ·rw[RZ];exact Pv.owns.frame (Below.heap_setCell _ _ _ _ (λe=>rO.1 e.symm))
 ·intro f hf;obtain⟨g,hg,⟨e1,rfl⟩|⟨e1,rfl⟩⟩:=Ri f hf
  ·have:g=(x,bb,a,u):=X8 h.buf.keys hg he e1;subst this;have hq:=o3.frame (w':=w1) (Hl.block _ o3.lt1 rO.2) (Hl.block _ o3.lt2 (P5 _ he).2.2) sE;exact⟨o1,o2,hq.empty⟩
  ·obtain⟨q1,q2,q3⟩:=h.buf.ok f hg;obtain⟨a1,a2,a3,a4⟩:=Qe h.buf.apart hg he e1;obtain⟨⟨n1,n2⟩,n3,n4⟩:=P5 f hg;exact⟨q1,q2,q3.frame ((Below.heap_setCell _ _ _ _ (λe=>a1 e)).trans (Hl.block _ q3.lt1 n2)) ((Below.heap_setCell _ _ _ _ (λe=>a3 e)).trans (Hl.block _ q3.lt2 n4)) hY⟩
 ·intro f hf;obtain⟨g,hg,⟨e1,rfl⟩|⟨e1,rfl⟩⟩:=Ri f hf
  ·exact Or.inl rfl
  ·rcases h.done f hg with e|e
   ·exact Or.inl e
   ·exact Or.inr (Qg.2 ⟨e,e1⟩)
 ·intro f hf;obtain⟨g,hg,⟨e1,rfl⟩|⟨e1,rfl⟩⟩:=Ri f hf
  ·obtain⟨q,hq,q2⟩:=h.sub g hg;exact⟨q,hq,q2⟩
  ·exact h.sub f hg
theorem zO.left_eq{kf:α->Value}{w:World}{m r:Nat}{es left:List (α×Value)}(h:zO kf w m r es left):w.rangeLeft m r=left.length:=by obtain⟨a,ck,s,n,c0,h1,h2,h3,h4,h5,h6,_⟩:=h;simp only[World.rangeLeft,h1,h4];have:=congrArg List.length h6;simpa using this
theorem gc[DecidableEq α]{es:List (α×Value)}{x:α}(h:(x,v)∈es):(yH es x).length<es.length:=by
 unfold yH
 induction es with
 |nil=>simp at h
 |cons e es ih=>
  by_cases he:e.1=x
  ·rw[List.filter_cons_of_neg (by simp[he])];have:=List.length_filter_le (λe:α×Value=>decide (e.1≠x)) es;simp only[List.length_cons];omega
  ·rw[List.filter_cons_of_pos (by simpa using he)];rcases List.mem_cons.1 h with h|h
   ·rw[<-h]at he;exact absurd rfl he
   ·have:=ih h;simp only[List.length_cons];omega
variable{q:Nat}
theorem Xr{w:World}{o m:Nat}(_hS:∀j,S j->j<w.heap.size)(pG:∀j,F j->S j)(hq:w.cell? ⟨q,o,none⟩=some (.map (some m)))(LC:q∉zl es)(h:zQ (im S w) w F m es):
  Calls prog 94 #[.pointer (some ⟨q,o,none⟩)] w λe w'=>e=.returned (.tuple #[])/\∃cur,zq (λj=>j=m\/j∈zl es) w w'/\zQ (im S w') w' F m cur/\(∀e∈cur,e.2.2.2=[])/\
   (∀e∈cur,∃f∈es,f.1=e.1/\f.2.1=e.2.1/\f.2.2.1=e.2.2.1):=by
 obtain⟨w0,Nm,rM,PK,Tl⟩:=zD.range (P:=prog) (k:=299) (t:=239) (e:=300) (by kernel_rfl) h.map;have a8:q≠m:=λe=>by rw[h.map.noCell (a:=⟨q,o,none⟩) e]at hq;cases hq
 have hE0:kF S F w w0 m w.heap.size es es (es.map vV):=by have hY:(im S w).le (im S w0):=za.im PK S;refine⟨rM,PK.mod _,⟨rM.owns,λe he=> ?_,h.apart⟩,λe he=>Or.inr (List.mem_map.2 ⟨e,he,rfl⟩),λe he=>⟨e,he,rfl,rfl,rfl⟩,Nat.le_refl _,rM.owns.nodup⟩;obtain⟨q1,q2,q3⟩:=h.ok e he;exact⟨q1,q2,q3.frame (PK.block _ q3.lt1 (λe=>e)) (PK.block _ q3.lt2 (λe=>e)) hY⟩
 have HE0:=hid hE0;clear hE0;have Sb:=hid pG;clear pG;have HQB:=hid LC;clear LC;clear _hS h rM PK Tl;go_enter func94,ntmps94;go_wp2;go_loopw [2,3] (λ_ _ wr=>∃cur left,kF S F w wr m w.heap.size es cur left) (λ_ _ wr=>wr.rangeLeft m w.heap.size)
 case atStart=>exact⟨es,_,HE0.out⟩
 case round=>
  obtain⟨cur,left,hE⟩:=hrel;have cL:wr.cell? ⟨q,o,none⟩=some (.map (some m)):=hE.mod.cell (λe=>by rcases e with e|e;exact a8 e;exact HQB.out e) hq;rcases zO.next (P:=prog) (k:=299) Zd hE.rng 0 with⟨hl,RE⟩|⟨x,v,w1,RQ,Ss,RE,Pv,Hl,pI,MT⟩
  ·have HE:=hid hE;clear hE;have HL:=hid hl;clear hl;go_wp2;go_end0;refine⟨rfl,cur,HE.out.mod,HE.out.buf,λe he=> ?_,HE.out.sub⟩;rcases HE.out.done e he with e1|e1
   ·exact e1
   ·rw[HL.out]at e1;cases e1
  ·obtain⟨bb,a,u,he,rfl⟩:=Qh Ss;obtain⟨o1,o2,o3⟩:=hE.buf.ok _ he;have P5:=hE.rng.notCells o3.1;have Pb:js (im S w1) w1 bb a u:=o3.frame (Hl.block _ o3.lt1 P5.2) (Hl.block _ o3.lt2 (by obtain⟨_,_,ar,q3,_⟩:=o3;exact(hE.rng.notCells q3).2)) (Qi Hl λa e=>hE.rng.noCell (Or.inr e));obtain⟨u1,u2⟩:=Pb.used;have heF:w1.cell? ⟨q,o,none⟩=some (.map (some m)):=Hl.cell (λe=>by rw[hE.rng.noCell (a:=⟨q,o,none⟩) (Or.inr e)]at cL;cases cL) cL;have Hb:=gc RQ;have LD:=hE.rng.left_eq;by_cases hu:u=[]
   ·subst hu;have u1:w1.cell? ⟨bb,1,none⟩=some (.int .i64 0):=u1;obtain⟨w2,Sf,ry,Hq,_⟩:=zO.del (P:=prog) (t:=239) (e:=300) Zd (by kernel_rfl) Pv x 0;have ni:=hE.drop Sb.out he Pv Hl ry Hq;have pw:w2.heap[bb]? =w1.heap[bb]? :=Hq.block _ Pb.lt1 P5.1;have u1':w2.cell? ⟨bb,1,none⟩=some (.int .i64 0):=by rw[World.cell?_of_block (w:=w1) pw];exact u1
    have u2':w2.frozen? ⟨bb,1,none⟩=false:=by rw[World.frozen?_of_block (w:=w1) pw];exact u2
    have HN:=hid ni;clear ni;have Ma:=hid LD;clear LD;clear hE Pb o3 Pv Hl ry Hq he RQ Ss pw;go_wp2_with (at_delete;refine vI rfl rfl rfl rfl Sf ?_);go_roundw
    case rel=>exact⟨_,_,HN.out⟩
    case measure=>rw[HN.out.rng.left_eq,Ma.out];exact Hb
   ·have ni:=hE.clear Sb.out he Pv Hl;obtain⟨n,hn⟩:∃n:Nat,u.length=n:=⟨_,rfl⟩;have PK:0<n:=by rw[<-hn];exact List.length_pos_iff.2 hu
    rw[hn]at u1;clear hn hu;have Im:((n:Int)==0)=false:=by simp;omega
    have HN:=hid ni;clear ni;have Ma:=hid LD;clear LD;clear hE Pb o3 Pv Hl he RQ Ss;go_wp2;go_roundw
    case rel=>exact⟨_,_,HN.out⟩
    case measure=>rw[HN.out.rng.left_eq,Ma.out];exact Hb
def k_(sq:List (zF×Value)):Prop:=∀e∈sq,∃b,e.2=.bool b
theorem k_.put(h:k_ sq)(x:zF)(b:Bool):k_ (xu sq x (.bool b)):=by
 intro e he;unfold xu at he;split at he
 ·obtain⟨f,hf,rfl⟩:=List.mem_map.1 he;by_cases hx:f.1=x
  ·rw[if_pos hx];exact⟨b,rfl⟩
  ·rw[if_neg hx];exact h f hf
 ·rcases List.mem_append.1 he with he|he
  ·exact h e he
  ·simp only[List.mem_singleton]at he;subst he;exact⟨b,rfl⟩
theorem k_.del(h:k_ sq)(x:zF):k_ (yH sq x):=λe he=>h e (Qg.1 he).1
theorem KC{w:World}{m sm:Nat}(_hS:∀j,S j->j<w.heap.size)(pG:∀j,F j->S j)(L_:S sm)(h3:w.cell? ⟨t,3,none⟩=some (.map (some m)))(h4:w.cell? ⟨t,4,none⟩=some (.map (some sm)))
  (mH:t∉zl es)(C_:sm∉zl es)(Ho:sm≠m)(h:zQ (im S w) w F m es)(hs:zD kY w sm sq)(sh:k_ sq):
  Calls prog 92 #[.pointer (some ⟨t,3,none⟩)] w λe w'=>e=.returned (.tuple #[])/\∃cur sq',zq (λj=>j=m\/j=sm\/j∈zl es) w w'/\zQ (im S w') w' F m cur/\zD kY w' sm sq'/\k_ sq'/\(∀e∈cur,e.2.2.2=[])/\
   (∀e∈cur,∃f∈es,f.1=e.1/\f.2.1=e.2.1/\f.2.2.1=e.2.2.1):=by
 have HR:=hid (Xr _hS pG h3 mH h);have BO:t≠sm:=λe=>by rw[hs.noCell (a:=⟨t,3,none⟩) e]at h3;cases h3
 have a_:t≠m:=λe=>by rw[h.map.noCell (a:=⟨t,3,none⟩) e]at h3;cases h3
 have Mz:=World.block_lt_of_cell? w _ h3;have Sb:=hid pG;clear pG;have cM:=hid mH;clear mH;have bd:=hid C_;clear C_;have HS:=hid hs;clear hs;have BR:=hid sh;clear sh;clear h _hS;go_enter func92,ntmps92;go_wp2_with fail;refine HR.out.mono ?_;rintro e w1 ⟨rfl,cur,Hl,Pb,PZ,pI⟩;have wj:zD kY w1 sm sq:=HS.out.frame (Hl.block _ HS.out.lt (λe=>by rcases e with e|e;exact Ho e;exact bd.out e));have t4:w1.cell? ⟨t,4,none⟩=some (.map (some sm)):=Hl.cell (λe=>by rcases e with e|e;exact a_ e;exact cM.out e) h4;have t3:w1.cell? ⟨t,3,none⟩=some (.map (some m)):=Hl.cell (λe=>by rcases e with e|e;exact a_ e;exact cM.out e) h3;obtain⟨w2,Nm,ry,Hj,Io⟩:=zD.range (P:=prog) (k:=299) (t:=286) (e:=4) (by kernel_rfl) wj;have Rp:=hid Hl;clear Hl;have Rq:=hid Pb;clear Pb;have ES:=hid PZ;clear PZ;have RV:=hid pI;clear pI;have Nn:=hid ry;clear ry;have Pf:=hid (za.mod Hj (λj=>j=sm));clear Hj;clear wj Io h3 h4;go_wp2
 go_loopw [2] (λ_ wr=>∃sc left,zO kY wr sm w1.heap.size sc left/\zq (λj=>j=sm) w1 wr/\k_ sc) (λ_ wr=>wr.rangeLeft sm w1.heap.size)
 case atStart=>exact⟨_,_,Nn.out,Pf.out,BR.out⟩
 case round=>
  obtain⟨sc,left,hE,hM,sh⟩:=hrel;have SD:=hid sh;clear sh;have hY:(im S w1).le (im S wr):=(hM.mono (S':=S) λ_ _ e=>by rw[e];exact L_).im λ_ _ h=>h;have r3:wr.cell? ⟨t,3,none⟩=some (.map (some m)):=hM.cell (λe=>BO e) t3;have r4:wr.cell? ⟨t,4,none⟩=some (.map (some sm)):=hM.cell (λe=>BO e) t4;have Pg:∀w',zq (λj=>j=sm) w1 w'->zq (λj=>j=m\/j=sm\/j∈zl es) w w':=λw' hm=>(Rp.out.mono λj _ e=>by rcases e with e|e;exact Or.inl e;exact Or.inr (Or.inr e)).trans (hm.mono λj _ e=>Or.inr (Or.inl e)) λ_ _ e=>e;have SH:∀x∈cur,x.2.1≠sm/\x.2.2.1≠sm:=λx hx=>by obtain⟨f,hf,_,e1,e2⟩:=RV.out x hx;have:=qh hf;exact⟨λe=>bd.out (by rw[<-e,<-e1];exact this.1),λe=>bd.out (by rw[<-e,<-e2];exact this.2)⟩
  have MU:∀w',zq (λj=>j=sm) w1 w'->zQ (im S w') w' F m cur:=λw' hm=>by have bf:(im S w1).le (im S w'):=(hm.mono (S':=S) λ_ _ e=>by rw[e];exact L_).im λ_ _ h=>h;refine⟨Rq.out.map.frame (hm.block _ Rq.out.map.lt (λe=>Ho e.symm)),λx hx=> ?_,Rq.out.apart⟩;obtain⟨q1,q2,q3⟩:=Rq.out.ok x hx;exact⟨q1,q2,q3.frame (hm.block _ q3.lt1 (SH x hx).1) (hm.block _ q3.lt2 (SH x hx).2) bf⟩
  rcases zO.next (P:=prog) (k:=299) Zd hE 0 with⟨hl,RE⟩|⟨x,v,w3,RQ,Ss,RE,mI,r6,Pa,MT⟩
  ·have pj:=hid (⟨Pg wr hM,MU wr hM,hE.owns⟩:_/\_/\_);clear hE hM hY Pg MU SH;go_wp2;go_end0;exact⟨rfl,cur,sc,pj.out.1,pj.out.2.1,pj.out.2.2,SD.out,ES.out,RV.out⟩
  ·have NP:zq (λj=>j=sm) w1 w3:=zq.trans hM r6 λj hj e=>by omega
   have q3:w3.cell? ⟨t,3,none⟩=some (.map (some m)):=NP.cell (λe=>BO e) t3;have q4:w3.cell? ⟨t,4,none⟩=some (.map (some sm)):=NP.cell (λe=>BO e) t4;have sG:=MU w3 NP;have NX:=zD.look (P:=prog) (t:=239) (e:=300) Zd (by kernel_rfl) (z:=.pointer none) (by kernel_rfl) sG.map x true;have Hb:=gc RQ;have LD:=hE.left_eq;have Ma:=hid LD;clear LD;cases hg:jq (cur.map λe=>(e.1,ptr e.2.1)) x with
   |none=>
    rw[hg]at NX;simp only[if_true]at NX;obtain⟨w4,Sf,Mb,pP,_⟩:=zO.del (P:=prog) (t:=286) (e:=4) Zd (by kernel_rfl) mI x 0;have Aa:=hid Mb;clear Mb;have T7:=hid (zq.trans NP pP λ_ _ e=>e);clear pP;have bg:(yH (yH left x) x).length<left.length:=by rw[Jg];exact Hb
    clear hE hM hY Pg MU SH mI r6 NP sG RQ Ss hg r3 r4;go_wp2_with (at_delete;refine vI rfl rfl rfl rfl Sf ?_);go_frame;go_roundw
    case rel=>exact⟨_,_,Aa.out,T7.out,SD.out.del x⟩
    case measure=>rw[Aa.out.left_eq,Ma.out];exact bg
   |some y=>
    rw[hg]at NX;simp only[if_true]at NX;obtain⟨bb,a,u,he,rfl⟩:=Qh (Qb hg);have Im:=ES.out _ he;simp only at Im;subst Im;obtain⟨u1,u2⟩:=(sG.ok _ he).2.2.used;simp only[List.length_nil,Int.natCast_zero]at u1;obtain⟨w4,pi,Mb,pP,_⟩:=zO.put (P:=prog) (t:=286) (e:=4) Zd (by kernel_rfl) mI x (.bool true) (by rw[xM mI.owns.nodup Ss];rfl);have Aa:=hid Mb;clear Mb;have T7:=hid (zq.trans NP pP λ_ _ e=>e);clear pP;have bg:((yH left x).map λe=>if e.1=x then (x,Value.bool true)else e).length<left.length:=by rw[List.length_map];exact Hb
    clear hE hM hY Pg MU SH mI r6 NP sG RQ Ss hg he r3 r4;go_wp2;go_roundw
    case rel=>exact⟨_,_,Aa.out,T7.out,SD.out.put x true⟩
    case measure=>rw[Aa.out.left_eq,Ma.out];exact bg
theorem zq.undrew{w:World}(h:zq S w.drew w'):zq S w w':=⟨h.os,h.tape,h.output,h.size,h.block⟩
variable{ks:List Bytes}
theorem D5{w:World}{sb sa:Nat}(hb:S bb)(ha:S a)(h:js (im S w) w bb a [])(hs:js (im S w) w sb sa ks)(h1:sb≠bb)(h2:sb≠a)(h3:sa≠bb)(h4:sa≠a):
  Calls prog 91 #[ptr bb,ptr sb] w λe w'=>e=.returned (.tuple #[])/\zq (λj=>j=bb\/j=a) w w'/\js (im S w') w' bb a ks:=by
 obtain⟨n,hn⟩:=zex (ks.length);obtain⟨u2,_⟩:=hs.used;obtain⟨g1,g2,arr,g3,g4,g5,g6⟩:=id hs;rw[<-hn]at u2 g2 g6;have c0:w.cell? ⟨sb,0,none⟩=some (.slice (some ⟨sa,0,none⟩) 512 512):=by rw[cell_of_row w sb 0 _ _ (0,0) g1];rfl
 have PN:∀j,j<n->∃(k v:Bytes) (kp:Option Addr) (kn kc:Nat) (vp:Option Addr) (vn vc:Nat),ks[j]? =some k/\w.cell? ⟨sa,j*2,none⟩=some (.slice kp kn kc)/\w.cell? ⟨sa,j*2+1,none⟩=some (.slice vp vn vc)/\Bs (im S w) k (.slice kp kn kc)/\Bs (im S w) v (.slice vp vn vc):=λj hj=>by obtain⟨k,v,kv,vv,e0,e1,e2,e3,e4⟩:=g6 j hj;obtain⟨kp,kn,kc,rfl,_⟩:=e3.shape;obtain⟨vp,vn,vc,rfl,_⟩:=e4.shape;exact⟨k,v,kp,kn,kc,vp,vn,vc,e0,by rw[cell_of_row w sa _ _ _ (0,0) g3];exact e1,by rw[cell_of_row w sa _ _ _ (0,0) g3];exact e2,e3,e4⟩
 have Pp:∀w',zq (λj=>j=bb\/j=a) w w'->(∀o v,w.cell? ⟨sb,o,none⟩=some v->w'.cell? ⟨sb,o,none⟩=some v)/\(∀o v,w.cell? ⟨sa,o,none⟩=some v->w'.cell? ⟨sa,o,none⟩=some v)/\(im S w).le (im S w'):=λw' hm=>
  ⟨λo v hc=>hm.cell (λe=>by rcases e with e|e;exact h1 e;exact h2 e) hc,λo v hc=>hm.cell (λe=>by rcases e with e|e;exact h3 e;exact h4 e) hc,(hm.mono (S':=S) λj _ e=>by rcases e with rfl|rfl;exact hb;exact ha).im λ_ _ h=>h⟩
 have wl:=hid PN;clear PN;have Ab:=hid Pp;clear Pp;have HH:=hid h;clear h;have HN:=hid hn;clear hn;clear g1 g3 g4 g5 g6 hs;go_enter func91,ntmps91;go_wp2;go_loopw [4] (λi wr=>∃j:Nat,j<=n/\i=.int .i64 j/\zq (λj=>j=bb\/j=a) w wr/\js (im S wr) wr bb a (ks.take j)) (λi _=>n-(intOf i).toNat)
 case atStart=>exact⟨0,Nat.zero_le _,rfl,zq.refl _ _,HH.out⟩
 case round=>
  obtain⟨j,hj,rfl,hm,Pb⟩:=hrel;obtain⟨k1,k2,k3⟩:=Ab.out _ hm;have r2:=k1 _ _ u2;have r0:=k1 _ _ c0;have rC:Hid ((ks.take j).length=j):=hid (by rw[List.length_take,<-HN.out];omega);by_cases Hb:j<n
  ·obtain⟨k,v,kp,kn,kc,vp,vn,vc,e0,e1,e2,e3,e4⟩:=wl.out j Hb;have hba:(j:Int)<512:=by omega
   have hj0:(0:Int)<=j:=by omega
   have s1:=k2 _ _ e1;have s2:=k2 _ _ e2;have MN:=hid (fV hb ha (w:=wr.drew) (ks:=ks.take j) (k:=k) (v:=v) Pb (by rw[rC.out];omega) (e3.mono k3) (e4.mono k3));have HE:Hid (ks.take (j+1)=ks.take j++[k]):=hid (by obtain⟨hl,he⟩:=List.getElem?_eq_some_iff.1 e0;rw[List.take_succ_eq_append_getElem hl,he])
   have HM:=hid hm;clear hm;clear Pb k1 k2 k3 e0 e1 e2 e3 e4;go_wp2;go_still_tail 17,(by kernel_rfl);go_wp2_with (go_at_call 103;go_must (refine MN.out.mono ?_);rintro e w2 ⟨rfl,Hq,pw⟩;have mC:=hid Hq;have SB:=hid pw;clear Hq pw);go_roundw
   case rel=>exact⟨j+1,by omega,by go_num,zq.trans HM.out mC.out.undrew λ_ _ e=>e,by rw[HE.out];exact SB.out⟩
   case measure=>simp[intOf];omega
  ·have Mw:j=n:=by omega
   subst Mw;obtain⟨v1,_⟩:=Pb.used;rw[rC.out]at v1;have Rq:=hid Pb;clear Pb;have HM:=hid hm;clear hm;clear k1 k2 k3 Hb;go_wp2;go_quiet (fail);go_wp2;go_returns;refine⟨rfl,HM.out.drewN _,?_⟩;have:=Rq.out;rw[List.take_of_length_le (by rw[<-HN.out];exact Nat.le_refl _)]at this;exact this
structure GM(D:World->Prop)(T:TypeId)(v:Value)(g:FuncId)(rc:Value)(n:Int):Prop where
 new:∀W W',D W->za W W'->D W'
 meth:∀W,(method 608 T v "Less").run prog W=.ok (g,rc) W
 nil:∀W,(nilAhead 608 T v "Less").run prog W=.ok (some false) W
 enter:∀args W,(callFunc g args).run prog W=.ok (.enter g args) W
 ge:∀W (x y:Int),D W->0<=y->y<=x->x<n->Calls prog g #[rc,.int .i64 x,.int .i64 y] W λe w'=>e=.returned (.bool false)/\za W w'
 lt:∀W (x y:Int),D W->0<=x->x<y->y<n->Calls prog g #[rc,.int .i64 x,.int .i64 y] W λe w'=>e=.returned (.bool true)/\za W w'
variable{rc:Value}
theorem xY{D:World->Prop}{T:TypeId}{g:FuncId}{n:Int}{w:World}(h:GM D T v g rc n)(hw:D w){a b:Int}(Ac:0<=a)(hb:b<=n)(ha:a<=1000)(hn:n<=1000):
  Calls prog 109 #[.iface T v,.int .i64 a,.int .i64 b] w λe w'=>e=.returned (.tuple #[])/\za w w':=by
 have Hm:=h.meth;have PT:=h.nil;have PN:=h.enter;have H:=hid h;have HW:=hid hw;clear h hw;go_enter func109,ntmps109;go_wp2;go_loopw [6] (λi wr=>∃k:Int,a<k/\k<=2000/\i=.int .i64 k/\za w wr) (λi _=>(b-intOf i).toNat)
 case atStart=>exact⟨a+1,by omega,by omega,by go_num,za.refl w⟩
 case round=>
  obtain⟨k,rh,se,rfl,hD⟩:=hrel;have HD:=hid hD;clear hD;by_cases Hb:k<b
  ·go_wp2;refine wp_loop_once ?_;go_wp2_with (refine(H.out.ge _ _ _ (H.out.new _ _ HW.out HD.out) (by omega) (by omega) (by omega)).mono ?_;rintro e w1 ⟨rfl,PS⟩;have S6:=hid PS;clear PS);go_roundw
   case rel=>exact⟨k+1,by omega,by omega,by go_num,HD.out.trans S6.out⟩
   case measure=>simp[intOf];omega
  ·go_wp2;go_returns;exact⟨rfl,HD.out⟩
variable{sv:Value}
theorem Yo{D:World->Prop}{T:TypeId}{g:FuncId}{n:Int}{w:World}(h:GM D T v g rc n)(hw:D w){a b:Int}(Ac:0<=a)(th:a<b)(hb:b<n):
  Calls prog 125 #[.iface T v,.int .i64 a,.int .i64 b,sv] w λe w'=>e=.returned (.tuple #[.int .i64 a,.int .i64 b])/\za w w':=by
 have Hm:=h.meth;have PT:=h.nil;have PN:=h.enter;have H:=hid h;have HW:=hid hw;clear h hw;go_enter func125,ntmps125;go_wp2_with (refine(H.out.ge _ _ _ HW.out (by omega) (by omega) (by omega)).mono ?_;rintro e w1 ⟨rfl,PS⟩;have S6:=hid PS;clear PS);go_returns;exact⟨rfl,S6.out⟩
theorem Yp{D:World->Prop}{T:TypeId}{g:FuncId}{n:Int}{w:World}(h:GM D T v g rc n)(hw:D w){a b c:Int}(Ac:0<=a)(th:a<b)(sV:b<c)(hc:c<n):
  Calls prog 123 #[.iface T v,.int .i64 a,.int .i64 b,.int .i64 c,sv] w λe w'=>e=.returned (.int .i64 b)/\za w w':=by
 have H:=hid h;have HW:=hid hw;clear h hw;go_enter func123,ntmps123;go_wp2_with fail;refine(Yo H.out HW.out Ac th (by omega)).mono ?_;rintro e w1 ⟨rfl,h1⟩;have H1:=hid h1;clear h1;go_wp2_with fail;refine(Yo H.out (H.out.new _ _ HW.out H1.out) (by omega) sV hc).mono ?_;rintro e w2 ⟨rfl,h2⟩;have H2:=hid (H1.out.trans h2);clear h2;go_wp2_with fail;refine(Yo H.out (H.out.new _ _ HW.out H2.out) Ac th (by omega)).mono ?_;rintro e w3 ⟨rfl,h3⟩;have H3:=hid (H2.out.trans h3);clear h3;go_wp2;go_returns;exact⟨rfl,H3.out⟩
theorem kO{D:World->Prop}{T:TypeId}{g:FuncId}{n:Int}{w:World}(h:GM D T v g rc n)(hw:D w){a:Int}(Ac:1<=a)(L9:a+1<n)(hn:n<=1000):
  Calls prog 122 #[.iface T v,.int .i64 a,sv] w λe w'=>e=.returned (.int .i64 a)/\za w w':=by
 have H:=hid h;have HW:=hid hw;clear h hw;go_enter func122,ntmps122;go_wp2_with fail;refine(Yp H.out HW.out (by omega) (by omega) (by omega) (by omega)).mono ?_;rintro e w1 ⟨rfl,h1⟩;have H1:=hid h1;clear h1;go_wp2;go_returns;exact⟨rfl,H1.out⟩
theorem J1{D:World->Prop}{T:TypeId}{g:FuncId}{n:Int}{w:World}(h:GM D T v g rc n)(hw:D w)(Tk:12<n)(hn:n<=1000):
  Calls prog 112 #[.iface T v,.int .i64 0,.int .i64 n] w λe w'=>∃p:Int,e=.returned (.tuple #[.int .i64 p,.int .i64 1])/\za w w':=by
 have H:=hid h;have HW:=hid hw;clear h hw;obtain⟨q,hq,pY,PL⟩:∃q:Int,n/4=q/\3<=q/\4*q<=n:=⟨n/4,rfl,by omega,by omega⟩;have h0:za w (w.alloc (.cells #[.int .i64 0] 3)):=(za.refl w).alloc _;have H0:=hid h0;have Ra:∀w',za (w.alloc (.cells #[.int .i64 0] 3)) w'->w'.cell? ⟨w.heap.size,0,none⟩=some (.int .i64 0):=λw' hn=>hn.le _ _ (by rw[cell_of_row _ w.heap.size 0 _ _ (0,0) (zg w _)];rfl);have Mc:=hid Ra;clear h0 Ra;by_cases h50:n<50
 ·go_enter func112,ntmps112;go_wp2_with fail;refine(Yp H.out (H.out.new _ _ HW.out H0.out) (by omega) (by omega) (by omega) (by omega)).mono ?_;rintro e w1 ⟨rfl,h1⟩;have k1:=Mc.out w1 h1;have H1:=hid (H0.out.trans h1);clear h1;go_wp2;go_returns;exact⟨_,rfl,H1.out⟩
 ·go_enter func112,ntmps112;go_wp2_with fail;refine(kO H.out (H.out.new _ _ HW.out H0.out) (by omega) (by omega) hn).mono ?_;rintro e w1 ⟨rfl,h1⟩;have H1:=hid h1;clear h1;go_wp2_with fail;refine(kO H.out (H.out.new _ _ HW.out (H0.out.trans H1.out)) (by omega) (by omega) hn).mono ?_;rintro e w2 ⟨rfl,h2⟩;have H2:=hid (H1.out.trans h2);clear h2;go_wp2_with fail;refine(kO H.out (H.out.new _ _ HW.out (H0.out.trans H2.out)) (by omega) (by omega) hn).mono ?_;rintro e w3 ⟨rfl,h3⟩;have H3:=hid (H2.out.trans h3);clear h3;go_wp2_with fail;refine(Yp H.out (H.out.new _ _ HW.out (H0.out.trans H3.out)) (by omega) (by omega) (by omega) (by omega)).mono ?_;rintro e w4 ⟨rfl,h4⟩;have k4:=Mc.out w4 (H3.out.trans h4);have H4:=hid (H0.out.trans (H3.out.trans h4));clear h4;go_wp2;go_returns;exact⟨_,rfl,H4.out⟩
theorem dQ{D:World->Prop}{T:TypeId}{g:FuncId}{n:Int}{w:World}(h:GM D T v g rc n)(hw:D w)(Tk:12<n)(hn:n<=1000):
  Calls prog 114 #[.iface T v,.int .i64 0,.int .i64 n] w λe w'=>e=.returned (.bool true)/\za w w':=by
 have Hm:=h.meth;have PT:=h.nil;have PN:=h.enter;have H:=hid h;have HW:=hid hw;clear h hw;go_enter func114,ntmps114;go_wp2;refine wp_loop_once ?_;go_wp2;go_loopw [7] (λi wr=>∃k:Int,0<k/\k<=n/\i=.int .i64 k/\za w wr) (λi _=>(n-intOf i).toNat)
 case atStart=>exact⟨1,by omega,by omega,by go_num,za.refl w⟩
 case round=>
  obtain⟨k,rh,se,rfl,hD⟩:=hrel;have HD:=hid hD;clear hD;by_cases Hb:k<n
  ·go_wp2_with (refine(H.out.ge _ _ _ (H.out.new _ _ HW.out HD.out) (by omega) (by omega) (by omega)).mono ?_;rintro e w1 ⟨rfl,PS⟩;have S6:=hid PS;clear PS);go_roundw
   case rel=>exact⟨k+1,by omega,by omega,by go_num,HD.out.trans S6.out⟩
   case measure=>simp[intOf];omega
  ·obtain rfl:k=n:=by omega
   go_wp2;go_returns;exact⟨rfl,HD.out⟩
theorem za0{D:World->Prop}{T:TypeId}{g:FuncId}{n lim:Int}{w:World}(h:GM D T v g rc n)(hw:D w)(h0:0<=n)(hl:0<lim)(hn:n<=1000):
  Calls prog 102 #[.iface T v,.int .i64 0,.int .i64 n,.int .i64 lim] w λe w'=>e=.returned (.tuple #[])/\za w w':=by
 have H:=hid h;have HW:=hid hw;clear h hw;by_cases Tk:12<n
 ·have S7:(lim==0)=false:=by simp;omega
  go_enter func102,ntmps102;go_wp2;refine wp_loop_once ?_;go_wp2_with fail;refine(J1 H.out HW.out Tk hn).mono ?_;rintro e w1 ⟨p,rfl,h1⟩;have H1:=hid h1;clear h1;go_wp2_with fail;refine(dQ H.out (H.out.new _ _ HW.out H1.out) Tk hn).mono ?_;rintro e w2 ⟨rfl,h2⟩;have H2:=hid (H1.out.trans h2);clear h2;go_wp2;go_returns;exact⟨rfl,H2.out⟩
 ·go_enter func102,ntmps102;go_wp2;refine wp_loop_once ?_;go_wp2_with fail;refine(xY H.out HW.out (by omega) (by omega) (by omega) hn).mono ?_;rintro e w1 ⟨rfl,h1⟩;have H1:=hid h1;clear h1;go_wp2;go_returns;exact⟨rfl,H1.out⟩
section
open Go.Shelf
def lays125_ren:Go.Shelf.Ren:=⟨λ|125=>101|128=>107|129=>108|n=>n,λ|46=>318|3=>3|51=>334|53=>39|4=>4|5=>5|9=>9|n=>n,λ|n=>n⟩
theorem lays125:Go.Proofs.Lays.n125 prog lays125_ren:={
 mixed:=by kernel_rfl
 f125:=func101.trans (congrArg some (by kernel_rfl))
 f128:=func107.trans (congrArg some (by kernel_rfl))
 f129:=func108.trans (congrArg some (by kernel_rfl))
 t3:=underlying3
 a3:=isAgg3
 z3:=sizeOf3
 v3:=zeroValue3
 t4:=underlying4
 a4:=isAgg4
 z4:=sizeOf4
 v4:=zeroValue4
 t5:=underlying5
 a5:=isAgg5
 z5:=sizeOf5
 v5:=zeroValue5
 t9:=underlying9
 a9:=isAgg9
 z9:=sizeOf9
 v9:=zeroValue9
 t46:=underlying318
 a46:=isAgg318
 z46:=sizeOf318
 v46:=zeroValue318
 t51:=underlying334
 a51:=isAgg334
 z51:=sizeOf334
 v51:=zeroValue334
 t53:=underlying39
 a53:=isAgg39
 z53:=sizeOf39
 v53:=zeroValue39}
theorem bits_Len(x:Int)(w:World)(h0:0<=x)(h1:x<=18446744073709551615):
  Calls prog 101 #[.int .u64 x] w λe w'=>e=.returned (.int .i64 (Lib.bitLen x.toNat))/\w'=w:=Any.bits_Len lays125 x w h0 h1
def lays192_ren:Go.Shelf.Ren:=⟨λ|192=>185|190=>189|125=>101|258=>190|128=>107|129=>108|302=>191|303=>192|304=>193|305=>194|306=>195|307=>196|308=>197|309=>198|310=>199|333=>200|329=>201|330=>202|334=>203|335=>204|336=>205|344=>206|n=>n,λ|31=>28|0=>0|9=>9|3=>3|46=>318|51=>334|53=>39|4=>4|183=>407|182=>406|131=>343|5=>5|218=>412|222=>349|228=>415|229=>352|n=>n,λ|n=>n⟩
theorem lays192:Go.Proofs.Lays.n192 prog lays192_ren:={
 mixed:=by kernel_rfl
 f125:=func101.trans (congrArg some (by kernel_rfl))
 f128:=func107.trans (congrArg some (by kernel_rfl))
 f129:=func108.trans (congrArg some (by kernel_rfl))
 f190:=func189.trans (congrArg some (by kernel_rfl))
 f192:=func185.trans (congrArg some (by kernel_rfl))
 f258:=func190.trans (congrArg some (by kernel_rfl))
 f302:=func191.trans (congrArg some (by kernel_rfl))
 f303:=func192.trans (congrArg some (by kernel_rfl))
 f304:=func193.trans (congrArg some (by kernel_rfl))
 f305:=func194.trans (congrArg some (by kernel_rfl))
 f306:=func195.trans (congrArg some (by kernel_rfl))
 f307:=func196.trans (congrArg some (by kernel_rfl))
 f308:=func197.trans (congrArg some (by kernel_rfl))
 f309:=func198.trans (congrArg some (by kernel_rfl))
 f310:=func199.trans (congrArg some (by kernel_rfl))
 f329:=func201.trans (congrArg some (by kernel_rfl))
 f330:=func202.trans (congrArg some (by kernel_rfl))
 f333:=func200.trans (congrArg some (by kernel_rfl))
 f334:=func203.trans (congrArg some (by kernel_rfl))
 f335:=func204.trans (congrArg some (by kernel_rfl))
 f336:=func205.trans (congrArg some (by kernel_rfl))
 f344:=func206.trans (congrArg some (by kernel_rfl))
 t0:=underlying0
 a0:=isAgg0
 z0:=sizeOf0
 v0:=zeroValue0
 t3:=underlying3
 a3:=isAgg3
 z3:=sizeOf3
 v3:=zeroValue3
 t4:=underlying4
 a4:=isAgg4
 z4:=sizeOf4
 v4:=zeroValue4
 t5:=underlying5
 a5:=isAgg5
 z5:=sizeOf5
 v5:=zeroValue5
 t9:=underlying9
 a9:=isAgg9
 z9:=sizeOf9
 v9:=zeroValue9
 t31:=underlying28
 a31:=isAgg28
 z31:=sizeOf28
 v31:=zeroValue28
 t46:=underlying318
 a46:=isAgg318
 z46:=sizeOf318
 v46:=zeroValue318
 t51:=underlying334
 a51:=isAgg334
 z51:=sizeOf334
 v51:=zeroValue334
 t53:=underlying39
 a53:=isAgg39
 z53:=sizeOf39
 v53:=zeroValue39
 t131:=underlying343
 a131:=isAgg343
 z131:=sizeOf343
 v131:=zeroValue343
 t182:=underlying406
 a182:=isAgg406
 z182:=sizeOf406
 v182:=zeroValue406
 t183:=underlying407
 a183:=isAgg407
 z183:=sizeOf407
 v183:=zeroValue407
 t218:=underlying412
 a218:=isAgg412
 z218:=sizeOf412
 v218:=zeroValue412
 t222:=underlying349
 a222:=isAgg349
 z222:=sizeOf349
 v222:=zeroValue349
 t228:=underlying415
 a228:=isAgg415
 z228:=sizeOf415
 v228:=zeroValue415
 t229:=underlying352
 a229:=isAgg352
 z229:=sizeOf352
 v229:=zeroValue352}
open Go.Sort Go.RowKit in
theorem sort_Strings(blk off cap:Nat)(ss:List (List UInt8))(w:World)(hH:Holds encStr w blk off ss.toArray)(bh:blk<w.heap.size)(pL:ss.length<4611686018427387904):
  Calls prog 185 #[.slice (some ⟨blk,off,none⟩) ss.length cap] w λe w'=>
   e=.returned (.tuple #[])/\∃n os,w'=grow (putRow encStr (Sort.ahead w n) blk off (ss.mergeSort λx y=>decide (x<=y)).toArray) os:=Any.sort_Strings lays192 blk off cap ss w hH bh pL
def laysGt11_ren:Go.Shelf.Ren:=⟨λ|11=>90|17=>101|18=>102|31=>107|32=>108|33=>109|34=>110|35=>111|36=>112|37=>113|38=>114|39=>115|40=>116|43=>119|44=>120|45=>121|46=>122|47=>123|50=>125|n=>n,λ|45=>315|3=>3|4=>4|47=>318|0=>0|56=>334|58=>39|61=>338|60=>337|65=>343|5=>5|9=>9|67=>346|71=>349|73=>351|74=>352|43=>316|26=>341|38=>345|n=>n,λ|n=>n⟩
theorem laysGt11:Go.Proofs.LaysGt.n11 prog laysGt11_ren:={
 mixed:=by kernel_rfl
 f11:=func90.trans (congrArg some (by kernel_rfl))
 f17:=func101.trans (congrArg some (by kernel_rfl))
 f18:=func102.trans (congrArg some (by kernel_rfl))
 f31:=func107.trans (congrArg some (by kernel_rfl))
 f32:=func108.trans (congrArg some (by kernel_rfl))
 f33:=func109.trans (congrArg some (by kernel_rfl))
 f34:=func110.trans (congrArg some (by kernel_rfl))
 f35:=func111.trans (congrArg some (by kernel_rfl))
 f36:=func112.trans (congrArg some (by kernel_rfl))
 f37:=func113.trans (congrArg some (by kernel_rfl))
 f38:=func114.trans (congrArg some (by kernel_rfl))
 f39:=func115.trans (congrArg some (by kernel_rfl))
 f40:=func116.trans (congrArg some (by kernel_rfl))
 f43:=func119.trans (congrArg some (by kernel_rfl))
 f44:=func120.trans (congrArg some (by kernel_rfl))
 f45:=func121.trans (congrArg some (by kernel_rfl))
 f46:=func122.trans (congrArg some (by kernel_rfl))
 f47:=func123.trans (congrArg some (by kernel_rfl))
 f50:=func125.trans (congrArg some (by kernel_rfl))
 t0:=underlying0
 a0:=isAgg0
 z0:=sizeOf0
 v0:=zeroValue0
 i0:=by kernel_rfl
 t3:=underlying3
 a3:=isAgg3
 z3:=sizeOf3
 v3:=zeroValue3
 i3:=by kernel_rfl
 t4:=underlying4
 a4:=isAgg4
 z4:=sizeOf4
 v4:=zeroValue4
 i4:=by kernel_rfl
 t5:=underlying5
 a5:=isAgg5
 z5:=sizeOf5
 v5:=zeroValue5
 i5:=by kernel_rfl
 t9:=underlying9
 a9:=isAgg9
 z9:=sizeOf9
 v9:=zeroValue9
 i9:=by kernel_rfl
 t26:=underlying341
 a26:=isAgg341
 z26:=sizeOf341
 v26:=zeroValue341
 i26:=by kernel_rfl
 t38:=underlying345
 a38:=isAgg345
 z38:=sizeOf345
 v38:=zeroValue345
 i38:=by kernel_rfl
 t43:=underlying316
 a43:=isAgg316
 z43:=sizeOf316
 v43:=zeroValue316
 i43:=by kernel_rfl
 t45:=underlying315
 a45:=isAgg315
 z45:=sizeOf315
 v45:=zeroValue315
 i45:=by kernel_rfl
 t47:=underlying318
 a47:=isAgg318
 z47:=sizeOf318
 v47:=zeroValue318
 i47:=by kernel_rfl
 t56:=underlying334
 a56:=isAgg334
 z56:=sizeOf334
 v56:=zeroValue334
 i56:=by kernel_rfl
 t58:=underlying39
 a58:=isAgg39
 z58:=sizeOf39
 v58:=zeroValue39
 i58:=by kernel_rfl
 t60:=underlying337
 a60:=isAgg337
 z60:=sizeOf337
 v60:=zeroValue337
 i60:=by kernel_rfl
 t61:=underlying338
 a61:=isAgg338
 z61:=sizeOf338
 v61:=zeroValue338
 i61:=by kernel_rfl
 t65:=underlying343
 a65:=isAgg343
 z65:=sizeOf343
 v65:=zeroValue343
 i65:=by kernel_rfl
 t67:=underlying346
 a67:=isAgg346
 z67:=sizeOf346
 v67:=zeroValue346
 i67:=by kernel_rfl
 t71:=underlying349
 a71:=isAgg349
 z71:=sizeOf349
 v71:=zeroValue349
 i71:=by kernel_rfl
 t73:=underlying351
 a73:=isAgg351
 z73:=sizeOf351
 v73:=zeroValue351
 i73:=by kernel_rfl
 t74:=underlying352
 a74:=isAgg352
 z74:=sizeOf352
 v74:=zeroValue352
 i74:=by kernel_rfl}
open Go.RowKit Go.Lib Go.Sort in
theorem sort_Sort_eq[Inhabited α](T:TypeId)(rv:Value)(gn gl gs:Nat)(rN:Reaches prog T rv "Len" gn)(rL:Reaches prog T rv "Less" gl)(rS:Reaches prog T rv "Swap" gs)(enc:α->Value)(lt:α->α->Bool)(hO:SWO lt)(blk off:Nat)(d:Array α)(h2:2<=d.size)(pL:d.size<4611686018427387904)(w:World)(h_:LenM prog gn rv d.size w)(MV:LessM prog gl rv enc lt blk off d.size w)(MW:SwapM prog gs rv enc blk off d.size)(hH:Holds enc w blk off d)(bh:blk<w.heap.size):
  Calls prog 90 #[.iface T rv] w λe w'=>e=.returned (.tuple #[])/\∃n os,w'=grow (putRow enc (Sort.ahead w n) blk off (pdq lt d 0 d.size (Lib.bitLen d.size) true true)) os:=Any.sort_Sort_eq laysGt11 T rv gn gl gs rN rL rS enc lt hO blk off d h2 pL w h_ MV MW hH bh
end
theorem fW(h:0<n):0<Lib.bitLen n:=by unfold Lib.bitLen;rw[Lib.bitLenAux,if_neg (by omega)];omega
structure zcl(D:World->Prop)(T:TypeId)(v:Value)(g:FuncId)(rc:Value)(n:Int):Prop where
 meth:∀W,(method 608 T v "Len").run prog W=.ok (g,rc) W
 nil:∀W,(nilAhead 608 T v "Len").run prog W=.ok (some false) W
 enter:∀args W,(callFunc g args).run prog W=.ok (.enter g args) W
 len:∀W,D W->Calls prog g #[rc] W λe w'=>e=.returned (.int .i64 n)/\za W w'
theorem D6{D:World->Prop}{T:TypeId}{rn:Value}{g gn:FuncId}{n:Int}{w:World}(h:GM D T v g rc n)(hN:zcl D T v gn rn n)(hw:D w)(h2:2<=n)(hn:n<=1000):
  Calls prog 90 #[.iface T v] w λe w'=>e=.returned (.tuple #[])/\za w w':=by
 have Hm:=hN.meth;have PT:=hN.nil;have PN:=hN.enter;have H:=hid h;have HN:=hid hN;have HW:=hid hw;clear h hw hN;go_enter func90,ntmps90;go_wp2_with fail;refine(HN.out.len _ HW.out).mono ?_;rintro e w1 ⟨rfl,h1⟩;have H1:=hid h1;clear h1;go_wp2_with fail;refine(bits_Len n _ (by omega) (by omega)).mono ?_;rintro e w2 ⟨rfl,rfl⟩;have hb:=fW (n:=n.toNat) (by omega);go_wp2_with fail;refine(za0 H.out (H.out.new _ _ HW.out H1.out) (by omega) (by omega) hn).mono ?_;rintro e w3 ⟨rfl,h3⟩;have H3:=hid (H1.out.trans h3);clear h3;go_wp2;go_returns;exact⟨rfl,H3.out⟩
end Go.Proofs.YtbmdoinjkligiaaGreat
