/- Contracts and laws that the last text joins. -/
import Derived.Maps.RangeWalk
import Derived.Handy
import Derived.Shelf.Small.Bits
import Derived.Shelf.Sort.Plain
import Derived.Shelf.GgSortMore.SortSort
import Derived.Test.YtbmdoinjkligiaaGreatM00
set_option maxRecDepth 100000
set_option maxHeartbeats 40000000
set_option linter.all false
namespace Go.Proofs.YtbmdoinjkligiaaGreat
open Tryz
open Lib(hid)
open Go.RowKit
variable{α β:Type}
theorem gh{es:List (α×β)}(hn:(es.map (·.1)).Nodup){e f:α×β}(he:e∈es)(hf:f∈es)(h:e.1=f.1):e=f:=by
 induction es with
 |nil=>simp at he
 |cons x es ih=>
  simp only[List.map_cons,List.nodup_cons]at hn;rcases List.mem_cons.1 he with e1|he
  ·rcases List.mem_cons.1 hf with f1|hf
   ·rw[e1,f1]
   ·exact absurd (List.mem_map.2 ⟨f,hf,by rw[<-h,e1]⟩) hn.1
  ·rcases List.mem_cons.1 hf with f1|hf
   ·exact absurd (List.mem_map.2 ⟨e,he,by rw[h,f1]⟩) hn.1
   ·exact ih hn.2 he hf
theorem Yr{es:List (zF×(Nat×Nat×List Bytes))}(hn:(es.map (·.1)).Nodup){b:zF}{x:Nat×Nat×List Bytes}(h:(b,x)∈es):yC es b=x.2.2:=by
 unfold yC
 induction es with
 |nil=>simp at h
 |cons e es ih=>
  simp only[List.map_cons,List.nodup_cons]at hn;rcases List.mem_cons.1 h with h|h
  ·rw[<-h];simp
  ·have hne: ¬e.1=b:=λe2=>hn.1 (List.mem_map.2 ⟨_,h,e2.symm⟩);simp only[List.find?_cons,hne,decide_false];exact ih hn.2 h
variable{F:Nat->Prop}{r:Rd}
theorem zR.keys{w:World}{m:Nat}{es:List (zF×(Nat×Nat×List Bytes))}(h:zR r w F m es):(es.map (·.1)).Nodup:=by
 have:=h.map.nodup
 rwa [List.map_map]at this
def yd(es:List (zF×(Nat×Nat×List Bytes)))(b:zF)(u:List Bytes):List (zF×(Nat×Nat×List Bytes)):=es.map λe=>if e.1=b then (e.1,e.2.1,e.2.2.1,u)else e
theorem Qk(f:zF->Nat->Nat->α)(es:List (zF×(Nat×Nat×List Bytes)))(b:zF)(u:List Bytes):(yd es b u).map (λe=>f e.1 e.2.1 e.2.2.1)=es.map (λe=>f e.1 e.2.1 e.2.2.1):=by unfold yd;rw[List.map_map];refine List.map_congr_left λe _=> ?_;simp only[Function.comp];split<;>rfl
theorem jZ(es:List (zF×(Nat×Nat×List Bytes)))(b:zF)(u:List Bytes):(yd es b u).flatMap (λe=>[e.2.1,e.2.2.1])=es.flatMap (λe=>[e.2.1,e.2.2.1]):=by
 unfold yd
 induction es with
 |nil=>rfl
 |cons e es ih=>simp only[List.map_cons,List.flatMap_cons,ih];split<;>rfl
theorem KF(es:List (zF×(Nat×Nat×List Bytes))){b:zF}(h:∃e∈es,e.1=b)(u:List Bytes)(c:zF):yC (yd es b u) c=if c=b then u else yC es c:=by
 unfold yC yd
 induction es with
 |nil=>obtain⟨e,he,_⟩:=h;simp at he
 |cons e es ih=>
  by_cases hb:e.1=b
  ·simp only[List.map_cons,hb,if_true,List.find?_cons];by_cases hc:c=b
   ·simp[hc]
   ·have: ¬b=c:=λe=>hc e.symm;simp only[this,decide_false,hc,if_false];clear ih h;congr 2
    induction es with
    |nil=>rfl
    |cons f es ih2=>
     by_cases hf:f.1=b
     ·simp only[List.map_cons,hf,if_true,List.find?_cons,this,decide_false];exact ih2
     ·simp only[List.map_cons,hf,if_false,List.find?_cons];split
      ·rfl
      ·exact ih2
  ·simp only[List.map_cons,hb,if_false,List.find?_cons];by_cases hc:e.1=c
   ·have: ¬c=b:=λh=>hb (hc.trans h);simp[hc,this]
   ·simp only[hc,decide_false];obtain⟨x,hx,hxb⟩:=h;rcases List.mem_cons.1 hx with rfl|hx
    ·exact absurd hxb hb
    ·exact ih ⟨x,hx,hxb⟩
theorem Ql{es:List (zF×(Nat×Nat×List Bytes))}(h:(es.flatMap λe=>[e.2.1,e.2.2.1]).Nodup){e f:zF×(Nat×Nat×List Bytes)}(he:e∈es)(hf:f∈es)(hne:e.1≠f.1):e.2.1≠f.2.1/\e.2.1≠f.2.2.1/\e.2.2.1≠f.2.1/\e.2.2.1≠f.2.2.1:=by
 induction es with
 |nil=>simp at he
 |cons x es ih=>
  simp only[List.flatMap_cons,List.nodup_append]at h;obtain⟨h1,h2,h3⟩:=h;have key:∀y∈es,∀p∈[x.2.1,x.2.2.1],∀q∈[y.2.1,y.2.2.1],p≠q:=λy hy p hp q hq=>h3 p hp q (List.mem_flatMap.2 ⟨y,hy,hq⟩);rcases List.mem_cons.1 he with rfl|he
  ·rcases List.mem_cons.1 hf with rfl|hf
   ·exact absurd rfl hne
   ·have k:=key f hf;exact⟨k _ (by simp) _ (by simp),k _ (by simp) _ (by simp),k _ (by simp) _ (by simp),k _ (by simp) _ (by simp)⟩
  ·rcases List.mem_cons.1 hf with rfl|hf
   ·have k:=key e (by assumption);exact⟨(k _ (by simp) _ (by simp)).symm,(k _ (by simp) _ (by simp)).symm,(k _ (by simp) _ (by simp)).symm,(k _ (by simp) _ (by simp)).symm⟩
   ·exact ih h2 he hf
variable{S:Nat->Prop}{kv vv:Value}{t:Nat}
theorem dV{w:World}{m:Nat}{es:List (zF×(Nat×Nat×List Bytes))}{b:zF}{k v:Bytes}(hS:∀j,S j->j<w.heap.size)(hSm:S m)(hFS:∀j,F j->S j)
  (hFm: ¬F m)(h3:w.cell? ⟨t,3,none⟩=some (.map (some m)))(h:zR (im S w) w F m es)(hu:(yC es b).length+1<512)(hsm:es.length<=1000)(hk:Bs (im S w) k kv)(hv:Bs (im S w) v vv):
  Calls prog 343 #[.pointer (some ⟨t,3,none⟩),b.val,kv,vv] w λe w'=>∃F' es',e=.returned (.tuple #[])/\zo (λj=>j=m\/F j) w w'/\(∀j,F j->F' j)/\(∀j,F' j->F j\/w.heap.size<=j/\j<w'.heap.size)/\
   zR (im (λj=>S j\/F' j) w') w' F' m es'/\es'.length<=es.length+1/\(∀x∈es'.flatMap (λe=>[e.2.1,e.2.2.1]),x∈es.flatMap (λe=>[e.2.1,e.2.2.1])\/w.heap.size<=x)/\∀c,yC es' c=yC es c++if c=b then [k]else []:=by
 by_cases hb:∃e∈es,e.1=b
 ·obtain⟨⟨b',bb,a,u⟩,he,hb'⟩:=hb;simp only at hb';subst hb';have hue:=Yr h.keys he;simp only at hue;refine(J4 hFS h3 h he (by rw[<-hue];exact hu) hk hv).mono ?_;rintro e w' ⟨rfl,hm,hbb⟩;obtain⟨o1,o2,o3⟩:=h.ok _ he;have hmF:zo F w w':=hm.mono λj _ e=>by rcases e with rfl|rfl;exact o1;exact o2
  have hle:(im S w).le (im S w'):=(hmF.mono (S':=S) λj _ e=>hFS j e).im λ_ _ h=>h;have hSF:∀j,(S j\/F j)->S j:=λj e=>by rcases e with e|e;exact e;exact hFS j e
  refine⟨F,yd es b' (u++[k]),rfl,hmF.mono λ_ _ e=>Or.inr e,λ_ e=>e,λ_ e=>Or.inl e,⟨?_,?_,?_⟩,?_,?_,?_⟩
  ·rw[Qk (λi x _=>(i,ptr x))];exact h.map.frame (hmF.block m h.map.lt hFm)
  ·intro f hf;unfold yd at hf;obtain⟨g,hg,rfl⟩:=List.mem_map.1 hf;by_cases hgb:g.1=b'
   ·rw[if_pos hgb];have:g=(b',bb,a,u):=gh h.keys hg he hgb;rw[this];exact⟨o1,o2,hbb.frame rfl rfl (jq hSF)⟩
   ·rw[if_neg hgb];obtain⟨q1,q2,q3⟩:=h.ok g hg;obtain⟨a1,a2,a3,a4⟩:=Ql h.apart hg he hgb;refine⟨q1,q2,q3.frame (hm.block _ q3.lt1 (λe=> ?_)) (hm.block _ q3.lt2 (λe=> ?_)) (hle.le_trans (jq hSF))⟩
    ·rcases e with e|e
     ·exact a1 e
     ·exact a2 e
    ·rcases e with e|e
     ·exact a3 e
     ·exact a4 e
  ·rw[jZ];exact h.apart
  ·unfold yd;simp
  ·intro x hx;rw[jZ]at hx;exact Or.inl hx
  ·intro c;rw[KF es ⟨_,he,rfl⟩];split
   ·rename_i hc;rw[hc,hue]
   ·simp
 ·have hnone:jt (es.map λe=>(e.1,ptr e.2.1)) b=none:=QR.2 λe he hne=>by
   obtain⟨f,hf,rfl⟩:=List.mem_map.1 he;exact hb ⟨f,hf,hne⟩
  refine(J5 hS hSm h3 h.map hnone (by simpa using hsm) hk hv).mono ?_;rintro e w' ⟨bb,a,rfl,hm,hb1,ha1,hne,hmap,hbb⟩;refine⟨λj=>F j\/j=bb\/j=a,es++[(b,bb,a,[k])],rfl,hm.mono λ_ _ e=>Or.inl e,λ_ e=>Or.inl e,?_,⟨?_,?_,?_⟩,by simp,?_,?_⟩
  ·intro j e;rcases e with e|rfl|rfl
   ·exact Or.inl e
   ·exact Or.inr ⟨hb1,hbb.lt1⟩
   ·exact Or.inr ⟨ha1,hbb.lt2⟩
  ·have:xx (es.map λe:zF×(Nat×Nat×List Bytes)=>(e.1,ptr e.2.1)) b (ptr bb)=(es++[(b,bb,a,[k])]).map (λe:zF×(Nat×Nat×List Bytes)=>(e.1,ptr e.2.1)):=by
    unfold xx;rw[hnone];simp
   rw[<-this];exact hmap
  ·have hle:(im S w).le (im (λj=>S j\/F j\/j=bb\/j=a) w'):=(hm.mono (S':=S) λ_ _ e=>by rw[e];exact hSm).im λj hj e=>by
    rcases e with e|e|e|e
    ·exact e
    ·exact hFS j e
    ·omega
    ·omega
   intro f hf;rcases List.mem_append.1 hf with hf|hf
   ·obtain⟨q1,q2,q3⟩:=h.ok f hf;refine⟨Or.inl q1,Or.inl q2,q3.frame (hm.block _ q3.lt1 (λe=>hFm (by rw[<-e];exact q1))) (hm.block _ q3.lt2 (λe=>hFm (by rw[<-e];exact q2))) hle⟩
   ·simp only[List.mem_singleton]at hf;subst hf;refine⟨Or.inr (Or.inl rfl),Or.inr (Or.inr rfl),hbb.frame rfl rfl (jq λj e=> ?_)⟩;rcases e with e|e|e
    ·exact Or.inl e
    ·exact Or.inl (hFS j e)
    ·exact Or.inr e
  ·rw[List.flatMap_append,List.nodup_append];refine⟨h.apart,by simpa using hne,?_⟩;intro x hx y hy hxy;obtain⟨f,hf,hxf⟩:=List.mem_flatMap.1 hx;obtain⟨q1,q2,q3⟩:=h.ok f hf;have hxl:x<w.heap.size:=by
    simp only[List.mem_cons,List.not_mem_nil,or_false]at hxf;rcases hxf with rfl|rfl
    ·exact q3.lt1
    ·exact q3.lt2
   simp only[List.flatMap_cons,List.flatMap_nil,List.append_nil,List.mem_cons,List.not_mem_nil,or_false]at hy;rcases hy with rfl|rfl<;>omega
  ·intro x hx;rw[List.flatMap_append]at hx;rcases List.mem_append.1 hx with hx|hx
   ·exact Or.inl hx
   ·simp only[List.flatMap_cons,List.flatMap_nil,List.append_nil,List.mem_cons,List.not_mem_nil,or_false]at hx;rcases hx with rfl|rfl
    ·exact Or.inr hb1
    ·exact Or.inr ha1
  ·intro c;have h0:yC es b=[]:=by
    unfold yC;have:es.find? (λe=>e.1=b)=none:=by rw[List.find?_eq_none];intro f hf;simp only[decide_eq_true_eq];exact λe=>hb ⟨f,hf,e⟩
    rw[this];rfl
   unfold yC;rw[List.find?_append];by_cases hc:c=b
   ·subst hc;have:es.find? (λe=>e.1=c)=none:=by
     rw[List.find?_eq_none];intro f hf;simp only[decide_eq_true_eq];exact λe=>hb ⟨f,hf,e⟩
    simp[this]
   ·have: ¬b=c:=λe=>hc e.symm;simp[hc,this]
theorem zR.lt{w:World}{m:Nat}{es:List (zF×(Nat×Nat×List Bytes))}(h:zR r w F m es):∀e∈es,e.2.1<w.heap.size/\e.2.2.1<w.heap.size:=λe he=>⟨(h.ok e he).2.2.lt1,(h.ok e he).2.2.lt2⟩
variable{r':Rd}{w':World}
theorem zR.mod{w:World}{T:Nat->Prop}{m:Nat}{es:List (zF×(Nat×Nat×List Bytes))}(h:zR r w F m es)(hT:zo T w w')(hm: ¬T m)(hF:∀b,F b->¬T b)(hr:r.le r'):zR r' w' F m es:=
 ⟨h.map.frame (hT.block _ h.map.lt hm),λe he=>⟨(h.ok e he).1,(h.ok e he).2.1,(h.ok e he).2.2.frame (hT.block _ (h.lt e he).1 (hF _ (h.ok e he).1)) (hT.block _ (h.lt e he).2 (hF _ (h.ok e he).2.1)) hr⟩,h.apart⟩
variable{sq:List (zF×Value)}
theorem zbq{w:World}{m sm:Nat}{es:List (zF×(Nat×Nat×List Bytes))}{b:zF}{k v:Bytes}(hS:∀j,S j->j<w.heap.size)(hSm:S m)(hSs:S sm)(hFS:∀j,F j->S j)
  (hFm: ¬F m)(hFs: ¬F sm)(hne:sm≠m)(h3:w.cell? ⟨t,3,none⟩=some (.map (some m)))(h4:w.cell? ⟨t,4,none⟩=some (.map (some sm)))(h:zR (im S w) w F m es)(hq:zD k6 w sm sq)(hql:sq.length<=1000)
  (hts:t≠sm)(hu:(yC es b).length+1<512)(hsm:es.length<=1000)(hk:Bs (im S w) k kv)(hv:Bs (im S w) v vv):
  Calls prog 340 #[.pointer (some ⟨t,3,none⟩),b.val,kv,vv] w λe w'=>∃F' es',e=.returned (.tuple #[])/\zo (λj=>j=m\/j=sm\/F j) w w'/\(∀j,F j->F' j)/\(∀j,F' j->F j\/w.heap.size<=j/\j<w'.heap.size)/\
   zR (im (λj=>S j\/F' j) w') w' F' m es'/\es'.length<=es.length+1/\(∀x∈es'.flatMap (λe=>[e.2.1,e.2.2.1]),x∈es.flatMap (λe=>[e.2.1,e.2.2.1])\/w.heap.size<=x)/\(∀c,yC es' c=yC es c++if c=b then [k]else [])/\zD k6 w' sm (xx sq b (.bool false)):=by
 have hlt:t<w.heap.size:=World.block_lt_of_cell? w _ h3;have HD:zo (λ_=>False) w ((w.alloc (.cells #[.int .i64 b.num,.string ⟨b.name.toArray⟩,.bool false] 428)).drew):=((za.refl w).alloc _).drew;obtain⟨w2,hput,hmap,hmod⟩:=zD.put (P:=prog) (t:=286) (e:=4) Zg (by kernel_rfl)
  (hq.frame (w':=(w.alloc (.cells #[.int .i64 b.num,.string ⟨b.name.toArray⟩,.bool false] 428)).drew) (Below.heap_alloc _ _ _ hq.lt)) (by simp only[maxLen];omega) b (.bool false)
 have hM2:zo (· =sm) w w2:=zo.trans (za.mod HD _) hmod λ_ _ h=>h;have hle:(im S w).le (im S w2):=(hM2.mono (S':=S) λ_ _ e=>by rw[e];exact hSs).im λ_ _ h=>h;have hpi:=dV (w:=w2) (t:=t) (b:=b) (λj e=>Nat.lt_of_lt_of_le (hS j e) hM2.size) hSm hFS hFm (hM2.cell (λe=>hts e) h3) (h.mod hM2 (λe=>hne e.symm) (λj e e2=>hFs (by rw[<-e2];exact e)) hle) hu hsm (hk.mono hle) (hv.mono hle);obtain⟨kp,kn,kc,rfl,_⟩:=hk.shape;obtain⟨vp,vn,vc,rfl,_⟩:=hv.shape;have HPI:=hid hpi;clear hpi;have HM2:=hid hM2;clear hM2;have HMAP:=hid hmap;clear hmap;have HMOD:=hid hmod;clear hmod;have HS:=hid hS;clear hS;have HFS:=hid hFS;clear hFS;have HH:=hid h;clear h;have hqlt:=hq.lt;clear hq hk hv HD hle;revert HPI;unfold zF.val;have HID:=xl b;have hmeth:=QS b.raw;generalize zF.raw b=raw at*
 intro HPI;go_enter func340,ntmps340;go_wp2;go_region_with (go_at_call 298;refine(HID _).mono ?_;rintro e w1 ⟨rfl,rfl⟩)
 all_goals
  go_wp2_with fail;refine HPI.out.mono ?_;rintro e w4 ⟨F',es',rfl,hm4,hf1,hf2,hbm,hlen,hfl,hus⟩;have HM4:=hid hm4;clear hm4;have HF1:=hid hf1;clear hf1;have HF2:=hid hf2;clear hf2;have HBM:=hid hbm;clear hbm;have HUS:=hid hus;clear hus;have HFL:=hid hfl;clear hfl;go_wp2;go_end0;have h2s:w.heap.size<=w2.heap.size:=HM2.out.size;refine⟨F',es',rfl,zo.trans (HM2.out.mono λ_ _ e=>Or.inr (Or.inl e)) HM4.out (λj _ e=>by rcases e with e|e;exact Or.inl e;exact Or.inr (Or.inr e)),HF1.out,λj e=> ?_,HBM.out,hlen,(λx hx=>by rcases HFL.out x hx with e|e;exact Or.inl e;exact Or.inr (by omega)),HUS.out,HMAP.out.frame (HM4.out.block _ (by omega) (λe=> ?_))⟩
  ·rcases HF2.out j e with e|⟨e1,e2⟩
   ·exact Or.inl e
   ·exact Or.inr ⟨by omega,e2⟩
  ·rcases e with e|e
   ·exact hne e
   ·exact hFs e
theorem za.undrew{w:World}(h:za w.drew w'):za w w':=⟨h.os,h.tape,h.output,h.size,h.block⟩
theorem vB(raw:Value)(W:World):(method 608 428 raw "Name").run prog W=.ok (300,raw) W:=by kernel_rfl
variable{bk j tx:Nat}{nm:Bytes}{nv:Value}{ps:yu}{wt:Bool}
theorem kw.upd{w:World}{db:Nat}{bs:List (Nat×z_)}(h:kw (im S w) w F tx db wt bs)(hFS:∀b,F b->S b){ps':yu}(hj:bs[j]? =some (bk,(nm,ps)))
  (hm:zo (· =bk) w w'){pv' fp:Value}(hb:w'.heap[bk]? =some (.cells #[ptr tx,nv,pv',fp] 328 (0,0)))(hn:Bs (im S w) nm nv)(hp:yV (im S w') ps' pv'):kw (im S w') w' F tx db wt (bs.set j (bk,(nm,ps'))):=by
 have hmem:(bk,(nm,ps))∈bs:=List.mem_of_getElem? hj;have hjl:=(List.getElem?_eq_some_iff.1 hj).1;obtain⟨⟨lv,h1,h2,h3⟩,h4,h5,h6⟩:=h;obtain⟨hFb,nv0,pv0,fp0,g1,g2,g3⟩:=h5 _ hmem;have hbt:tx≠bk:=λe=>by rw[<-e,h1]at g1;simp at g1
 have hle:(im S w).le (im S w'):=(hm.mono (S':=S) λ_ _ e=>by rw[e];exact hFS _ hFb).im λ_ _ h=>h;have hkeys:(bs.set j (bk,(nm,ps'))).map (λb=>b.1)=bs.map (λb=>b.1):=by
  rw[List.map_set];have hjm:(bs.map (λb=>b.1))[j]? =some bk:=by rw[List.getElem?_map,hj];rfl
  apply List.ext_getElem?;intro i;rw[List.getElem?_set];split
  ·rename_i e;subst e;rw[if_pos (by simpa using hjl),hjm]
  ·rfl
 have hlb:∀b,lv.ownBlock=some b->b≠bk:=λb hb e=>by
  rcases h2.2 with⟨rfl,_⟩|⟨g',cap,cur,rfl,_,hg',_⟩
  ·simp[Value.ownBlock]at hb
  ·simp[Value.ownBlock]at hb;subst hb;subst e;rw[g1]at hg';simp at hg'
 refine⟨⟨lv,(hm.block _ (Array.getElem?_eq_some_iff.1 h1).1 hbt).trans h1,?_,h3⟩,h4,λb hb'=> ?_,by rw[hkeys];exact h6⟩
 ·have e:(bs.set j (bk,(nm,ps'))).map (λb=>ptr b.1)=bs.map (λb=>ptr b.1):=by
   have:=congrArg (List.map ptr) hkeys;rw[List.map_map,List.map_map]at this;exact this
  rw[e,List.length_set];exact zU h2 λb hb'=>hm.block _ (World.ownsRow.lt h2 b hb').2 (hlb b hb')
 ·rcases List.mem_or_eq_of_mem_set hb' with hb2|rfl
  ·by_cases e:b.1=bk
   ·
    obtain⟨i,hi⟩:=List.getElem?_of_mem hb';rw[List.getElem?_set]at hi;split at hi
    ·rename_i e2;subst e2;cases hi;exact⟨hFb,nv,pv',fp,hb,hn.mono hle,hp⟩
    ·rename_i e2;have g1':(bs.map (λb=>b.1))[i]? =some bk:=by rw[List.getElem?_map,hi];simp[e]
     have g2':(bs.map (λb=>b.1))[j]? =some bk:=by rw[List.getElem?_map,hj];rfl
     exact absurd ((List.getElem?_inj (by simpa using hjl) h6).1 (g2'.trans g1'.symm)) e2
   ·obtain⟨q1,q2⟩:=h5 b hb2;refine⟨q1,q2.frame (hm.block _ ?_ e) hle⟩;obtain⟨_,_,_,q3,_⟩:=q2;exact(Array.getElem?_eq_some_iff.1 q3).1
  ·exact⟨hFb,nv,pv',fp,hb,hn.mono hle,hp⟩
def qW(w:World)(t wtx be pend m sm pdel:Nat):Prop:=w.heap[t]? =some (.cells #[ptr wtx,ptr be,.int .i64 pend,.map (some m),.map (some sm),.int .i64 pdel] 290 (0,0))
variable{be pdel pend wtx:Nat}
theorem gi{w:World}{m sm db:Nat}{b:zF}{bs:List (Nat×z_)}{k v:Bytes}(hS:∀b,S b->b<w.heap.size)(hFS:∀b,F b->S b)(hSt:S t)(hFt: ¬F t)
  (hbt:qW w t wtx be pend m sm pdel)(h:kw (im S w) w F wtx db true bs)(hj:bs[j]? =some (bk,(b.name,ps)))(hpl:zk (zG bs) b.name=j)(hfd:zx (zG bs) b.name=true)
  (hri:zM (zJ ps))(hsm:ps.length<=1000000)(hpe:pend<=1000000)(hk:Bs (im S w) k kv)(hv:Bs (im S w) v vv)(hk0:k≠[])(hkl:k.length<=1000000)(hvl:v.length<=100000000):
  Calls prog 342 #[ptr t,b.val,kv,vv,.bool false] w λe w'=>e=.returned (.tuple #[])/\zo (λj=>j=t\/F j) w w'/\qW w' t wtx be (pend+1) m sm pdel/\
   kw (im S w') w' F wtx db true (bs.set j (bk,(b.name,yj ps k v))):=by
 have hjl:=(List.getElem?_eq_some_iff.1 hj).1;have hje:=(List.getElem?_eq_some_iff.1 hj).2;obtain⟨hFb,nv,pv,fp,g1,g2,g3⟩:=h.hb _ (List.mem_of_getElem? hj);obtain⟨lv,hx,_⟩:=h.htx;have c0:w.cell? ⟨t,0,none⟩=some (ptr wtx):=by rw[cell_of_row w t 0 _ _ (0,0) hbt];rfl
 have hbkt:bk≠t:=λe=>hFt (by rw[<-e];exact hFb);have HNM:=jR b;have hmeth:=vB b.raw;have hfin:∀w1,za w w1->∀xv,Bs w1.cell? b.name xv->(∀q,xv.ownBlock=some q->w.heap.size<=q)->
   Calls prog 319 #[ptr wtx,xv] w1 λe w'=>e=.returned (ptr bk)/\w1=w':=by
  intro w1 hn1 xv hxv hfr;have hr:(im S w).le (im S w1):=za.im hn1 S;have ht1:kw (im S w1) w1 F wtx db true bs:=h.frame (λq hq=>hn1.block q (hS q (hFS q hq)) (λe=>e)) hr;have hx1:Bs (im S w1) b.name xv:=Bs.im_of (S:=S) (w:=w1) hxv λq hq e=>by have:=hfr q hq;have:=hS q e;omega
  have:=Zf ht1 (zd _ _) hx1 hjl hpl hfd;rw[hje]at this;exact this
 have HFIN:=hid hfin;clear hfin;have hput:∀w1,za w w1->Calls prog 344 #[ptr bk,kv,vv] w1 λe w2=>e=.returned .nilIface/\zo (λj=>j=t\/F j) w w2/\w2.heap[t]? =w.heap[t]? /\kw (im S w2) w2 F wtx db true (bs.set j (bk,(b.name,yj ps k v))):=by intro w1 hn1;have hr:(im S w).le (im S w1):=za.im hn1 S;have hx1:=hn1.heap hx;have ht1:kw (im S w1) w1 F wtx db true bs:=h.frame (λq hq=>hn1.block q (hS q (hFS q hq)) (λe=>e)) hr;refine(Ub (S:=S) (w:=w1) 328 (λq e=>Nat.lt_of_lt_of_le (hS q e) hn1.size) (hFS _ hFb) (g3.mono hr) hri hsm (hn1.heap g1) (by rw[cell_of_row w1 wtx 1 _ _ (0,0) hx1];rfl) (hk.mono hr) (hv.mono hr) hk0 hkl hvl).mono ?_;rintro e w2 ⟨rfl,pv',hb',hm',hp'⟩;have hm2:zo (· =bk) w w2:=zo.trans (za.mod hn1 _) hm' λ_ _ h=>h;refine⟨rfl,hm2.mono λq _ e=>Or.inr (by rw[e];exact hFb),hm2.block t (World.block_lt_of_cell? w _ c0) (λe=>hbkt e.symm),?_⟩;exact ht1.upd hFS hj hm' hb' (g2.mono hr) hp'
 have HPUT:=hid hput;clear hput;obtain⟨kp,kn,kc,rfl,_⟩:=hk.shape;obtain⟨vp,vn,vc,rfl,_⟩:=hv.shape;have HBT:=hid hbt;clear hbt;have ht:=World.block_lt_of_cell? w _ c0;clear hk hv h g1 g2 g3 hx hri hsm hje hj;unfold zF.val;generalize zF.raw b=raw at*
 go_enter func342,ntmps342;go_wp2;go_region_with (first|(go_at_call 300;refine(HNM _).mono ?_;rintro e w1 ⟨xv,rfl,hn1,hx1,hfr1⟩;have d0:w1.cell? ⟨t,0,none⟩=some (ptr wtx):=hn1.le _ _ c0;obtain⟨xp,xn,xc,rfl,_⟩:=hx1.shape;have HX1:=hid hx1;have HFR1:=hid hfr1;have HN1:=hid (za.undrew hn1);clear hx1 hfr1 hn1)|(go_at_call 319;refine(HFIN.out _ HN1.out _ HX1.out HFR1.out).mono ?_;rintro e w2 ⟨rfl,rfl⟩))
 all_goals
  go_wp2_with fail;refine(HPUT.out _ HN1.out).mono ?_;rintro e w2 ⟨rfl,hm2,ht2,hx2⟩;have hb2:w2.heap[t]? =some (.cells #[ptr wtx,ptr be,.int .i64 pend,.map (some m),.map (some sm),.int .i64 pdel] 290 (0,0)):=ht2.trans HBT.out;have q2:w2.cell? ⟨t,2,none⟩=some (.int .i64 pend):=by rw[cell_of_row w2 t 2 _ _ (0,0) hb2];rfl
  have f2:w2.frozen? ⟨t,2,none⟩=false:=by simp[World.frozen?,hb2]
  have HM2:=hid hm2;clear hm2;have HX2:=hid hx2;clear hx2;have HB2:=hid hb2;clear hb2;clear ht2;go_wp2;go_end0;have hmt:zo (· =t) w2 (w2.setCell ⟨t,2,none⟩ (.int .i64 ((pend:Int)+1))):=vA (S:=(· =t)) (zo.refl _ _) rfl _;refine⟨rfl,zo.trans HM2.out hmt (λ_ _ e=>Or.inl e),?_,?_⟩
  ·unfold qW;rw[heap_setCell_same w2 t 2 _ _ _ HB2.out];rfl
  ·exact HX2.out.frame (λq hq=>Below.heap_setCell _ _ _ _ (λe=>hFt (by subst e;exact hq))) ((hmt.mono (S':=S) λ_ _ e=>by rw[e];exact hSt).im λ_ _ h=>h)
theorem G0{w:World}{m sm db:Nat}{b:zF}{bs:List (Nat×z_)}{k:Bytes}(hS:∀b,S b->b<w.heap.size)(hFS:∀b,F b->S b)(hSt:S t)(hFt: ¬F t)
  (hbt:qW w t wtx be pend m sm pdel)(h:kw (im S w) w F wtx db true bs)(hj:bs[j]? =some (bk,(b.name,ps)))(hpl:zk (zG bs) b.name=j)(hfd:zx (zG bs) b.name=true)
  (hri:zM (zJ ps))(hsm:ps.length<=1000000)(hpe:pend<=1000000)(hk:Bs (im S w) k kv):
  Calls prog 338 #[ptr t,b.val,kv] w λe w'=>e=.returned (.tuple #[])/\zo (λj=>j=t\/F j) w w'/\qW w' t wtx be (pend+1) m sm pdel/\
   kw (im S w') w' F wtx db true (bs.set j (bk,(b.name,js ps k))):=by
 have hjl:=(List.getElem?_eq_some_iff.1 hj).1;have hje:=(List.getElem?_eq_some_iff.1 hj).2;obtain⟨hFb,nv,pv,fp,g1,g2,g3⟩:=h.hb _ (List.mem_of_getElem? hj);obtain⟨lv,hx,_⟩:=h.htx;have c0:w.cell? ⟨t,0,none⟩=some (ptr wtx):=by rw[cell_of_row w t 0 _ _ (0,0) hbt];rfl
 have hbkt:bk≠t:=λe=>hFt (by rw[<-e];exact hFb);have HNM:=jR b;have hmeth:=vB b.raw;have hfin:∀w1,za w w1->∀xv,Bs w1.cell? b.name xv->(∀q,xv.ownBlock=some q->w.heap.size<=q)->
   Calls prog 319 #[ptr wtx,xv] w1 λe w'=>e=.returned (ptr bk)/\w1=w':=by
  intro w1 hn1 xv hxv hfr;have hr:(im S w).le (im S w1):=za.im hn1 S;have ht1:kw (im S w1) w1 F wtx db true bs:=h.frame (λq hq=>hn1.block q (hS q (hFS q hq)) (λe=>e)) hr;have hx1:Bs (im S w1) b.name xv:=Bs.im_of (S:=S) (w:=w1) hxv λq hq e=>by have:=hfr q hq;have:=hS q e;omega
  have:=Zf ht1 (zd _ _) hx1 hjl hpl hfd;rw[hje]at this;exact this
 have HFIN:=hid hfin;clear hfin;have hput:∀w1,za w w1->Calls prog 341 #[ptr bk,kv] w1 λe w2=>e=.returned .nilIface/\zo (λj=>j=t\/F j) w w2/\w2.heap[t]? =w.heap[t]? /\kw (im S w2) w2 F wtx db true (bs.set j (bk,(b.name,js ps k))):=by intro w1 hn1;have hr:(im S w).le (im S w1):=za.im hn1 S;have hx1:=hn1.heap hx;have ht1:kw (im S w1) w1 F wtx db true bs:=h.frame (λq hq=>hn1.block q (hS q (hFS q hq)) (λe=>e)) hr;refine(V0 (S:=S) (w:=w1) 328 (λq e=>Nat.lt_of_lt_of_le (hS q e) hn1.size) (hFS _ hFb) (g3.mono hr) hri hsm (hn1.heap g1) (by rw[cell_of_row w1 wtx 1 _ _ (0,0) hx1];rfl) (hk.mono hr)).mono ?_;rintro e w2 ⟨rfl,pv',hb',hm',hp'⟩;have hm2:zo (· =bk) w w2:=zo.trans (za.mod hn1 _) hm' λ_ _ h=>h;refine⟨rfl,hm2.mono λq _ e=>Or.inr (by rw[e];exact hFb),hm2.block t (World.block_lt_of_cell? w _ c0) (λe=>hbkt e.symm),?_⟩;exact ht1.upd hFS hj hm' hb' (g2.mono hr) hp'
 have HPUT:=hid hput;clear hput;obtain⟨kp,kn,kc,rfl,_⟩:=hk.shape;have HBT:=hid hbt;clear hbt;have ht:=World.block_lt_of_cell? w _ c0;clear hk h g1 g2 g3 hx hri hsm hje hj;unfold zF.val;generalize zF.raw b=raw at*
 go_enter func338,ntmps338;go_wp2;go_region_with (first|(go_at_call 300;refine(HNM _).mono ?_;rintro e w1 ⟨xv,rfl,hn1,hx1,hfr1⟩;have d0:w1.cell? ⟨t,0,none⟩=some (ptr wtx):=hn1.le _ _ c0;obtain⟨xp,xn,xc,rfl,_⟩:=hx1.shape;have HX1:=hid hx1;have HFR1:=hid hfr1;have HN1:=hid (za.undrew hn1);clear hx1 hfr1 hn1)|(go_at_call 319;refine(HFIN.out _ HN1.out _ HX1.out HFR1.out).mono ?_;rintro e w2 ⟨rfl,rfl⟩))
 all_goals
  go_wp2_with fail;refine(HPUT.out _ HN1.out).mono ?_;rintro e w2 ⟨rfl,hm2,ht2,hx2⟩;have hb2:w2.heap[t]? =some (.cells #[ptr wtx,ptr be,.int .i64 pend,.map (some m),.map (some sm),.int .i64 pdel] 290 (0,0)):=ht2.trans HBT.out;have q2:w2.cell? ⟨t,2,none⟩=some (.int .i64 pend):=by rw[cell_of_row w2 t 2 _ _ (0,0) hb2];rfl
  have f2:w2.frozen? ⟨t,2,none⟩=false:=by simp[World.frozen?,hb2]
  have HM2:=hid hm2;clear hm2;have HX2:=hid hx2;clear hx2;have HB2:=hid hb2;clear hb2;clear ht2;go_wp2;go_end0;have hmt:zo (· =t) w2 (w2.setCell ⟨t,2,none⟩ (.int .i64 ((pend:Int)+1))):=vA (S:=(· =t)) (zo.refl _ _) rfl _;refine⟨rfl,zo.trans HM2.out hmt (λ_ _ e=>Or.inl e),?_,?_⟩
  ·unfold qW;rw[heap_setCell_same w2 t 2 _ _ _ HB2.out];rfl
  ·exact HX2.out.frame (λq hq=>Below.heap_setCell _ _ _ _ (λe=>hFt (by subst e;exact hq))) ((hmt.mono (S':=S) λ_ _ e=>by rw[e];exact hSt).im λ_ _ h=>h)
structure zN where
 be:Nat
 t:Nat
 rt:Nat
 db:Nat
 wtx:Nat
 rtx:Nat
 m:Nat
 sm:Nat
 m4:Nat
 cm:Nat
abbrev zu:=Nat->Nat
def zu.some(l:zu):Nat->Prop:=λb=>l b≠0
def zu.is(l:zu)(n:Nat):Nat->Prop:=λb=>l b=n
def zu.own(l:zu):Nat->Prop:=λb=>l b≠0/\l b<=11
structure zB(l:zu)(w:World)(l':zu)(w':World):Prop where
 mod:zo l.own w w'
 old:∀b,b<w.heap.size->l' b=l b
 new:∀b,w.heap.size<=b->l' b<=11
 bnd:∀b,l' b≠0->b<w'.heap.size
variable{l l':zu}
theorem zB.le{w:World}(h:zB l w l' w'):(im l.some w).le (im l'.some w'):=
 (h.mod.mono (S':=l.some) λ_ _ e=>e.1).im λb hb e=>by show l b≠0;rw[<-h.old b hb];exact e
theorem zB.size{w:World}(h:zB l w l' w'):w.heap.size<=w'.heap.size:=h.mod.size
variable{w'':World}
theorem zB.trans{l'':zu}{w:World}(h:zB l w l' w')(k:zB l' w' l'' w''):zB l w l'' w'' where
 mod:=h.mod.trans k.mod λb hb e=>by
  unfold zu.own at*
  rw[h.old b hb]at e;exact e
 old b hb:=by rw[k.old b (Nat.lt_of_lt_of_le hb h.size),h.old b hb]
 new b hb:=by
  by_cases hlt:b<w'.heap.size
  ·rw[k.old b hlt];exact h.new b hb
  ·exact k.new b (by omega)
 bnd:=k.bnd
theorem zB.refl{w:World}(h:∀b,l b≠0->b<w.heap.size):zB l w l w where
 mod:=zo.refl _ _
 old _ _:=rfl
 new b hb:=by
  by_cases e:l b=0
  ·omega
  ·have:=h b e;omega
 bnd:=h
theorem zB.ofNew{w:World}(h:∀b,l b≠0->b<w.heap.size)(hn:za w w'):zB l w l w' where
 mod:=hn.mod _
 old _ _:=rfl
 new b hb:=by
  by_cases e:l b=0
  ·omega
  ·have:=h b e;omega
 bnd b e:=Nat.lt_of_lt_of_le (h b e) hn.size
noncomputable def zu.add(l:zu)(F:Nat->Prop)(n:Nat):zu:=λb=>by classical exact if F b/\l b=0 then n else l b
variable{b n:Nat}
theorem zu.add_pos(h:F b)(h0:l b=0):l.add F n b=n:=by classical simp[zu.add,h,h0]
theorem zu.add_neg(h: ¬F b):l.add F n b=l b:=by classical simp[zu.add,h]
theorem zu.add_old(h:l b≠0):l.add F n b=l b:=by classical simp[zu.add,h]
abbrev zZ:=List (zF×(Nat×Nat×List Bytes))
structure j4(l:zu)(w:World)(I:zN)(C:List z_)(wb rb:List (Nat×z_))(pend pdel:Nat)(e2 e4:zZ):Prop where
 bnd:∀b,l b≠0->b<w.heap.size
 lab:l I.be=1/\l I.t=2/\l I.rt=3/\l I.db=4/\l I.m=5/\l I.sm=6/\l I.m4=7/\l I.cm=8
 be:∃n,w.heap[I.be]? =some (.cells #[.int .i64 n,ptr I.db,.int .i64 1000,ptr I.t,ptr I.rt,.pointer none,.int .u64 0,.nilIface,.nilFunc,.pointer none] 261 (0,0))
 bt:qW w I.t I.wtx I.be pend I.m I.sm pdel
 rt:∃(n:Int) (mu wg:Nat),w.heap[I.rt]? =some (.cells #[.map (some I.m4),.int .u64 n,ptr mu,ptr I.rtx,.map (some I.cm),ptr wg] 252 (0,0))
 db:∃dv,w.heap[I.db]? =some (.cells #[dv] 79 (0,0))/\jP (im l.some w) C dv
 wtx:kw (im l.some w) w (l.is 9) I.wtx I.db true wb
 rtx:kw (im l.some w) w (l.is 10) I.rtx I.db false rb
 buf2:zR (im l.some w) w (l.is 11) I.m e2
 buf4:zR (im l.some w) w (l.is 11) I.m4 e4
 apart:((e2++e4).flatMap λe=>[e.2.1,e.2.2.1]).Nodup
 sq:∃sq,zD k6 w I.sm sq/\∀e∈sq,∃b,e.2=.bool b
 cm:∃cs:List (zF×Value),zD k6 w I.cm cs/\∀c∈cs,∃x∈rb,x.2.1=c.1.name/\c.2=ptr x.1
variable{C:List z_}{e2 e4:zZ}{rb wb:List (Nat×z_)}
theorem j4.frame{w:World}{I:zN}(h:j4 l w I C wb rb pend pdel e2 e4)(hb:∀b,l' b≠0->b<w'.heap.size)
  (hl:∀b,l.own b->l' b=l b/\w'.heap[b]? =w.heap[b]?)(hr:(im l.some w).le (im l'.some w')):j4 l' w' I C wb rb pend pdel e2 e4:=by
 obtain⟨h1,⟨l1,l2,l3,l4,l5,l6,l7,l8⟩,⟨nb,h3⟩,h4,⟨nr,mu,wg,h5⟩,⟨dv,h6,h7⟩,h8,h9,h10,h11,h12,⟨sq,h13,hbo⟩,⟨cs,h14,h15⟩⟩:=h;have own:∀{b n},l b=n->n≠0->n<=11->l.own b:=λe h0 h1=>⟨by rw[e];exact h0,by rw[e];exact h1⟩;have o1:=hl _ (own l1 (by decide) (by decide));have o2:=hl _ (own l2 (by decide) (by decide));have o3:=hl _ (own l3 (by decide) (by decide));have o4:=hl _ (own l4 (by decide) (by decide));have o5:=hl _ (own l5 (by decide) (by decide));have o6:=hl _ (own l6 (by decide) (by decide));have o7:=hl _ (own l7 (by decide) (by decide));have o8:=hl _ (own l8 (by decide) (by decide));have f9:∀n,n≠0->n<=11->∀b,l.is n b->w'.heap[b]? =w.heap[b]? :=λn h0 h1 b e=>(hl b (own e h0 h1)).2;have g9:∀n,n≠0->n<=11->∀b,l.is n b->l'.is n b:=λn h0 h1 b e=>(hl b (own e h0 h1)).1.trans e
 refine⟨hb,⟨o1.1.trans l1,o2.1.trans l2,o3.1.trans l3,o4.1.trans l4,o5.1.trans l5,o6.1.trans l6,o7.1.trans l7,o8.1.trans l8⟩,⟨nb,o1.2.trans h3⟩,o2.2.trans h4,⟨nr,mu,wg,o3.2.trans h5⟩,⟨dv,o4.2.trans h6,h7.mono hr⟩,
  (h8.frame (f9 9 (by decide) (by decide)) hr).mono (g9 9 (by decide) (by decide)),(h9.frame (f9 10 (by decide) (by decide)) hr).mono (g9 10 (by decide) (by decide)),?_,?_,h12,⟨sq,h13.frame o6.2,hbo⟩,⟨cs,h14.frame o8.2,h15⟩⟩
 ·have:=h10.frame (w':=w') o5.2 (f9 11 (by decide) (by decide)) hr;exact⟨this.map,λe he=>⟨g9 11 (by decide) (by decide) _ (this.ok e he).1,g9 11 (by decide) (by decide) _ (this.ok e he).2.1,(this.ok e he).2.2⟩,this.apart⟩
 ·have:=h11.frame (w':=w') o7.2 (f9 11 (by decide) (by decide)) hr;exact⟨this.map,λe he=>⟨g9 11 (by decide) (by decide) _ (this.ok e he).1,g9 11 (by decide) (by decide) _ (this.ok e he).2.1,(this.ok e he).2.2⟩,this.apart⟩
theorem Qm{F':Nat->Prop}(hn:n≠0):(l.add F' n).some=λj=>l.some j\/F' j:=by
 funext j
 apply propext;by_cases h:l j=0
 ·by_cases hF:F' j
  ·show(l.add F' n j≠0)↔(l j≠0\/F' j);rw[zu.add_pos hF h];simp[hn,hF]
  ·show(l.add F' n j≠0)↔(l j≠0\/F' j);rw[zu.add_neg hF];simp[hF]
 ·show(l.add F' n j≠0)↔(l j≠0\/F' j);rw[zu.add_old h];simp[h]
theorem gj:∀l:List zF,l.Nodup->l.length<=3
 |[],_=>by simp
 |[_],_=>by simp
 |[_,_],_=>by simp
 |[_,_,_],_=>by simp
 |a::b::c::d::r,h=>by exfalso;simp only[List.nodup_cons,List.mem_cons,not_or]at h;cases a<;>cases b<;>cases c<;>cases d<;>simp_all
abbrev zl(es:zZ):List Nat:=es.flatMap λe=>[e.2.1,e.2.2.1]
variable{es:zZ}
theorem qm{e:zF×(Nat×Nat×List Bytes)}(h:e∈es):e.2.1∈zl es/\e.2.2.1∈zl es:=⟨List.mem_flatMap.2 ⟨e,h,by simp⟩,List.mem_flatMap.2 ⟨e,h,by simp⟩⟩
theorem zR.exact{w:World}{m:Nat}(h:zR r w F m es):zR r w (λx=>x∈zl es) m es:=
 ⟨h.map,λe he=>⟨(qm he).1,(qm he).2,(h.ok e he).2.2⟩,h.apart⟩
variable{x:Nat}
theorem zR.blocks{w:World}{m:Nat}(h:zR r w F m es)(hx:x∈zl es):F x/\x<w.heap.size:=by
 obtain⟨e,he,hxe⟩:=List.mem_flatMap.1 hx;simp only[List.mem_cons,List.not_mem_nil,or_false]at hxe;rcases hxe with rfl|rfl
 ·exact⟨(h.ok e he).1,(h.lt e he).1⟩
 ·exact⟨(h.ok e he).2.1,(h.lt e he).2⟩
variable{w1:World}
theorem zbr{w:World}{I:zN}{wb':List (Nat×z_)}(h:j4 l w I C wb rb pend pdel e2 e4){b:zF}{k v:Bytes}
  (hus:(yC e2 b).length<=500)(hk:Bs (im l.some w) k kv)(hv:Bs (im l.some w) v vv)(hm1:zo (λj=>j=I.t\/l.is 9 j) w w1)(hbt1:qW w1 I.t I.wtx I.be (pend+1) I.m I.sm pdel)(htx1:kw (im l.some w1) w1 (l.is 9) I.wtx I.db true wb'):
  Calls prog 340 #[.pointer (some ⟨I.t,3,none⟩),b.val,kv,vv] w1 λe w'=>∃l' e2',e=.returned (.tuple #[])/\zB l w l' w'/\(∀c,yC e2' c=yC e2 c++if c=b then [k]else [])/\
   j4 l' w' I C wb' rb (pend+1) pdel e2' e4:=by
 obtain⟨hbnd,⟨l1,l2,l3,l4,l5,l6,l7,l8⟩,⟨nb,h3⟩,_,⟨nr,mu,wg,h5⟩,⟨dv,h6,h7⟩,_,h9,h10,h11,h12,⟨sq,h13,hbo⟩,⟨cs,h14,h15⟩⟩:=h;have hown1:∀j,(j=I.t\/l.is 9 j)->l.some j:=λj e=>by
  rcases e with rfl|e
  ·show l _≠0;rw[l2];decide
  ·show l _≠0;rw[e];decide
 have hle1:(im l.some w).le (im l.some w1):=(hm1.mono (S':=l.some) λj _ e=>hown1 j e).im λ_ _ h=>h;have nt:∀{j n},l j=n->n≠2->n≠9->¬(j=I.t\/l.is 9 j):=λ{j n} e h2 h9 e2=>by
  rcases e2 with e2|e2
  ·rw[e2,l2]at e;exact h2 e.symm
  ·unfold zu.is at e2;rw[e]at e2;exact h9 e2
 have hb2:zR (im l.some w1) w1 (λx=>x∈zl e2) I.m e2:=(h10.exact).mod hm1 (nt l5 (by decide) (by decide)) (λx hx=>nt (h10.blocks hx).1 (by decide) (by decide)) hle1;have hS1:∀j,l.some j->j<w1.heap.size:=λj e=>Nat.lt_of_lt_of_le (hbnd j e) hm1.size;have c3:w1.cell? ⟨I.t,3,none⟩=some (.map (some I.m)):=by rw[cell_of_row w1 I.t 3 _ _ (0,0) hbt1];rfl
 have c4:w1.cell? ⟨I.t,4,none⟩=some (.map (some I.sm)):=by rw[cell_of_row w1 I.t 4 _ _ (0,0) hbt1];rfl
 have hsq1:zD k6 w1 I.sm sq:=h13.frame (hm1.block _ h13.lt (nt l6 (by decide) (by decide)));have hql:sq.length<=1000:=by have:=gj _ h13.nodup;simp only[List.length_map]at this;omega
 have hel:e2.length<=1000:=by have:=gj _ h10.keys;simp only[List.length_map]at this;omega
 refine(zbq (S:=l.some) (F:=λx=>x∈zl e2) (w:=w1) (b:=b) hS1 (by show l _≠0;rw[l5];decide) (by show l _≠0;rw[l6];decide) (λx hx=>by show l x≠0;rw[(h10.blocks hx).1];decide)
  (λhx=>by have:=(h10.blocks hx).1;unfold zu.is at this;rw[l5]at this;cases this) (λhx=>by have:=(h10.blocks hx).1;unfold zu.is at this;rw[l6]at this;cases this) (λe=>by rw[e,l5]at l6;cases l6) c3 c4 hb2 hsq1 hql
  (λe=>by rw[e,l6]at l2;cases l2) (by omega) hel (hk.mono hle1) (hv.mono hle1)).mono ?_
 rintro e w2 ⟨F',es',rfl,hm2,hf1,hf2,hbm,hlen,hfl,husd,hsq2⟩;have nt2:∀{j n},l j=n->n≠5->n≠6->j∉zl e2->¬(j=I.m\/j=I.sm\/j∈zl e2):=λ{j n} e h5 h6 h11 e2=>by
  rcases e2 with e2|e2|e2
  ·rw[e2,l5]at e;exact h5 e.symm
  ·rw[e2,l6]at e;exact h6 e.symm
  ·exact h11 e2
 have nb2:∀{j n},l j=n->n≠11->j∉zl e2:=λ{j n} e h11 hx=>by have:=(h10.blocks hx).1;unfold zu.is at this;rw[e]at this;exact h11 this
 have hT2:∀j,(j=I.m\/j=I.sm\/j∈zl e2)->l.own j:=λj e=>by
  rcases e with rfl|rfl|e
  ·exact⟨by rw[l5];decide,by rw[l5];decide⟩
  ·exact⟨by rw[l6];decide,by rw[l6];decide⟩
  ·have:=(h10.blocks e).1;unfold zu.is at this;exact⟨by rw[this];decide,by rw[this];decide⟩
 have hT1:∀j,(j=I.t\/l.is 9 j)->l.own j:=λj e=>by
  rcases e with rfl|e
  ·exact⟨by rw[l2];decide,by rw[l2];decide⟩
  ·unfold zu.is at e;exact⟨by rw[e];decide,by rw[e];decide⟩
 have hmod:zo l.own w w2:=(hm1.mono λj _ e=>hT1 j e).trans (hm2.mono λj _ e=>hT2 j e) λ_ _ e=>e;have hFb:∀j,F' j->(l.is 11 j)\/w1.heap.size<=j/\j<w2.heap.size:=λj e=>by
  rcases hf2 j e with e|e
  ·exact Or.inl (h10.blocks e).1
  ·exact Or.inr e
 have hle2:(im l.some w1).le (im (l.add F' 11).some w2):=by
  rw[Qm (by decide)];refine(hm2.mono (S':=l.some) λj _ e=>(hT2 j e).1).im λj hj e=> ?_;rcases e with e|e
  ·exact e
  ·rcases hFb j e with e|e
   ·show l j≠0;rw[e];decide
   ·omega
 have hle:(im l.some w).le (im (l.add F' 11).some w2):=hle1.le_trans hle2;have hkeep:∀{j n},l j=n->n≠0->(l.add F' 11) j=n:=λ{j n} e h0=>by rw[zu.add_old (by rw[e];exact h0)];exact e
 have same:∀{j n},l j=n->j<w.heap.size->n≠2->n≠9->n≠5->n≠6->j∉zl e2->w2.heap[j]? =w.heap[j]? :=λ{j n} e hj h2 h9 h5 h6 h11=>
  (hm2.block j (Nat.lt_of_lt_of_le hj hm1.size) (nt2 e h5 h6 h11)).trans (hm1.block j hj (nt e h2 h9))
 have same1:∀{j n},l j=n->j<w1.heap.size->n≠5->n≠6->n≠11->w2.heap[j]? =w1.heap[j]? :=λ{j n} e hj h5 h6 h11=>
  hm2.block j hj (nt2 e h5 h6 (nb2 e h11))
 have bnd:=λ{j n} (e:l j=n) (h0:n≠0)=>hbnd j (by rw[e];exact h0);have hbnd2:∀j,(l.add F' 11) j≠0->j<w2.heap.size:=λj e=>by
  by_cases h0:l j=0
  ·by_cases hF:F' j
   ·rcases hFb j hF with e2|e2
    ·unfold zu.is at e2;rw[h0]at e2;cases e2
    ·exact e2.2
   ·rw[zu.add_neg hF]at e;exact absurd h0 e
  ·exact Nat.lt_of_lt_of_le (hbnd j h0) hmod.size
 refine⟨l.add F' 11,es',rfl,⟨hmod,λj hj=> ?_,λj hj=> ?_,?_⟩,husd,⟨?_,⟨hkeep l1 (by decide),hkeep l2 (by decide),hkeep l3 (by decide),hkeep l4 (by decide),hkeep l5 (by decide),hkeep l6 (by decide),hkeep l7 (by decide),hkeep l8 (by decide)⟩,⟨nb,?_⟩,?_,⟨nr,mu,wg,?_⟩,⟨dv,?_,h7.mono hle⟩,?_,?_,?_,?_,?_,⟨_,hsq2,λe he=> ?_⟩,⟨cs,?_,h15⟩⟩⟩
 ·by_cases hF:F' j
  ·rcases hFb j hF with e|e
   ·rw[zu.add_old (by rw[e];decide)]
   ·have:=hm1.size;omega
  ·exact zu.add_neg hF
 ·by_cases hF:F' j
  ·have h0:l j=0:=by
    by_cases e:l j=0
    ·exact e
    ·have:=hbnd j e;omega
   rw[zu.add_pos hF h0];decide
  ·rw[zu.add_neg hF];by_cases e:l j=0
   ·omega
   ·have:=hbnd j e;omega
 ·exact hbnd2
 ·exact hbnd2
 ·rw[same l1 (bnd l1 (by decide)) (by decide) (by decide) (by decide) (by decide) (nb2 l1 (by decide))];exact h3
 ·show w2.heap[I.t]? =_;rw[same1 l2 (Nat.lt_of_lt_of_le (bnd l2 (by decide)) hm1.size) (by decide) (by decide) (by decide)];exact hbt1
 ·rw[same l3 (bnd l3 (by decide)) (by decide) (by decide) (by decide) (by decide) (nb2 l3 (by decide))];exact h5
 ·rw[same l4 (bnd l4 (by decide)) (by decide) (by decide) (by decide) (by decide) (nb2 l4 (by decide))];exact h6
 ·exact(htx1.frame (λj e=>same1 e (Nat.lt_of_lt_of_le (bnd e (by decide)) hm1.size) (by decide) (by decide) (by decide)) hle2).mono λj e=>hkeep e (by decide)
 ·exact(h9.frame (λj e=>same e (bnd e (by decide)) (by decide) (by decide) (by decide) (by decide) (nb2 e (by decide))) hle).mono λj e=>hkeep e (by decide)
 ·have hF11:∀j,F' j->(l.add F' 11).is 11 j:=λj e=>by
   by_cases h0:l j=0
   ·exact zu.add_pos e h0
   ·show l.add F' 11 j=11;rw[zu.add_old h0];rcases hFb j e with e|e
    ·exact e
    ·have:=hbnd j h0;have:=hm1.size;omega
  rw[Qm (by decide)];exact⟨hbm.map,λe he=>⟨hF11 _ (hbm.ok e he).1,hF11 _ (hbm.ok e he).2.1,(hbm.ok e he).2.2⟩,hbm.apart⟩
 ·have hnot:∀x,x∈zl e4->x∉zl e2:=λx hx hx2=>by
   rw[List.flatMap_append,List.nodup_append]at h12;exact h12.2.2 x hx2 x hx rfl
  have:=(h11.exact).frame (r':=im (l.add F' 11).some w2) (w':=w2) (same l7 (bnd l7 (by decide)) (by decide) (by decide) (by decide) (by decide) (nb2 l7 (by decide)))
   (λx hx=>same (h11.blocks hx).1 (h11.blocks hx).2 (by decide) (by decide) (by decide) (by decide) (hnot x hx)) hle
  exact⟨this.map,λe he=>⟨hkeep (h11.ok e he).1 (by decide),hkeep (h11.ok e he).2.1 (by decide),(this.ok e he).2.2⟩,this.apart⟩
 ·rw[List.flatMap_append,List.nodup_append]at h12⊢;refine⟨hbm.apart,h12.2.1,λx hx y hy e=> ?_⟩;subst e;rcases hfl x hx with e|e
  ·exact h12.2.2 x e x hy rfl
  ·have:=(h11.blocks hy).2;have:=hm1.size;omega
 ·unfold xx at he;split at he
  ·obtain⟨f,hf,rfl⟩:=List.mem_map.1 he;by_cases hx:f.1=b
   ·rw[if_pos hx];exact⟨false,rfl⟩
   ·rw[if_neg hx];exact hbo f hf
  ·rcases List.mem_append.1 he with he|he
   ·exact hbo e he
   ·simp only[List.mem_singleton]at he;subst he;exact⟨false,rfl⟩
 ·exact h14.frame (same l8 (bnd l8 (by decide)) (by decide) (by decide) (by decide) (by decide) (nb2 l8 (by decide)))
theorem qW.frozen{w:World}{m sm:Nat}(h:qW w t wtx be pend m sm pdel)(i:Nat):w.frozen? ⟨t,i,none⟩=false:=by unfold qW at h;simp[World.frozen?,h]
theorem qW.cell5{w:World}{m sm:Nat}(h:qW w t wtx be pend m sm pdel):w.cell? ⟨t,5,none⟩=some (.int .i64 pdel):=by unfold qW at h;rw[cell_of_row w t 5 _ _ (0,0) h];rfl
variable{bv:Value}
theorem gm{w:World}{R:World->Prop}(hA:Calls prog 342 #[ptr t,bv,kv,vv,.bool false] w λe w'=>e=.returned (.tuple #[])/\R w'):
  Calls prog 339 #[ptr t,bv,kv,vv] w λe w'=>e=.returned (.tuple #[])/\R w':=by
 have HA:=hid hA;clear hA;go_enter func339,ntmps339;go_wp2_with (go_at_call 342;go_must (refine HA.out.mono ?_);rintro e w1 ⟨rfl,g1⟩;have G1:=hid g1;clear g1);go_end0;exact⟨rfl,G1.out⟩
theorem zcP{w:World}{I:zN}(h:j4 l w I C wb rb pend pdel e2 e4){b:zF}{k v:Bytes}
  (hj:wb[j]? =some (bk,(b.name,ps)))(hpl:zk (zG wb) b.name=j)(hfd:zx (zG wb) b.name=true)(hri:zM (zJ ps))(hsm:ps.length<=1000000)(hpe:pend<=1000000)(hus:(yC e2 b).length<=500)
  (hk:Bs (im l.some w) k kv)(hv:Bs (im l.some w) v vv)(hk0:k≠[])(hkl:k.length<=1000000)(hvl:v.length<=100000000):
  Calls prog 335 #[ptr I.t,b.val,kv,vv] w λe w'=>∃l' e2',e=.returned (.tuple #[])/\zB l w l' w'/\(∀c,yC e2' c=yC e2 c++if c=b then [k]else [])/\
   j4 l' w' I C (wb.set j (bk,(b.name,yj ps k v))) rb (pend+1) pdel e2' e4:=by
 have l2:=h.lab.2.1;have hA:=gm (gi (S:=l.some) (F:=l.is 9) h.bnd (λj e=>by show l j≠0;rw[e];decide) (by show l _≠0;rw[l2];decide) (by show ¬(l _=9);rw[l2];decide) h.bt h.wtx hj hpl hfd hri hsm hpe hk hv hk0 hkl hvl);have hB:∀w1,zo (λj=>j=I.t\/l.is 9 j) w w1->qW w1 I.t I.wtx I.be (pend+1) I.m I.sm pdel->kw (im l.some w1) w1 (l.is 9) I.wtx I.db true (wb.set j (bk,(b.name,yj ps k v)))->
   Calls prog 340 #[.pointer (some ⟨I.t,3,none⟩),b.val,kv,vv] w1 λe w'=>∃l' e2',e=.returned (.tuple #[])/\zB l w l' w'/\(∀c,yC e2' c=yC e2 c++if c=b then [k]else [])/\
    j4 l' w' I C (wb.set j (bk,(b.name,yj ps k v))) rb (pend+1) pdel e2' e4:=λw1 h1 h2 h3=>zbr h hus hk hv h1 h2 h3
 obtain⟨kp,kn,kc,rfl,_⟩:=hk.shape;obtain⟨vp,vn,vc,rfl,_⟩:=hv.shape;have HA:=hid hA;clear hA;have HB:=hid hB;clear hB;clear h hk hv;unfold zF.val at HA HB⊢;generalize zF.raw b=raw at HA HB⊢;go_enter func335,ntmps335;go_wp2_with (first|(go_at_call 339;go_must (refine HA.out.mono ?_);rintro e w1 ⟨rfl,g1,g2,g3⟩;have G1:=hid g1;have G2:=hid g2;have G3:=hid g3;clear g1 g2 g3)|(go_at_call 340;go_must (refine(HB.out w1 G1.out G2.out G3.out).mono ?_);rintro e w2 ⟨l',e2',rfl,k1,k2,k3⟩;have K1:=hid k1;have K2:=hid k2;have K3:=hid k3;clear k1 k2 k3));go_end0;exact⟨l',e2',rfl,K1.out,K2.out,K3.out⟩
theorem kw.setT{w:World}{db:Nat}{bs:List (Nat×z_)}(h:kw (im S w) w F tx db wt bs)(hm:zo (· =t) w w')(ht:S t)(hF: ¬F t)(hlt:∀j,F j->j<w.heap.size):kw (im S w') w' F tx db wt bs:=
 h.frame (λj e=>hm.block j (hlt j e) (λe2=>hF (by rw[<-e2];exact e))) ((hm.mono (S':=S) λ_ _ e=>by rw[e];exact ht).im λ_ _ h=>h)
theorem j4.wtxTurned{w:World}{I:zN}{wb':List (Nat×z_)}{pend' pdel':Nat}(h:j4 l w I C wb rb pend pdel e2 e4)
  (hm1:zo (λj=>j=I.t\/l.is 9 j) w w1)(hbt1:qW w1 I.t I.wtx I.be pend' I.m I.sm pdel')(htx1:kw (im l.some w1) w1 (l.is 9) I.wtx I.db true wb'):zB l w l w1/\j4 l w1 I C wb' rb pend' pdel' e2 e4:=by
 obtain⟨hbnd,⟨l1,l2,l3,l4,l5,l6,l7,l8⟩,⟨nb,h3⟩,_,⟨nr,mu,wg,h5⟩,⟨dv,h6,h7⟩,_,h9,h10,h11,h12,⟨sq,h13,hbo⟩,⟨cs,h14,h15⟩⟩:=h;have nt:∀{j n},l j=n->n≠2->n≠9->¬(j=I.t\/l.is 9 j):=λ{j n} e h2 h9 e2=>by
  rcases e2 with e2|e2
  ·rw[e2,l2]at e;exact h2 e.symm
  ·unfold zu.is at e2;rw[e]at e2;exact h9 e2
 have hT1:∀j,(j=I.t\/l.is 9 j)->l.own j:=λj e=>by
  rcases e with rfl|e
  ·exact⟨by rw[l2];decide,by rw[l2];decide⟩
  ·unfold zu.is at e;exact⟨by rw[e];decide,by rw[e];decide⟩
 have hle:(im l.some w).le (im l.some w1):=(hm1.mono (S':=l.some) λj _ e=>(hT1 j e).1).im λ_ _ h=>h;have hb1:∀j,l j≠0->j<w1.heap.size:=λj e=>Nat.lt_of_lt_of_le (hbnd j e) hm1.size;have same:∀{j n},l j=n->n≠0->n≠2->n≠9->w1.heap[j]? =w.heap[j]? :=λ{j n} e h0 h2 h9=>hm1.block j (hbnd j (by rw[e];exact h0)) (nt e h2 h9);refine⟨⟨hm1.mono λj _ e=>hT1 j e,λ_ _=>rfl,λj hj=> ?_,hb1⟩,⟨hb1,⟨l1,l2,l3,l4,l5,l6,l7,l8⟩,⟨nb,?_⟩,hbt1,⟨nr,mu,wg,?_⟩,⟨dv,?_,h7.mono hle⟩,htx1,?_,?_,?_,h12,⟨sq,?_,hbo⟩,⟨cs,?_,h15⟩⟩⟩
 ·by_cases e:l j=0
  ·omega
  ·have:=hbnd j e;omega
 ·rw[same l1 (by decide) (by decide) (by decide)];exact h3
 ·rw[same l3 (by decide) (by decide) (by decide)];exact h5
 ·rw[same l4 (by decide) (by decide) (by decide)];exact h6
 ·exact h9.frame (λj e=>same e (by decide) (by decide) (by decide)) hle
 ·exact h10.frame (same l5 (by decide) (by decide) (by decide)) (λj e=>same e (by decide) (by decide) (by decide)) hle
 ·exact h11.frame (same l7 (by decide) (by decide) (by decide)) (λj e=>same e (by decide) (by decide) (by decide)) hle
 ·exact h13.frame (same l6 (by decide) (by decide) (by decide))
 ·exact h14.frame (same l8 (by decide) (by decide) (by decide))
theorem G7{w:World}{I:zN}(h:j4 l w I C wb rb pend pdel e2 e4){b:zF}{k:Bytes}
  (hj:wb[j]? =some (bk,(b.name,ps)))(hpl:zk (zG wb) b.name=j)(hfd:zx (zG wb) b.name=true)(hri:zM (zJ ps))(hsm:ps.length<=1000000)(hpe:pend<=1000000)(_hpd:pdel<=1000000)
  (hk:Bs (im l.some w) k kv):
  Calls prog 332 #[ptr I.t,b.val,kv] w λe w'=>e=.returned (.tuple #[])/\zB l w l w'/\j4 l w' I C (wb.set j (bk,(b.name,js ps k))) rb (pend+1) (pdel+1) e2 e4:=by
 have l2:=h.lab.2.1;have hF9:∀j,l.is 9 j->l.some j:=λj e=>by show l j≠0;rw[e];decide
 have hSt:l.some I.t:=by show l _≠0;rw[l2];decide
 have hFt: ¬l.is 9 I.t:=by show ¬(l _=9);rw[l2];decide
 have hA:=G0 (S:=l.some) (F:=l.is 9) h.bnd hF9 hSt hFt h.bt h.wtx hj hpl hfd hri hsm hpe hk;have hB:∀w1 w2,zo (λj=>j=I.t\/l.is 9 j) w w1->kw (im l.some w1) w1 (l.is 9) I.wtx I.db true (wb.set j (bk,(b.name,js ps k)))->zo (· =I.t) w1 w2->qW w2 I.t I.wtx I.be (pend+1) I.m I.sm (pdel+1)->
   zB l w l w2/\j4 l w2 I C (wb.set j (bk,(b.name,js ps k))) rb (pend+1) (pdel+1) e2 e4:=λw1 w2 h1 h3 h4 h5=>
  h.wtxTurned (zo.trans h1 h4 λ_ _ e=>Or.inl e) h5 (h3.setT h4 hSt hFt λj e=>Nat.lt_of_lt_of_le (h.bnd j (hF9 j e)) h1.size)
 obtain⟨kp,kn,kc,rfl,_⟩:=hk.shape;have HA:=hid hA;clear hA;have HB:=hid hB;clear hB;clear h hk hF9 hSt hFt;unfold zF.val at HA⊢;generalize zF.raw b=raw at HA⊢;go_enter func332,ntmps332;go_wp2_with (go_at_call 338;go_must (refine HA.out.mono ?_);rintro e w1 ⟨rfl,g1,g2,g3⟩;have q5:w1.cell? ⟨I.t,5,none⟩=some (.int .i64 pdel):=g2.cell5;have f5:w1.frozen? ⟨I.t,5,none⟩=false:=g2.frozen 5;have G1:=hid g1;have G2:=hid g2;have G3:=hid g3;clear g1 g2 g3);go_end0;refine⟨rfl,HB.out w1 _ G1.out G3.out (vA (S:=(· =I.t)) (zo.refl _ _) rfl _) ?_⟩;unfold qW;rw[heap_setCell_same w1 I.t 5 _ _ _ G2.out];rfl
variable{cc:Nat}
theorem xz{w:World}(h:za w w')(hc:w.heap.size<=cc):(im S w).le (im (λb=>S b\/b=cc) w'):=
 (za.mod h S).im λj hj e=>by
  rcases e with e|e
  ·exact e
  ·omega
theorem dW{w:World}{m sm db:Nat}{b:zF}{bs:List (Nat×z_)}{k:Bytes}{lim:Int}(hS:∀b,S b->b<w.heap.size)(hFS:∀b,F b->S b)
  (hbt:qW w t wtx be pend m sm pdel)(h:kw (im S w) w F wtx db true bs)(hj:bs[j]? =some (bk,(b.name,ps)))(hpl:zk (zG bs) b.name=j)(hfd:zx (zG bs) b.name=true)
  (hri:zM (zJ ps))(hne:∀p∈ps,p.1≠[])(hsm:ps.length<=1000000)(hk:Bs (im S w) k kv):
  Calls prog 336 #[ptr t,b.val,kv,.slice none 0 0,.int .i64 lim] w λe w'=>∃ks vs,e=.returned (.tuple #[ks,vs])/\za w w'/\qQ (im S w') (qZ ps k).toList vs:=by
 have hjl:=(List.getElem?_eq_some_iff.1 hj).1;have hje:=(List.getElem?_eq_some_iff.1 hj).2;obtain⟨hFb,nv,pv,fp,g1,g2,g3⟩:=h.hb _ (List.mem_of_getElem? hj);have c0:w.cell? ⟨t,0,none⟩=some (ptr wtx):=by rw[cell_of_row w t 0 _ _ (0,0) hbt];rfl
 have HNM:=jR b;have hmeth:=vB b.raw;have hfin:∀w1,za w w1->∀xv,Bs w1.cell? b.name xv->(∀q,xv.ownBlock=some q->w.heap.size<=q)->
   Calls prog 319 #[ptr wtx,xv] w1 λe w'=>e=.returned (ptr bk)/\w1=w':=by
  intro w1 hn1 xv hxv hfr;have hr:(im S w).le (im S w1):=za.im hn1 S;have ht1:kw (im S w1) w1 F wtx db true bs:=h.frame (λq hq=>hn1.block q (hS q (hFS q hq)) (λe=>e)) hr;have hx1:Bs (im S w1) b.name xv:=Bs.im_of (S:=S) (w:=w1) hxv λq hq e=>by have:=hfr q hq;have:=hS q e;omega
  have:=Zf ht1 (zd _ _) hx1 hjl hpl hfd;rw[hje]at this;exact this
 have HFIN:=hid hfin;clear hfin;have hcur:∀w1,za w w1->Calls prog 255 #[ptr bk] w1 λe w2=>e=.returned (ptr w1.heap.size)/\za w w2/\
   (∀lim:Int,Calls prog 320 #[ptr w1.heap.size,kv,.slice none 0 0,.int .i64 lim] w2 λe w3=>∃ks vs,e=.returned (.tuple #[ks,vs])/\za w w3/\qQ (im S w3) (qZ ps k).toList vs):=by
  intro w1 hn1;have hb1:=hn1.heap g1;have c2:w1.cell? ⟨bk,2,none⟩=some pv:=by rw[cell_of_row w1 bk 2 _ _ (0,0) hb1];rfl
  refine(x7 c2 g3.shape).mono ?_;rintro e w2 ⟨rfl,rfl⟩;have hn2:za w (w1.alloc (.cells #[pv,.int .i64 0,ptr bk] 486)):=zo.alloc hn1 _;refine⟨rfl,hn2,λlim=> ?_⟩;have hcc:=zg w1 (.cells #[pv,.int .i64 0,ptr bk] 486);have hbl:bk<w1.heap.size:=World.block_lt_of_cell? w1 _ c2;have hle:=xz (S:=S) hn2 hn1.size;refine(Z0 (S:=S) (bk:=bk) (ps:=ps) (pv:=pv) (x:=k) (lim:=lim) (λq e=>Nat.lt_of_lt_of_le (hS q e) hn2.size) (by simp) (by rw[cell_of_row _ w1.heap.size 0 _ _ (0,0) hcc];rfl) (by rw[cell_of_row _ w1.heap.size 1 _ _ (0,0) hcc];rfl) (by rw[cell_of_row _ w1.heap.size 2 _ _ (0,0) hcc];rfl)
   (by unfold World.frozen?;rw[hcc];rfl) (by omega) (by rw[World.cell?_alloc_lt _ _ _ (by simpa using hbl)];exact c2) (g3.mono hle) hri hne hsm (hk.mono hle)).mono ?_
  rintro e w3 ⟨ks,vs,rfl,hm3,_,hv3⟩;exact⟨ks,vs,rfl,zo.trans hn2 hm3 (λq hq e=>by have:=hn1.size;omega),hv3⟩
 have HCUR:=hid hcur;clear hcur;obtain⟨kp,kn,kc,rfl,_⟩:=hk.shape;have ht:=World.block_lt_of_cell? w _ c0;clear hk h g1 g2 g3 hri hsm hje hj hbt hne;unfold zF.val;generalize zF.raw b=raw at*
 go_enter func336,ntmps336;go_wp2;go_region_with (first|(go_at_call 300;refine(HNM _).mono ?_;rintro e w1 ⟨xv,rfl,hn1,hx1,hfr1⟩;have d0:w1.cell? ⟨t,0,none⟩=some (ptr wtx):=hn1.le _ _ c0;obtain⟨xp,xn,xc,rfl,_⟩:=hx1.shape;have HX1:=hid hx1;have HFR1:=hid hfr1;have HN1:=hid (za.undrew hn1);clear hx1 hfr1 hn1)|(go_at_call 319;refine(HFIN.out _ HN1.out _ HX1.out HFR1.out).mono ?_;rintro e w2 ⟨rfl,rfl⟩))
 all_goals
  go_wp2_with (first|(go_at_call 255;go_must (refine(HCUR.out _ HN1.out).mono ?_);rintro e w2 ⟨rfl,hn2,hur⟩;have HN2:=hid hn2;have HUR:=hid hur;clear hn2 hur)|(go_at_call 320;go_must (refine(HUR.out _).mono ?_);rintro e w3 ⟨ks,vs,rfl,hn3,hv3⟩;have HN3:=hid hn3;have HV3:=hid hv3;clear hn3 hv3));go_ret2;exact⟨_,_,rfl,HN3.out,HV3.out⟩
theorem zP.drew{kf:α->Value}{w:World}{m r:Nat}{es left:List (α×Value)}(h:zP kf w m r es left):zP kf w.drew m r es left:=h
abbrev vX(e:zF×(Nat×Nat×List Bytes)):zF×Value:=(e.1,ptr e.2.1)
variable{a bb:Nat}
theorem jv.used{w:World}{u:List Bytes}(h:jv r w bb a u):w.cell? ⟨bb,1,none⟩=some (.int .i64 u.length)/\w.frozen? ⟨bb,1,none⟩=false:=
 ⟨by rw[cell_of_row w bb 1 _ _ (0,0) h.1];rfl,by simp[World.frozen?,h.1]⟩
theorem jv.empty{w:World}{u:List Bytes}(h:jv r w bb a u):jv r' (w.setCell ⟨bb,1,none⟩ (.int .i64 0)) bb a []:=by
 obtain⟨g1,g2,arr,g3,g4,g5,g6⟩:=h;have hab:a≠bb:=by intro e;subst e;rw[g1]at g3;simp at g3
 refine⟨by rw[heap_setCell_same w bb 1 _ _ _ g1];rfl,by decide,arr,by rw[Below.heap_setCell _ _ _ _ hab];exact g3,g4,g5,λi hi=>absurd hi (Nat.not_lt_zero i)⟩
structure kH(S F:Nat->Prop)(w wr:World)(m R:Nat)(es cur:zZ)(left:List (zF×Value)):Prop where
 rng:zP k6 wr m R (cur.map vX) left
 mod:zo (λj=>j=m\/j∈zl es) w wr
 buf:zR (im S wr) wr F m cur
 done:∀e∈cur,e.2.2.2=[]\/vX e∈left
 sub:∀e∈cur,∃f∈es,f.1=e.1/\f.2.1=e.2.1/\f.2.2.1=e.2.2.1
 fresh:w.heap.size<=R
 nd:(left.map (·.1)).Nodup
theorem ZH(h:(es.flatMap λe=>[e.2.1,e.2.2.1]).Nodup)(p:zF×(Nat×Nat×List Bytes)->Bool):((es.filter p).flatMap λe=>[e.2.1,e.2.2.1]).Nodup:=by
 induction es with
 |nil=>simp
 |cons e es ih=>
  simp only[List.flatMap_cons,List.nodup_append]at h;obtain⟨h1,h2,h3⟩:=h;by_cases hp:p e=true
  ·rw[List.filter_cons_of_pos hp];simp only[List.flatMap_cons,List.nodup_append];refine⟨h1,ih h2,λx hx y hy=>h3 x hx y ?_⟩;obtain⟨f,hf,hyf⟩:=List.mem_flatMap.1 hy;exact List.mem_flatMap.2 ⟨f,(List.mem_filter.1 hf).1,hyf⟩
  ·rw[List.filter_cons_of_neg (by simpa using hp)];exact ih h2
theorem KG(cur:zZ)(b:zF):yK (cur.map vX) b=(cur.filter λe=>e.1≠b).map vX:=by unfold yK;rw[List.filter_map];rfl
theorem zP.notCells{kf:α->Value}{w:World}{m r:Nat}{es left:List (α×Value)}(h:zP kf w m r es left){c:Array Value}{T:TypeId}{g:Nat×Nat}(hj:w.heap[j]? =some (.cells c T g)):j≠m/\j≠r:=by obtain⟨a,ck,s,n,c0,h1,h2,h3,h4,h5⟩:=h;exact⟨λe=>(by subst e;rw[h1]at hj;cases hj),λe=>(by subst e;rw[h4]at hj;cases hj)⟩
theorem Qn[DecidableEq α]{es:List (α×Value)}{x:α}{e:α×Value}:e∈yK es x↔e∈es/\e.1≠x:=by unfold yK;simp
theorem Jk[DecidableEq α](es:List (α×Value))(x:α):yK (yK es x) x=yK es x:=by unfold yK;rw[List.filter_filter];simp
theorem ZI[DecidableEq α]{es:List (α×Value)}(h:(es.map (·.1)).Nodup)(x:α):((yK es x).map (·.1)).Nodup:=by
 unfold yK
 induction es with
 |nil=>simp
 |cons e es ih=>
  simp only[List.map_cons,List.nodup_cons]at h;by_cases he:e.1=x
  ·rw[List.filter_cons_of_neg (by simp[he])];exact ih h.2
  ·rw[List.filter_cons_of_pos (by simpa using he)];simp only[List.map_cons,List.nodup_cons];refine⟨λhm=>h.1 ?_,ih h.2⟩;obtain⟨f,hf,hfe⟩:=List.mem_map.1 hm;exact List.mem_map.2 ⟨f,(List.mem_filter.1 hf).1,hfe⟩
variable{wr:World}
theorem kH.blocks{w:World}{m R:Nat}{cur:zZ}{left:List (zF×Value)}(h:kH S F w wr m R es cur left){e:zF×(Nat×Nat×List Bytes)}(he:e∈cur):e.2.1∈zl es/\e.2.2.1∈zl es:=by obtain⟨f,hf,_,h2,h3⟩:=h.sub e he;rw[<-h2,<-h3];exact qm hf
variable{v:Value}
theorem Qo{cur:zZ}{x:zF}(hx:(x,v)∈cur.map vX):∃bb a u,(x,bb,a,u)∈cur/\v=ptr bb:=by obtain⟨e,he,hk⟩:=List.mem_map.1 hx;obtain⟨id,bb,a,u⟩:=e;simp only[vX,Prod.mk.injEq]at hk;obtain⟨rfl,rfl⟩:=hk;exact⟨bb,a,u,he,rfl⟩
theorem zP.noCell{kf:α->Value}{w:World}{m r:Nat}{es left:List (α×Value)}(h:zP kf w m r es left){a:Addr}(ha:a.block=m\/a.block=r):w.cell? a=none:=by
 obtain⟨ar,ck,s,n,c0,h1,h2,h3,h4,h5⟩:=h;rcases ha with e|e
 ·rw[<-e]at h1;simp[World.cell?,h1]
 ·rw[<-e]at h4;simp[World.cell?,h4]
theorem zD.noCell{kf:α->Value}{w:World}{m:Nat}{es:List (α×Value)}(h:zD kf w m es){a:Addr}(ha:a.block=m):w.cell? a=none:=by obtain⟨ar,ck,h1,_⟩:=h;rw[<-ha]at h1;simp[World.cell?,h1]
theorem Qp{T:Nat->Prop}{w:World}(h:zo T w w')(hT:∀a:Addr,T a.block->w.cell? a=none):(im S w).le (im S w'):=λa v ha=>by obtain⟨h1,h2⟩:=zi.1 ha;exact zi.2 ⟨h1,h.cell (λe=>by rw[hT a e]at h2;cases h2) h2⟩
variable{w2:World}
theorem kH.drop{w:World}{m R:Nat}{cur:zZ}{left:List (zF×Value)}(h:kH S F w wr m R es cur left)(hFS:∀j,F j->S j){x:zF}{u:List Bytes}(he:(x,bb,a,u)∈cur)
  (hr1:zP k6 w1 m R (cur.map vX) (yK left x))(hm1:zo (· =R) wr w1)(hr2:zP k6 w2 m R (yK (cur.map vX) x) (yK (yK left x) x))(hm2:zo (· =m) w1 w2):
  kH S F w (w2.setCell ⟨bb,1,none⟩ (.int .i64 0)) m R es (cur.filter λe=>e.1≠x) (yK left x):=by
 have hwr:w.heap.size<=wr.heap.size:=h.mod.size;obtain⟨o1,o2,o3⟩:=h.buf.ok _ he;have hbS:=hFS _ o1;have hle1:(im S wr).le (im S w1):=Qp hm1 λa e=>h.rng.noCell (Or.inr e);have hle2:(im S w1).le (im S w2):=Qp hm2 λa e=>hr1.noCell (Or.inl e);have hms:zo (· =bb) w2 (w2.setCell ⟨bb,1,none⟩ (.int .i64 0)):=vA (S:=(· =bb)) (zo.refl _ _) rfl _;have hle3:(im S w2).le (im S (w2.setCell ⟨bb,1,none⟩ (.int .i64 0))):=(hms.mono (S':=S) λ_ _ e=>by rw[e];exact hbS).im λ_ _ h=>h;have hle:=(hle1.le_trans hle2).le_trans hle3;have hnc:∀e∈cur,(e.2.1≠m/\e.2.1≠R)/\(e.2.2.1≠m/\e.2.2.1≠R):=λe he'=>by obtain⟨_,_,q⟩:=h.buf.ok e he';obtain⟨q1,_,ar,q3,_⟩:=q;exact⟨h.rng.notCells q1,h.rng.notCells q3⟩
 have hb12:∀j,j≠m->j≠R->j<wr.heap.size->w2.heap[j]? =wr.heap[j]? :=λj h1 h2 hj=>
  (hm2.block j (Nat.lt_of_lt_of_le hj hm1.size) h1).trans (hm1.block j hj h2)
 have hbm:bb≠m/\bb≠R:=(hnc _ he).1;refine⟨?_,?_,⟨?_,?_,ZH h.buf.apart _⟩,?_,?_,h.fresh,ZI h.nd x⟩
 ·rw[KG,Jk]at hr2;exact hr2.frame (Below.heap_setCell _ _ _ _ (λe=>hbm.1 e.symm)) (Below.heap_setCell _ _ _ _ (λe=>hbm.2 e.symm))
 ·refine zo.trans (zo.trans (zo.trans h.mod hm1 λj hj e=> ?_) hm2 λj _ e=>Or.inl e) hms λj _ e=> ?_
  ·have:=h.fresh;omega
  ·rw[e];exact Or.inr (h.blocks he).1
 ·have:=hr2.owns;rw[KG]at this;exact this.frame (Below.heap_setCell _ _ _ _ (λe=>hbm.1 e.symm))
 ·intro f hf;obtain⟨hf1,hf2⟩:=List.mem_filter.1 hf;have hfx:f.1≠x:=by simpa using hf2
  obtain⟨q1,q2,q3⟩:=h.buf.ok f hf1;obtain⟨a1,a2,a3,a4⟩:=Ql h.buf.apart hf1 he hfx;obtain⟨⟨n1,n2⟩,n3,n4⟩:=hnc f hf1;exact⟨q1,q2,q3.frame ((Below.heap_setCell _ _ _ _ (λe=>a1 e)).trans (hb12 _ n1 n2 q3.lt1)) ((Below.heap_setCell _ _ _ _ (λe=>a3 e)).trans (hb12 _ n3 n4 q3.lt2)) hle⟩
 ·intro f hf;obtain⟨hf1,hf2⟩:=List.mem_filter.1 hf;have hfx:f.1≠x:=by simpa using hf2
  rcases h.done f hf1 with e|e
  ·exact Or.inl e
  ·exact Or.inr (Qn.2 ⟨e,hfx⟩)
 ·intro f hf;exact h.sub f (List.mem_filter.1 hf).1
theorem kH.clear{w:World}{m R:Nat}{cur:zZ}{left:List (zF×Value)}(h:kH S F w wr m R es cur left)(hFS:∀j,F j->S j){x:zF}{u:List Bytes}(he:(x,bb,a,u)∈cur)
  (hr1:zP k6 w1 m R (cur.map vX) (yK left x))(hm1:zo (· =R) wr w1):
  kH S F w (w1.setCell ⟨bb,1,none⟩ (.int .i64 0)) m R es (yd cur x []) (yK left x):=by
 have hwr:w.heap.size<=wr.heap.size:=h.mod.size;obtain⟨o1,o2,o3⟩:=h.buf.ok _ he;have hbS:=hFS _ o1;have hle1:(im S wr).le (im S w1):=Qp hm1 λa e=>h.rng.noCell (Or.inr e);have hms:zo (· =bb) w1 (w1.setCell ⟨bb,1,none⟩ (.int .i64 0)):=vA (S:=(· =bb)) (zo.refl _ _) rfl _;have hle2:(im S w1).le (im S (w1.setCell ⟨bb,1,none⟩ (.int .i64 0))):=(hms.mono (S':=S) λ_ _ e=>by rw[e];exact hbS).im λ_ _ h=>h;have hle:=hle1.le_trans hle2;have hnc:∀e∈cur,(e.2.1≠m/\e.2.1≠R)/\(e.2.2.1≠m/\e.2.2.1≠R):=λe he'=>by obtain⟨_,_,q⟩:=h.buf.ok e he';obtain⟨q1,_,ar,q3,_⟩:=q;exact⟨h.rng.notCells q1,h.rng.notCells q3⟩
 have hbm:bb≠m/\bb≠R:=(hnc _ he).1;have hmap:(yd cur x []).map vX=cur.map vX:=Qk (λi b _=>(i,ptr b)) cur x [];have hin:∀f∈yd cur x [],∃g∈cur,(g.1=x/\f=(g.1,g.2.1,g.2.2.1,[]))\/(g.1≠x/\f=g):=λf hf=>by
  unfold yd at hf;obtain⟨g,hg,rfl⟩:=List.mem_map.1 hf;refine⟨g,hg,?_⟩;by_cases e:g.1=x
  ·exact Or.inl ⟨e,if_pos e⟩
  ·exact Or.inr ⟨e,if_neg e⟩
 refine⟨?_,?_,⟨?_,?_,by rw[jZ];exact h.buf.apart⟩,?_,?_,h.fresh,ZI h.nd x⟩
 ·rw[hmap];exact hr1.frame (Below.heap_setCell _ _ _ _ (λe=>hbm.1 e.symm)) (Below.heap_setCell _ _ _ _ (λe=>hbm.2 e.symm))
 ·refine zo.trans (zo.trans h.mod hm1 λj hj e=> ?_) hms λj _ e=> ?_
  ·have:=h.fresh;omega
  ·rw[e];exact Or.inr (h.blocks he).1
 ·rw[hmap];exact hr1.owns.frame (Below.heap_setCell _ _ _ _ (λe=>hbm.1 e.symm))
 ·intro f hf;obtain⟨g,hg,⟨e1,rfl⟩|⟨e1,rfl⟩⟩:=hin f hf
  ·have:g=(x,bb,a,u):=gh h.buf.keys hg he e1;subst this;have hq:=o3.frame (w':=w1) (hm1.block _ o3.lt1 hbm.2) (hm1.block _ o3.lt2 (hnc _ he).2.2) hle1;exact⟨o1,o2,hq.empty⟩
  ·obtain⟨q1,q2,q3⟩:=h.buf.ok f hg;obtain⟨a1,a2,a3,a4⟩:=Ql h.buf.apart hg he e1;obtain⟨⟨n1,n2⟩,n3,n4⟩:=hnc f hg;exact⟨q1,q2,q3.frame ((Below.heap_setCell _ _ _ _ (λe=>a1 e)).trans (hm1.block _ q3.lt1 n2)) ((Below.heap_setCell _ _ _ _ (λe=>a3 e)).trans (hm1.block _ q3.lt2 n4)) hle⟩
 ·intro f hf;obtain⟨g,hg,⟨e1,rfl⟩|⟨e1,rfl⟩⟩:=hin f hf
  ·exact Or.inl rfl
  ·rcases h.done f hg with e|e
   ·exact Or.inl e
   ·exact Or.inr (Qn.2 ⟨e,e1⟩)
 ·intro f hf;obtain⟨g,hg,⟨e1,rfl⟩|⟨e1,rfl⟩⟩:=hin f hf
  ·obtain⟨q,hq,q2⟩:=h.sub g hg;exact⟨q,hq,q2⟩
  ·exact h.sub f hg
theorem zP.left_eq{kf:α->Value}{w:World}{m r:Nat}{es left:List (α×Value)}(h:zP kf w m r es left):w.rangeLeft m r=left.length:=by obtain⟨a,ck,s,n,c0,h1,h2,h3,h4,h5,h6,_⟩:=h;simp only[World.rangeLeft,h1,h4];have:=congrArg List.length h6;simpa using this
theorem gp[DecidableEq α]{es:List (α×Value)}{x:α}(h:(x,v)∈es):(yK es x).length<es.length:=by
 unfold yK
 induction es with
 |nil=>simp at h
 |cons e es ih=>
  by_cases he:e.1=x
  ·rw[List.filter_cons_of_neg (by simp[he])];have:=List.length_filter_le (λe:α×Value=>decide (e.1≠x)) es;simp only[List.length_cons];omega
  ·rw[List.filter_cons_of_pos (by simpa using he)];rcases List.mem_cons.1 h with h|h
   ·rw[<-h]at he;exact absurd rfl he
   ·have:=ih h;simp only[List.length_cons];omega
variable{q:Nat}
theorem Xv{w:World}{o m:Nat}(_hS:∀j,S j->j<w.heap.size)(hFS:∀j,F j->S j)(hq:w.cell? ⟨q,o,none⟩=some (.map (some m)))(hqb:q∉zl es)(h:zR (im S w) w F m es):
  Calls prog 94 #[.pointer (some ⟨q,o,none⟩)] w λe w'=>e=.returned (.tuple #[])/\∃cur,zo (λj=>j=m\/j∈zl es) w w'/\zR (im S w') w' F m cur/\(∀e∈cur,e.2.2.2=[])/\
   (∀e∈cur,∃f∈es,f.1=e.1/\f.2.1=e.2.1/\f.2.2.1=e.2.2.1):=by
 obtain⟨w0,hrange,hr0,hn0,hsz0⟩:=zD.range (P:=prog) (k:=299) (t:=239) (e:=300) (by kernel_rfl) h.map;have hqm:q≠m:=λe=>by rw[h.map.noCell (a:=⟨q,o,none⟩) e]at hq;cases hq
 have hE0:kH S F w w0 m w.heap.size es es (es.map vX):=by have hle:(im S w).le (im S w0):=za.im hn0 S;refine⟨hr0,hn0.mod _,⟨hr0.owns,λe he=> ?_,h.apart⟩,λe he=>Or.inr (List.mem_map.2 ⟨e,he,rfl⟩),λe he=>⟨e,he,rfl,rfl,rfl⟩,Nat.le_refl _,hr0.owns.nodup⟩;obtain⟨q1,q2,q3⟩:=h.ok e he;exact⟨q1,q2,q3.frame (hn0.block _ q3.lt1 (λe=>e)) (hn0.block _ q3.lt2 (λe=>e)) hle⟩
 have HE0:=hid hE0;clear hE0;have HFS:=hid hFS;clear hFS;have HQB:=hid hqb;clear hqb;clear _hS h hr0 hn0 hsz0;go_enter func94,ntmps94;go_wp2;go_loopw [2,3] (λ_ _ wr=>∃cur left,kH S F w wr m w.heap.size es cur left) (λ_ _ wr=>wr.rangeLeft m w.heap.size)
 case atStart=>exact⟨es,_,HE0.out⟩
 case round=>
  obtain⟨cur,left,hE⟩:=hrel;have hcq:wr.cell? ⟨q,o,none⟩=some (.map (some m)):=hE.mod.cell (λe=>by rcases e with e|e;exact hqm e;exact HQB.out e) hq;rcases zP.next (P:=prog) (k:=299) Zg hE.rng 0 with⟨hl,hnx⟩|⟨x,v,w1,hxl,hxe,hnx,hr1,hm1,hs1,hen⟩
  ·have HE:=hid hE;clear hE;have HL:=hid hl;clear hl;go_wp2;go_end0;refine⟨rfl,cur,HE.out.mod,HE.out.buf,λe he=> ?_,HE.out.sub⟩;rcases HE.out.done e he with e1|e1
   ·exact e1
   ·rw[HL.out]at e1;cases e1
  ·obtain⟨bb,a,u,he,rfl⟩:=Qo hxe;obtain⟨o1,o2,o3⟩:=hE.buf.ok _ he;have hnc:=hE.rng.notCells o3.1;have hb1:jv (im S w1) w1 bb a u:=o3.frame (hm1.block _ o3.lt1 hnc.2) (hm1.block _ o3.lt2 (by obtain⟨_,_,ar,q3,_⟩:=o3;exact(hE.rng.notCells q3).2)) (Qp hm1 λa e=>hE.rng.noCell (Or.inr e));obtain⟨u1,u2⟩:=hb1.used;have hcq1:w1.cell? ⟨q,o,none⟩=some (.map (some m)):=hm1.cell (λe=>by rw[hE.rng.noCell (a:=⟨q,o,none⟩) (Or.inr e)]at hcq;cases hcq) hcq;have hlt:=gp hxl;have hlq:=hE.rng.left_eq;by_cases hu:u=[]
   ·subst hu;have u1:w1.cell? ⟨bb,1,none⟩=some (.int .i64 0):=u1;obtain⟨w2,hdel,hr2,hm2,_⟩:=zP.del (P:=prog) (t:=239) (e:=300) Zg (by kernel_rfl) hr1 x 0;have hnext:=hE.drop HFS.out he hr1 hm1 hr2 hm2;have hb2:w2.heap[bb]? =w1.heap[bb]? :=hm2.block _ hb1.lt1 hnc.1;have u1':w2.cell? ⟨bb,1,none⟩=some (.int .i64 0):=by rw[World.cell?_of_block (w:=w1) hb2];exact u1
    have u2':w2.frozen? ⟨bb,1,none⟩=false:=by rw[World.frozen?_of_block (w:=w1) hb2];exact u2
    have HN:=hid hnext;clear hnext;have HLQ:=hid hlq;clear hlq;clear hE hb1 o3 hr1 hm1 hr2 hm2 he hxl hxe hb2;go_wp2_with (at_delete;refine vL rfl rfl rfl rfl hdel ?_);go_roundw
    case rel=>exact⟨_,_,HN.out⟩
    case measure=>rw[HN.out.rng.left_eq,HLQ.out];exact hlt
   ·have hnext:=hE.clear HFS.out he hr1 hm1;obtain⟨n,hn⟩:∃n:Nat,u.length=n:=⟨_,rfl⟩;have hn0:0<n:=by rw[<-hn];exact List.length_pos_iff.2 hu
    rw[hn]at u1;clear hn hu;have hu0:((n:Int)==0)=false:=by simp;omega
    have HN:=hid hnext;clear hnext;have HLQ:=hid hlq;clear hlq;clear hE hb1 o3 hr1 hm1 he hxl hxe;go_wp2;go_roundw
    case rel=>exact⟨_,_,HN.out⟩
    case measure=>rw[HN.out.rng.left_eq,HLQ.out];exact hlt
def vf(sq:List (zF×Value)):Prop:=∀e∈sq,∃b,e.2=.bool b
theorem vf.put(h:vf sq)(x:zF)(b:Bool):vf (xx sq x (.bool b)):=by
 intro e he;unfold xx at he;split at he
 ·obtain⟨f,hf,rfl⟩:=List.mem_map.1 he;by_cases hx:f.1=x
  ·rw[if_pos hx];exact⟨b,rfl⟩
  ·rw[if_neg hx];exact h f hf
 ·rcases List.mem_append.1 he with he|he
  ·exact h e he
  ·simp only[List.mem_singleton]at he;subst he;exact⟨b,rfl⟩
theorem vf.del(h:vf sq)(x:zF):vf (yK sq x):=λe he=>h e (Qn.1 he).1
theorem KH{w:World}{m sm:Nat}(_hS:∀j,S j->j<w.heap.size)(hFS:∀j,F j->S j)(hSs:S sm)(h3:w.cell? ⟨t,3,none⟩=some (.map (some m)))(h4:w.cell? ⟨t,4,none⟩=some (.map (some sm)))
  (htb:t∉zl es)(hsb:sm∉zl es)(hne:sm≠m)(h:zR (im S w) w F m es)(hs:zD k6 w sm sq)(hbo:vf sq):
  Calls prog 92 #[.pointer (some ⟨t,3,none⟩)] w λe w'=>e=.returned (.tuple #[])/\∃cur sq',zo (λj=>j=m\/j=sm\/j∈zl es) w w'/\zR (im S w') w' F m cur/\zD k6 w' sm sq'/\vf sq'/\(∀e∈cur,e.2.2.2=[])/\
   (∀e∈cur,∃f∈es,f.1=e.1/\f.2.1=e.2.1/\f.2.2.1=e.2.2.1):=by
 have HR:=hid (Xv _hS hFS h3 htb h);have hts:t≠sm:=λe=>by rw[hs.noCell (a:=⟨t,3,none⟩) e]at h3;cases h3
 have htm:t≠m:=λe=>by rw[h.map.noCell (a:=⟨t,3,none⟩) e]at h3;cases h3
 have htl:=World.block_lt_of_cell? w _ h3;have HFS:=hid hFS;clear hFS;have HTB:=hid htb;clear htb;have HSB:=hid hsb;clear hsb;have HS:=hid hs;clear hs;have HBO:=hid hbo;clear hbo;clear h _hS;go_enter func92,ntmps92;go_wp2_with fail;refine HR.out.mono ?_;rintro e w1 ⟨rfl,cur,hm1,hb1,hz1,hs1⟩;have hsq1:zD k6 w1 sm sq:=HS.out.frame (hm1.block _ HS.out.lt (λe=>by rcases e with e|e;exact hne e;exact HSB.out e));have t4:w1.cell? ⟨t,4,none⟩=some (.map (some sm)):=hm1.cell (λe=>by rcases e with e|e;exact htm e;exact HTB.out e) h4;have t3:w1.cell? ⟨t,3,none⟩=some (.map (some m)):=hm1.cell (λe=>by rcases e with e|e;exact htm e;exact HTB.out e) h3;obtain⟨w2,hrange,hr2,hn2,hsz2⟩:=zD.range (P:=prog) (k:=299) (t:=286) (e:=4) (by kernel_rfl) hsq1;have HM1:=hid hm1;clear hm1;have HB1:=hid hb1;clear hb1;have HZ1:=hid hz1;clear hz1;have HS1:=hid hs1;clear hs1;have HR2:=hid hr2;clear hr2
 have HN2:=hid (za.mod hn2 (λj=>j=sm));clear hn2;clear hsq1 hsz2 h3 h4;go_wp2;go_loopw [2] (λ_ wr=>∃sc left,zP k6 wr sm w1.heap.size sc left/\zo (λj=>j=sm) w1 wr/\vf sc) (λ_ wr=>wr.rangeLeft sm w1.heap.size)
 case atStart=>exact⟨_,_,HR2.out,HN2.out,HBO.out⟩
 case round=>
  obtain⟨sc,left,hE,hM,hbo⟩:=hrel;have HBB:=hid hbo;clear hbo;have hle:(im S w1).le (im S wr):=(hM.mono (S':=S) λ_ _ e=>by rw[e];exact hSs).im λ_ _ h=>h;have r3:wr.cell? ⟨t,3,none⟩=some (.map (some m)):=hM.cell (λe=>hts e) t3;have r4:wr.cell? ⟨t,4,none⟩=some (.map (some sm)):=hM.cell (λe=>hts e) t4;have hmod:∀w',zo (λj=>j=sm) w1 w'->zo (λj=>j=m\/j=sm\/j∈zl es) w w':=λw' hm=>(HM1.out.mono λj _ e=>by rcases e with e|e;exact Or.inl e;exact Or.inr (Or.inr e)).trans (hm.mono λj _ e=>Or.inr (Or.inl e)) λ_ _ e=>e;have hcurne:∀x∈cur,x.2.1≠sm/\x.2.2.1≠sm:=λx hx=>by obtain⟨f,hf,_,e1,e2⟩:=HS1.out x hx;have:=qm hf;exact⟨λe=>HSB.out (by rw[<-e,<-e1];exact this.1),λe=>HSB.out (by rw[<-e,<-e2];exact this.2)⟩
  have hbuf:∀w',zo (λj=>j=sm) w1 w'->zR (im S w') w' F m cur:=λw' hm=>by have hle':(im S w1).le (im S w'):=(hm.mono (S':=S) λ_ _ e=>by rw[e];exact hSs).im λ_ _ h=>h;refine⟨HB1.out.map.frame (hm.block _ HB1.out.map.lt (λe=>hne e.symm)),λx hx=> ?_,HB1.out.apart⟩;obtain⟨q1,q2,q3⟩:=HB1.out.ok x hx;exact⟨q1,q2,q3.frame (hm.block _ q3.lt1 (hcurne x hx).1) (hm.block _ q3.lt2 (hcurne x hx).2) hle'⟩
  rcases zP.next (P:=prog) (k:=299) Zg hE 0 with⟨hl,hnx⟩|⟨x,v,w3,hxl,hxe,hnx,hr3,hm3,hs3,hen⟩
  ·have HFIN:=hid (⟨hmod wr hM,hbuf wr hM,hE.owns⟩:_/\_/\_);clear hE hM hle hmod hbuf hcurne;go_wp2;go_end0;exact⟨rfl,cur,sc,HFIN.out.1,HFIN.out.2.1,HFIN.out.2.2,HBB.out,HZ1.out,HS1.out⟩
  ·have hM3:zo (λj=>j=sm) w1 w3:=zo.trans hM hm3 λj hj e=>by omega
   have q3:w3.cell? ⟨t,3,none⟩=some (.map (some m)):=hM3.cell (λe=>hts e) t3;have q4:w3.cell? ⟨t,4,none⟩=some (.map (some sm)):=hM3.cell (λe=>hts e) t4;have hb3:=hbuf w3 hM3;have hlook:=zD.look (P:=prog) (t:=239) (e:=300) Zg (by kernel_rfl) (z:=.pointer none) (by kernel_rfl) hb3.map x true;have hlt:=gp hxl;have hlq:=hE.left_eq;have HLQ:=hid hlq;clear hlq;cases hg:jt (cur.map λe=>(e.1,ptr e.2.1)) x with
   |none=>
    rw[hg]at hlook;simp only[if_true]at hlook;obtain⟨w4,hdel,hr4,hm4,_⟩:=zP.del (P:=prog) (t:=286) (e:=4) Zg (by kernel_rfl) hr3 x 0;have HR4:=hid hr4;clear hr4;have HM4:=hid (zo.trans hM3 hm4 λ_ _ e=>e);clear hm4;have hlt4:(yK (yK left x) x).length<left.length:=by rw[Jk];exact hlt
    clear hE hM hle hmod hbuf hcurne hr3 hm3 hM3 hb3 hxl hxe hg r3 r4;go_wp2_with (at_delete;refine vL rfl rfl rfl rfl hdel ?_);go_frame;go_roundw
    case rel=>exact⟨_,_,HR4.out,HM4.out,HBB.out.del x⟩
    case measure=>rw[HR4.out.left_eq,HLQ.out];exact hlt4
   |some y=>
    rw[hg]at hlook;simp only[if_true]at hlook;obtain⟨bb,a,u,he,rfl⟩:=Qo (Qi hg);have hu0:=HZ1.out _ he;simp only at hu0;subst hu0;obtain⟨u1,u2⟩:=(hb3.ok _ he).2.2.used;simp only[List.length_nil,Int.natCast_zero]at u1;obtain⟨w4,hput,hr4,hm4,_⟩:=zP.put (P:=prog) (t:=286) (e:=4) Zg (by kernel_rfl) hr3 x (.bool true) (by rw[xP hr3.owns.nodup hxe];rfl);have HR4:=hid hr4;clear hr4;have HM4:=hid (zo.trans hM3 hm4 λ_ _ e=>e);clear hm4;have hlt4:((yK left x).map λe=>if e.1=x then (x,Value.bool true)else e).length<left.length:=by rw[List.length_map];exact hlt
    clear hE hM hle hmod hbuf hcurne hr3 hm3 hM3 hb3 hxl hxe hg he r3 r4;go_wp2;go_roundw
    case rel=>exact⟨_,_,HR4.out,HM4.out,HBB.out.put x true⟩
    case measure=>rw[HR4.out.left_eq,HLQ.out];exact hlt4
theorem zo.undrew{w:World}(h:zo S w.drew w'):zo S w w':=⟨h.os,h.tape,h.output,h.size,h.block⟩
variable{ks:List Bytes}
theorem Wr{w:World}{sb sa:Nat}(hb:S bb)(ha:S a)(h:jv (im S w) w bb a [])(hs:jv (im S w) w sb sa ks)(h1:sb≠bb)(h2:sb≠a)(h3:sa≠bb)(h4:sa≠a):
  Calls prog 91 #[ptr bb,ptr sb] w λe w'=>e=.returned (.tuple #[])/\zo (λj=>j=bb\/j=a) w w'/\jv (im S w') w' bb a ks:=by
 obtain⟨n,hn⟩:=zex (ks.length);obtain⟨u2,_⟩:=hs.used;obtain⟨g1,g2,arr,g3,g4,g5,g6⟩:=id hs;rw[<-hn]at u2 g2 g6;have c0:w.cell? ⟨sb,0,none⟩=some (.slice (some ⟨sa,0,none⟩) 512 512):=by rw[cell_of_row w sb 0 _ _ (0,0) g1];rfl
 have hent:∀j,j<n->∃(k v:Bytes) (kp:Option Addr) (kn kc:Nat) (vp:Option Addr) (vn vc:Nat),ks[j]? =some k/\w.cell? ⟨sa,j*2,none⟩=some (.slice kp kn kc)/\w.cell? ⟨sa,j*2+1,none⟩=some (.slice vp vn vc)/\Bs (im S w) k (.slice kp kn kc)/\Bs (im S w) v (.slice vp vn vc):=λj hj=>by obtain⟨k,v,kv,vv,e0,e1,e2,e3,e4⟩:=g6 j hj;obtain⟨kp,kn,kc,rfl,_⟩:=e3.shape;obtain⟨vp,vn,vc,rfl,_⟩:=e4.shape;exact⟨k,v,kp,kn,kc,vp,vn,vc,e0,by rw[cell_of_row w sa _ _ _ (0,0) g3];exact e1,by rw[cell_of_row w sa _ _ _ (0,0) g3];exact e2,e3,e4⟩
 have hkeep:∀w',zo (λj=>j=bb\/j=a) w w'->(∀o v,w.cell? ⟨sb,o,none⟩=some v->w'.cell? ⟨sb,o,none⟩=some v)/\(∀o v,w.cell? ⟨sa,o,none⟩=some v->w'.cell? ⟨sa,o,none⟩=some v)/\(im S w).le (im S w'):=λw' hm=>
  ⟨λo v hc=>hm.cell (λe=>by rcases e with e|e;exact h1 e;exact h2 e) hc,λo v hc=>hm.cell (λe=>by rcases e with e|e;exact h3 e;exact h4 e) hc,(hm.mono (S':=S) λj _ e=>by rcases e with rfl|rfl;exact hb;exact ha).im λ_ _ h=>h⟩
 have HENT:=hid hent;clear hent;have HKEEP:=hid hkeep;clear hkeep;have HH:=hid h;clear h;have HN:=hid hn;clear hn;clear g1 g3 g4 g5 g6 hs;go_enter func91,ntmps91;go_wp2;go_loopw [4] (λi wr=>∃j:Nat,j<=n/\i=.int .i64 j/\zo (λj=>j=bb\/j=a) w wr/\jv (im S wr) wr bb a (ks.take j)) (λi _=>n-(intOf i).toNat)
 case atStart=>exact⟨0,Nat.zero_le _,rfl,zo.refl _ _,HH.out⟩
 case round=>
  obtain⟨j,hj,rfl,hm,hb1⟩:=hrel;obtain⟨k1,k2,k3⟩:=HKEEP.out _ hm;have r2:=k1 _ _ u2;have r0:=k1 _ _ c0;have hjl:Hid ((ks.take j).length=j):=hid (by rw[List.length_take,<-HN.out];omega);by_cases hlt:j<n
  ·obtain⟨k,v,kp,kn,kc,vp,vn,vc,e0,e1,e2,e3,e4⟩:=HENT.out j hlt;have hj512:(j:Int)<512:=by omega
   have hj0:(0:Int)<=j:=by omega
   have s1:=k2 _ _ e1;have s2:=k2 _ _ e2;have HADD:=hid (Uc hb ha (w:=wr.drew) (ks:=ks.take j) (k:=k) (v:=v) hb1 (by rw[hjl.out];omega) (e3.mono k3) (e4.mono k3));have HE:Hid (ks.take (j+1)=ks.take j++[k]):=hid (by obtain⟨hl,he⟩:=List.getElem?_eq_some_iff.1 e0;rw[List.take_succ_eq_append_getElem hl,he])
   have HM:=hid hm;clear hm;clear hb1 k1 k2 k3 e0 e1 e2 e3 e4;go_wp2;go_still_tail 17,(by kernel_rfl);go_wp2_with (go_at_call 103;go_must (refine HADD.out.mono ?_);rintro e w2 ⟨rfl,hm2,hb2⟩;have HM2:=hid hm2;have HB2:=hid hb2;clear hm2 hb2);go_roundw
   case rel=>exact⟨j+1,by omega,by go_num,zo.trans HM.out HM2.out.undrew λ_ _ e=>e,by rw[HE.out];exact HB2.out⟩
   case measure=>simp[intOf];omega
  ·have hjn:j=n:=by omega
   subst hjn;obtain⟨v1,_⟩:=hb1.used;rw[hjl.out]at v1;have HB1:=hid hb1;clear hb1;have HM:=hid hm;clear hm;clear k1 k2 k3 hlt;go_wp2;go_quiet (fail);go_wp2;go_returns;refine⟨rfl,HM.out.drewN _,?_⟩;have:=HB1.out;rw[List.take_of_length_le (by rw[<-HN.out];exact Nat.le_refl _)]at this;exact this
structure G8(D:World->Prop)(T:TypeId)(v:Value)(g:FuncId)(rc:Value)(n:Int):Prop where
 new:∀W W',D W->za W W'->D W'
 meth:∀W,(method 608 T v "Less").run prog W=.ok (g,rc) W
 nil:∀W,(nilAhead 608 T v "Less").run prog W=.ok (some false) W
 enter:∀args W,(callFunc g args).run prog W=.ok (.enter g args) W
 ge:∀W (x y:Int),D W->0<=y->y<=x->x<n->Calls prog g #[rc,.int .i64 x,.int .i64 y] W λe w'=>e=.returned (.bool false)/\za W w'
 lt:∀W (x y:Int),D W->0<=x->x<y->y<n->Calls prog g #[rc,.int .i64 x,.int .i64 y] W λe w'=>e=.returned (.bool true)/\za W w'
variable{rc:Value}
theorem x8{D:World->Prop}{T:TypeId}{g:FuncId}{n:Int}{w:World}(h:G8 D T v g rc n)(hw:D w){a b:Int}(ha0:0<=a)(hb:b<=n)(ha:a<=1000)(hn:n<=1000):
  Calls prog 109 #[.iface T v,.int .i64 a,.int .i64 b] w λe w'=>e=.returned (.tuple #[])/\za w w':=by
 have hmeth:=h.meth;have hnil:=h.nil;have hent:=h.enter;have H:=hid h;have HW:=hid hw;clear h hw;go_enter func109,ntmps109;go_wp2;go_loopw [6] (λi wr=>∃k:Int,a<k/\k<=2000/\i=.int .i64 k/\za w wr) (λi _=>(b-intOf i).toNat)
 case atStart=>exact⟨a+1,by omega,by omega,by go_num,za.refl w⟩
 case round=>
  obtain⟨k,hk1,hk2,rfl,hD⟩:=hrel;have HD:=hid hD;clear hD;by_cases hlt:k<b
  ·go_wp2;refine wp_loop_once ?_;go_wp2_with (refine(H.out.ge _ _ _ (H.out.new _ _ HW.out HD.out) (by omega) (by omega) (by omega)).mono ?_;rintro e w1 ⟨rfl,hd1⟩;have HD1:=hid hd1;clear hd1);go_roundw
   case rel=>exact⟨k+1,by omega,by omega,by go_num,HD.out.trans HD1.out⟩
   case measure=>simp[intOf];omega
  ·go_wp2;go_returns;exact⟨rfl,HD.out⟩
variable{sv:Value}
theorem Ys{D:World->Prop}{T:TypeId}{g:FuncId}{n:Int}{w:World}(h:G8 D T v g rc n)(hw:D w){a b:Int}(ha0:0<=a)(hab:a<b)(hb:b<n):
  Calls prog 125 #[.iface T v,.int .i64 a,.int .i64 b,sv] w λe w'=>e=.returned (.tuple #[.int .i64 a,.int .i64 b])/\za w w':=by
 have hmeth:=h.meth;have hnil:=h.nil;have hent:=h.enter;have H:=hid h;have HW:=hid hw;clear h hw;go_enter func125,ntmps125;go_wp2_with (refine(H.out.ge _ _ _ HW.out (by omega) (by omega) (by omega)).mono ?_;rintro e w1 ⟨rfl,hd1⟩;have HD1:=hid hd1;clear hd1);go_returns;exact⟨rfl,HD1.out⟩
theorem Yt{D:World->Prop}{T:TypeId}{g:FuncId}{n:Int}{w:World}(h:G8 D T v g rc n)(hw:D w){a b c:Int}(ha0:0<=a)(hab:a<b)(hbc:b<c)(hc:c<n):
  Calls prog 123 #[.iface T v,.int .i64 a,.int .i64 b,.int .i64 c,sv] w λe w'=>e=.returned (.int .i64 b)/\za w w':=by
 have H:=hid h;have HW:=hid hw;clear h hw;go_enter func123,ntmps123;go_wp2_with fail;refine(Ys H.out HW.out ha0 hab (by omega)).mono ?_;rintro e w1 ⟨rfl,h1⟩;have H1:=hid h1;clear h1;go_wp2_with fail;refine(Ys H.out (H.out.new _ _ HW.out H1.out) (by omega) hbc hc).mono ?_;rintro e w2 ⟨rfl,h2⟩;have H2:=hid (H1.out.trans h2);clear h2;go_wp2_with fail;refine(Ys H.out (H.out.new _ _ HW.out H2.out) ha0 hab (by omega)).mono ?_;rintro e w3 ⟨rfl,h3⟩;have H3:=hid (H2.out.trans h3);clear h3;go_wp2;go_returns;exact⟨rfl,H3.out⟩
theorem kP{D:World->Prop}{T:TypeId}{g:FuncId}{n:Int}{w:World}(h:G8 D T v g rc n)(hw:D w){a:Int}(ha0:1<=a)(ha1:a+1<n)(hn:n<=1000):
  Calls prog 122 #[.iface T v,.int .i64 a,sv] w λe w'=>e=.returned (.int .i64 a)/\za w w':=by
 have H:=hid h;have HW:=hid hw;clear h hw;go_enter func122,ntmps122;go_wp2_with fail;refine(Yt H.out HW.out (by omega) (by omega) (by omega) (by omega)).mono ?_;rintro e w1 ⟨rfl,h1⟩;have H1:=hid h1;clear h1;go_wp2;go_returns;exact⟨rfl,H1.out⟩
theorem J6{D:World->Prop}{T:TypeId}{g:FuncId}{n:Int}{w:World}(h:G8 D T v g rc n)(hw:D w)(h12:12<n)(hn:n<=1000):
  Calls prog 112 #[.iface T v,.int .i64 0,.int .i64 n] w λe w'=>∃p:Int,e=.returned (.tuple #[.int .i64 p,.int .i64 1])/\za w w':=by
 have H:=hid h;have HW:=hid hw;clear h hw;obtain⟨q,hq,hq1,hq2⟩:∃q:Int,n/4=q/\3<=q/\4*q<=n:=⟨n/4,rfl,by omega,by omega⟩;have h0:za w (w.alloc (.cells #[.int .i64 0] 3)):=(za.refl w).alloc _;have H0:=hid h0;have hc0:∀w',za (w.alloc (.cells #[.int .i64 0] 3)) w'->w'.cell? ⟨w.heap.size,0,none⟩=some (.int .i64 0):=λw' hn=>hn.le _ _ (by rw[cell_of_row _ w.heap.size 0 _ _ (0,0) (zg w _)];rfl);have HC0:=hid hc0;clear h0 hc0;by_cases h50:n<50
 ·go_enter func112,ntmps112;go_wp2_with fail;refine(Yt H.out (H.out.new _ _ HW.out H0.out) (by omega) (by omega) (by omega) (by omega)).mono ?_;rintro e w1 ⟨rfl,h1⟩;have k1:=HC0.out w1 h1;have H1:=hid (H0.out.trans h1);clear h1;go_wp2;go_returns;exact⟨_,rfl,H1.out⟩
 ·go_enter func112,ntmps112;go_wp2_with fail;refine(kP H.out (H.out.new _ _ HW.out H0.out) (by omega) (by omega) hn).mono ?_;rintro e w1 ⟨rfl,h1⟩;have H1:=hid h1;clear h1;go_wp2_with fail;refine(kP H.out (H.out.new _ _ HW.out (H0.out.trans H1.out)) (by omega) (by omega) hn).mono ?_;rintro e w2 ⟨rfl,h2⟩;have H2:=hid (H1.out.trans h2);clear h2;go_wp2_with fail;refine(kP H.out (H.out.new _ _ HW.out (H0.out.trans H2.out)) (by omega) (by omega) hn).mono ?_;rintro e w3 ⟨rfl,h3⟩;have H3:=hid (H2.out.trans h3);clear h3;go_wp2_with fail;refine(Yt H.out (H.out.new _ _ HW.out (H0.out.trans H3.out)) (by omega) (by omega) (by omega) (by omega)).mono ?_;rintro e w4 ⟨rfl,h4⟩;have k4:=HC0.out w4 (H3.out.trans h4);have H4:=hid (H0.out.trans (H3.out.trans h4));clear h4;go_wp2;go_returns;exact⟨_,rfl,H4.out⟩
theorem dX{D:World->Prop}{T:TypeId}{g:FuncId}{n:Int}{w:World}(h:G8 D T v g rc n)(hw:D w)(h12:12<n)(hn:n<=1000):
  Calls prog 114 #[.iface T v,.int .i64 0,.int .i64 n] w λe w'=>e=.returned (.bool true)/\za w w':=by
 have hmeth:=h.meth;have hnil:=h.nil;have hent:=h.enter;have H:=hid h;have HW:=hid hw;clear h hw;go_enter func114,ntmps114;go_wp2;refine wp_loop_once ?_;go_wp2;go_loopw [7] (λi wr=>∃k:Int,0<k/\k<=n/\i=.int .i64 k/\za w wr) (λi _=>(n-intOf i).toNat)
 case atStart=>exact⟨1,by omega,by omega,by go_num,za.refl w⟩
 case round=>
  obtain⟨k,hk1,hk2,rfl,hD⟩:=hrel;have HD:=hid hD;clear hD;by_cases hlt:k<n
  ·go_wp2_with (refine(H.out.ge _ _ _ (H.out.new _ _ HW.out HD.out) (by omega) (by omega) (by omega)).mono ?_;rintro e w1 ⟨rfl,hd1⟩;have HD1:=hid hd1;clear hd1);go_roundw
   case rel=>exact⟨k+1,by omega,by omega,by go_num,HD.out.trans HD1.out⟩
   case measure=>simp[intOf];omega
  ·obtain rfl:k=n:=by omega
   go_wp2;go_returns;exact⟨rfl,HD.out⟩
theorem zbs{D:World->Prop}{T:TypeId}{g:FuncId}{n lim:Int}{w:World}(h:G8 D T v g rc n)(hw:D w)(h0:0<=n)(hl:0<lim)(hn:n<=1000):
  Calls prog 102 #[.iface T v,.int .i64 0,.int .i64 n,.int .i64 lim] w λe w'=>e=.returned (.tuple #[])/\za w w':=by
 have H:=hid h;have HW:=hid hw;clear h hw;by_cases h12:12<n
 ·have hl0:(lim==0)=false:=by simp;omega
  go_enter func102,ntmps102;go_wp2;refine wp_loop_once ?_;go_wp2_with fail;refine(J6 H.out HW.out h12 hn).mono ?_;rintro e w1 ⟨p,rfl,h1⟩;have H1:=hid h1;clear h1;go_wp2_with fail;refine(dX H.out (H.out.new _ _ HW.out H1.out) h12 hn).mono ?_;rintro e w2 ⟨rfl,h2⟩;have H2:=hid (H1.out.trans h2);clear h2;go_wp2;go_returns;exact⟨rfl,H2.out⟩
 ·go_enter func102,ntmps102;go_wp2;refine wp_loop_once ?_;go_wp2_with fail;refine(x8 H.out HW.out (by omega) (by omega) (by omega) hn).mono ?_;rintro e w1 ⟨rfl,h1⟩;have H1:=hid h1;clear h1;go_wp2;go_returns;exact⟨rfl,H1.out⟩
section
open Go.Shelf
def lays125_ren:Go.Shelf.Ren:=⟨λ|125=>101|128=>107|129=>108|n=>n,λ|46=>318|3=>3|51=>334|53=>39|4=>4|5=>5|9=>9|n=>n,λ|n=>n⟩
theorem lays125:Go.Proofs.Lays.n125 prog lays125_ren:={
 mixed:=by kernel_rfl
 f125:=func101.trans (congrArg some (by kernel_rfl))
 f128:=func107.trans (congrArg some (by kernel_rfl))
 f129:=func108.trans (congrArg some (by kernel_rfl))
 t3:=underlying3
 a3:=isAgg3
 z3:=sizeOf3
 v3:=zeroValue3
 t4:=underlying4
 a4:=isAgg4
 z4:=sizeOf4
 v4:=zeroValue4
 t5:=underlying5
 a5:=isAgg5
 z5:=sizeOf5
 v5:=zeroValue5
 t9:=underlying9
 a9:=isAgg9
 z9:=sizeOf9
 v9:=zeroValue9
 t46:=underlying318
 a46:=isAgg318
 z46:=sizeOf318
 v46:=zeroValue318
 t51:=underlying334
 a51:=isAgg334
 z51:=sizeOf334
 v51:=zeroValue334
 t53:=underlying39
 a53:=isAgg39
 z53:=sizeOf39
 v53:=zeroValue39}
theorem bits_Len(x:Int)(w:World)(h0:0<=x)(h1:x<=18446744073709551615):
  Calls prog 101 #[.int .u64 x] w λe w'=>e=.returned (.int .i64 (Lib.bitLen x.toNat))/\w'=w:=Any.bits_Len lays125 x w h0 h1
def lays192_ren:Go.Shelf.Ren:=⟨λ|192=>185|190=>189|125=>101|258=>190|128=>107|129=>108|302=>191|303=>192|304=>193|305=>194|306=>195|307=>196|308=>197|309=>198|310=>199|333=>200|329=>201|330=>202|334=>203|335=>204|336=>205|344=>206|n=>n,λ|31=>28|0=>0|9=>9|3=>3|46=>318|51=>334|53=>39|4=>4|183=>407|182=>406|131=>343|5=>5|218=>412|222=>349|228=>415|229=>352|n=>n,λ|n=>n⟩
theorem lays192:Go.Proofs.Lays.n192 prog lays192_ren:={
 mixed:=by kernel_rfl
 f125:=func101.trans (congrArg some (by kernel_rfl))
 f128:=func107.trans (congrArg some (by kernel_rfl))
 f129:=func108.trans (congrArg some (by kernel_rfl))
 f190:=func189.trans (congrArg some (by kernel_rfl))
 f192:=func185.trans (congrArg some (by kernel_rfl))
 f258:=func190.trans (congrArg some (by kernel_rfl))
 f302:=func191.trans (congrArg some (by kernel_rfl))
 f303:=func192.trans (congrArg some (by kernel_rfl))
 f304:=func193.trans (congrArg some (by kernel_rfl))
 f305:=func194.trans (congrArg some (by kernel_rfl))
 f306:=func195.trans (congrArg some (by kernel_rfl))
 f307:=func196.trans (congrArg some (by kernel_rfl))
 f308:=func197.trans (congrArg some (by kernel_rfl))
 f309:=func198.trans (congrArg some (by kernel_rfl))
 f310:=func199.trans (congrArg some (by kernel_rfl))
 f329:=func201.trans (congrArg some (by kernel_rfl))
 f330:=func202.trans (congrArg some (by kernel_rfl))
 f333:=func200.trans (congrArg some (by kernel_rfl))
 f334:=func203.trans (congrArg some (by kernel_rfl))
 f335:=func204.trans (congrArg some (by kernel_rfl))
 f336:=func205.trans (congrArg some (by kernel_rfl))
 f344:=func206.trans (congrArg some (by kernel_rfl))
 t0:=underlying0
 a0:=isAgg0
 z0:=sizeOf0
 v0:=zeroValue0
 t3:=underlying3
 a3:=isAgg3
 z3:=sizeOf3
 v3:=zeroValue3
 t4:=underlying4
 a4:=isAgg4
 z4:=sizeOf4
 v4:=zeroValue4
 t5:=underlying5
 a5:=isAgg5
 z5:=sizeOf5
 v5:=zeroValue5
 t9:=underlying9
 a9:=isAgg9
 z9:=sizeOf9
 v9:=zeroValue9
 t31:=underlying28
 a31:=isAgg28
 z31:=sizeOf28
 v31:=zeroValue28
 t46:=underlying318
 a46:=isAgg318
 z46:=sizeOf318
 v46:=zeroValue318
 t51:=underlying334
 a51:=isAgg334
 z51:=sizeOf334
 v51:=zeroValue334
 t53:=underlying39
 a53:=isAgg39
 z53:=sizeOf39
 v53:=zeroValue39
 t131:=underlying343
 a131:=isAgg343
 z131:=sizeOf343
 v131:=zeroValue343
 t182:=underlying406
 a182:=isAgg406
 z182:=sizeOf406
 v182:=zeroValue406
 t183:=underlying407
 a183:=isAgg407
 z183:=sizeOf407
 v183:=zeroValue407
 t218:=underlying412
 a218:=isAgg412
 z218:=sizeOf412
 v218:=zeroValue412
 t222:=underlying349
 a222:=isAgg349
 z222:=sizeOf349
 v222:=zeroValue349
 t228:=underlying415
 a228:=isAgg415
 z228:=sizeOf415
 v228:=zeroValue415
 t229:=underlying352
 a229:=isAgg352
 z229:=sizeOf352
 v229:=zeroValue352}
open Go.Sort Go.RowKit in
theorem sort_Strings(blk off cap:Nat)(ss:List (List UInt8))(w:World)(hH:Holds encStr w blk off ss.toArray)(hblk:blk<w.heap.size)(hsz:ss.length<4611686018427387904):
  Calls prog 185 #[.slice (some ⟨blk,off,none⟩) ss.length cap] w λe w'=>
   e=.returned (.tuple #[])/\∃n os,w'=grow (putRow encStr (Sort.ahead w n) blk off (ss.mergeSort λx y=>decide (x<=y)).toArray) os:=Any.sort_Strings lays192 blk off cap ss w hH hblk hsz
def laysGt11_ren:Go.Shelf.Ren:=⟨λ|11=>90|17=>101|18=>102|31=>107|32=>108|33=>109|34=>110|35=>111|36=>112|37=>113|38=>114|39=>115|40=>116|43=>119|44=>120|45=>121|46=>122|47=>123|50=>125|n=>n,λ|45=>315|3=>3|4=>4|47=>318|0=>0|56=>334|58=>39|61=>338|60=>337|65=>343|5=>5|9=>9|67=>346|71=>349|73=>351|74=>352|43=>316|26=>341|38=>345|n=>n,λ|n=>n⟩
theorem laysGt11:Go.Proofs.LaysGt.n11 prog laysGt11_ren:={
 mixed:=by kernel_rfl
 f11:=func90.trans (congrArg some (by kernel_rfl))
 f17:=func101.trans (congrArg some (by kernel_rfl))
 f18:=func102.trans (congrArg some (by kernel_rfl))
 f31:=func107.trans (congrArg some (by kernel_rfl))
 f32:=func108.trans (congrArg some (by kernel_rfl))
 f33:=func109.trans (congrArg some (by kernel_rfl))
 f34:=func110.trans (congrArg some (by kernel_rfl))
 f35:=func111.trans (congrArg some (by kernel_rfl))
 f36:=func112.trans (congrArg some (by kernel_rfl))
 f37:=func113.trans (congrArg some (by kernel_rfl))
 f38:=func114.trans (congrArg some (by kernel_rfl))
 f39:=func115.trans (congrArg some (by kernel_rfl))
 f40:=func116.trans (congrArg some (by kernel_rfl))
 f43:=func119.trans (congrArg some (by kernel_rfl))
 f44:=func120.trans (congrArg some (by kernel_rfl))
 f45:=func121.trans (congrArg some (by kernel_rfl))
 f46:=func122.trans (congrArg some (by kernel_rfl))
 f47:=func123.trans (congrArg some (by kernel_rfl))
 f50:=func125.trans (congrArg some (by kernel_rfl))
 t0:=underlying0
 a0:=isAgg0
 z0:=sizeOf0
 v0:=zeroValue0
 i0:=by kernel_rfl
 t3:=underlying3
 a3:=isAgg3
 z3:=sizeOf3
 v3:=zeroValue3
 i3:=by kernel_rfl
 t4:=underlying4
 a4:=isAgg4
 z4:=sizeOf4
 v4:=zeroValue4
 i4:=by kernel_rfl
 t5:=underlying5
 a5:=isAgg5
 z5:=sizeOf5
 v5:=zeroValue5
 i5:=by kernel_rfl
 t9:=underlying9
 a9:=isAgg9
 z9:=sizeOf9
 v9:=zeroValue9
 i9:=by kernel_rfl
 t26:=underlying341
 a26:=isAgg341
 z26:=sizeOf341
 v26:=zeroValue341
 i26:=by kernel_rfl
 t38:=underlying345
 a38:=isAgg345
 z38:=sizeOf345
 v38:=zeroValue345
 i38:=by kernel_rfl
 t43:=underlying316
 a43:=isAgg316
 z43:=sizeOf316
 v43:=zeroValue316
 i43:=by kernel_rfl
 t45:=underlying315
 a45:=isAgg315
 z45:=sizeOf315
 v45:=zeroValue315
 i45:=by kernel_rfl
 t47:=underlying318
 a47:=isAgg318
 z47:=sizeOf318
 v47:=zeroValue318
 i47:=by kernel_rfl
 t56:=underlying334
 a56:=isAgg334
 z56:=sizeOf334
 v56:=zeroValue334
 i56:=by kernel_rfl
 t58:=underlying39
 a58:=isAgg39
 z58:=sizeOf39
 v58:=zeroValue39
 i58:=by kernel_rfl
 t60:=underlying337
 a60:=isAgg337
 z60:=sizeOf337
 v60:=zeroValue337
 i60:=by kernel_rfl
 t61:=underlying338
 a61:=isAgg338
 z61:=sizeOf338
 v61:=zeroValue338
 i61:=by kernel_rfl
 t65:=underlying343
 a65:=isAgg343
 z65:=sizeOf343
 v65:=zeroValue343
 i65:=by kernel_rfl
 t67:=underlying346
 a67:=isAgg346
 z67:=sizeOf346
 v67:=zeroValue346
 i67:=by kernel_rfl
 t71:=underlying349
 a71:=isAgg349
 z71:=sizeOf349
 v71:=zeroValue349
 i71:=by kernel_rfl
 t73:=underlying351
 a73:=isAgg351
 z73:=sizeOf351
 v73:=zeroValue351
 i73:=by kernel_rfl
 t74:=underlying352
 a74:=isAgg352
 z74:=sizeOf352
 v74:=zeroValue352
 i74:=by kernel_rfl}
open Go.RowKit Go.Lib Go.Sort in
theorem sort_Sort_eq[Inhabited α](T:TypeId)(rv:Value)(gn gl gs:Nat)(rN:Reaches prog T rv "Len" gn)(rL:Reaches prog T rv "Less" gl)(rS:Reaches prog T rv "Swap" gs)(enc:α->Value)(lt:α->α->Bool)(hO:SWO lt)(blk off:Nat)(d:Array α)(h2:2<=d.size)(hsz:d.size<4611686018427387904)(w:World)(hlen:LenM prog gn rv d.size w)(hless:LessM prog gl rv enc lt blk off d.size w)(hswap:SwapM prog gs rv enc blk off d.size)(hH:Holds enc w blk off d)(hblk:blk<w.heap.size):
  Calls prog 90 #[.iface T rv] w λe w'=>e=.returned (.tuple #[])/\∃n os,w'=grow (putRow enc (Sort.ahead w n) blk off (pdq lt d 0 d.size (Lib.bitLen d.size) true true)) os:=Any.sort_Sort_eq laysGt11 T rv gn gl gs rN rL rS enc lt hO blk off d h2 hsz w hlen hless hswap hH hblk
end
theorem Ud(h:0<n):0<Lib.bitLen n:=by unfold Lib.bitLen;rw[Lib.bitLenAux,if_neg (by omega)];omega
structure zcQ(D:World->Prop)(T:TypeId)(v:Value)(g:FuncId)(rc:Value)(n:Int):Prop where
 meth:∀W,(method 608 T v "Len").run prog W=.ok (g,rc) W
 nil:∀W,(nilAhead 608 T v "Len").run prog W=.ok (some false) W
 enter:∀args W,(callFunc g args).run prog W=.ok (.enter g args) W
 len:∀W,D W->Calls prog g #[rc] W λe w'=>e=.returned (.int .i64 n)/\za W w'
theorem Ws{D:World->Prop}{T:TypeId}{rn:Value}{g gn:FuncId}{n:Int}{w:World}(h:G8 D T v g rc n)(hN:zcQ D T v gn rn n)(hw:D w)(h2:2<=n)(hn:n<=1000):
  Calls prog 90 #[.iface T v] w λe w'=>e=.returned (.tuple #[])/\za w w':=by
 have hmeth:=hN.meth;have hnil:=hN.nil;have hent:=hN.enter;have H:=hid h;have HN:=hid hN;have HW:=hid hw;clear h hw hN;go_enter func90,ntmps90;go_wp2_with fail;refine(HN.out.len _ HW.out).mono ?_;rintro e w1 ⟨rfl,h1⟩;have H1:=hid h1;clear h1;go_wp2_with fail;refine(bits_Len n _ (by omega) (by omega)).mono ?_;rintro e w2 ⟨rfl,rfl⟩;have hb:=Ud (n:=n.toNat) (by omega);go_wp2_with fail;refine(zbs H.out (H.out.new _ _ HW.out H1.out) (by omega) (by omega) hn).mono ?_;rintro e w3 ⟨rfl,h3⟩;have H3:=hid (H1.out.trans h3);clear h3;go_wp2;go_returns;exact⟨rfl,H3.out⟩
end Go.Proofs.YtbmdoinjkligiaaGreat
