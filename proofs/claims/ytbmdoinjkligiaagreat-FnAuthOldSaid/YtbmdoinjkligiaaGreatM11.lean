/- Contracts and laws that the last text joins. -/
import Derived.Defers
import Derived.Test.YtbmdoinjkligiaaGreatM06
import Derived.Test.YtbmdoinjkligiaaGreatM10
set_option maxRecDepth 100000
set_option maxHeartbeats 40000000
set_option linter.all false
namespace Go.Proofs.YtbmdoinjkligiaaGreat
open Tryz
open Lib(hid)
open Go.RowKit
variable{C:List z_}{W:World}{bk j pdel pend vb:Nat}{e2 e4:zZ}{l:zu}{ps:yu}{rb wb:List (Nat×z_)}
theorem zbG{w:World}{I:zN}(h:j4 l w I C wb rb pend pdel e2 e4){b:zF}
  (hj:wb[j]? =some (bk,(b.name,ps)))(hpl:zk (zG wb) b.name=j)(hfd:zx (zG wb) b.name=true)(hsm:ps.length<=1000000)(hn:za w W)(hvb:w.heap.size<=vb)(hv0:W.heap[vb]? =some (.cells #[.slice none 0 0] 469 (0,0))):
  Calls prog 334 #[ptr I.t,b.val,.func (.func 285) #[] #[ptr vb]] W λe w'=>e=.returned .nilIface/\yL l.some W w' vb ps:=by
 obtain⟨hs,hB⟩:=h.ofNew hn;have hvl:vb<W.heap.size:=(Array.getElem?_eq_some_iff.1 hv0).1;obtain⟨_,nv,pv,fp,g1,g2,g3⟩:=h.wtx.hb _ (List.mem_of_getElem? hj);refine Un hB.bt (KO (S:=l.some) hs.bnd (λq e=>by show l q≠0;rw[e];decide) hB.wtx hj hpl hfd λw1 hn1=> ?_);refine(Um (S:=l.some) (w:=w) (hn.trans hn1) hvb (Nat.lt_of_lt_of_le hvl hn1.size) (hn1.heap hv0) ((hn.trans hn1).heap g1) g3 hsm).mono ?_;rintro e w2 ⟨rfl,hc⟩;exact⟨rfl,YL.done hn1 hc⟩
variable{S:Nat->Prop}{w':World}
theorem yL.undrew(h:yL S W.drew w' vb ps):yL S W w' vb ps:=⟨h.1.undrew,h.2⟩
structure RdX(Q:World->Prop)(S:Nat->Prop)(T:TypeId)(v:Value)(f g:FuncId)(rc rg:Value)(C:zF->yu):Prop extends Du Q S T v f rc C where
 meth2:∀W,(method 608 T v "UnsafeForEach").run prog W=.ok (g,rg) W
 nil2:∀W,(nilAhead 608 T v "UnsafeForEach").run prog W=.ok (some false) W
 enter2:∀args W,(callFunc g args).run prog W=.ok (.enter g args) W
 each:∀(w W:World) (vb:Nat),Q w->za w W->w.heap.size<=vb->W.heap[vb]? =some (.cells #[.slice none 0 0] 469 (0,0))->
  Calls prog g #[rg,zF.val .users,.func (.func 285) #[] #[ptr vb]] W λe w'=>e=.returned .nilIface/\yL S W w' vb (C .users)
def K7(S:Nat->Prop)(w w':World)(us:List zj)(v:Value):Prop:=
 ∃bs:List Nat,Sl w'.cell? 1 (bs.map ptr) v/\(∀q,v.ownBlock=some q->w.heap.size<=q)/\qy (λu b=>w.heap.size<=b/\jd (im (λj=>S j) w') b u) us bs
variable{bytes:Nat}{e:TypeId}
theorem YU{t:TypeId}{z:Value}(E:yB prog t e z 1 bytes)(hz:z.cells= #[z])(w:World)(n:Nat)(hn:n*bytes<=140737488355328)(hn2:n<=4611686018427387904):
  (Instr.makeSlice t (.int .i64 n) (.int .i64 n)).run prog w=.ok (.slice (some ⟨w.heap.size,0,none⟩) n n) (w.alloc (.cells (List.replicate n z).toArray e)):=by
 obtain⟨i,hi,hz',hsz,hby⟩:=info_parts E.info;have h:=run_make (P:=prog) w t e i _ E.under hi hz' .i64 .i64 n n (by omega) (by omega) (by rw[hby];have h9:(bytes:Int)*n<=140737488355328:=(by have h8:=hn;rw[Nat.mul_comm]at h8;rw[<-Int.natCast_mul];exact Int.ofNat_le.2 h8);exact Int.le_trans h9 (by decide)) (by omega);rw[hsz]at h;have e1:madeCells z.cells (n*1)=(List.replicate n z).toArray:=by rw[Nat.mul_one,hz];apply Array.toList_inj.1;show(madeCells #[z] n).toList=_;rw[toList_madeCells_one]
 simp only[Int.toNat_natCast]at h;rw[h,e1]
theorem WW:yB prog 266 216 (.pointer none) 1 8:=⟨by kernel_rfl,by kernel_rfl,rfl,by decide⟩
variable{b k n:Nat}
theorem K8{bs:List Nat}(hk:bs.length=k)(hlt:k<n):((bs.map ptr++List.replicate (n-k) (Value.pointer none)).toArray.setIfInBounds k (ptr b))=((bs++[b]).map ptr++List.replicate (n-(k+1)) (Value.pointer none)).toArray:=by
 apply Array.toList_inj.1;rw[Array.toList_setIfInBounds];subst hk;have e:List.replicate (n-bs.length) (Value.pointer none)=Value.pointer none::List.replicate (n-(bs.length+1)) (Value.pointer none):=by rw[show n-bs.length=(n-(bs.length+1))+1 by omega,List.replicate_succ]
 rw[e];simp
structure YV(S:Nat->Prop)(w W1 wr:World)(ub n:Nat)(us:List zj)(k:Nat)(bs:List Nat):Prop where
 len:bs.length=k
 mod:zo (· =ub) W1 wr
 row:wr.heap[ub]? =some (.cells (bs.map ptr++List.replicate (n-k) (Value.pointer none)).toArray 216 (0,0))
 all:qy (λu b=>w.heap.size<=b/\jd (im (λj=>S j\/j=ub) wr) b u) (us.take k) bs
variable{nv ov:Value}{ub:Nat}{w5 wr:World}
theorem YV.step{w W1:World}{us:List zj}{bs:List Nat}(h:YV S w W1 wr ub n us k bs)(hS:∀j,S j->j<w.heap.size)(hu:w.heap.size<=ub)(hul:ub<W1.heap.size)(hk:k<us.length)(hkn:k<n){rv:Value}
  (hw:w.heap.size<=wr.heap.size)(hut:Yi (wr.alloc JN) w5 wr.heap.size ((us[k]).name,(us[k]).roles,true) nv rv ov):YV S w W1 (w5.setCell ⟨ub,k,none⟩ (ptr wr.heap.size)) ub n us (k+1) (bs++[wr.heap.size]):=by
 have hsz:(wr.alloc JN).heap.size=wr.heap.size+1:=Array.size_push ..
 have hn5:za wr w5:=zo.trans ((za.refl wr).alloc _) hut.mod λj hj e=>by omega
 have hur:ub<wr.heap.size:=Nat.lt_of_lt_of_le hul h.mod.size;have hset:=kQ (λj=>S j\/j=ub) w5 ⟨ub,k,none⟩ (Or.inr rfl) (ptr wr.heap.size);refine⟨by simp[h.len],(zo.trans h.mod (za.mod hn5 _) λ_ _ e=>e).setCell (λ_=>rfl) _,?_,?_⟩
 ·rw[heap_setCell_same w5 ub k _ _ _ (hn5.heap h.row),K8 h.len hkn]
 ·rw[List.take_succ_eq_append_getElem hk];refine(h.all.mono λu b ⟨h1,h2⟩=>⟨h1,(h2.mono (za.im hn5 _)).mono hset⟩).append (.cons ⟨hw,?_⟩ .nil);exact(hut.at (S:=λj=>S j\/j=ub) λj hj=>by
   rw[hsz];rcases hj with hj|hj
   ·have:=hS j hj;omega
   ·omega).mono hset
variable{lg rc v:Value}
theorem XM{Q:World->Prop}{T:TypeId}{rg:Value}{f g:FuncId}{C:zF->yu}{w:World}{us:List zj}(h:RdX Q S T v f g rc rg C)(hq:Q w)(hg:C .users=us.map λu=>(u.name,u.enc))(hsm:us.length<=1000)(ho:∀u∈us,jy u):
  Calls prog 275 #[lg,.iface T v] w λe w'=>∃uv,e=.returned uv/\Q w'/\za w w'/\K7 S w w' us uv:=by
 have hmeth:=h.meth2;have hnil:=h.nil2;have hent:=h.enter2;have HA:=hid (λW=>kF W);obtain⟨W0,hW0⟩:=zex (w.alloc (.cells #[.slice none 0 0] 469));have hn0:za w W0:=by rw[hW0];exact(za.refl w).alloc _
 have hv0:W0.heap[w.heap.size]? =some (.cells #[.slice none 0 0] 469 (0,0)):=by rw[hW0];exact zg w _
 have HE:=hid (h.each w W0.drew w.heap.size hq (hn0.drew) (Nat.le_refl _) hv0);have H:=hid h;have HQ:=hid hq;have HG:=hid hg;have HO:=hid ho;have HN0:=hid hn0;clear h hq hg ho hn0 hv0;have HW0:=hid hW0;clear hW0;go_enter func275,ntmps275;go_upto_region 2 with fail
 rw[<-HW0.out];go_cut [6]from 11 to 18 (λc wx=>c=.nilIface/\yL S W0 wx w.heap.size (C .users))
 case first=>
  go_region_with (first|(go_at_call 216;refine(HA.out _).mono ?_;rintro e w1 ⟨rfl,rfl⟩)|(refine HE.out.mono ?_;rintro e w1 ⟨rfl,hc1⟩))
  all_goals(
   have HC1:=hid hc1;clear hc1;go_wp2_with fail;go_meet;exact⟨rfl,yL.undrew HC1.out⟩)
 case rest=>
  obtain⟨rfl,hc⟩:=hcut;obtain⟨hm,v0,cs,hvb,hown,hall⟩:=hc;have hNC:za w wc:=zo.trans HN0.out hm λj hj e=>by omega
  have hlen:cs.length=us.length:=by rw[<-hall.length,HG.out,List.length_map]
  obtain⟨n,hn⟩:∃n,us.length=n:=⟨_,rfl⟩;have hn5:(C .users).length=n:=by rw[HG.out,List.length_map,hn]
  rw[hn5]at hown;rw[hn]at hlen;have c0:wc.cell? ⟨w.heap.size,0,none⟩=some v0:=by rw[cell_of_row wc _ 0 _ _ (0,0) hvb];rfl
  have hsl:=Sl.of_own hown;obtain⟨p,n8,c8,rfl⟩:=hsl.shape;obtain⟨hn8,had⟩:=hsl.addr;have hn8:n8=n:=by rw[<-hn8,hlen]
  subst hn8;have HNC:=hid hNC;have HSL:=hid hsl;have HALL:=hid hall;have HLEN:=hid hlen;have HN:=hid hn;have HAD:=hid had;clear hNC hsl hall hlen hn hm hown hvb had hn5 hmeth hnil hent HE;by_cases h0:n8=0
  ·subst h0;go_wp2;go_returns;refine⟨_,rfl,H.out.new _ _ HQ.out HNC.out,HNC.out,[],Sl.nil _ _,(λq hq=>by cases hq),?_⟩;have:us=[]:=List.eq_nil_of_length_eq_zero HN.out;rw[this];exact .nil
  ·have hmk:=YU WW rfl wc n8 (by have:=HN.out;omega) (by have:=HN.out;omega);have h0':((n8:Int)==0)=false:=by simp;omega
   obtain⟨W1,hW1⟩:=zex (wc.alloc (.cells (List.replicate n8 (Value.pointer none)).toArray 216));have hn1:za wc W1:=by rw[hW1];exact(za.refl wc).alloc _
   have hrow1:W1.heap[wc.heap.size]? =some (.cells (List.replicate n8 (Value.pointer none)).toArray 216 (0,0)):=by rw[hW1];exact zg wc _
   rw[<-hW1]at hmk;have hlt1:wc.heap.size<W1.heap.size:=(Array.getElem?_eq_some_iff.1 hrow1).1;have hr0:YV S w W1 W1 wc.heap.size n8 us 0 []:=⟨rfl,zo.refl _ _,hrow1,.nil⟩;have hSw:=H.out.lt _ HQ.out;have hwl:w.heap.size<wc.heap.size:=World.block_lt_of_cell? wc _ c0;have c01:W1.cell? ⟨w.heap.size,0,none⟩=some (.slice p n8 c8):=hn1.le _ _ c0;have HN1:=hid hn1;have HR0:=hid hr0;have HSW:=hid hSw;clear hW1 hn1 hrow1 hr0 hSw;go_wp2;go_loopw [29] (λc wr=>∃(k:Nat) (bs:List Nat),k<=n8/\c=.int .i64 k/\YV S w W1 wr wc.heap.size n8 us k bs) (λc _=>n8-(intOf c).toNat)
   case atStart=>exact⟨0,[],Nat.zero_le _,rfl,HR0.out⟩
   case round=>
    obtain⟨k,bs,hk,rfl,hR⟩:=hrel;have hne0:w.heap.size≠wc.heap.size:=by omega
    have d0:wr.cell? ⟨w.heap.size,0,none⟩=some (.slice p n8 c8):=hR.mod.cell (λe=>hne0 e) c01;by_cases hlt:k<n8
    ·have hku:k<us.length:=by rw[HN.out];exact hlt
     have hkc:k<cs.length:=by rw[HLEN.out];exact hlt
     obtain⟨gb,go,rfl⟩:=HAD.out (by intro e;rw[e]at hkc;simp at hkc);have hvk:=HSL.out.cellAt k hkc;have hgk:=HALL.out.get k (by rw[HG.out,List.length_map];exact hku) hkc;have e1:((C .users)[k]'(by rw[HG.out,List.length_map];exact hku)).2=us[k].enc:=by
      have:∀(l:yu) (h:k<l.length),l=us.map (λu=>(u.name,u.enc))->l[k].2=us[k].enc:=λl h e=>by subst e;simp
      exact this _ _ HG.out
     simp only[e1]at hgk;obtain⟨kp,kn,kc,hkv,_⟩:=hgk.shape;rw[hkv]at hvk hgk;have hgb:gb≠wc.heap.size:=λe=>by have h9:=World.block_lt_of_cell? wc _ hvk;rw[e]at h9;exact Nat.lt_irrefl _ h9
     have dk:wr.cell? ⟨gb,go+k,none⟩=some (.slice kp kn kc):=hR.mod.cell (λe=>hgb e) (HN1.out.le _ _ hvk);have hbs:Bs wc.cell? us[k].enc (.slice kp kn kc):=hgk.mono (zd _ _);have hwr:w.heap.size<=wr.heap.size:=by have:=hR.mod.size;omega
     have hub:wc.heap.size<wr.heap.size:=Nat.lt_of_lt_of_le hlt1 hR.mod.size;have HU:=hid (Qv (w:=wr.alloc JN) (r:=wc.cell?) (b:=wr.heap.size) (zg wr _) (λa y ha=>by have hal:=World.block_lt_of_cell? wc a ha;refine zi.2 ⟨λe=>by have e:a.block=wr.heap.size:=e;omega,za.le ((za.refl wr).alloc _) _ _ (hR.mod.cell (λe=>by have e:a.block=wc.heap.size:=e;omega) (HN1.out.le _ _ ha))⟩) (HO.out _ (List.getElem_mem hku)) hbs)
     unfold JN at HU;have HR:=hid hR;have hrowc:=hR.row;have hkk:(k:Int)<n8:=by omega
     have dal:∀ob,(wr.alloc ob).cell? ⟨w.heap.size,0,none⟩=some (.slice (some ⟨gb,go,none⟩) n8 c8):=λob=>za.le ((za.refl wr).alloc ob) _ _ d0;have dkl:∀ob,(wr.alloc ob).cell? ⟨gb,go+k,none⟩=some (.slice kp kn kc):=λob=>za.le ((za.refl wr).alloc ob) _ _ dk;clear hR hgk hbs hvk d0 dk;go_wp2_with fail;refine HU.out.mono ?_;rintro e w5 ⟨rfl,nv,rv,ov,hu⟩;have HUT:=hid hu;have hn5:za wr w5:=zo.trans ((za.refl wr).alloc _) hu.mod λj hj e=>by omega
     have hrow5:=hn5.heap hrowc;have k5:∃x,w5.cell? ⟨wc.heap.size,k,none⟩=some x:=⟨_,by rw[cell_of_row w5 _ k _ _ (0,0) hrow5];exact Array.getElem?_eq_getElem (by have:=HR.out.len;simp;omega)⟩;obtain⟨x5,k5⟩:=k5;have f5:w5.frozen? ⟨wc.heap.size,k,none⟩=false:=by simp[World.frozen?,hrow5]
     clear hu hn5 hrow5 hrowc HU;go_wp2;go_roundw
     case rel=>exact⟨k+1,_,by omega,by go_num,HR.out.step HSW.out (by omega) hlt1 hku hlt hwr HUT.out⟩
     case measure=>simp[intOf];omega
    ·have hkn:k=n8:=by omega
     subst hkn;have HR:=hid hR;clear hR;go_wp2;go_returns;have hNr:za w wr:=zo.trans (HNC.out.trans HN1.out) HR.out.mod λj hj e=>by omega
     have hal:=HR.out.all;rw[List.take_of_length_le (by rw[HN.out];exact Nat.le_refl _)]at hal;have hrow:=HR.out.row;rw[Nat.sub_self]at hrow;refine⟨_,rfl,H.out.new _ _ HQ.out hNr,hNr,bs,?_,λq hq=> ?_,hal.mono λu b ⟨h1,h2⟩=>⟨h1,h2.mono (jq λj e=>Or.inl e)⟩⟩
     rotate_left
     ·have hq':wc.heap.size=q:=by simpa[Value.ownBlock]using hq
      omega
     refine⟨_,_,_,rfl,by simp[HR.out.len],Nat.le_refl _,by have:=HN.out;omega,(λh=>by cases h),Or.inr ⟨_,_,rfl,λi hi=> ?_⟩⟩;rw[cell_of_row wr _ _ _ _ (0,0) hrow,Nat.zero_add];simp only[List.replicate_zero,List.append_nil,List.getElem?_toArray];exact List.getElem?_eq_getElem hi
theorem gL(t:Nat)(W:World):(method 608 257 (ptr t) "UnsafeRange").run prog W=.ok (336,ptr t) W:=by kernel_rfl
theorem Uz(t:Nat)(W:World):(nilAhead 608 257 (ptr t) "UnsafeRange").run prog W=.ok (some false) W:=by kernel_rfl
theorem zbH(t:Nat)(W:World):(method 608 238 (ptr t) "UnsafeRange").run prog W=.ok (313,ptr t) W:=by kernel_rfl
theorem zc3(t:Nat)(W:World):(nilAhead 608 238 (ptr t) "UnsafeRange").run prog W=.ok (some false) W:=by kernel_rfl
theorem WX(t:Nat)(W:World):(method 608 257 (ptr t) "UnsafeForEach").run prog W=.ok (334,ptr t) W:=by kernel_rfl
theorem zbI(t:Nat)(W:World):(nilAhead 608 257 (ptr t) "UnsafeForEach").run prog W=.ok (some false) W:=by kernel_rfl
theorem WY(t:Nat)(W:World):(method 608 238 (ptr t) "UnsafeForEach").run prog W=.ok (312,ptr t) W:=by kernel_rfl
theorem zbJ(t:Nat)(W:World):(nilAhead 608 238 (ptr t) "UnsafeForEach").run prog W=.ok (some false) W:=by kernel_rfl
structure vu where
 auth:yu
 roles:yu
 users:yu
def vu.get(D:vu):zF->yu
 |.auth=>D.auth
 |.roles=>D.roles
 |.users=>D.users
def vu.put(D:vu)(b:zF)(ps:yu):vu:=match b with
 |.auth=>{D with auth:=ps}
 |.roles=>{D with roles:=ps}
 |.users=>{D with users:=ps}
def vu.bkts(D:vu):List z_:=[(zF.name .auth,D.auth),(zF.name .roles,D.roles),(zF.name .users,D.users)]
def zF.pos:zF->Nat
 |.auth=>0
 |.roles=>1
 |.users=>2
def K_:List Bytes:=[zF.name .auth,zF.name .roles,zF.name .users]
theorem vQ{D:vu}(h:wb.map (·.2)=D.bkts):zG wb=K_:=by
 have:zG wb=(wb.map (·.2)).map (·.1):=by unfold zG;rw[List.map_map];rfl
 rw[this,h];rfl
theorem kr(b:zF):zk K_ b.name=b.pos/\zx K_ b.name=true:=by cases b<;>decide
theorem gM:K_.Nodup:=by decide
theorem xW{D:vu}(h:wb.map (·.2)=D.bkts)(b:zF):∃bk,wb[b.pos]? =some (bk,(b.name,D.get b)):=by
 have h1:(wb.map (·.2))[b.pos]? =some (b.name,D.get b):=by rw[h];cases b<;>rfl
 rw[List.getElem?_map,Option.map_eq_some_iff]at h1;obtain⟨⟨bk,x⟩,h2,h3⟩:=h1;exact⟨bk,by rw[h2];simp only at h3;rw[h3]⟩
theorem Va{D:vu}(h:wb.map (·.2)=D.bkts):wb.length=3:=by have:=congrArg List.length h;simpa[vu.bkts]using this
theorem uC{D:vu}(h:wb.map (·.2)=D.bkts){b:zF}(ps:yu):(wb.set b.pos (bk,(b.name,ps))).map (·.2)=(D.put b ps).bkts:=by rw[List.map_set,h];cases b<;>rfl
structure zc4(ps:yu):Prop where
 rise:zM (zJ ps)
 ne:∀p∈ps,p.1≠[]
 len:ps.length<=1000
 key:∀p∈ps,p.1.length<=1000
def vu.ok(D:vu):Prop:=∀b,zc4 (D.get b)
theorem YX{w:World}{I:zN}{D:vu}(hD:wb.map (·.2)=D.bkts)(hk:D.ok):
  RdX (λW=>zB l w l W/\j4 l W I C wb rb pend pdel e2 e4) l.some 257 (ptr I.t) 336 334 (ptr I.t) (ptr I.t) D.get where
 new W W' h hn:=⟨h.1.trans (h.2.ofNew hn).1,(h.2.ofNew hn).2⟩
 lt W h j hj:=h.2.bnd j hj
 meth:=gL I.t
 nil:=Uz I.t
 enter _ _:=by kernel_rfl
 range b W k kv lim h hkv:=by obtain⟨bk,hj⟩:=xW hD b;have hnm:=kr b;rw[<-vQ hD]at hnm;refine(dW (S:=l.some) (F:=l.is 9) h.2.bnd (λj e=>by show l j≠0;rw[e];decide) h.2.bt h.2.wtx hj hnm.1 hnm.2 (hk b).rise (hk b).ne (by have:=(hk b).len;omega) hkv).mono ?_;rintro e w' ⟨ks,vs,rfl,hn,hv⟩;exact⟨ks,vs,rfl,⟨h.1.trans (h.2.ofNew hn).1,(h.2.ofNew hn).2⟩,hn.mod _,hv⟩
 meth2:=WX I.t
 nil2:=zbI I.t
 enter2 _ _:=by kernel_rfl
 each W0 W vb h hn hvb hv0:=by obtain⟨bk,hj⟩:=xW hD .users;have hnm:=kr .users;rw[<-vQ hD]at hnm;exact zbG h.2 hj hnm.1 hnm.2 (by have:=(hk .users).len;omega) hn hvb hv0
theorem YY{w:World}{I:zN}{D:vu}(hz:∀e∈e4,e.2.2.2=[])(hD:rb.map (·.2)=D.bkts)(hk:D.ok):
  RdX (λW=>zB l w l W/\j4 l W I C wb rb pend pdel e2 e4) l.some 238 (ptr I.rt) 313 312 (ptr I.rt) (ptr I.rt) D.get where
 new W W' h hn:=⟨h.1.trans (h.2.ofNew hn).1,(h.2.ofNew hn).2⟩
 lt W h j hj:=h.2.bnd j hj
 meth:=zbH I.rt
 nil:=zc3 I.rt
 enter _ _:=by kernel_rfl
 range b W k kv lim h hkv:=by obtain⟨bk,hj⟩:=xW hD b;have hnm:=kr b;have hnd:=gM;rw[<-vQ hD]at hnm hnd;refine(Wy h.2 hz hj hnm.1 hnm.2 hnd (hk b).rise (hk b).ne (by have:=(hk b).len;omega) hkv).mono ?_;rintro e w' ⟨ks,vs,rfl,hs,hB,hv⟩;exact⟨ks,vs,rfl,⟨h.1.trans hs,hB⟩,hs.mod.mono λj _ e=>e.1,hv⟩
 meth2:=WY I.rt
 nil2:=zbJ I.rt
 enter2 _ _:=by kernel_rfl
 each W0 W vb h hn hvb hv0:=by obtain⟨bk,hj⟩:=xW hD .users;have hnm:=kr .users;rw[<-vQ hD]at hnm;exact zbu h.2 hz hj hnm.1 hnm.2 (by have:=(hk .users).len;omega) (hk .users).key hn hvb hv0
def k7(l:zu)(w:World)(I:zN)(D:vu)(pend pdel:Nat)(us:zF->List Bytes):Prop:=
 ∃(C:List z_) (wb rb:List (Nat×z_)) (e2 e4:zZ),j4 l w I C wb rb pend pdel e2 e4/\wb.map (·.2)=D.bkts/\(∀e∈e4,e.2.2.2=[])/\(∀b,yC e2 b=us b)/\(pend=0->C=D.bkts/\rb.map (·.2)=D.bkts/\∀b,us b=[])
def jL:zF->List Bytes:=λ_=>[]
def V8(l:zu)(w:World)(I:zN)(D:vu):Prop:=k7 l w I D 0 0 jL
variable{us:zF->List Bytes}
theorem k7.bnd{w:World}{I:zN}{D:vu}(h:k7 l w I D pend pdel us):∀j,l j≠0->j<w.heap.size:=by obtain⟨C,wb,rb,e2,e4,hB,_⟩:=h;exact hB.bnd
structure qF(l:zu)(w:World)(l':zu)(w':World):Prop where
 mod:zo (λj=>11<l j) w w'
 old:∀b,b<w.heap.size->l' b=l b
 bnd:∀b,l' b≠0->b<w'.heap.size
variable{l':zu}
theorem qF.le{w:World}(h:qF l w l' w'):(im l.some w).le (im l'.some w'):=
 (h.mod.mono (S':=l.some) λj _ e=>by show l j≠0;omega).im λb hb e=>by show l b≠0;rw[<-h.old b hb];exact e
theorem qF.ofNew{w:World}(h:∀b,l b≠0->b<w.heap.size)(hn:za w w'):qF l w l w':=
 ⟨hn.mod _,λ_ _=>rfl,λb e=>Nat.lt_of_lt_of_le (h b e) hn.size⟩
theorem qF.refl{w:World}(h:∀b,l b≠0->b<w.heap.size):qF l w l w:=qF.ofNew h (za.refl w)
variable{w'':World}
theorem qF.trans{l'':zu}{w:World}(h:qF l w l' w')(k:qF l' w' l'' w''):qF l w l'' w'' where
 mod:=h.mod.trans k.mod λb hb e=>by rw[h.old b hb]at e;exact e
 old b hb:=by rw[k.old b (Nat.lt_of_lt_of_le hb h.mod.size),h.old b hb]
 bnd:=k.bnd
variable{F:Nat->Prop}
theorem qF.own{w:World}(hb:∀b,l b≠0->b<w.heap.size)(hm:zo (λj=>11<l j) w w')(hF:∀b,F b->l b≠0\/w.heap.size<=b/\b<w'.heap.size):qF l w (l.add F n) w' where
 mod:=hm
 old b hlt:=by
  by_cases e:l b=0
  ·exact zu.add_neg λf=>by rcases hF b f with e2|e2;exact e2 e;omega
  ·exact zu.add_old e
 bnd b e:=by
  by_cases h0:l b=0
  ·by_cases f:F b
   ·rcases hF b f with e2|e2
    ·exact absurd h0 e2
    ·exact e2.2
   ·rw[zu.add_neg f]at e;exact absurd h0 e
  ·exact Nat.lt_of_lt_of_le (hb b h0) hm.size
theorem j4.client{w:World}{I:zN}(h:j4 l w I C wb rb pend pdel e2 e4)(hc:qF l w l' w'):j4 l' w' I C wb rb pend pdel e2 e4:=
 h.frame hc.bnd (λb e=>⟨hc.old b (h.bnd b e.1),hc.mod.block b (h.bnd b e.1) (λe2=>by have:=e.2;omega)⟩) hc.le
theorem k7.client{w:World}{I:zN}{D:vu}(h:k7 l w I D pend pdel us)(hc:qF l w l' w'):k7 l' w' I D pend pdel us:=by obtain⟨C,wb,rb,e2,e4,hB,h1,h2,h3,h4⟩:=h;exact⟨C,wb,rb,e2,e4,hB.client hc,h1,h2,h3,h4⟩
theorem k7.new{w:World}{I:zN}{D:vu}(h:k7 l w I D pend pdel us)(hn:za w w'):k7 l w' I D pend pdel us:=h.client (qF.ofNew h.bnd hn)
variable{kv vv:Value}
theorem Ky{w:World}{I:zN}{D:vu}(h:k7 l w I D pend pdel us)(hD:D.ok)(hp:pend<=900){b:zF}{k v:Bytes}(hu:(us b).length<=500)
  (hk:Bs (im l.some w) k kv)(hv:Bs (im l.some w) v vv)(hk0:k≠[])(hkl:k.length<=1000)(hvl:v.length<=100000000):
  Calls prog 335 #[ptr I.t,b.val,kv,vv] w λe w'=>e=.returned (.tuple #[])/\∃l',zB l w l' w'/\k7 l' w' I (D.put b (yj (D.get b) k v)) (pend+1) pdel (λc=>us c++if c=b then [k]else []):=by
 obtain⟨C,wb,rb,e2,e4,hB,h1,h2,h3,h4⟩:=h;obtain⟨bk,hj⟩:=xW h1 b;have hnm:=kr b;rw[<-vQ h1]at hnm;refine(zcP hB hj hnm.1 hnm.2 (hD b).rise (by have:=(hD b).len;omega) (by omega) (by rw[h3];exact hu) hk hv hk0 (by omega) hvl).mono ?_;rintro e w' ⟨l',e2',rfl,hs,hu',hB'⟩;exact⟨rfl,l',hs,C,_,rb,e2',e4,hB',uC h1 _,h2,λc=>by rw[hu',h3],λe=>by omega⟩
theorem Vb{w:World}{I:zN}{D:vu}(h:k7 l w I D pend pdel us)(hD:D.ok)(hp:pend<=900)(hpd:pdel<=900){b:zF}{k:Bytes}(hk:Bs (im l.some w) k kv):
  Calls prog 332 #[ptr I.t,b.val,kv] w λe w'=>e=.returned (.tuple #[])/\zB l w l w'/\k7 l w' I (D.put b (js (D.get b) k)) (pend+1) (pdel+1) us:=by
 obtain⟨C,wb,rb,e2,e4,hB,h1,h2,h3,h4⟩:=h;obtain⟨bk,hj⟩:=xW h1 b;have hnm:=kr b;rw[<-vQ h1]at hnm;refine(G7 hB hj hnm.1 hnm.2 (hD b).rise (by have:=(hD b).len;omega) (by omega) (by omega) hk).mono ?_;rintro e w' ⟨rfl,hs,hB'⟩;exact⟨rfl,hs,C,_,rb,e2,e4,hB',uC h1 _,h2,h3,λe=>by omega⟩
def zN.same(I J:zN):Prop:=J.be=I.be/\J.t=I.t/\J.rt=I.rt/\J.db=I.db
theorem zN.same_refl(I:zN):I.same I:=⟨rfl,rfl,rfl,rfl⟩
theorem zN.same_trans{I J K:zN}(h:I.same J)(k:J.same K):I.same K:=⟨k.1.trans h.1,k.2.1.trans h.2.1,k.2.2.1.trans h.2.2.1,k.2.2.2.trans h.2.2.2⟩
theorem zc5(h:∀e∈e2,e.2.2.2=[])(b:zF):yC e2 b=[]:=by
 unfold yC;cases hf:e2.find? (λe=>e.1=b)with
 |none=>rfl
 |some e=>exact h e (List.mem_of_find?_eq_some hf)
theorem j6.idle{w:World}{I:zN}{D:vu}(h:j6 l w I D.bkts e2 w')(h2:∀e∈e2,e.2.2.2=[]):∃l' I',zB l w l' w'/\I.same I'/\V8 l' w' I' D:=by obtain⟨l',a,b,c,wb',rb',e4',h1,g2,g3,g4,g5⟩:=h;exact⟨l',{I with wtx:=a,rtx:=b,cm:=c},h1,⟨rfl,rfl,rfl,rfl⟩,D.bkts,wb',rb',e2,e4',g5,g2,g4,zc5 h2,λ_=>⟨rfl,g3,λ_=>rfl⟩⟩
def Unl(l:zu)(w:World)(I:zN)(D:vu)(w1:World):Prop:=
 ∃(l1:zu) (I1:zN) (C1:List z_) (wb1 rb1:List (Nat×z_)) (p pd:Nat) (x2 x4:zZ),zB l w l1 w1/\I.same I1/\j4 l1 w1 I1 C1 wb1 rb1 p pd x2 x4/\wb1.map (·.2)=D.bkts/\(∀e∈x2,e.2.2.2=[])/\(p=0->C1=D.bkts)
theorem Vc{w:World}{I:zN}{D:vu}(h:k7 l w I D pend pdel us)(hp:pend<1000)(hr:∀b,zM (us b)):
  Calls prog 78 #[ptr I.t] w λe w1=>e=.returned (.tuple #[])/\Unl l w I D w1:=by
 obtain⟨C,wb,rb,e2,e4,hB,h1,h2,h3,h4⟩:=h;have hl3:=Va h1;have hus:∀e∈e2,e.2.2.2=us e.1:=λe he=>by have:=Yr hB.buf2.keys (b:=e.1) (x:=e.2) he;rw[<-this,h3]
 by_cases h0:pend=0
 ·subst h0;obtain⟨c1,c2,c3⟩:=h4 rfl;refine(Gu hB.bt hB.be).mono ?_;rintro e w1 ⟨rfl,n,rfl⟩;exact⟨rfl,l,I,C,wb,rb,0,pdel,e2,e4,(zB.refl hB.bnd).drewN n,zN.same_refl I,hB.drewN n,h1,λe he=>by rw[hus e he];exact c3 _,λ_=>c1⟩
 ·refine(Dd hB (by omega) hp (by omega) (λe he=>by rw[hus e he];exact hr _) h2).mono ?_;rintro e w1 ⟨rfl,c2,hc2,hcase⟩;rw[h1]at hcase;rcases hcase with⟨rfl,c4,hs,hB1⟩|⟨_,hc⟩
  ·exact⟨rfl,l,I,C,wb,rb,pend,0,c2,c4,hs,zN.same_refl I,hB1,h1,hc2,λe=>by omega⟩
  ·obtain⟨l',a,b,c,wb',rb',e4',g1,g2,g3,g4,g5⟩:=hc;exact⟨rfl,l',{I with wtx:=a,rtx:=b,cm:=c},D.bkts,wb',rb',0,0,c2,e4',g1,⟨rfl,rfl,rfl,rfl⟩,g5,g2,hc2,λ_=>rfl⟩
variable{w1 w2:World}
theorem Vd{w:World}{I:zN}{D:vu}(h:Unl l w I D w1)(hn:za w1 w2):
  Calls prog 74 #[ptr I.t] w2 λe w'=>e=.returned (.tuple #[])/\∃l' I',zB l w l' w'/\I.same I'/\V8 l' w' I' D:=by
 obtain⟨l1,I1,C1,wb1,rb1,p,pd,x2,x4,hs,hsame,hB,h1,h2,h3⟩:=h;have hl3:=Va h1;have:=Xx (hB.ofNew hn).2 (by omega) (λe=>by rw[h1];exact h3 e);rw[hsame.2.1,h1]at this;refine this.mono ?_;rintro e w' ⟨rfl,hc⟩;obtain⟨l',I',g1,g2,g3⟩:=hc.idle h2;exact⟨rfl,l',I',(hs.trans (hB.ofNew hn).1).trans g1,zN.same_trans hsame g2,g3⟩
theorem Z4{w:World}{I:zN}{D:vu}(h:V8 l w I D):
  Calls prog 151 #[ptr I.be] w λe w'=>e=.returned (.tuple #[])/\∃l' I',zB l w l' w'/\I.same I'/\V8 l' w' I' D:=by
 obtain⟨C,wb,rb,e2,e4,hB,h1,h2,h3,h4⟩:=h;have hl3:=Va h1;have hus:∀e∈e2,e.2.2.2=[]:=λe he=>by have:=Yr hB.buf2.keys (b:=e.1) (x:=e.2) he;rw[<-this,h3];rfl
 have:=KM hB (by omega) (λe=>by rw[h1];exact(h4 rfl).1);rw[h1]at this;refine this.mono ?_;rintro e w' ⟨rfl,hc⟩;obtain⟨l',I',g1,g2,g3⟩:=hc.idle hus;exact⟨rfl,l',I',g1,g2,g3⟩
variable{R:Value->World->Prop}{x:Nat}
theorem JQ{T:TypeId}{w:World}(hx:w.heap[x]? =some (.cells #[.iface T v,.pointer none] 419 (0,0)))
  (hc:Calls prog 277 #[.pointer none,.iface T v,nv] w.drew λe w'=>∃r,e=.returned r/\R r w'):
  Calls prog 267 #[ptr x,nv] w λe w'=>∃r,e=.returned r/\R r w':=by
 obtain⟨c0,c1,_⟩:=qT hx;have HC:=hid hc;clear hc hx;go_enter func267,ntmps267;go_wp2_with fail;go_region_with (refine HC.out.mono ?_;rintro e w1 ⟨r,rfl,hr⟩;have HR:=hid hr;clear hr)
 all_goals
  go_wp2;go_returns;exact⟨_,rfl,HR.out⟩
theorem JR{T:TypeId}{w:World}(hx:w.heap[x]? =some (.cells #[.iface T v,.pointer none] 419 (0,0)))
  (hc:Calls prog 276 #[.pointer none,.iface T v,nv] w.drew λe w'=>∃r,e=.returned r/\R r w'):
  Calls prog 266 #[ptr x,nv] w λe w'=>∃r,e=.returned r/\R r w':=by
 obtain⟨c0,c1,_⟩:=qT hx;have HC:=hid hc;clear hc hx;go_enter func266,ntmps266;go_wp2_with fail;go_region_with (refine HC.out.mono ?_;rintro e w1 ⟨r,rfl,hr⟩;have HR:=hid hr;clear hr)
 all_goals
  go_wp2;go_returns;exact⟨_,rfl,HR.out⟩
theorem Kd{T:TypeId}{w:World}(hx:w.heap[x]? =some (.cells #[.iface T v,.pointer none] 419 (0,0)))
  (hc:Calls prog 275 #[.pointer none,.iface T v] w.drew λe w'=>∃r,e=.returned r/\R r w'):
  Calls prog 265 #[ptr x] w λe w'=>∃r,e=.returned r/\R r w':=by
 obtain⟨c0,c1,_⟩:=qT hx;have HC:=hid hc;clear hc hx;go_enter func265,ntmps265;go_wp2_with fail;go_region_with (refine HC.out.mono ?_;rintro e w1 ⟨r,rfl,hr⟩;have HR:=hid hr;clear hr)
 all_goals
  go_wp2;go_returns;exact⟨_,rfl,HR.out⟩
theorem Q_{T:TypeId}{w:World}(hx:w.heap[x]? =some (.cells #[.iface T v,.pointer none] 419 (0,0)))
  (hc:Calls prog 279 #[.iface T v] w λe w'=>∃r,e=.returned r/\R r w'):
  Calls prog 270 #[ptr x] w λe w'=>∃r,e=.returned r/\R r w':=by
 obtain⟨c0,c1,_⟩:=qT hx;have HC:=hid hc;clear hc hx;go_enter func270,ntmps270;go_wp2_with fail;refine HC.out.mono ?_;rintro e w1 ⟨r,rfl,hr⟩;have HR:=hid hr;clear hr;go_wp2;go_returns;exact⟨_,rfl,HR.out⟩
theorem vR{T:TypeId}{w:World}(hx:w.heap[x]? =some (.cells #[.iface T v,.pointer none] 419 (0,0)))
  (hc:Calls prog 280 #[.iface T v] w λe w'=>∃r,e=.returned r/\R r w'):
  Calls prog 271 #[ptr x] w λe w'=>∃r,e=.returned r/\R r w':=by
 obtain⟨c0,c1,_⟩:=qT hx;have HC:=hid hc;clear hc hx;go_enter func271,ntmps271;go_wp2_with fail;refine HC.out.mono ?_;rintro e w1 ⟨r,rfl,hr⟩;have HR:=hid hr;clear hr;go_wp2;go_returns;exact⟨_,rfl,HR.out⟩
theorem uD{T:TypeId}{w:World}(hx:w.heap[x]? =some (.cells #[.iface T v,.pointer none] 426 (0,0)))
  (hc:Calls prog 277 #[.pointer none,.iface T v,nv] w.drew λe w'=>∃r,e=.returned r/\R r w'):
  Calls prog 295 #[ptr x,nv] w λe w'=>∃r,e=.returned r/\R r w':=by
 obtain⟨c0,c1,_⟩:=qT hx;have HC:=hid hc;clear hc hx;go_enter func295,ntmps295;go_wp2_with fail;go_region_with (refine HC.out.mono ?_;rintro e w1 ⟨r,rfl,hr⟩;have HR:=hid hr;clear hr)
 all_goals
  go_wp2;go_returns;exact⟨_,rfl,HR.out⟩
theorem uE{T:TypeId}{w:World}(hx:w.heap[x]? =some (.cells #[.iface T v,.pointer none] 426 (0,0)))
  (hc:Calls prog 276 #[.pointer none,.iface T v,nv] w.drew λe w'=>∃r,e=.returned r/\R r w'):
  Calls prog 294 #[ptr x,nv] w λe w'=>∃r,e=.returned r/\R r w':=by
 obtain⟨c0,c1,_⟩:=qT hx;have HC:=hid hc;clear hc hx;go_enter func294,ntmps294;go_wp2_with fail;go_region_with (refine HC.out.mono ?_;rintro e w1 ⟨r,rfl,hr⟩;have HR:=hid hr;clear hr)
 all_goals
  go_wp2;go_returns;exact⟨_,rfl,HR.out⟩
theorem Ke{T:TypeId}{w:World}(hx:w.heap[x]? =some (.cells #[.iface T v,.pointer none] 426 (0,0)))
  (hc:Calls prog 275 #[.pointer none,.iface T v] w.drew λe w'=>∃r,e=.returned r/\R r w'):
  Calls prog 293 #[ptr x] w λe w'=>∃r,e=.returned r/\R r w':=by
 obtain⟨c0,c1,_⟩:=qT hx;have HC:=hid hc;clear hc hx;go_enter func293,ntmps293;go_wp2_with fail;go_region_with (refine HC.out.mono ?_;rintro e w1 ⟨r,rfl,hr⟩;have HR:=hid hr;clear hr)
 all_goals
  go_wp2;go_returns;exact⟨_,rfl,HR.out⟩
theorem Ya{T:TypeId}{w:World}(hx:w.heap[x]? =some (.cells #[.iface T v,.pointer none] 426 (0,0)))
  (hc:Calls prog 279 #[.iface T v] w λe w'=>∃r,e=.returned r/\R r w'):
  Calls prog 296 #[ptr x] w λe w'=>∃r,e=.returned r/\R r w':=by
 obtain⟨c0,c1,_⟩:=qT hx;have HC:=hid hc;clear hc hx;go_enter func296,ntmps296;go_wp2_with fail;refine HC.out.mono ?_;rintro e w1 ⟨r,rfl,hr⟩;have HR:=hid hr;clear hr;go_wp2;go_returns;exact⟨_,rfl,HR.out⟩
theorem Qy{T:TypeId}{w:World}(hx:w.heap[x]? =some (.cells #[.iface T v,.pointer none] 426 (0,0)))
  (hc:Calls prog 280 #[.iface T v] w λe w'=>∃r,e=.returned r/\R r w'):
  Calls prog 297 #[ptr x] w λe w'=>∃r,e=.returned r/\R r w':=by
 obtain⟨c0,c1,_⟩:=qT hx;have HC:=hid hc;clear hc hx;go_enter func297,ntmps297;go_wp2_with fail;refine HC.out.mono ?_;rintro e w1 ⟨r,rfl,hr⟩;have HR:=hid hr;clear hr;go_wp2;go_returns;exact⟨_,rfl,HR.out⟩
theorem ZS(t:Nat)(W:World):(method 608 257 (ptr t) "UnsafePut").run prog W=.ok (335,ptr t) W:=by kernel_rfl
theorem Ve(t:Nat)(W:World):(method 608 257 (ptr t) "UnsafeDelete").run prog W=.ok (332,ptr t) W:=by kernel_rfl
def qe(l:zu)(w:World)(x:Nat)(T:TypeId)(I:Nat)(ty:TypeId):Prop:=l x=0/\w.heap[x]? =some (.cells #[.iface T (ptr I),.pointer none] ty (0,0))
theorem qe.step{w:World}{T:TypeId}{I:Nat}{ty:TypeId}(h:qe l w x T I ty)(hs:zB l w l' w'):qe l' w' x T I ty:=by have hx:=(Array.getElem?_eq_some_iff.1 h.2).1;exact⟨(hs.old x hx).trans h.1,(hs.mod.block x hx (λe=>e.1 h.1)).trans h.2⟩
theorem qe.client{w:World}{T:TypeId}{I:Nat}{ty:TypeId}(h:qe l w x T I ty)(hs:qF l w l' w'):qe l' w' x T I ty:=by have hx:=(Array.getElem?_eq_some_iff.1 h.2).1;exact⟨(hs.old x hx).trans h.1,(hs.mod.block x hx (λe=>by have:=h.1;omega)).trans h.2⟩
theorem qe.new{w:World}{T:TypeId}{I:Nat}{ty:TypeId}(h:qe l w x T I ty)(hn:za w w'):qe l w' x T I ty:=⟨h.1,hn.heap h.2⟩
theorem zB.newFirst{w:World}(hb:∀b,l b≠0->b<w.heap.size)(hn:za w w1)(h:zB l w1 l' w'):zB l w l' w':=(zB.ofNew hb hn).trans h
variable{u:zj}
theorem gN(h:jy u):u.enc.length<=200000:=by
 have hB:∀(k:Nat) (x:Bytes),x.length<=1000->(jo.enc (.B k x)).length<=1004:=λk x hx=>by have:=j9 k x;omega
 have h1:=YA (fs:=u.flds) λf hf=>by
  unfold zj.flds fB at hf;rw[if_neg h.name0]at hf;simp only[List.mem_append,List.mem_singleton,List.mem_map]at hf;rcases hf with rfl|⟨x,hx,rfl⟩|rfl
  ·exact hB _ _ h.name
  ·exact hB _ _ (h.roles0 x hx).2
  ·exact hB _ _ (by decide)
 have h2:=Yj u;have h3:=h.roles;show(zW u.flds).length<=_;omega
theorem gO{u:zm}(h:kD u):u.enc.length<=400000:=by
 have hB:∀(k:Nat) (x:Bytes),x.length<=3012->(jo.enc (.B k x)).length<=3016:=λk x hx=>by have:=j9 k x;omega
 have h1:=JL (fs:=u.flds) λf hf=>by
  unfold zm.flds fB at hf;rw[if_neg h.name0]at hf;simp only[List.mem_append,List.mem_singleton,List.mem_map]at hf;rcases hf with rfl|⟨x,hx,rfl⟩
  ·exact hB _ _ (by have:=h.name;omega)
  ·exact hB _ _ (xg (h.perms0 x hx))
 have h2:u.flds.length<=u.perms.length+1:=by unfold zm.flds fB;split<;>simp
 have h3:=h.perms;show(zW u.flds).length<=_;omega
theorem uF{w:World}{I:zN}{D:vu}(h:k7 l w I D pend pdel us)(hD:D.ok)(hp:pend<=900)(hu:(us .users).length<=500)(hx:qe l w x 257 I.t 419)(hat:jd (im l.some w) b u)(hok:jy u):
  Calls prog 269 #[ptr x,ptr b] w λe w'=>e=.returned (.tuple #[])/\∃l',zB l w l' w'/\k7 l' w' I (D.put .users (yj (D.get .users) u.name u.enc)) (pend+1) pdel (λc=>us c++if c=.users then [u.name]else []):=by
 have hbnd:=h.bnd;have HM:=hid (gH (hat.mono (zd _ _)) hok);obtain⟨nv,hn1,hn2⟩:=hat.name;have hput:∀w1 bv,za w w1->yW w w1 bv u.enc->∀w2,za w1 w2->Calls prog 335 #[ptr I.t,zF.val .users,nv,bv] w2 λe w'=>e=.returned (.tuple #[])/\∃l',zB l w l' w'/\k7 l' w' I (D.put .users (yj (D.get .users) u.name u.enc)) (pend+1) pdel (λc=>us c++if c=.users then [u.name]else []):=λw1 bv h1 hf w2 h2=>by
  have hfr:=hf.more h2;refine(Ky (h.new (h1.trans h2)) hD hp (b:=.users) (k:=u.name) (v:=u.enc) hu (hn2.mono (za.im (h1.trans h2) _)) ?_ hok.name0 hok.name ?_).mono ?_
  ·exact(Bs.of_sl (Sl.of_own hfr.own)).im_of λj hj e=>by have:=hfr.ge j hj;have:=hbnd j e;omega
  ·have:=gN hok;omega
  ·rintro e w' ⟨rfl,l',hs,hT⟩;exact⟨rfl,l',zB.newFirst hbnd (h1.trans h2) hs,hT⟩
 have hname:∀w1,za w w1->w1.cell? ⟨b,0,none⟩=some nv:=λw1 h1=>h1.le _ _ (zi.1 hn1).2;have hcell:∀w1,za w w1->w1.cell? ⟨x,0,none⟩=some (.iface 257 (ptr I.t)):=λw1 h1=>(qT (h1.heap hx.2)).1;obtain⟨np,nn,nc,rfl,_⟩:=hn2.shape;have HPUT:=hid hput;clear hput;have HNM:=hid hname;clear hname;have HCL:=hid hcell;clear hcell;have HA:=hid (λW=>kF W);have hmeth:=ZS;clear h hD hx hat hok hn1 hn2 hbnd;go_enter func269,ntmps269;go_wp2_with fail;refine HM.out.mono ?_;rintro e w1 ⟨bv,rfl,hf⟩;obtain⟨bp,bn,bc,rfl⟩:=hf.own.shape;have q0:=HCL.out w1 hf.new;have q1:=HNM.out w1 hf.new;have HF:=hid hf;clear hf;go_wp2_with fail;go_region_with (first|(go_at_call 216;refine(HA.out _).mono ?_;rintro e w2 ⟨rfl,rfl⟩)|(go_at_call 335;refine(HPUT.out _ _ HF.out.new HF.out _ ((za.refl w1).drew)).mono ?_;rintro e w3 ⟨rfl,h3⟩;have H3:=hid h3;clear h3))
 all_goals
  go_wp2;go_returns;exact⟨rfl,H3.out⟩
theorem V9(t:Nat)(W:World):(method 608 257 (ptr t) "LockInsideApply").run prog W=.ok (331,ptr t) W:=by kernel_rfl
theorem Vf(t:Nat)(W:World):(method 608 257 (ptr t) "LockOutsideApply").run prog W=.ok (225,ptr t) W:=by kernel_rfl
theorem Yk(t:Nat)(W:World):(method 608 257 (ptr t) "Unlock").run prog W=.ok (78,ptr t) W:=by kernel_rfl
theorem Yl(t:Nat)(W:World):(method 608 257 (ptr t) "Commit").run prog W=.ok (74,ptr t) W:=by kernel_rfl
theorem gP(t:Nat)(W:World):(method 608 238 (ptr t) "RLock").run prog W=.ok (221,ptr t) W:=by kernel_rfl
theorem Qz(t:Nat)(W:World):(method 608 238 (ptr t) "RUnlock").run prog W=.ok (222,ptr t) W:=by kernel_rfl
theorem jk{w:World}{I:zN}{D:vu}(h:k7 l w I D pend pdel us)(hx:qe l w x 257 I.t 419):
  Calls prog 260 #[ptr x] w λe w'=>e=.returned (.tuple #[])/\w=w':=by
 obtain⟨C,wb,rb,e2,e4,hB,_⟩:=h;have q0:w.cell? ⟨x,0,none⟩=some (.iface 257 (ptr I.t)):=(qT hx.2).1;have HL:=hid (Db hB.bt hB.be);have hmeth:=V9;clear hB hx;go_enter func260,ntmps260;go_wp2_with fail;refine HL.out.mono ?_;rintro e w1 ⟨rfl,rfl⟩;go_wp2;go_returns;exact⟨rfl,rfl⟩
def WZ(l:zu)(w:World)(I:zN)(D:vu)(w':World):Prop:=∃l' I',zB l w l' w'/\zN.same I I'/\V8 l' w' I' D
theorem vF{w:World}{I:zN}{D:vu}(h:k7 l w I D pend pdel us)(hp:pend<1000)(hr:∀b,zM (us b))(hx:qe l w x 257 I.t 419):
  Calls prog 261 #[ptr x] w λe w'=>e=.returned (.tuple #[])/\WZ l w I D w':=by
 have q0:w.cell? ⟨x,0,none⟩=some (.iface 257 (ptr I.t)):=(qT hx.2).1;have HU:=hid (Vc h hp hr);have hmeth:=Yk;have hmeth2:=Yl;have HX:=hid hx;clear h hx;go_enter func261,ntmps261;go_wp2_with fail;refine HU.out.mono ?_;rintro e w1 ⟨rfl,hu⟩;have q1:w1.cell? ⟨x,0,none⟩=some (.iface 257 (ptr I.t)):=by obtain⟨l1,_,_,_,_,_,_,_,_,hs,_⟩:=hu;exact(qT (HX.out.step hs).2).1
 have HC:=hid (Vd hu (za.refl w1));clear hu;go_wp2_with fail;refine HC.out.mono ?_;rintro e w2 ⟨rfl,hd⟩;have HD:=hid hd;clear hd;go_wp2;go_returns;exact⟨rfl,HD.out⟩
theorem qv{w:World}{I:zN}{D:vu}{u:FrameMode}(h:k7 l w I D pend pdel us)(hp:pend<1000)(hr:∀b,zM (us b))(hx:qe l w x 257 I.t 419):
  CallsD prog 261 #[ptr x] u w λe u' w'=>u'=u/\(e=.returned (.tuple #[])/\WZ l w I D w'):=by
 have q0:w.cell? ⟨x,0,none⟩=some (.iface 257 (ptr I.t)):=(qT hx.2).1;have HU:=hid (Vc h hp hr);have hmeth:=Yk;have hmeth2:=Yl;have HX:=hid hx;clear h hx;go_enter_d func261,ntmps261;go_wp2_with fail;refine HU.out.mono ?_;rintro e w1 ⟨rfl,hu⟩;have q1:w1.cell? ⟨x,0,none⟩=some (.iface 257 (ptr I.t)):=by obtain⟨l1,_,_,_,_,_,_,_,_,hs,_⟩:=hu;exact(qT (HX.out.step hs).2).1
 have HC:=hid (Vd hu (za.refl w1));clear hu;go_wp2_with fail;refine HC.out.mono ?_;rintro e w2 ⟨rfl,hd⟩;have HD:=hid hd;clear hd;go_wp2;go_returns;exact⟨rfl,HD.out⟩
theorem k7.rtRow{w:World}{I:zN}{D:vu}(h:k7 l w I D pend pdel us):∃c,w.heap[I.rt]? =some (.cells c 252 (0,0)):=by obtain⟨C,wb,rb,e2,e4,hB,_⟩:=h;obtain⟨n,mu,wg,h5⟩:=hB.rt;exact⟨_,h5⟩
theorem xr{w:World}{I:zN}{D:vu}(h:k7 l w I D pend pdel us)(hx:qe l w x 238 I.rt 426):
  Calls prog 290 #[ptr x] w λe w'=>e=.returned (.tuple #[])/\w=w':=by
 obtain⟨c,hc⟩:=h.rtRow;have q0:w.cell? ⟨x,0,none⟩=some (.iface 238 (ptr I.rt)):=(qT hx.2).1;have HL:=hid (Wu hc);have hmeth:=gP;clear h hx hc;go_enter func290,ntmps290;go_wp2_with fail;refine HL.out.mono ?_;rintro e w1 ⟨rfl,rfl⟩;go_wp2;go_returns;exact⟨rfl,rfl⟩
theorem uG{w:World}{I:zN}{D:vu}(h:k7 l w I D pend pdel us)(hx:qe l w x 238 I.rt 426):
  Calls prog 291 #[ptr x] w λe w'=>e=.returned (.tuple #[])/\w=w':=by
 obtain⟨c,hc⟩:=h.rtRow;have q0:w.cell? ⟨x,0,none⟩=some (.iface 238 (ptr I.rt)):=(qT hx.2).1;have HL:=hid (KL hc);have hmeth:=Qz;clear h hx hc;go_enter func291,ntmps291;go_wp2_with fail;refine HL.out.mono ?_;rintro e w1 ⟨rfl,rfl⟩;go_wp2;go_returns;exact⟨rfl,rfl⟩
theorem ye{w:World}{I:zN}{D:vu}{u:FrameMode}(h:k7 l w I D pend pdel us)(hx:qe l w x 238 I.rt 426):
  CallsD prog 291 #[ptr x] u w λe u' w'=>u'=u/\(e=.returned (.tuple #[])/\w=w'):=by
 obtain⟨c,hc⟩:=h.rtRow;have q0:w.cell? ⟨x,0,none⟩=some (.iface 238 (ptr I.rt)):=(qT hx.2).1;have HL:=hid (KL hc);have hmeth:=Qz;clear h hx hc;go_enter_d func291,ntmps291;go_wp2_with fail;refine HL.out.mono ?_;rintro e w1 ⟨rfl,rfl⟩;go_wp2;go_returns;exact⟨rfl,rfl⟩
theorem kR(v:Value)(w:World){u:FrameMode}:CallsD prog 70 #[v] u w λe u' w'=>u'=u/\(e=.returned (.tuple #[])/\w=w'):=by go_enter_d func70,ntmps70;go_wp2;go_returns;exact⟨rfl,rfl⟩
theorem QA(v:Value)(w:World){u:FrameMode}:CallsD prog 98 #[v] u w λe u' w'=>u'=u/\(e=.returned (.tuple #[])/\w=w'):=by go_enter_d func98,ntmps98;go_wp2;go_returns;exact⟨rfl,rfl⟩
end Go.Proofs.YtbmdoinjkligiaaGreat
