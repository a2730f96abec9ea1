/- Contracts and laws that the last text joins. -/
import Derived.Defers
import Derived.Test.YtbmdoinjkligiaaGreatM08
import Derived.Test.YtbmdoinjkligiaaGreatM12
set_option maxRecDepth 100000
set_option maxHeartbeats 40000000
set_option linter.all false
namespace Go.Proofs.YtbmdoinjkligiaaGreat
open Tryz
open Lib(hid)
open Go.RowKit
variable{C:List zZ}{W:World}{bk j pdel pend vb:Nat}{e2 e4:zY}{l:zu}{ps:yr}{rb wb:List (Nat×zZ)}
theorem zbe{w:World}{I:zN}(h:jX l w I C wb rb pend pdel e2 e4){b:zF}
  (hj:wb[j]? =some (bk,(b.name,ps)))(pS:zk (zG wb) b.name=j)(RI:zx (zG wb) b.name=true)(Hx:ps.length<=1000000)(hn:za w W)(TO:w.heap.size<=vb)(tq:W.heap[vb]? =some (.cells #[.slice none 0 0] 469 (0,0))):
  Calls prog 334 #[ptr I.t,b.val,.func (.func 285) #[] #[ptr vb]] W λe w'=>e=.returned .nilIface/\yI l.some W w' vb ps:=by
 obtain⟨hs,hB⟩:=h.ofNew hn;have nX:vb<W.heap.size:=(Array.getElem?_eq_some_iff.1 tq).1;obtain⟨_,nv,pv,fp,g1,g2,g3⟩:=h.wtx.hb _ (List.mem_of_getElem? hj);refine Uc hB.bt (KI (S:=l.some) hs.bnd (λq e=>by show l q≠0;rw[e];decide) hB.wtx hj pS RI λw1 hQ=> ?_);refine(Ub (S:=l.some) (w:=w) (hn.trans hQ) TO (Nat.lt_of_lt_of_le nX hQ.size) (hQ.heap tq) ((hn.trans hQ).heap g1) g3 Hx).mono ?_;rintro e w2 ⟨rfl,hc⟩;exact⟨rfl,YG.done hQ hc⟩
variable{S:Nat->Prop}{w':World}
theorem yI.undrew(h:yI S W.drew w' vb ps):yI S W w' vb ps:=⟨h.1.undrew,h.2⟩
structure RdX(Q:World->Prop)(S:Nat->Prop)(T:TypeId)(v:Value)(f g:FuncId)(rc rg:Value)(C:zF->yr):Prop extends De Q S T v f rc C where
 meth2:∀W,(method 608 T v "UnsafeForEach").run prog W=.ok (g,rg) W
 nil2:∀W,(nilAhead 608 T v "UnsafeForEach").run prog W=.ok (some false) W
 enter2:∀args W,(callFunc g args).run prog W=.ok (.enter g args) W
 each:∀(w W:World) (vb:Nat),Q w->za w W->w.heap.size<=vb->W.heap[vb]? =some (.cells #[.slice none 0 0] 469 (0,0))->
  Calls prog g #[rg,zF.val .users,.func (.func 285) #[] #[ptr vb]] W λe w'=>e=.returned .nilIface/\yI S W w' vb (C .users)
def KY(S:Nat->Prop)(w w':World)(us:List zj)(v:Value):Prop:=
 ∃bs:List Nat,Sl w'.cell? 1 (bs.map ptr) v/\(∀q,v.ownBlock=some q->w.heap.size<=q)/\qz (λu b=>w.heap.size<=b/\y9 (im (λj=>S j) w') b u) us bs
variable{bytes:Nat}{e:TypeId}
theorem YP{t:TypeId}{z:Value}(E:yy prog t e z 1 bytes)(hz:z.cells= #[z])(w:World)(n:Nat)(hn:n*bytes<=140737488355328)(Hj:n<=4611686018427387904):
  (Instr.makeSlice t (.int .i64 n) (.int .i64 n)).run prog w=.ok (.slice (some ⟨w.heap.size,0,none⟩) n n) (w.alloc (.cells (List.replicate n z).toArray e)):=by
 obtain⟨i,hi,IZ,pL,TF⟩:=info_parts E.info;have h:=run_make (P:=prog) w t e i _ E.under hi IZ .i64 .i64 n n (by omega) (by omega) (by rw[TF];have h9:(bytes:Int)*n<=140737488355328:=(by have h8:=hn;rw[Nat.mul_comm]at h8;rw[<-Int.natCast_mul];exact Int.ofNat_le.2 h8);exact Int.le_trans h9 (by decide)) (by omega);rw[pL]at h;have e1:madeCells z.cells (n*1)=(List.replicate n z).toArray:=by rw[Nat.mul_one,hz];apply Array.toList_inj.1;show(madeCells #[z] n).toList=_;rw[toList_madeCells_one]
 simp only[Int.toNat_natCast]at h;rw[h,e1]
theorem WA:yy prog 266 216 (.pointer none) 1 8:=⟨by kernel_rfl,by kernel_rfl,rfl,by decide⟩
variable{b k n:Nat}
theorem KZ{bs:List Nat}(hk:bs.length=k)(Hb:k<n):((bs.map ptr++List.replicate (n-k) (Value.pointer none)).toArray.setIfInBounds k (ptr b))=((bs++[b]).map ptr++List.replicate (n-(k+1)) (Value.pointer none)).toArray:=by
 apply Array.toList_inj.1;rw[Array.toList_setIfInBounds];subst hk;have e:List.replicate (n-bs.length) (Value.pointer none)=Value.pointer none::List.replicate (n-(bs.length+1)) (Value.pointer none):=by rw[show n-bs.length=(n-(bs.length+1))+1 by omega,List.replicate_succ]
 rw[e];simp
structure YQ(S:Nat->Prop)(w W1 wr:World)(ub n:Nat)(us:List zj)(k:Nat)(bs:List Nat):Prop where
 len:bs.length=k
 mod:zq (· =ub) W1 wr
 row:wr.heap[ub]? =some (.cells (bs.map ptr++List.replicate (n-k) (Value.pointer none)).toArray 216 (0,0))
 all:qz (λu b=>w.heap.size<=b/\y9 (im (λj=>S j\/j=ub) wr) b u) (us.take k) bs
variable{nv ov:Value}{ub:Nat}{w5 wr:World}
theorem YQ.step{w W1:World}{us:List zj}{bs:List Nat}(h:YQ S w W1 wr ub n us k bs)(hS:∀j,S j->j<w.heap.size)(hu:w.heap.size<=ub)(LF:ub<W1.heap.size)(hk:k<us.length)(ph:k<n){rv:Value}
  (hw:w.heap.size<=wr.heap.size)(nI:Ye (wr.alloc JI) w5 wr.heap.size ((us[k]).name,(us[k]).roles,true) nv rv ov):YQ S w W1 (w5.setCell ⟨ub,k,none⟩ (ptr wr.heap.size)) ub n us (k+1) (bs++[wr.heap.size]):=by
 have pL:(wr.alloc JI).heap.size=wr.heap.size+1:=Array.size_push ..
 have pz:za wr w5:=zq.trans ((za.refl wr).alloc _) nI.mod λj hj e=>by omega
 have mG:ub<wr.heap.size:=Nat.lt_of_lt_of_le LF h.mod.size;have Se:=kP (λj=>S j\/j=ub) w5 ⟨ub,k,none⟩ (Or.inr rfl) (ptr wr.heap.size);refine⟨by simp[h.len],(zq.trans h.mod (za.mod pz _) λ_ _ e=>e).setCell (λ_=>rfl) _,?_,?_⟩
 ·rw[heap_setCell_same w5 ub k _ _ _ (pz.heap h.row),KZ h.len ph]
 ·rw[List.take_succ_eq_append_getElem hk];refine(h.all.mono λu b ⟨h1,h2⟩=>⟨h1,(h2.mono (za.im pz _)).mono Se⟩).append (.cons ⟨hw,?_⟩ .nil);exact(nI.at (S:=λj=>S j\/j=ub) λj hj=>by
   rw[pL];rcases hj with hj|hj
   ·have:=hS j hj;omega
   ·omega).mono Se
variable{lg rc v:Value}
theorem XI{Q:World->Prop}{T:TypeId}{rg:Value}{f g:FuncId}{C:zF->yr}{w:World}{us:List zj}(h:RdX Q S T v f g rc rg C)(hq:Q w)(hg:C .users=us.map λu=>(u.name,u.enc))(Hx:us.length<=1000)(ho:∀u∈us,jv u):
  Calls prog 275 #[lg,.iface T v] w λe w'=>∃uv,e=.returned uv/\Q w'/\za w w'/\KY S w w' us uv:=by
 have Hm:=h.meth2;have PT:=h.nil2;have PN:=h.enter2;have HA:=hid (λW=>kD W);obtain⟨W0,py⟩:=zex (w.alloc (.cells #[.slice none 0 0] 469));have PK:za w W0:=by rw[py];exact(za.refl w).alloc _
 have tq:W0.heap[w.heap.size]? =some (.cells #[.slice none 0 0] 469 (0,0)):=by rw[py];exact zg w _
 have HE:=hid (h.each w W0.drew w.heap.size hq (PK.drew) (Nat.le_refl _) tq);have H:=hid h;have HQ:=hid hq;have HG:=hid hg;have HO:=hid ho;have S_:=hid PK;clear h hq hg ho PK tq;have rR:=hid py;clear py;go_enter func275,ntmps275;go_upto_region 2 with fail
 rw[<-rR.out];go_cut [6]from 11 to 18 (λc wx=>c=.nilIface/\yI S W0 wx w.heap.size (C .users))
 case first=>
  go_region_with (first|(go_at_call 216;refine(HA.out _).mono ?_;rintro e w1 ⟨rfl,rfl⟩)|(refine HE.out.mono ?_;rintro e w1 ⟨rfl,r8⟩))
  all_goals(
   have Tg:=hid r8;clear r8;go_wp2_with fail;go_meet;exact⟨rfl,yI.undrew Tg.out⟩)
 case rest=>
  obtain⟨rfl,hc⟩:=hcut;obtain⟨hm,v0,cs,TO,Ha,He⟩:=hc;have Mk:za w wc:=zq.trans S_.out hm λj hj e=>by omega
  have h_:cs.length=us.length:=by rw[<-He.length,HG.out,List.length_map]
  obtain⟨n,hn⟩:∃n,us.length=n:=⟨_,rfl⟩;have pz:(C .users).length=n:=by rw[HG.out,List.length_map,hn]
  rw[pz]at Ha;rw[hn]at h_;have c0:wc.cell? ⟨w.heap.size,0,none⟩=some v0:=by rw[cell_of_row wc _ 0 _ _ (0,0) TO];rfl
  have pW:=Sl.of_own Ha;obtain⟨p,n8,c8,rfl⟩:=pW.shape;obtain⟨r9,A9⟩:=pW.addr;have r9:n8=n:=by rw[<-r9,h_]
  subst r9;have lN:=hid Mk;have Ni:=hid pW;have Hu:=hid He;have H7:=hid h_;have HN:=hid hn;have oQ:=hid A9;clear Mk pW He h_ hn hm Ha TO A9 pz Hm PT PN HE;by_cases h0:n8=0
  ·subst h0;go_wp2;go_returns;refine⟨_,rfl,H.out.new _ _ HQ.out lN.out,lN.out,[],Sl.nil _ _,(λq hq=>by cases hq),?_⟩;have:us=[]:=List.eq_nil_of_length_eq_zero HN.out;rw[this];exact .nil
  ·have Sr:=YP WA rfl wc n8 (by have:=HN.out;omega) (by have:=HN.out;omega);have h0':((n8:Int)==0)=false:=by simp;omega
   obtain⟨W1,PW⟩:=zex (wc.alloc (.cells (List.replicate n8 (Value.pointer none)).toArray 216));have hQ:za wc W1:=by rw[PW];exact(za.refl wc).alloc _
   have Ps:W1.heap[wc.heap.size]? =some (.cells (List.replicate n8 (Value.pointer none)).toArray 216 (0,0)):=by rw[PW];exact zg wc _
   rw[<-PW]at Sr;have lS:wc.heap.size<W1.heap.size:=(Array.getElem?_eq_some_iff.1 Ps).1;have rM:YQ S w W1 W1 wc.heap.size n8 us 0 []:=⟨rfl,zq.refl _ _,Ps,.nil⟩;have hSw:=H.out.lt _ HQ.out;have A_:w.heap.size<wc.heap.size:=World.block_lt_of_cell? wc _ c0;have c01:W1.cell? ⟨w.heap.size,0,none⟩=some (.slice p n8 c8):=hQ.le _ _ c0;have Hs:=hid hQ;have wP:=hid rM;have sY:=hid hSw;clear PW hQ Ps rM hSw;go_wp2;go_loopw [29] (λc wr=>∃(k:Nat) (bs:List Nat),k<=n8/\c=.int .i64 k/\YQ S w W1 wr wc.heap.size n8 us k bs) (λc _=>n8-(intOf c).toNat)
   case atStart=>exact⟨0,[],Nat.zero_le _,rfl,wP.out⟩
   case round=>
    obtain⟨k,bs,hk,rfl,hR⟩:=hrel;have oR:w.heap.size≠wc.heap.size:=by omega
    have d0:wr.cell? ⟨w.heap.size,0,none⟩=some (.slice p n8 c8):=hR.mod.cell (λe=>oR e) c01;by_cases Hb:k<n8
    ·have P_:k<us.length:=by rw[HN.out];exact Hb
     have sD:k<cs.length:=by rw[H7.out];exact Hb
     obtain⟨gb,go,rfl⟩:=oQ.out (by intro e;rw[e]at sD;simp at sD);have Lt:=Ni.out.cellAt k sD;have t_:=Hu.out.get k (by rw[HG.out,List.length_map];exact P_) sD;have e1:((C .users)[k]'(by rw[HG.out,List.length_map];exact P_)).2=us[k].enc:=by
      have:∀(l:yr) (h:k<l.length),l=us.map (λu=>(u.name,u.enc))->l[k].2=us[k].enc:=λl h e=>by subst e;simp
      exact this _ _ HG.out
     simp only[e1]at t_;obtain⟨kp,kn,kc,Sh,_⟩:=t_.shape;rw[Sh]at Lt t_;have mZ:gb≠wc.heap.size:=λe=>by have h9:=World.block_lt_of_cell? wc _ Lt;rw[e]at h9;exact Nat.lt_irrefl _ h9
     have dk:wr.cell? ⟨gb,go+k,none⟩=some (.slice kp kn kc):=hR.mod.cell (λe=>mZ e) (Hs.out.le _ _ Lt);have rZ:Bs wc.cell? us[k].enc (.slice kp kn kc):=t_.mono (zd _ _);have BQ:w.heap.size<=wr.heap.size:=by have:=hR.mod.size;omega
     have N_:wc.heap.size<wr.heap.size:=Nat.lt_of_lt_of_le lS hR.mod.size;have HU:=hid (Qo (w:=wr.alloc JI) (r:=wc.cell?) (b:=wr.heap.size) (zg wr _) (λa y ha=>by have ng:=World.block_lt_of_cell? wc a ha;refine zi.2 ⟨λe=>by have e:a.block=wr.heap.size:=e;omega,za.le ((za.refl wr).alloc _) _ _ (hR.mod.cell (λe=>by have e:a.block=wc.heap.size:=e;omega) (Hs.out.le _ _ ha))⟩) (HO.out _ (List.getElem_mem P_)) rZ)
     unfold JI at HU;have HR:=hid hR;have nJ:=hR.row;have Rk:(k:Int)<n8:=by omega
     have dal:∀ob,(wr.alloc ob).cell? ⟨w.heap.size,0,none⟩=some (.slice (some ⟨gb,go,none⟩) n8 c8):=λob=>za.le ((za.refl wr).alloc ob) _ _ d0;have dkl:∀ob,(wr.alloc ob).cell? ⟨gb,go+k,none⟩=some (.slice kp kn kc):=λob=>za.le ((za.refl wr).alloc ob) _ _ dk;clear hR t_ rZ Lt d0 dk;go_wp2_with fail;refine HU.out.mono ?_;rintro e w5 ⟨rfl,nv,rv,ov,hu⟩;have tI:=hid hu;have pz:za wr w5:=zq.trans ((za.refl wr).alloc _) hu.mod λj hj e=>by omega
     have pe:=pz.heap nJ;have k5:∃x,w5.cell? ⟨wc.heap.size,k,none⟩=some x:=⟨_,by rw[cell_of_row w5 _ k _ _ (0,0) pe];exact Array.getElem?_eq_getElem (by have:=HR.out.len;simp;omega)⟩;obtain⟨x5,k5⟩:=k5;have f5:w5.frozen? ⟨wc.heap.size,k,none⟩=false:=by simp[World.frozen?,pe]
     clear hu pz pe nJ HU;go_wp2;go_roundw
     case rel=>exact⟨k+1,_,by omega,by go_num,HR.out.step sY.out (by omega) lS P_ Hb BQ tI.out⟩
     case measure=>simp[intOf];omega
    ·have ph:k=n8:=by omega
     subst ph;have HR:=hid hR;clear hR;go_wp2;go_returns;have ii:za w wr:=zq.trans (lN.out.trans Hs.out) HR.out.mod λj hj e=>by omega
     have ng:=HR.out.all;rw[List.take_of_length_le (by rw[HN.out];exact Nat.le_refl _)]at ng;have hZ:=HR.out.row;rw[Nat.sub_self]at hZ;refine⟨_,rfl,H.out.new _ _ HQ.out ii,ii,bs,?_,λq hq=> ?_,ng.mono λu b ⟨h1,h2⟩=>⟨h1,h2.mono (jn λj e=>Or.inl e)⟩⟩
     rotate_left
     ·have NT:wc.heap.size=q:=by simpa[Value.ownBlock]using hq
      omega
     refine⟨_,_,_,rfl,by simp[HR.out.len],Nat.le_refl _,by have:=HN.out;omega,(λh=>by cases h),Or.inr ⟨_,_,rfl,λi hi=> ?_⟩⟩;rw[cell_of_row wr _ _ _ _ (0,0) hZ,Nat.zero_add];simp only[List.replicate_zero,List.append_nil,List.getElem?_toArray];exact List.getElem?_eq_getElem hi
theorem gG(t:Nat)(W:World):(method 608 257 (ptr t) "UnsafeRange").run prog W=.ok (336,ptr t) W:=by kernel_rfl
theorem Uo(t:Nat)(W:World):(nilAhead 608 257 (ptr t) "UnsafeRange").run prog W=.ok (some false) W:=by kernel_rfl
theorem zbf(t:Nat)(W:World):(method 608 238 (ptr t) "UnsafeRange").run prog W=.ok (313,ptr t) W:=by kernel_rfl
theorem zcy(t:Nat)(W:World):(nilAhead 608 238 (ptr t) "UnsafeRange").run prog W=.ok (some false) W:=by kernel_rfl
theorem WB(t:Nat)(W:World):(method 608 257 (ptr t) "UnsafeForEach").run prog W=.ok (334,ptr t) W:=by kernel_rfl
theorem zbg(t:Nat)(W:World):(nilAhead 608 257 (ptr t) "UnsafeForEach").run prog W=.ok (some false) W:=by kernel_rfl
theorem WC(t:Nat)(W:World):(method 608 238 (ptr t) "UnsafeForEach").run prog W=.ok (312,ptr t) W:=by kernel_rfl
theorem zbh(t:Nat)(W:World):(nilAhead 608 238 (ptr t) "UnsafeForEach").run prog W=.ok (some false) W:=by kernel_rfl
structure vr where
 auth:yr
 roles:yr
 users:yr
def vr.get(D:vr):zF->yr
 |.auth=>D.auth
 |.roles=>D.roles
 |.users=>D.users
def vr.put(D:vr)(b:zF)(ps:yr):vr:=match b with
 |.auth=>{D with auth:=ps}
 |.roles=>{D with roles:=ps}
 |.users=>{D with users:=ps}
def vr.bkts(D:vr):List zZ:=[(zF.name .auth,D.auth),(zF.name .roles,D.roles),(zF.name .users,D.users)]
def zF.pos:zF->Nat
 |.auth=>0
 |.roles=>1
 |.users=>2
def K5:List Bytes:=[zF.name .auth,zF.name .roles,zF.name .users]
theorem vO{D:vr}(h:wb.map (·.2)=D.bkts):zG wb=K5:=by
 have:zG wb=(wb.map (·.2)).map (·.1):=by unfold zG;rw[List.map_map];rfl
 rw[this,h];rfl
theorem kh(b:zF):zk K5 b.name=b.pos/\zx K5 b.name=true:=by cases b<;>decide
theorem gH:K5.Nodup:=by decide
theorem xT{D:vr}(h:wb.map (·.2)=D.bkts)(b:zF):∃bk,wb[b.pos]? =some (bk,(b.name,D.get b)):=by
 have h1:(wb.map (·.2))[b.pos]? =some (b.name,D.get b):=by rw[h];cases b<;>rfl
 rw[List.getElem?_map,Option.map_eq_some_iff]at h1;obtain⟨⟨bk,x⟩,h2,h3⟩:=h1;exact⟨bk,by rw[h2];simp only at h3;rw[h3]⟩
theorem K6{D:vr}(h:wb.map (·.2)=D.bkts):wb.length=3:=by have:=congrArg List.length h;simpa[vr.bkts]using this
theorem ut{D:vr}(h:wb.map (·.2)=D.bkts){b:zF}(ps:yr):(wb.set b.pos (bk,(b.name,ps))).map (·.2)=(D.put b ps).bkts:=by rw[List.map_set,h];cases b<;>rfl
structure zcz(ps:yr):Prop where
 rise:zM (zJ ps)
 ne:∀p∈ps,p.1≠[]
 len:ps.length<=1000
 key:∀p∈ps,p.1.length<=1000
def vr.ok(D:vr):Prop:=∀b,zcz (D.get b)
theorem YS{w:World}{I:zN}{D:vr}(hD:wb.map (·.2)=D.bkts)(hk:D.ok):
  RdX (λW=>zB l w l W/\jX l W I C wb rb pend pdel e2 e4) l.some 257 (ptr I.t) 336 334 (ptr I.t) (ptr I.t) D.get where
 new W W' h hn:=⟨h.1.trans (h.2.ofNew hn).1,(h.2.ofNew hn).2⟩
 lt W h j hj:=h.2.bnd j hj
 meth:=gG I.t
 nil:=Uo I.t
 enter _ _:=by kernel_rfl
 range b W k kv lim h Sh:=by obtain⟨bk,hj⟩:=xT hD b;have Rm:=kh b;rw[<-vO hD]at Rm;refine(dP (S:=l.some) (F:=l.is 9) h.2.bnd (λj e=>by show l j≠0;rw[e];decide) h.2.bt h.2.wtx hj Rm.1 Rm.2 (hk b).rise (hk b).ne (by have:=(hk b).len;omega) Sh).mono ?_;rintro e w' ⟨ks,vs,rfl,hn,hv⟩;exact⟨ks,vs,rfl,⟨h.1.trans (h.2.ofNew hn).1,(h.2.ofNew hn).2⟩,hn.mod _,hv⟩
 meth2:=WB I.t
 nil2:=zbg I.t
 enter2 _ _:=by kernel_rfl
 each W0 W vb h hn TO tq:=by obtain⟨bk,hj⟩:=xT hD .users;have Rm:=kh .users;rw[<-vO hD]at Rm;exact zbe h.2 hj Rm.1 Rm.2 (by have:=(hk .users).len;omega) hn TO tq
theorem YT{w:World}{I:zN}{D:vr}(hz:∀e∈e4,e.2.2.2=[])(hD:rb.map (·.2)=D.bkts)(hk:D.ok):
  RdX (λW=>zB l w l W/\jX l W I C wb rb pend pdel e2 e4) l.some 238 (ptr I.rt) 313 312 (ptr I.rt) (ptr I.rt) D.get where
 new W W' h hn:=⟨h.1.trans (h.2.ofNew hn).1,(h.2.ofNew hn).2⟩
 lt W h j hj:=h.2.bnd j hj
 meth:=zbf I.rt
 nil:=zcy I.rt
 enter _ _:=by kernel_rfl
 range b W k kv lim h Sh:=by obtain⟨bk,hj⟩:=xT hD b;have Rm:=kh b;have pX:=gH;rw[<-vO hD]at Rm pX;refine(Wb h.2 hz hj Rm.1 Rm.2 pX (hk b).rise (hk b).ne (by have:=(hk b).len;omega) Sh).mono ?_;rintro e w' ⟨ks,vs,rfl,hs,hB,hv⟩;exact⟨ks,vs,rfl,⟨h.1.trans hs,hB⟩,hs.mod.mono λj _ e=>e.1,hv⟩
 meth2:=WC I.rt
 nil2:=zbh I.rt
 enter2 _ _:=by kernel_rfl
 each W0 W vb h hn TO tq:=by obtain⟨bk,hj⟩:=xT hD .users;have Rm:=kh .users;rw[<-vO hD]at Rm;exact za2 h.2 hz hj Rm.1 Rm.2 (by have:=(hk .users).len;omega) (hk .users).key hn TO tq
def kZ(l:zu)(w:World)(I:zN)(D:vr)(pend pdel:Nat)(us:zF->List Bytes):Prop:=
 ∃(C:List zZ) (wb rb:List (Nat×zZ)) (e2 e4:zY),jX l w I C wb rb pend pdel e2 e4/\wb.map (·.2)=D.bkts/\(∀e∈e4,e.2.2.2=[])/\(∀b,yz e2 b=us b)/\(pend=0->C=D.bkts/\rb.map (·.2)=D.bkts/\∀b,us b=[])
def jJ:zF->List Bytes:=λ_=>[]
def V4(l:zu)(w:World)(I:zN)(D:vr):Prop:=kZ l w I D 0 0 jJ
variable{us:zF->List Bytes}
theorem kZ.bnd{w:World}{I:zN}{D:vr}(h:kZ l w I D pend pdel us):∀j,l j≠0->j<w.heap.size:=by obtain⟨C,wb,rb,e2,e4,hB,_⟩:=h;exact hB.bnd
structure qD(l:zu)(w:World)(l':zu)(w':World):Prop where
 mod:zq (λj=>11<l j) w w'
 old:∀b,b<w.heap.size->l' b=l b
 bnd:∀b,l' b≠0->b<w'.heap.size
variable{l':zu}
theorem qD.le{w:World}(h:qD l w l' w'):(im l.some w).le (im l'.some w'):=
 (h.mod.mono (S':=l.some) λj _ e=>by show l j≠0;omega).im λb hb e=>by show l b≠0;rw[<-h.old b hb];exact e
theorem qD.ofNew{w:World}(h:∀b,l b≠0->b<w.heap.size)(hn:za w w'):qD l w l w':=
 ⟨hn.mod _,λ_ _=>rfl,λb e=>Nat.lt_of_lt_of_le (h b e) hn.size⟩
theorem qD.refl{w:World}(h:∀b,l b≠0->b<w.heap.size):qD l w l w:=qD.ofNew h (za.refl w)
variable{w'':World}
theorem qD.trans{l'':zu}{w:World}(h:qD l w l' w')(k:qD l' w' l'' w''):qD l w l'' w'' where
 mod:=h.mod.trans k.mod λb hb e=>by rw[h.old b hb]at e;exact e
 old b hb:=by rw[k.old b (Nat.lt_of_lt_of_le hb h.mod.size),h.old b hb]
 bnd:=k.bnd
variable{F:Nat->Prop}
theorem qD.own{w:World}(hb:∀b,l b≠0->b<w.heap.size)(hm:zq (λj=>11<l j) w w')(hF:∀b,F b->l b≠0\/w.heap.size<=b/\b<w'.heap.size):qD l w (l.add F n) w' where
 mod:=hm
 old b Hb:=by
  by_cases e:l b=0
  ·exact zu.add_neg λf=>by rcases hF b f with e2|e2;exact e2 e;omega
  ·exact zu.add_old e
 bnd b e:=by
  by_cases h0:l b=0
  ·by_cases f:F b
   ·rcases hF b f with e2|e2
    ·exact absurd h0 e2
    ·exact e2.2
   ·rw[zu.add_neg f]at e;exact absurd h0 e
  ·exact Nat.lt_of_lt_of_le (hb b h0) hm.size
theorem jX.client{w:World}{I:zN}(h:jX l w I C wb rb pend pdel e2 e4)(hc:qD l w l' w'):jX l' w' I C wb rb pend pdel e2 e4:=
 h.frame hc.bnd (λb e=>⟨hc.old b (h.bnd b e.1),hc.mod.block b (h.bnd b e.1) (λe2=>by have:=e.2;omega)⟩) hc.le
theorem kZ.client{w:World}{I:zN}{D:vr}(h:kZ l w I D pend pdel us)(hc:qD l w l' w'):kZ l' w' I D pend pdel us:=by obtain⟨C,wb,rb,e2,e4,hB,h1,h2,h3,h4⟩:=h;exact⟨C,wb,rb,e2,e4,hB.client hc,h1,h2,h3,h4⟩
theorem kZ.new{w:World}{I:zN}{D:vr}(h:kZ l w I D pend pdel us)(hn:za w w'):kZ l w' I D pend pdel us:=h.client (qD.ofNew h.bnd hn)
variable{kv vv:Value}
theorem Kt{w:World}{I:zN}{D:vr}(h:kZ l w I D pend pdel us)(hD:D.ok)(hp:pend<=900){b:zF}{k v:Bytes}(hu:(us b).length<=500)
  (hk:Bs (im l.some w) k kv)(hv:Bs (im l.some w) v vv)(tP:k≠[])(pE:k.length<=1000)(nX:v.length<=100000000):
  Calls prog 335 #[ptr I.t,b.val,kv,vv] w λe w'=>e=.returned (.tuple #[])/\∃l',zB l w l' w'/\kZ l' w' I (D.put b (yh (D.get b) k v)) (pend+1) pdel (λc=>us c++if c=b then [k]else []):=by
 obtain⟨C,wb,rb,e2,e4,hB,h1,h2,h3,h4⟩:=h;obtain⟨bk,hj⟩:=xT h1 b;have Rm:=kh b;rw[<-vO h1]at Rm;refine(zck hB hj Rm.1 Rm.2 (hD b).rise (by have:=(hD b).len;omega) (by omega) (by rw[h3];exact hu) hk hv tP (by omega) nX).mono ?_;rintro e w' ⟨l',e2',rfl,hs,hu',tJ⟩;exact⟨rfl,l',hs,C,_,rb,e2',e4,tJ,ut h1 _,h2,λc=>by rw[hu',h3],λe=>by omega⟩
theorem K7{w:World}{I:zN}{D:vr}(h:kZ l w I D pend pdel us)(hD:D.ok)(hp:pend<=900)(Mf:pdel<=900){b:zF}{k:Bytes}(hk:Bs (im l.some w) k kv):
  Calls prog 332 #[ptr I.t,b.val,kv] w λe w'=>e=.returned (.tuple #[])/\zB l w l w'/\kZ l w' I (D.put b (jp (D.get b) k)) (pend+1) (pdel+1) us:=by
 obtain⟨C,wb,rb,e2,e4,hB,h1,h2,h3,h4⟩:=h;obtain⟨bk,hj⟩:=xT h1 b;have Rm:=kh b;rw[<-vO h1]at Rm;refine(GL hB hj Rm.1 Rm.2 (hD b).rise (by have:=(hD b).len;omega) (by omega) (by omega) hk).mono ?_;rintro e w' ⟨rfl,hs,tJ⟩;exact⟨rfl,hs,C,_,rb,e2,e4,tJ,ut h1 _,h2,h3,λe=>by omega⟩
def zN.same(I J:zN):Prop:=J.be=I.be/\J.t=I.t/\J.rt=I.rt/\J.db=I.db
theorem zN.same_refl(I:zN):I.same I:=⟨rfl,rfl,rfl,rfl⟩
theorem zN.same_trans{I J K:zN}(h:I.same J)(k:J.same K):I.same K:=⟨k.1.trans h.1,k.2.1.trans h.2.1,k.2.2.1.trans h.2.2.1,k.2.2.2.trans h.2.2.2⟩
theorem zcA(h:∀e∈e2,e.2.2.2=[])(b:zF):yz e2 b=[]:=by
 unfold yz;cases hf:e2.find? (λe=>e.1=b)with
 |none=>rfl
 |some e=>exact h e (List.mem_of_find?_eq_some hf)
theorem jY.idle{w:World}{I:zN}{D:vr}(h:jY l w I D.bkts e2 w')(h2:∀e∈e2,e.2.2.2=[]):∃l' I',zB l w l' w'/\I.same I'/\V4 l' w' I' D:=by obtain⟨l',a,b,c,wb',rb',e4',h1,g2,g3,g4,g5⟩:=h;exact⟨l',{I with wtx:=a,rtx:=b,cm:=c},h1,⟨rfl,rfl,rfl,rfl⟩,D.bkts,wb',rb',e2,e4',g5,g2,g4,zcA h2,λ_=>⟨rfl,g3,λ_=>rfl⟩⟩
def Unl(l:zu)(w:World)(I:zN)(D:vr)(w1:World):Prop:=
 ∃(l1:zu) (I1:zN) (C1:List zZ) (wb1 rb1:List (Nat×zZ)) (p pd:Nat) (x2 x4:zY),zB l w l1 w1/\I.same I1/\jX l1 w1 I1 C1 wb1 rb1 p pd x2 x4/\wb1.map (·.2)=D.bkts/\(∀e∈x2,e.2.2.2=[])/\(p=0->C1=D.bkts)
theorem K8{w:World}{I:zN}{D:vr}(h:kZ l w I D pend pdel us)(hp:pend<1000)(hr:∀b,zM (us b)):
  Calls prog 78 #[ptr I.t] w λe w1=>e=.returned (.tuple #[])/\Unl l w I D w1:=by
 obtain⟨C,wb,rb,e2,e4,hB,h1,h2,h3,h4⟩:=h;have ea:=K6 h1;have RA:∀e∈e2,e.2.2.2=us e.1:=λe he=>by have:=Yn hB.buf2.keys (b:=e.1) (x:=e.2) he;rw[<-this,h3]
 by_cases h0:pend=0
 ·subst h0;obtain⟨c1,c2,c3⟩:=h4 rfl;refine(Gg hB.bt hB.be).mono ?_;rintro e w1 ⟨rfl,n,rfl⟩;exact⟨rfl,l,I,C,wb,rb,0,pdel,e2,e4,(zB.refl hB.bnd).drewN n,zN.same_refl I,hB.drewN n,h1,λe he=>by rw[RA e he];exact c3 _,λ_=>c1⟩
 ·refine(GS hB (by omega) hp (by omega) (λe he=>by rw[RA e he];exact hr _) h2).mono ?_;rintro e w1 ⟨rfl,c2,Nj,Cl⟩;rw[h1]at Cl;rcases Cl with⟨rfl,c4,hs,tK⟩|⟨_,hc⟩
  ·exact⟨rfl,l,I,C,wb,rb,pend,0,c2,c4,hs,zN.same_refl I,tK,h1,Nj,λe=>by omega⟩
  ·obtain⟨l',a,b,c,wb',rb',e4',g1,g2,g3,g4,g5⟩:=hc;exact⟨rfl,l',{I with wtx:=a,rtx:=b,cm:=c},D.bkts,wb',rb',0,0,c2,e4',g1,⟨rfl,rfl,rfl,rfl⟩,g5,g2,Nj,λ_=>rfl⟩
variable{w1 w2:World}
theorem K9{w:World}{I:zN}{D:vr}(h:Unl l w I D w1)(hn:za w1 w2):
  Calls prog 74 #[ptr I.t] w2 λe w'=>e=.returned (.tuple #[])/\∃l' I',zB l w l' w'/\I.same I'/\V4 l' w' I' D:=by
 obtain⟨l1,I1,C1,wb1,rb1,p,pd,x2,x4,hs,Cm,hB,h1,h2,h3⟩:=h;have ea:=K6 h1;have:=Xt (hB.ofNew hn).2 (by omega) (λe=>by rw[h1];exact h3 e);rw[Cm.2.1,h1]at this;refine this.mono ?_;rintro e w' ⟨rfl,hc⟩;obtain⟨l',I',g1,g2,g3⟩:=hc.idle h2;exact⟨rfl,l',I',(hs.trans (hB.ofNew hn).1).trans g1,zN.same_trans Cm g2,g3⟩
theorem ZX{w:World}{I:zN}{D:vr}(h:V4 l w I D):
  Calls prog 151 #[ptr I.be] w λe w'=>e=.returned (.tuple #[])/\∃l' I',zB l w l' w'/\I.same I'/\V4 l' w' I' D:=by
 obtain⟨C,wb,rb,e2,e4,hB,h1,h2,h3,h4⟩:=h;have ea:=K6 h1;have RA:∀e∈e2,e.2.2.2=[]:=λe he=>by have:=Yn hB.buf2.keys (b:=e.1) (x:=e.2) he;rw[<-this,h3];rfl
 have:=KG hB (by omega) (λe=>by rw[h1];exact(h4 rfl).1);rw[h1]at this;refine this.mono ?_;rintro e w' ⟨rfl,hc⟩;obtain⟨l',I',g1,g2,g3⟩:=hc.idle RA;exact⟨rfl,l',I',g1,g2,g3⟩
variable{R:Value->World->Prop}{x:Nat}
theorem JL{T:TypeId}{w:World}(hx:w.heap[x]? =some (.cells #[.iface T v,.pointer none] 419 (0,0)))
  (hc:Calls prog 277 #[.pointer none,.iface T v,nv] w.drew λe w'=>∃r,e=.returned r/\R r w'):
  Calls prog 267 #[ptr x,nv] w λe w'=>∃r,e=.returned r/\R r w':=by
 obtain⟨c0,c1,_⟩:=qS hx;have HC:=hid hc;clear hc hx;go_enter func267,ntmps267;go_wp2_with fail;go_region_with (refine HC.out.mono ?_;rintro e w1 ⟨r,rfl,hr⟩;have HR:=hid hr;clear hr)
 all_goals
  go_wp2;go_returns;exact⟨_,rfl,HR.out⟩
theorem JM{T:TypeId}{w:World}(hx:w.heap[x]? =some (.cells #[.iface T v,.pointer none] 419 (0,0)))
  (hc:Calls prog 276 #[.pointer none,.iface T v,nv] w.drew λe w'=>∃r,e=.returned r/\R r w'):
  Calls prog 266 #[ptr x,nv] w λe w'=>∃r,e=.returned r/\R r w':=by
 obtain⟨c0,c1,_⟩:=qS hx;have HC:=hid hc;clear hc hx;go_enter func266,ntmps266;go_wp2_with fail;go_region_with (refine HC.out.mono ?_;rintro e w1 ⟨r,rfl,hr⟩;have HR:=hid hr;clear hr)
 all_goals
  go_wp2;go_returns;exact⟨_,rfl,HR.out⟩
theorem J9{T:TypeId}{w:World}(hx:w.heap[x]? =some (.cells #[.iface T v,.pointer none] 419 (0,0)))
  (hc:Calls prog 275 #[.pointer none,.iface T v] w.drew λe w'=>∃r,e=.returned r/\R r w'):
  Calls prog 265 #[ptr x] w λe w'=>∃r,e=.returned r/\R r w':=by
 obtain⟨c0,c1,_⟩:=qS hx;have HC:=hid hc;clear hc hx;go_enter func265,ntmps265;go_wp2_with fail;go_region_with (refine HC.out.mono ?_;rintro e w1 ⟨r,rfl,hr⟩;have HR:=hid hr;clear hr)
 all_goals
  go_wp2;go_returns;exact⟨_,rfl,HR.out⟩
theorem Q6{T:TypeId}{w:World}(hx:w.heap[x]? =some (.cells #[.iface T v,.pointer none] 419 (0,0)))
  (hc:Calls prog 279 #[.iface T v] w λe w'=>∃r,e=.returned r/\R r w'):
  Calls prog 270 #[ptr x] w λe w'=>∃r,e=.returned r/\R r w':=by
 obtain⟨c0,c1,_⟩:=qS hx;have HC:=hid hc;clear hc hx;go_enter func270,ntmps270;go_wp2_with fail;refine HC.out.mono ?_;rintro e w1 ⟨r,rfl,hr⟩;have HR:=hid hr;clear hr;go_wp2;go_returns;exact⟨_,rfl,HR.out⟩
theorem vP{T:TypeId}{w:World}(hx:w.heap[x]? =some (.cells #[.iface T v,.pointer none] 419 (0,0)))
  (hc:Calls prog 280 #[.iface T v] w λe w'=>∃r,e=.returned r/\R r w'):
  Calls prog 271 #[ptr x] w λe w'=>∃r,e=.returned r/\R r w':=by
 obtain⟨c0,c1,_⟩:=qS hx;have HC:=hid hc;clear hc hx;go_enter func271,ntmps271;go_wp2_with fail;refine HC.out.mono ?_;rintro e w1 ⟨r,rfl,hr⟩;have HR:=hid hr;clear hr;go_wp2;go_returns;exact⟨_,rfl,HR.out⟩
theorem uw{T:TypeId}{w:World}(hx:w.heap[x]? =some (.cells #[.iface T v,.pointer none] 426 (0,0)))
  (hc:Calls prog 277 #[.pointer none,.iface T v,nv] w.drew λe w'=>∃r,e=.returned r/\R r w'):
  Calls prog 295 #[ptr x,nv] w λe w'=>∃r,e=.returned r/\R r w':=by
 obtain⟨c0,c1,_⟩:=qS hx;have HC:=hid hc;clear hc hx;go_enter func295,ntmps295;go_wp2_with fail;go_region_with (refine HC.out.mono ?_;rintro e w1 ⟨r,rfl,hr⟩;have HR:=hid hr;clear hr)
 all_goals
  go_wp2;go_returns;exact⟨_,rfl,HR.out⟩
theorem ux{T:TypeId}{w:World}(hx:w.heap[x]? =some (.cells #[.iface T v,.pointer none] 426 (0,0)))
  (hc:Calls prog 276 #[.pointer none,.iface T v,nv] w.drew λe w'=>∃r,e=.returned r/\R r w'):
  Calls prog 294 #[ptr x,nv] w λe w'=>∃r,e=.returned r/\R r w':=by
 obtain⟨c0,c1,_⟩:=qS hx;have HC:=hid hc;clear hc hx;go_enter func294,ntmps294;go_wp2_with fail;go_region_with (refine HC.out.mono ?_;rintro e w1 ⟨r,rfl,hr⟩;have HR:=hid hr;clear hr)
 all_goals
  go_wp2;go_returns;exact⟨_,rfl,HR.out⟩
theorem J_{T:TypeId}{w:World}(hx:w.heap[x]? =some (.cells #[.iface T v,.pointer none] 426 (0,0)))
  (hc:Calls prog 275 #[.pointer none,.iface T v] w.drew λe w'=>∃r,e=.returned r/\R r w'):
  Calls prog 293 #[ptr x] w λe w'=>∃r,e=.returned r/\R r w':=by
 obtain⟨c0,c1,_⟩:=qS hx;have HC:=hid hc;clear hc hx;go_enter func293,ntmps293;go_wp2_with fail;go_region_with (refine HC.out.mono ?_;rintro e w1 ⟨r,rfl,hr⟩;have HR:=hid hr;clear hr)
 all_goals
  go_wp2;go_returns;exact⟨_,rfl,HR.out⟩
theorem Q7{T:TypeId}{w:World}(hx:w.heap[x]? =some (.cells #[.iface T v,.pointer none] 426 (0,0)))
  (hc:Calls prog 279 #[.iface T v] w λe w'=>∃r,e=.returned r/\R r w'):
  Calls prog 296 #[ptr x] w λe w'=>∃r,e=.returned r/\R r w':=by
 obtain⟨c0,c1,_⟩:=qS hx;have HC:=hid hc;clear hc hx;go_enter func296,ntmps296;go_wp2_with fail;refine HC.out.mono ?_;rintro e w1 ⟨r,rfl,hr⟩;have HR:=hid hr;clear hr;go_wp2;go_returns;exact⟨_,rfl,HR.out⟩
theorem Qr{T:TypeId}{w:World}(hx:w.heap[x]? =some (.cells #[.iface T v,.pointer none] 426 (0,0)))
  (hc:Calls prog 280 #[.iface T v] w λe w'=>∃r,e=.returned r/\R r w'):
  Calls prog 297 #[ptr x] w λe w'=>∃r,e=.returned r/\R r w':=by
 obtain⟨c0,c1,_⟩:=qS hx;have HC:=hid hc;clear hc hx;go_enter func297,ntmps297;go_wp2_with fail;refine HC.out.mono ?_;rintro e w1 ⟨r,rfl,hr⟩;have HR:=hid hr;clear hr;go_wp2;go_returns;exact⟨_,rfl,HR.out⟩
theorem ZM(t:Nat)(W:World):(method 608 257 (ptr t) "UnsafePut").run prog W=.ok (335,ptr t) W:=by kernel_rfl
theorem K_(t:Nat)(W:World):(method 608 257 (ptr t) "UnsafeDelete").run prog W=.ok (332,ptr t) W:=by kernel_rfl
def qd(l:zu)(w:World)(x:Nat)(T:TypeId)(I:Nat)(ty:TypeId):Prop:=l x=0/\w.heap[x]? =some (.cells #[.iface T (ptr I),.pointer none] ty (0,0))
theorem qd.step{w:World}{T:TypeId}{I:Nat}{ty:TypeId}(h:qd l w x T I ty)(hs:zB l w l' w'):qd l' w' x T I ty:=by have hx:=(Array.getElem?_eq_some_iff.1 h.2).1;exact⟨(hs.old x hx).trans h.1,(hs.mod.block x hx (λe=>e.1 h.1)).trans h.2⟩
theorem qd.client{w:World}{T:TypeId}{I:Nat}{ty:TypeId}(h:qd l w x T I ty)(hs:qD l w l' w'):qd l' w' x T I ty:=by have hx:=(Array.getElem?_eq_some_iff.1 h.2).1;exact⟨(hs.old x hx).trans h.1,(hs.mod.block x hx (λe=>by have:=h.1;omega)).trans h.2⟩
theorem qd.new{w:World}{T:TypeId}{I:Nat}{ty:TypeId}(h:qd l w x T I ty)(hn:za w w'):qd l w' x T I ty:=⟨h.1,hn.heap h.2⟩
theorem zB.newFirst{w:World}(hb:∀b,l b≠0->b<w.heap.size)(hn:za w w1)(h:zB l w1 l' w'):zB l w l' w':=(zB.ofNew hb hn).trans h
variable{u:zj}
theorem gI(h:jv u):u.enc.length<=200000:=by
 have hB:∀(k:Nat) (x:Bytes),x.length<=1000->(jl.enc (.B k x)).length<=1004:=λk x hx=>by have:=j4 k x;omega
 have h1:=Yw (fs:=u.flds) λf hf=>by
  unfold zj.flds fB at hf;rw[if_neg h.name0]at hf;simp only[List.mem_append,List.mem_singleton,List.mem_map]at hf;rcases hf with rfl|⟨x,hx,rfl⟩|rfl
  ·exact hB _ _ h.name
  ·exact hB _ _ (h.roles0 x hx).2
  ·exact hB _ _ (by decide)
 have h2:=Yf u;have h3:=h.roles;show(zV u.flds).length<=_;omega
theorem gJ{u:zm}(h:kB u):u.enc.length<=400000:=by
 have hB:∀(k:Nat) (x:Bytes),x.length<=3012->(jl.enc (.B k x)).length<=3016:=λk x hx=>by have:=j4 k x;omega
 have h1:=JG (fs:=u.flds) λf hf=>by
  unfold zm.flds fB at hf;rw[if_neg h.name0]at hf;simp only[List.mem_append,List.mem_singleton,List.mem_map]at hf;rcases hf with rfl|⟨x,hx,rfl⟩
  ·exact hB _ _ (by have:=h.name;omega)
  ·exact hB _ _ (xd (h.perms0 x hx))
 have h2:u.flds.length<=u.perms.length+1:=by unfold zm.flds fB;split<;>simp
 have h3:=h.perms;show(zV u.flds).length<=_;omega
theorem uy{w:World}{I:zN}{D:vr}(h:kZ l w I D pend pdel us)(hD:D.ok)(hp:pend<=900)(hu:(us .users).length<=500)(hx:qd l w x 257 I.t 419)(pO:y9 (im l.some w) b u)(pV:jv u):
  Calls prog 269 #[ptr x,ptr b] w λe w'=>e=.returned (.tuple #[])/\∃l',zB l w l' w'/\kZ l' w' I (D.put .users (yh (D.get .users) u.name u.enc)) (pend+1) pdel (λc=>us c++if c=.users then [u.name]else []):=by
 have Hr:=h.bnd;have HM:=hid (gC (pO.mono (zd _ _)) pV);obtain⟨nv,hQ,Hj⟩:=pO.name;have pi:∀w1 bv,za w w1->yS w w1 bv u.enc->∀w2,za w1 w2->Calls prog 335 #[ptr I.t,zF.val .users,nv,bv] w2 λe w'=>e=.returned (.tuple #[])/\∃l',zB l w l' w'/\kZ l' w' I (D.put .users (yh (D.get .users) u.name u.enc)) (pend+1) pdel (λc=>us c++if c=.users then [u.name]else []):=λw1 bv h1 hf w2 h2=>by
  have Pw:=hf.more h2;refine(Kt (h.new (h1.trans h2)) hD hp (b:=.users) (k:=u.name) (v:=u.enc) hu (Hj.mono (za.im (h1.trans h2) _)) ?_ pV.name0 pV.name ?_).mono ?_
  ·exact(Bs.of_sl (Sl.of_own Pw.own)).im_of λj hj e=>by have:=Pw.ge j hj;have:=Hr j e;omega
  ·have:=gI pV;omega
  ·rintro e w' ⟨rfl,l',hs,hT⟩;exact⟨rfl,l',zB.newFirst Hr (h1.trans h2) hs,hT⟩
 have nL:∀w1,za w w1->w1.cell? ⟨b,0,none⟩=some nv:=λw1 h1=>h1.le _ _ (zi.1 hQ).2;have Hw:∀w1,za w w1->w1.cell? ⟨x,0,none⟩=some (.iface 257 (ptr I.t)):=λw1 h1=>(qS (h1.heap hx.2)).1;obtain⟨np,nn,nc,rfl,_⟩:=Hj.shape;have rK:=hid pi;clear pi;have Ti:=hid nL;clear nL;have TY:=hid Hw;clear Hw;have HA:=hid (λW=>kD W);have Hm:=ZM;clear h hD hx pO pV hQ Hj Hr;go_enter func269,ntmps269;go_wp2_with fail;refine HM.out.mono ?_;rintro e w1 ⟨bv,rfl,hf⟩;obtain⟨bp,bn,bc,rfl⟩:=hf.own.shape;have q0:=TY.out w1 hf.new;have q1:=Ti.out w1 hf.new;have HF:=hid hf;clear hf;go_wp2_with fail;go_region_with (first|(go_at_call 216;refine(HA.out _).mono ?_;rintro e w2 ⟨rfl,rfl⟩)|(go_at_call 335;refine(rK.out _ _ HF.out.new HF.out _ ((za.refl w1).drew)).mono ?_;rintro e w3 ⟨rfl,h3⟩;have H3:=hid h3;clear h3))
 all_goals
  go_wp2;go_returns;exact⟨rfl,H3.out⟩
theorem V5(t:Nat)(W:World):(method 608 257 (ptr t) "LockInsideApply").run prog W=.ok (331,ptr t) W:=by kernel_rfl
theorem Va(t:Nat)(W:World):(method 608 257 (ptr t) "LockOutsideApply").run prog W=.ok (225,ptr t) W:=by kernel_rfl
theorem Yg(t:Nat)(W:World):(method 608 257 (ptr t) "Unlock").run prog W=.ok (78,ptr t) W:=by kernel_rfl
theorem Yh(t:Nat)(W:World):(method 608 257 (ptr t) "Commit").run prog W=.ok (74,ptr t) W:=by kernel_rfl
theorem gK(t:Nat)(W:World):(method 608 238 (ptr t) "RLock").run prog W=.ok (221,ptr t) W:=by kernel_rfl
theorem Qs(t:Nat)(W:World):(method 608 238 (ptr t) "RUnlock").run prog W=.ok (222,ptr t) W:=by kernel_rfl
theorem jg{w:World}{I:zN}{D:vr}(h:kZ l w I D pend pdel us)(hx:qd l w x 257 I.t 419):
  Calls prog 260 #[ptr x] w λe w'=>e=.returned (.tuple #[])/\w=w':=by
 obtain⟨C,wb,rb,e2,e4,hB,_⟩:=h;have q0:w.cell? ⟨x,0,none⟩=some (.iface 257 (ptr I.t)):=(qS hx.2).1;have HL:=hid (GQ hB.bt hB.be);have Hm:=V5;clear hB hx;go_enter func260,ntmps260;go_wp2_with fail;refine HL.out.mono ?_;rintro e w1 ⟨rfl,rfl⟩;go_wp2;go_returns;exact⟨rfl,rfl⟩
def WD(l:zu)(w:World)(I:zN)(D:vr)(w':World):Prop:=∃l' I',zB l w l' w'/\zN.same I I'/\V4 l' w' I' D
theorem vC{w:World}{I:zN}{D:vr}(h:kZ l w I D pend pdel us)(hp:pend<1000)(hr:∀b,zM (us b))(hx:qd l w x 257 I.t 419):
  Calls prog 261 #[ptr x] w λe w'=>e=.returned (.tuple #[])/\WD l w I D w':=by
 have q0:w.cell? ⟨x,0,none⟩=some (.iface 257 (ptr I.t)):=(qS hx.2).1;have HU:=hid (K8 h hp hr);have Hm:=Yg;have li:=Yh;have HX:=hid hx;clear h hx;go_enter func261,ntmps261;go_wp2_with fail;refine HU.out.mono ?_;rintro e w1 ⟨rfl,hu⟩;have q1:w1.cell? ⟨x,0,none⟩=some (.iface 257 (ptr I.t)):=by obtain⟨l1,_,_,_,_,_,_,_,_,hs,_⟩:=hu;exact(qS (HX.out.step hs).2).1
 have HC:=hid (K9 hu (za.refl w1));clear hu;go_wp2_with fail;refine HC.out.mono ?_;rintro e w2 ⟨rfl,hd⟩;have HD:=hid hd;clear hd;go_wp2;go_returns;exact⟨rfl,HD.out⟩
theorem qr{w:World}{I:zN}{D:vr}{u:FrameMode}(h:kZ l w I D pend pdel us)(hp:pend<1000)(hr:∀b,zM (us b))(hx:qd l w x 257 I.t 419):
  CallsD prog 261 #[ptr x] u w λe u' w'=>u'=u/\(e=.returned (.tuple #[])/\WD l w I D w'):=by
 have q0:w.cell? ⟨x,0,none⟩=some (.iface 257 (ptr I.t)):=(qS hx.2).1;have HU:=hid (K8 h hp hr);have Hm:=Yg;have li:=Yh;have HX:=hid hx;clear h hx;go_enter_d func261,ntmps261;go_wp2_with fail;refine HU.out.mono ?_;rintro e w1 ⟨rfl,hu⟩;have q1:w1.cell? ⟨x,0,none⟩=some (.iface 257 (ptr I.t)):=by obtain⟨l1,_,_,_,_,_,_,_,_,hs,_⟩:=hu;exact(qS (HX.out.step hs).2).1
 have HC:=hid (K9 hu (za.refl w1));clear hu;go_wp2_with fail;refine HC.out.mono ?_;rintro e w2 ⟨rfl,hd⟩;have HD:=hid hd;clear hd;go_wp2;go_returns;exact⟨rfl,HD.out⟩
theorem kZ.rtRow{w:World}{I:zN}{D:vr}(h:kZ l w I D pend pdel us):∃c,w.heap[I.rt]? =some (.cells c 252 (0,0)):=by obtain⟨C,wb,rb,e2,e4,hB,_⟩:=h;obtain⟨n,mu,wg,h5⟩:=hB.rt;exact⟨_,h5⟩
theorem xm{w:World}{I:zN}{D:vr}(h:kZ l w I D pend pdel us)(hx:qd l w x 238 I.rt 426):
  Calls prog 290 #[ptr x] w λe w'=>e=.returned (.tuple #[])/\w=w':=by
 obtain⟨c,hc⟩:=h.rtRow;have q0:w.cell? ⟨x,0,none⟩=some (.iface 238 (ptr I.rt)):=(qS hx.2).1;have HL:=hid (D8 hc);have Hm:=gK;clear h hx hc;go_enter func290,ntmps290;go_wp2_with fail;refine HL.out.mono ?_;rintro e w1 ⟨rfl,rfl⟩;go_wp2;go_returns;exact⟨rfl,rfl⟩
theorem uz{w:World}{I:zN}{D:vr}(h:kZ l w I D pend pdel us)(hx:qd l w x 238 I.rt 426):
  Calls prog 291 #[ptr x] w λe w'=>e=.returned (.tuple #[])/\w=w':=by
 obtain⟨c,hc⟩:=h.rtRow;have q0:w.cell? ⟨x,0,none⟩=some (.iface 238 (ptr I.rt)):=(qS hx.2).1;have HL:=hid (KF hc);have Hm:=Qs;clear h hx hc;go_enter func291,ntmps291;go_wp2_with fail;refine HL.out.mono ?_;rintro e w1 ⟨rfl,rfl⟩;go_wp2;go_returns;exact⟨rfl,rfl⟩
theorem yb{w:World}{I:zN}{D:vr}{u:FrameMode}(h:kZ l w I D pend pdel us)(hx:qd l w x 238 I.rt 426):
  CallsD prog 291 #[ptr x] u w λe u' w'=>u'=u/\(e=.returned (.tuple #[])/\w=w'):=by
 obtain⟨c,hc⟩:=h.rtRow;have q0:w.cell? ⟨x,0,none⟩=some (.iface 238 (ptr I.rt)):=(qS hx.2).1;have HL:=hid (KF hc);have Hm:=Qs;clear h hx hc;go_enter_d func291,ntmps291;go_wp2_with fail;refine HL.out.mono ?_;rintro e w1 ⟨rfl,rfl⟩;go_wp2;go_returns;exact⟨rfl,rfl⟩
theorem kQ(v:Value)(w:World){u:FrameMode}:CallsD prog 70 #[v] u w λe u' w'=>u'=u/\(e=.returned (.tuple #[])/\w=w'):=by go_enter_d func70,ntmps70;go_wp2;go_returns;exact⟨rfl,rfl⟩
theorem Qt(v:Value)(w:World){u:FrameMode}:CallsD prog 98 #[v] u w λe u' w'=>u'=u/\(e=.returned (.tuple #[])/\w=w'):=by go_enter_d func98,ntmps98;go_wp2;go_returns;exact⟨rfl,rfl⟩
end Go.Proofs.YtbmdoinjkligiaaGreat
