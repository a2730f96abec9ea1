/- Contracts and laws that the last text joins. -/
import Derived.Lib.ConvBytes
import Derived.Test.YtbmdoinjkligiaaGreatM00
set_option maxRecDepth 100000
set_option maxHeartbeats 40000000
set_option linter.all false
namespace Go.Proofs.YtbmdoinjkligiaaGreat
open Tryz
open Lib(hid)
open Go.RowKit
variable{bk:Nat}{ps:yr}{pv:Value}{r:Rd}
theorem Ky{w:World}{fid:FuncId}{cap:Value}(I:Nat->World->Prop)(i_:∀args w,(callFunc fid args).run prog w=.ok (.enter fid args) w)(hb:w.cell? ⟨bk,2,none⟩=some pv)(hp:yR r ps pv)(_hsm:ps.length<=1000000)
  (h0:I 0 w)(hd:∀k w m,I k w->I k (w.drewN m))(hr:∀k w,I k w->r.le w.cell?)
  (sT:∀k (hk:k<ps.length) kv vv w,I k w->Bs r ps[k].1 kv->Bs r ps[k].2 vv->Calls prog fid #[kv,vv,cap] w λe w'=>e=.returned .nilIface/\I (k+1) w'):
  Calls prog 322 #[ptr bk,.func (.func fid) #[] #[cap]] w λe w'=>e=.returned .nilIface/\I ps.length w':=by
 obtain⟨p,n,c,kv,vv,rfl,h_,hn,hc,NL,pO⟩:=hp.at
 subst h_;have mq:=hid pO;clear pO;have MF:=hid sT;clear sT;have HD:=hid hd;clear hd;have HR:=hid hr;clear hr;clear hp;go_enter func322,ntmps322;go_wp2;go_loopw [6] (λi wr=>∃k:Nat,k<=ps.length/\i=.int .i64 k/\I k wr) (λi _=>ps.length-(intOf i).toNat)
 case atStart=>exact⟨0,Nat.zero_le _,rfl,h0⟩
 case round=>
  obtain⟨k,hk,rfl,hI⟩:=hrel;by_cases Hb:k<ps.length
  ·obtain⟨b,o,rfl,rh,se,_,Pb,pw⟩:=mq.out k Hb;have g1:=HR.out _ _ hI _ _ rh;have g2:=HR.out _ _ hI _ _ se;have Rq:=hid Pb;clear Pb;have SB:=hid pw;clear pw;have Lw:(k:Int)<(ps.length:Int):=by omega
   have HI:=hid hI;clear hI;clear rh se;go_wp2;go_still_tail 11,(by kernel_rfl);go_wp2_with fail;refine(MF.out k Hb _ _ _ (HD.out _ _ 1 HI.out) Rq.out SB.out).mono ?_;rintro e w2 ⟨rfl,RY⟩;have TK:=hid RY;clear RY;go_wp2;go_roundw
   case rel=>exact⟨k+1,by omega,by go_num,TK.out⟩
   case measure=>simp[intOf];omega
  ·have ph:k=ps.length:=by omega
   subst ph;have HI:=hid hI;clear hI;go_wp2;go_ret;exact⟨rfl,HI.out⟩
theorem JY{w:World}{fid:FuncId}{cap cap2:Value}(I:Nat->World->Prop)(i_:∀args w,(callFunc fid args).run prog w=.ok (.enter fid args) w)(hb:w.cell? ⟨bk,2,none⟩=some pv)(hp:yR r ps pv)(_hsm:ps.length<=1000000)
  (h0:I 0 w)(hd:∀k w m,I k w->I k (w.drewN m))(hr:∀k w,I k w->r.le w.cell?)
  (sT:∀k (hk:k<ps.length) kv vv w,I k w->Bs r ps[k].1 kv->Bs r ps[k].2 vv->Calls prog fid #[kv,vv,cap,cap2] w λe w'=>e=.returned .nilIface/\I (k+1) w'):
  Calls prog 322 #[ptr bk,.func (.func fid) #[] #[cap,cap2]] w λe w'=>e=.returned .nilIface/\I ps.length w':=by
 obtain⟨p,n,c,kv,vv,rfl,h_,hn,hc,NL,pO⟩:=hp.at
 subst h_;have mq:=hid pO;clear pO;have MF:=hid sT;clear sT;have HD:=hid hd;clear hd;have HR:=hid hr;clear hr;clear hp;go_enter func322,ntmps322;go_wp2;go_loopw [6] (λi wr=>∃k:Nat,k<=ps.length/\i=.int .i64 k/\I k wr) (λi _=>ps.length-(intOf i).toNat)
 case atStart=>exact⟨0,Nat.zero_le _,rfl,h0⟩
 case round=>
  obtain⟨k,hk,rfl,hI⟩:=hrel;by_cases Hb:k<ps.length
  ·obtain⟨b,o,rfl,rh,se,_,Pb,pw⟩:=mq.out k Hb;have g1:=HR.out _ _ hI _ _ rh;have g2:=HR.out _ _ hI _ _ se;have Rq:=hid Pb;clear Pb;have SB:=hid pw;clear pw;have Lw:(k:Int)<(ps.length:Int):=by omega
   have HI:=hid hI;clear hI;clear rh se;go_wp2;go_still_tail 11,(by kernel_rfl);go_wp2_with fail;refine(MF.out k Hb _ _ _ (HD.out _ _ 1 HI.out) Rq.out SB.out).mono ?_;rintro e w2 ⟨rfl,RY⟩;have TK:=hid RY;clear RY;go_wp2;go_roundw
   case rel=>exact⟨k+1,by omega,by go_num,TK.out⟩
   case measure=>simp[intOf];omega
  ·have ph:k=ps.length:=by omega
   subst ph;have HI:=hid hI;clear hI;go_wp2;go_ret;exact⟨rfl,HI.out⟩
inductive zF where
 |auth|roles|users
def zF.num:zF->Int
 |.auth=>20
 |.roles=>22
 |.users=>21
def zF.name:zF->Bytes
 |.auth=>[97,117,116,104]
 |.roles=>[97,117,116,104,82,111,108,101,115]
 |.users=>[97,117,116,104,85,115,101,114,115]
def zF.raw(b:zF):Value:=.agg #[.int .i64 b.num,.string ⟨b.name.toArray⟩,.bool false]
def zF.val(b:zF):Value:=.iface 428 b.raw
theorem Qc(w:World):Calls prog 215 #[] w λe w'=>e=.returned (zF.auth).val/\w=w':=by go_enter func215,ntmps215;go_wp2;go_ret;exact⟨rfl,rfl⟩
theorem kD(w:World):Calls prog 216 #[] w λe w'=>e=.returned (zF.users).val/\w=w':=by go_enter func216,ntmps216;go_wp2;go_ret;exact⟨rfl,rfl⟩
theorem kE(w:World):Calls prog 217 #[] w λe w'=>e=.returned (zF.roles).val/\w=w':=by go_enter func217,ntmps217;go_wp2;go_ret;exact⟨rfl,rfl⟩
theorem xi(b:zF)(w:World):Calls prog 298 #[b.raw] w λe w'=>e=.returned (.int .i64 b.num)/\w'=w.alloc (.cells #[.int .i64 b.num,.string ⟨b.name.toArray⟩,.bool false] 428):=by unfold zF.raw;generalize(⟨b.name.toArray⟩:ByteArray)=s;generalize b.num=i;go_enter func298,ntmps298;go_wp2;go_ret;exact⟨rfl,rfl⟩
variable{P:Program}
theorem jO(w:World)(src dst e:TypeId){l:Bytes}{u:TypeDesc}(hs:P.underlying src=some u)(hd:P.underlying dst=some (.slice e))(he:P.underlying e=some (.int .u8))(hl:l.length<=1000000):
  ∃v w',(convert src dst (.string ⟨l.toArray⟩)).run P w=.ok v w'/\za w w'/\Bs w'.cell? l v/\(∃n c,v=.slice (some ⟨w.heap.size,0,none⟩) n c)/\w.heap.size<w'.heap.size:=by
 have pL:(⟨l.toArray⟩:ByteArray).size=l.length:=by simp[ByteArray.size]
 refine⟨_,_,Lib.run_convert_string_bytes w src dst e ⟨l.toArray⟩ hs hd he,⟨rfl,rfl,rfl,by rw[Lib.bytesWorld_size];omega,λk hk _=>Lib.bytesWorld_at_old w e _ k hk⟩,?_,⟨_,_,rfl⟩,by rw[Lib.bytesWorld_size];omega⟩;refine⟨_,_,_,rfl,pL.symm,grownCap_ge _ _ _ _,?_,(λh=>by cases h),Or.inr ⟨_,_,rfl,λi hi=> ?_⟩⟩
 ·have:=grownCap_le_maxLen w (⟨l.toArray⟩:ByteArray).size 0 e (by rw[pL];simp only[maxLen];omega);simpa only[maxLen]using this
 ·have:=Lib.bytesWorld_cell w e ⟨l.toArray⟩ i (by rw[pL];exact hi);rw[Nat.zero_add,this];simp[List.getD,hi]
theorem jP(b:zF)(w:World):Calls prog 300 #[b.raw] w λe w'=>∃v,e=.returned v/\za w w'/\Bs w'.cell? b.name v/\∀q,v.ownBlock=some q->w.heap.size<=q:=by
 have hl:b.name.length<=9:=by cases b<;>decide
 unfold zF.raw;generalize b.name=l at*
 generalize b.num=i;obtain⟨v,w',pQ,Hp,rZ,⟨n,c,rfl⟩,Hb⟩:=jO (P:=prog) (w.alloc (.cells #[.int .i64 i,.string ⟨l.toArray⟩,.bool false] 428)) 9 75 5 (l:=l) (u:=.string) (by kernel_rfl) (by kernel_rfl) (by kernel_rfl) (by omega);have HN:=hid (za.trans ((za.refl w).alloc _) Hp);clear Hp;have pL:(w.alloc (.cells #[.int .i64 i,.string ⟨l.toArray⟩,.bool false] 428)).heap.size=w.heap.size+1:=by simp
 rw[pL]at rZ;clear pL;have HB:=hid rZ;clear rZ;generalize(⟨l.toArray⟩:ByteArray)=s at*
 go_enter func300,ntmps300;go_wp2;go_ret;exact⟨_,rfl,HN.out,HB.out,λq hq=>by simp[Value.ownBlock]at hq;omega⟩
def js(r:Rd)(w:World)(bb a:Nat)(u:List Bytes):Prop:=
 w.heap[bb]? =some (.cells #[.slice (some ⟨a,0,none⟩) 512 512,.int .i64 u.length] 305 (0,0))/\u.length<512/\
 ∃arr:Array Value,w.heap[a]? =some (.cells arr 313 (0,0))/\arr.size=1024/\(∀j (h:j<arr.size),arr[j].oneCell'=true)/\
  ∀i,i<u.length->∃k v:Bytes,∃kv vv,u[i]? =some k/\arr[i*2]? =some kv/\arr[i*2+1]? =some vv/\Bs r k kv/\Bs r v vv
variable{a bb:Nat}{r':Rd}{w':World}
theorem js.frame{w:World}{u:List Bytes}(h:js r w bb a u)(h1:w'.heap[bb]? =w.heap[bb]?)(h2:w'.heap[a]? =w.heap[a]?)(hr:r.le r'):js r' w' bb a u:=by obtain⟨g1,g2,arr,g3,g4,g5,g6⟩:=h;refine⟨h1.trans g1,g2,arr,h2.trans g3,g4,g5,λi hi=> ?_⟩;obtain⟨k,v,kv,vv,e0,e1,e2,e3,e4⟩:=g6 i hi;exact⟨k,v,kv,vv,e0,e1,e2,e3.mono hr,e4.mono hr⟩
variable{v:Value}
theorem Gc{arr:Array Value}(h:∀j (h:j<arr.size),arr[j].oneCell'=true)(i:Nat)(hv:v.oneCell'=true):∀j (h:j<(arr.setIfInBounds i v).size),(arr.setIfInBounds i v)[j].oneCell'=true:=by
 intro j hj;have EL:j<arr.size:=by simpa using hj
 rw[Array.getElem_setIfInBounds];split
 ·exact hv
 ·exact h j EL
variable{S:Nat->Prop}{ks:List Bytes}{kv vv:Value}
theorem fV{w:World}{k v:Bytes}(hb:S bb)(ha:S a)(h:js (im S w) w bb a ks)(hu:ks.length+1<512)(hk:Bs (im S w) k kv)(hv:Bs (im S w) v vv):
  Calls prog 103 #[ptr bb,kv,vv] w λe w'=>e=.returned (.tuple #[])/\zq (λb=>b=bb\/b=a) w w'/\js (im S w') w' bb a (ks++[k]):=by
 obtain⟨g1,_,arr,g3,g4,g5,g6⟩:=h;obtain⟨u,Ic⟩:=zex (ks.length);rw[<-Ic]at g1 g6 hu;have BN:=hid Ic;clear Ic;obtain⟨kp,kn,kc,rfl,_⟩:=hk.shape;obtain⟨vp,vn,vc,rfl,_⟩:=hv.shape;have c0:w.cell? ⟨bb,0,none⟩=some (.slice (some ⟨a,0,none⟩) 512 512):=by rw[cell_of_row w bb 0 _ _ (0,0) g1];rfl
 have c1:w.cell? ⟨bb,1,none⟩=some (.int .i64 u):=by rw[cell_of_row w bb 1 _ _ (0,0) g1];rfl
 have f1:w.frozen? ⟨bb,1,none⟩=false:=by simp[World.frozen?,g1]
 have th:a≠bb:=by intro e;subst e;rw[g1]at g3;simp at g3
 obtain⟨x0,k0⟩:∃x,w.cell? ⟨a,u*2,none⟩=some x:=⟨_,by rw[cell_of_row w a _ _ _ (0,0) g3];exact Array.getElem?_eq_getElem (by omega)⟩;obtain⟨x1,k1⟩:∃x,w.cell? ⟨a,u*2+1,none⟩=some x:=⟨_,by rw[cell_of_row w a _ _ _ (0,0) g3];exact Array.getElem?_eq_getElem (by omega)⟩;have fa0:w.frozen? ⟨a,u*2,none⟩=false:=by simp[World.frozen?,g3]
 have fa1:w.frozen? ⟨a,u*2+1,none⟩=false:=by simp[World.frozen?,g3]
 have hi:(u:Int)<512:=by omega
 have he:((u:Int)+1==512)=false:=by simp;omega
 have HK:=hid hk;clear hk;have HV:=hid hv;clear hv;have G1:=hid g1;clear g1;have G3:=hid g3;clear g3;have G4:=hid g4;clear g4;have G5:=hid g5;clear g5;have G6:=hid g6;clear g6;go_enter func103,ntmps103;go_wp2;go_region;go_wp2;go_quiet (fail);go_wp2;go_end0;have hM:zq (λb=>b=bb\/b=a) w (((w.setCell ⟨a,u*2,none⟩ (.slice kp kn kc)).setCell ⟨a,u*2+1,none⟩ (.slice vp vn vc)).setCell ⟨bb,1,none⟩ (.int .i64 ((u:Int)+1))):=
  vx (S:=λb=>b=bb\/b=a) (vx (S:=λb=>b=bb\/b=a) (vx (S:=λb=>b=bb\/b=a) (zq.refl _ w) (Or.inr rfl) _) (Or.inr rfl) _) (Or.inl rfl) _
 have CV:(((w.setCell ⟨a,u*2,none⟩ (.slice kp kn kc)).setCell ⟨a,u*2+1,none⟩ (.slice vp vn vc)).setCell ⟨bb,1,none⟩ (.int .i64 ((u:Int)+1))).heap[a]? =some (.cells ((arr.setIfInBounds (u*2) (.slice kp kn kc)).setIfInBounds (u*2+1) (.slice vp vn vc)) 313 (0,0)):=by rw[Below.heap_setCell _ _ _ _ th,heap_setCell_same _ a (u*2+1) _ _ _ (heap_setCell_same w a (u*2) _ _ _ G3.out)]
 have pw:(((w.setCell ⟨a,u*2,none⟩ (.slice kp kn kc)).setCell ⟨a,u*2+1,none⟩ (.slice vp vn vc)).setCell ⟨bb,1,none⟩ (.int .i64 ((u:Int)+1))).heap[bb]? =some (.cells #[.slice (some ⟨a,0,none⟩) 512 512,.int .i64 ((u+1:Nat):Int)] 305 (0,0)):=by
  have h0:((w.setCell ⟨a,u*2,none⟩ (.slice kp kn kc)).setCell ⟨a,u*2+1,none⟩ (.slice vp vn vc)).heap[bb]? =some (.cells #[.slice (some ⟨a,0,none⟩) 512 512,.int .i64 u] 305 (0,0)):=by rw[Below.heap_setCell _ _ _ _ (λe=>th e.symm),Below.heap_setCell _ _ _ _ (λe=>th e.symm)];exact G1.out
  rw[heap_setCell_same _ bb 1 _ _ _ h0];rfl
 generalize(((w.setCell ⟨a,u*2,none⟩ (.slice kp kn kc)).setCell ⟨a,u*2+1,none⟩ (.slice vp vn vc)).setCell ⟨bb,1,none⟩ (.int .i64 ((u:Int)+1)))=W at*
 have CW:zq (λb=>b=bb\/b=a) w (W.drew.drewN nq):=hM.drew.drewN nq;have hY:(im S w).le (im S (W.drew.drewN nq)):=(CW.mono (S':=S) λ_ _ e=>by rcases e with rfl|rfl;exact hb;exact ha).im λ_ _ h=>h;have pE:(ks++[k]).length=u+1:=by rw[List.length_append,<-BN.out];rfl
 refine⟨rfl,CW,?_⟩;unfold js;rw[pE];refine⟨pw,by omega,_,CV,by simpa using G4.out,?_,?_⟩
 ·exact Gc (Gc G5.out _ rfl) _ rfl
 ·intro i cD;have hs:=G4.out;by_cases e:i=u
  ·subst e;refine⟨k,v,.slice kp kn kc,.slice vp vn vc,by rw[List.getElem?_append_right (by rw[<-BN.out];exact Nat.le_refl _),BN.out];simp,?_,?_,HK.out.mono hY,HV.out.mono hY⟩
   ·rw[Array.getElem?_setIfInBounds_ne (by omega),Array.getElem?_setIfInBounds_self_of_lt (by omega)]
   ·rw[Array.getElem?_setIfInBounds_self_of_lt (by simp;omega)]
  ·obtain⟨k',v',kv,vv,e0,e1,e2,e3,e4⟩:=G6.out i (by omega);refine⟨k',v',kv,vv,by rw[List.getElem?_append_left (by rw[<-BN.out];omega)];exact e0,?_,?_,e3.mono hY,e4.mono hY⟩
   ·rw[Array.getElem?_setIfInBounds_ne (by omega),Array.getElem?_setIfInBounds_ne (by omega)];exact e1
   ·rw[Array.getElem?_setIfInBounds_ne (by omega),Array.getElem?_setIfInBounds_ne (by omega)];exact e2
theorem zbY:yy prog 303 313 (.agg #[.slice none 0 0,.slice none 0 0]) 2 48:=⟨by kernel_rfl,by kernel_rfl,rfl,by decide⟩
theorem zaX(w:World):∃arr:Array Value,arr.size=1024/\(∀j (h:j<arr.size),arr[j].oneCell'=true)/\
  (Instr.makeSlice 303 (.int .i64 512) (.int .i64 512)).run prog w=.ok (.slice (some ⟨w.heap.size,0,none⟩) 512 512) (w.alloc (.cells arr 313)):=by
 obtain⟨i,hi,hz,pL,TF⟩:=info_parts zbY.info;have h:=run_make (P:=prog) w 303 313 i _ zbY.under hi hz .i64 .i64 512 512 (by omega) (by omega) (by rw[TF];omega) (by omega);rw[pL]at h;have hg:∀j,j<1024->(madeCells (Value.agg #[Value.slice none 0 0,Value.slice none 0 0]).cells 1024)[j]? =some (.slice none 0 0):=by intro j hj;unfold madeCells;rw[Array.getElem?_map,Array.getElem?_range];simp only[hj,if_true,Option.map_some];show some (#[Value.slice none 0 0,Value.slice none 0 0][j % 2]!)=_;rcases Nat.mod_two_eq_zero_or_one j with e|e<;>rw[e]<;>rfl
 refine⟨_,size_madeCells _ _,λj hj=> ?_,h⟩;have h2:=hg j (by rw[size_madeCells]at hj;exact hj);rw[Array.getElem?_eq_some_iff]at h2;obtain⟨h3,h4⟩:=h2;exact(congrArg Value.oneCell' h4).trans rfl
theorem zcj(w:World):Calls prog 345 #[] w λe w'=>∃bb a,e=.returned (ptr bb)/\za w w'/\(∀r,js r w' bb a [])/\w.heap.size<=bb/\w.heap.size<=a/\bb<w'.heap.size/\a<w'.heap.size/\bb≠a:=by obtain⟨arr,h1,h2,Sr⟩:=zaX w;have H2:=hid h2;clear h2;go_enter func345,ntmps345;go_wp2;go_ret;refine⟨_,w.heap.size,rfl,((za.refl w).alloc _).alloc _,λr=>⟨by have:=zg (w.alloc (.cells arr 313)) (.cells #[.slice (some ⟨w.heap.size,0,none⟩) 512 512,.int .i64 0] 305);simpa using this,by decide,arr,?_,h1,H2.out,λi hi=>absurd hi (Nat.not_lt_zero i)⟩,by simp,Nat.le_refl _,by simp,by simp;omega,by simp⟩;rw[Below.heap_alloc _ _ _ (by simp),zg]
abbrev kY(b:zF):Value:=.int .i64 b.num
theorem Zd:YF prog 299 kY:=by
 have hu:prog.underlying 299=some (.int .i64):=by kernel_rfl
 refine⟨Maps.int_keyed hu,λx=>⟨_,Maps.keyOf_int_mk hu (by cases x<;>decide)⟩,λx y h=> ?_⟩;cases x<;>cases y<;>first|rfl|(simp[kY,zF.num]at h)
deriving instance DecidableEq for zF
theorem QM(raw:Value)(W:World):(method 608 428 raw "ID").run prog W=.ok (298,raw) W:=by kernel_rfl
structure zQ(r:Rd)(w:World)(F:Nat->Prop)(m:Nat)(es:List (zF×(Nat×Nat×List Bytes))):Prop where
 map:zD kY w m (es.map λe=>(e.1,ptr e.2.1))
 ok:∀e∈es,F e.2.1/\F e.2.2.1/\js r w e.2.1 e.2.2.1 e.2.2.2
 apart:(es.flatMap λe=>[e.2.1,e.2.2.1]).Nodup
variable{F:Nat->Prop}
theorem zQ.frame{w:World}{m:Nat}{es:List (zF×(Nat×Nat×List Bytes))}(h:zQ r w F m es)(hm:w'.heap[m]? =w.heap[m]?)(hF:∀b,F b->w'.heap[b]? =w.heap[b]?)(hr:r.le r'):zQ r' w' F m es:=
 ⟨h.map.frame hm,λe he=>⟨(h.ok e he).1,(h.ok e he).2.1,(h.ok e he).2.2.frame (hF _ (h.ok e he).1) (hF _ (h.ok e he).2.1) hr⟩,h.apart⟩
def yz(es:List (zF×(Nat×Nat×List Bytes)))(b:zF):List Bytes:=((es.find? (λe=>e.1=b)).map (·.2.2.2)).getD []
theorem js.lt2{w:World}{u:List Bytes}(h:js r w bb a u):a<w.heap.size:=by obtain⟨_,_,arr,h3,_⟩:=h;exact(Array.getElem?_eq_some_iff.1 h3).1
theorem js.lt1{w:World}{u:List Bytes}(h:js r w bb a u):bb<w.heap.size:=(Array.getElem?_eq_some_iff.1 h.1).1
variable{t:Nat}
theorem JZ{w:World}{m:Nat}{u:List Bytes}{es:List (zF×(Nat×Nat×List Bytes))}{b:zF}{k v:Bytes}(pG:∀b,F b->S b)
  (h3:w.cell? ⟨t,3,none⟩=some (.map (some m)))(h:zQ (im S w) w F m es)(he:(b,bb,a,u)∈es)(hu:u.length+1<512)(hk:Bs (im S w) k kv)(hv:Bs (im S w) v vv):
  Calls prog 343 #[.pointer (some ⟨t,3,none⟩),b.val,kv,vv] w λe w'=>e=.returned (.tuple #[])/\zq (λj=>j=bb\/j=a) w w'/\js (im S w') w' bb a (u++[k]):=by
 obtain⟨kp,kn,kc,rfl,_⟩:=hk.shape;obtain⟨vp,vn,vc,rfl,_⟩:=hv.shape;obtain⟨o1,o2,o3⟩:=h.ok _ he;have HK:=hid hk;clear hk;have HV:=hid hv;clear hv;have H:=hid h;clear h;have O1:=hid o1;clear o1;have O2:=hid o2;clear o2;have O3:=hid o3;clear o3;have Hb:t<w.heap.size:=World.block_lt_of_cell? w _ h3;have hl:=zD.look (P:=prog) (t:=239) (e:=300) Zd (by kernel_rfl) (z:=.pointer none) (by kernel_rfl)
  (H.out.map.frame (w':=(w.alloc (.cells #[.int .i64 b.num,.string ⟨b.name.toArray⟩,.bool false] 428)).drew) (Below.heap_alloc _ _ _ H.out.map.lt)) b true
 rw[xM H.out.map.nodup (List.mem_map.2 ⟨_,he,rfl⟩)]at hl;simp only[if_true]at hl;have HD:zq (λ_=>False) w ((w.alloc (.cells #[.int .i64 b.num,.string ⟨b.name.toArray⟩,.bool false] 428)).drew):=((za.refl w).alloc _).drew;unfold zF.val;have NU:=xi b;have Hm:=QM b.raw;generalize zF.raw b=raw at*
 go_enter func343,ntmps343;go_wp2;go_region_with (go_at_call 298;refine(NU _).mono ?_;rintro e w1 ⟨rfl,rfl⟩)
 all_goals
  go_wp2_with fail;refine(fV (S:=S) (pG _ O1.out) (pG _ O2.out) (O3.out.frame (HD.block _ (Array.getElem?_eq_some_iff.1 O3.out.1).1 (λe=>e)) (HD.block _ O3.out.lt2 (λe=>e)) (za.im HD S)) hu (HK.out.mono (za.im HD S)) (HV.out.mono (za.im HD S))).mono ?_;rintro e w2 ⟨rfl,Hq,pw⟩;have SB:=hid pw;clear pw;have mC:=hid Hq;clear Hq;go_wp2;go_end0;exact⟨rfl,zq.trans (za.mod HD _) mC.out λ_ _ h=>h,SB.out⟩
variable{b:Nat}
theorem zq.size_lt{w:World}(h:zq S w w')(hb:b<w.heap.size):b<w'.heap.size:=Nat.lt_of_lt_of_le hb h.size
theorem J0{w:World}{m:Nat}{es:List (zF×Value)}{b:zF}{k v:Bytes}(hS:∀j,S j->j<w.heap.size)(cE:S m)
  (h3:w.cell? ⟨t,3,none⟩=some (.map (some m)))(h:zD kY w m es)(he:jq es b=none)(Hx:es.length<=1000)(hk:Bs (im S w) k kv)(hv:Bs (im S w) v vv):
  Calls prog 343 #[.pointer (some ⟨t,3,none⟩),b.val,kv,vv] w λe w'=>∃bb a,e=.returned (.tuple #[])/\zq (· =m) w w'/\w.heap.size<=bb/\w.heap.size<=a/\bb≠a/\zD kY w' m (xu es b (ptr bb))/\
   js (im (λj=>S j\/j=bb\/j=a) w') w' bb a [k]:=by
 obtain⟨kp,kn,kc,rfl,_⟩:=hk.shape;obtain⟨vp,vn,vc,rfl,_⟩:=hv.shape;have HK:=hid hk;clear hk;have HV:=hid hv;clear hv;have H:=hid h;clear h;have HS:=hid hS;clear hS;have HE:=hid he;clear he;have Hb:t<w.heap.size:=World.block_lt_of_cell? w _ h3;have hl:=zD.look (P:=prog) (t:=239) (e:=300) Zd (by kernel_rfl) (z:=.pointer none) (by kernel_rfl)
  (H.out.frame (w':=(w.alloc (.cells #[.int .i64 b.num,.string ⟨b.name.toArray⟩,.bool false] 428)).drew) (Below.heap_alloc _ _ _ H.out.lt)) b true
 rw[HE.out]at hl;simp only[if_true]at hl;have HD:zq (λ_=>False) w ((w.alloc (.cells #[.int .i64 b.num,.string ⟨b.name.toArray⟩,.bool false] 428)).drew):=((za.refl w).alloc _).drew;unfold zF.val;have NU:=xi b;have Hm:=QM b.raw;generalize zF.raw b=raw at*
 go_enter func343,ntmps343;go_wp2;go_region_with (go_at_call 298;refine(NU _).mono ?_;rintro e w1 ⟨rfl,rfl⟩)
 all_goals
  clear hl;go_wp2_with fail;refine(zcj _).mono ?_;rintro e w2 ⟨bb,a,rfl,Hp,Rz,g1,g2,g3,g4,g5⟩;have Id:za w w2:=za.trans HD Hp;have PY:w.heap.size<=bb:=Nat.le_trans HD.size g1;have m_:w.heap.size<=a:=Nat.le_trans HD.size g2;have t3:w2.cell? ⟨t,3,none⟩=some (.map (some m)):=Id.le _ _ h3;have SD:=hid Rz;clear Rz;have Pf:=hid Id;clear Id;clear Hp g1 g2;have mj:t<w2.heap.size:=World.block_lt_of_cell? w2 _ t3;obtain⟨w3,pi,RZ,Pg⟩:=zD.put (P:=prog) (t:=239) (e:=300) Zd (by kernel_rfl)
   (H.out.frame (w':=(w2.alloc (.cells #[.int .i64 b.num,.string ⟨b.name.toArray⟩,.bool false] 428)).drew) ((Below.heap_alloc _ _ _ (Pf.out.size_lt H.out.lt)).trans (Pf.out.block _ H.out.lt (λe=>e)))) (by simp only[maxLen];omega) b (ptr bb)
  have L8:=hid RZ;clear RZ;have CX:=hid Pg;clear Pg;have Nl:zq (λ_=>False) w2 ((w2.alloc (.cells #[.int .i64 b.num,.string ⟨b.name.toArray⟩,.bool false] 428)).drew):=((za.refl w2).alloc _).drew;have NP:zq (· =m) w w3:=zq.trans (za.mod (za.trans Pf.out Nl) _) CX.out λ_ _ h=>h;have iJ:=hid NP;clear NP;have hm:m<w.heap.size:=H.out.lt;have rO:bb≠m:=by omega
  have ham:a≠m:=by omega
  have h23:∀j,j≠m->j<w2.heap.size->w3.heap[j]? =w2.heap[j]? :=λj hj hl=>(CX.out.block j (Nl.size_lt hl) hj).trans (Nl.block j hl (λe=>e));have H23:=hid h23;clear h23;have tu:=fV (S:=λj=>S j\/j=bb\/j=a) (w:=w3) (bb:=bb) (a:=a) (ks:=[]) (k:=k) (v:=v) (kv:=.slice kp kn kc) (vv:=.slice vp vn vc) (Or.inr (Or.inl rfl)) (Or.inr (Or.inr rfl))
   ((SD.out (im (λj=>S j\/j=bb\/j=a) w3)).frame (H23.out _ rO g3) (H23.out _ ham g4) (Rd.le_refl _)) (by decide)
  have hY:(im S w).le (im (λj=>S j\/j=bb\/j=a) w3):=(iJ.out.mono (S':=S) λ_ _ e=>by rw[e];exact cE).im (S':=λj=>S j\/j=bb\/j=a) λj hj e=>by
   rcases e with e|e|e
   ·exact e
   ·omega
   ·omega
  have MN:=hid (tu (HK.out.mono hY) (HV.out.mono hY));clear tu;go_wp2_with fail;go_region_with (go_at_call 298;refine(NU _).mono ?_;rintro e w1 ⟨rfl,rfl⟩)
  all_goals
   go_wp2_with fail;refine MN.out.mono ?_;rintro e w4 ⟨rfl,pP,S4⟩;have T7:=hid pP;clear pP;have HB4:=hid S4;clear S4;go_wp2;go_end0;refine⟨bb,a,rfl,zq.trans iJ.out T7.out (λj hj e=> ?_),PY,m_,g5,L8.out.frame (T7.out.block m L8.out.lt (λe=> ?_)),HB4.out⟩
   ·rcases e with e|e<;>omega
   ·rcases e with e|e<;>omega
end Go.Proofs.YtbmdoinjkligiaaGreat
