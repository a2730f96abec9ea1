/- Contracts and laws that the last text joins. -/
import Derived.Laws.BitsLemmas
import Derived.Laws.Bits64b
import Derived.Handy
import Derived.Outline
import Derived.Test.YtbmdoinjkligiaaGreatM00
set_option maxRecDepth 100000
set_option maxHeartbeats 40000000
set_option linter.all false
namespace Go.Proofs.YtbmdoinjkligiaaGreat
open Tryz
open Lib(hid)
def yZ(n:Nat):Bytes:=if n<128 then [UInt8.ofNat n]else [UInt8.ofNat (n % 128+128),UInt8.ofNat (n/128)]
inductive jl where
 |B(k:Nat)(v:Bytes)
 |I(k n:Nat)
def jl.enc:jl->Bytes
 |.B k v=>yZ (k*8+2)++(yZ v.length++v)
 |.I k n=>yZ (k*8)++yZ n
def jl.ok:jl->Prop
 |.B k v=>1<=k/\k<=15/\v.length<16384
 |.I k n=>1<=k/\k<=15/\n<128
def zV(fs:List jl):Bytes:=fs.flatMap jl.enc
theorem kV(f:jl)(fs:List jl):zV (f::fs)=f.enc++zV fs:=rfl
theorem y8(a b:List jl):zV (a++b)=zV a++zV b:=List.flatMap_append ..
theorem Wl(n:Nat):(yZ n).length=if n<128 then 1 else 2:=by unfold yZ;split<;>rfl
theorem vh(n:Nat):1<=(yZ n).length/\(yZ n).length<=2:=by rw[Wl];split<;>omega
theorem Ks(f:jl):0<f.enc.length:=by
 cases f with
 |B k v=>simp only[jl.enc,List.length_append];have:=vh (k*8+2);omega
 |I k n=>simp only[jl.enc,List.length_append];have:=vh (k*8);omega
theorem Qm{fs:List jl}:zV fs=[]↔fs=[]:=by
 cases fs with
 |nil=>simp[zV]
 |cons f fs=>
  rw[kV];have:=Ks f;constructor
  ·intro h;have:(f.enc++zV fs).length=0:=by rw[h];rfl
   rw[List.length_append]at this;omega
  ·intro h;cases h
structure zh where
 kind:Nat
 key:Bytes
 stop:Bytes
deriving DecidableEq
structure zj where
 name:Bytes
 roles:List Bytes
structure zm where
 name:Bytes
 perms:List zh
def fB(k:Nat)(v:Bytes):List jl:=if v=[]then []else [.B k v]
def zh.flds(p:zh):List jl:=(if p.kind=0 then []else [.I 1 p.kind])++(fB 2 p.key++fB 3 p.stop)
def zj.flds(u:zj):List jl:=fB 1 u.name++(u.roles.map (jl.B 3)++[.B 4 [8,1]])
def zh.enc(p:zh):Bytes:=zV p.flds
def zj.enc(u:zj):Bytes:=zV u.flds
def zm.flds(r:zm):List jl:=fB 1 r.name++r.perms.map λp=>.B 2 p.enc
def zm.enc(r:zm):Bytes:=zV r.flds
open Go.RowKit
def Yu(w:World)(v:Value)(l:Bytes):Prop:=w.ownsRow 0 5 1 v l.length (l.map ql)
theorem Yu.nil(w:World):Yu w (.slice none 0 0) []:=World.ownsRow_nil _ _ _ _
variable{v:Value}
theorem Yu.bs{w:World}{l:Bytes}(h:Yu w v l):Bs w.cell? l v:=Bs.of_sl (Sl.of_own h)
theorem Yu.shape{w:World}{l:Bytes}(h:Yu w v l):∃p n c,v=.slice p n c:=(Sl.of_own h).shape
structure Zf(w w':World)(v v':Value):Prop where
 mod:zq (λj=>v.ownBlock=some j) w w'
 row:∀b,v'.ownBlock=some b->v.ownBlock=some b\/w.heap.size<=b
theorem Zf.refl(w:World)(v:Value):Zf w w v v:=⟨zq.refl _ _,λ_ h=>Or.inl h⟩
theorem Zf.trans{a b c:World}{u x:Value}(h:Zf a b u v)(k:Zf b c v x):Zf a c u x:=
 ⟨zq.trans h.mod k.mod λj hj e=>(h.row j e).resolve_right (Nat.not_le.2 hj),λj e=>by
  rcases k.row j e with e|e
  ·exact h.row j e
  ·exact Or.inr (Nat.le_trans h.mod.size e)⟩
theorem zdt:∀m,m<256->m|||128=m % 128+128:=by decide
theorem Ul(k:Nat):bits .or .u8 ((k:Int)% 256) 128=(k:Int)% 128+128:=by
 have h1:(k:Int)% 256=((k % 256:Nat):Int):=by omega
 rw[h1];have:=(bits_nat .u8 8 (by decide) wraps_u8 (k % 256) 128 (by omega) (by decide)).2;rw[zdt _ (by omega)]at this;rw[show((128:Int))=((128:Nat):Int)from rfl,this];omega
variable{v5 xv:Value}{w5:World}
theorem gx{w:World}{l xs:Bytes}{x:UInt8}{T:TypeId}(SM:xs=[x])(hx:ql x=xv)(ho:w5.ownsRow 0 5 1 v5 (l.length+1) (l.map ql++[xv]))(hg:(w.alloc (.cells #[xv] T)).grownBy w5 v.ownBlock)
  (hf:∀b,v5.ownBlock=some b->v.ownBlock=some b\/w.heap.size+1<=b):Yu w5 v5 (l++xs)/\Zf w w5 v v5:=by
 subst SM;refine⟨?_,⟨?_,λb hb=> ?_⟩⟩
 ·unfold Yu;rw[List.map_append,List.length_append];show w5.ownsRow 0 _ 1 v5 (l.length+1) (l.map ql++[ql x]);rw[hx];exact ho
 ·have h0:za w (w.alloc (.cells #[xv] T)):=(za.refl w).alloc _;have h1:zq (λj=>v.ownBlock=some j) (w.alloc (.cells #[xv] T)) w5:=zq.of_grown hg;exact zq.trans (h0.mod _) h1 λ_ _ e=>e
 ·rcases hf b hb with e|e
  ·exact Or.inl e
  ·right;omega
variable{k:Nat}
theorem ug{w:World}{l:Bytes}(hk:k<128)(hl:l.length<=1000000)(Ha:Yu w v l):
  Calls prog 289 #[v,.int .u64 k] w λe w'=>∃v',e=.returned v'/\Yu w' v' (l++yZ k)/\Zf w w' v v':=by
 obtain⟨p,n,c,rfl⟩:=Ha.shape;have hv:yZ k=[UInt8.ofNat k]:=by unfold yZ;rw[if_pos hk]
 have hb:ql (UInt8.ofNat k)=.int .u8 k:=by show Value.int .u8 ((UInt8.ofNat k).toNat:Int)=_;rw[UInt8.toNat_ofNat',Nat.mod_eq_of_lt (by omega)]
 have lL:IntKind.u8.wrap (k:Int)=(k:Int):=by rw[IntKind.wrap_u8];omega
 have Hb: ¬(128:Int)<=(k:Int):=by omega
 have Px:=hid Ha;clear Ha;have HV:=hid hv;clear hv;have HB:=hid hb;clear hb;have mw:(l.length+1)*(1+1)<=140737488355328:=by omega
 go_enter func289,ntmps289;go_wp2;refine wp_loop_rounds 1 ?_;rw[rounds_succ];go_wp2_with (at_builtin;go_must (refine qM jA rfl rfl (World.ownsRow.alloc Px.out _) rfl rfl (news:=[.int .u8 k]) (Sl.made w [.int .u8 k] _ 1 1 rfl (by omega)) (by intro u hu;rw[List.mem_singleton]at hu;rw[hu];rfl) (by simpa using mw) ?_));intro v5 w5 ho hg hf;have HG:=hid (gx (HV.out) HB.out ho hg hf);clear ho hg hf;obtain⟨p5,n5,c5,rfl⟩:=HG.out.1.shape;go_wp2;go_returns;exact⟨_,rfl,HG.out⟩
theorem uh{w:World}{l:Bytes}(hk: ¬k<128)(se:k<16384)(hl:l.length<=1000000)(Ha:Yu w v l):
  Calls prog 289 #[v,.int .u64 k] w λe w'=>∃v',e=.returned v'/\Yu w' v' (l++yZ k)/\Zf w w' v v':=by
 obtain⟨p,n,c,rfl⟩:=Ha.shape;have hv:yZ k=[UInt8.ofNat (k % 128+128),UInt8.ofNat (k/128)]:=by unfold yZ;rw[if_neg hk]
 have Pb:ql (UInt8.ofNat (k % 128+128))=.int .u8 ((k:Int)% 128+128):=by show Value.int .u8 ((UInt8.ofNat (k % 128+128)).toNat:Int)=_;rw[UInt8.toNat_ofNat',Nat.mod_eq_of_lt (by omega)];simp
 have pw:ql (UInt8.ofNat (k/128))=.int .u8 ((k:Int)/128):=by show Value.int .u8 ((UInt8.ofNat (k/128)).toNat:Int)=_;rw[UInt8.toNat_ofNat',Nat.mod_eq_of_lt (by omega)];simp
 have BV:=Ul k;have pD:(128:Int)<=(k:Int):=by omega
 have oE: ¬(128:Int)<=(k:Int)/128:=by omega
 have Px:=hid Ha;clear Ha;have HV:=hid hv;clear hv;have Rq:=hid Pb;clear Pb;have SB:=hid pw;clear pw;have mw:(l.length+1)*(1+1)<=140737488355328:=by omega
 go_enter func289,ntmps289;go_wp2;refine wp_loop_rounds 2 ?_;rw[rounds_succ];go_wp2_with (at_builtin;go_must (refine qM jA rfl rfl (World.ownsRow.alloc Px.out _) rfl rfl (news:=[.int .u8 ((k:Int)% 128+128)]) (Sl.made w [.int .u8 ((k:Int)% 128+128)] _ 1 1 rfl (by omega)) (by intro u hu;rw[List.mem_singleton]at hu;rw[hu];rfl) (by simpa using mw) ?_));intro v5 w5 ho hg hf;obtain⟨g1,g2⟩:=gx (xs:=[UInt8.ofNat (k % 128+128)]) rfl Rq.out ho hg hf;obtain⟨p5,n5,c5,rfl⟩:=g1.shape;have G1:=hid g1;have G2:=hid g2;clear g1 g2 ho hg hf;go_wp2;rw[rounds_succ];go_wp2_with (at_builtin;go_must (refine qM jA rfl rfl (World.ownsRow.alloc G1.out _) rfl rfl (news:=[.int .u8 ((k:Int)/128)]) (Sl.made w5 [.int .u8 ((k:Int)/128)] _ 1 1 rfl (by omega)) (by intro u hu;rw[List.mem_singleton]at hu;rw[hu];rfl) (by simp;omega) ?_));intro v6 w6 ho hg hf
 have N8:w6.ownsRow 0 5 1 v6 ((l++[UInt8.ofNat (k % 128+128)]).length+1) ((l++[UInt8.ofNat (k % 128+128)]).map ql++[.int .u8 ((k:Int)/128)]):=by simpa using ho
 obtain⟨g3,g4⟩:=gx (xs:=[UInt8.ofNat (k/128)]) rfl SB.out N8 hg hf;obtain⟨p6,n6,c6,rfl⟩:=g3.shape;have G3:=hid g3;have G4:=hid (G2.out.trans g4);clear g3 g4 ho hg hf;go_wp2;go_returns;exact⟨_,rfl,by rw[HV.out];simpa using G3.out,G4.out⟩
theorem ZJ{w:World}{l:Bytes}(hk:k<16384)(hl:l.length<=1000000)(Ha:Yu w v l):
  Calls prog 289 #[v,.int .u64 k] w λe w'=>∃v',e=.returned v'/\Yu w' v' (l++yZ k)/\Zf w w' v v':=by
 by_cases h:k<128
 ·exact ug h hl Ha
 ·exact uh h hk hl Ha
def Gq(v xv:Value):Prop:=∀b,xv.ownBlock=some b->v.ownBlock≠some b
variable{r:Rd}
theorem Bs.at{x:Bytes}(h:Bs r x xv)(h0:x≠[]):∃b o n c,xv=.slice (some ⟨b,o,none⟩) n c/\x.length=n/\∃u,r ⟨b,o,none⟩=some u:=by
 obtain⟨p,n,c,rfl,hl,hn,hc,hp,h5⟩:=h;rcases h5 with h5|⟨b,o,rfl,Hc⟩
 ·exact absurd (List.eq_nil_of_length_eq_zero (by omega)) h0
 ·have h1:0<x.length:=by
   cases x with
   |nil=>exact absurd rfl h0
   |cons a l=>simp
  exact⟨b,o,n,c,rfl,hl,_,by simpa using Hc 0 h1⟩
variable{w':World}
theorem Zf.bs{w:World}{v':Value}{x:Bytes}(h:Zf w w' v v')(hx:Bs w.cell? x xv)(h0:x≠[])(ha:Gq v xv):Bs w'.cell? x xv/\Gq v' xv:=by
 have h1:Bs (im (λj=>v.ownBlock=some j) w) x xv:=hx.im_of λb hb e=>ha b hb e;refine⟨(h1.mono (h.mod.im (S':=λj=>v.ownBlock=some j) (S:=λj=>v.ownBlock=some j) λ_ _ e=>e)).mono (zd _ _),λb hb e=> ?_⟩;obtain⟨b',o,n,c,rfl,_,u,hu⟩:=hx.at h0;have Rz:b'=b:=by simpa[Value.ownBlock]using hb
 subst Rz;rcases h.row _ e with e|e
 ·exact ha _ hb e
 ·have:=World.block_lt_of_cell? w _ hu;simp at this;omega
theorem or2:∀f,f<16->(f*8)|||2=f*8+2:=by decide
theorem Wm{f:Nat}(hf:f<16):bits .or .u64 ((f:Int)*8) 2=(f:Int)*8+2:=by have:=bits_or_u64_nat (f*8) 2 (by omega) (by omega);rw[or2 f hf]at this;rw[show((f:Int)*8)=((f*8:Nat):Int) by omega,show(2:Int)=((2:Nat):Int)from rfl,this];omega
theorem Gr{w:World}{l:Bytes}{f:Nat}(hf:f<16)(tP:0<k)(hk:k<128)(hl:l.length<=900000)(Ha:Yu w v l):
  Calls prog 286 #[v,.int .i64 f,.int .i64 k] w λe w'=>∃v',e=.returned v'/\Yu w' v' (l++(jl.I f k).enc)/\Zf w w' v v':=by
 have h1:=ZJ (k:=f*8) (by omega) (by omega) Ha;have h2:∀W u,Yu W u (l++yZ (f*8))->Calls prog 289 #[u,.int .u64 k] W λe w'=>∃v',e=.returned v'/\Yu w' v' ((l++yZ (f*8))++yZ k)/\Zf W w' u v':=λW u h=>ZJ (by omega) (by have:=(vh (f*8)).2;rw[List.length_append];omega) h;rw[show((f*8:Nat):Int)=(f:Int)*8 by omega]at h1;have H1:=hid h1;clear h1;have H2:=hid h2;clear h2;obtain⟨p,n,c,rfl⟩:=Ha.shape;have hfz:((k:Int)==0)=false:=by simp;omega
 have wN:(0:Int)<=f:=by omega
 have NV:(f:Int)<=15:=by omega
 have rh:(0:Int)<=k:=by omega
 have se:(k:Int)<=127:=by omega
 clear Ha;go_enter func286,ntmps286;go_wp2_with fail;refine H1.out.mono ?_;rintro e w1 ⟨v1,rfl,g1,g2⟩;obtain⟨p1,n1,c1,rfl⟩:=g1.shape;have HH:=hid (H2.out _ _ g1);have G2:=hid g2;clear g1 g2;go_wp2_with fail;refine HH.out.mono ?_;rintro e w2 ⟨v2,rfl,g3,g4⟩;obtain⟨p2,n2,c2,rfl⟩:=g3.shape;have G3:=hid g3;have G4:=hid (G2.out.trans g4);clear g3 g4;go_wp2;go_returns;exact⟨_,rfl,by have:=G3.out;rw[List.append_assoc]at this;exact this,G4.out⟩
theorem QS{w:World}{l x:Bytes}{f:Nat}(hf:f<16)(TN:x≠[])(RQ:x.length<16384)(hl:l.length<=900000)(Ha:Yu w v l)(hx:Bs w.cell? x xv)(ha:Gq v xv):
  Calls prog 287 #[v,.int .i64 f,xv] w λe w'=>∃v',e=.returned v'/\Yu w' v' (l++(jl.B f x).enc)/\Zf w w' v v':=by
 have h1:=ZJ (k:=f*8+2) (by omega) (by omega) Ha;have AW:(l++yZ (f*8+2)).length<=900002:=by have:=(vh (f*8+2)).2;rw[List.length_append];omega
 have h2:∀W u,Yu W u (l++yZ (f*8+2))->Calls prog 289 #[u,.int .u64 x.length] W λe w'=>∃v',e=.returned v'/\Yu w' v' ((l++yZ (f*8+2))++yZ x.length)/\Zf W w' u v':=λW u h=>ZJ (by omega) (by omega) h;have BV:=Wm hf;rw[show((f*8+2:Nat):Int)=(f:Int)*8+2 by omega]at h1;have H1:=hid h1;clear h1;have H2:=hid h2;clear h2;have HX:=hid (And.intro hx ha);have bU:=hid TN;obtain⟨p,n,c,rfl⟩:=Ha.shape;obtain⟨xb,xo,xn,xc,rfl,hxn,_⟩:=hx.at TN;subst hxn;have wN:(0:Int)<=f:=by omega
 have NV:(f:Int)<=15:=by omega
 have pB:(0:Int)<=x.length:=by omega
 have rU:(x.length:Int)<=16383:=by omega
 have H7:Hid ((l++yZ (f*8+2)++yZ x.length).length<=900004):=hid (by have:=(vh x.length).2;rw[List.length_append];omega);clear Ha hx ha TN AW;go_enter func287,ntmps287;go_wp2_with fail;refine H1.out.mono ?_;rintro e w1 ⟨v1,rfl,g1,g2⟩;obtain⟨p1,n1,c1,rfl⟩:=g1.shape;have HH:=hid (H2.out _ _ g1);have SF:=hid (g2.bs HX.out.1 bU.out HX.out.2);have G2:=hid g2;clear g1 g2 H1 H2;go_wp2_with fail;refine HH.out.mono ?_;rintro e w2 ⟨v2,rfl,g3,g4⟩;obtain⟨p2,n2,c2,rfl⟩:=g3.shape;have MQ:=hid (g4.bs SF.out.1 bU.out SF.out.2);have G3:=hid g3;have G4:=hid (G2.out.trans g4);clear g3 g4 HH SF;have mw:(((l++yZ (f*8+2)++yZ x.length).map ql).length+(x.map ql).length)*(1+1)<=140737488355328:=by have:=H7.out;rw[List.length_map,List.length_map];omega
 go_wp2_with (at_builtin;go_must (refine qM jA rfl rfl G3.out rfl rfl (news:=x.map ql) MQ.out.1.sl (jF x) mw ?_));intro v5 w5 ho hg PU;have G5:Hid (Yu w5 v5 ((l++yZ (f*8+2)++yZ x.length)++x)/\Zf w2 w5 (.slice p2 n2 c2) v5):=hid ⟨by unfold Yu;rw[List.map_append,List.length_append];simpa using ho,zq.of_grown hg|>.mono λ_ _ e=>e,λb hb=>by rcases PU b hb with e|e;exact Or.inl e;exact Or.inr e⟩;obtain⟨p5,n5,c5,rfl⟩:=G5.out.1.shape;clear ho hg PU mw;go_wp2;go_returns;exact⟨_,rfl,by have:=G5.out.1;simp only[List.append_assoc]at this;exact this,G4.out.trans G5.out.2⟩
variable{rest:Bytes}
theorem uj{l:Bytes}(h:Bs r (l++rest) v):
  ∃v',(∀W,(Instr.slice 75 v (some (.int .i64 l.length)) none none).run prog W=.ok v' W)/\Bs r rest v':=by
 obtain⟨v',h1,h2⟩:=k6 jA h.sl l.length (by simp);refine⟨v',h1,Bs.of_sl ?_⟩;have:((l++rest).map ql).drop (l.length*1)=rest.map ql:=by simp
 rw[this]at h2;exact h2
variable{b c n:Nat}
theorem Bs.cellAt{l:Bytes}{o:Nat}(h:Bs r l (.slice (some ⟨b,o,none⟩) n c))(i:Nat)(hi:i<l.length):r ⟨b,o+i,none⟩=some (ql l[i]):=by
 obtain⟨p,n',c',e,hl,hn,hc,hp,h5⟩:=h;simp only[Value.slice.injEq]at e;obtain⟨rfl,rfl,rfl⟩:=e;rcases h5 with h5|⟨b',o',e,Hc⟩
 ·omega
 ·simp only[Option.some.injEq,Addr.mk.injEq]at e;obtain⟨rfl,rfl,_⟩:=e;exact Hc i hi
theorem zct:∀m,m<256->m &&& 127=m % 128:=by decide
theorem Qn(k:Nat)(hk:k<256):bits .and .u8 k 127=((k % 128:Nat):Int):=by have:=(bits_nat .u8 8 (by decide) wraps_u8 k 127 (by omega) (by decide)).1;rw[zct _ hk]at this;rw[<-this];rfl
theorem gy{w:World}(hr:r.le w.cell?)(hk:k<128)(h:Bs r (yZ k++rest) v):
  Calls prog 307 #[v] w λe w'=>∃v' m,e=.returned (.tuple #[.int .u64 k,v',.bool true])/\w'=w.drewN m/\Bs r rest v':=by
 have hv:yZ k=[UInt8.ofNat k]:=by unfold yZ;rw[if_pos hk]
 rw[hv]at h;obtain⟨v',pW,Ry⟩:=uj h;obtain⟨b,o,n,c,rfl,hn,_⟩:=h.at (by simp);have Ra:=(h.mono hr).cellAt 0 (by simp);have Pb:ql (UInt8.ofNat k)=.int .u8 k:=by show Value.int .u8 ((UInt8.ofNat k).toNat:Int)=_;rw[UInt8.toNat_ofNat',Nat.mod_eq_of_lt (by omega)]
 have r8:w.cell? ⟨b,o,none⟩=some (.int .u8 k):=by rw[<-Pb];simpa using Ra
 have hQ:1<=n:=by rw[<-hn];simp
 have wO:=Qn k (by omega);rw[Nat.mod_eq_of_lt hk]at wO;have pW:∀W,(Instr.slice 75 (.slice (some ⟨b,o,none⟩) n c) (some (.int .i64 1)) none none).run prog W=.ok v' W:=pW;have Ni:=hid pW;have HB:=hid Ry;clear h Ra Ry hv hn;go_enter func307,ntmps307;go_wp2;refine wp_loop_rounds 1 ?_;rw[rounds_succ];go_wp2_with fail
 ·have BV:bits .or .u64 0 (k:Int)=k:=by
   have:=bits_or_u64_nat 0 k (by decide) (by omega);rw[Nat.zero_or]at this;exact this
  rw[BV];go_quiet (fail);go_wp2;go_returns;exact⟨_,_,rfl,rfl,HB.out⟩
theorem gz{w:World}(hr:r.le w.cell?)(hk: ¬k<128)(se:k<16384)(h:Bs r (yZ k++rest) v):
  Calls prog 307 #[v] w λe w'=>∃v' m,e=.returned (.tuple #[.int .u64 k,v',.bool true])/\w'=w.drewN m/\Bs r rest v':=by
 have hv:yZ k=[UInt8.ofNat (k % 128+128),UInt8.ofNat (k/128)]:=by unfold yZ;rw[if_neg hk]
 rw[hv]at h;obtain⟨v',pW,Ry⟩:=uj h;obtain⟨b,o,n,c,rfl,hn,_⟩:=h.at (by simp);have Ra:=(h.mono hr).cellAt 0 (by simp);have r8:=(h.mono hr).cellAt 1 (by simp);have Pb:ql (UInt8.ofNat (k % 128+128))=.int .u8 ((k:Int)% 128+128):=by show Value.int .u8 ((UInt8.ofNat (k % 128+128)).toNat:Int)=_;rw[UInt8.toNat_ofNat',Nat.mod_eq_of_lt (by omega)];simp
 have pw:ql (UInt8.ofNat (k/128))=.int .u8 ((k:Int)/128):=by show Value.int .u8 ((UInt8.ofNat (k/128)).toNat:Int)=_;rw[UInt8.toNat_ofNat',Nat.mod_eq_of_lt (by omega)];simp
 have Ra:w.cell? ⟨b,o,none⟩=some (.int .u8 ((k:Int)% 128+128)):=by rw[<-Pb];simpa using Ra
 have r8:w.cell? ⟨b,o+1,none⟩=some (.int .u8 ((k:Int)/128)):=by rw[<-pw];simpa using r8
 have hQ:2<=n:=by rw[<-hn];simp
 have wO:bits .and .u8 ((k:Int)% 128+128) 127=(k:Int)% 128:=by have:=Qn (k % 128+128) (by omega);rw[show((k:Int)% 128+128)=((k % 128+128:Nat):Int) by omega,this];omega
 have hb8:bits .and .u8 ((k:Int)/128) 127=(k:Int)/128:=by have:=Qn (k/128) (by omega);rw[show((k:Int)/128)=((k/128:Nat):Int) by omega,this];omega
 have hfA:bits .or .u64 0 ((k:Int)% 128)=(k:Int)% 128:=by have:=bits_or_u64_nat 0 (k % 128) (by decide) (by omega);rw[Nat.zero_or]at this;rw[show((k:Int)% 128)=((k % 128:Nat):Int) by omega];exact this
 have BV:bits .or .u64 ((k:Int)% 128) ((k:Int)/128*128)=k:=by
  have:=bits_or_u64_nat (k % 128) (k/128*128) (by omega) (by omega);have h2:(k % 128)|||(k/128*128)=k:=by
   have:=Nat.two_pow_add_eq_or_of_lt (i:=7) (b:=k % 128) (Nat.mod_lt _ (by decide)) (k/128);rw[Nat.or_comm,Nat.mul_comm];rw[show(128:Nat)=2 ^ 7 from rfl]at*
   rw[<-this];omega
  rw[h2]at this;rw[show((k:Int)% 128)=((k % 128:Nat):Int) by omega,show((k:Int)/128*128)=((k/128*128:Nat):Int) by omega,this]
 have pW:∀W,(Instr.slice 75 (.slice (some ⟨b,o,none⟩) n c) (some (.int .i64 2)) none none).run prog W=.ok v' W:=pW;have pD:(128:Int)<=(k:Int)% 128+128:=by omega
 have oE: ¬(128:Int)<=(k:Int)/128:=by omega
 have Ni:=hid pW;have HB:=hid Ry;clear h Ry hv hn;go_enter func307,ntmps307;go_wp2;refine wp_loop_rounds 2 ?_;rw[rounds_succ];go_wp2_with fail;rw[rounds_succ];go_wp2_with fail
 ·go_quiet (fail);go_wp2;go_returns;exact⟨_,_,rfl,rfl,HB.out⟩
theorem xR{w:World}(hr:r.le w.cell?)(hk:k<16384)(h:Bs r (yZ k++rest) v):
  Calls prog 307 #[v] w λe w'=>∃v' m,e=.returned (.tuple #[.int .u64 k,v',.bool true])/\w'=w.drewN m/\Bs r rest v':=by
 by_cases h1:k<128
 ·exact gy hr h1 h
 ·exact gz hr h1 hk h
variable{P:Program}{bytes sz:Nat}{e:TypeId}
theorem Zg{w:World}{ops:Array Oper}{o:Oper}{a:Act}{K:Act->World->Prop}{Q:Exit->Act->World->Prop}{EE:Prop}{t:TypeId}{z:Value}
  (E:yy P t e z sz bytes)(Tc:o.guard=none){s x:Operand}(ho:o.op=.call {callee:=.builtin .append,args:= #[s,x],argTypes:= #[t,t]})
  {v:Value}{n:Nat}{xs:List Value}(Ha:w.ownsRow 0 e sz v n xs)(hs:a.eval s=v)
  {ad:Addr}{m c:Nat}{news:List Value}(hx:a.eval x=.slice (some ad) m c)(rq:Sl w.cell? sz news (.slice (some ad) m c))(h1:∀u∈news,u.oneCell'=true)
  (PM:(xs.length+news.length)*(bytes+1)<=140737488355328)
  (h:∀v' w',w'.ownsRow 0 e sz v' (n+m) (xs++news)->w.grownBy w' v.ownBlock->(∀b,v'.ownBlock=some b->v.ownBlock=some b\/w.heap.size<=b)->K (a.put o.dst v') w'):
  if Region.wanted o (yielded ops a.tmps)=true then Oper.wp P o a w K Q else EE:=by
 have hw:Region.wanted o (yielded ops a.tmps)=true:=by simp[Region.wanted,Tc]
 rw[if_pos hw];obtain⟨i,hi,hz,pL,TF⟩:=info_parts E.info;obtain⟨p,m',c',e0,hl,CI,hc,NL,H_⟩:=rq;simp only[Value.slice.injEq]at e0;obtain⟨rfl,rfl,rfl⟩:=e0;have mh:xs.length=n*sz:=Ha.1;have s_:=E.pos;have RE:n<=xs.length:=by rw[mh];exact Nat.le_mul_of_pos_right _ s_
 have ax:m<=news.length:=by rw[hl];exact Nat.le_mul_of_pos_right _ s_
 have mX:n+m<=maxLen:=by have:(xs.length+news.length)*1<=(xs.length+news.length)*(bytes+1):=Nat.mul_le_mul_left _ (by omega);simp only[maxLen];omega
 have pw:(n+m)*bytes<=140737488355328:=Nat.le_trans (Nat.mul_le_mul (by omega) (by omega)) PM;have pq:∀j u,news[j]? =some u->w.cell? (ad.add j)=some u:=by
  intro j u hj;rcases H_ with Ra|⟨b,o',hp,Hc⟩
  ·subst Ra;simp at hj
  ·simp only[Option.some.injEq]at hp;subst hp;have rC:j<news.length:=(List.getElem?_eq_some_iff.1 hj).1;have e1:(⟨b,o',none⟩:Addr).add j=⟨b,o'+j,none⟩:=by unfold Addr.add;split<;>simp_all
   rw[e1,Hc j rC,<-hj,List.getElem?_eq_getElem rC]
 obtain⟨v',w',hr,h2,h3,_⟩:=run_append_own (P:=P) w 0 t o.type e i z sz bytes E.under hi hz pL TF E.zs E.pos v n xs Ha ad m c news hl pq h1 mX pw (Nat.zero_le _);have PA:=Xo E Ha hl pq h1 mX pw hr;unfold Oper.wp execOp;simp only[ho,resolve,invoke,builtin,Sem.run_bind,Sem.run_pure,Result.andThen_ok,List.map_toArray,List.map_cons,List.map_nil,hs,hx,hr];exact h v' w' h2 h3 PA
theorem zdu:∀f,f<16->(f*8+2) &&& 7=2/\(f*8) &&& 7=0:=by decide
theorem XD{f:Nat}(hf:f<16):bits .and .u64 ((f:Int)*8+2) 7=2/\bits .and .u64 ((f:Int)*8) 7=0:=by have h1:=bits_and_u64_nat (f*8+2) 7 (by omega) (by decide);have h2:=bits_and_u64_nat (f*8) 7 (by omega) (by decide);rw[(zdu f hf).1]at h1;rw[(zdu f hf).2]at h2;exact⟨by rw[show((f:Int)*8+2)=((f*8+2:Nat):Int) by omega];exact h1,by rw[show((f:Int)*8)=((f*8:Nat):Int) by omega];exact h2⟩
theorem Bs.head{x:Bytes}{p:Option Addr}(h:Bs r (x++rest) (.slice p n c)):Bs r x (.slice p x.length c)/\x.length<=c:=by
 have hn:x.length<=n:=by obtain⟨_,_,_,e,hl,_⟩:=h;simp only[Value.slice.injEq]at e;obtain⟨_,rfl,_⟩:=e;rw[<-hl,List.length_append];omega
 have h1:=h.sl.part 0 x.length (Nat.zero_le _) hn;have e1:(((x++rest).map ql).take (x.length*1)).drop (0*1)=x.map ql:=by rw[List.map_append,Nat.mul_one,List.take_left' (by simp)];rfl
 rw[e1]at h1;have e2:(if c=0 then p else p.map (·.add (0*1)))=p:=by
  split
  ·rfl
  ·cases p with
   |none=>rfl
   |some a=>simp[Addr.add]
 rw[e2,Nat.sub_zero,Nat.sub_zero]at h1;refine⟨Bs.of_sl h1,?_⟩;obtain⟨_,_,_,e,_,q1,_⟩:=h;simp only[Value.slice.injEq]at e;obtain⟨_,rfl,rfl⟩:=e;omega
theorem Bs.tail{x:Bytes}{o:Nat}(h:Bs r (x++rest) (.slice (some ⟨b,o,none⟩) n c)):Bs r rest (.slice (if c=x.length then some ⟨b,o,none⟩else some ⟨b,o+x.length,none⟩) (n-x.length) (c-x.length)):=by
 have hn:n=(x++rest).length:=by obtain⟨_,_,_,e,hl,_⟩:=h;simp only[Value.slice.injEq]at e;obtain⟨_,rfl,_⟩:=e;exact hl.symm
 have h1:=h.sl.part x.length n (by rw[hn,List.length_append];omega) (Nat.le_refl _);have e1:(((x++rest).map ql).take (n*1)).drop (x.length*1)=rest.map ql:=by rw[hn,Nat.mul_one,Nat.mul_one,List.take_of_length_le (by simp),List.map_append,List.drop_left' (by simp)]
 rw[e1]at h1;have e2:(if c=x.length then some (⟨b,o,none⟩:Addr)else (some (⟨b,o,none⟩:Addr)).map (·.add (x.length*1)))=(if c=x.length then some ⟨b,o,none⟩else some ⟨b,o+x.length,none⟩):=by
  split
  ·rfl
  ·simp only[Option.map_some,Nat.mul_one,Option.some.injEq,Addr.add];split<;>simp_all
 rw[e2]at h1;exact Bs.of_sl h1
variable{W:World}
theorem Wn{w:World}{o:Obj}{cs:Obj}(h:W.heap[w.heap.size]? =some cs/\W.heap.size=w.heap.size+1)(hg:(W.alloc o).drew.grownBy w5 (some W.heap.size)):w5.heap[w.heap.size]? =some cs:=by have hm:=zq.of_grown hg;have e1:(W.alloc o).drew.heap=W.heap.push o:=rfl;have h2:=h.2;rw[hm.block _ (by rw[e1,Array.size_push];omega) (by simp only[Option.some.injEq];omega),e1,Array.getElem?_push_lt (by omega),<-h.1,Array.getElem?_eq_getElem]
theorem kX{w:World}{T:Nat}{x y z u:Value}(h:w.heap[b]? =some (.cells #[x,y,z,u] T (0,0))):
  w.cell? ⟨b,0,none⟩=some x/\w.cell? ⟨b,1,none⟩=some y/\w.cell? ⟨b,2,none⟩=some z/\w.cell? ⟨b,3,none⟩=some u/\w.frozen? ⟨b,0,none⟩=false/\w.frozen? ⟨b,1,none⟩=false/\w.frozen? ⟨b,2,none⟩=false/\w.frozen? ⟨b,3,none⟩=false:=
 ⟨by rw[cell_of_row w b 0 _ _ (0,0) h];rfl,by rw[cell_of_row w b 1 _ _ (0,0) h];rfl,by rw[cell_of_row w b 2 _ _ (0,0) h];rfl,by rw[cell_of_row w b 3 _ _ (0,0) h];rfl,by simp[World.frozen?,h],by simp[World.frozen?,h],by simp[World.frozen?,h],by simp[World.frozen?,h]⟩
theorem Wo{w:World}{o:Obj}{x:Bytes}(hN:za w W)(hs:W.heap.size=w.heap.size+1)(ho:w5.ownsRow 0 5 1 v5 (0+x.length) ([]++x.map ql))
  (hg:(W.alloc o).drew.grownBy w5 (Value.slice (some ⟨W.heap.size,0,none⟩) 0 0).ownBlock)(hf:∀b,v5.ownBlock=some b->(Value.slice (some ⟨W.heap.size,0,none⟩) 0 0).ownBlock=some b\/(W.alloc o).drew.heap.size<=b):
  ∀w',zq (λj=>j=w.heap.size) w5 w'->za w w'/\Bs w'.cell? x v5/\(∀b,v5.ownBlock=some b->w.heap.size<=b):=λw' hm=>by
 have pL:(W.alloc o).drew.heap.size=W.heap.size+1:=Array.size_push ..
 have h5:za w w5:=za.of_grown ((hN.alloc _).drew) hg (λk hk=>by simp only[Value.ownBlock,Option.some.injEq]at hk;omega);have Pw:∀b,v5.ownBlock=some b->w.heap.size<b:=λb hb=>by
  rcases hf b hb with e|e
  ·simp only[Value.ownBlock,Option.some.injEq]at e;omega
  ·omega
 refine⟨zq.trans h5 hm (λj hj e=>by omega),?_,λb hb=>Nat.le_of_lt (Pw b hb)⟩;have hb:Bs w5.cell? x v5:=Bs.of_sl (by simpa using Sl.of_own ho);have h1:Bs (im (λj=>j=w.heap.size) w5) x v5:=hb.im_of λb hb e=>by have:=Pw b hb;omega
 exact(h1.mono (hm.im (S':=λj=>j=w.heap.size) λ_ _ e=>e)).mono (zd _ _)
theorem zcu{w:World}{T:Nat}{x y z u x' y' z' u':Value}(h:w.heap[b]? =some (.cells #[x,y,z,u] T (0,0)))
  (hw:w'=(((w.setCell ⟨b,0,none⟩ x').setCell ⟨b,1,none⟩ y').setCell ⟨b,2,none⟩ z').setCell ⟨b,3,none⟩ u'):w'.heap[b]? =some (.cells #[x',y',z',u'] T (0,0)):=by
 have h1:=heap_setCell_same w b 0 _ _ x' h;have h2:=heap_setCell_same _ b 1 _ _ y' h1;have h3:=heap_setCell_same _ b 2 _ _ z' h2;have h4:=heap_setCell_same _ b 3 _ _ u' h3;rw[hw];exact h4
theorem KS{w:World}{x' y' z' u':Value}(hw:w'=(((w.setCell ⟨b,0,none⟩ x').setCell ⟨b,1,none⟩ y').setCell ⟨b,2,none⟩ z').setCell ⟨b,3,none⟩ u'):zq (λj=>j=b) w w':=by rw[hw];have h0:=zq.refl (λj=>j=b) w;have h1:=h0.setCell (p:=⟨b,0,none⟩) (λ_=>rfl) x';have h2:=h1.setCell (p:=⟨b,1,none⟩) (λ_=>rfl) y';have h3:=h2.setCell (p:=⟨b,2,none⟩) (λ_=>rfl) z';exact h3.setCell (p:=⟨b,3,none⟩) (λ_=>rfl) u'
theorem zcv{w:World}{f:Nat}{x:Bytes}(hr:r.le w.cell?)(wN:0<f)(hf:f<16)(TN:x≠[])(RQ:x.length<16384)(h:Bs r ((jl.B f x).enc++rest) v):
  Calls prog 306 #[v,.int .i64 0] w λe w'=>∃bv v',e=.returned (.tuple #[.agg #[.int .i64 f,.bool true,.int .i64 0,bv],v',.bool true])/\za w w'/\Bs r rest v'/\Bs w'.cell? x bv/\(∀b,bv.ownBlock=some b->w.heap.size<=b):=by
 have h:Bs r (yZ (f*8+2)++(yZ x.length++(x++rest))) v:=by simpa[jl.enc,List.append_assoc]using h
 have H1:Hid (∀W,r.le W.cell? ->Calls prog 307 #[v] W λe w'=>∃v' m,e=.returned (.tuple #[.int .u64 ((f:Int)*8+2),v',.bool true])/\w'=W.drewN m/\Bs r (yZ x.length++(x++rest)) v'):=hid λW hW=>by have:=xR (w:=W) hW (k:=f*8+2) (by omega) h;rw[show((f*8+2:Nat):Int)=(f:Int)*8+2 by omega]at this;exact this
 have H2:Hid (∀W u,r.le W.cell? ->Bs r (yZ x.length++(x++rest)) u->Calls prog 307 #[u] W λe w'=>∃v' m,e=.returned (.tuple #[.int .u64 x.length,v',.bool true])/\w'=W.drewN m/\Bs r (x++rest) v'):=hid λW u hW hu=>xR hW RQ hu;have wO:=(XD hf).1;have pB:(0:Int)<=x.length:=by omega
 have rU:(x.length:Int)<=16383:=by omega
 have tY:0<x.length:=List.length_pos_iff.2 TN;obtain⟨p,n,c,rfl,_⟩:=h.shape;have hR:=hid hr;clear hr h;have bU:=hid TN;have oF:(0:Int)<f:=by omega
 have oG:(f:Int)<=15:=by omega
 have oz: ¬(536870911:Int)<f:=by omega
 have MS:((f:Int)==0)=false:=by simp;omega
 have RI:((f:Int)*8+2)/8=f:=by omega
 go_enter func306,ntmps306;go_wp2_with fail;refine(H1.out _ (hR.out.le_trans (za.le ((za.refl w).alloc _)))).mono ?_;rintro e w1 ⟨v1,m1,rfl,rfl,g1⟩;obtain⟨p1,n1,c1,rfl,_⟩:=g1.shape;have G1:=hid g1;clear g1;go_wp2_with fail;refine(H2.out _ _ (hR.out.le_trans (za.le (((za.refl w).alloc _).drewN _))) G1.out).mono ?_;rintro e w2 ⟨v2,m2,rfl,rfl,g2⟩;obtain⟨b2,o2,n2,c2,rfl,Hj,_⟩:=g2.at (by simp[TN]);obtain⟨guh,Nj⟩:=g2.head;have gul:=g2.tail;have hfB:n2<=9223372036854775807:=by obtain⟨_,_,_,e,_,q1,q2,_⟩:=g2;simp only[Value.slice.injEq]at e;obtain⟨_,rfl,rfl⟩:=e;omega
 have Hj:x.length<=n2:=by rw[<-Hj,List.length_append];omega
 have pq:IntKind.u64.wrap (n2:Int)=n2:=by rw[IntKind.wrap_u64];omega
 have My: ¬(n2:Int)<(x.length:Int):=by omega
 have B7:za w ((w.alloc (.cells #[.int .i64 0,.bool false,.int .i64 0,.slice none 0 0] 488)).drewN (m1+m2)):=((za.refl w).alloc _).drewN _;have R8:((w.alloc (.cells #[.int .i64 0,.bool false,.int .i64 0,.slice none 0 0] 488)).drewN (m1+m2)).heap[w.heap.size]? =some (.cells #[.int .i64 0,.bool false,.int .i64 0,.slice none 0 0] 488 (0,0)):=zg w _;have Tl:((w.alloc (.cells #[.int .i64 0,.bool false,.int .i64 0,.slice none 0 0] 488)).drewN (m1+m2)).heap.size=w.heap.size+1:=Array.size_push ..
 have hwf:IntKind.i64.wrap (f:Int)=f:=by rw[IntKind.wrap_i64];omega
 have GUH:=hid guh;have GUL:=hid gul;clear g2 guh gul;go_wp2;generalize(w.alloc (.cells #[.int .i64 0,.bool false,.int .i64 0,.slice none 0 0] 488)).drewN (m1+m2)=W at B7 R8 Tl⊢;have S_:=hid B7;have wP:=hid (And.intro R8 Tl);clear B7 R8 Tl;have SR:Hid ((([]:List Value).length+(x.map ql).length)*(1+1)<=140737488355328):=hid (by rw[List.length_map,List.length_nil];omega);go_region_law (refine Zg jA rfl rfl (s:=.tmp 87) (x:=.tmp 90) (Zb (vG (Nat.zero_le _) (zg W _))) rfl rfl (news:=x.map ql) (Bs.sl (Bs.mono (hR.out.le_trans (za.le ((S_.out.alloc _).drew))) GUH.out)) (jF x) SR.out ?_;intro v5 w5 ho hg PU;obtain⟨p5,n5,c5,rfl⟩:=(Sl.of_own ho).shape;have hZ:w5.heap[w.heap.size]? =some (.cells #[.int .i64 0,.bool false,.int .i64 0,.slice none 0 0] 488 (0,0)):=Wn wP.out hg;obtain⟨q0,q1,q2,q3,f0,f1,f2,f3⟩:=kX hZ;have HO:=hid ho;have HG:=hid hg;have HF:=hid PU;clear ho hg PU)
 have HE:=hid (Wo S_.out wP.out.2 HO.out HG.out HF.out);obtain⟨w6,Sc⟩:=zex ((((w5.setCell ⟨w.heap.size,0,none⟩ (.int .i64 f)).setCell ⟨w.heap.size,1,none⟩ (.bool true)).setCell ⟨w.heap.size,2,none⟩ (.int .i64 0)).setCell ⟨w.heap.size,3,none⟩ (.slice p5 n5 c5));rw[<-Sc];have Tb:=zcu hZ Sc;obtain⟨r0,r1,r2,r3,_⟩:=kX Tb;have Po:=hid (KS Sc);clear HO HG HF hZ Sc q0 q1 q2 q3 f0 f1 f2 f3 Tb;go_wp2
 all_goals first|(exfalso;omega)|skip
 all_goals(
  refine bodyPost_ret (by simp[results,results306,go_sem,r0,r1,r2,r3];try rfl) rfl ?_;refine⟨_,_,rfl,(HE.out _ Po.out).1,?_,(HE.out _ Po.out).2.1,(HE.out _ Po.out).2.2⟩;have hg9:=GUL.out
  simp_all)
section
variable{α:Type}(nm:α->Bytes)
def yO(l:List α)(x:α):List α:=l.take (zk (l.map nm) (nm x))++[x]++l.drop (zk (l.map nm) (nm x)+if zx (l.map nm) (nm x)then 1 else 0)
def yj(l:List α)(n:Bytes):List α:=if zx (l.map nm) n then l.take (zk (l.map nm) n)++l.drop (zk (l.map nm) n+1)else l
def qT(l:List α)(n:Bytes):Option α:=if zx (l.map nm) n then l[zk (l.map nm) n]? else none
theorem ZK(y:Bytes)(ns:List Bytes)(x:Bytes):zx (y::ns) x=if zt y x<0 then zx ns x else (y==x):=by
 unfold zx;rw[yQ];by_cases h:zt y x<0
 ·rw[if_pos h,if_pos h];rfl
 ·rw[if_neg h,if_neg h];simp
theorem j9(y:α)(l:List α)(x:α):yO nm (y::l) x=if zt (nm y) (nm x)<0 then y::yO nm l x else if nm y=nm x then x::l else x::y::l:=by
 unfold yO;rw[List.map_cons,yQ,ZK];by_cases h:zt (nm y) (nm x)<0
 ·simp only[if_pos h];rw[show zk (l.map nm) (nm x)+1+(if zx (l.map nm) (nm x)=true then 1 else 0)=(zk (l.map nm) (nm x)+(if zx (l.map nm) (nm x)=true then 1 else 0))+1 by omega];rfl
 ·simp only[if_neg h];by_cases e:nm y=nm x
  ·simp[e]
  ·simp[e]
theorem K0(y:α)(l:List α)(n:Bytes):yj nm (y::l) n=if zt (nm y) n<0 then y::yj nm l n else if nm y=n then l else y::l:=by
 unfold yj;rw[List.map_cons,yQ,ZK];by_cases h:zt (nm y) n<0
 ·simp only[if_pos h];by_cases f:zx (l.map nm) n=true
  ·rw[if_pos f,if_pos f];rfl
  ·rw[if_neg f,if_neg f]
 ·simp only[if_neg h];by_cases e:nm y=n
  ·simp[e]
  ·simp[e]
theorem j_(y:α)(l:List α)(n:Bytes):qT nm (y::l) n=if zt (nm y) n<0 then qT nm l n else if nm y=n then some y else none:=by
 unfold qT;rw[List.map_cons,yQ,ZK];by_cases h:zt (nm y) n<0
 ·simp only[if_pos h];rfl
 ·simp only[if_neg h];by_cases e:nm y=n
  ·simp[e]
  ·simp[e]
def zE(l:List α):Prop:=zM (l.map nm)
variable{nm}
theorem zE.tail{y:α}{l:List α}(h:zE nm (y::l)):zE nm l:=(List.pairwise_cons.1 h).2
theorem zE.head{y:α}{l:List α}(h:zE nm (y::l)){z:α}(hz:z∈l):zt (nm y) (nm z)<0:=(List.pairwise_cons.1 h).1 _ (List.mem_map.2 ⟨z,hz,rfl⟩)
theorem zE.cons{y:α}{l:List α}(h:zE nm l)(hy:∀z∈l,zt (nm y) (nm z)<0):zE nm (y::l):=List.pairwise_cons.2 ⟨λa ha=>by obtain⟨z,hz,rfl⟩:=List.mem_map.1 ha;exact hy z hz,h⟩
theorem ne_of_lt{a b:Bytes}(h:zt a b<0):a≠b:=λe=>by subst e;exact zI _ h
theorem qN:∀{l:List α} (_:zE nm l) {n:Bytes} {x:α},qT nm l n=some x↔x∈l/\nm x=n
 |[],_,n,x=>by simp[qT,zx]
 |y::l,h,n,x=>by
  rw[j_];by_cases h1:zt (nm y) n<0
  ·rw[if_pos h1,qN h.tail];constructor
   ·rintro⟨a,b⟩;exact⟨List.mem_cons_of_mem _ a,b⟩
   ·rintro⟨a,b⟩;rcases List.mem_cons.1 a with rfl|a
    ·exact absurd b (ne_of_lt h1)
    ·exact⟨a,b⟩
  ·rw[if_neg h1];by_cases e:nm y=n
   ·rw[if_pos e];constructor
    ·intro hx;cases hx;exact⟨List.mem_cons_self ..,e⟩
    ·rintro⟨a,b⟩;rcases List.mem_cons.1 a with rfl|a
     ·rfl
     ·exact absurd (e.trans b.symm) (ne_of_lt (h.head a))
   ·rw[if_neg e];refine⟨λhx=>(by cases hx),?_⟩;rintro⟨a,b⟩;rcases List.mem_cons.1 a with rfl|a
    ·exact absurd b e
    ·exact absurd (by rw[<-b];exact h.head a) h1
theorem Zi{l:List α}(h:zE nm l){n:Bytes}:qT nm l n=none↔∀x∈l,nm x≠n:=by
 constructor
 ·intro h0 x hx e;rw[(qN h).2 ⟨hx,e⟩]at h0;cases h0
 ·intro h0;cases hg:qT nm l n with
  |none=>rfl
  |some x=>exact absurd ((qN h).1 hg).2 (h0 x ((qN h).1 hg).1)
theorem qx:∀{l:List α} (_:zE nm l) {x y:α},y∈yO nm l x↔y=x\/y∈l/\nm y≠nm x
 |[],_,x,y=>by simp[yO]
 |z::l,h,x,y=>by
  rw[j9];by_cases h1:zt (nm z) (nm x)<0
  ·rw[if_pos h1,List.mem_cons,qx h.tail,List.mem_cons];constructor
   ·rintro(rfl|rfl|⟨a,b⟩)
    ·exact Or.inr ⟨Or.inl rfl,ne_of_lt h1⟩
    ·exact Or.inl rfl
    ·exact Or.inr ⟨Or.inr a,b⟩
   ·rintro(rfl|⟨rfl|a,b⟩)
    ·exact Or.inr (Or.inl rfl)
    ·exact Or.inl rfl
    ·exact Or.inr (Or.inr ⟨a,b⟩)
  ·rw[if_neg h1];have hl:∀y∈l,zt (nm x) (nm y)<0:=λy hy=>vu h1 (h.head hy);by_cases e:nm z=nm x
   ·rw[if_pos e,List.mem_cons,List.mem_cons];constructor
    ·rintro(rfl|a)
     ·exact Or.inl rfl
     ·exact Or.inr ⟨Or.inr a,(ne_of_lt (hl y a)).symm⟩
    ·rintro(rfl|⟨rfl|a,b⟩)
     ·exact Or.inl rfl
     ·exact absurd e b
     ·exact Or.inr a
   ·rw[if_neg e,List.mem_cons,List.mem_cons];constructor
    ·rintro(rfl|rfl|a)
     ·exact Or.inl rfl
     ·exact Or.inr ⟨Or.inl rfl,e⟩
     ·exact Or.inr ⟨Or.inr a,(ne_of_lt (hl y a)).symm⟩
    ·rintro(rfl|⟨rfl|a,b⟩)
     ·exact Or.inl rfl
     ·exact Or.inr (Or.inl rfl)
     ·exact Or.inr (Or.inr a)
theorem zE.put:∀{l:List α} (_:zE nm l) (x:α),zE nm (yO nm l x)
 |[],_,x=>by simp[yO,zE,zM]
 |z::l,h,x=>by
  rw[j9];by_cases h1:zt (nm z) (nm x)<0
  ·rw[if_pos h1];refine(h.tail.put x).cons λy hy=> ?_;rcases(qx h.tail).1 hy with rfl|⟨a,_⟩
   ·exact h1
   ·exact h.head a
  ·rw[if_neg h1];have hl:∀y∈l,zt (nm x) (nm y)<0:=λy hy=>vu h1 (h.head hy);by_cases e:nm z=nm x
   ·rw[if_pos e];exact h.tail.cons hl
   ·rw[if_neg e];refine h.cons λy hy=> ?_;rcases List.mem_cons.1 hy with rfl|hy
    ·rcases qI (nm x) (nm y)with c|c|c
     ·exact c
     ·exact absurd c.symm e
     ·exact absurd c h1
    ·exact hl y hy
theorem je:∀{l:List α} (_:zE nm l) {n:Bytes} {y:α},y∈yj nm l n↔y∈l/\nm y≠n
 |[],_,n,y=>by simp[yj]
 |z::l,h,n,y=>by
  rw[K0];by_cases h1:zt (nm z) n<0
  ·rw[if_pos h1,List.mem_cons,je h.tail,List.mem_cons];constructor
   ·rintro(rfl|⟨a,b⟩)
    ·exact⟨Or.inl rfl,ne_of_lt h1⟩
    ·exact⟨Or.inr a,b⟩
   ·rintro⟨rfl|a,b⟩
    ·exact Or.inl rfl
    ·exact Or.inr ⟨a,b⟩
  ·rw[if_neg h1];have hl:∀y∈l,zt n (nm y)<0:=λy hy=>vu h1 (h.head hy);by_cases e:nm z=n
   ·rw[if_pos e,List.mem_cons];constructor
    ·exact λa=>⟨Or.inr a,(ne_of_lt (hl y a)).symm⟩
    ·rintro⟨rfl|a,b⟩
     ·exact absurd e b
     ·exact a
   ·rw[if_neg e,List.mem_cons];constructor
    ·rintro(rfl|a)
     ·exact⟨Or.inl rfl,e⟩
     ·exact⟨Or.inr a,(ne_of_lt (hl y a)).symm⟩
    ·exact λa=>a.1
theorem zE.drop:∀{l:List α} (_:zE nm l) (n:Bytes),zE nm (yj nm l n)
 |[],_,n=>by simp[yj,zE,zM]
 |z::l,h,n=>by
  rw[K0];by_cases h1:zt (nm z) n<0
  ·rw[if_pos h1];exact(h.tail.drop n).cons λy hy=>h.head ((je h.tail).1 hy).1
  ·rw[if_neg h1];by_cases e:nm z=n
   ·rw[if_pos e];exact h.tail
   ·rw[if_neg e];exact h
theorem XJ{l:List α}(h:zE nm l)(x:α)(n:Bytes):qT nm (yO nm l x) n=if n=nm x then some x else qT nm l n:=by
 by_cases e:n=nm x
 ·rw[if_pos e];exact(qN (h.put x)).2 ⟨(qx h).2 (Or.inl rfl),e.symm⟩
 ·rw[if_neg e];cases hg:qT nm l n with
  |none=>
   refine(Zi (h.put x)).2 λy hy=> ?_;rcases(qx h).1 hy with rfl|⟨a,_⟩
   ·exact λe2=>e e2.symm
   ·exact(Zi h).1 hg y a
  |some y=>obtain⟨a,b⟩:=(qN h).1 hg;exact(qN (h.put x)).2 ⟨(qx h).2 (Or.inr ⟨a,by rw[b];exact e⟩),b⟩
theorem zE.ext:∀{l m:List α} (_:zE nm l) (_:zE nm m) (_:∀x,x∈l↔x∈m),l=m
 |[],[],_,_,_=>rfl
 |[],y::m,_,_,h=>by have:=(h y).2 (List.mem_cons_self ..);cases this
 |y::l,[],_,_,h=>by have:=(h y).1 (List.mem_cons_self ..);cases this
 |y::l,z::m,hl,hm,h=>by
  have e:y=z:=by
   rcases List.mem_cons.1 ((h y).1 (List.mem_cons_self ..))with a|a
   ·exact a
   ·rcases List.mem_cons.1 ((h z).2 (List.mem_cons_self ..))with b|b
    ·exact b.symm
    ·exact absurd (hl.head b) (yW (hm.head a))
  subst e;rw[zE.ext hl.tail hm.tail λx=> ?_];constructor
  ·intro a;rcases List.mem_cons.1 ((h x).1 (List.mem_cons_of_mem _ a))with b|b
   ·subst b;exact absurd (hl.head a) (zI _)
   ·exact b
  ·intro a;rcases List.mem_cons.1 ((h x).2 (List.mem_cons_of_mem _ a))with b|b
   ·subst b;exact absurd (hm.head a) (zI _)
   ·exact b
end
section
variable{α:Type}{nm en:α->Bytes}
def VT(nm en:α->Bytes)(l:List α):yr:=l.map λx=>(nm x,en x)
theorem YR(l:List α):zJ (VT nm en l)=l.map nm:=by unfold zJ VT;rw[List.map_map];rfl
theorem gE(l:List α)(x:α):yh (VT nm en l) (nm x) (en x)=VT nm en (yO nm l x):=by unfold yh yO;rw[YR];simp only[VT,List.map_append,List.map_take,List.map_drop,List.map_cons,List.map_nil]
theorem uq(l:List α)(n:Bytes):jp (VT nm en l) n=VT nm en (yj nm l n):=by
 unfold jp yj;rw[YR];by_cases h:zx (l.map nm) n=true
 ·rw[if_pos h,if_pos h];simp only[VT,List.map_append,List.map_take,List.map_drop]
 ·rw[if_neg h,if_neg h]
theorem gF(l:List α)(n:Bytes):qX (VT nm en l) n=(qT nm l n).map en:=by
 unfold qX qT;rw[YR];by_cases h:zx (l.map nm) n=true
 ·rw[if_pos h,if_pos h];unfold VT;rw[List.getElem?_map,Option.map_map];rfl
 ·rw[if_neg h,if_neg h];rfl
end
end Go.Proofs.YtbmdoinjkligiaaGreat
