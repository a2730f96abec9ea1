/- Contracts and laws that the last text joins. -/
import Derived.Sort.Walk0
import Derived.Deep.RegionHeld3
import Derived.Test.YtbmdoinjkligiaaGreatM12
set_option maxRecDepth 100000
set_option maxHeartbeats 40000000
set_option linter.all false
namespace Go.Proofs.YtbmdoinjkligiaaGreat
open Tryz
open Lib(hid)
open Go.RowKit
def xX(l:zu)(W:World)(r:Value)(ps:List zh):Prop:=
 ∃q s1 i1 s2 i2 F1 F2,r=ptr q/\im l.some W ⟨q,0,none⟩=some (.iface 280 (ptr i1))/\im l.some W ⟨q,1,none⟩=some (.iface 280 (ptr i2))/\q_ (im l.some W) W F1 s1 i1 (qu ps 0).reverse/\q_ (im l.some W) W F2 s2 i2 (qu ps 1).reverse/\(∀j,F1 j->l j=13)/\(∀j,F2 j->l j=13)
variable{W W':World}{l l':zu}
theorem xX.keep{r:Value}{ps:List zh}(h:xX l W r ps)(hle:(im l.some W).le (im l'.some W'))(hk:∀j,l j=13->l' j=13/\W'.heap[j]? =W.heap[j]?):xX l' W' r ps:=by obtain⟨q,s1,i1,s2,i2,F1,F2,h1,h2,h3,h4,h5,h6,h7⟩:=h;exact⟨q,s1,i1,s2,i2,F1,F2,h1,hle _ _ h2,hle _ _ h3,h4.frame (λj e=>(hk j (h6 j e)).2) hle,h5.frame (λj e=>(hk j (h7 j e)).2) hle,λj e=>(hk j (h6 j e)).1,λj e=>(hk j (h7 j e)).1⟩
structure jU(l:zu)(W:World)(m:Nat)(us:List zj)(rs:List zm):Prop where
 lab:l m=15
 ex:∃es:List (Wz×Value),zD Gv W m es/\es.length<=us.length/\(∀n v,jt es n=some v->∃u∈us,u.name=n.1/\xX l W v (permsOf rs u.roles))/\∀u∈us,∀n:Wz,n.1=u.name->∃v,jt es n=some v
variable{rs:List zm}
theorem jU.keep{m:Nat}{us:List zj}(h:jU l W m us rs)(hle:(im l.some W).le (im l'.some W'))(hk:∀j,l j=13\/l j=15->l' j=l j/\W'.heap[j]? =W.heap[j]?):jU l' W' m us rs:=by obtain⟨h0,es,h1,h2,h3,h4⟩:=h;refine⟨by rw[(hk m (Or.inr h0)).1,h0],es,h1.frame (hk m (Or.inr h0)).2,h2,λn v e=> ?_,h4⟩;obtain⟨u,a,b,c⟩:=h3 n v e;exact⟨u,a,b,c.keep hle λj e=>by have:=hk j (Or.inl e);exact⟨by rw[this.1,e],this.2⟩⟩
structure zr(l:zu)(w:World)(l':zu)(w':World):Prop where
 mod:zo (λj=>l j≠0/\l j<=12) w w'
 old:∀b,b<w.heap.size->l' b=l b
 bnd:∀b,l' b≠0->b<w'.heap.size
variable{w':World}
theorem zr.le{w:World}(h:zr l w l' w'):(im l.some w).le (im l'.some w'):=
 (h.mod.mono (S':=l.some) λj _ e=>e.1).im λb hb e=>by show l b≠0;rw[<-h.old b hb];exact e
theorem jO.s{w:World}(h:jO l w l' w'):zr l w l' w':=⟨h.mod.mono λj _ e=>⟨e.1,by have:=e.2;omega⟩,h.old,h.bnd⟩
variable{w'':World}
theorem zr.trans{l'':zu}{w:World}(h:zr l w l' w')(k:zr l' w' l'' w''):zr l w l'' w'' where
 mod:=h.mod.trans k.mod λb hb e=>by rw[h.old b hb]at e;exact e
 old b hb:=by rw[k.old b (Nat.lt_of_lt_of_le hb h.mod.size),h.old b hb]
 bnd:=k.bnd
theorem zr.refl{w:World}(h:∀b,l b≠0->b<w.heap.size):zr l w l w:=⟨zo.refl _ _,λ_ _=>rfl,h⟩
theorem zr.new{w:World}(h:∀b,l b≠0->b<w.heap.size)(hn:za w w'):zr l w l w':=⟨hn.mod _,λ_ _=>rfl,λb e=>Nat.lt_of_lt_of_le (h b e) hn.size⟩
theorem zr.keep{w:World}(h:zr l w l' w')(hb:∀b,l b≠0->b<w.heap.size):∀j,12<l j->l' j=l j/\w'.heap[j]? =w.heap[j]? :=λj e=>by have hj:=hb j (by omega);exact⟨h.old j hj,h.mod.block j hj λe2=>by omega⟩
theorem jU.step{m:Nat}{us:List zj}(h:jU l W m us rs)(hb:∀b,l b≠0->b<W.heap.size)(hs:zr l W l' W'):jU l' W' m us rs:=h.keep hs.le λj e=>hs.keep hb j (by omega)
variable{F:Nat->Prop}{n:Nat}
theorem zbL{w:World}(hb:∀b,l b≠0->b<w.heap.size)(hn:za w w')(hF:∀b,F b->w.heap.size<=b/\b<w'.heap.size):zr l w (l.add F n) w' where
 mod:=hn.mod _
 old b hlt:=by
  by_cases e:l b=0
  ·exact zu.add_neg λf=>by have:=hF b f;omega
  ·exact zu.add_old e
 bnd b e:=by
  by_cases h0:l b=0
  ·by_cases f:F b
   ·exact(hF b f).2
   ·rw[zu.add_neg f]at e;exact absurd h0 e
  ·exact Nat.lt_of_lt_of_le (hb b h0) hn.size
theorem zr.client{w:World}(h:zr l w l' w')(hm:zo (λj=>11<l j) w w'):qF l w l' w':=⟨hm,h.old,h.bnd⟩
variable{α:Type}
theorem zab[DecidableEq α](es:List (α×Value))(x:α)(v:Value):(xx es x v).length<=es.length+1:=by unfold xx;split<;>simp
variable{l0:zu}{u:zj}{v:Value}
theorem jU.put{B:zu->World->Prop}{w0:World}{m:Nat}{us:List zj}(h:jU l0 w0 m us rs)(hb0:∀b,l0 b≠0->b<w0.heap.size)(hu:u.name.length<=1000)
  (hg:uK B l0 w0 l W v (permsOf rs u.roles)):
  ∃es,zD Gv W m es/\es.length<=us.length/\∀W',zD Gv W' m (xx es ⟨u.name,hu⟩ v)->zo (· =m) W W'->qF l W l W'/\jU l W' m (us++[u]) rs:=by
 obtain⟨h0,es,h1,h2,h3,h4⟩:=h;obtain⟨q,s1,i1,s2,i2,rfl,hq,hq0,hqr,hB,hP,F1,F2,t1,t2,hf1,hf2,_,_⟩:=hg;have hm0:=hb0 m (by rw[h0];decide);have hold:∀j,l0 j≠0->l j=l0 j:=λj e=>hP.old j (hb0 j e);have hkp:∀j,11<l0 j->W.heap[j]? =w0.heap[j]? :=λj e=>hP.mod.block j (hb0 j (by omega)) λe2=>by have:=e2.2;omega
 have hlm:l m=15:=by rw[hold m (by rw[h0];decide),h0]
 refine⟨es,h1.frame (hkp m (by rw[h0];decide)),h2,λW' hM' hmod=> ?_⟩;have hc:qF l W l W':=⟨hmod.mono λj _ e=>by rw[e,hlm];decide,λ_ _=>rfl,λb e=>Nat.lt_of_lt_of_le (hP.bnd b e) hmod.size⟩;have hk13:∀j,l j=13->W'.heap[j]? =W.heap[j]? :=λj e=>hmod.block j (hP.bnd j (by rw[e];decide)) λe2=>by rw[e2,hlm]at e;cases e
 have hpn:xX l W' (ptr q) (permsOf rs u.roles):=by obtain⟨c0,c1,_,_⟩:=qT hqr;have hqn: ¬l.some q:=λe=>e hq0;exact⟨q,s1,i1,s2,i2,F1,F2,rfl,hc.le _ _ (zi.2 ⟨hqn,c0⟩),hc.le _ _ (zi.2 ⟨hqn,c1⟩),t1.frame (λj e=>hk13 j (hf1 j e)) hc.le,t2.frame (λj e=>hk13 j (hf2 j e)) hc.le,hf1,hf2⟩
 refine⟨hc,hlm,_,hM',?_,λn v e=> ?_,λu2 hu2 n hn=> ?_⟩
 ·have:=zab es (⟨u.name,hu⟩:Wz) (ptr q);rw[List.length_append,List.length_singleton];omega
 ·rw[Xu]at e;by_cases hx:n=⟨u.name,hu⟩
  ·rw[if_pos hx]at e;cases e;exact⟨u,by simp,by rw[hx],hpn⟩
  ·rw[if_neg hx]at e;obtain⟨u3,a,b,c⟩:=h3 n v e;refine⟨u3,by simp[a],b,c.keep (hP.le.le_trans hc.le) λj e2=> ?_⟩;have e3:l j=13:=by rw[hold j (by rw[e2];decide),e2]
   exact⟨e3,(hk13 j e3).trans (hkp j (by rw[e2];decide))⟩
 ·rw[Xu];by_cases hx:n=⟨u.name,hu⟩
  ·exact⟨_,if_pos hx⟩
  ·rw[if_neg hx];rcases List.mem_append.1 hu2 with hu3|hu3
   ·exact h4 u2 hu3 n hn
   ·simp only[List.mem_singleton]at hu3;exact absurd (Subtype.ext (by rw[hn,hu3])) hx
def kT(w:World)(a:Nat)(rev:Nat)(lg bv:Value)(on:Bool)(m:Nat):Prop:=w.heap[a]? =some (.cells #[.int .u64 rev,lg,bv,.bool on,.map (some m)] 146 (0,0))
variable{a:Nat}
theorem GG{w:World}{c:Array Value}(h:w.heap[a]? =some (.cells c 146 (0,0))):∃A,(partAt ⟨a,0,none⟩ 5 48).run prog w=.ok A w:=
 Qq h (s:=5) (x:=0) (y:=0) (by kernel_rfl) (by decide) 5 48 (by kernel_rfl) (by kernel_rfl)
variable{bv lg:Value}
theorem kT.keep{w:World}{rev m:Nat}{on:Bool}(h:kT w a rev lg bv on m)(hk:w'.heap[a]? =w.heap[a]?):kT w' a rev lg bv on m:=hk.trans h
theorem kT.lt{w:World}{rev m:Nat}{on:Bool}(h:kT w a rev lg bv on m):a<w.heap.size:=(Array.getElem?_eq_some_iff.1 h).1
theorem kT.pstep{w:World}{rev m:Nat}{on:Bool}(h:kT w a rev lg bv on m)(hla:l a=12)(hp:jO l w l' w'):kT w' a rev lg bv on m/\l' a=12:=
 ⟨h.keep (hp.mod.block a h.lt λe=>by have:=e.2;omega),by rw[hp.old a h.lt,hla]⟩
variable{w1:World}
theorem Dy{B:zu->World->Prop}{w:World}{rev m0:Nat}{on:Bool}(hk:∀l l' W W',B l W->qF l W l' W'->B l' W')(hbnd:∀j,l j≠0->j<w.heap.size)(hB:B l w)(ha:kT w a rev lg bv on m0)(hla:l a=12)
  (hw1:w1=(w.alloc (.map #[] 0)).setCell ⟨a,4,none⟩ (.map (some w.heap.size))):∃l1,B l1 w1/\zr l w l1 w1/\kT w1 a rev lg bv on w.heap.size/\l1 a=12/\jU l1 w1 w.heap.size [] rs:=by
 have hal:=ha.lt;have hsz:(w.alloc (.map #[] 0)).heap.size=w.heap.size+1:=Array.size_push ..
 have hm:zo (· =a) w w1:=by rw[hw1];exact((zo.refl (· =a) w).alloc _).setCell (p:=⟨a,4,none⟩) (λ_=>rfl) _
 have hs1:w.heap.size+1<=w1.heap.size:=by rw[hw1,<-hsz];exact((zo.refl (· =a) (w.alloc (.map #[] 0))).setCell (p:=⟨a,4,none⟩) (λ_=>rfl) _).size
 have h0:l w.heap.size=0:=by
  by_cases e:l w.heap.size=0
  ·exact e
  ·exact absurd (hbnd _ e) (Nat.lt_irrefl _)
 have hs:zr l w (l.add (· =w.heap.size) 15) w1:=⟨hm.mono λj _ e=>by rw[e,hla];decide,λb hb=>zu.add_neg (by omega),λb e=>by
  by_cases e2:b=w.heap.size
  ·omega
  ·rw[zu.add_neg (F:=(· =w.heap.size)) e2]at e;have:=hbnd b e;omega⟩
 have hc:qF l w (l.add (· =w.heap.size) 15) w1:=hs.client (hm.mono λj _ e=>by rw[e,hla];decide);refine⟨_,hk _ _ _ _ hB hc,hs,?_,by rw[zu.add_neg (by omega),hla],zu.add_pos rfl h0,[],?_,Nat.le_refl _,λn v e=>by simp[jt]at e,λu hu=>by cases hu⟩
 ·have h1:(w.alloc (.map #[] 0)).heap[a]? =some (.cells #[.int .u64 rev,lg,bv,.bool on,.map (some m0)] 146 (0,0)):=za.heap (show za w (w.alloc (.map #[] 0))from(za.refl w).alloc _) ha;rw[hw1];exact heap_setCell_same _ _ _ _ _ _ h1
 ·refine(zD.made Gv w).frame ?_;rw[hw1];exact Below.heap_setCell _ _ _ _ (by show w.heap.size≠a;omega)
structure zda(B:zu->World->Prop)(l:zu)(w:World)(l1:zu)(w2:World)(l':zu)(wr:World)(a rev m:Nat)(lg bv:Value)(on:Bool)(us:List zj)(rs:List zm)(k:Nat):Prop where
 b:B l' wr
 s:zr l w l' wr
 row:kT wr a rev lg bv on m
 lab:l' a=12
 new:w.heap.size<=m
 cache:jU l' wr m (us.take k) rs
 le:(im l1.some w2).le (im l'.some wr)
variable{rc:Value}
theorem Vi{B:zu->World->Prop}{T:TypeId}{gU gR gA:FuncId}{us:List zj}(h:AR B T v rc gU gR gA us rs)(hus:zE zj.name us)(hrs:zE zm.name rs)(huo:∀u∈us,jy u)(hro:∀r∈rs,kD r)(hpo:∀r∈rs,∀p∈r.perms,p.kind<=2/\zT p.key p.stop=true)
  {w:World}{rev m0:Nat}{on:Bool}(hB:B l w)(ha:kT w a rev lg bv on m0)(hla:l a=12):
  Calls prog 56 #[ptr a,.iface T v] w λe w'=>e=.returned (.tuple #[])/\∃l' m',B l' w'/\zr l w l' w'/\kT w' a rev lg bv on m'/\jU l' w' m' us rs:=by
 obtain⟨A,hA⟩:=GG ha;have hrow:w.heap[a]? =some (.cells #[.int .u64 rev,lg,bv,.bool on,.map (some m0)] 146 (0,0)):=ha;have hrow2:(w.alloc (.map #[] 0)).heap[a]? =some (.cells #[.int .u64 rev,lg,bv,.bool on,.map (some m0)] 146 (0,0)):=za.heap (show za w (w.alloc (.map #[] 0))from(za.refl w).alloc _) hrow;have r4:(w.alloc (.map #[] 0)).cell? ⟨a,4,none⟩=some (.map (some m0)):=by rw[cell_of_row _ a 4 _ _ (0,0) hrow2];rfl
 have z4:(w.alloc (.map #[] 0)).frozen? ⟨a,4,none⟩=false:=by simp[World.frozen?,hrow2]
 have mA:=h.methA;have nA:=h.nilA;have eA:=h.entA;have hmm:= @run_makeMap prog;obtain⟨w1,hw1⟩:=zex ((w.alloc (.map #[] 0)).setCell ⟨a,4,none⟩ (.map (some w.heap.size)));obtain⟨l1,hB1,hs1,ha1,hl1,hc1⟩:=Dy (rs:=rs) h.keep (h.lt l w hB) hB ha hla hw1;have HW1:=hid hw1;have HALL:=hid (h.all l1 w1 hB1);have H:=hid h;have HUS:=hid hus;have HRS:=hid hrs;have HUO:=hid huo;have HRO:=hid hro;have HPO:=hid hpo;have HB1:=hid hB1;have HS1:=hid hs1;have HA1:=hid ha1;have HC1:=hid hc1;clear h hus hrs huo hro hpo hB ha hrow hw1 hB1 hs1 ha1 hc1 hrow2;go_enter_defers func56,ntmps56;go_wp2_with (go_at_call 69;go_must (refine(v_ _ _).mono ?_);rintro e w9 ⟨rfl,rfl⟩);rw[<-HW1.out];refine HALL.out.mono ?_;rintro e w2 ⟨r,rfl,hB2,hm2,hg2⟩;obtain⟨bs,hsl,hown,hall⟩:=hg2;obtain⟨p,n8,c8,rfl⟩:=hsl.shape;have hp2:jO l1 w1 l1 w2:=(jO.refl (H.out.lt _ _ HB1.out)).read hm2;obtain⟨ha2,hl2⟩:=HA1.out.pstep hl1 hp2
 have hc2:=HC1.out.step (H.out.lt _ _ HB1.out) hp2.s;have hr2:zda B l w l1 w2 l1 w2 a rev w.heap.size lg bv on us rs 0:=⟨hB2,HS1.out.trans hp2.s,ha2,hl2,Nat.le_refl _,hc2,Rd.le_refl _⟩;have hnl:us.length=n8:=by rw[hall.length];have:=hsl.row.1;rw[List.length_map]at this;exact this
 have HR2:=hid hr2;have hslw:=hsl;have hsl:=Sl.im_of (S:=l1.some) hsl λj hj e=>by have:=hown j hj;have:=H.out.lt _ _ HB1.out j e;omega
 have HSL:=hid hsl;have HALL2:=hid hall;have HNL:=hid hnl;obtain⟨m,hm⟩:=zex (w.heap.size);rw[<-hm]at HR2;clear hB2 hm2 hsl hslw hown hall hp2 ha2 hl2 hc2 hr2 hnl hm;go_wp2;go_loopw [24] (λc wr=>∃(k:Nat) (l':zu),k<=n8/\c=.int .i64 k/\zda B l w l1 w2 l' wr a rev m lg bv on us rs k) (λc _=>n8-(intOf c).toNat)
 case atStart=>exact⟨0,l1,Nat.zero_le _,rfl,HR2.out⟩
 case round=>
  obtain⟨k,l',hk,rfl,hR⟩:=hrel;by_cases hlt:k<n8
  ·obtain⟨hrl,hrc,hrm,⟨gb,go,rfl,hce⟩|h0⟩:=HSL.out.row
   case inr=>exact absurd h0 (by omega)
   have hku:k<us.length:=by rw[HNL.out];exact hlt
   have hkb:k<bs.length:=by rw[<-HALL2.out.length];exact hku
   have hck:=hR.le _ _ (hce k (by rw[List.length_map];exact hkb));obtain⟨ub,hub⟩:∃ub,bs[k]=ub:=⟨_,rfl⟩;obtain⟨u,hu⟩:∃u,us[k]=u:=⟨_,rfl⟩;have ck:wr.cell? ⟨gb,go+k,none⟩=some (ptr ub):=by have:=zd _ _ _ _ hck;rw[<-hub];simpa using this
   have hua:=((HALL2.out.get k hku hkb).2).mono hR.le;rw[hub,hu]at hua;have hmu:u∈us:=by rw[<-hu];exact List.getElem_mem hku
   have hgn:qU zj.name us u.name=some u:=(qO HUS.out).2 ⟨hmu,rfl⟩;have huk:=HUO.out u hmu;obtain⟨⟨nv,f1,f2⟩,_⟩:=hua;have d1:=zd _ _ _ _ f1;have hcv:=λwx (e:Rd.le wr.cell? wx.cell?)=>kO (w:=wx) (show Bs wx.cell? u.name nv from(f2.mono (zd _ _)).mono e) 75 5 9 (by kernel_rfl) (by kernel_rfl) (by kernel_rfl);have hcv0:=hcv wr (Rd.le_refl _);obtain⟨np,nn,nc,rfl,hnn⟩:=f2.shape;have hkk:(k:Int)<n8:=by omega
   have hmp:=gT H.out.weak (λ_ _ _ _=>trivial) HUS.out HRS.out HUO.out HRO.out HPO.out trivial hR.b huk.name;rw[hgn]at hmp;have HMP:=hid hmp;have htk:us.take (k+1)=us.take k++[u]:=by rw[<-hu,List.take_append_getElem]
   have HTK:=hid htk;have HR:=hid hR;have HUK:=hid huk;obtain⟨sx,hsx⟩:=zex ((⟨u.name.toArray⟩:ByteArray));unfold zb at HMP;rw[<-hsx]at HMP hcv0;have HSX:=hid hsx;clear hrl hce hck hub hu hmu hgn huk f1 f2 hcv hmp htk hR hsx;go_wp2_with fail;refine HMP.out.mono ?_;rintro e w4 ⟨r4,rfl,l4,hg4⟩;have hg4':=hg4;obtain⟨es,hes,hel,hput⟩:=HR.out.cache.put (H.out.lt _ _ HR.out.b) HUK.out.name hg4;obtain⟨q,s1,i1,s2,i2,rfl,hq,hq0,hqr,hB4,hP4,_⟩:=hg4;obtain⟨ha4,hl4⟩:=HR.out.row.pstep HR.out.lab hP4;have b4:w4.cell? ⟨a,4,none⟩=some (.map (some m)):=by rw[cell_of_row w4 a 4 _ _ (0,0) ha4];rfl
   obtain⟨W',hrun,hM',hmod⟩:=zD.put (P:=prog) (t:=143) (k:=9) (e:=130) zcS (by kernel_rfl) hes (by have:=HNL.out;rw[List.length_take]at hel;simp only[maxLen];omega) ⟨u.name,HUK.out.name⟩ (ptr q);obtain⟨hc5,hC5⟩:=hput W' hM' hmod;unfold Gv at hrun;rw[<-HSX.out]at hrun;have hm4:l4 m=15:=hC5.lab;have ha5:kT W' a rev lg bv on m:=ha4.keep (hmod.block a ha4.lt λe=>by have e:a=m:=e;rw[e,hm4]at hl4;cases hl4);have hs5:zr l w l4 W':=by have h9:=HR.out.s.trans hP4.s;exact⟨h9.mod.trans hmod λb hb e=>by have e:b=m:=e;have:=HR.out.new;omega,h9.old,hc5.bnd⟩
   have hR5:zda B l w l1 w2 l4 W' a rev m lg bv on us rs (k+1):=⟨H.out.keep _ _ _ _ hB4 hc5,hs5,ha5,hl4,HR.out.new,by rw[HTK.out];exact hC5,HR.out.le.le_trans (hP4.le.le_trans hc5.le)⟩;have HR5:=hid hR5;clear hg4' hes hel hput hqr hB4 hP4 ha4 hM' hmod hc5 hC5 ha5 hs5 hR5;go_wp2;go_roundw
   case rel=>exact⟨k+1,l4,by omega,by go_num,HR5.out⟩
   case measure=>simp[intOf];omega
  ·have hkn:k=n8:=by omega
   subst hkn;have HR:=hid hR;clear hR;go_wp2;refine leaves_cons (f:=70) (args:= #[.pointer (some A)]) (by simp) (by simp[go_sem]) ?_;refine(kR _ _).mono ?_;rintro e u' w'' ⟨rfl,rfl,rfl⟩;refine⟨_,results_none rfl _ _ _,rfl,l',m,HR.out.b,HR.out.s,HR.out.row,?_⟩;have:=HR.out.cache;rw[<-HNL.out,List.take_length]at this;exact this
theorem jl:∀x y:Bytes,Op.bytesLess x y=decide (zt x y<0)
 |[],[]=>by simp[Op.bytesLess,zt]
 |[],_::_=>by simp[Op.bytesLess,zt]
 |_::_,[]=>by simp[Op.bytesLess,zt]
 |a::x,b::y=>by
  unfold Op.bytesLess zt;by_cases h1:a<b
  ·simp[h1]
  ·by_cases h2:b<a
   ·have h3: ¬a=b:=λe=>by subst e;exact UInt8.lt_irrefl _ h2
    simp[h1,h2,h3]
   ·have h3:a=b:=UInt8.le_antisymm (UInt8.not_lt.1 h2) (UInt8.not_lt.1 h1);subst h3;simp only[h1,if_false,decide_false,Bool.false_or,BEq.rfl,Bool.true_and];exact jl x y
def zbM(n:Nat)(p:Nat->Bool)(k:Nat):Prop:=k<=n/\(∀t,t<k->p t=false)/\∀t,k<=t->t<n->p t=true
theorem XO{w:World}{g:FuncId}{cap:Array Value}{p:Nat->Bool}(hn:n<=1000)(eg:∀args W,(callFunc g args).run prog W=.ok (.enter g args) W)
  (hf:∀i W,i<n->za w W->Calls prog g (#[.int .i64 i]++cap) W λe w'=>e=.returned (.bool (p i))/\za W w')(hmono:∀a b,a<=b->b<n->p a=true->p b=true):
  Calls prog 182 #[.int .i64 n,.func (.func g) #[] cap] w λe w'=>∃k,e=.returned (.int .i64 (k:Nat))/\zbM n p k/\za w w':=by
 have HF:=hid hf;have M:=hid hmono;clear hf hmono;go_enter func182,ntmps182;go_wp2;go_loopg [5,6] n (λkx s5 s6 wr=>∃(lo hi:Nat),s5=.int .i64 lo/\s6=.int .i64 hi/\lo<=hi/\hi<=n/\hi-lo<=kx/\za w wr/\Hid ((∀t,t<lo->p t=false)/\(∀t,hi<=t->t<n->p t=true)))
 case atStart=>exact⟨0,n,rfl,rfl,Nat.zero_le _,Nat.le_refl _,by omega,za.refl w,hid ⟨λt ht=>absurd ht (Nat.not_lt_zero _),λt h1 h2=>by omega⟩⟩
 case round=>
  obtain⟨lo,hi,rfl,rfl,hlh,hin,hg,hw,I⟩:=hrel;by_cases hlt:lo<hi
  ·have hc:=HF.out ((lo+hi)/2) wr (by omega) hw;rw[show(((lo+hi)/2:Nat):Int)=((lo:Int)+(hi:Int))/2 by omega]at hc;cases hp:p ((lo+hi)/2)<;>rw[hp]at hc
   ·have HP:=hid hp;have HC:=hid hc;have HW:=hid hw;clear hp hc hw;go_wp2_with (go_at_fn g;refine HC.out.mono ?_;rintro e w' ⟨rfl,hw'⟩);go_roundg (hi-((lo+hi)/2+1))
    case measure=>omega
    case rel=>
     exact⟨(lo+hi)/2+1,hi,by rw[show((lo:Int)+(hi:Int))/2+1=(((lo+hi)/2+1:Nat):Int) by omega],rfl,by omega,hin,Nat.le_refl _,HW.out.trans hw',hid ⟨λt ht=>(by
      cases h:p t with
      |false=>rfl
      |true=>have:=M.out t ((lo+hi)/2) (by omega) (by omega) h;rw[HP.out]at this;cases this),I.out.2⟩⟩
   ·have HP:=hid hp;have HC:=hid hc;have HW:=hid hw;clear hp hc hw;go_wp2_with (go_at_fn g;refine HC.out.mono ?_;rintro e w' ⟨rfl,hw'⟩);go_roundg ((lo+hi)/2-lo)
    case measure=>omega
    case rel=>exact⟨lo,(lo+hi)/2,rfl,by rw[show((lo:Int)+(hi:Int))/2=(((lo+hi)/2:Nat):Int) by omega],by omega,by omega,Nat.le_refl _,HW.out.trans hw',hid ⟨I.out.1,λt ht htn=>M.out ((lo+hi)/2) t ht htn HP.out⟩⟩
  ·obtain rfl:hi=lo:=by omega
   have HW:=hid hw;clear hw;go_wp2;go_returns;exact⟨hi,rfl,⟨hin,I.out.1,I.out.2⟩,HW.out⟩
theorem V_(args:Array Value)(w:World):(callFunc 188 args).run prog w=.ok (.enter 188 args) w:=by kernel_rfl
variable{c:Nat}
theorem UC{ba bx gb go i:Nat}{x y:Bytes}(hi:i<n)(ha:W.cell? ⟨ba,0,none⟩=some (.slice (some ⟨gb,go,none⟩) n c))(hx:W.cell? ⟨bx,0,none⟩=some (zb x))(hc:W.cell? ⟨gb,go+i,none⟩=some (zb y)):
  Calls prog 188 #[.int .i64 i,ptr ba,ptr bx] W λe w'=>e=.returned (.bool (!decide (zt y x<0)))/\za W w':=by
 have hg:(!Op.bytesLess (ByteArray.toList ⟨y.toArray⟩) (ByteArray.toList ⟨x.toArray⟩))= !(decide (zt y x<0)):=by simp[ByteArray.toList_eq,jl]
 have hiz:(i:Int)<(n:Int):=by omega
 unfold zb at hx hc;generalize(!(decide (zt y x<0)))=d at hg⊢;generalize(⟨x.toArray⟩:ByteArray)=sx at hx hg;generalize(⟨y.toArray⟩:ByteArray)=sy at hc hg;have HG:=hid hg;clear hg;go_enter func188,ntmps188;go_wp2;go_region
 all_goals
  go_wp2;go_returns;exact⟨congrArg (λb=>Ending.returned (.bool b)) HG.out,(za.refl W).drew⟩
variable{r:Rd}
theorem vH{w:World}{xs:List Bytes}{x:Bytes}(hr:Rd.le r w.cell?)(h:Sl r 1 (xs.map zb) v)(hrise:zM xs)(hn:xs.length<=1000):
  Calls prog 184 #[v,zb x] w λe w'=>e=.returned (.int .i64 (zk xs x:Nat))/\za w w':=by
 obtain⟨p,n,c,rfl⟩:=h.shape;obtain⟨W0,hW0⟩:=zex ((w.alloc (.cells #[.slice p n c] 28)).alloc (.cells #[zb x] 9));have hn0:za w W0:=by rw[hW0];exact((za.refl w).alloc _).alloc _
 have hs1:(w.alloc (.cells #[.slice p n c] 28)).heap.size=w.heap.size+1:=Array.size_push ..
 have ca:W0.cell? ⟨w.heap.size,0,none⟩=some (.slice p n c):=by
  have h1:(w.alloc (.cells #[.slice p n c] 28)).heap[w.heap.size]? =some (.cells #[.slice p n c] 28 (0,0)):=zg w _;have h2:W0.heap[w.heap.size]? =some (.cells #[.slice p n c] 28 (0,0)):=by rw[hW0];exact za.heap (show za (w.alloc (.cells #[.slice p n c] 28)) ((w.alloc (.cells #[.slice p n c] 28)).alloc (.cells #[zb x] 9))from(za.refl _).alloc _) h1
  rw[cell_of_row W0 _ 0 _ _ (0,0) h2];rfl
 have cx:W0.cell? ⟨w.heap.size+1,0,none⟩=some (zb x):=by
  have h2:W0.heap[w.heap.size+1]? =some (.cells #[zb x] 9 (0,0)):=by rw[hW0,<-hs1];exact zg _ _
  rw[cell_of_row W0 _ 0 _ _ (0,0) h2];rfl
 have hlen:xs.length=n:=by have:=h.row.1;rw[List.length_map]at this;exact this
 have hS:=XO (w:=W0) (g:=188) (cap:= #[ptr w.heap.size,ptr (w.heap.size+1)]) (n:=n) (p:=λi=> !decide (zt (xs.getD i []) x<0)) (by omega) V_ (λi W hi hW=>by
  obtain⟨_,_,_,⟨gb,go,rfl,hce⟩|h0⟩:=h.row
  ·have hix:i<xs.length:=by omega
   have hcx:=hr _ _ (hce i (by rw[List.length_map];exact hix));rw[List.getElem_map]at hcx;have hgd:xs.getD i []=xs[i]:=by rw[List.getD_eq_getElem?_getD,List.getElem?_eq_getElem hix];rfl
   rw[hgd];exact UC hi (hW.le _ _ ca) (hW.le _ _ cx) (hW.le _ _ (hn0.le _ _ hcx))
  ·omega) (λa b hab hb hp=>by
   have hax:a<xs.length:=by omega
   have hbx:b<xs.length:=by omega
   simp only[Bool.not_eq_true',decide_eq_false_iff_not,List.getD_eq_getElem?_getD,List.getElem?_eq_getElem hax,List.getElem?_eq_getElem hbx,Option.getD_some]at hp⊢;by_cases e:a=b
   ·subst e;exact hp
   ·have h1:zt xs[a] xs[b]<0:=List.pairwise_iff_getElem.1 hrise a b hax hbx (by omega);exact λh2=>hp (qM h1 h2))
 have hS2:Calls prog 182 #[.int .i64 n,.func (.func 188) #[] #[ptr w.heap.size,ptr (w.heap.size+1)]] W0 λe w'=>e=.returned (.int .i64 (zk xs x:Nat))/\za W0 w':=by
  refine hS.mono ?_;rintro e w' ⟨k,rfl,⟨hk1,hk2,hk3⟩,hw⟩;refine⟨?_,hw⟩;have:k=zk xs x:=by
   by_cases h1:k<zk xs x
   ·have hkx:k<xs.length:=Nat.lt_of_lt_of_le h1 (jr xs x);have h2:=hk3 k (Nat.le_refl _) (by omega);have h3:=vy hkx h1;simp[List.getD_eq_getElem?_getD,List.getElem?_eq_getElem hkx,h3]at h2
   ·by_cases h4:zk xs x<k
    ·have h5:=hk2 _ h4;have hpx:zk xs x<xs.length:=by omega
     have h6:=jX hpx;simp[List.getD_eq_getElem?_getD,List.getElem?_eq_getElem hpx,h6]at h5
    ·omega
  rw[this]
 have HS:=hid hS2;have HW0:=hid hW0;have HN0:=hid hn0;generalize zk xs x=pl at HS⊢;clear h hr hrise hn hW0 hn0 ca cx hS hS2 hs1 hlen;unfold zb at HW0⊢;generalize(⟨x.toArray⟩:ByteArray)=sx at HW0⊢;go_enter func184,ntmps184;go_wp2_with fail;rw[<-HW0.out];refine HS.out.mono ?_;rintro e w' ⟨rfl,hw'⟩;go_wp2;go_returns;exact⟨rfl,HN0.out.trans hw'⟩
def zac:ByteArray:={data:= #[114,111,111,116]}
theorem XP:zb zL=.string zac:=rfl
variable{b:Nat}
theorem Vj{w:World}(hr:Rd.le r w.cell?)(h:jd r b u)(hrise:zM u.roles)(hn:u.roles.length<=100):
  Calls prog 178 #[ptr b] w λe w'=>e=.returned (.bool u.root)/\za w w':=by
 obtain⟨_,_,⟨y,h5,h6⟩,_⟩:=h;have hS:=vH (w:=w) (x:=zL) hr h6 hrise (by omega);obtain⟨p,n,c,rfl⟩:=h6.shape;have c2:=hr _ _ h5;have hlen:u.roles.length=n:=by have:=h6.row.1;rw[List.length_map]at this;exact this
 rw[XP]at hS;have hpl:=jr u.roles zL;have hroot:u.root=zx u.roles zL:=by unfold zj.root;rw[Bool.eq_iff_iff,decide_eq_true_iff,kU hrise]
 by_cases hf:zk u.roles zL<u.roles.length
 ·obtain⟨_,_,_,⟨gb,go,rfl,hce⟩|h0⟩:=h6.row
  case inr=>exact absurd h0 (by omega)
  have hcx:=hr _ _ (hce _ (by rw[List.length_map];exact hf));rw[List.getElem_map]at hcx;have hroot2:u.root=decide (u.roles[zk u.roles zL]=zL):=by rw[hroot];unfold zx;rw[List.getElem?_eq_getElem hf,Bool.eq_iff_iff];simp
  generalize zk u.roles zL=pl at hS hf hcx hroot2 hpl;generalize hx:u.roles[pl]=x at hcx hroot2;have hpn: ¬(pl:Int)=n:=by omega
  have hpn2:(pl:Int)<n:=by omega
  have hcmp:((pl:Int) !=n && (⟨x.toArray⟩:ByteArray).toList==[114,111,111,116])=u.root:=by
   have h1:((pl:Int) !=n)=true:=by simpa using hpn
   rw[hroot2,ByteArray.toList_eq,h1,Bool.true_and,Bool.eq_iff_iff];show((x==[114,111,111,116])=true)↔decide (x=zL)=true;rw[beq_iff_eq,decide_eq_true_iff];rfl
  unfold zb at hcx;generalize(⟨x.toArray⟩:ByteArray)=sx at hcx hcmp;have HS:=hid hS;have HC:=hid hcmp;have HK:=hid (λw' (hw:za w w')=>And.intro (hw.le _ _ c2) (hw.le _ _ hcx));clear hS h5 h6 hrise hn hce hcx hroot hroot2 hx hcmp hf hpl;go_enter func178,ntmps178;go_wp2_with fail;refine HS.out.mono ?_;rintro e w' ⟨rfl,hw⟩;obtain⟨d2,dx⟩:=HK.out w' hw;have HW:=hid hw;clear hw;go_wp2;go_returns;exact⟨congrArg (λb=>Ending.returned (.bool b)) HC.out,HW.out⟩
 ·have hpe:zk u.roles zL=n:=by omega
  have hroot2:u.root=false:=by rw[hroot];unfold zx;rw[List.getElem?_eq_none (by omega)];rfl
  rw[hpe]at hS;have HS:=hid hS;have HK:=hid (λw' (hw:za w w')=>hw.le _ _ c2);have HR:=hid hroot2;clear hS h5 h6 hrise hn hroot hroot2 hf hpl hpe;go_enter func178,ntmps178;go_wp2_with fail;refine HS.out.mono ?_;rintro e w' ⟨rfl,hw⟩;have d2:=HK.out w' hw;have HW:=hid hw;clear hw;go_wp2;go_returns;refine⟨?_,HW.out⟩;rw[HR.out]
  first|rfl|simp
theorem Dz(it:Nat)(W:World):(method 608 280 (ptr it) "Intersects").run prog W=.ok (235,ptr it) W:=by kernel_rfl
theorem DA(it:Nat)(W:World):(method 608 280 (ptr it) "Contains").run prog W=.ok (230,ptr it) W:=by kernel_rfl
theorem gV{wb:World}{T:TypeId}{x y:Value}(hW:W=wb.alloc (.cells #[x,y] T)):za wb W/\W.heap[wb.heap.size]? =some (.cells #[x,y] T (0,0)):=by rw[hW];exact⟨(za.refl wb).alloc _,zg wb _⟩
theorem XQ{ps:List zh}(hv:∀p∈ps,zT p.key p.stop=true)(kd:Nat){v:Iv}(h:v∈qu ps kd):Q9 v:=by obtain⟨p,hp,rfl⟩:=List.mem_map.1 h;exact Jr (hv p (List.mem_filter.1 hp).1)
open Classical in
theorem UD{ps:List zh}(hv:∀p∈ps,zT p.key p.stop=true)(kd:Nat){key:Bytes}(hk:key≠[]):(∃v∈(qu ps kd).reverse,jK (pt key) v=0)↔yX ps kd key []=true:=by
 unfold yX kq;rw[if_pos rfl,decide_eq_true_iff];constructor
 ·rintro⟨v,h1,h2⟩ j hj;rw[(zcv hk).1 hj];have h1:=List.mem_reverse.1 h1;exact⟨v,h1,(zcu hk (XQ hv kd h1)).1 h2⟩
 ·intro h;obtain⟨v,h1,h2⟩:=h key ((zcv hk).2 rfl);exact⟨v,List.mem_reverse.2 h1,(zcu hk (XQ hv kd h1)).2 h2⟩
variable{stop:Bytes}
open Classical in
theorem UE{ps:List zh}(kd:Nat){key:Bytes}(hs:stop≠[]):yO (qu ps kd).reverse (key,if stop=[0]then []else stop)↔yX ps kd key stop=true:=by unfold yX kq;rw[if_neg hs,decide_eq_true_iff];unfold yO;simp only[List.mem_reverse]
structure Vk(l:zu)(w:World)(W:World)(ib:Nat)(i:Nat)(L:List Iv)(b e:EV):Prop where
 new:za w W
 tree:∃F s,q_ (im l.some W) W F s i L/\∀j,F j->j<W.heap.size
 eb:kL (im l.some W) b
 ee:kL (im l.some W) e
 row:W.heap[ib]? =some (.cells #[b.2,e.2] 230 (0,0))
variable{L:List Iv}{ib:Nat}
theorem Vk.drew{w:World}{i:Nat}{b e:EV}(h:Vk l w W ib i L b e):Vk l w W.drew ib i L b e:=by obtain⟨h1,⟨F,s,h2,h3⟩,h4,h5,h6⟩:=h;have hd:=(za.refl W).drew;exact⟨h1.drew,⟨F,s,h2.frame (λ_ _=>rfl) (za.im hd _),h3⟩,h4.mono (za.im hd _),h5.mono (za.im hd _),h6⟩
theorem Vk.has{w:World}{i:Nat}{b e:EV}(h:Vk l w W ib i L b e)(hv:Q9 (b.1,e.1)):Calls prog 235 #[ptr i,.agg #[b.2,e.2]] W (Uv W (∃v∈L,jK (b.1,e.1) v=0)):=by obtain⟨h1,⟨F,s,h2,h3⟩,h4,h5,h6⟩:=h;exact Kc h2 (zd _ _) h4 h5 hv
theorem Vk.con{w:World}{i:Nat}{b e:EV}(h:Vk l w W ib i L b e)(hv:Q9 (b.1,e.1)):Calls prog 230 #[ptr i,.agg #[b.2,e.2]] W (Uv W (yO L (b.1,e.1))):=by obtain⟨h1,⟨F,s,h2,h3⟩,h4,h5,h6⟩:=h;exact V7 h2 h3 (zd _ _) h4 h5 hv
variable{kv:Value}
theorem uL{w:World}{ps:List zh}{key:Bytes}{kd:Nat}(h:xX l w v ps)(hbnd:∀j,l j≠0->j<w.heap.size)(hk:Bs (im l.some w) key kv)(hk0:key≠[])(hkl:key.length<=1000)(hv:∀p∈ps,zT p.key p.stop=true)(hkd:kd=0\/kd=1):
  Calls prog 51 #[lg,v,kv,.int .i32 kd] w λe w'=>e=.returned (.bool (yX ps kd key []))/\za w w':=by
 obtain⟨q,s1,i1,s2,i2,F1,F2,rfl,c0,c1,t1,t2,f1,f2⟩:=h;have hP:=XL (hk.mono (zd _ _)) (show key.length<=1000000 by omega);have hpp:=λkd=>UD hv kd hk0;have hvi:=KR hk0;have HK:=hid hk;obtain⟨kp,kn,kc,rfl,hkn⟩:=hk.shape;have m1:=Dz;have HP:=hid hP;have HPP:=hid hpp;have HVI:=hid hvi;have HT1:=hid t1;have HT2:=hid t2;have HF1:=hid (λj (e:F1 j)=>hbnd j (by rw[f1 j e];decide));have HF2:=hid (λj (e:F2 j)=>hbnd j (by rw[f2 j e];decide));have HBND:=hid hbnd;clear hP hpp hvi hk t1 t2 f1 f2 hbnd hv;rcases hkd with rfl|rfl
 ·go_enter func51,ntmps51;go_wp2_with fail;refine HP.out.mono ?_;rintro e wb ⟨u9,rfl,hnb,hub,huo⟩;obtain⟨W,hW⟩:=zex (wb.alloc (.cells #[.iface 283 (.slice kp kn kc),.iface 283 u9] 230));obtain⟨hnw,hrow⟩:=gV hW;have hn:=hnb.trans hnw;have ha:Vk l w W wb.heap.size i1 (qu ps 0).reverse (key,.iface 283 (.slice kp kn kc)) (key++[0],.iface 283 u9):=
   ⟨hn,⟨F1,s1,HT1.out.frame (λj e=>hn.block j (HF1.out j e) (λe=>e)) (hn.im _),λj e=>Nat.lt_of_lt_of_le (HF1.out j e) hn.size⟩,⟨_,rfl,HK.out.mono (hn.im _)⟩,⟨_,rfl,(Bs.im_of hub λj e e2=>by have:=huo j e;have:=HBND.out j e2;omega).mono (hnw.im _)⟩,hrow⟩
  have e0:=hn.le _ _ (zd _ _ _ _ c0);obtain⟨e1,e2,_⟩:=qT hrow;have HI:=hid (ha.drew.has HVI.out);have HW:=hid hW;have HA:=hid ha.new;clear hnb hub huo hW hnw hrow hn ha;go_upto_region 5 with fail
  rw[<-HW.out];go_region_with (refine HI.out.mono ?_;rintro e w5 ⟨⟨bb,rfl,hbb⟩,hn5⟩;have HBB:=hid (And.intro hbb hn5);clear hbb hn5)
  all_goals
   go_wp2;go_returns;refine⟨congrArg (λb=>Ending.returned (.bool b)) ?_,za.trans HA.out.drew HBB.out.2⟩;rw[Bool.eq_iff_iff];exact HBB.out.1.trans (HPP.out 0)
 ·go_enter func51,ntmps51;go_wp2_with fail;refine HP.out.mono ?_;rintro e wb ⟨u9,rfl,hnb,hub,huo⟩;obtain⟨W,hW⟩:=zex (wb.alloc (.cells #[.iface 283 (.slice kp kn kc),.iface 283 u9] 230));obtain⟨hnw,hrow⟩:=gV hW;have hn:=hnb.trans hnw;have ha:Vk l w W wb.heap.size i2 (qu ps 1).reverse (key,.iface 283 (.slice kp kn kc)) (key++[0],.iface 283 u9):=
   ⟨hn,⟨F2,s2,HT2.out.frame (λj e=>hn.block j (HF2.out j e) (λe=>e)) (hn.im _),λj e=>Nat.lt_of_lt_of_le (HF2.out j e) hn.size⟩,⟨_,rfl,HK.out.mono (hn.im _)⟩,⟨_,rfl,(Bs.im_of hub λj e e2=>by have:=huo j e;have:=HBND.out j e2;omega).mono (hnw.im _)⟩,hrow⟩
  have e0:=hn.le _ _ (zd _ _ _ _ c1);obtain⟨e1,e2,_⟩:=qT hrow;have HI:=hid (ha.drew.has HVI.out);have HW:=hid hW;have HA:=hid ha.new;clear hnb hub huo hW hnw hrow hn ha;go_upto_region 7 with fail
  rw[<-HW.out];go_region_with (refine HI.out.mono ?_;rintro e w5 ⟨⟨bb,rfl,hbb⟩,hn5⟩;have HBB:=hid (And.intro hbb hn5);clear hbb hn5)
  all_goals
   go_wp2;go_returns;refine⟨congrArg (λb=>Ending.returned (.bool b)) ?_,za.trans HA.out.drew HBB.out.2⟩;rw[Bool.eq_iff_iff];exact HBB.out.1.trans (HPP.out 1)
theorem GH{w:World}(hr:Rd.le r w.cell?)(h:Bs r stop v):Calls prog 67 #[v] w λe w'=>e=.returned (.bool (decide (stop=[0])))/\w=w':=by
 obtain⟨p,n,c,rfl,hn⟩:=h.shape;by_cases h1:n=1
 ·subst h1;obtain⟨z,rfl⟩:∃z,stop=[z]:=by
   match stop,hn with
   |[z],_=>exact⟨z,rfl⟩
  obtain⟨_,_,_,⟨gb,go,rfl,hce⟩|h0⟩:=h.sl.row
  case inr=>exact absurd h0 (by decide)
  have hz:=hr _ _ (hce 0 (by simp));have hz1:w.cell? ⟨gb,go,none⟩=some (.int .u8 z.toNat):=by simpa[qr]using hz
  have hd:((z.toNat:Int)==0)=decide ([z]=([0]:Bytes)):=by
   rw[Bool.eq_iff_iff,beq_iff_eq,decide_eq_true_iff];constructor
   ·intro e;rw[show z=0 from UInt8.toNat_inj.1 (by simpa using e)]
   ·intro e;cases e;rfl
  have HD:=hid hd;clear h hce hz hn hd;go_enter func67,ntmps67;go_wp2;go_returns;exact⟨congrArg (λb=>Ending.returned (.bool b)) (by first|exact HD.out|simpa using HD.out),rfl⟩
 ·have hd:decide (stop=[0])=false:=decide_eq_false λe=>h1 (by rw[<-hn,e];rfl);have h2: ¬(n:Int)=1:=by omega
  rw[hd];clear h hn hd;go_enter func67,ntmps67;go_wp2;go_returns;exact⟨congrArg (λb=>Ending.returned (.bool b)) (by simp),rfl⟩
variable{sv:Value}
theorem Vl{w:World}{ps:List zh}{key:Bytes}{kd:Nat}(h:xX l w v ps)(hbnd:∀j,l j≠0->j<w.heap.size)(hk:Bs (im l.some w) key kv)(hs:Bs (im l.some w) stop sv)(hs0:stop≠[])(hvr:zT key stop=true)(hkd:kd=0\/kd=1):
  Calls prog 52 #[lg,v,kv,sv,.int .i32 kd] w λe w'=>e=.returned (.bool (yX ps kd key stop))/\za w w':=by
 obtain⟨q,s1,i1,s2,i2,F1,F2,rfl,c0,c1,t1,t2,f1,f2⟩:=h;have hpp:=λkd=>UE (ps:=ps) kd (key:=key) hs0;have hvi:=Jr hvr;unfold kq at hvi;rw[if_neg hs0]at hvi;have hO:=GH (w:=w) (zd _ _) hs;have HK:=hid hk;have HS:=hid hs;obtain⟨kp,kn,kc,rfl,hkn⟩:=hk.shape;obtain⟨sp,sn,sc,rfl,hsn⟩:=hs.shape;have m1:=DA;have HO:=hid hO;have HPP:=hid hpp;have HVI:=hid hvi;have HT1:=hid t1;have HT2:=hid t2;have HF1:=hid (λj (e:F1 j)=>hbnd j (by rw[f1 j e];decide));have HF2:=hid (λj (e:F2 j)=>hbnd j (by rw[f2 j e];decide));clear hO hpp hvi hk hs t1 t2 f1 f2 hbnd hvr;obtain⟨ed,hed⟩:=zex ((if stop=[0]then []else stop));rw[<-hed]at HPP HVI;obtain⟨d,hd⟩:=zex (decide (stop=[0]));rw[<-hd]at HO;have HD:=hid hd;have HED:=hid hed;clear hd hed;go_enter func52,ntmps52;go_wp2_with fail;refine HO.out.mono ?_;rintro e w1 ⟨rfl,rfl⟩;go_upto_if 13 with fail
 go_cut [3] (λc wx=>w=wx/\Bs (im l.some w) ed c)
 case first=>
  cases d
  ·have h0: ¬stop=[0]:=of_decide_eq_false HD.out.symm;go_wp2;go_meet;refine⟨rfl,?_⟩;rw[HED.out,if_neg h0];exact HS.out
  ·have h0:stop=[0]:=of_decide_eq_true HD.out.symm;go_wp2;go_meet;refine⟨rfl,?_⟩;rw[HED.out,if_pos h0];exact Bs.nil _
 case rest=>
  obtain⟨rfl,hbe⟩:=hcut;obtain⟨ep,en,ec,rfl,hen⟩:=hbe.shape;have HE:=hid hbe;clear hbe;rcases hkd with rfl|rfl
  ·go_upto_region 3 with fail
   go_wp2_with fail;refine xh.mono ?_;rintro e wb ⟨rfl,hnb⟩;obtain⟨W,hW⟩:=zex (wb.alloc (.cells #[.iface 283 (.slice kp kn kc),.iface 283 (.slice ep en ec)] 230));obtain⟨hnw,hrow⟩:=gV hW;have hn:=hnb.trans hnw;have ha:Vk l w W wb.heap.size i1 (qu ps 0).reverse (key,.iface 283 (.slice kp kn kc)) (ed,.iface 283 (.slice ep en ec)):=
    ⟨hn,⟨F1,s1,HT1.out.frame (λj e=>hn.block j (HF1.out j e) (λe=>e)) (hn.im _),λj e=>Nat.lt_of_lt_of_le (HF1.out j e) hn.size⟩,⟨_,rfl,HK.out.mono (hn.im _)⟩,⟨_,rfl,HE.out.mono (hn.im _)⟩,hrow⟩
   have e0:=hn.le _ _ (zd _ _ _ _ c0);obtain⟨e1,e2,_⟩:=qT hrow;have HI:=hid (ha.drew.con HVI.out);have HW:=hid hW;have HA:=hid ha.new;clear hnb hW hnw hrow hn ha;go_upto_region 7 with fail
   rw[<-HW.out];go_region_with (refine HI.out.mono ?_;rintro e w5 ⟨⟨bb,rfl,hbb⟩,hn5⟩;have HBB:=hid (And.intro hbb hn5);clear hbb hn5)
   all_goals
    go_wp2;go_returns;refine⟨congrArg (λb=>Ending.returned (.bool b)) ?_,za.trans HA.out.drew HBB.out.2⟩;rw[Bool.eq_iff_iff];exact HBB.out.1.trans (HPP.out 0)
  ·go_upto_region 3 with fail
   go_wp2_with fail;refine xh.mono ?_;rintro e wb ⟨rfl,hnb⟩;obtain⟨W,hW⟩:=zex (wb.alloc (.cells #[.iface 283 (.slice kp kn kc),.iface 283 (.slice ep en ec)] 230));obtain⟨hnw,hrow⟩:=gV hW;have hn:=hnb.trans hnw;have ha:Vk l w W wb.heap.size i2 (qu ps 1).reverse (key,.iface 283 (.slice kp kn kc)) (ed,.iface 283 (.slice ep en ec)):=
    ⟨hn,⟨F2,s2,HT2.out.frame (λj e=>hn.block j (HF2.out j e) (λe=>e)) (hn.im _),λj e=>Nat.lt_of_lt_of_le (HF2.out j e) hn.size⟩,⟨_,rfl,HK.out.mono (hn.im _)⟩,⟨_,rfl,HE.out.mono (hn.im _)⟩,hrow⟩
   have e0:=hn.le _ _ (zd _ _ _ _ c1);obtain⟨e1,e2,_⟩:=qT hrow;have HI:=hid (ha.drew.con HVI.out);have HW:=hid hW;have HA:=hid ha.new;clear hnb hW hnw hrow hn ha;go_upto_region 9 with fail
   rw[<-HW.out];go_region_with (refine HI.out.mono ?_;rintro e w5 ⟨⟨bb,rfl,hbb⟩,hn5⟩;have HBB:=hid (And.intro hbb hn5);clear hbb hn5)
   all_goals
    go_wp2;go_returns;refine⟨congrArg (λb=>Ending.returned (.bool b)) ?_,za.trans HA.out.drew HBB.out.2⟩;rw[Bool.eq_iff_iff];exact HBB.out.1.trans (HPP.out 1)
theorem jU.get{w:World}{m:Nat}{us:List zj}(h:jU l w m us rs)(hs:zE zj.name us)(hu:u∈us)(hn:u.name.length<=1000):∃v es,zD Gv w m es/\jt es (⟨u.name,hn⟩:Wz)=some v/\xX l w v (permsOf rs u.roles):=by
 obtain⟨_,es,h1,_,h3,h4⟩:=h;obtain⟨v,hv⟩:=h4 u hu ⟨u.name,hn⟩ rfl;obtain⟨u2,a,b,c⟩:=h3 _ _ hv;have:u2=u:=by have h5:=(qO hs).2 ⟨a,b⟩;rw[(qO hs).2 ⟨hu,rfl⟩]at h5;cases h5;rfl
 subst this;exact⟨v,es,h1,hv,c⟩
theorem UF{w:World}{rev m:Nat}{on:Bool}{us:List zj}{key:Bytes}{kd:Nat}(ha:kT w a rev lg bv on m)(hc:jU l w m us rs)(hs:zE zj.name us)(hbnd:∀j,l j≠0->j<w.heap.size)
  (hpv:∀p∈permsOf rs u.roles,zT p.key p.stop=true)(hu:u∈us)(hn:u.name.length<=1000)(hk:Bs (im l.some w) key kv)(hst:Bs (im l.some w) stop sv)(hkl:key.length<=1000)(hvr:zT key stop=true)(hkd:kd=0\/kd=1):
  Calls prog 186 #[ptr a,zb u.name,kv,sv,.int .i32 kd] w λe w'=>e=.returned (.bool (yX (permsOf rs u.roles) kd key stop))/\za w w':=by
 obtain⟨A,hA⟩:=GG ha;have r1:w.cell? ⟨a,1,none⟩=some lg:=by rw[cell_of_row w a 1 _ _ (0,0) ha];rfl
 have r4:w.cell? ⟨a,4,none⟩=some (.map (some m)):=by rw[cell_of_row w a 4 _ _ (0,0) ha];rfl
 obtain⟨v,es,hm,hg,hp⟩:=hc.get hs hu hn;have hlk:=zD.look (P:=prog) (t:=143) (e:=130) zcS (by kernel_rfl) (z:=.pointer none) (by kernel_rfl) hm ⟨u.name,hn⟩ true;rw[hg]at hlk;unfold Gv at hlk;simp only[if_true]at hlk;have hk0:key≠[]:=λe=>by rw[e]at hvr;simp[zT]at hvr
 unfold zb;generalize permsOf rs u.roles=ps at hp hpv⊢;generalize(⟨u.name.toArray⟩:ByteArray)=sx at hlk⊢;by_cases h0:stop=[]
 ·subst h0;have HC:=hid (uL (lg:=lg) hp hbnd hk hk0 hkl hpv hkd);obtain⟨kp,kn,kc,rfl,hkn⟩:=hk.shape;obtain⟨sp,sn,sc,rfl,hsn⟩:=hst.shape;have hsn:sn=0:=hsn.symm;subst hsn;clear ha hc hs hbnd hpv hk hst hp hm hg;go_enter_defers func186,ntmps186;go_wp2_with (first|(go_at_call 96;go_must (refine(Qr _ _).mono ?_);rintro e w9 ⟨rfl,rfl⟩)|(go_at_call 51;go_must (refine HC.out.mono ?_);rintro e w9 ⟨rfl,hw9⟩));refine leaves_cons (f:=98) (args:= #[.pointer (some A)]) (by simp) (by simp[go_sem]) ?_;refine(QA _ _).mono ?_;rintro e u' w'' ⟨rfl,rfl,rfl⟩;exact⟨_,results_tmp rfl _ _ _,rfl,hw9⟩
 ·have HC:=hid (Vl (lg:=lg) hp hbnd hk hst h0 hvr hkd);obtain⟨kp,kn,kc,rfl,hkn⟩:=hk.shape;obtain⟨sp,sn,sc,rfl,hsn⟩:=hst.shape;have hsn0: ¬(sn:Int)=0:=λe=>h0 (List.eq_nil_of_length_eq_zero (by omega));clear ha hc hs hbnd hpv hk hst hp hm hg;go_enter_defers func186,ntmps186;go_wp2_with (first|(go_at_call 96;go_must (refine(Qr _ _).mono ?_);rintro e w9 ⟨rfl,rfl⟩)|(go_at_call 52;go_must (refine HC.out.mono ?_);rintro e w9 ⟨rfl,hw9⟩));refine leaves_cons (f:=98) (args:= #[.pointer (some A)]) (by simp) (by simp[go_sem]) ?_;refine(QA _ _).mono ?_;rintro e u' w'' ⟨rfl,rfl,rfl⟩;exact⟨_,results_tmp rfl _ _ _,rfl,hw9⟩
def ze:Nat->Value
 |1=>.iface 204 (.string {data:= #[97,117,116,104,58,32,114,111,111,116,32,117,115,101,114,32,100,111,101,115,32,110,111,116,32,101,120,105,115,116]})
 |2=>.iface 204 (.string {data:= #[97,117,116,104,58,32,114,111,111,116,32,117,115,101,114,32,100,111,101,115,32,110,111,116,32,104,97,118,101,32,114,111,111,116,32,114,111,108,101]})
 |3=>.iface 204 (.string {data:= #[97,117,116,104,58,32,117,115,101,114,32,97,108,114,101,97,100,121,32,101,120,105,115,116,115]})
 |4=>.iface 204 (.string {data:= #[97,117,116,104,58,32,117,115,101,114,32,110,97,109,101,32,105,115,32,101,109,112,116,121]})
 |5=>.iface 204 (.string {data:= #[97,117,116,104,58,32,117,115,101,114,32,110,111,116,32,102,111,117,110,100]})
 |6=>.iface 204 (.string {data:= #[97,117,116,104,58,32,114,111,108,101,32,97,108,114,101,97,100,121,32,101,120,105,115,116,115]})
 |7=>.iface 204 (.string {data:= #[97,117,116,104,58,32,114,111,108,101,32,110,111,116,32,102,111,117,110,100]})
 |8=>.iface 204 (.string {data:= #[97,117,116,104,58,32,114,111,108,101,32,110,97,109,101,32,105,115,32,101,109,112,116,121]})
 |9=>.iface 204 (.string {data:= #[97,117,116,104,58,32,112,101,114,109,105,115,115,105,111,110,32,110,111,116,32,103,105,118,101,110]})
 |10=>.iface 204 (.string {data:= #[97,117,116,104,58,32,112,101,114,109,105,115,115,105,111,110,32,100,101,110,105,101,100]})
 |11=>.iface 204 (.string {data:= #[97,117,116,104,58,32,114,111,108,101,32,105,115,32,110,111,116,32,103,114,97,110,116,101,100,32,116,111,32,116,104,101,32,117,115,101,114]})
 |12=>.iface 204 (.string {data:= #[97,117,116,104,58,32,112,101,114,109,105,115,115,105,111,110,32,105,115,32,110,111,116,32,103,114,97,110,116,101,100,32,116,111,32,116,104,101,32,114,111,108,101]})
 |13=>.iface 204 (.string {data:= #[97,117,116,104,58,32,97,117,116,104,101,110,116,105,99,97,116,105,111,110,32,105,115,32,110,111,116,32,101,110,97,98,108,101,100]})
 |14=>.iface 204 (.string {data:= #[97,117,116,104,58,32,114,101,118,105,115,105,111,110,32,105,110,32,104,101,97,100,101,114,32,105,115,32,111,108,100]})
 |15=>.iface 204 (.string {data:= #[97,117,116,104,58,32,105,110,118,97,108,105,100,32,97,117,116,104,32,109,97,110,97,103,101,109,101,110,116]})
 |_=>.nilIface
structure yD(s:zA):Prop where
 pv:∀r∈s.roles,∀p∈r.perms,p.kind<=2/\zT p.key p.stop=true
 ps:∀r∈s.roles,r.perms.Pairwise λa b=> ¬zt b.key a.key<0
 ur:∀u∈s.users,zM u.roles
 on2:s.on=true->2<=s.rev
 pos:1<=s.rev
structure Yb(l:zu)(w:World)(a:Nat)(I:zN)(s:zA)(A:yu)(ab m:Nat)(lg:Value):Prop where
 idle:V8 l w I (s.db A)
 kv:yq A s.on s.rev
 row:kT w a s.rev lg (.iface 149 (ptr ab)) s.on m
 abe:qe l w ab 136 I.be 151
 cache:jU l w m s.users s.roles
 lab:l a=12
 fine:ya s
 sane:yD s
def Zn(l:zu)(w:World)(a:Nat)(I:zN)(s:zA):Prop:=∃A ab m lg,Yb l w a I s A ab m lg
variable{A:yu}{ab:Nat}
theorem Yb.bnd{w:World}{I:zN}{s:zA}{m:Nat}(h:Yb l w a I s A ab m lg):∀j,l j≠0->j<w.heap.size:=h.idle.bnd
theorem Yb.keep{w:World}{I:zN}{s:zA}{m:Nat}(h:Yb l w a I s A ab m lg)(hc:qF l w l' w')(hk:∀j,l j=12\/l j=13\/l j=15->w'.heap[j]? =w.heap[j]?):Yb l' w' a I s A ab m lg where
 idle:=k7.client h.idle hc
 kv:=h.kv
 row:=h.row.keep (hk a (Or.inl h.lab))
 abe:=h.abe.client hc
 cache:=h.cache.keep hc.le λj e=>⟨hc.old j (h.bnd j (by omega)),hk j (Or.inr e)⟩
 lab:=by rw[hc.old a h.row.lt,h.lab]
 fine:=h.fine
 sane:=h.sane
theorem Yb.new{w:World}{I:zN}{s:zA}{m:Nat}(h:Yb l w a I s A ab m lg)(hn:za w w'):Yb l w' a I s A ab m lg:=
 h.keep (qF.ofNew h.bnd hn) λj e=>hn.block j (h.bnd j (by omega)) λe=>e
theorem Zn.keep{w:World}{I:zN}{s:zA}(h:Zn l w a I s)(hc:qF l w l' w')(hk:∀j,l j=12\/l j=13\/l j=15->w'.heap[j]? =w.heap[j]?):Zn l' w' a I s:=by obtain⟨A,ab,m,lg,h⟩:=h;exact⟨A,ab,m,lg,h.keep hc hk⟩
theorem Zn.new{w:World}{I:zN}{s:zA}(h:Zn l w a I s)(hn:za w w'):Zn l w' a I s:=by obtain⟨A,ab,m,lg,h⟩:=h;exact⟨A,ab,m,lg,h.new hn⟩
theorem Zn.bnd{w:World}{I:zN}{s:zA}(h:Zn l w a I s):∀j,l j≠0->j<w.heap.size:=by obtain⟨A,ab,m,lg,h⟩:=h;exact h.bnd
theorem zB.s{w:World}(h:zB l w l' w'):zr l w l' w':=⟨h.mod.mono λj _ e=>⟨e.1,by have:=e.2;omega⟩,h.old,h.bnd⟩
theorem zN.to{I J:zN}(h:I.same J){w:World}(ha:qe l w ab 136 I.be 151):qe l w ab 136 J.be 151:=by rw[h.1];exact ha
theorem Yb.moved{w:World}{I J:zN}{s:zA}{m:Nat}(h:Yb l w a I s A ab m lg)(hs:zB l w l' w')(hJ:I.same J)(hi:V8 l' w' J (s.db A)):Yb l' w' a J s A ab m lg where
 idle:=hi
 kv:=h.kv
 row:=h.row.keep (hs.mod.block a h.row.lt λe=>by have:=e.2;have:=h.lab;omega)
 abe:=zN.to hJ (h.abe.step hs)
 cache:=h.cache.step h.bnd hs.s
 lab:=by rw[hs.old a h.row.lt,h.lab]
 fine:=h.fine
 sane:=h.sane
theorem UG{s:zA}(h:yD s)(ls:List Bytes):∀p∈permsOf s.roles ls,zT p.key p.stop=true:=by
 intro p hp;obtain⟨r,_,hr⟩:=List.mem_flatMap.1 hp;unfold yx at hr;cases hg:qU zm.name s.roles r with
 |none=>rw[hg]at hr;cases hr
 |some x=>
  rw[hg]at hr;unfold qU at hg;split at hg
  ·exact(h.pv x (List.mem_of_getElem? hg) p hr).2
  ·cases hg
theorem QB{w:World}{c:Array Value}(h:w.heap[a]? =some (.cells c 146 (0,0))):∃A,(partAt ⟨a,0,none⟩ 4 33).run prog w=.ok A w:=
 Qq h (s:=5) (x:=0) (y:=40) (by kernel_rfl) (by decide) 4 33 (by kernel_rfl) (by kernel_rfl)
theorem zad{w:World}{rev m:Nat}{on:Bool}(ha:kT w a rev lg bv on m):Calls prog 160 #[ptr a] w λe w'=>e=.returned (.bool on)/\w=w':=by
 obtain⟨A,hA⟩:=QB ha;have r3:w.cell? ⟨a,3,none⟩=some (.bool on):=by rw[cell_of_row w a 3 _ _ (0,0) ha];rfl
 clear ha;go_enter_defers func160,ntmps160;go_wp2_with (go_at_call 96;go_must (refine(Qr _ _).mono ?_);rintro e w9 ⟨rfl,rfl⟩);refine leaves_cons (f:=98) (args:= #[.pointer (some A)]) (by simp) (by simp[go_sem]) ?_;refine(QA _ _).mono ?_;rintro e u' w'' ⟨rfl,rfl,rfl⟩;exact⟨_,results_tmp rfl _ _ _,rfl,rfl⟩
theorem Vm{w:World}{rev m:Nat}{on:Bool}(ha:kT w a rev lg bv on m):Calls prog 54 #[ptr a] w λe w'=>e=.returned (.int .u64 rev)/\w=w':=by
 have r0:w.cell? ⟨a,0,none⟩=some (.int .u64 rev):=by rw[cell_of_row w a 0 _ _ (0,0) ha];rfl
 clear ha;go_enter func54,ntmps54;go_wp2;go_returns;exact⟨rfl,rfl⟩
theorem QC(x:Nat)(W:World):(method 608 149 (ptr x) "ReadTx").run prog W=.ok (214,ptr x) W:=by kernel_rfl
theorem kt(x:Nat)(W:World):(method 608 424 (ptr x) "RLock").run prog W=.ok (290,ptr x) W:=by kernel_rfl
theorem jm(x:Nat)(W:World):(method 608 424 (ptr x) "RUnlock").run prog W=.ok (291,ptr x) W:=by kernel_rfl
theorem kI(x:Nat)(W:World):(nilAhead 608 424 (ptr x) "RUnlock").run prog W=.ok (some false) W:=by kernel_rfl
theorem kJ(x:Nat)(W:World):(invoke (.fn (.method "RUnlock") #[]) #[.iface 424 (ptr x)]).run prog W=.ok (.enter 291 #[ptr x]) W:=by kernel_rfl
theorem zB.own{w:World}(hb:∀j,l j≠0->j<w.heap.size)(hm:zo l.own w w'):zB l w l w':=⟨hm,λ_ _=>rfl,λb hlt=>by
 by_cases e:l b=0
 ·omega
 ·have:=hb b e;omega,λb e=>Nat.lt_of_lt_of_le (hb b e) hm.size⟩
noncomputable def QD(s:zA)(n:Bytes)(rv kd:Nat)(key stop:Bytes):Nat:=
 if s.on=false then 0 else if rv=0 then 4 else if rv<s.rev then 14
 else match s.user n with
  |none=>10
  |some u=>if u.root then 0 else if yX (s.permsOf u) kd key stop then 0 else 10
theorem gW{w:World}{I:zN}{s:zA}{n key:Bytes}{rv kd:Nat}(h:Zn l w a I s)(hn:n.length<=1000)(hrv:rv<=1000)(hk:Bs (im l.some w) key kv)(hst:Bs (im l.some w) stop sv)(hkl:key.length<=1000)(hvr:zT key stop=true)(hkd:kd=0\/kd=1):
  Calls prog 180 #[ptr a,zb n,.int .u64 rv,kv,sv,.int .i32 kd] w λe w'=>e=.returned (ze (QD s n rv kd key stop))/\∃l',zr l w l' w'/\Zn l' w' a I s:=by
 obtain⟨A,ab,m,lg,h⟩:=h;have hon:=zad h.row;have hrev:=Vm h.row;have r2:w.cell? ⟨a,2,none⟩=some (.iface 149 (ptr ab)):=by rw[cell_of_row w a 2 _ _ (0,0) h.row];rfl
 have hb:=vG h.idle h.abe;have H:=hid h;have HON:=hid hon;have HREV:=hid hrev;have HB:=hid hb;have hs0:zr l w l w:=zr.refl h.bnd;have HS0:=hid hs0;have m1:=QC;have m2:=kt;have m3:=jm;have n3:=kI;clear h hon hrev hb hs0;obtain⟨ans,hans⟩:∃x,QD s n rv kd key stop=x:=⟨_,rfl⟩;rw[hans];have HANS:=hid hans;clear hans;by_cases c1:s.on=false
 ·obtain rfl:ans=0:=by rw[<-HANS.out];unfold QD;rw[if_pos c1]
  rw[c1]at HON;go_enter_defers func180,ntmps180;go_wp2_with fail;refine HON.out.mono ?_;rintro e w1 ⟨rfl,rfl⟩;go_wp2;exact⟨_,results_tmp rfl _ _ _,rfl,l,HS0.out,_,_,_,_,H.out⟩
 ·have c1n:=c1;have c1:s.on=true:=by simpa using c1
  rw[c1]at HON;by_cases c2:rv=0
  ·subst c2;obtain rfl:ans=4:=by rw[<-HANS.out];unfold QD;rw[if_neg c1n,if_pos rfl]
   go_enter_defers func180,ntmps180;go_wp2_with fail;refine HON.out.mono ?_;rintro e w1 ⟨rfl,rfl⟩;go_wp2;exact⟨_,results_tmp rfl _ _ _,rfl,l,HS0.out,_,_,_,_,H.out⟩
  ·have c2i: ¬(rv:Int)=0:=by omega
   by_cases c3:rv<s.rev
   ·obtain rfl:ans=14:=by rw[<-HANS.out];unfold QD;rw[if_neg c1n,if_neg c2,if_pos c3]
    have c3i:(rv:Int)<s.rev:=by omega
    go_enter_defers func180,ntmps180;go_wp2_with fail;refine HON.out.mono ?_;rintro e w1 ⟨rfl,rfl⟩;go_wp2_with fail;refine HREV.out.mono ?_;rintro e w1 ⟨rfl,rfl⟩;go_wp2;exact⟨_,results_tmp rfl _ _ _,rfl,l,HS0.out,_,_,_,_,H.out⟩
   ·have hrest:ans=(match s.user n with|none=>10|some u=>if u.root then 0 else if yX (s.permsOf u) kd key stop then 0 else 10):=by rw[<-HANS.out];unfold QD;rw[if_neg c1n,if_neg c2,if_neg c3]
    have HREST:=hid hrest;clear hrest;have c3i: ¬(rv:Int)<s.rev:=by omega
    have HKV:=hid hk;have HST:=hid hst;clear hk hst;obtain⟨o,ho⟩:∃o,s.user n=o:=⟨_,rfl⟩;rw[ho]at HREST;have HO:=hid (show qU zj.name s.users n=o from ho);clear ho;go_enter_defers func180,ntmps180;go_wp2_with fail;refine HON.out.mono ?_;rintro e w1 ⟨rfl,rfl⟩;go_wp2_with fail;refine HREV.out.mono ?_;rintro e w1 ⟨rfl,rfl⟩;go_wp2_with fail;refine HB.out.mono ?_;rintro e w1 ⟨x,rfl,hn1,hx,hax⟩;have h1:=H.out.new hn1;have HRL:=hid (xr h1.idle hax);have HUS:=hid ((QZ (x:=x) (I:=I) h1.fine h1.kv).user l w1 n ⟨h1.idle,hax⟩ hn);have H1:=hid h1;have HN1:=hid hn1;have HAX:=hid hax;clear h1 hn1 hax;go_wp2_with fail;refine HRL.out.mono ?_;rintro e w2 ⟨rfl,rfl⟩;unfold zb at HUS;go_wp2_with fail;refine HUS.out.mono ?_;rintro e w2 ⟨r,rfl,⟨hi2,hax2⟩,hm2,hg2⟩;have hst2:zB l w1 l w2:=zB.own H1.out.bnd hm2;have h2:=H1.out.moved hst2 (zN.same_refl I) hi2
    have hs2:zr l w l w2:=(zr.new H.out.bnd HN1.out).trans hst2.s;have HS2:=hid hs2;have H2:=hid h2;have HAX2:=hid hax2;have hi:=kJ x;rw[HO.out]at hg2;have HG:=hid hg2;have HM1:=H1.out.bnd;clear hi2 hm2 hg2 hst2 h2 hs2;cases o with
    |none=>have hg:=HG.out;cases hg;obtain rfl:ans=10:=HREST.out;go_wp2;refine leaves_cons (f:=291) (args:= #[ptr x]) (by simp) (hi _) ?_;refine(ye H2.out.idle HAX2.out).mono ?_;rintro e u' w'' ⟨rfl,rfl,rfl⟩;exact⟨_,results_tmp rfl _ _ _,rfl,l,HS2.out,_,_,_,_,H2.out⟩
    |some u=>
     obtain⟨b,rfl,hbw,hua⟩:=HG.out.at HM1;have hmem:=qk H2.out.fine.us HO.out;have hnm:u.name=n:=((qO H2.out.fine.us).1 HO.out).2;have huk:=H2.out.fine.uok u hmem;have hrise:=H2.out.sane.ur u hmem;have HR:=hid (Vj (zd _ _) hua hrise huk.roles);have HU:=hid hua;have HMEM:=hid hmem;have HNM:=hid hnm;clear hua hmem hnm hrise;by_cases c4:u.root=true
     ·rw[c4]at HR;obtain rfl:ans=0:=by rw[HREST.out];show(if u.root=true then 0 else _)=0;rw[if_pos c4]
      go_wp2_with fail;refine HR.out.mono ?_;rintro e w3 ⟨rfl,hw3⟩;go_wp2;refine leaves_cons (f:=291) (args:= #[ptr x]) (by simp) (hi _) ?_;refine(ye (H2.out.new hw3).idle (HAX2.out.new hw3)).mono ?_;rintro e u' w'' ⟨rfl,rfl,rfl⟩;refine⟨_,results_tmp rfl _ _ _,?_,l,HS2.out.trans (zr.new H2.out.bnd hw3),_,_,_,_,H2.out.new hw3⟩;rfl
     ·have c4':u.root=false:=by simpa using c4
      rw[c4']at HR;go_wp2_with fail;refine HR.out.mono ?_;rintro e w3 ⟨rfl,hw3⟩;have h3:=H2.out.new hw3;have hle:=(HS2.out.trans (zr.new H2.out.bnd hw3)).le;have HP:=hid (UF h3.row h3.cache h3.fine.us h3.bnd (UG h3.sane u.roles) HMEM.out huk.name (HKV.out.mono hle) (HST.out.mono hle) hkl hvr hkd);rw[HNM.out]at HP;have H3:=hid h3;have HAX3:=hid (HAX2.out.new hw3);have HS3:=hid (HS2.out.trans (zr.new H2.out.bnd hw3));clear h3 hle hw3;obtain⟨pv,hpv⟩:=zex (yX (permsOf s.roles u.roles) kd key stop);rw[<-hpv]at HP;have HPV:=hid hpv;clear hpv;cases pv
      ·obtain rfl:ans=10:=by
        rw[HREST.out];show(if u.root=true then 0 else if yX (permsOf s.roles u.roles) kd key stop=true then 0 else 10)=10;rw[if_neg c4,<-HPV.out];rfl
       go_wp2_with fail;refine HP.out.mono ?_;rintro e w4 ⟨rfl,hw4⟩;go_wp2;refine leaves_cons (f:=291) (args:= #[ptr x]) (by simp) (hi _) ?_;refine(ye (H3.out.new hw4).idle (HAX3.out.new hw4)).mono ?_;rintro e u' w'' ⟨rfl,rfl,rfl⟩;refine⟨_,results_tmp rfl _ _ _,?_,l,HS3.out.trans (zr.new H3.out.bnd hw4),_,_,_,_,H3.out.new hw4⟩;rfl
      ·obtain rfl:ans=0:=by
        rw[HREST.out];show(if u.root=true then 0 else if yX (permsOf s.roles u.roles) kd key stop=true then 0 else 10)=0;rw[if_neg c4,<-HPV.out];rfl
       go_wp2_with fail;refine HP.out.mono ?_;rintro e w4 ⟨rfl,hw4⟩;go_wp2;refine leaves_cons (f:=291) (args:= #[ptr x]) (by simp) (hi _) ?_;refine(ye (H3.out.new hw4).idle (HAX3.out.new hw4)).mono ?_;rintro e u' w'' ⟨rfl,rfl,rfl⟩;refine⟨_,results_tmp rfl _ _ _,?_,l,HS3.out.trans (zr.new H3.out.bnd hw4),_,_,_,_,H3.out.new hw4⟩;rfl
def vl(w:World)(b:Nat)(n:Bytes)(rv:Nat):Prop:=w.heap[b]? =some (.cells #[zb n,.int .u64 rv] 153 (0,0))
def QE(l:zu)(w:World)(a:Nat)(I:zN)(s:zA)(n:Nat)(e:Ending)(w':World):Prop:=e=.returned (ze n)/\∃l',zr l w l' w'/\Zn l' w' a I s
theorem QE.undrew{w:World}{I:zN}{s:zA}{e:Ending}(h:QE l w.drew a I s n e w'):QE l w a I s n e w':=by obtain⟨h1,l',h2,h3⟩:=h;exact⟨h1,l',⟨zo.trans (za.mod (za.refl w).drew _) h2.mod λ_ _ e=>e,h2.old,h2.bnd⟩,h3⟩
theorem Y2{w:World}{I:zN}{s:zA}{n key:Bytes}{rv:Nat}(h:Zn l w a I s)(hib:vl w ib n rv)(hn:n.length<=1000)(hrv:rv<=1000)(hk:Bs (im l.some w) key kv)(hkl:key.length<=1000)(hvr:zT key []=true):
  Calls prog 162 #[ptr a,ptr ib,kv] w (QE l w a I s (QD s n rv 1 key [])):=by
 have hd:za w w.drew:=(za.refl w).drew;have HI:=hid (gW (h.new hd) hn hrv (hk.mono (hd.im _)) (Bs.nil _) hkl hvr (show 1=0\/1=1 by decide));obtain⟨i0,i1,_⟩:=qT hib;generalize QD s n rv 1 key []=ans at HI⊢;obtain⟨kp,kn,kc,rfl,hkn⟩:=hk.shape;clear h hib hk;unfold zb at HI i0;generalize(⟨n.toArray⟩:ByteArray)=sx at HI i0;go_enter func162,ntmps162;go_wp2_with fail;go_region_with (refine HI.out.mono ?_;rintro e w5 ⟨rfl,hs5⟩;have HS5:=hid hs5;clear hs5)
 all_goals
  go_wp2;go_returns;exact QE.undrew ⟨rfl,HS5.out⟩
theorem Yc{w:World}{I:zN}{s:zA}{n key:Bytes}{rv:Nat}(h:Zn l w a I s)(hib:vl w ib n rv)(hn:n.length<=1000)(hrv:rv<=1000)(hk:Bs (im l.some w) key kv)(hst:Bs (im l.some w) stop sv)(hkl:key.length<=1000)(hvr:zT key stop=true):
  Calls prog 163 #[ptr a,ptr ib,kv,sv] w (QE l w a I s (QD s n rv 0 key stop)):=by
 have hd:za w w.drew:=(za.refl w).drew;have HI:=hid (gW (h.new hd) hn hrv (hk.mono (hd.im _)) (hst.mono (hd.im _)) hkl hvr (show 0=0\/0=1 by decide));obtain⟨i0,i1,_⟩:=qT hib;generalize QD s n rv 0 key stop=ans at HI⊢;obtain⟨kp,kn,kc,rfl,hkn⟩:=hk.shape;obtain⟨sp,sn,sc,rfl,hsn⟩:=hst.shape;clear h hib hk hst;unfold zb at HI i0;generalize(⟨n.toArray⟩:ByteArray)=sx at HI i0;go_enter func163,ntmps163;go_wp2_with fail;go_region_with (refine HI.out.mono ?_;rintro e w5 ⟨rfl,hs5⟩;have HS5:=hid hs5;clear hs5)
 all_goals
  go_wp2;go_returns;exact QE.undrew ⟨rfl,HS5.out⟩
theorem xL{w:World}{I:zN}{s:zA}{n key:Bytes}{rv:Nat}(h:Zn l w a I s)(hib:vl w ib n rv)(hn:n.length<=1000)(hrv:rv<=1000)(hk:Bs (im l.some w) key kv)(hst:Bs (im l.some w) stop sv)(hkl:key.length<=1000)(hvr:zT key stop=true):
  Calls prog 161 #[ptr a,ptr ib,kv,sv] w (QE l w a I s (QD s n rv 1 key stop)):=by
 have hd:za w w.drew:=(za.refl w).drew;have HI:=hid (gW (h.new hd) hn hrv (hk.mono (hd.im _)) (hst.mono (hd.im _)) hkl hvr (show 1=0\/1=1 by decide));obtain⟨i0,i1,_⟩:=qT hib;generalize QD s n rv 1 key stop=ans at HI⊢;obtain⟨kp,kn,kc,rfl,hkn⟩:=hk.shape;obtain⟨sp,sn,sc,rfl,hsn⟩:=hst.shape;clear h hib hk hst;unfold zb at HI i0;generalize(⟨n.toArray⟩:ByteArray)=sx at HI i0;go_enter func161,ntmps161;go_wp2_with fail;go_region_with (refine HI.out.mono ?_;rintro e w5 ⟨rfl,hs5⟩;have HS5:=hid hs5;clear hs5)
 all_goals
  go_wp2;go_returns;exact QE.undrew ⟨rfl,HS5.out⟩
theorem uM(x:Nat)(W:World):(nilAhead 608 424 (ptr x) "UnsafeGetUser").run prog W=.ok (some false) W:=by kernel_rfl
theorem Y3(x:Nat)(W:World):(method 608 424 (ptr x) "UnsafeGetUser").run prog W=.ok (295,ptr x) W:=by kernel_rfl
def QF(s:zA)(n:Bytes):Nat:=
 if s.on=false then 0 else if n=[]then 4
 else match s.user n with
  |none=>5
  |some u=>if u.root then 0 else 10
theorem UH{w:World}{I:zN}{s:zA}{n:Bytes}{rv:Nat}(h:Zn l w a I s)(hib:vl w ib n rv)(hn:n.length<=1000):
  Calls prog 159 #[ptr a,ptr ib] w (QE l w a I s (QF s n)):=by
 obtain⟨A,ab,m,lg,h⟩:=h;have hon:=zad h.row;have r2:w.cell? ⟨a,2,none⟩=some (.iface 149 (ptr ab)):=by rw[cell_of_row w a 2 _ _ (0,0) h.row];rfl
 obtain⟨i0,_⟩:=qT hib;have hb:=vG h.idle h.abe;have H:=hid h;have HON:=hid hon;have HB:=hid hb;have HIB:=hid i0;have HS0:=hid (zr.refl h.bnd);have m1:=QC;have m2:=kt;have m3:=jm;have n3:=kI;have n4:=uM;have m4:=Y3;clear h hon hb hib;obtain⟨ans,hans⟩:∃x,QF s n=x:=⟨_,rfl⟩;rw[hans];have HANS:=hid hans;clear hans;by_cases c1:s.on=false
 ·obtain rfl:ans=0:=by rw[<-HANS.out];unfold QF;rw[if_pos c1]
  rw[c1]at HON;go_enter_defers func159,ntmps159;go_wp2_with fail;refine HON.out.mono ?_;rintro e w1 ⟨rfl,rfl⟩;go_wp2;exact⟨_,results_tmp rfl _ _ _,rfl,l,HS0.out,_,_,_,_,H.out⟩
 ·have c1n:=c1;have c1:s.on=true:=by simpa using c1
  rw[c1]at HON;by_cases c2:n=[]
  ·subst c2;obtain rfl:ans=4:=by rw[<-HANS.out];unfold QF;rw[if_neg c1n,if_pos rfl]
   have i0':w.cell? ⟨ib,0,none⟩=some (.string {data:= #[]}):=i0;clear i0;go_enter_defers func159,ntmps159;go_wp2_with fail;refine HON.out.mono ?_;rintro e w1 ⟨rfl,rfl⟩;go_wp2;exact⟨_,results_tmp rfl _ _ _,rfl,l,HS0.out,_,_,_,_,H.out⟩
  ·have hrest:ans=(match s.user n with|none=>5|some u=>if u.root then 0 else 10):=by rw[<-HANS.out];unfold QF;rw[if_neg c1n,if_neg c2]
   have HREST:=hid hrest;clear hrest;obtain⟨o,ho⟩:∃o,s.user n=o:=⟨_,rfl⟩;rw[ho]at HREST;have HO:=hid (show qU zj.name s.users n=o from ho);clear ho;have hne:((⟨n.toArray⟩:ByteArray).toList==[])=false:=by rw[ByteArray.toList_eq];simpa using c2
   obtain⟨sx,hsx⟩:=zex ((⟨n.toArray⟩:ByteArray));unfold zb at i0;rw[<-hsx]at i0 hne;have HSX:=hid hsx;clear hsx;go_enter_defers func159,ntmps159;go_wp2_with fail;refine HON.out.mono ?_;rintro e w1 ⟨rfl,rfl⟩;go_wp2_with fail;refine HB.out.mono ?_;rintro e w1 ⟨x,rfl,hn1,hx,hax⟩;have h1:=H.out.new hn1;have j0:=hn1.le _ _ i0;have HRL:=hid (xr h1.idle hax);have hd:za w1 w1.drew:=(za.refl w1).drew;have HUS:=hid ((QZ (x:=x) (I:=I) h1.fine h1.kv).user l w1.drew n ⟨(h1.new hd).idle,hax.new hd⟩ hn);have H1:=hid (h1.new hd);have HN1:=hid (hn1.drew);clear h1 hn1 hax hd;unfold zb at HUS;rw[<-HSX.out]at HUS;go_wp2_with fail;refine HRL.out.mono ?_;rintro e w2 ⟨rfl,rfl⟩;go_wp2_with fail;refine wp_region_noPanic ?_;go_region_with (refine HUS.out.mono ?_;rintro e w2 ⟨r,rfl,⟨hi2,hax2⟩,hm2,hg2⟩;have HALL:=hid (And.intro hi2 (And.intro hax2 (And.intro hm2 hg2)));clear hi2 hax2 hm2 hg2)
   all_goals refine NoPanic.normal ?_
   all_goals
    obtain⟨hi2,hax2,hm2,hg2⟩:=HALL.out;rw[HO.out]at hg2;have hst2:=zB.own H1.out.bnd hm2;have h2:=H1.out.moved hst2 (zN.same_refl I) hi2;have hs2:zr l w l w2:=(zr.new H.out.bnd HN1.out).trans hst2.s;have HS2:=hid hs2;have H2:=hid h2;have HAX2:=hid hax2;have hi:=kJ x;have HG:=hid hg2;have HM1:=H1.out.bnd;clear hi2 hm2 hg2 hst2 h2 hs2 hax2;cases o with
    |none=>have hg:=HG.out;cases hg;obtain rfl:ans=5:=HREST.out;go_wp2;refine leaves_cons (f:=291) (args:= #[ptr x]) (by simp) (hi _) ?_;refine(ye H2.out.idle HAX2.out).mono ?_;rintro e u' w'' ⟨rfl,rfl,rfl⟩;exact⟨_,results_tmp rfl _ _ _,rfl,l,HS2.out,_,_,_,_,H2.out⟩
    |some u=>
     obtain⟨b,rfl,hbw,hua⟩:=HG.out.at HM1;have hmem:=qk H2.out.fine.us HO.out;have huk:=H2.out.fine.uok u hmem;have hrise:=H2.out.sane.ur u hmem;have HR:=hid (Vj (zd _ _) hua hrise huk.roles);clear hua hmem hrise huk;by_cases c4:u.root=true
     ·rw[c4]at HR;obtain rfl:ans=0:=by rw[HREST.out];show(if u.root=true then 0 else _)=0;rw[if_pos c4]
      go_wp2_with fail;refine HR.out.mono ?_;rintro e w3 ⟨rfl,hw3⟩;go_wp2;refine leaves_cons (f:=291) (args:= #[ptr x]) (by simp) (hi _) ?_;refine(ye (H2.out.new hw3).idle (HAX2.out.new hw3)).mono ?_;rintro e u' w'' ⟨rfl,rfl,rfl⟩;exact⟨_,results_tmp rfl _ _ _,rfl,l,HS2.out.trans (zr.new H2.out.bnd hw3),_,_,_,_,H2.out.new hw3⟩
     ·obtain rfl:ans=10:=by rw[HREST.out];show(if u.root=true then 0 else 10)=10;rw[if_neg c4]
      have c4':u.root=false:=by simpa using c4
      rw[c4']at HR;go_wp2_with fail;refine HR.out.mono ?_;rintro e w3 ⟨rfl,hw3⟩;go_wp2;refine leaves_cons (f:=291) (args:= #[ptr x]) (by simp) (hi _) ?_;refine(ye (H2.out.new hw3).idle (HAX2.out.new hw3)).mono ?_;rintro e u' w'' ⟨rfl,rfl,rfl⟩;exact⟨_,results_tmp rfl _ _ _,rfl,l,HS2.out.trans (zr.new H2.out.bnd hw3),_,_,_,_,H2.out.new hw3⟩
theorem qL(x:Nat)(W:World):(method 608 149 (ptr x) "BatchTx").run prog W=.ok (207,ptr x) W:=by kernel_rfl
theorem qA(x:Nat)(W:World):(method 608 417 (ptr x) "Lock").run prog W=.ok (260,ptr x) W:=by kernel_rfl
theorem vm(x:Nat)(W:World):(method 608 417 (ptr x) "Unlock").run prog W=.ok (261,ptr x) W:=by kernel_rfl
theorem yg(x:Nat)(W:World):(nilAhead 608 417 (ptr x) "Unlock").run prog W=.ok (some false) W:=by kernel_rfl
theorem yh(x:Nat)(W:World):(invoke (.fn (.method "Unlock") #[]) #[.iface 417 (ptr x)]).run prog W=.ok (.enter 261 #[ptr x]) W:=by kernel_rfl
def DB(s:zA)(n r:Bytes):Bool:=match s.user n with|none=>false|some u=>decide (r∈u.roles)
theorem qI(b:zF):zM (jL b):=List.Pairwise.nil
theorem UI{w:World}{I:zN}{s:zA}{n rn:Bytes}(h:Zn l w a I s)(hn:n.length<=1000):
  Calls prog 158 #[ptr a,zb n,zb rn] w λe w'=>e=.returned (.bool (DB s n rn))/\∃l' I',I.same I'/\zr l w l' w'/\Zn l' w' a I' s:=by
 obtain⟨A,ab,m,lg,h⟩:=h;have r2:w.cell? ⟨a,2,none⟩=some (.iface 149 (ptr ab)):=by rw[cell_of_row w a 2 _ _ (0,0) h.row];rfl
 have HB:=hid (qP h.idle h.abe);have H:=hid h;have m1:=qL;have m2:=qA;have m3:=vm;clear h;obtain⟨ans,hans⟩:∃x,DB s n rn=x:=⟨_,rfl⟩;rw[hans];unfold DB at hans;obtain⟨o,ho⟩:∃o,s.user n=o:=⟨_,rfl⟩;rw[ho]at hans;have HANS:=hid hans;have HO:=hid (show qU zj.name s.users n=o from ho);clear hans ho;obtain⟨sr,hsr⟩:=zex ((⟨rn.toArray⟩:ByteArray));unfold zb;rw[<-hsr];have HSR:=hid hsr;clear hsr;obtain⟨sx,hsx⟩:=zex ((⟨n.toArray⟩:ByteArray));rw[<-hsx];have HSX:=hid hsx;clear hsx;go_enter func158,ntmps158;go_wp2_with fail;refine HB.out.mono ?_;rintro e w1 ⟨x,rfl,hn1,hx,hax⟩;have h1:=H.out.new hn1;have HL:=hid (jk h1.idle hax);have HUS:=hid ((vS (x:=x) (I:=I) (pend:=0) (pdel:=0) (us:=jL) h1.fine h1.kv).user l w1 n ⟨h1.idle,hax⟩ hn);have H1:=hid h1;have HN1:=hid hn1;unfold zb at HUS;rw[<-HSX.out]at HUS;clear h1 hn1 hax;go_wp2_with fail;refine HL.out.mono ?_;rintro e w2 ⟨rfl,rfl⟩;go_wp2_with fail
 refine HUS.out.mono ?_;rintro e w2 ⟨r,rfl,⟨hi2,hax2⟩,hm2,hg2⟩;rw[HO.out]at hg2;have hst2:=zB.own H1.out.bnd hm2;have h2:=H1.out.moved hst2 (zN.same_refl I) hi2;have HU:=hid (vF hi2 (by decide) qI hax2);have HS2:=hid ((zr.new H.out.bnd HN1.out).trans hst2.s);have H2:=hid h2;have HG:=hid hg2;have HM1:=H1.out.bnd;clear hi2 hm2 hg2 hst2 h2 hax2;go_wp2_with fail;refine HU.out.mono ?_;rintro e w3 ⟨rfl,l3,I3,hs3,hI3,hi3⟩;have HS3:=hid (HS2.out.trans hs3.s);have H3:=hid (H2.out.moved hs3 hI3 hi3);cases o with
 |none=>have hg:=HG.out;cases hg;obtain rfl:false=ans:=HANS.out;clear hs3 hi3;go_wp2;go_returns;exact⟨rfl,l3,I3,hI3,HS3.out,_,_,_,_,H3.out⟩
 |some u=>
  obtain⟨b,rfl,hbw,hua⟩:=HG.out.at HM1;have hua3:=hua.mono hs3.le;obtain⟨_,_,⟨y,h5,h6⟩,_⟩:=hua3;obtain⟨p,n8,c8,rfl⟩:=h6.shape;have c2:=zd _ _ _ _ h5;have HROW:=hid h6;have hnl:u.roles.length=n8:=by have:=h6.row.1;rw[List.length_map]at this;exact this
  have HNL:=hid hnl;have huk:=H3.out.fine.uok u (qk H3.out.fine.us HO.out);have hn8:n8<=100:=by rw[<-hnl];exact huk.roles
  clear hs3 hi3 hua h5 h6 hnl huk;go_wp2;go_loopw [30] (λc wr=>∃k:Nat,k<=n8/\c=.int .i64 k/\w3=wr/\∀j (hj:j<u.roles.length),j<k->u.roles[j]≠rn) (λc _=>n8-(intOf c).toNat)
  case atStart=>exact⟨0,Nat.zero_le _,rfl,rfl,λj _ h=>absurd h (Nat.not_lt_zero _)⟩
  case round=>
   obtain⟨k,hk,rfl,rfl,hno⟩:=hrel;have HNO:=hid hno;clear hno;by_cases hlt:k<n8
   ·obtain⟨hrl,hrc,hrm,⟨gb,go,rfl,hce⟩|h0⟩:=HROW.out.row
    case inr=>exact absurd h0 (by omega)
    have hku:k<u.roles.length:=by rw[HNL.out];exact hlt
    have ck:=zd _ _ _ _ (hce k (by rw[List.length_map];exact hku));rw[List.getElem_map]at ck;obtain⟨y,hy⟩:∃y,u.roles[k]=y:=⟨_,rfl⟩;rw[hy]at ck;have hcmp:(sr.toList==(⟨y.toArray⟩:ByteArray).toList)=decide (rn=y):=by rw[HSR.out,ByteArray.toList_eq,ByteArray.toList_eq,Bool.eq_iff_iff,beq_iff_eq,decide_eq_true_iff]
    unfold zb at ck;have hkk:(k:Int)<n8:=by omega
    have HY:=hid hy;generalize(⟨y.toArray⟩:ByteArray)=sy at ck hcmp;clear hrl hce hy;by_cases e9:rn=y
    ·rw[decide_eq_true e9]at hcmp;have hans:true=ans:=by
      rw[<-HANS.out];have:rn∈u.roles:=by rw[e9,<-HY.out];exact List.getElem_mem hku
      exact(decide_eq_true this).symm
     obtain rfl:=hans;go_wp2;go_returns;exact⟨rfl,l3,I3,hI3,HS3.out,_,_,_,_,H3.out⟩
    ·rw[decide_eq_false e9]at hcmp;go_wp2;go_roundw
     case rel=>
      refine⟨k+1,by omega,by go_num,(by first|trivial|rfl),λj hj hjk=> ?_⟩;by_cases e:j<k
      ·exact HNO.out j hj e
      ·have:j=k:=by omega
       subst this;rw[HY.out];exact λe=>e9 e.symm
     case measure=>simp[intOf];omega
   ·have hkn:k=n8:=by omega
    subst hkn;have hans:false=ans:=by rw[<-HANS.out];refine(decide_eq_false λhm=> ?_).symm;obtain⟨j,hj,e⟩:=List.getElem_of_mem hm;exact HNO.out j hj (by rw[<-HNL.out];exact hj) e
    obtain rfl:=hans;go_wp2;go_returns;exact⟨rfl,l3,I3,hI3,HS3.out,_,_,_,_,H3.out⟩
def zH.rv(s:zA)(o:zH):Nat:=if o.noUser then 0 else ((s.rev:Int)-o.old).toNat
def zH.who(o:zH):Bytes:=if o.noUser then []else o.user
variable{o:zH}
theorem UJ{s:zA}(hs:yD s)(ho:o.old=0\/o.old=1)(hk:o.kind=15\/o.kind=16\/o.kind=17):
  s.ask o=QD s o.who (o.rv s) (if o.kind=16 then 0 else 1) o.key (if o.kind=15 then []else o.stop):=by
 have h18: ¬o.kind=18:=by omega
 unfold zA.ask QD;by_cases c1:s.on=false
 ·rw[if_pos c1,if_pos c1]
 ·rw[if_neg c1,if_neg c1];have h2:=hs.on2 (by simpa using c1);cases hnu:o.noUser with
  |true=>
   rw[if_pos (Or.inl rfl)];have:o.rv s=0:=by unfold zH.rv;rw[hnu];rfl
   rw[if_pos this]
  |false=>
   have hrv:o.rv s=((s.rev:Int)-o.old).toNat:=by unfold zH.rv;rw[hnu];rfl
   have hwho:o.who=o.user:=by unfold zH.who;rw[hnu];rfl
   rw[if_neg (by simp[h18]),if_neg h18,hwho];rcases ho with e|e
   ·have hr0:o.rv s=s.rev:=by rw[hrv,e];omega
    rw[hr0,if_neg (show ¬0<o.old by omega),if_neg (show ¬s.rev=0 by omega),if_neg (Nat.lt_irrefl _)];cases s.user o.user<;>rfl
   ·have hr0:o.rv s+1=s.rev:=by rw[hrv,e];omega
    rw[if_pos (show 0<o.old by omega),if_neg (show ¬o.rv s=0 by omega),if_pos (show o.rv s<s.rev by omega)]
theorem zae{s:zA}(hk:o.kind=18):s.ask o=QF s o.who:=by
 unfold zA.ask QF;by_cases c1:s.on=false
 ·rw[if_pos c1,if_pos c1]
 ·rw[if_neg c1,if_neg c1];cases hnu:o.noUser with
  |true=>
   rw[if_pos (Or.inl rfl)];have:o.who=[]:=by unfold zH.who;rw[hnu];rfl
   rw[if_pos this]
  |false=>
   have hwho:o.who=o.user:=by unfold zH.who;rw[hnu];rfl
   rw[hwho];by_cases hu:o.user=[]
   ·rw[if_pos (Or.inr ⟨hk,hu⟩),if_pos hu]
   ·rw[if_neg (by simp[hu]),if_neg hu,if_pos hk];cases s.user o.user<;>rfl
theorem fF{w:World}{key:Bytes}(hr:Rd.le r w.cell?)(hk:Bs r key kv)(hs:Bs r stop sv):
  Calls prog 181 #[kv,sv] w λe w'=>e=.returned (.bool (zT key stop))/\w=w':=by
 have hO:=GH hr hs;have hC:=yH (show Z9 w key kv from hk.mono hr) (show Z9 w stop sv from hs.mono hr);obtain⟨kp,kn,kc,rfl,hkn⟩:=hk.shape;obtain⟨sp,sn,sc,rfl,hsn⟩:=hs.shape;obtain⟨v,hv⟩:∃v,zT key stop=v:=⟨_,rfl⟩;rw[hv];have HO:=hid hO;have HC:=hid hC;clear hO hC hk hs;by_cases h0:key=[]
 ·have hk0:kn=0:=by rw[<-hkn,h0];rfl
  subst hk0;obtain rfl:v=false:=by rw[<-hv];simp[zT,h0]
  clear hv;go_enter func181,ntmps181;go_wp2;go_returns;exact⟨rfl,rfl⟩
 ·have hk1: ¬(kn:Int)=0:=λe=>h0 (List.eq_nil_of_length_eq_zero (by omega));by_cases h1:stop=[]
  ·have hs0:sn=0:=by rw[<-hsn,h1];rfl
   subst hs0;obtain rfl:v=true:=by rw[<-hv];simp[zT,h0,h1]
   clear hv;go_enter func181,ntmps181;go_wp2;go_returns;exact⟨rfl,rfl⟩
  ·have hs1: ¬(sn:Int)=0:=λe=>h1 (List.eq_nil_of_length_eq_zero (by omega));have hac:zy key stop=zt key stop:=Zm h0 h1;rw[hac]at HC;by_cases h2:zt key stop<0
   ·have hm1:zt key stop= -1:=by rcases ZE key stop with e|e|e<;>omega
    rw[hm1]at HC;obtain rfl:v=true:=by rw[<-hv];simp[zT,h0,h2]
    clear hv hac h2 hm1;go_enter func181,ntmps181;go_wp2_with fail;refine HC.out.mono ?_;rintro e w1 ⟨rfl,rfl⟩;go_wp2;go_returns;exact⟨rfl,rfl⟩
   ·obtain⟨c,hc⟩:∃c,zt key stop=c:=⟨_,rfl⟩;have hcm: ¬c= -1:=by omega
    rw[hc]at HC;obtain rfl:v=decide (stop=[0]):=by rw[<-hv];simp[zT,h0,h1,h2]
    clear hv hac h2 hc;go_enter func181,ntmps181;go_wp2_with fail;refine HC.out.mono ?_;rintro e w1 ⟨rfl,rfl⟩;go_wp2_with fail;refine HO.out.mono ?_;rintro e w1 ⟨rfl,rfl⟩;go_wp2;go_returns;exact⟨rfl,rfl⟩
end Go.Proofs.YtbmdoinjkligiaaGreat
