/- Contracts and laws that the last text joins. -/
import Derived.Test.YtbmdoinjkligiaaGreatM24
set_option maxRecDepth 100000
set_option maxHeartbeats 40000000
set_option linter.all false
namespace Go.Proofs.YtbmdoinjkligiaaGreat
open Tryz
open Lib(hid)
open Go.RowKit
def Z6(L:List (Nat×zh))(k e:Bytes):List (Nat×zh):=L.filter λp=> !(decide (p.2.key=k) && decide (p.2.stop=e))
theorem JW(L:List (Nat×zh))(k e:Bytes):(Z6 L k e).map (·.2)=jj (L.map (·.2)) k e:=by unfold Z6 jj;rw[List.filter_map];rfl
theorem VK(L:List (Nat×zh))(p:Nat×zh)(k e:Bytes):Z6 (L++[p]) k e=if p.2.key=k/\p.2.stop=e then Z6 L k e else Z6 L k e++[p]:=by
 unfold Z6;rw[List.filter_append];by_cases h:p.2.key=k/\p.2.stop=e
 ·rw[if_pos h];simp[h.1,h.2]
 ·rw[if_neg h];have h2: ¬p.2.key=k\/¬p.2.stop=e:=by
   by_cases h1:p.2.key=k
   ·exact Or.inr λh2=>h ⟨h1,h2⟩
   ·exact Or.inl h1
  simpa using h2
theorem zaO(L:List (Nat×zh))(k e:Bytes):(Z6 L k e).length<=L.length:=List.length_filter_le ..
variable{nv:Value}{ub:Nat}
theorem QN.drewN{w0 w:World}{bs:List Nat}(h:QN w0 w ub nv bs)(n:Nat):QN w0 (w.drewN n) ub nv bs:=⟨h.new.drewN n,h.ge,h.ex⟩
variable{a ec:Nat}{kv:Value}{l:zu}{s':zA}
theorem Xp{w:World}{rb:Nat}{I:zN}{s:zA}{n k e:Bytes}{ev:Value}(h:Zn l w a I s)(hr:QJ s n k e=(s',ec))(hn:n.length<=1000)(h0:im l.some w ⟨rb,0,none⟩=some (zb n))(h1:im l.some w ⟨rb,1,none⟩=some kv)(hk:Bs (im l.some w) k kv)(h2:im l.some w ⟨rb,2,none⟩=some ev)(he:Bs (im l.some w) e ev)
  (hf:ya s')(hs:yD s'):
  Calls prog 170 #[ptr a,ptr rb] w (VZ l w a I s' ec):=by
 obtain⟨A,ab,m,lg,h⟩:=h;have r2:w.cell? ⟨a,2,none⟩=some (.iface 149 (ptr ab)):=by rw[cell_of_row w a 2 _ _ (0,0) h.row];rfl
 have r3:w.cell? ⟨a,3,none⟩=some (.bool s.on):=by rw[cell_of_row w a 3 _ _ (0,0) h.row];rfl
 have d0:=zd _ _ _ _ h0;have HB:=hid (qP h.idle h.abe);have H:=hid h;have H0:=hid h0;have HF:=hid hf;have HS:=hid hs;have HS0:=hid (zr.refl h.bnd);have m1:=qL;have m2:=qA;have m3:=yg;have m4:=yr;have m5:=q9;have m6:=jM;obtain⟨kp,kn,kc,rfl,_⟩:=hk.shape;obtain⟨ep,en,ec2,rfl,_⟩:=he.shape;have HKV:=hid (And.intro h1 hk);have HEV:=hid (And.intro h2 he);clear h h0 h1 h2 hk he hf hs;obtain⟨sx,hsx⟩:=zex ((⟨n.toArray⟩:ByteArray));unfold zb at d0;rw[<-hsx]at d0;have HSX:=hid hsx;clear hsx;obtain⟨o,ho⟩:∃o,s.role n=o:=⟨_,rfl⟩;unfold QJ at hr;rw[ho]at hr;have HOU:=hid (show qU zm.name s.roles n=o from ho);have HRR:=hid hr;clear ho hr;go_enter_defers func170,ntmps170;go_wp2_with fail;refine HB.out.mono ?_;rintro e w1 ⟨x,rfl,hn1,hx,hax⟩;have h1:=H.out.new hn1;have HL:=hid (jk h1.idle hax);have hd:za w1 w1.drew:=(za.refl w1).drew;have j0:=hn1.le _ _ d0;have hmid:=(h1.new hd).mid (hax.new hd)
 have HUS:=hid (ZX h1.fine h1.kv (h1.idle.new hd) (hax.new hd) hn);have H1:=hid (h1.new hd);have HN1:=hid (show za w w1.drew from hn1.drew);have HMID:=hid hmid;unfold zb at HUS;rw[<-HSX.out]at HUS;clear h1 hn1 hax hd hmid;go_wp2_with fail;refine HL.out.mono ?_;rintro e w2 ⟨rfl,rfl⟩;go_wp2_with fail;refine wp_region_noPanic ?_;go_region_with (refine HUS.out.mono ?_;rintro e w2 ⟨r,rfl,hn2,hg2⟩;have HALL:=hid (And.intro hn2 hg2);clear hn2 hg2)
 all_goals refine NoPanic.normal ?_
 all_goals
  obtain⟨hn2,hg2⟩:=HALL.out;rw[HOU.out]at hg2;have hi:=yh x;have HN2:=hid hn2;clear j0;cases o with
  |none=>
   have HNW:=HN2;cases hg2;obtain⟨rfl,rfl⟩:s=s'/\7=ec:=by have:=HRR.out;cases this;exact⟨rfl,rfl⟩
   clear hn2;have HMN:=hid (HMID.out.new HNW.out);have HST:=hid (zr.new H1.out.bnd HNW.out);go_wp2;refine leaves_cons (f:=261) (args:= #[ptr x]) (by simp) (hi _) ?_;refine(qv HMN.out.tx (by decide) qI HMN.out.atx).mono ?_;rintro e u' w'' ⟨rfl,rfl,l3,I3,hs3,hI3,hi3⟩;exact⟨_,results_tmp2 rfl _ _ _,_,rfl,l3,I3,hI3,((zr.new H.out.bnd HN1.out).trans HST.out).trans hs3.s,_,_,_,_,(H1.out.new HNW.out).moved hs3 hI3 hi3⟩
  |some u=>
   obtain⟨b,he,hbw,hra⟩:=hg2.at H1.out.bnd;cases he;obtain⟨⟨nv,u0,u1⟩,pv,ids,u2,u3,u4⟩:=hra;obtain⟨np,nn,nc,rfl,_⟩:=u1.shape;obtain⟨pp,n8,c8,rfl⟩:=u3.shape;have k0:=zd _ _ _ _ u0;have k1:=zd _ _ _ _ u2;obtain⟨L,hL⟩:=zex (ids.zip u.perms);obtain⟨hL1,hL2⟩:=zaI u4;rw[<-hL]at hL1 hL2;have hil:ids.length=n8:=by have:=u3.row.1;rw[List.length_map]at this;exact this
   have hnl:L.length=n8:=by rw[<-hil,<-hL1,List.length_map]
   have huk:=H1.out.fine.rok u (qk H1.out.fine.rs HOU.out);have hpl:u.perms.length=n8:=by rw[<-hL2,List.length_map];exact hnl
   have hn8:n8<=100:=by rw[<-hpl];exact huk.perms
   have hle02:(im l.some w).le (im l.some w2):=(za.im HN1.out _).le_trans (za.im hn2 _);have HE1:=hid (hle02 _ _ HKV.out.1);have HE1B:=hid (HKV.out.2.mono hle02);have HE2:=hid (hle02 _ _ HEV.out.1);have HE2B:=hid (HEV.out.2.mono hle02);have HU1:=hid u1;have HU2:=hid u2;have HU3:=hid u3;have hu4:qy (jx (im l.some w2)) (L.map (·.1)) (L.map (·.2)):=by rw[hL1,hL2];exact u4
   have HU4:=hid hu4;have HL1:=hid hL1;have HL2:=hid hL2;have HNL:=hid hnl;have HPL:=hid hpl;have HUN:=hid (((qO H1.out.fine.rs).1 HOU.out).2);have hb2:∀j,l j≠0->j<w2.heap.size:=λj hj=>Nat.lt_of_lt_of_le (H1.out.bnd j hj) hn2.size;have HB2:=hid hb2;obtain⟨W,hW⟩:=zex (w2.alloc (.cells #[.slice np nn nc,.slice none 0 0] 226));have hK0:QN w2 W w2.heap.size (.slice np nn nc) []:=⟨by rw[hW];exact(za.refl w2).alloc _,Nat.le_refl _,.slice none 0 0,0,by rw[hW];exact zg w2 _,World.ownsRow_nil _ _ _ _,λb e=>by cases e⟩;have k1W:W.cell? ⟨b,1,none⟩=some (.slice pp n8 c8):=by rw[hW];exact za.le ((za.refl w2).alloc _) _ _ k1
   have HK0:=hid hK0;have HW:=hid hW;clear u0 u1 u2 u3 u4 hL hL1 hL2 hil huk hK0 hW hu4 hnl hpl hg2 hn2 hle02 hb2;go_upto_region 8 with fail
   rw[<-HW.out];obtain⟨ub,hube⟩:∃ub,w2.heap.size=ub:=⟨_,rfl⟩;rw[hube]at HK0;have HUBE:=hid hube;rw[hube];clear hube k0 k1;go_wp2;go_loopw [43] (λc wr=>∃i:Nat,i<=n8/\c=.int .i64 i/\QN w2 wr ub (.slice np nn nc) ((Z6 (L.take i) k e).map (·.1))) (λc _=>n8-(intOf c).toNat)
   case atStart=>exact⟨0,Nat.zero_le _,rfl,HK0.out⟩
   case round=>
    obtain⟨i,hi8,rfl,hK⟩:=hrel;by_cases hlt:i<n8
    ·obtain⟨hrl,hrc,hrm,⟨gb,go,rfl,hce⟩|h0⟩:=HU3.out.row
     case inr=>exact absurd h0 (by omega)
     have hiL:i<L.length:=by rw[HNL.out];exact hlt
     have hle:=hK.new.im l.some;have ck:=zd _ _ _ _ (hle _ _ (hce i (by rw[List.length_map,<-HL1.out,List.length_map];exact hiL)));have hids:ids[i]? =some L[i].1:=by rw[<-HL1.out,List.getElem?_map,List.getElem?_eq_getElem hiL];rfl
     rw[List.getElem_map,(List.getElem?_eq_some_iff.1 hids).2]at ck;have hpa:=(jB.1 HU4.out L[i] (List.getElem_mem hiL)).mono hle;obtain⟨⟨q,p⟩,hy⟩:∃y,L[i]=y:=⟨_,rfl⟩;rw[hy]at ck hpa;have htk:L.take (i+1)=L.take i++[(q,p)]:=by rw[<-hy,List.take_append_getElem]
     obtain⟨_,⟨av,a1,a2⟩,⟨bv,a3,a4⟩⟩:=hpa;obtain⟨ap,an,ac,rfl,_⟩:=a2.shape;obtain⟨bp,bn,bc,rfl,_⟩:=a4.shape;have g1:=zd _ _ _ _ a1;have g2:=zd _ _ _ _ a3;have g3:=zd _ _ _ _ (hle _ _ HE1.out);have g4:=zd _ _ _ _ (hle _ _ HE2.out);have B1:=hid (show Z9 wr p.key _ from a2.mono (zd _ _));have B2:=hid (show Z9 wr k _ from(HE1B.out.mono hle).mono (zd _ _));have B3:=hid (show Z9 wr p.stop _ from a4.mono (zd _ _));have B4:=hid (show Z9 wr e _ from(HE2B.out.mono hle).mono (zd _ _));have hkk:(i:Int)<n8:=by omega
     have HTK:=hid htk;have HK:=hid hK;clear hrl hce hy htk hK hle a1 a2 a3 a4 hids;go_upto_region 11 with fail
     go_cut [68]from 47 to 68 (λc wx=>za wr wx/\(∃m,wx=wr.drewN m)/\c=.bool (!(decide (p.key=k) && decide (p.stop=e))))
     case first=>
      by_cases e1:p.key=k
      ·have f1:(p.key==k)=true:=by rw[e1];exact beq_self_eq_true k
       by_cases e2:p.stop=e
       ·have f2:(p.stop==e)=true:=by rw[e2];exact beq_self_eq_true e
        go_wp2;go_quiet (first|(go_at_call 100;exact zw (qh (by exact B1.out) (by exact B2.out)))|(go_at_call 100;exact zw (qh (by exact B3.out) (by exact B4.out))));go_wp2;go_meet;exact⟨(za.refl wr).drewN nq,⟨nq,rfl⟩,by rw[decide_eq_true e1,decide_eq_true e2];first|rfl|simp[f1,f2]⟩
       ·have f2:(p.stop==e)=false:=by simpa using e2
        go_wp2;go_quiet (first|(go_at_call 100;exact zw (qh (by exact B1.out) (by exact B2.out)))|(go_at_call 100;exact zw (qh (by exact B3.out) (by exact B4.out))));go_wp2;go_meet;exact⟨(za.refl wr).drewN nq,⟨nq,rfl⟩,by rw[decide_eq_true e1,decide_eq_false e2];first|rfl|simp[f1,f2]⟩
      ·have f1:(p.key==k)=false:=by simpa using e1
       go_wp2;go_quiet (first|(go_at_call 100;exact zw (qh (by exact B1.out) (by exact B2.out)))|(go_at_call 100;exact zw (qh (by exact B3.out) (by exact B4.out))));go_wp2;go_meet;exact⟨(za.refl wr).drewN nq,⟨nq,rfl⟩,by rw[decide_eq_false e1];first|rfl|simp[f1]⟩
     case rest=>
      obtain⟨hnx,⟨mm,hmm⟩,rfl⟩:=hcut;have hKx:QN w2 wc ub (.slice np nn nc) ((Z6 (L.take i) k e).map (·.1)):=by rw[hmm];exact HK.out.drewN mm
      have HKX:=hid hKx;clear hKx hnx hmm ck g1 g2 g3 g4;by_cases e9:p.key=k/\p.stop=e
      ·rw[decide_eq_true e9.1,decide_eq_true e9.2];go_wp2;go_roundw
       case rel=>exact⟨i+1,by omega,by go_num,by rw[HTK.out,VK,if_pos e9];exact HKX.out⟩
       case measure=>simp[intOf];omega
      ·have hff9:(!(decide (p.key=k) && decide (p.stop=e)))=true:=by
        by_cases e1:p.key=k
        ·have: ¬p.stop=e:=λe2=>e9 ⟨e1,e2⟩;simp[this]
        ·simp[e1]
       rw[hff9];obtain⟨hnew,hge,rv,m5',hrow,hown,hfr⟩:=HKX.out;obtain⟨x0,x1,z0,z1⟩:=qT hrow;have HBD:Hid (((((Z6 (L.take i) k e).map (·.1)).map ptr).length+[ptr q].length)*(8+1)<=140737488355328):=hid (by have:=zaO (L.take i) k e;rw[List.length_take]at this;rw[List.length_map,List.length_map,List.length_singleton];omega)
       have x1a:∀ob,(wc.alloc ob).cell? ⟨ub,1,none⟩=some rv:=λob=>za.le ((za.refl wc).alloc ob) _ _ x1;have HROW:=hid hrow;have HFR:=hid hfr;have HNEW:=hid hnew;have HOWN:=hid hown;clear hnew hrow hown hfr hff9;go_wp2_with (at_builtin;go_must (refine qN KZ rfl rfl (World.ownsRow.alloc HOWN.out _) rfl rfl (news:=[ptr q]) (Sl.made wc [ptr q] _ 1 1 rfl (by omega)) gG HBD.out ?_));intro v5 w5 ho hg hf5;obtain⟨p7,n7,c7,rfl⟩:=(Sl.of_own ho).shape;rw[<-List.map_map]at ho;obtain⟨hrow5,hK5⟩:=QN.app (HNEW.out.alloc _) hge (za.heap (show za wc _ from(za.refl wc).alloc _) HROW.out) HFR.out ho hg (λb e=>(hf5 b e).imp (λe1=>e1) λe1=>Nat.le_trans (Nat.le_of_eq (Array.size_push ..)) e1);obtain⟨_,y1,_,y1z⟩:=qT hrow5;have HK5:=hid hK5;clear ho hg hf5 hrow5 hK5;go_wp2;go_roundw
       case rel=>exact⟨i+1,by omega,by go_num,by rw[HTK.out,VK,if_neg e9,List.map_append];exact HK5.out⟩
       case measure=>simp[intOf];omega
    ·have hkn:i=n8:=by omega
     subst hkn;have htk:L.take L.length=L:=List.take_length;rw[HNL.out]at htk;rw[htk]at hK;have hdl:(Z6 L k e).length=(jj u.perms k e).length:=by rw[<-HL2.out,<-JW,List.length_map]
     obtain⟨hnew,hge,rv,m5',hrow,hown,hfr⟩:=id hK;obtain⟨rp,rn5,rc,rfl⟩:=(Sl.of_own hown).shape;have hrl:(jj u.perms k e).length=rn5:=by have:=(Sl.of_own hown).row.1;rw[List.length_map,List.length_map,hdl]at this;exact this
     obtain⟨x0,x1,z0,z1⟩:=qT hrow;have q1:=zd _ _ _ _ (hnew.im l.some _ _ HU2.out);have HK:=hid hK;have HRL:=hid hrl;clear hK hnew hrow hown hfr hrl htk hdl k1W;by_cases hmem:(jj u.perms k e).length=u.perms.length
     ·have hlen:rn5=i:=by rw[<-HRL.out,hmem,HPL.out]
      subst hlen;obtain⟨rfl,rfl⟩:s=s'/\12=ec:=by have h9:(if (jj u.perms k e).length=u.perms.length then (s,12)else (s.putRole ⟨u.name,jj u.perms k e⟩,0))=(s',ec):=HRR.out;rw[if_pos hmem]at h9;cases h9;exact⟨rfl,rfl⟩
      have hnw:za w1.drew wr.drew:=HN2.out.trans HK.out.new.drew;have HNW:=hid hnw;have HMN:=hid (HMID.out.new hnw);clear hnw;go_wp2_with fail;refine wp_region_noPanic ?_;go_region
      all_goals refine NoPanic.normal ?_
      all_goals
       go_wp2;refine leaves_cons (f:=261) (args:= #[ptr x]) (by simp) (hi _) ?_;refine(qv HMN.out.tx (by decide) qI HMN.out.atx).mono ?_;rintro e u' w'' ⟨rfl,rfl,l3,I3,hs3,hI3,hi3⟩;exact⟨_,results_tmp2 rfl _ _ _,_,rfl,l3,I3,hI3,((zr.new H.out.bnd HN1.out).trans (zr.new H1.out.bnd HNW.out)).trans hs3.s,_,_,_,_,(H1.out.new HNW.out).moved hs3 hI3 hi3⟩
     ·have hlen:rn5≠i:=λe9=>hmem (by rw[HRL.out,HPL.out,e9]);have hlen2: ¬((i:Int)=rn5):=by omega
      obtain⟨rfl,rfl⟩:s.putRole ⟨u.name,jj u.perms k e⟩=s'/\0=ec:=by have h9:(if (jj u.perms k e).length=u.perms.length then (s,12)else (s.putRole ⟨u.name,jj u.perms k e⟩,0))=(s',ec):=HRR.out;rw[if_neg hmem]at h9;cases h9;exact⟨rfl,rfl⟩
      have hps:qy (jx (im l.some w2)) ((Z6 L k e).map (·.1)) (jj u.perms k e):=by rw[<-HL2.out,<-JW];exact jB.2 λp hp=>jB.1 HU4.out p (List.mem_filter.1 hp).1
      have hat:jz (im l.some wr) ub ⟨u.name,jj u.perms k e⟩:=HK.out.role (λj e=>HB2.out j e) HU1.out hps;have hd9:za wr wr.drew:=(za.refl wr).drew;have hnw:za w1.drew wr.drew:=(HN2.out.trans HK.out.new).trans hd9;have hff:=HF.out;have hfu:ya {s with roles:=yT zm.name s.roles ⟨u.name,jj u.perms k e⟩}:=⟨hff.us,hff.rs,hff.uok,hff.rok,hff.ul,hff.rl,H.out.fine.rev⟩;have huok:kD ⟨u.name,jj u.perms k e⟩:=hff.rok _ ((qB H.out.fine.rs).2 (Or.inl rfl));have HPU:=hid (xY (HMID.out.new hnw) (by decide) (by decide) (hat.mono (hd9.im _)) huok hfu);have HSW:=hid ((zr.new H.out.bnd HN1.out).trans (zr.new H1.out.bnd hnw));have HFR:=hid (show s.rev+1<200 from hff.rev);clear hat hd9 hnw hff hfu huok hlen hps;go_wp2_with fail;refine wp_region_noPanic ?_;go_region
      all_goals refine NoPanic.normal ?_
      all_goals
       go_wp2_with fail;refine HPU.out.mono ?_;rintro e w4 ⟨rfl,l4,hs4,hm4⟩;have HS4:=hid (HSW.out.trans hs4.s);have HC4:=hid (yE hm4 (by decide) (by simp[kB,jL]) HFR.out);clear hs4 hm4;go_wp2_with fail;refine HC4.out.mono ?_;rintro e w5 ⟨rfl,l5,A5,hs5,hm5⟩;have HS5:=hid (HS4.out.trans hs5);have HC5:=hid (qY hm5 HS.out);clear hs5 hm5;go_wp2_with fail;refine HC5.out.mono ?_;rintro e w6 ⟨rfl,l6,m6,hs6,hm6,hc6⟩;have HS6:=hid (HS5.out.trans hs6);have HM6:=hid (And.intro hm6 hc6);clear hs6 hm6 hc6;go_wp2;have hnq:∀o,za w6 (w6.alloc o):=λo=>(za.refl w6).alloc o;refine leaves_cons (f:=261) (args:= #[ptr x]) (by simp) (hi _) ?_;refine(yJ (HM6.out.1.new (hnq _)) HS.out (HM6.out.2.step HM6.out.1.bnd (zr.new HM6.out.1.bnd (hnq _))) (by decide) (jV (by decide) _)).mono ?_;rintro e u' w'' ⟨rfl,rfl,l7,I7,hI7,hs7,hs8⟩
       exact⟨_,results_tmp2 rfl _ _ _,_,rfl,l7,I7,hI7,(HS6.out.trans (zr.new HM6.out.1.bnd (hnq _))).trans hs7,hs8⟩
theorem Jc(a:Nat)(W:World):(method 608 142 (ptr a) "RoleRevokePermission").run prog W=.ok (170,ptr a) W:=by kernel_rfl
variable{o:zH}{x:Nat}
theorem dF{w:World}{I:zN}{s:zA}(h:Wd l w x I a s)(hk:o.kind=12)(hr:QJ s o.role o.key o.stop=(s',ec))(hn:o.role.length<=1000)(hkl:o.key.length<=1000)(hsl:o.stop.length<=1000)(hf:ya s')(hs:yD s'):
  Calls prog 42 #[ptr x,o.val] w (Yd l w x I s' ec):=by
 obtain⟨ki,us,ro,pk,ke,st,np,od,nu⟩:=o;dsimp only at hk hr hn hkl hsl;subst hk;unfold zH.val zH.cells;dsimp only;obtain⟨c0,c1,c2,_⟩:=vZ h.row;obtain⟨rx,hrx⟩:∃z,zb ro=.string z:=⟨_,rfl⟩;obtain⟨kx,hkx⟩:∃z,zb ke=.string z:=⟨_,rfl⟩;obtain⟨sx,hsx⟩:∃z,zb st=.string z:=⟨_,rfl⟩;obtain⟨cc,hcc⟩:=zex (#[.int .i64 12,zb us,zb ro,.int .i64 pk,zb ke,zb st,.bool np,.int .i64 od,.bool nu]);obtain⟨w1,hw1⟩:=zex (w.alloc (.cells cc 35));have hn1:za w w1:=by rw[hw1];exact(za.refl w).alloc _
 have hs1:w1.heap.size=w.heap.size+1:=by rw[hw1];exact Array.size_push ..
 have hb0:w1.heap[w.heap.size]? =some (.cells cc 35 (0,0)):=by rw[hw1];exact zg w _
 have d2:=hn1.le _ _ c2;have g0:w1.cell? ⟨w.heap.size,0,none⟩=some (.int .i64 12):=by rw[cell_of_row w1 _ 0 _ _ (0,0) hb0,hcc];rfl
 have g2:w1.cell? ⟨w.heap.size,2,none⟩=some (.string rx):=by rw[cell_of_row w1 _ 2 _ _ (0,0) hb0,hcc,hrx];rfl
 have g4:w1.cell? ⟨w.heap.size,4,none⟩=some (.string kx):=by rw[cell_of_row w1 _ 4 _ _ (0,0) hb0,hcc,hkx];rfl
 have g5:w1.cell? ⟨w.heap.size,5,none⟩=some (.string sx):=by rw[cell_of_row w1 _ 5 _ _ (0,0) hb0,hcc,hsx];rfl
 obtain⟨kn,kc,wa,sn,sc,wa2,ra,ra2,na1,na,la,la2,ba,ba2⟩:=Y8 w1.drew (a:=ke) (b:=st) (by omega) (by omega);obtain⟨tn,tc,wb,un,uc,wb2,rb,rb2,nb1,nb,lb,lb2,hbb1,hbb2⟩:=Y8 w1.drew (a:=st) (b:=ke) (by omega) (by omega);have hzz:w1.drew.heap.size=w1.heap.size:=rfl;rw[hzz]at ra rb la lb ba hbb1;have hz0:l w.heap.size=0:=by
  by_cases e:l w.heap.size=0
  ·exact e
  ·have:=h.st.bnd _ e;omega
 have hC:∀(W2:World) (kb sb kn kc sn sc:Nat),za w1 W2->Bs W2.cell? ke (.slice (some ⟨kb,0,none⟩) kn kc)->Bs W2.cell? st (.slice (some ⟨sb,0,none⟩) sn sc)->w1.heap.size<=kb->w1.heap.size<=sb->
   Calls prog 170 #[ptr a,ptr W2.heap.size] (W2.alloc (.cells #[.string rx,.slice (some ⟨kb,0,none⟩) kn kc,.slice (some ⟨sb,0,none⟩) sn sc] 202)) λe w'=>∃v,e=.returned (.tuple #[v,ze ec])/\(∃l' I' a',I'.db=I.db/\qG l w l' w'/\Wd l' w' x I' a' s')/\w'.cell? ⟨x,2,none⟩=some (.iface 142 (ptr a))/\w'.cell? ⟨w.heap.size,2,none⟩=some (.string rx)/\w'.cell? ⟨w.heap.size,4,none⟩=some (.string kx)/\w'.cell? ⟨w.heap.size,5,none⟩=some (.string sx):=λW2 kb sb kn kc sn sc hn2 hbk hbs hkb hsb=>by
  obtain⟨W,hW⟩:=zex (W2.alloc (.cells #[.string rx,.slice (some ⟨kb,0,none⟩) kn kc,.slice (some ⟨sb,0,none⟩) sn sc] 202));rw[<-hW];have hn3:za W2 W:=by rw[hW];exact(za.refl W2).alloc _
  have hb3:W.heap[W2.heap.size]? =some (.cells #[.string rx,.slice (some ⟨kb,0,none⟩) kn kc,.slice (some ⟨sb,0,none⟩) sn sc] 202 (0,0)):=by rw[hW];exact zg W2 _
  obtain⟨q0,q1,q2,_⟩:=vZ hb3;have hz1: ¬l.some W2.heap.size:=λe=>by have:=h.st.bnd _ e;have:=hn2.size;omega
  have hnW:za w W:=(hn1.trans hn2).trans hn3;refine(Xp (h.new hnW).st hr hn (rb:=W2.heap.size) (zi.2 ⟨hz1,by rw[hrx];exact q0⟩) (zi.2 ⟨hz1,q1⟩) ((hbk.mono hn3.le).im_of λj e e2=> ?_) (zi.2 ⟨hz1,q2⟩) ((hbs.mono hn3.le).im_of λj e e2=> ?_) hf hs).mono λe w' hc=> ?_
  ·have e:kb=j:=by simpa[Value.ownBlock]using e
   have:=h.st.bnd _ e2;omega
  ·have e:sb=j:=by simpa[Value.ownBlock]using e
   have:=h.st.bnd _ e2;omega
  ·obtain⟨v,he,hend,k2,kp⟩:=VZ.w h hnW hc;have hle:=(hn2.trans hn3).le;exact⟨v,he,hend,k2,kp _ _ hz0 (hle _ _ g2),kp _ _ hz0 (hle _ _ g4),kp _ _ hz0 (hle _ _ g5)⟩
 have HA:=hid (hC wa2 _ _ kn kc sn sc (za.undrew na) ba ba2 (Nat.le_refl _) (Nat.le_of_lt la));have HB:=hid (hC wb2 _ _ un uc tn tc (za.undrew nb) hbb2 hbb1 (Nat.le_of_lt lb) (Nat.le_refl _));have HW1:=hid hw1;have HCC:=hid hcc;have hme:=Jc a;rw[hkx]at ra rb2;rw[hsx]at ra2 rb;obtain⟨a1,a2,a4,a5⟩:=And.intro (na1.le _ _ d2) (And.intro (na1.le _ _ g2) (And.intro (na1.le _ _ g4) (na1.le _ _ g5)));obtain⟨b1,b2,b4,b5⟩:=And.intro (nb1.le _ _ d2) (And.intro (nb1.le _ _ g2) (And.intro (nb1.le _ _ g4) (nb1.le _ _ g5)));obtain⟨aa1,aa2,aa4,aa5⟩:=And.intro (na.le _ _ d2) (And.intro (na.le _ _ g2) (And.intro (na.le _ _ g4) (na.le _ _ g5)));obtain⟨bb1,bb2,bb4,bb5⟩:=And.intro (nb.le _ _ d2) (And.intro (nb.le _ _ g2) (And.intro (nb.le _ _ g4) (nb.le _ _ g5)));clear h hcc hrx hkx hsx hn1 hz0 hC hr hf hs hb0 na nb na1 nb1 ba ba2 hbb1 hbb2 la la2 lb lb2 hzz hs1;obtain⟨ob,hob⟩:=zex (w.heap.size)
 rw[<-hob]at g0 g2 g4 g5 a2 a4 a5 b2 b4 b5 aa2 aa4 aa5 bb2 bb4 bb5;have HOB:=hid hob;go_enter func42,ntmps42;go_upto_region 2 with fail
 rw[<-HCC.out,<-HW1.out,<-hob];clear c0 c1 c2 hob hw1;obtain⟨va,hva⟩:=zex (Value.agg cc);rw[<-hva];clear hva;go_wp2_with fail;go_region_held (λw'=>w'.cell? ⟨x,2,none⟩=some (.iface 142 (ptr a))/\w'.cell? ⟨ob,2,none⟩=some (.string rx)/\w'.cell? ⟨ob,4,none⟩=some (.string kx)/\w'.cell? ⟨ob,5,none⟩=some (.string sx)) (first|go_keep|(refine⟨?_,?_,?_,?_⟩<;>assumption)) (first|(go_at_call 170;(first|(with_reducible refine HA.out.mono ?_)|(with_reducible refine HB.out.mono ?_));rintro e w9 ⟨v,rfl,hend,k2,k2x,k4x,k5x⟩;rw[<-HOB.out]at k2x k4x k5x;have HEND:=hid hend;clear hend))
 all_goals
  go_wp2;go_returns;exact⟨rfl,HEND.out⟩
theorem VN(a:Nat)(W:World):(method 608 142 (ptr a) "HasRole").run prog W=.ok (158,ptr a) W:=by kernel_rfl
theorem za4{w:World}{I:zN}{s:zA}(h:Wd l w x I a s)(hk:o.kind=19)(hn:o.user.length<=1000):
  Calls prog 33 #[ptr x,o.val] w (fZ l w x I (s,⟨0,s.rev,s.on,DB s o.user o.role,[],[]⟩)):=by
 obtain⟨ki,us,ro,pk,ke,st,np,od,nu⟩:=o;dsimp only at hk hn;subst hk;unfold zH.val zH.cells;dsimp only;obtain⟨yes,hyes⟩:=zex (DB s us ro);rw[<-hyes];obtain⟨sx,hsx⟩:∃z,zb us=.string z:=⟨_,rfl⟩;obtain⟨rx,hrx⟩:∃z,zb ro=.string z:=⟨_,rfl⟩;obtain⟨cc,hcc⟩:=zex (#[.int .i64 19,zb us,zb ro,.int .i64 pk,zb ke,zb st,.bool np,.int .i64 od,.bool nu]);obtain⟨l1,H⟩:=yZ.start h cc;obtain⟨W0,hW0⟩:=zex (((w.alloc (.cells cc 35)).alloc (.cells qR 42)).alloc (.cells qR 42));rw[<-hW0]at H;have c2:=H.cell;have g0:W0.cell? ⟨w.heap.size,0,none⟩=some (.int .i64 19):=(H.ocell 0).trans (by rw[hcc];rfl);have g1:W0.cell? ⟨w.heap.size,1,none⟩=some (.string sx):=(H.ocell 1).trans (by rw[hcc,<-hsx];rfl);have g2:W0.cell? ⟨w.heap.size,2,none⟩=some (.string rx):=(H.ocell 2).trans (by rw[hcc,<-hrx];rfl)
 have HC:=hid (show Calls prog 158 #[ptr a,.string sx,.string rx] W0.drew λe w'=>e=.returned (.bool yes)/\(∃l2 I2,yZ l w x I cc l2 w' I2 a s Ko jf jf)/\w'.cell? ⟨x,2,none⟩=some (.iface 142 (ptr a))/\w'.cell? ⟨w.heap.size,1,none⟩=some (.string sx)/\w'.cell? ⟨w.heap.size,2,none⟩=some (.string rx)/\w'.cell? ⟨w.heap.size+1+1,3,none⟩=some (.bool false)/\w'.frozen? ⟨w.heap.size+1+1,3,none⟩=false/\((w'.setCell ⟨w.heap.size+1+1,3,none⟩ (.bool yes)).cell? ⟨x,2,none⟩=some (.iface 142 (ptr a))/\(w'.setCell ⟨w.heap.size+1+1,3,none⟩ (.bool yes)).cell? ⟨w.heap.size,1,none⟩=some (.string sx)/\(w'.setCell ⟨w.heap.size+1+1,3,none⟩ (.bool yes)).cell? ⟨w.heap.size,2,none⟩=some (.string rx))from by
  have hd:za W0 W0.drew:=(za.refl W0).drew;have hc:=UI (rn:=ro) (H.new hd).wd.st hn;rw[hsx,hrx,<-hyes]at hc;refine hc.mono ?_;rintro e w' ⟨rfl,l2,I2,hI,hs,ht⟩;have h2:=H.call hd hs hI ht;exact⟨rfl,⟨l2,I2,h2⟩,h2.cell,(h2.ocell 1).trans (by rw[hcc,<-hsx];rfl),(h2.ocell 2).trans (by rw[hcc,<-hrx];rfl),h2.acell 3,h2.afree 3,(h2.setYes yes).cell,((h2.setYes yes).ocell 1).trans (by rw[hcc,<-hsx];rfl),((h2.setYes yes).ocell 2).trans (by rw[hcc,<-hrx];rfl)⟩)
 have HH:=hid H;have HW0:=hid hW0;have HCC:=hid hcc;have m1:=qd;have m2:=qw;have m3:=VN a;clear h hcc hW0 H hn hyes hsx hrx;go_enter func33,ntmps33;go_upto_region 3 with fail
 rw[<-HCC.out,<-(show qR= #[.int .i64 0,.int .u64 0,.bool false,.bool false,.slice none 0 0,.slice none 0 0]from rfl),<-HW0.out];obtain⟨va,hva⟩:=zex (Value.agg cc);obtain⟨vz,hvz⟩:=zex (Value.agg qR);rw[<-hva,<-hvz];clear hva hvz;go_wp2_with fail;go_region_held3 (λw'=>w'.cell? ⟨x,2,none⟩=some (.iface 142 (ptr a))/\w'.cell? ⟨w.heap.size,1,none⟩=some (.string sx)/\w'.cell? ⟨w.heap.size,2,none⟩=some (.string rx)) (first|assumption|go_keep) (first|(go_at_call 158;refine HC.out.mono ?_;rintro e w9 ⟨rfl,hend,k2,k1x,k2x,ka,kz,kS⟩;have HEND:=hid hend;clear hend))
 all_goals
  obtain⟨l2,I2,h2⟩:=HEND.out;obtain⟨W2,hW2⟩:=zex (w9.setCell ⟨w.heap.size+1+1,3,none⟩ (.bool yes));have h2':=h2.setYes yes;rw[<-hW2]at h2';have H2:=hid h2';have HW2:=hid hW2;clear h2 h2' c2 g0 g1 g2 k2 k1x k2x ka kz kS HEND
  first|rw[<-hW2]|(go_upto_region 37 with fail;rw[<-hW2])
  clear hW2;obtain⟨ec,hec0⟩:∃e:Nat,e=0:=⟨_,rfl⟩;have HEC0:=hid hec0;have HEC:=hid (show ec<=15 by omega);have HEV0:=hid (show ze ec=.nilIface from by rw[hec0];rfl);clear hec0;obtain⟨W3,hW3⟩:=zex (W2.setCell ⟨w.heap.size+1+1,0,none⟩ (.int .i64 (ec:Nat)));have h3:=H2.out.setErr (ec);rw[<-hW3]at h3;obtain⟨W4,hW4⟩:=zex (W3.setCell ⟨w.heap.size+1+1,1,none⟩ (.int .u64 (s.rev:Nat)));have h4:=h3.setRev s.rev;rw[<-hW4]at h4;obtain⟨W5,hW5⟩:=zex (W4.setCell ⟨w.heap.size+1+1,2,none⟩ (.bool s.on));have h5:=h4.setOn s.on;rw[<-hW5]at h5;have a0:=H2.out.acell 0;have z0:=H2.out.afree 0;have b0:W3.cell? ⟨w.heap.size,0,none⟩=some (.int .i64 19):=(h3.ocell 0).trans (by rw[HCC.out];rfl);have HK:=hid (show Calls prog 43 #[.nilIface] W2 _ from by rw[<-HEV0.out];exact vq (w:=W2) HEC.out);have HR:=hid h3.rev;have HO:=hid h4.on;have H3:=hid h3;have H4:=hid h4;have H5:=hid h5;have HW3:=hid hW3;have HW4:=hid hW4
  have HW5:=hid hW5;clear h3 h4 h5 hW3 hW4 hW5;have a0:W2.cell? ⟨w.heap.size+1+1,0,none⟩=some (.int .i64 0):=a0;go_wp2_with fail;refine HK.out.mono ?_;rintro e w9 ⟨rfl,rfl⟩;go_upto_region 38 with fail
  rw[<-HW3.out];clear a0 z0;have q2:=H3.out.cell;have a1:W3.cell? ⟨w.heap.size+1+1,1,none⟩=some (.int .u64 0):=H3.out.acell 1;have z1:=H3.out.afree 1;go_wp2_with fail;refine HR.out.mono ?_;rintro e w9 ⟨rfl,rfl⟩;go_upto_region 41 with fail
  rw[<-HW4.out];clear q2 a1 z1;have q2:=H4.out.cell;have a2:W4.cell? ⟨w.heap.size+1+1,2,none⟩=some (.bool false):=H4.out.acell 2;have z2:=H4.out.afree 2;go_wp2_with fail;refine HO.out.mono ?_;rintro e w9 ⟨rfl,rfl⟩;go_upto_region 42 with fail
  rw[<-HW5.out];clear q2 a2 z2;have k0:=H5.out.acell 0;have r0:=H5.out.rcell 0;have f0:=H5.out.rfree 0;have k1:=H5.out.acell 1;have r1:=H5.out.rcell 1;have f1:=H5.out.rfree 1;have k2:=H5.out.acell 2;have r2:=H5.out.rcell 2;have f2:=H5.out.rfree 2;have k3:=H5.out.acell 3;have r3:=H5.out.rcell 3;have f3:=H5.out.rfree 3;have k4:=H5.out.acell 4;have r4:=H5.out.rcell 4;have f4:=H5.out.rfree 4;have k5:=H5.out.acell 5;have r5:=H5.out.rcell 5;have f5:=H5.out.rfree 5;simp only[xH,qR,Ko,jf,List.getElem?_toArray,List.getElem?_cons_zero,List.getElem?_cons_succ]at k0 k1 k2 k3 k4 k5 r0 r1 r2 r3 r4 r5;go_wp2;exact H5.out.leave (by rw[HEC0.out];rfl) rfl rfl
end Go.Proofs.YtbmdoinjkligiaaGreat
