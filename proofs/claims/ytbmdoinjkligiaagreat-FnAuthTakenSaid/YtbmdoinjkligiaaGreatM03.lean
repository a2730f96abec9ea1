/- Contracts and laws that the last text joins. -/
import Derived.Test.YtbmdoinjkligiaaGreatM02
set_option maxRecDepth 100000
set_option maxHeartbeats 40000000
set_option linter.all false
namespace Go.Proofs.YtbmdoinjkligiaaGreat
open Tryz
open Lib(hid)
open Go.RowKit
variable{rc v:Value}
theorem VX{D:World->Prop}{T:TypeId}{g:FuncId}{n:Int}(h:GM D T v g rc n)(hn:n<=1000){w:World}{a m b mid:Int}(hw:D w)(h0:0<=a)(h1:a<m)(h2:m<b)(h3:b<=n)
  (e1':(m-a==1)=false)(e2':(b-m==1)=false)(SI:(a+b)/2=mid)(Hl:a<mid)(Hq:mid<b)(hY:m<=mid)
  (Hv:∀w1,za w w1->m<mid->Calls prog 118 #[.iface T v,.int .i64 a,.int .i64 m,.int .i64 mid] w1 λe w'=>e=.returned (.tuple #[])/\za w1 w'):
  Calls prog 118 #[.iface T v,.int .i64 a,.int .i64 m,.int .i64 b] w λe w'=>e=.returned (.tuple #[])/\za w w':=by
 have Hm:=h.meth;have PT:=h.nil;have PN:=h.enter;have H:=hid h;have HW:=hid hw;have pj:=hid Hv;clear Hv;clear h hw;go_enter func118,ntmps118;go_wp2;go_loopw [18,19,21] (λi j _ wr=>∃k:Int,a<=k/\k<=m/\i=.int .i64 k/\j=.int .i64 m/\za w wr) (λi _ _ _=>(m-intOf i).toNat)
 case atStart=>exact⟨a,by omega,by omega,rfl,rfl,za.refl w⟩
 case round=>
  obtain⟨k,rh,se,rfl,rfl,hD⟩:=hrel;have HD:=hid hD;clear hD;by_cases Hb:k<m
  ·obtain⟨q,hq,pY,PL⟩:∃q:Int,(k+m)/2=q/\k<=q/\q<m:=⟨(k+m)/2,rfl,by omega,by omega⟩;go_wp2_with (refine(H.out.ge _ _ _ (H.out.new _ _ HW.out HD.out) (by omega) (by omega) (by omega)).mono ?_;rintro e w1 ⟨rfl,PS⟩;have S6:=hid PS;clear PS);go_roundw
   case rel=>exact⟨q+1,by omega,by omega,by go_num,rfl,HD.out.trans S6.out⟩
   case measure=>simp[intOf];omega
  ·obtain rfl:k=m:=by omega
   have em:mid+k-k=mid:=by omega
   by_cases cN:k<mid
   ·go_wp2_with fail;refine(pj.out _ HD.out cN).mono ?_;rintro e w2 ⟨rfl,h2⟩;have H2:=hid (HD.out.trans h2);clear h2;go_wp2;go_returns;exact⟨rfl,H2.out⟩
   ·go_wp2;go_returns;exact⟨rfl,HD.out⟩
theorem ZD{D:World->Prop}{T:TypeId}{v rc:Value}{g:FuncId}{n:Int}(h:GM D T v g rc n)(hn:n<=1000):∀(f:Nat) (w:World) (a m b:Int) (_:D w) (_:(b-a).toNat<=f) (_:0<=a) (_:a<m) (_:m<b) (_:b<=n),
  Calls prog 118 #[.iface T v,.int .i64 a,.int .i64 m,.int .i64 b] w λe w'=>e=.returned (.tuple #[])/\za w w'
 |0,w,a,m,b,hw,hf,h0,h1,h2,h3=>by omega
 |f+1,w,a,m,b,hw,hf,h0,h1,h2,h3=>by
  have IH:=hid (ZD h hn f);have Hm:=h.meth;have PT:=h.nil;have PN:=h.enter;have H:=hid h;have HW:=hid hw;clear h hw;by_cases e1:m-a=1
  ·have t1:(m-a==1)=true:=by rw[e1];rfl
   have g1:m<=a+1:=by omega
   clear e1;go_enter func118,ntmps118;go_wp2;go_loopw [8,9,10] (λi j _ wr=>∃k:Int,m<=k/\k<=b/\i=.int .i64 m/\j=.int .i64 k/\za w wr) (λ_ j _ _=>(intOf j-m).toNat)
   case atStart=>exact⟨b,by omega,by omega,rfl,rfl,za.refl w⟩
   case round=>
    obtain⟨k,rh,se,rfl,rfl,hD⟩:=hrel;have HD:=hid hD;clear hD;by_cases Hb:m<k
    ·obtain⟨q,hq,pY,PL⟩:∃q:Int,(m+k)/2=q/\m<=q/\q<k:=⟨(m+k)/2,rfl,by omega,by omega⟩;go_wp2_with (refine(H.out.ge _ _ _ (H.out.new _ _ HW.out HD.out) (by omega) (by omega) (by omega)).mono ?_;rintro e w1 ⟨rfl,PS⟩;have S6:=hid PS;clear PS);go_roundw
     case rel=>exact⟨q,by omega,by omega,rfl,rfl,HD.out.trans S6.out⟩
     case measure=>simp[intOf];omega
    ·go_wp2;refine wp_loop_once ?_;go_wp2;go_returns;exact⟨rfl,HD.out⟩
  ·by_cases e2:b-m=1
   ·have t1:(m-a==1)=false:=by simp;omega
    have t2:(b-m==1)=true:=by rw[e2];rfl
    have g2:b<=m+1:=by omega
    clear e2 e1;go_enter func118,ntmps118;go_wp2;go_loopw [12,13,14] (λi j _ wr=>∃k:Int,a<=k/\k<=m/\i=.int .i64 k/\j=.int .i64 m/\za w wr) (λi _ _ _=>(m-intOf i).toNat)
    case atStart=>exact⟨a,by omega,by omega,rfl,rfl,za.refl w⟩
    case round=>
     obtain⟨k,rh,se,rfl,rfl,hD⟩:=hrel;have HD:=hid hD;clear hD;by_cases Hb:k<m
     ·obtain⟨q,hq,pY,PL⟩:∃q:Int,(k+m)/2=q/\k<=q/\q<m:=⟨(k+m)/2,rfl,by omega,by omega⟩;go_wp2_with (refine(H.out.ge _ _ _ (H.out.new _ _ HW.out HD.out) (by omega) (by omega) (by omega)).mono ?_;rintro e w1 ⟨rfl,PS⟩;have S6:=hid PS;clear PS);go_roundw
      case rel=>exact⟨q+1,by omega,by omega,by go_num,rfl,HD.out.trans S6.out⟩
      case measure=>simp[intOf];omega
     ·obtain rfl:k=m:=by omega
      go_wp2;refine wp_loop_once ?_;go_wp2;go_returns;exact⟨rfl,HD.out⟩
   ·obtain⟨mid,SI,Hl,Hq⟩:∃mid:Int,(a+b)/2=mid/\a<mid/\mid<b:=⟨(a+b)/2,rfl,by omega,by omega⟩;have e1':(m-a==1)=false:=by simp;omega
    have e2':(b-m==1)=false:=by simp;omega
    clear e1 e2;by_cases mB:mid<m
    ·
     have Hv:∀w1,za w w1->Calls prog 118 #[.iface T v,.int .i64 mid,.int .i64 m,.int .i64 b] w1 λe w'=>e=.returned (.tuple #[])/\za w1 w':=λw1 hQ=>IH.out w1 mid m b (H.out.new _ _ HW.out hQ) (by omega) (by omega) mB h2 h3;have pj:=hid Hv;clear Hv;have hs:mid+m-b<=mid:=by omega
     have St:a<=mid+m-b:=by omega
     go_enter func118,ntmps118;go_wp2;go_loopw [18,19,21] (λi j _ wr=>∃k:Int,mid+m-b<=k/\k<=mid/\i=.int .i64 k/\j=.int .i64 mid/\za w wr) (λi _ _ _=>(mid-intOf i).toNat)
     case atStart=>exact⟨mid+m-b,by omega,by omega,rfl,rfl,za.refl w⟩
     case round=>
      obtain⟨k,rh,se,rfl,rfl,hD⟩:=hrel;have HD:=hid hD;clear hD;by_cases Hb:k<mid
      ·obtain⟨q,hq,pY,PL⟩:∃q:Int,(k+mid)/2=q/\k<=q/\q<mid:=⟨(k+mid)/2,rfl,by omega,by omega⟩;go_wp2_with (refine(H.out.ge _ _ _ (H.out.new _ _ HW.out HD.out) (by omega) (by omega) (by omega)).mono ?_;rintro e w1 ⟨rfl,PS⟩;have S6:=hid PS;clear PS);go_roundw
       case rel=>exact⟨q+1,by omega,by omega,by go_num,rfl,HD.out.trans S6.out⟩
       case measure=>simp[intOf];omega
      ·obtain rfl:k=mid:=by omega
       have em:k+m-k=m:=by omega
       have c1:decide (k<k)=false:=by simp
       go_wp2_with fail;refine(pj.out _ HD.out).mono ?_;rintro e w2 ⟨rfl,h2⟩;have H2:=hid (HD.out.trans h2);clear h2;go_wp2;go_returns;exact⟨rfl,H2.out⟩
    ·exact VX H.out hn HW.out h0 h1 h2 h3 e1' e2' SI Hl Hq (by omega) λw1 hQ cN=>IH.out w1 a m mid (H.out.new _ _ HW.out hQ) (by omega) h0 h1 cN (by omega)
end Go.Proofs.YtbmdoinjkligiaaGreat
