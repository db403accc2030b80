/- Walks: the reference's UTF-8 reader (begins, At, Decode, Valid). -/
import Derived.Test.YtoigpackhninoaaGreatDoorZ19
import Derived.Test.YtoigpackhninoaaGreatDoorZ03
import Derived.Deep.DeepCutAuto
import Derived.IntWalk
import Derived.Laws.IdiomStrings
namespace Go.Proofs.YtoigpackhninoaaGreatDoor
set_option maxRecDepth 100000
set_option maxHeartbeats 16000000
namespace Utf
open Go.RowKit
theorem byte_at {w:World} {B:Nat} {A:Option Addr} {l:Utf.Str} {k:Nat} (h:RowAt byteL w B A l) (hk:k<l.length):∃ad,A=some ad/\ad.block<B/\w.cell? (ad.add k)=some (.int .u8 ((l[k]).toNat:Int)):=by
 obtain⟨ad,h1,h2,h3,_⟩:=h.get hk;refine⟨ad,h1,h2,?_⟩;have:=h3 (.int .u8 ((l[k]).toNat:Int)) rfl;rwa[show k*byteL.sz=k from Nat.mul_one k]at this
theorem row_low (q:Nat) (h:q<192):Utf.rowOf q=(0,0,0,0):=by unfold Utf.rowOf;rw[if_neg (by omega),if_neg (by omega),if_neg (by omega)]
theorem row_high (q:Nat) (h:248<=q):Utf.rowOf q=(0,0,0,0):=by unfold Utf.rowOf;rw[if_neg (by omega),if_neg (by omega),if_neg (by omega)]
theorem begins_one' (l:Utf.Str) (h1:l.length=1) (h0:0<l.length) (hq:(l[0]).toNat<128):Utf.begins l=((l[0]).toNat,1):=by
 cases l with
 |nil=>simp at h0
 |cons c r=>
  have hr:r=[]:=by simpa using h1
  subst hr;unfold Utf.begins;simp only;rw[if_pos ⟨UInt8.lt_iff_toNat_lt.2 (by simpa using hq),by trivial⟩];rfl
def begF (n lo mo len:Nat):Option Nat->Nat×Nat
 |none=>(0,0)
 |some x=>if(Utf.widen (n-len) (x,x)).2<lo\/(Utf.widen (n-len) (x,x)).1>mo\/((Utf.widen (n-len) (x,x)).1>=55296/\(Utf.widen (n-len) (x,x)).2<=57343)then(0,0)else((Utf.widen (n-len) (x,x)).1,n)
theorem begins_more (l:Utf.Str) (h0:0<l.length) (hq:¬((l[0]).toNat<128/\l.length=1)) (n v lo mo:Nat) (hrow:Utf.rowOf (l[0]).toNat=(n,v,lo,mo)):
 Utf.begins l=if l.length>n then(0,0)else begF n lo mo l.length (Utf.goOn v (l.drop 1)):=by
 cases l with
 |nil=>simp at h0
 |cons c r=>
  unfold Utf.begins;simp only;rw[if_neg (fun h=>hq ⟨UInt8.lt_iff_toNat_lt.1 h.1,by simp[h.2]⟩)];have e:Utf.rowOf c.toNat=(n,v,lo,mo):=hrow;rw[e];simp only[List.length_cons,List.drop_succ_cons,List.drop_zero];by_cases hl:r.length+1>n
  ·rw[if_pos hl,if_pos hl]
  ·rw[if_neg hl,if_neg hl];cases Utf.goOn v r<;>rfl
theorem begins_low (l:Utf.Str) (A:Option Addr) (c B:Nat) (h1:l.length=1) (w:World) (hr:RowAt byteL w B A l) (h0:0<l.length) (hq:(l[0]).toNat<128):
 Calls Tryz.prog 131 #[.slice A l.length c] w fun e w'=>e=.returned (.tuple #[.int .i64 ((l[0]).toNat:Int),.int .i64 1])/\w=w':=by
 obtain⟨ad,rfl,_,x0⟩:=byte_at hr h0;have x0:w.cell? ad=some (.int .u8 ((l[0]).toNat:Int)):=by simpa[Addr.add]using x0
 obtain⟨q,hqe⟩:∃q,(l[0]).toNat=q:=⟨_,rfl⟩
 rw[hqe]at x0 hq;rw[hqe];have hqI:(q:Int)<128:=by omega
 rw[h1];clear hr hqe h1;go_enter Tryz.func131,Tryz.ntmps131;go_wp2_with fail;go_ret2;exact⟨rfl,rfl⟩
theorem begins_none (l:Utf.Str) (A:Option Addr) (c B:Nat) (h0:0<l.length) (h4:l.length<=4) (w:World) (hr:RowAt byteL w B A l) (hq:(128<=(l[0]).toNat\/l.length≠1)/\((l[0]).toNat<192\/248<=(l[0]).toNat)) (R:Nat×Nat) (hR:Utf.begins l=R):
 Calls Tryz.prog 131 #[.slice A l.length c] w fun e w'=>e=.returned (.tuple #[.int .i64 (R.1:Int),.int .i64 (R.2:Int)])/\w=w':=by
 obtain⟨ad,rfl,_,x0⟩:=byte_at hr h0;have x0:w.cell? ad=some (.int .u8 ((l[0]).toNat:Int)):=by simpa[Addr.add]using x0
 obtain⟨q,hqe⟩:∃q,(l[0]).toNat=q:=⟨_,rfl⟩
 have hq256:q<256:=by rw[<-hqe];exact UInt8.toNat_lt _
 have HR0:Hid (R=(0,0)):=Lib.hid (by
  rw[begins_more l h0 (by omega) 0 0 0 0 (by rcases hq.2 with h|h;exact row_low _ h;exact row_high _ h),if_pos h0]at hR;exact hR.symm)
 rw[hqe]at x0 hq;have h0I:(0:Int)<(l.length:Int):=by omega
 clear hr hqe hR;go_enter Tryz.func131,Tryz.ntmps131;rcases hq with⟨h1|h1,h2|h2⟩
 ·have k1:¬((q:Int)<128):=by omega
  have k1b:decide ((q:Int)<128)=false:=by simpa using k1
  have k2:¬((192:Int)<=(q:Int)):=by omega
  have k2b:decide ((192:Int)<=(q:Int))=false:=by simpa using k2
  have k3:¬((224:Int)<=(q:Int)):=by omega
  have k3b:decide ((224:Int)<=(q:Int))=false:=by simpa using k3
  have k4:¬((240:Int)<=(q:Int)):=by omega
  have k4b:decide ((240:Int)<=(q:Int))=false:=by simpa using k4
  go_wp2_with fail;go_ret2;rw[HR0.out];exact⟨rfl,rfl⟩
 ·have k1:¬((q:Int)<128):=by omega
  have k1b:decide ((q:Int)<128)=false:=by simpa using k1
  have k2:(192:Int)<=(q:Int):=by omega
  have k2a:¬((q:Int)<224):=by omega
  have k3:(224:Int)<=(q:Int):=by omega
  have k3a:¬((q:Int)<240):=by omega
  have k4:(240:Int)<=(q:Int):=by omega
  have k4a:¬((q:Int)<248):=by omega
  go_wp2_with fail;go_ret2;rw[HR0.out];exact⟨rfl,rfl⟩
 all_goals
  have hl1:¬((l.length:Int)=1):=by omega
  have hl1b:((l.length:Int)==1)=false:=by simpa using hl1
  by_cases h3:q<128
  ·have k1:(q:Int)<128:=by omega
   have k2:¬((192:Int)<=(q:Int)):=by omega
   have k2b:decide ((192:Int)<=(q:Int))=false:=by simpa using k2
   have k3:¬((224:Int)<=(q:Int)):=by omega
   have k3b:decide ((224:Int)<=(q:Int))=false:=by simpa using k3
   have k4:¬((240:Int)<=(q:Int)):=by omega
   have k4b:decide ((240:Int)<=(q:Int))=false:=by simpa using k4
   go_wp2_with fail;go_ret2;rw[HR0.out];exact⟨rfl,rfl⟩
  ·have k1:¬((q:Int)<128):=by omega
   have k1b:decide ((q:Int)<128)=false:=by simpa using k1
   by_cases h5:q<192
   ·have k2:¬((192:Int)<=(q:Int)):=by omega
    have k2b:decide ((192:Int)<=(q:Int))=false:=by simpa using k2
    have k3:¬((224:Int)<=(q:Int)):=by omega
    have k3b:decide ((224:Int)<=(q:Int))=false:=by simpa using k3
    have k4:¬((240:Int)<=(q:Int)):=by omega
    have k4b:decide ((240:Int)<=(q:Int))=false:=by simpa using k4
    go_wp2_with fail;go_ret2;rw[HR0.out];exact⟨rfl,rfl⟩
   ·have k2:(192:Int)<=(q:Int):=by omega
    have k2a:¬((q:Int)<224):=by omega
    have k3:(224:Int)<=(q:Int):=by omega
    have k3a:¬((q:Int)<240):=by omega
    have k4:(240:Int)<=(q:Int):=by omega
    have k4a:¬((q:Int)<248):=by omega
    go_wp2_with fail;go_ret2;rw[HR0.out];exact⟨rfl,rfl⟩
theorem begins_two (l:Utf.Str) (A:Option Addr) (c B:Nat) (h0:0<l.length) (h4:l.length<=4) (w:World) (hr:RowAt byteL w B A l) (hq:192<=(l[0]).toNat/\(l[0]).toNat<224) (R:Nat×Nat) (hR:Utf.begins l=R):
 Calls Tryz.prog 131 #[.slice A l.length c] w fun e w'=>e=.returned (.tuple #[.int .i64 (R.1:Int),.int .i64 (R.2:Int)])/\w=w':=by
 obtain⟨ad,rfl,_,x0⟩:=byte_at hr h0;have x0:w.cell? ad=some (.int .u8 ((l[0]).toNat:Int)):=by simpa[Addr.add]using x0
 obtain⟨q,hqe⟩:∃q,(l[0]).toNat=q:=⟨_,rfl⟩
 have hq256:q<256:=by rw[<-hqe];exact UInt8.toNat_lt _
 obtain⟨v,hv⟩:∃v,q-192=v:=⟨_,rfl⟩
 rw[hqe]at hq;have hbm:=begins_more l h0 (by omega) 2 v 128 2047 (by rw[hqe];unfold Utf.rowOf;rw[if_pos (by omega)];rw[hv]);rw[hR]at hbm;rw[hqe]at x0;have HBM:=Lib.hid hbm;have HRW:=Lib.hid hr;have h0I:(0:Int)<(l.length:Int):=by omega
 have hv32:v<32:=by omega
 have hvI:(q:Int)-192=(v:Int):=by omega
 have k1:¬((q:Int)<128):=by omega
 have k1b:decide ((q:Int)<128)=false:=by simpa using k1
 have k192:(192:Int)<=(q:Int):=by omega
 have k192a:(q:Int)<224:=by omega
 have k224:¬((224:Int)<=(q:Int)):=by omega
 have k224b:decide ((224:Int)<=(q:Int))=false:=by simpa using k224
 have k240:¬((240:Int)<=(q:Int)):=by omega
 have k240b:decide ((240:Int)<=(q:Int))=false:=by simpa using k240
 clear hbm hR hqe hv hr;go_enter Tryz.func131,Tryz.ntmps131;by_cases hln:l.length>2
 ·have hlnI:(2:Int)<(l.length:Int):=by omega
  have HR0:Hid (R=(0,0)):=Lib.hid (by have:=HBM.out;rw[if_pos hln]at this;exact this);go_wp2_with fail;go_ret2;rw[HR0.out];exact⟨rfl,rfl⟩
 ·have hlnI:¬((2:Int)<(l.length:Int)):=by omega
  have HB2:Hid (R=begF 2 128 2047 l.length (Utf.goOn v (l.drop 1))):=Lib.hid (by have:=HBM.out;rw[if_neg hln]at this;exact this);clear hq;go_wp2_with fail;clear k1 k1b k192 k224 k240 x0 hvI;go_loop [6,9] (fun s6 s9=>∃x i:Nat,1<=i/\i<=l.length/\s6=.int .i64 x/\s9=.int .i64 i/\x<32*64 ^ (i-1)/\Hid (Utf.goOn v (l.drop 1)=Utf.goOn x (l.drop i))) (fun _ s9=>l.length-(intOf s9).toNat)
  case atStart=>exact⟨v,1,by omega,by omega,rfl,rfl,by simpa using hv32,Lib.hid rfl⟩
  case round=>
   obtain⟨x,i,hi1,hil,rfl,rfl,hxb,hgo⟩:=hrel;have hx3:x<32*64 ^ 3:=Nat.lt_of_lt_of_le hxb (Nat.mul_le_mul_left _ (Nat.pow_le_pow_right (by omega) (by omega)));have hx3:x<=8388607:=by omega
   by_cases hlt:i<l.length
   ·have hltI:(i:Int)<(l.length:Int):=by omega
    obtain⟨ad',ha',_,y0⟩:=byte_at HRW.out hlt;injection ha' with ha'
    subst ha';have hdrop:l.drop i=l[i]::l.drop (i+1):=List.drop_eq_getElem_cons hlt;obtain⟨d,hd⟩:∃d,l[i]=d:=⟨_,rfl⟩
    rw[hd]at y0 hdrop;obtain⟨dn,hdn⟩:∃dn,d.toNat=dn:=⟨_,rfl⟩
    rw[hdn]at y0;have hd256:dn<256:=by rw[<-hdn];exact UInt8.toNat_lt _
    have hgc:Utf.goOn x (l.drop i)=if dn<128\/191<dn then none else Utf.goOn (64*x+(dn-128)) (l.drop (i+1)):=by
     rw[hdrop,Utf.goOn_cons];unfold Utf.isC;rw[hdn];by_cases h1:dn<128\/191<dn
     ·rw[if_pos h1,if_neg (by simp;omega)]
     ·rw[if_neg h1,if_pos (by simp;omega)]
    have HGO:Hid (Utf.goOn v (l.drop 1)=if dn<128\/191<dn then none else Utf.goOn (64*x+(dn-128)) (l.drop (i+1))):=Lib.hid (hgo.out.trans hgc);clear hgc hdrop hd hdn hgo;by_cases h1:dn<128
    ·have j1:(dn:Int)<128:=by omega
     have HR0:Hid (R=(0,0)):=Lib.hid (by rw[HB2.out,HGO.out,if_pos (.inl h1)];rfl);go_wp2_with fail;go_ret2;rw[HR0.out];exact⟨rfl,rfl⟩
    ·have j1:¬((dn:Int)<128):=by omega
     have j1b:decide ((dn:Int)<128)=false:=by simpa using j1
     by_cases h2:191<dn
     ·have j2:(191:Int)<(dn:Int):=by omega
      have HR0:Hid (R=(0,0)):=Lib.hid (by rw[HB2.out,HGO.out,if_pos (.inr h2)];rfl);go_wp2_with fail;go_ret2;rw[HR0.out];exact⟨rfl,rfl⟩
     ·have j2:¬((191:Int)<(dn:Int)):=by omega
      have j2b:decide ((191:Int)<(dn:Int))=false:=by simpa using j2
      have hpow:64 ^ (i+1-1)=64*64 ^ (i-1):=by
       rw[show i+1-1=(i-1)+1 from by omega,Nat.pow_succ,Nat.mul_comm]
      have HPOW:Hid (64*x+(dn-128)<32*64 ^ (i+1-1)):=Lib.hid (by rw[hpow];omega);have HGO2:Hid (Utf.goOn v (l.drop 1)=Utf.goOn (64*x+(dn-128)) (l.drop (i+1))):=Lib.hid (by rw[HGO.out,if_neg (by omega)]);clear hpow;go_wp2_with fail;go_round
      case rel=>exact⟨64*x+(dn-128),i+1,by omega,by omega,by go_num,by go_num,HPOW.out,HGO2⟩
      case measure=>simp[intOf];omega
   ·have hltI:¬((i:Int)<(l.length:Int)):=by omega
    have hil2:i=l.length:=by omega
    have hR2:R=if(Utf.widen (2-l.length) (x,x)).2<128\/(Utf.widen (2-l.length) (x,x)).1>2047\/((Utf.widen (2-l.length) (x,x)).1>=55296/\(Utf.widen (2-l.length) (x,x)).2<=57343)then(0,0)else((Utf.widen (2-l.length) (x,x)).1,2):=by
     have h1:=hgo.out;rw[hil2,List.drop_length]at h1;have h1:Utf.goOn v (l.drop 1)=some x:=h1;rw[HB2.out,h1];rfl
    have HR2:=Lib.hid hR2;have hxl:x<32*64 ^ (l.length-1):=by rw[<-hil2];exact hxb
    clear hR2 hil2 hgo;go_wp2_with fail;go_loop [10,11,12] (fun s10 s11 s12=>∃y z k:Nat,l.length<=k/\k<=2/\s10=.int .i64 y/\s11=.int .i64 z/\s12=.int .i64 k/\y<=z/\z<32*64 ^ (k-1)/\Hid (Utf.widen (2-l.length) (x,x)=Utf.widen (2-k) (y,z))) (fun _ _ s12=>2-(intOf s12).toNat)
    case atStart=>exact⟨x,x,l.length,by omega,by omega,rfl,rfl,rfl,by omega,hxl,Lib.hid rfl⟩
    case round=>
     obtain⟨y,z,k,hk1,hk2,rfl,rfl,rfl,hyz,hzb,hwd⟩:=hrel;have hz3:z<32*64 ^ 3:=Nat.lt_of_lt_of_le hzb (Nat.mul_le_mul_left _ (Nat.pow_le_pow_right (by omega) (by omega)));have hz3:z<=8388607:=by omega
     by_cases hkn:k<2
     ·have hknI:(k:Int)<2:=by omega
      have hpow:64 ^ (k+1-1)=64*64 ^ (k-1):=by
       rw[show k+1-1=(k-1)+1 from by omega,Nat.pow_succ,Nat.mul_comm]
      have HPOW:Hid (64*z+63<32*64 ^ (k+1-1)):=Lib.hid (by rw[hpow];omega);have HWD:Hid (Utf.widen (2-l.length) (x,x)=Utf.widen (2-(k+1)) (64*y,64*z+63)):=Lib.hid (by
       rw[hwd.out,show 2-k=(2-(k+1))+1 from by omega];rfl)
      clear hpow hwd;go_wp2_with fail;go_round
      case rel=>exact⟨64*y,64*z+63,k+1,by omega,by omega,by go_num,by go_num,by go_num,by omega,HPOW.out,HWD⟩
      case measure=>simp[intOf];omega
     ·have hknI:¬((k:Int)<2):=by omega
      have hR3:R=if z<128\/y>2047\/(y>=55296/\z<=57343)then(0,0)else(y,2):=by
       rw[HR2.out,hwd.out,show 2-k=0 from by omega];rfl
      have HR3:=Lib.hid hR3;clear hR3 hwd;by_cases t1:z<128
      ·have t1I:(z:Int)<128:=by omega
       have HR0:Hid (R=(0,0)):=Lib.hid (by rw[HR3.out,if_pos (.inl t1)]);go_wp2_with fail;go_ret2;rw[HR0.out];exact⟨rfl,rfl⟩
      ·have t1I:¬((z:Int)<128):=by omega
       have t1b:decide ((z:Int)<128)=false:=by simpa using t1I
       by_cases t2:2047<y
       ·have t2I:(2047:Int)<(y:Int):=by omega
        have HR0:Hid (R=(0,0)):=Lib.hid (by rw[HR3.out,if_pos (.inr (.inl t2))]);go_wp2_with fail;go_ret2;rw[HR0.out];exact⟨rfl,rfl⟩
       ·have t2I:¬((2047:Int)<(y:Int)):=by omega
        have t2b:decide ((2047:Int)<(y:Int))=false:=by simpa using t2I
        by_cases t3:55296<=y
        ·have t3I:(55296:Int)<=(y:Int):=by omega
         by_cases t4:z<=57343
         ·have t4I:(z:Int)<=57343:=by omega
          have HR0:Hid (R=(0,0)):=Lib.hid (by rw[HR3.out,if_pos (.inr (.inr ⟨t3,t4⟩))]);go_wp2_with fail;go_ret2;rw[HR0.out];exact⟨rfl,rfl⟩
         ·have t4I:¬((z:Int)<=57343):=by omega
          have t4b:decide ((z:Int)<=57343)=false:=by simpa using t4I
          have HR0:Hid (R=(y,2)):=Lib.hid (by rw[HR3.out,if_neg (by omega)]);go_wp2_with fail;go_ret2;rw[HR0.out];exact⟨rfl,rfl⟩
        ·have t3I:¬((55296:Int)<=(y:Int)):=by omega
         have t3b:decide ((55296:Int)<=(y:Int))=false:=by simpa using t3I
         have HR0:Hid (R=(y,2)):=Lib.hid (by rw[HR3.out,if_neg (by omega)]);go_wp2_with fail;go_ret2;rw[HR0.out];exact⟨rfl,rfl⟩
theorem begins_three (l:Utf.Str) (A:Option Addr) (c B:Nat) (h0:0<l.length) (h4:l.length<=4) (w:World) (hr:RowAt byteL w B A l) (hq:224<=(l[0]).toNat/\(l[0]).toNat<240) (R:Nat×Nat) (hR:Utf.begins l=R):
 Calls Tryz.prog 131 #[.slice A l.length c] w fun e w'=>e=.returned (.tuple #[.int .i64 (R.1:Int),.int .i64 (R.2:Int)])/\w=w':=by
 obtain⟨ad,rfl,_,x0⟩:=byte_at hr h0;have x0:w.cell? ad=some (.int .u8 ((l[0]).toNat:Int)):=by simpa[Addr.add]using x0
 obtain⟨q,hqe⟩:∃q,(l[0]).toNat=q:=⟨_,rfl⟩
 have hq256:q<256:=by rw[<-hqe];exact UInt8.toNat_lt _
 obtain⟨v,hv⟩:∃v,q-224=v:=⟨_,rfl⟩
 rw[hqe]at hq;have hbm:=begins_more l h0 (by omega) 3 v 2048 65535 (by rw[hqe];unfold Utf.rowOf;rw[if_neg (by omega)];rw[if_pos (by omega)];rw[hv]);rw[hR]at hbm;rw[hqe]at x0;have HBM:=Lib.hid hbm;have HRW:=Lib.hid hr;have h0I:(0:Int)<(l.length:Int):=by omega
 have hv32:v<32:=by omega
 have hvI:(q:Int)-224=(v:Int):=by omega
 have k1:¬((q:Int)<128):=by omega
 have k1b:decide ((q:Int)<128)=false:=by simpa using k1
 have k192:(192:Int)<=(q:Int):=by omega
 have k192a:¬((q:Int)<224):=by omega
 have k224:(224:Int)<=(q:Int):=by omega
 have k224a:(q:Int)<240:=by omega
 have k240:¬((240:Int)<=(q:Int)):=by omega
 have k240b:decide ((240:Int)<=(q:Int))=false:=by simpa using k240
 clear hbm hR hqe hv hr;go_enter Tryz.func131,Tryz.ntmps131;by_cases hln:l.length>3
 ·have hlnI:(3:Int)<(l.length:Int):=by omega
  have HR0:Hid (R=(0,0)):=Lib.hid (by have:=HBM.out;rw[if_pos hln]at this;exact this);go_wp2_with fail;go_ret2;rw[HR0.out];exact⟨rfl,rfl⟩
 ·have hlnI:¬((3:Int)<(l.length:Int)):=by omega
  have HB2:Hid (R=begF 3 2048 65535 l.length (Utf.goOn v (l.drop 1))):=Lib.hid (by have:=HBM.out;rw[if_neg hln]at this;exact this);clear hq;go_wp2_with fail;clear k1 k1b k192 k224 k240 x0 hvI;go_loop [6,9] (fun s6 s9=>∃x i:Nat,1<=i/\i<=l.length/\s6=.int .i64 x/\s9=.int .i64 i/\x<32*64 ^ (i-1)/\Hid (Utf.goOn v (l.drop 1)=Utf.goOn x (l.drop i))) (fun _ s9=>l.length-(intOf s9).toNat)
  case atStart=>exact⟨v,1,by omega,by omega,rfl,rfl,by simpa using hv32,Lib.hid rfl⟩
  case round=>
   obtain⟨x,i,hi1,hil,rfl,rfl,hxb,hgo⟩:=hrel;have hx3:x<32*64 ^ 3:=Nat.lt_of_lt_of_le hxb (Nat.mul_le_mul_left _ (Nat.pow_le_pow_right (by omega) (by omega)));have hx3:x<=8388607:=by omega
   by_cases hlt:i<l.length
   ·have hltI:(i:Int)<(l.length:Int):=by omega
    obtain⟨ad',ha',_,y0⟩:=byte_at HRW.out hlt;injection ha' with ha'
    subst ha';have hdrop:l.drop i=l[i]::l.drop (i+1):=List.drop_eq_getElem_cons hlt;obtain⟨d,hd⟩:∃d,l[i]=d:=⟨_,rfl⟩
    rw[hd]at y0 hdrop;obtain⟨dn,hdn⟩:∃dn,d.toNat=dn:=⟨_,rfl⟩
    rw[hdn]at y0;have hd256:dn<256:=by rw[<-hdn];exact UInt8.toNat_lt _
    have hgc:Utf.goOn x (l.drop i)=if dn<128\/191<dn then none else Utf.goOn (64*x+(dn-128)) (l.drop (i+1)):=by
     rw[hdrop,Utf.goOn_cons];unfold Utf.isC;rw[hdn];by_cases h1:dn<128\/191<dn
     ·rw[if_pos h1,if_neg (by simp;omega)]
     ·rw[if_neg h1,if_pos (by simp;omega)]
    have HGO:Hid (Utf.goOn v (l.drop 1)=if dn<128\/191<dn then none else Utf.goOn (64*x+(dn-128)) (l.drop (i+1))):=Lib.hid (hgo.out.trans hgc);clear hgc hdrop hd hdn hgo;by_cases h1:dn<128
    ·have j1:(dn:Int)<128:=by omega
     have HR0:Hid (R=(0,0)):=Lib.hid (by rw[HB2.out,HGO.out,if_pos (.inl h1)];rfl);go_wp2_with fail;go_ret2;rw[HR0.out];exact⟨rfl,rfl⟩
    ·have j1:¬((dn:Int)<128):=by omega
     have j1b:decide ((dn:Int)<128)=false:=by simpa using j1
     by_cases h2:191<dn
     ·have j2:(191:Int)<(dn:Int):=by omega
      have HR0:Hid (R=(0,0)):=Lib.hid (by rw[HB2.out,HGO.out,if_pos (.inr h2)];rfl);go_wp2_with fail;go_ret2;rw[HR0.out];exact⟨rfl,rfl⟩
     ·have j2:¬((191:Int)<(dn:Int)):=by omega
      have j2b:decide ((191:Int)<(dn:Int))=false:=by simpa using j2
      have hpow:64 ^ (i+1-1)=64*64 ^ (i-1):=by
       rw[show i+1-1=(i-1)+1 from by omega,Nat.pow_succ,Nat.mul_comm]
      have HPOW:Hid (64*x+(dn-128)<32*64 ^ (i+1-1)):=Lib.hid (by rw[hpow];omega);have HGO2:Hid (Utf.goOn v (l.drop 1)=Utf.goOn (64*x+(dn-128)) (l.drop (i+1))):=Lib.hid (by rw[HGO.out,if_neg (by omega)]);clear hpow;go_wp2_with fail;go_round
      case rel=>exact⟨64*x+(dn-128),i+1,by omega,by omega,by go_num,by go_num,HPOW.out,HGO2⟩
      case measure=>simp[intOf];omega
   ·have hltI:¬((i:Int)<(l.length:Int)):=by omega
    have hil2:i=l.length:=by omega
    have hR2:R=if(Utf.widen (3-l.length) (x,x)).2<2048\/(Utf.widen (3-l.length) (x,x)).1>65535\/((Utf.widen (3-l.length) (x,x)).1>=55296/\(Utf.widen (3-l.length) (x,x)).2<=57343)then(0,0)else((Utf.widen (3-l.length) (x,x)).1,3):=by
     have h1:=hgo.out;rw[hil2,List.drop_length]at h1;have h1:Utf.goOn v (l.drop 1)=some x:=h1;rw[HB2.out,h1];rfl
    have HR2:=Lib.hid hR2;have hxl:x<32*64 ^ (l.length-1):=by rw[<-hil2];exact hxb
    clear hR2 hil2 hgo;go_wp2_with fail;go_loop [10,11,12] (fun s10 s11 s12=>∃y z k:Nat,l.length<=k/\k<=3/\s10=.int .i64 y/\s11=.int .i64 z/\s12=.int .i64 k/\y<=z/\z<32*64 ^ (k-1)/\Hid (Utf.widen (3-l.length) (x,x)=Utf.widen (3-k) (y,z))) (fun _ _ s12=>3-(intOf s12).toNat)
    case atStart=>exact⟨x,x,l.length,by omega,by omega,rfl,rfl,rfl,by omega,hxl,Lib.hid rfl⟩
    case round=>
     obtain⟨y,z,k,hk1,hk2,rfl,rfl,rfl,hyz,hzb,hwd⟩:=hrel;have hz3:z<32*64 ^ 3:=Nat.lt_of_lt_of_le hzb (Nat.mul_le_mul_left _ (Nat.pow_le_pow_right (by omega) (by omega)));have hz3:z<=8388607:=by omega
     by_cases hkn:k<3
     ·have hknI:(k:Int)<3:=by omega
      have hpow:64 ^ (k+1-1)=64*64 ^ (k-1):=by
       rw[show k+1-1=(k-1)+1 from by omega,Nat.pow_succ,Nat.mul_comm]
      have HPOW:Hid (64*z+63<32*64 ^ (k+1-1)):=Lib.hid (by rw[hpow];omega);have HWD:Hid (Utf.widen (3-l.length) (x,x)=Utf.widen (3-(k+1)) (64*y,64*z+63)):=Lib.hid (by
       rw[hwd.out,show 3-k=(3-(k+1))+1 from by omega];rfl)
      clear hpow hwd;go_wp2_with fail;go_round
      case rel=>exact⟨64*y,64*z+63,k+1,by omega,by omega,by go_num,by go_num,by go_num,by omega,HPOW.out,HWD⟩
      case measure=>simp[intOf];omega
     ·have hknI:¬((k:Int)<3):=by omega
      have hR3:R=if z<2048\/y>65535\/(y>=55296/\z<=57343)then(0,0)else(y,3):=by
       rw[HR2.out,hwd.out,show 3-k=0 from by omega];rfl
      have HR3:=Lib.hid hR3;clear hR3 hwd;by_cases t1:z<2048
      ·have t1I:(z:Int)<2048:=by omega
       have HR0:Hid (R=(0,0)):=Lib.hid (by rw[HR3.out,if_pos (.inl t1)]);go_wp2_with fail;go_ret2;rw[HR0.out];exact⟨rfl,rfl⟩
      ·have t1I:¬((z:Int)<2048):=by omega
       have t1b:decide ((z:Int)<2048)=false:=by simpa using t1I
       by_cases t2:65535<y
       ·have t2I:(65535:Int)<(y:Int):=by omega
        have HR0:Hid (R=(0,0)):=Lib.hid (by rw[HR3.out,if_pos (.inr (.inl t2))]);go_wp2_with fail;go_ret2;rw[HR0.out];exact⟨rfl,rfl⟩
       ·have t2I:¬((65535:Int)<(y:Int)):=by omega
        have t2b:decide ((65535:Int)<(y:Int))=false:=by simpa using t2I
        by_cases t3:55296<=y
        ·have t3I:(55296:Int)<=(y:Int):=by omega
         by_cases t4:z<=57343
         ·have t4I:(z:Int)<=57343:=by omega
          have HR0:Hid (R=(0,0)):=Lib.hid (by rw[HR3.out,if_pos (.inr (.inr ⟨t3,t4⟩))]);go_wp2_with fail;go_ret2;rw[HR0.out];exact⟨rfl,rfl⟩
         ·have t4I:¬((z:Int)<=57343):=by omega
          have t4b:decide ((z:Int)<=57343)=false:=by simpa using t4I
          have HR0:Hid (R=(y,3)):=Lib.hid (by rw[HR3.out,if_neg (by omega)]);go_wp2_with fail;go_ret2;rw[HR0.out];exact⟨rfl,rfl⟩
        ·have t3I:¬((55296:Int)<=(y:Int)):=by omega
         have t3b:decide ((55296:Int)<=(y:Int))=false:=by simpa using t3I
         have HR0:Hid (R=(y,3)):=Lib.hid (by rw[HR3.out,if_neg (by omega)]);go_wp2_with fail;go_ret2;rw[HR0.out];exact⟨rfl,rfl⟩
theorem begins_four (l:Utf.Str) (A:Option Addr) (c B:Nat) (h0:0<l.length) (h4:l.length<=4) (w:World) (hr:RowAt byteL w B A l) (hq:240<=(l[0]).toNat/\(l[0]).toNat<248) (R:Nat×Nat) (hR:Utf.begins l=R):
 Calls Tryz.prog 131 #[.slice A l.length c] w fun e w'=>e=.returned (.tuple #[.int .i64 (R.1:Int),.int .i64 (R.2:Int)])/\w=w':=by
 obtain⟨ad,rfl,_,x0⟩:=byte_at hr h0;have x0:w.cell? ad=some (.int .u8 ((l[0]).toNat:Int)):=by simpa[Addr.add]using x0
 obtain⟨q,hqe⟩:∃q,(l[0]).toNat=q:=⟨_,rfl⟩
 have hq256:q<256:=by rw[<-hqe];exact UInt8.toNat_lt _
 obtain⟨v,hv⟩:∃v,q-240=v:=⟨_,rfl⟩
 rw[hqe]at hq;have hbm:=begins_more l h0 (by omega) 4 v 65536 1114111 (by rw[hqe];unfold Utf.rowOf;rw[if_neg (by omega),if_neg (by omega)];rw[if_pos (by omega)];rw[hv]);rw[hR]at hbm;rw[hqe]at x0;have HBM:=Lib.hid hbm;have HRW:=Lib.hid hr;have h0I:(0:Int)<(l.length:Int):=by omega
 have hv32:v<32:=by omega
 have hvI:(q:Int)-240=(v:Int):=by omega
 have k1:¬((q:Int)<128):=by omega
 have k1b:decide ((q:Int)<128)=false:=by simpa using k1
 have k192:(192:Int)<=(q:Int):=by omega
 have k192a:¬((q:Int)<224):=by omega
 have k224:(224:Int)<=(q:Int):=by omega
 have k224a:¬((q:Int)<240):=by omega
 have k240:(240:Int)<=(q:Int):=by omega
 have k240a:(q:Int)<248:=by omega
 clear hbm hR hqe hv hr;go_enter Tryz.func131,Tryz.ntmps131;by_cases hln:l.length>4
 ·have hlnI:(4:Int)<(l.length:Int):=by omega
  have HR0:Hid (R=(0,0)):=Lib.hid (by have:=HBM.out;rw[if_pos hln]at this;exact this);go_wp2_with fail;go_ret2;rw[HR0.out];exact⟨rfl,rfl⟩
 ·have hlnI:¬((4:Int)<(l.length:Int)):=by omega
  have HB2:Hid (R=begF 4 65536 1114111 l.length (Utf.goOn v (l.drop 1))):=Lib.hid (by have:=HBM.out;rw[if_neg hln]at this;exact this);clear hq;go_wp2_with fail;clear k1 k1b k192 k224 k240 x0 hvI;go_loop [6,9] (fun s6 s9=>∃x i:Nat,1<=i/\i<=l.length/\s6=.int .i64 x/\s9=.int .i64 i/\x<32*64 ^ (i-1)/\Hid (Utf.goOn v (l.drop 1)=Utf.goOn x (l.drop i))) (fun _ s9=>l.length-(intOf s9).toNat)
  case atStart=>exact⟨v,1,by omega,by omega,rfl,rfl,by simpa using hv32,Lib.hid rfl⟩
  case round=>
   obtain⟨x,i,hi1,hil,rfl,rfl,hxb,hgo⟩:=hrel;have hx3:x<32*64 ^ 3:=Nat.lt_of_lt_of_le hxb (Nat.mul_le_mul_left _ (Nat.pow_le_pow_right (by omega) (by omega)));have hx3:x<=8388607:=by omega
   by_cases hlt:i<l.length
   ·have hltI:(i:Int)<(l.length:Int):=by omega
    obtain⟨ad',ha',_,y0⟩:=byte_at HRW.out hlt;injection ha' with ha'
    subst ha';have hdrop:l.drop i=l[i]::l.drop (i+1):=List.drop_eq_getElem_cons hlt;obtain⟨d,hd⟩:∃d,l[i]=d:=⟨_,rfl⟩
    rw[hd]at y0 hdrop;obtain⟨dn,hdn⟩:∃dn,d.toNat=dn:=⟨_,rfl⟩
    rw[hdn]at y0;have hd256:dn<256:=by rw[<-hdn];exact UInt8.toNat_lt _
    have hgc:Utf.goOn x (l.drop i)=if dn<128\/191<dn then none else Utf.goOn (64*x+(dn-128)) (l.drop (i+1)):=by
     rw[hdrop,Utf.goOn_cons];unfold Utf.isC;rw[hdn];by_cases h1:dn<128\/191<dn
     ·rw[if_pos h1,if_neg (by simp;omega)]
     ·rw[if_neg h1,if_pos (by simp;omega)]
    have HGO:Hid (Utf.goOn v (l.drop 1)=if dn<128\/191<dn then none else Utf.goOn (64*x+(dn-128)) (l.drop (i+1))):=Lib.hid (hgo.out.trans hgc);clear hgc hdrop hd hdn hgo;by_cases h1:dn<128
    ·have j1:(dn:Int)<128:=by omega
     have HR0:Hid (R=(0,0)):=Lib.hid (by rw[HB2.out,HGO.out,if_pos (.inl h1)];rfl);go_wp2_with fail;go_ret2;rw[HR0.out];exact⟨rfl,rfl⟩
    ·have j1:¬((dn:Int)<128):=by omega
     have j1b:decide ((dn:Int)<128)=false:=by simpa using j1
     by_cases h2:191<dn
     ·have j2:(191:Int)<(dn:Int):=by omega
      have HR0:Hid (R=(0,0)):=Lib.hid (by rw[HB2.out,HGO.out,if_pos (.inr h2)];rfl);go_wp2_with fail;go_ret2;rw[HR0.out];exact⟨rfl,rfl⟩
     ·have j2:¬((191:Int)<(dn:Int)):=by omega
      have j2b:decide ((191:Int)<(dn:Int))=false:=by simpa using j2
      have hpow:64 ^ (i+1-1)=64*64 ^ (i-1):=by
       rw[show i+1-1=(i-1)+1 from by omega,Nat.pow_succ,Nat.mul_comm]
      have HPOW:Hid (64*x+(dn-128)<32*64 ^ (i+1-1)):=Lib.hid (by rw[hpow];omega);have HGO2:Hid (Utf.goOn v (l.drop 1)=Utf.goOn (64*x+(dn-128)) (l.drop (i+1))):=Lib.hid (by rw[HGO.out,if_neg (by omega)]);clear hpow;go_wp2_with fail;go_round
      case rel=>exact⟨64*x+(dn-128),i+1,by omega,by omega,by go_num,by go_num,HPOW.out,HGO2⟩
      case measure=>simp[intOf];omega
   ·have hltI:¬((i:Int)<(l.length:Int)):=by omega
    have hil2:i=l.length:=by omega
    have hR2:R=if(Utf.widen (4-l.length) (x,x)).2<65536\/(Utf.widen (4-l.length) (x,x)).1>1114111\/((Utf.widen (4-l.length) (x,x)).1>=55296/\(Utf.widen (4-l.length) (x,x)).2<=57343)then(0,0)else((Utf.widen (4-l.length) (x,x)).1,4):=by
     have h1:=hgo.out;rw[hil2,List.drop_length]at h1;have h1:Utf.goOn v (l.drop 1)=some x:=h1;rw[HB2.out,h1];rfl
    have HR2:=Lib.hid hR2;have hxl:x<32*64 ^ (l.length-1):=by rw[<-hil2];exact hxb
    clear hR2 hil2 hgo;go_wp2_with fail;go_loop [10,11,12] (fun s10 s11 s12=>∃y z k:Nat,l.length<=k/\k<=4/\s10=.int .i64 y/\s11=.int .i64 z/\s12=.int .i64 k/\y<=z/\z<32*64 ^ (k-1)/\Hid (Utf.widen (4-l.length) (x,x)=Utf.widen (4-k) (y,z))) (fun _ _ s12=>4-(intOf s12).toNat)
    case atStart=>exact⟨x,x,l.length,by omega,by omega,rfl,rfl,rfl,by omega,hxl,Lib.hid rfl⟩
    case round=>
     obtain⟨y,z,k,hk1,hk2,rfl,rfl,rfl,hyz,hzb,hwd⟩:=hrel;have hz3:z<32*64 ^ 3:=Nat.lt_of_lt_of_le hzb (Nat.mul_le_mul_left _ (Nat.pow_le_pow_right (by omega) (by omega)));have hz3:z<=8388607:=by omega
     by_cases hkn:k<4
     ·have hknI:(k:Int)<4:=by omega
      have hpow:64 ^ (k+1-1)=64*64 ^ (k-1):=by
       rw[show k+1-1=(k-1)+1 from by omega,Nat.pow_succ,Nat.mul_comm]
      have HPOW:Hid (64*z+63<32*64 ^ (k+1-1)):=Lib.hid (by rw[hpow];omega);have HWD:Hid (Utf.widen (4-l.length) (x,x)=Utf.widen (4-(k+1)) (64*y,64*z+63)):=Lib.hid (by
       rw[hwd.out,show 4-k=(4-(k+1))+1 from by omega];rfl)
      clear hpow hwd;go_wp2_with fail;go_round
      case rel=>exact⟨64*y,64*z+63,k+1,by omega,by omega,by go_num,by go_num,by go_num,by omega,HPOW.out,HWD⟩
      case measure=>simp[intOf];omega
     ·have hknI:¬((k:Int)<4):=by omega
      have hR3:R=if z<65536\/y>1114111\/(y>=55296/\z<=57343)then(0,0)else(y,4):=by
       rw[HR2.out,hwd.out,show 4-k=0 from by omega];rfl
      have HR3:=Lib.hid hR3;clear hR3 hwd;by_cases t1:z<65536
      ·have t1I:(z:Int)<65536:=by omega
       have HR0:Hid (R=(0,0)):=Lib.hid (by rw[HR3.out,if_pos (.inl t1)]);go_wp2_with fail;go_ret2;rw[HR0.out];exact⟨rfl,rfl⟩
      ·have t1I:¬((z:Int)<65536):=by omega
       have t1b:decide ((z:Int)<65536)=false:=by simpa using t1I
       by_cases t2:1114111<y
       ·have t2I:(1114111:Int)<(y:Int):=by omega
        have HR0:Hid (R=(0,0)):=Lib.hid (by rw[HR3.out,if_pos (.inr (.inl t2))]);go_wp2_with fail;go_ret2;rw[HR0.out];exact⟨rfl,rfl⟩
       ·have t2I:¬((1114111:Int)<(y:Int)):=by omega
        have t2b:decide ((1114111:Int)<(y:Int))=false:=by simpa using t2I
        by_cases t3:55296<=y
        ·have t3I:(55296:Int)<=(y:Int):=by omega
         by_cases t4:z<=57343
         ·have t4I:(z:Int)<=57343:=by omega
          have HR0:Hid (R=(0,0)):=Lib.hid (by rw[HR3.out,if_pos (.inr (.inr ⟨t3,t4⟩))]);go_wp2_with fail;go_ret2;rw[HR0.out];exact⟨rfl,rfl⟩
         ·have t4I:¬((z:Int)<=57343):=by omega
          have t4b:decide ((z:Int)<=57343)=false:=by simpa using t4I
          have HR0:Hid (R=(y,4)):=Lib.hid (by rw[HR3.out,if_neg (by omega)]);go_wp2_with fail;go_ret2;rw[HR0.out];exact⟨rfl,rfl⟩
        ·have t3I:¬((55296:Int)<=(y:Int)):=by omega
         have t3b:decide ((55296:Int)<=(y:Int))=false:=by simpa using t3I
         have HR0:Hid (R=(y,4)):=Lib.hid (by rw[HR3.out,if_neg (by omega)]);go_wp2_with fail;go_ret2;rw[HR0.out];exact⟨rfl,rfl⟩
theorem begins_any (l:Utf.Str) (A:Option Addr) (c B:Nat) (h0:0<l.length) (h4:l.length<=4) (w:World) (hr:RowAt byteL w B A l) (R:Nat×Nat) (hR:Utf.begins l=R):
 Calls Tryz.prog 131 #[.slice A l.length c] w fun e w'=>e=.returned (.tuple #[.int .i64 (R.1:Int),.int .i64 (R.2:Int)])/\w=w':=by
 by_cases h1:(l[0]).toNat<128/\l.length=1
 ·rw[<-hR,begins_one' l h1.2 h0 h1.1];exact begins_low l A c B h1.2 w hr h0 h1.1
 ·by_cases h2:(l[0]).toNat<192\/248<=(l[0]).toNat
  ·exact begins_none l A c B h0 h4 w hr ⟨by omega,h2⟩ R hR
  ·by_cases h3:(l[0]).toNat<224
   ·exact begins_two l A c B h0 h4 w hr (by omega) R hR
   ·by_cases h5:(l[0]).toNat<240
    ·exact begins_three l A c B h0 h4 w hr (by omega) R hR
    ·exact begins_four l A c B h0 h4 w hr (by omega) R hR
def atC (r:Utf.Str) (k:Nat):Prop:=k<=r.length/\(Utf.begins (r.take k)).2=k
theorem refAt_at (r:Utf.Str) (k:Nat) (h1:1<=k) (h4:k<=4) (hk:atC r k) (hno:∀j,1<=j->j<k->¬atC r j):Utf.refAt r=Utf.begins (r.take k):=by
 unfold Utf.refAt;unfold atC at hk hno;rcases(by omega:k=1\/k=2\/k=3\/k=4)with rfl|rfl|rfl|rfl
 ·rw[if_pos hk]
 ·rw[if_neg (hno 1 (by omega) (by omega)),if_pos hk]
 ·rw[if_neg (hno 1 (by omega) (by omega)),if_neg (hno 2 (by omega) (by omega)),if_pos hk]
 ·rw[if_neg (hno 1 (by omega) (by omega)),if_neg (hno 2 (by omega) (by omega)),if_neg (hno 3 (by omega) (by omega)),if_pos hk]
theorem refAt_none (r:Utf.Str) (hno:∀j,1<=j->j<=4->¬atC r j):Utf.refAt r=(0,0):=by
 unfold Utf.refAt;unfold atC at hno;rw[if_neg (hno 1 (by omega) (by omega)),if_neg (hno 2 (by omega) (by omega)),if_neg (hno 3 (by omega) (by omega)),if_neg (hno 4 (by omega) (by omega))]
theorem bytes_all (s:Utf.Str):byteL.all s=s.map (fun b=>Value.int .u8 (b.toNat:Int)):=by
 induction s with
 |nil=>rfl
 |cons c s ih=>simp only[Lay.all,List.flatMap_cons,List.map_cons]at *;rw[ih];rfl
theorem bytes_of (s:Utf.Str) (w:World):∃w1 cap,(convert 9 119 (.string ⟨s.toArray⟩)).run Tryz.prog w=.ok (.slice (some ⟨w.heap.size,0,none⟩) s.length cap) w1/\Below w.heap.size w w1/\RowAt byteL w1 w1.heap.size (some ⟨w.heap.size,0,none⟩) s/\s.length<=cap:=by
 have h:=run_bytes_of_string (P:=Tryz.prog) w 9 119 5 ⟨s.toArray⟩ Tryz.underlying9 Tryz.underlying119 Tryz.underlying5;have hs:(⟨s.toArray⟩:ByteArray).size=s.length:=by simp[ByteArray.size]
 rw[hs]at h;refine⟨_,_,h,?_,?_,?_⟩
 ·exact((Below.refl _ _).drew).alloc (Nat.le_refl _) _
 ·refine⟨byteL.all_len s,fun _=>⟨_,rfl,?_,?_⟩⟩
  ·rw[World.size_alloc];exact Nat.lt_succ_self _
  ·intro j u hu;rw[bytes_all]at hu;have hj:j<s.length:=by
    have:=(List.getElem?_eq_some_iff.1 hu).1;simpa using this
   have e:(⟨w.heap.size,0,none⟩:Addr).add j=⟨w.heap.size,j,none⟩:=by
    unfold Addr.add;by_cases h0:j=0
    ·simp[h0]
    ·simp[h0]
   rw[e];have hc:∀C fr,(w.drew.alloc (.cells C 5 fr)).cell? ⟨w.heap.size,j,none⟩=C[j]? :=fun C fr=>by
    have hg:(w.drew.alloc (.cells C 5 fr)).heap[w.heap.size]? =some (.cells C 5 fr):=heap_alloc_new w.drew _;unfold World.cell?;rw[hg];rfl
   rw[hc];unfold bytesRow;rw[Array.getElem?_append_left (by simpa using hj)];simpa using hu
 ·exact grownCap_ge w s.length 0 5
theorem row_part {w:World} {B g a k:Nat} {s:Utf.Str} (h:RowAt byteL w B (some ⟨g,0,none⟩) s) (hk:a+k<=s.length) (h0:0<k):RowAt byteL w B (some ⟨g,a,none⟩) ((s.drop a).take k):=by
 obtain⟨ad,e,hb,hc⟩:=h.2 (by omega);injection e with e
 subst e;refine⟨byteL.all_len _,fun _=>⟨_,rfl,hb,fun j u hu=>?_⟩⟩;rw[bytes_all]at hu hc;have hj:j<k:=by
  have:=(List.getElem?_eq_some_iff.1 hu).1;simp at this;omega
 have h2:=hc (a+j) u (by
  rw[List.getElem?_map]at hu ⊢;rw[<-hu,List.getElem?_take_of_lt hj,List.getElem?_drop])
 have e1:(⟨g,0,none⟩:Addr).add (a+j)=⟨g,a+j,none⟩:=by
  unfold Addr.add;by_cases h0:a+j=0
  ·rw[if_pos h0,h0]
  ·rw[if_neg h0];simp
 have e2:(⟨g,a,none⟩:Addr).add j=⟨g,a+j,none⟩:=by
  unfold Addr.add;by_cases h0:j=0
  ·rw[if_pos h0,h0];rfl
  ·rw[if_neg h0]
 rw[e2,<-e1];exact h2
theorem at_any (s:Utf.Str) (a:Nat) (ha:a<s.length) (hs:s.length<=1073741823) (w:World) (R:Nat×Nat) (hR:Utf.refAt (s.drop a)=R):
 Calls Tryz.prog 101 #[.string ⟨s.toArray⟩,.int .i64 a] w fun e w'=>e=.returned (.tuple #[.int .i64 (R.1:Int),.int .i64 (R.2:Int)])/\Below w.heap.size w w':=by
 have HR:=Lib.hid hR;clear hR;obtain⟨w1,cap,hcv,hb1,hrow,hcap⟩:=bytes_of s w;have HB1:=Lib.hid hb1;have HRW:=Lib.hid hrow;clear hb1 hrow;go_enter Tryz.func101,Tryz.ntmps101;have hne:¬(cap=a):=by omega
 have hne':¬(a=cap):=by omega
 have hcapI:(s.length:Int)<=(cap:Int):=by omega
 go_wp2_with fail;clear hcv;go_loop [7] (fun s7=>∃k:Nat,1<=k/\k<=5/\s7=.int .i64 k/\Hid (∀j,1<=j->j<k->¬atC (s.drop a) j)) (fun s7=>5-(intOf s7).toNat)
 case atStart=>exact⟨1,by omega,by omega,rfl,Lib.hid (fun j h1 h2=>by omega)⟩
 case round=>
  obtain⟨k,hk1,hk5,rfl,hno⟩:=hrel;by_cases hk4:k<=4
  ·have hk4I:(k:Int)<=4:=by omega
   by_cases hkl:a+k<=s.length
   ·have hklI:(a:Int)+(k:Int)<=(s.length:Int):=by omega
    have hklC:(a:Int)+(k:Int)<=(cap:Int):=by omega
    have haI:(a:Int)<=(a:Int)+(k:Int):=by omega
    have hlk:((s.drop a).take k).length=k:=by rw[List.length_take,List.length_drop];omega
    obtain⟨Q,hQ⟩:∃Q,Utf.begins ((s.drop a).take k)=Q:=⟨_,rfl⟩
    have hbg:=begins_any ((s.drop a).take k) (some ⟨w.heap.size,a,none⟩) (cap-a) w1.heap.size (by omega) (by omega) w1 (row_part HRW.out hkl (by omega)) Q hQ;rw[hlk]at hbg;have HBG:=Lib.hid hbg;have HQ:=Lib.hid hQ;clear hbg hlk hQ;go_wp2_with fail;refine HBG.out.mono ?_;rintro e w2 ⟨rfl,rfl⟩;by_cases hq:Q.2=k
    ·have hqI:(Q.2:Int)=(k:Int):=by omega
     have hqb:((Q.2:Int)==(k:Int))=true:=by simpa using hqI
     have HRQ:Hid (R=(Q.1,k)):=Lib.hid (by
      rw[<-HR.out,<-hq,show(Q.1,Q.2)=Q from rfl,<-HQ.out];exact refAt_at (s.drop a) k hk1 hk4 ⟨by rw[List.length_drop];omega,by rw[HQ.out,hq]⟩ hno.out)
     clear hq;go_wp2_with fail;go_ret2;exact⟨by rw[HRQ.out];rfl,HB1.out⟩
    ·have hqI:¬((Q.2:Int)=(k:Int)):=by omega
     have hqb:((Q.2:Int)==(k:Int))=false:=by simpa using hqI
     go_wp2_with fail;go_round
     case rel=>exact⟨k+1,by omega,by omega,by go_num,Lib.hid (fun j h1 h2=>by
      by_cases e:j=k
      ·subst e;rintro⟨_,h3⟩;rw[HQ.out]at h3;exact hq h3
      ·exact hno.out j h1 (by omega))⟩
     case measure=>simp[intOf];omega
   ·have hklI:¬((a:Int)+(k:Int)<=(s.length:Int)):=by omega
    have hklb:decide ((a:Int)+(k:Int)<=(s.length:Int))=false:=by simpa using hklI
    have HR0:Hid (R=(0,0)):=Lib.hid (by
     rw[<-HR.out];refine refAt_none _ (fun j h1 h2 h3=>?_);by_cases hjk:j<k
     ·exact hno.out j h1 hjk h3
     ·have:=h3.1;rw[List.length_drop]at this;omega)
    go_wp2_with fail;go_ret2;exact⟨by rw[HR0.out];rfl,HB1.out⟩
  ·have hk4I:¬((k:Int)<=4):=by omega
   have hk4b:decide ((k:Int)<=4)=false:=by simpa using hk4I
   have HR0:Hid (R=(0,0)):=Lib.hid (by
    rw[<-HR.out];exact refAt_none _ (fun j h1 h2 h3=>hno.out j h1 (by omega) h3))
   go_wp2_with fail;go_ret2;exact⟨by rw[HR0.out];rfl,HB1.out⟩
def runeL:Lay Int:={enc:=fun x=>[.int .i32 x],sz:=1,len:=fun _=>rfl,one:=fun x u hu=>by simp at hu;subst hu;rfl,pos:=by omega}
theorem runeT:SliceT Tryz.prog runeL 107 21 4:=sliceT_of runeL 107 21 (.int .i32 0) 4 Tryz.underlying107 (by kernel_rfl) rfl (by omega)
def badN (s:Utf.Str):Int:=match Utf.bad s with
 |some a=>(a:Int)
 |none=>-1
theorem bad_step (s:Utf.Str) (a:Nat) (ha:a<s.length) (R:Nat×Nat) (hR:Utf.refAt (s.drop a)=R) (h:Utf.bad s=Utf.badU (s.drop a).length (s.drop a) a):
 (R.2=0->Utf.bad s=some a)/\(R.2≠0->a+R.2<=s.length/\R.2<=4/\Utf.bad s=Utf.badU (s.drop (a+R.2)).length (s.drop (a+R.2)) (a+R.2)):=by
 have hd:s.drop a=s[a]::s.drop (a+1):=List.drop_eq_getElem_cons ha;have hne:s.drop a≠[]:=by rw[hd];exact List.cons_ne_nil _ _
 have hw:=Utf.dec_width (s.drop a);have hl:=Utf.dec_len (s.drop a) hne;rw[List.length_drop]at hl;have hu:∀n,Utf.badU (n+1) (s.drop a) a=if(Utf.dec (s.drop a)).1=65533/\(Utf.dec (s.drop a)).2=1 then some a else Utf.badU n ((s.drop a).drop (Utf.dec (s.drop a)).2) (a+(Utf.dec (s.drop a)).2):=by
  intro n;rw[hd];rfl
 have hlen:(s.drop a).length=(s.length-a-1)+1:=by rw[List.length_drop];omega
 rw[hlen,hu]at h;rcases Utf.agree (s.drop a) hne with⟨h1,h2,h3⟩|⟨h1,h2⟩
 ·rw[if_pos ⟨h1,h2⟩]at h;rw[hR]at h3;exact⟨fun _=>h,fun hc=>absurd h3 hc⟩
 ·rw[if_neg h1]at h;rw[hR]at h2;refine⟨fun hc=>?_,fun _=>⟨by rw[h2];omega,by rw[h2];omega,?_⟩⟩
  ·rw[h2]at hc;omega
  ·rw[h,h2,List.drop_drop];exact Utf.badU_fuel _ _ _ _ (by rw[List.length_drop];omega) (Nat.le_refl _)
theorem decode_any (s:Utf.Str) (hs:s.length<=1073741823) (w:World):
 Calls Tryz.prog 80 #[.string ⟨s.toArray⟩] w fun e w'=>Below w.heap.size w w'/\∃v,e=.returned (.tuple #[v,.int .i64 (badN s)]):=by
 go_enter Tryz.func80,Tryz.ntmps80;go_wp2_with fail;go_loopw [4,5] (fun s4 s5 wr=>∃(v:Value) (l:List Int) (a:Nat),a<=s.length/\l.length<=a/\s5=.int .i64 a/\v=s4/\Hid (OwnRow runeL wr w.heap.size 21 v l)/\Below w.heap.size w wr/\Hid (Utf.bad s=Utf.badU (s.drop a).length (s.drop a) a))
  (fun _ s5 _=>s.length-(intOf s5).toNat)
 case atStart=>exact⟨_,[],0,by omega,by simp,rfl,rfl,Lib.hid OwnRow.nil,Below.refl _ _,Lib.hid rfl⟩
 case round=>
  obtain⟨v,l,a,ha,hla,rfl,rfl,hown,hb,hbad⟩:=hrel;by_cases hlt:a<s.length
  ·have hltI:(a:Int)<(s.length:Int):=by omega
   obtain⟨R,hR⟩:∃R,Utf.refAt (s.drop a)=R:=⟨_,rfl⟩
   have HAT:=Lib.hid (at_any s a hlt hs wr R hR);have HR:=Lib.hid hR;have HB:=Lib.hid hb;clear hR hb;go_wp2_with fail;refine HAT.out.mono ?_;rintro e w2 ⟨rfl,hb2⟩;have HB2:Hid (Below w.heap.size w w2):=Lib.hid (HB.out.trans (hb2.mono HB.out.size));have HO2:=Lib.hid (hown.out.later hb2);obtain⟨st0,st1⟩:=bad_step s a hlt R HR.out hbad.out;clear hb2 hown;by_cases h0:R.2=0
   ·have h0I:(R.2:Int)=0:=by omega
    have h0b:((R.2:Int)==0)=true:=by simpa using h0I
    have HN:Hid (badN s=(a:Int)):=Lib.hid (by unfold badN;rw[st0 h0]);clear st0 st1 h0;go_wp2_with fail;go_ret2;exact⟨HB2.out,_,by rw[HN.out];rfl⟩
   ·have h0I:¬((R.2:Int)=0):=by omega
    have h0b:((R.2:Int)==0)=false:=by simpa using h0I
    obtain⟨s1,s2,s3⟩:=st1 h0;have HS3:=Lib.hid s3;obtain⟨x,hx⟩:∃x,IntKind.i32.wrap (R.1:Int)=x:=⟨_,rfl⟩
    clear st0 st1 s3 h0;go_wp2_with (at_builtin;go_must (refine wpList_append_row _ rfl (.tmp 22) (.tmp 25) 107 21 4 rfl runeT w.heap.size v l rfl (HO2.out.alloc _) _ _ 1 [x] rfl (RowAt.lit1 _ _ rfl _ ?_) ?_ ?_ ?_))
    ·rfl
    ·simp;omega
    ·rw[World.size_alloc];have:=HB2.out.size;omega
    intro v' w3 hown3 hg3 _;have HB3:Hid (Below w.heap.size w w3):=Lib.hid ((HB2.out.alloc HB2.out.size _).trans ((HO2.out.alloc _).grown_below hg3 (by rw[World.size_alloc];have:=HB2.out.size;omega)));have HO3:=Lib.hid hown3;clear hown3 hg3;go_wp2_with fail;go_roundw
    case rel=>exact⟨v',l++[x],a+R.2,by omega,by simp;omega,by go_num,rfl,HO3,HB3.out,HS3⟩
    case measure=>simp[intOf];omega
  ·have hltI:¬((a:Int)<(s.length:Int)):=by omega
   have HN:Hid (badN s=-1):=Lib.hid (by
    have h:=hbad.out;rw[List.drop_of_length_le (by omega)]at h;have h:Utf.bad s=none:=h;unfold badN;rw[h])
   have HB:=Lib.hid hb;clear hb hbad;go_wp2_with fail;go_ret2;exact⟨HB.out,_,by rw[HN.out];rfl⟩
theorem valid_any (s:Utf.Str) (hs:s.length<=1073741823) (w:World) (r:Bool) (hr:decide (Utf.bad s=none)=r):
 Calls Tryz.prog 46 #[.string ⟨s.toArray⟩] w fun e w'=>e=.returned (.bool r)/\Below w.heap.size w w':=by
 obtain⟨x,hx⟩:∃x,badN s=x:=⟨_,rfl⟩
 have HD:=Lib.hid (decode_any s hs w);have hxr:decide (x<0)=r:=by
  rw[<-hx,<-hr];unfold badN;cases Utf.bad s with
  |none=>rfl
  |some a=>simp
 rw[hx]at HD;clear hx hr;go_enter Tryz.func46,Tryz.ntmps46;go_wp2_with fail;refine HD.out.mono ?_;rintro e w2 ⟨hb,v,rfl⟩;have HB:=Lib.hid hb;clear hb;go_wp2_with fail;go_ret;exact⟨by rw[<-hxr];rfl,HB.out⟩
end Utf
end Go.Proofs.YtoigpackhninoaaGreatDoor
