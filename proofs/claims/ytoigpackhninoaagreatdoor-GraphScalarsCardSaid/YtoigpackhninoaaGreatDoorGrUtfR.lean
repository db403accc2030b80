import Derived.Test.YtoigpackhninoaaGreatDoorZ04
namespace Go.Proofs.YtoigpackhninoaaGreatDoor
open _root_.Go.Proofs.Tryz
open _root_.Go.Lib (hid)
set_option maxRecDepth 100000
set_option maxHeartbeats 16000000
namespace Utf
open Go.RowKit
theorem byte_at {w:World} {B:Nat} {A:Option Addr} {l:Utf.Str} {k:Nat} (h:RowAt byteL w B A l) (hk:k<l.length):∃ad,A=some ad/\ad.block<B/\w.cell? (ad.add k)=some (.int .u8 ((l[k]).toNat:Int)):=by
 obtain⟨ad,h1,h2,h3,_⟩:=h.get hk;refine⟨ad,h1,h2,?_⟩;have:=h3 (.int .u8 ((l[k]).toNat:Int)) rfl;rwa[show k*byteL.sz=k from Nat.mul_one k]at this
theorem zh8 (l:Utf.Str) (h1:l.length=1) (h0:0<l.length) (hq:(l[0]).toNat<128):Utf.begins l=((l[0]).toNat,1):=by
 cases l with
 |nil=>simp at h0
 |cons c r=>
  have hr:r=[]:=by simpa using h1
  subst hr;unfold Utf.begins;simp only;rw[if_pos ⟨UInt8.lt_iff_toNat_lt.2 (by simpa using hq),by trivial⟩];rfl
def begF (n lo mo len:Nat):Option Nat->Nat×Nat
 |none=>(0,0)
 |some x=>if(Utf.widen (n-len) (x,x)).2<lo\/(Utf.widen (n-len) (x,x)).1>mo\/((Utf.widen (n-len) (x,x)).1>=55296/\(Utf.widen (n-len) (x,x)).2<=57343)then(0,0)else((Utf.widen (n-len) (x,x)).1,n)
theorem zh9 (l:Utf.Str) (h0:0<l.length) (hq:¬((l[0]).toNat<128/\l.length=1)) (n v lo mo:Nat) (hrow:Utf.rowOf (l[0]).toNat=(n,v,lo,mo)):
 Utf.begins l=if l.length>n then(0,0)else begF n lo mo l.length (Utf.goOn v (l.drop 1)):=by
 cases l with
 |nil=>simp at h0
 |cons c r=>
  unfold Utf.begins;simp only;rw[if_neg (fun h=>hq ⟨UInt8.lt_iff_toNat_lt.1 h.1,by simp[h.2]⟩)];have e:Utf.rowOf c.toNat=(n,v,lo,mo):=hrow;rw[e];simp only[List.length_cons,List.drop_succ_cons,List.drop_zero];by_cases hl:r.length+1>n
  ·rw[if_pos hl,if_pos hl]
  ·rw[if_neg hl,if_neg hl];cases Utf.goOn v r<;>rfl
theorem zks (l:Utf.Str) (A:Option Addr) (c B:Nat) (h1:l.length=1) (w:World) (hr:RowAt byteL w B A l) (h0:0<l.length) (hq:(l[0]).toNat<128):
 Calls prog 131 #[.slice A l.length c] w fun e w'=>e=.returned (.tuple #[.int .i64 ((l[0]).toNat:Int),.int .i64 1])/\w=w':=by
 obtain⟨ad,rfl,_,x0⟩:=byte_at hr h0;have x0:w.cell? ad=some (.int .u8 ((l[0]).toNat:Int)):=by simpa[Addr.add]using x0
 obtain⟨q,hqe⟩:=ex ((l[0]).toNat)
 rw[hqe]at x0 hq;rw[hqe];have hqI:(q:Int)<128:=by omega
 rw[h1];clear hr hqe h1;go_enter func131,ntmps131;go_wp2;go_ret2;exact⟨rfl,rfl⟩
theorem zkt (l:Utf.Str) (A:Option Addr) (c B:Nat) (h0:0<l.length) (h4:l.length<=4) (w:World) (hr:RowAt byteL w B A l) (hq:¬((l[0]).toNat<128/\l.length=1)) (R:Nat×Nat) (hR:Utf.begins l=R):
 Calls prog 131 #[.slice A l.length c] w fun e w'=>e=.returned (.tuple #[.int .i64 (R.1:Int),.int .i64 (R.2:Int)])/\w=w':=by
 obtain⟨ad,rfl,_,x0⟩:=byte_at hr h0;have x0:w.cell? ad=some (.int .u8 ((l[0]).toNat:Int)):=by simpa[Addr.add]using x0
 obtain⟨q,hqe⟩:=ex ((l[0]).toNat)
 have hq256:q<256:=by rw[<-hqe];exact UInt8.toNat_lt _
 obtain⟨n,v,lo,mo,hrow⟩:∃n v lo mo,Utf.rowOf q=(n,v,lo,mo):=⟨_,_,_,_,rfl⟩
 have hbm:=zh9 l h0 hq n v lo mo (by rw[hqe];exact hrow);have HRO:Hid ((192<=q/\q<224/\n=2/\v=q-192/\lo=128/\mo=2047)\/(224<=q/\q<240/\n=3/\v=q-224/\lo=2048/\mo=65535)\/(240<=q/\q<248/\n=4/\v=q-240/\lo=65536/\mo=1114111)\/((q<192\/248<=q)/\n=0/\v=0/\lo=0/\mo=0)):=hid (by
  unfold Utf.rowOf at hrow;split at hrow
  ·injection hrow with h1 h2;injection h2 with h2 h3;injection h3 with h3 h4;omega
  ·split at hrow
   ·injection hrow with h1 h2;injection h2 with h2 h3;injection h3 with h3 h4;omega
   ·split at hrow
    ·injection hrow with h1 h2;injection h2 with h2 h3;injection h3 with h3 h4;omega
    ·injection hrow with h1 h2;injection h2 with h2 h3;injection h3 with h3 h4;omega)
 rw[hR]at hbm;rw[hqe]at x0 hq;have HBM:=hid hbm;have HRW:=hid hr;have h0I:(0:Int)<(l.length:Int):=by omega
 clear hbm hR hqe hr hrow;go_enter func131,ntmps131;go_upto_region 3 with fail;go_cut [23] (fun s23 wx=>s23=.bool false/\wx=w)
 case first=>
  by_cases h1:q<128
  ·have k1:(q:Int)<128:=by omega
   have k2:¬((l.length:Int)=1):=by omega
   have k2b:((l.length:Int)==1)=false:=by simpa using k2
   go_wp2;go_meet;exact⟨rfl,rfl⟩
  ·have k1:¬((q:Int)<128):=by omega
   have k1b:decide ((q:Int)<128)=false:=by simpa using k1
   go_wp2;go_meet;exact⟨rfl,rfl⟩
 case rest=>
 obtain⟨rfl,rfl⟩:=hcut;clear x0 hq h0I;obtain⟨w,hw⟩:∃w,w=wc:=⟨_,rfl⟩
 subst hw;go_upto_region 5 with fail;obtain⟨t,ht⟩:∃t,decide (192<=q/\q<224)=t:=⟨_,rfl⟩
 have HT:=hid ht;clear ht;go_cut [30] (fun s30 wx=>s30=.bool t/\wx=w)
 case first=>
  by_cases h1:192<=q
  ·have k1:(192:Int)<=(q:Int):=by omega
   by_cases h2:q<224
   ·have k2:(q:Int)<224:=by omega
    have HX:Hid (t=true):=hid (by rw[<-HT.out];exact decide_eq_true ⟨h1,h2⟩);go_wp2;go_meet;exact⟨by rw[HX.out],rfl⟩
   ·have k2:¬((q:Int)<224):=by omega
    have k2b:decide ((q:Int)<224)=false:=by simpa using k2
    have HX:Hid (t=false):=hid (by rw[<-HT.out];exact decide_eq_false (fun h=>h2 h.2));go_wp2;go_meet;exact⟨by rw[HX.out],rfl⟩
  ·have k1:¬((192:Int)<=(q:Int)):=by omega
   have k1b:decide ((192:Int)<=(q:Int))=false:=by simpa using k1
   have HX:Hid (t=false):=hid (by rw[<-HT.out];exact decide_eq_false (fun h=>h1 h.1));go_wp2;go_meet;exact⟨by rw[HX.out],rfl⟩
 case rest=>
 obtain⟨rfl,rfl⟩:=hcut;obtain⟨w,hw⟩:∃w,w=wc:=⟨_,rfl⟩
 subst hw;go_upto_if 30 with fail;go_cut [5,6,7,8] (fun s5 s6 s7 s8 wx=>∃n0 v0 l0 m0:Nat,s5=.int .i64 n0/\s6=.int .i64 v0/\s7=.int .i64 l0/\s8=.int .i64 m0/\Hid ((192<=q/\q<224->n0=n/\v0=v/\l0=lo/\m0=mo)/\(¬(192<=q/\q<224)->n0=0/\v0=0/\l0=0/\m0=0))/\wx=w)
 case first=>
  cases t with
  |true=>
   have hb:=of_decide_eq_true HT.out;have hqI:(q:Int)-192=((q-192:Nat):Int):=by omega
   have HC:Hid ((192<=q/\q<224->2=n/\q-192=v/\128=lo/\2047=mo)/\(¬(192<=q/\q<224)->2=0/\q-192=0/\128=0/\2047=0)):=hid (by have:=HRO.out;omega);clear hb;go_wp2;go_meet;exact⟨2,q-192,128,2047,rfl,by rw[<-hqI],rfl,rfl,HC,rfl⟩
  |false=>
   have HC:Hid ((192<=q/\q<224->0=n/\0=v/\0=lo/\0=mo)/\(¬(192<=q/\q<224)->0=0/\0=0/\0=0/\0=0)):=hid (by have:=HRO.out;have:=of_decide_eq_false HT.out;omega);go_wp2;go_meet
   first|exact⟨0,0,0,0,rfl,rfl,rfl,rfl,HC,rfl⟩|exact⟨0,0,0,0,rfl,rfl,rfl,rfl,hid ⟨HC.out.1,fun _=>⟨rfl,rfl,rfl,rfl⟩⟩,rfl⟩
 case rest=>
 obtain⟨n0,v0,l0,m0,rfl,rfl,rfl,rfl,H0,rfl⟩:=hcut;clear HT t;obtain⟨w,hw⟩:∃w,w=wc:=⟨_,rfl⟩
 subst hw;go_upto_region 7 with fail;obtain⟨t,ht⟩:∃t,decide (224<=q/\q<240)=t:=⟨_,rfl⟩
 have HT:=hid ht;clear ht;go_cut [38] (fun s38 wx=>s38=.bool t/\wx=w)
 case first=>
  by_cases h1:224<=q
  ·have k1:(224:Int)<=(q:Int):=by omega
   by_cases h2:q<240
   ·have k2:(q:Int)<240:=by omega
    have HX:Hid (t=true):=hid (by rw[<-HT.out];exact decide_eq_true ⟨h1,h2⟩);go_wp2;go_meet;exact⟨by rw[HX.out],rfl⟩
   ·have k2:¬((q:Int)<240):=by omega
    have k2b:decide ((q:Int)<240)=false:=by simpa using k2
    have HX:Hid (t=false):=hid (by rw[<-HT.out];exact decide_eq_false (fun h=>h2 h.2));go_wp2;go_meet;exact⟨by rw[HX.out],rfl⟩
  ·have k1:¬((224:Int)<=(q:Int)):=by omega
   have k1b:decide ((224:Int)<=(q:Int))=false:=by simpa using k1
   have HX:Hid (t=false):=hid (by rw[<-HT.out];exact decide_eq_false (fun h=>h1 h.1));go_wp2;go_meet;exact⟨by rw[HX.out],rfl⟩
 case rest=>
 obtain⟨rfl,rfl⟩:=hcut;obtain⟨w,hw⟩:∃w,w=wc:=⟨_,rfl⟩
 subst hw;go_upto_if 38 with fail;go_cut [5,6,7,8] (fun s5 s6 s7 s8 wx=>∃n1 v1 l1 m1:Nat,s5=.int .i64 n1/\s6=.int .i64 v1/\s7=.int .i64 l1/\s8=.int .i64 m1/\Hid ((192<=q/\q<240->n1=n/\v1=v/\l1=lo/\m1=mo)/\(¬(192<=q/\q<240)->n1=0/\v1=0/\l1=0/\m1=0))/\wx=w)
 case first=>
  cases t with
  |true=>
   have hb:=of_decide_eq_true HT.out;have hqI:(q:Int)-224=((q-224:Nat):Int):=by omega
   have HC:Hid ((192<=q/\q<240->3=n/\q-224=v/\2048=lo/\65535=mo)/\(¬(192<=q/\q<240)->3=0/\q-224=0/\2048=0/\65535=0)):=hid (by have:=HRO.out;omega);clear hb;go_wp2;go_meet;exact⟨3,q-224,2048,65535,rfl,by rw[<-hqI],rfl,rfl,HC,rfl⟩
  |false=>
   have HC:Hid ((192<=q/\q<240->n0=n/\v0=v/\l0=lo/\m0=mo)/\(¬(192<=q/\q<240)->n0=0/\v0=0/\l0=0/\m0=0)):=hid (by have:=HRO.out;have:=of_decide_eq_false HT.out;have:=H0.out;omega);go_wp2;go_meet
   first|exact⟨n0,v0,l0,m0,rfl,rfl,rfl,rfl,HC,rfl⟩|exact⟨n0,v0,l0,m0,rfl,rfl,rfl,rfl,hid ⟨HC.out.1,fun _=>⟨rfl,rfl,rfl,rfl⟩⟩,rfl⟩
 case rest=>
 obtain⟨n1,v1,l1,m1,rfl,rfl,rfl,rfl,H1,rfl⟩:=hcut;clear HT t;obtain⟨w,hw⟩:∃w,w=wc:=⟨_,rfl⟩
 subst hw;go_upto_region 9 with fail;obtain⟨t,ht⟩:∃t,decide (240<=q/\q<248)=t:=⟨_,rfl⟩
 have HT:=hid ht;clear ht;go_cut [46] (fun s46 wx=>s46=.bool t/\wx=w)
 case first=>
  by_cases h1:240<=q
  ·have k1:(240:Int)<=(q:Int):=by omega
   by_cases h2:q<248
   ·have k2:(q:Int)<248:=by omega
    have HX:Hid (t=true):=hid (by rw[<-HT.out];exact decide_eq_true ⟨h1,h2⟩);go_wp2;go_meet;exact⟨by rw[HX.out],rfl⟩
   ·have k2:¬((q:Int)<248):=by omega
    have k2b:decide ((q:Int)<248)=false:=by simpa using k2
    have HX:Hid (t=false):=hid (by rw[<-HT.out];exact decide_eq_false (fun h=>h2 h.2));go_wp2;go_meet;exact⟨by rw[HX.out],rfl⟩
  ·have k1:¬((240:Int)<=(q:Int)):=by omega
   have k1b:decide ((240:Int)<=(q:Int))=false:=by simpa using k1
   have HX:Hid (t=false):=hid (by rw[<-HT.out];exact decide_eq_false (fun h=>h1 h.1));go_wp2;go_meet;exact⟨by rw[HX.out],rfl⟩
 case rest=>
 obtain⟨rfl,rfl⟩:=hcut;obtain⟨w,hw⟩:∃w,w=wc:=⟨_,rfl⟩
 subst hw;go_upto_if 46 with fail;go_cut [5,6,7,8] (fun s5 s6 s7 s8 wx=>∃n2 v2 l2 m2:Nat,s5=.int .i64 n2/\s6=.int .i64 v2/\s7=.int .i64 l2/\s8=.int .i64 m2/\Hid ((192<=q/\q<248->n2=n/\v2=v/\l2=lo/\m2=mo)/\(¬(192<=q/\q<248)->n2=0/\v2=0/\l2=0/\m2=0))/\wx=w)
 case first=>
  cases t with
  |true=>
   have hb:=of_decide_eq_true HT.out;have hqI:(q:Int)-240=((q-240:Nat):Int):=by omega
   have HC:Hid ((192<=q/\q<248->4=n/\q-240=v/\65536=lo/\1114111=mo)/\(¬(192<=q/\q<248)->4=0/\q-240=0/\65536=0/\1114111=0)):=hid (by have:=HRO.out;omega);clear hb;go_wp2;go_meet;exact⟨4,q-240,65536,1114111,rfl,by rw[<-hqI],rfl,rfl,HC,rfl⟩
  |false=>
   have HC:Hid ((192<=q/\q<248->n1=n/\v1=v/\l1=lo/\m1=mo)/\(¬(192<=q/\q<248)->n1=0/\v1=0/\l1=0/\m1=0)):=hid (by have:=HRO.out;have:=of_decide_eq_false HT.out;have:=H1.out;omega);go_wp2;go_meet
   first|exact⟨n1,v1,l1,m1,rfl,rfl,rfl,rfl,HC,rfl⟩|exact⟨n1,v1,l1,m1,rfl,rfl,rfl,rfl,hid ⟨HC.out.1,fun _=>⟨rfl,rfl,rfl,rfl⟩⟩,rfl⟩
 case rest=>
 obtain⟨n2,v2,l2,m2,rfl,rfl,rfl,rfl,H2,rfl⟩:=hcut;clear HT t;obtain⟨w,hw⟩:∃w,w=wc:=⟨_,rfl⟩
 subst hw;obtain⟨rfl,rfl,rfl,rfl⟩:n2=n/\v2=v/\l2=lo/\m2=mo:=by have:=HRO.out;have:=H2.out;omega
 have hn4:n2<=4:=by have:=HRO.out;omega
 have hv32:v2<32:=by have:=HRO.out;omega
 have hlo:l2<=65536:=by have:=HRO.out;omega
 have hmo:m2<=1114111:=by have:=HRO.out;omega
 clear H0 H1 H2 HRO;by_cases hln:l.length>n2
 ·have hlnI:(n2:Int)<(l.length:Int):=by omega
  have HR0:Hid (R=(0,0)):=hid (by have:=HBM.out;rw[if_pos hln]at this;exact this);go_wp2;go_ret2;rw[HR0.out];exact⟨rfl,rfl⟩
 ·have hlnI:¬((n2:Int)<(l.length:Int)):=by omega
  have HB2:Hid (R=begF n2 l2 m2 l.length (Utf.goOn v2 (l.drop 1))):=hid (by have:=HBM.out;rw[if_neg hln]at this;exact this)
  skip
  go_wp2_with fail;go_loop [6,9] (fun s6 s9=>∃x i:Nat,1<=i/\i<=l.length/\s6=.int .i64 x/\s9=.int .i64 i/\x<32*64 ^ (i-1)/\Hid (Utf.goOn v2 (l.drop 1)=Utf.goOn x (l.drop i))) (fun _ s9=>l.length-(intOf s9).toNat)
  case atStart=>exact⟨v2,1,by omega,by omega,rfl,rfl,by simpa using hv32,hid rfl⟩
  case round=>
   obtain⟨x,i,hi1,hil,rfl,rfl,hxb,hgo⟩:=hrel;have hx3:x<32*64 ^ 3:=Nat.lt_of_lt_of_le hxb (Nat.mul_le_mul_left _ (Nat.pow_le_pow_right (by omega) (by omega)));have hx3:x<=8388607:=by omega
   by_cases hlt:i<l.length
   ·have hltI:(i:Int)<(l.length:Int):=by omega
    obtain⟨ad',ha',_,y0⟩:=byte_at HRW.out hlt;injection ha' with ha'
    subst ha';have hdrop:l.drop i=l[i]::l.drop (i+1):=List.drop_eq_getElem_cons hlt;obtain⟨d,hd⟩:=ex (l[i])
    rw[hd]at y0 hdrop;obtain⟨dn,hdn⟩:=ex d.toNat
    rw[hdn]at y0;have hd256:dn<256:=by rw[<-hdn];exact UInt8.toNat_lt _
    have hgc:Utf.goOn x (l.drop i)=if dn<128\/191<dn then none else Utf.goOn (64*x+(dn-128)) (l.drop (i+1)):=by
     rw[hdrop,Utf.zbp];unfold Utf.isC;rw[hdn];by_cases h1:dn<128\/191<dn
     ·rw[if_pos h1,if_neg (by simp;omega)]
     ·rw[if_neg h1,if_pos (by simp;omega)]
    have HGO:Hid (Utf.goOn v2 (l.drop 1)=if dn<128\/191<dn then none else Utf.goOn (64*x+(dn-128)) (l.drop (i+1))):=hid (hgo.out.trans hgc);clear hgc hdrop hd hdn hgo;by_cases h1:dn<128
    ·have j1:(dn:Int)<128:=by omega
     have HR0:Hid (R=(0,0)):=hid (by rw[HB2.out,HGO.out,if_pos (.inl h1)];rfl);go_wp2;go_ret2;rw[HR0.out];exact⟨rfl,rfl⟩
    ·have j1:¬((dn:Int)<128):=by omega
     have j1b:decide ((dn:Int)<128)=false:=by simpa using j1
     by_cases h2:191<dn
     ·have j2:(191:Int)<(dn:Int):=by omega
      have HR0:Hid (R=(0,0)):=hid (by rw[HB2.out,HGO.out,if_pos (.inr h2)];rfl);go_wp2;go_ret2;rw[HR0.out];exact⟨rfl,rfl⟩
     ·have j2:¬((191:Int)<(dn:Int)):=by omega
      have j2b:decide ((191:Int)<(dn:Int))=false:=by simpa using j2
      have hpow:64 ^ (i+1-1)=64*64 ^ (i-1):=by
       rw[show i+1-1=(i-1)+1 from by omega,Nat.pow_succ,Nat.mul_comm]
      have HPOW:Hid (64*x+(dn-128)<32*64 ^ (i+1-1)):=hid (by rw[hpow];omega);have HGO2:Hid (Utf.goOn v2 (l.drop 1)=Utf.goOn (64*x+(dn-128)) (l.drop (i+1))):=hid (by rw[HGO.out,if_neg (by omega)]);clear hpow;go_wp2;go_round
      case rel=>exact⟨64*x+(dn-128),i+1,by omega,by omega,by go_num,by go_num,HPOW.out,HGO2⟩
      case measure=>simp[intOf];omega
   ·have hltI:¬((i:Int)<(l.length:Int)):=by omega
    have hil2:i=l.length:=by omega
    have hR2:R=if(Utf.widen (n2-l.length) (x,x)).2<l2\/(Utf.widen (n2-l.length) (x,x)).1>m2\/((Utf.widen (n2-l.length) (x,x)).1>=55296/\(Utf.widen (n2-l.length) (x,x)).2<=57343)then(0,0)else((Utf.widen (n2-l.length) (x,x)).1,n2):=by
     have h1:=hgo.out;rw[hil2,List.drop_length]at h1;have h1:Utf.goOn v2 (l.drop 1)=some x:=h1;rw[HB2.out,h1];rfl
    have HR2:=hid hR2;have hxl:x<32*64 ^ (l.length-1):=by rw[<-hil2];exact hxb
    clear hR2 hil2 hgo;go_wp2_with fail;go_loop [10,11,12] (fun s10 s11 s12=>∃y z k:Nat,l.length<=k/\k<=n2/\s10=.int .i64 y/\s11=.int .i64 z/\s12=.int .i64 k/\y<=z/\z<32*64 ^ (k-1)/\Hid (Utf.widen (n2-l.length) (x,x)=Utf.widen (n2-k) (y,z))) (fun _ _ s12=>n2-(intOf s12).toNat)
    case atStart=>exact⟨x,x,l.length,by omega,by omega,rfl,rfl,rfl,by omega,hxl,hid rfl⟩
    case round=>
     obtain⟨y,z,k,hk1,hk2,rfl,rfl,rfl,hyz,hzb,hwd⟩:=hrel;have hz3:z<32*64 ^ 3:=Nat.lt_of_lt_of_le hzb (Nat.mul_le_mul_left _ (Nat.pow_le_pow_right (by omega) (by omega)));have hz3:z<=8388607:=by omega
     by_cases hkn:k<n2
     ·have hknI:(k:Int)<(n2:Int):=by omega
      have hpow:64 ^ (k+1-1)=64*64 ^ (k-1):=by
       rw[show k+1-1=(k-1)+1 from by omega,Nat.pow_succ,Nat.mul_comm]
      have HPOW:Hid (64*z+63<32*64 ^ (k+1-1)):=hid (by rw[hpow];omega);have HWD:Hid (Utf.widen (n2-l.length) (x,x)=Utf.widen (n2-(k+1)) (64*y,64*z+63)):=hid (by
       rw[hwd.out,show n2-k=(n2-(k+1))+1 from by omega];rfl)
      clear hpow hwd;go_wp2;go_round
      case rel=>exact⟨64*y,64*z+63,k+1,by omega,by omega,by go_num,by go_num,by go_num,by omega,HPOW.out,HWD⟩
      case measure=>simp[intOf];omega
     ·have hknI:¬((k:Int)<(n2:Int)):=by omega
      have hR3:R=if z<l2\/y>m2\/(y>=55296/\z<=57343)then(0,0)else(y,n2):=by
       rw[HR2.out,hwd.out,show n2-k=0 from by omega];rfl
      have HR3:=hid hR3;clear hR3 hwd;by_cases t1:z<l2
      ·have t1I:(z:Int)<(l2:Int):=by omega
       have HR0:Hid (R=(0,0)):=hid (by rw[HR3.out,if_pos (.inl t1)]);go_wp2;go_ret2;rw[HR0.out];exact⟨rfl,rfl⟩
      ·have t1I:¬((z:Int)<(l2:Int)):=by omega
       have t1b:decide ((z:Int)<(l2:Int))=false:=by simpa using t1I
       by_cases t2:m2<y
       ·have t2I:(m2:Int)<(y:Int):=by omega
        have HR0:Hid (R=(0,0)):=hid (by rw[HR3.out,if_pos (.inr (.inl t2))]);go_wp2;go_ret2;rw[HR0.out];exact⟨rfl,rfl⟩
       ·have t2I:¬((m2:Int)<(y:Int)):=by omega
        have t2b:decide ((m2:Int)<(y:Int))=false:=by simpa using t2I
        by_cases t3:55296<=y
        ·have t3I:(55296:Int)<=(y:Int):=by omega
         by_cases t4:z<=57343
         ·have t4I:(z:Int)<=57343:=by omega
          have HR0:Hid (R=(0,0)):=hid (by rw[HR3.out,if_pos (.inr (.inr ⟨t3,t4⟩))]);go_wp2;go_ret2;rw[HR0.out];exact⟨rfl,rfl⟩
         ·have t4I:¬((z:Int)<=57343):=by omega
          have t4b:decide ((z:Int)<=57343)=false:=by simpa using t4I
          have HR0:Hid (R=(y,n2)):=hid (by rw[HR3.out,if_neg (by omega)]);go_wp2;go_ret2;rw[HR0.out];exact⟨rfl,rfl⟩
        ·have t3I:¬((55296:Int)<=(y:Int)):=by omega
         have t3b:decide ((55296:Int)<=(y:Int))=false:=by simpa using t3I
         have HR0:Hid (R=(y,n2)):=hid (by rw[HR3.out,if_neg (by omega)]);go_wp2;go_ret2;rw[HR0.out];exact⟨rfl,rfl⟩
theorem zku (l:Utf.Str) (A:Option Addr) (c B:Nat) (h0:0<l.length) (h4:l.length<=4) (w:World) (hr:RowAt byteL w B A l) (R:Nat×Nat) (hR:Utf.begins l=R):
 Calls prog 131 #[.slice A l.length c] w fun e w'=>e=.returned (.tuple #[.int .i64 (R.1:Int),.int .i64 (R.2:Int)])/\w=w':=by
 by_cases h1:(l[0]).toNat<128/\l.length=1
 ·rw[<-hR,zh8 l h1.2 h0 h1.1];exact zks l A c B h1.2 w hr h0 h1.1
 ·exact zkt l A c B h0 h4 w hr h1 R hR
def atC (r:Utf.Str) (k:Nat):Prop:=k<=r.length/\(Utf.begins (r.take k)).2=k
theorem zpp (r:Utf.Str) (k:Nat) (h1:1<=k) (h4:k<=4) (hk:atC r k) (hno:∀j,1<=j->j<k->¬atC r j):Utf.refAt r=Utf.begins (r.take k):=by
 unfold Utf.refAt;unfold atC at hk hno;rcases(by omega:k=1\/k=2\/k=3\/k=4)with rfl|rfl|rfl|rfl
 ·rw[if_pos hk]
 ·rw[if_neg (hno 1 (by omega) (by omega)),if_pos hk]
 ·rw[if_neg (hno 1 (by omega) (by omega)),if_neg (hno 2 (by omega) (by omega)),if_pos hk]
 ·rw[if_neg (hno 1 (by omega) (by omega)),if_neg (hno 2 (by omega) (by omega)),if_neg (hno 3 (by omega) (by omega)),if_pos hk]
theorem ze7 (r:Utf.Str) (hno:∀j,1<=j->j<=4->¬atC r j):Utf.refAt r=(0,0):=by
 unfold Utf.refAt;unfold atC at hno;rw[if_neg (hno 1 (by omega) (by omega)),if_neg (hno 2 (by omega) (by omega)),if_neg (hno 3 (by omega) (by omega)),if_neg (hno 4 (by omega) (by omega))]
theorem zg9 (s:Utf.Str):byteL.all s=s.map (fun b=>Value.int .u8 (b.toNat:Int)):=by
 induction s with
 |nil=>rfl
 |cons c s ih=>simp only[Lay.all,List.flatMap_cons,List.map_cons]at *;rw[ih];rfl
theorem zpq (s:Utf.Str) (w:World):∃w1 cap,(convert 9 119 (.string ⟨s.toArray⟩)).run prog w=.ok (.slice (some ⟨w.heap.size,0,none⟩) s.length cap) w1/\Below w.heap.size w w1/\RowAt byteL w1 w1.heap.size (some ⟨w.heap.size,0,none⟩) s/\s.length<=cap:=by
 have h:=run_bytes_of_string (P:=prog) w 9 119 5 ⟨s.toArray⟩ underlying9 underlying119 underlying5;have hs:(⟨s.toArray⟩:ByteArray).size=s.length:=by simp[ByteArray.size]
 rw[hs]at h;refine⟨_,_,h,?_,?_,?_⟩
 ·exact((Below.refl _ _).drew).alloc (Nat.le_refl _) _
 ·refine⟨byteL.all_len s,fun _=>⟨_,rfl,?_,?_⟩⟩
  ·rw[World.size_alloc];exact Nat.lt_succ_self _
  ·intro j u hu;rw[zg9]at hu;have hj:j<s.length:=by
    have:=(List.getElem?_eq_some_iff.1 hu).1;simpa using this
   have e:(⟨w.heap.size,0,none⟩:Addr).add j=⟨w.heap.size,j,none⟩:=by
    unfold Addr.add;by_cases h0:j=0
    ·simp[h0]
    ·simp[h0]
   rw[e];have hc:∀C fr,(w.drew.alloc (.cells C 5 fr)).cell? ⟨w.heap.size,j,none⟩=C[j]? :=fun C fr=>by
    have hg:(w.drew.alloc (.cells C 5 fr)).heap[w.heap.size]? =some (.cells C 5 fr):=heap_alloc_new w.drew _;unfold World.cell?;rw[hg];rfl
   rw[hc];unfold bytesRow;rw[Array.getElem?_append_left (by simpa using hj)];simpa using hu
 ·exact grownCap_ge w s.length 0 5
theorem zpr {w:World} {B g a k:Nat} {s:Utf.Str} (h:RowAt byteL w B (some ⟨g,0,none⟩) s) (hk:a+k<=s.length) (h0:0<k):RowAt byteL w B (some ⟨g,a,none⟩) ((s.drop a).take k):=by
 obtain⟨ad,e,hb,hc⟩:=h.2 (by omega);injection e with e
 subst e;refine⟨byteL.all_len _,fun _=>⟨_,rfl,hb,fun j u hu=>?_⟩⟩;rw[zg9]at hu hc;have hj:j<k:=by
  have:=(List.getElem?_eq_some_iff.1 hu).1;simp at this;omega
 have h2:=hc (a+j) u (by
  rw[List.getElem?_map]at hu ⊢;rw[<-hu,List.getElem?_take_of_lt hj,List.getElem?_drop])
 have e1:(⟨g,0,none⟩:Addr).add (a+j)=⟨g,a+j,none⟩:=by
  unfold Addr.add;by_cases h0:a+j=0
  ·rw[if_pos h0,h0]
  ·rw[if_neg h0];simp
 have e2:(⟨g,a,none⟩:Addr).add j=⟨g,a+j,none⟩:=by
  unfold Addr.add;by_cases h0:j=0
  ·rw[if_pos h0,h0];rfl
  ·rw[if_neg h0]
 rw[e2,<-e1];exact h2
theorem zts (s:Utf.Str) (a:Nat) (ha:a<s.length) (hs:s.length<=1073741823) (w:World) (R:Nat×Nat) (hR:Utf.refAt (s.drop a)=R):
 Calls prog 101 #[.string ⟨s.toArray⟩,.int .i64 a] w fun e w'=>e=.returned (.tuple #[.int .i64 (R.1:Int),.int .i64 (R.2:Int)])/\Below w.heap.size w w':=by
 have HR:=hid hR;clear hR;obtain⟨w1,cap,hcv,hb1,hrow,hcap⟩:=zpq s w;have HB1:=hid hb1;have HRW:=hid hrow;clear hb1 hrow;go_enter func101,ntmps101;have hne:¬(cap=a):=by omega
 have hne':¬(a=cap):=by omega
 have hcapI:(s.length:Int)<=(cap:Int):=by omega
 go_wp2_with fail;clear hcv;go_loop [7] (fun s7=>∃k:Nat,1<=k/\k<=5/\s7=.int .i64 k/\Hid (∀j,1<=j->j<k->¬atC (s.drop a) j)) (fun s7=>5-(intOf s7).toNat)
 case atStart=>exact⟨1,by omega,by omega,rfl,hid (fun j h1 h2=>by omega)⟩
 case round=>
  obtain⟨k,hk1,hk5,rfl,hno⟩:=hrel;by_cases hk4:k<=4
  ·have hk4I:(k:Int)<=4:=by omega
   by_cases hkl:a+k<=s.length
   ·have hklI:(a:Int)+(k:Int)<=(s.length:Int):=by omega
    have hklC:(a:Int)+(k:Int)<=(cap:Int):=by omega
    have haI:(a:Int)<=(a:Int)+(k:Int):=by omega
    have hlk:((s.drop a).take k).length=k:=by rw[List.length_take,List.length_drop];omega
    obtain⟨Q,hQ⟩:=ex (Utf.begins ((s.drop a).take k))
    have hbg:=zku ((s.drop a).take k) (some ⟨w.heap.size,a,none⟩) (cap-a) w1.heap.size (by omega) (by omega) w1 (zpr HRW.out hkl (by omega)) Q hQ;rw[hlk]at hbg;have HBG:=hid hbg;have HQ:=hid hQ;clear hbg hlk hQ;go_wp2_with fail;refine HBG.out.mono ?_;rintro e w2 ⟨rfl,rfl⟩;by_cases hq:Q.2=k
    ·have hqI:(Q.2:Int)=(k:Int):=by omega
     have hqb:((Q.2:Int)==(k:Int))=true:=by simpa using hqI
     have HRQ:Hid (R=(Q.1,k)):=hid (by
      rw[<-HR.out,<-hq,show(Q.1,Q.2)=Q from rfl,<-HQ.out];exact zpp (s.drop a) k hk1 hk4 ⟨by rw[List.length_drop];omega,by rw[HQ.out,hq]⟩ hno.out)
     clear hq;go_wp2;go_ret2;exact⟨by rw[HRQ.out];rfl,HB1.out⟩
    ·have hqI:¬((Q.2:Int)=(k:Int)):=by omega
     have hqb:((Q.2:Int)==(k:Int))=false:=by simpa using hqI
     go_wp2;go_round
     case rel=>exact⟨k+1,by omega,by omega,by go_num,hid (fun j h1 h2=>by
      by_cases e:j=k
      ·subst e;rintro⟨_,h3⟩;rw[HQ.out]at h3;exact hq h3
      ·exact hno.out j h1 (by omega))⟩
     case measure=>simp[intOf];omega
   ·have hklI:¬((a:Int)+(k:Int)<=(s.length:Int)):=by omega
    have hklb:decide ((a:Int)+(k:Int)<=(s.length:Int))=false:=by simpa using hklI
    have HR0:Hid (R=(0,0)):=hid (by
     rw[<-HR.out];refine ze7 _ (fun j h1 h2 h3=>?_);by_cases hjk:j<k
     ·exact hno.out j h1 hjk h3
     ·have:=h3.1;rw[List.length_drop]at this;omega)
    go_wp2;go_ret2;exact⟨by rw[HR0.out];rfl,HB1.out⟩
  ·have hk4I:¬((k:Int)<=4):=by omega
   have hk4b:decide ((k:Int)<=4)=false:=by simpa using hk4I
   have HR0:Hid (R=(0,0)):=hid (by
    rw[<-HR.out];exact ze7 _ (fun j h1 h2 h3=>hno.out j h1 (by omega) h3))
   go_wp2;go_ret2;exact⟨by rw[HR0.out];rfl,HB1.out⟩
def runeL:Lay Int:={enc:=fun x=>[.int .i32 x],sz:=1,len:=fun _=>rfl,one:=fun x u hu=>by simp at hu;subst hu;rfl,pos:=by omega}
theorem runeT:SliceT prog runeL 107 21 4:=zcs runeL 107 21 (.int .i32 0) 4 underlying107 (by kernel_rfl) rfl (by omega)
def badN (s:Utf.Str):Int:=match Utf.bad s with
 |some a=>(a:Int)
 |none=>-1
theorem zps (s:Utf.Str) (a:Nat) (ha:a<s.length) (R:Nat×Nat) (hR:Utf.refAt (s.drop a)=R) (h:Utf.bad s=Utf.badU (s.drop a).length (s.drop a) a):
 (R.2=0->Utf.bad s=some a)/\(R.2≠0->a+R.2<=s.length/\R.2<=4/\Utf.bad s=Utf.badU (s.drop (a+R.2)).length (s.drop (a+R.2)) (a+R.2)):=by
 have hd:s.drop a=s[a]::s.drop (a+1):=List.drop_eq_getElem_cons ha;have hne:s.drop a≠[]:=by rw[hd];exact List.cons_ne_nil _ _
 have hw:=Utf.zf9 (s.drop a);have hl:=Utf.zq1 (s.drop a) hne;rw[List.length_drop]at hl;have hu:∀n,Utf.badU (n+1) (s.drop a) a=if(Utf.dec (s.drop a)).1=65533/\(Utf.dec (s.drop a)).2=1 then some a else Utf.badU n ((s.drop a).drop (Utf.dec (s.drop a)).2) (a+(Utf.dec (s.drop a)).2):=by
  intro n;rw[hd];rfl
 have hlen:(s.drop a).length=(s.length-a-1)+1:=by rw[List.length_drop];omega
 rw[hlen,hu]at h;rcases Utf.agree (s.drop a) hne with⟨h1,h2,h3⟩|⟨h1,h2⟩
 ·rw[if_pos ⟨h1,h2⟩]at h;rw[hR]at h3;exact⟨fun _=>h,fun hc=>absurd h3 hc⟩
 ·rw[if_neg h1]at h;rw[hR]at h2;refine⟨fun hc=>?_,fun _=>⟨by rw[h2];omega,by rw[h2];omega,?_⟩⟩
  ·rw[h2]at hc;omega
  ·rw[h,h2,List.drop_drop];exact Utf.zlc _ _ _ _ (by rw[List.length_drop];omega) (Nat.le_refl _)
theorem zkv (s:Utf.Str) (hs:s.length<=1073741823) (w:World):
 Calls prog 80 #[.string ⟨s.toArray⟩] w fun e w'=>Below w.heap.size w w'/\∃v,e=.returned (.tuple #[v,.int .i64 (badN s)]):=by
 go_enter func80,ntmps80;go_wp2_with fail;go_loopw [4,5] (fun s4 s5 wr=>∃(v:Value) (l:List Int) (a:Nat),a<=s.length/\l.length<=a/\s5=.int .i64 a/\v=s4/\Hid (OwnRow runeL wr w.heap.size 21 v l)/\Below w.heap.size w wr/\Hid (Utf.bad s=Utf.badU (s.drop a).length (s.drop a) a))
  (fun _ s5 _=>s.length-(intOf s5).toNat)
 case atStart=>exact⟨_,[],0,by omega,by simp,rfl,rfl,hid OwnRow.nil,Below.refl _ _,hid rfl⟩
 case round=>
  obtain⟨v,l,a,ha,hla,rfl,rfl,hown,hb,hbad⟩:=hrel;by_cases hlt:a<s.length
  ·have hltI:(a:Int)<(s.length:Int):=by omega
   obtain⟨R,hR⟩:=ex (Utf.refAt (s.drop a))
   have HAT:=hid (zts s a hlt hs wr R hR);have HR:=hid hR;have HB:=hid hb;clear hR hb;go_wp2_with fail;refine HAT.out.mono ?_;rintro e w2 ⟨rfl,hb2⟩;have HB2:Hid (Below w.heap.size w w2):=hid (HB.out.trans (hb2.mono HB.out.size));have HO2:=hid (hown.out.later hb2);obtain⟨st0,st1⟩:=zps s a hlt R HR.out hbad.out;clear hb2 hown;by_cases h0:R.2=0
   ·have h0I:(R.2:Int)=0:=by omega
    have h0b:((R.2:Int)==0)=true:=by simpa using h0I
    have HN:Hid (badN s=(a:Int)):=hid (by unfold badN;rw[st0 h0]);clear st0 st1 h0;go_wp2;go_ret2;exact⟨HB2.out,_,by rw[HN.out];rfl⟩
   ·have h0I:¬((R.2:Int)=0):=by omega
    have h0b:((R.2:Int)==0)=false:=by simpa using h0I
    obtain⟨s1,s2,s3⟩:=st1 h0;have HS3:=hid s3;obtain⟨x,hx⟩:=ex (IntKind.i32.wrap (R.1:Int))
    clear st0 st1 s3 h0;go_wp2_with (at_builtin;go_must (refine zac _ rfl (.tmp 22) (.tmp 25) 107 21 4 rfl runeT w.heap.size v l rfl (HO2.out.alloc _) _ _ 1 [x] rfl (RowAt.lit1 _ _ rfl _ ?_) ?_ ?_ ?_))
    ·rfl
    ·simp;omega
    ·rw[World.size_alloc];have:=HB2.out.size;omega
    intro v' w3 hown3 hg3 _;have HB3:Hid (Below w.heap.size w w3):=hid ((HB2.out.alloc HB2.out.size _).trans ((HO2.out.alloc _).grown_below hg3 (by rw[World.size_alloc];have:=HB2.out.size;omega)));have HO3:=hid hown3;clear hown3 hg3;go_wp2;go_roundw
    case rel=>exact⟨v',l++[x],a+R.2,by omega,by simp;omega,by go_num,rfl,HO3,HB3.out,HS3⟩
    case measure=>simp[intOf];omega
  ·have hltI:¬((a:Int)<(s.length:Int)):=by omega
   have HN:Hid (badN s=-1):=hid (by
    have h:=hbad.out;rw[List.drop_of_length_le (by omega)]at h;have h:Utf.bad s=none:=h;unfold badN;rw[h])
   have HB:=hid hb;clear hb hbad;go_wp2;go_ret2;exact⟨HB.out,_,by rw[HN.out];rfl⟩
theorem ztt (s:Utf.Str) (hs:s.length<=1073741823) (w:World) (r:Bool) (hr:decide (Utf.bad s=none)=r):
 Calls prog 46 #[.string ⟨s.toArray⟩] w fun e w'=>e=.returned (.bool r)/\Below w.heap.size w w':=by
 obtain⟨x,hx⟩:=ex (badN s)
 have HD:=hid (zkv s hs w);have hxr:decide (x<0)=r:=by
  rw[<-hx,<-hr];unfold badN;cases Utf.bad s with
  |none=>rfl
  |some a=>simp
 rw[hx]at HD;clear hx hr;go_enter func46,ntmps46;go_wp2_with fail;refine HD.out.mono ?_;rintro e w2 ⟨hb,v,rfl⟩;have HB:=hid hb;clear hb;go_wp2;go_ret;exact⟨by rw[<-hxr];rfl,HB.out⟩
end Utf
end Go.Proofs.YtoigpackhninoaaGreatDoor
