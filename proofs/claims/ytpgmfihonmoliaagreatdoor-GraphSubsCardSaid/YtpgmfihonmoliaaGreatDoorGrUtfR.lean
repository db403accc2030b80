import Derived.Test.YtpgmfihonmoliaaGreatDoorZ05
import Derived.Test.YtpgmfihonmoliaaGreatDoorZ02
namespace Go.Proofs.YtpgmfihonmoliaaGreatDoor
open _root_.Go.Proofs.Tryz
open _root_.Go.Lib (hid)
set_option maxRecDepth 100000
set_option maxHeartbeats 16000000
namespace Utf
open Go.RowKit
theorem byte_at {w:World} {B:Nat} {A:Option Addr} {l:Utf.Str} {k:Nat} (h:RowAt byteL w B A l) (hk:k<l.length):∃ad,A=some ad/\ad.block<B/\w.cell? (ad.add k)=some (.int .u8 ((l[k]).toNat:Int)):=by
 obtain⟨ad,a,c,b,_⟩:=h.get hk;refine⟨ad,a,c,?_⟩;have:=b (.int .u8 ((l[k]).toNat:Int)) rfl;rwa[show k*byteL.sz=k from Nat.mul_one k]at this
theorem zj5 (l:Utf.Str) (h1:l.length=1) (h0:0<l.length) (hq:(l[0]).toNat<128):Utf.begins l=((l[0]).toNat,1):=by
 cases l with
 |nil=>simp at h0
 |cons c r=>
  have a:r=[]:=by simpa using h1
  subst a;unfold Utf.begins;simp only;rw[if_pos ⟨UInt8.lt_iff_toNat_lt.2 (by simpa using hq),by trivial⟩];rfl
def begF (n lo mo len:Nat):Option Nat->Nat×Nat
 |none=>(0,0)
 |some x=>if(Utf.widen (n-len) (x,x)).2<lo\/(Utf.widen (n-len) (x,x)).1>mo\/((Utf.widen (n-len) (x,x)).1>=55296/\(Utf.widen (n-len) (x,x)).2<=57343)then(0,0)else((Utf.widen (n-len) (x,x)).1,n)
theorem zj6 (l:Utf.Str) (h0:0<l.length) (hq:¬((l[0]).toNat<128/\l.length=1)) (n v lo mo:Nat) (hrow:Utf.rowOf (l[0]).toNat=(n,v,lo,mo)):
 Utf.begins l=if l.length>n then(0,0)else begF n lo mo l.length (Utf.goOn v (l.drop 1)):=by
 cases l with
 |nil=>simp at h0
 |cons c r=>
  unfold Utf.begins;simp only;rw[if_neg (fun h=>hq ⟨UInt8.lt_iff_toNat_lt.1 h.1,by simp[h.2]⟩)];have e:Utf.rowOf c.toNat=(n,v,lo,mo):=hrow;rw[e];simp only[List.length_cons,List.drop_succ_cons,List.drop_zero];by_cases hl:r.length+1>n
  .rw[if_pos hl,if_pos hl]
  .rw[if_neg hl,if_neg hl];cases Utf.goOn v r<;>rfl
theorem zm8 (l:Utf.Str) (A:Option Addr) (c B:Nat) (h1:l.length=1) (w:World) (hr:RowAt byteL w B A l) (h0:0<l.length) (hq:(l[0]).toNat<128):
 Calls prog 159 #[.slice A l.length c] w fun e w'=>e=.returned (.tuple #[.int .i64 ((l[0]).toNat:Int),.int .i64 1])/\w=w':=by
 obtain⟨d,rfl,_,b⟩:=byte_at hr h0;have b:w.cell? d=some (.int .u8 ((l[0]).toNat:Int)):=by simpa[Addr.add]using b
 obtain⟨q,a⟩:=ex ((l[0]).toNat)
 rw[a]at b hq;rw[a];have hqI:(q:Int)<128:=by omega
 rw[h1];clear hr a h1;go_enter func159,ntmps159;go_wp2;go_ret2;exact⟨rfl,rfl⟩
theorem zm9 (l:Utf.Str) (A:Option Addr) (c B:Nat) (h0:0<l.length) (h4:l.length<=4) (w:World) (hr:RowAt byteL w B A l) (hq:¬((l[0]).toNat<128/\l.length=1)) (R:Nat×Nat) (hR:Utf.begins l=R):
 Calls prog 159 #[.slice A l.length c] w fun e w'=>e=.returned (.tuple #[.int .i64 (R.1:Int),.int .i64 (R.2:Int)])/\w=w':=by
 obtain⟨ad,rfl,_,x0⟩:=byte_at hr h0;have x0:w.cell? ad=some (.int .u8 ((l[0]).toNat:Int)):=by simpa[Addr.add]using x0
 obtain⟨q,K⟩:=ex ((l[0]).toNat)
 have hq256:q<256:=by rw[<-K];exact UInt8.toNat_lt _
 obtain⟨n,v,o,m,a⟩:∃n v o m,Utf.rowOf q=(n,v,o,m):=⟨_,_,_,_,rfl⟩
 have T:=zj6 l h0 hq n v o m (by rw[K];exact a);have f:Hid ((192<=q/\q<224/\n=2/\v=q-192/\o=128/\m=2047)\/(224<=q/\q<240/\n=3/\v=q-224/\o=2048/\m=65535)\/(240<=q/\q<248/\n=4/\v=q-240/\o=65536/\m=1114111)\/((q<192\/248<=q)/\n=0/\v=0/\o=0/\m=0)):=hid (by
  unfold Utf.rowOf at a;split at a
  .injection a with h1 h2;injection h2 with h2 h3;injection h3 with h3 h4;omega
  .split at a
   .injection a with h1 h2;injection h2 with h2 h3;injection h3 with h3 h4;omega
   .split at a
    .injection a with h1 h2;injection h2 with h2 h3;injection h3 with h3 h4;omega
    .injection a with h1 h2;injection h2 with h2 h3;injection h3 with h3 h4;omega)
 rw[hR]at T;rw[K]at x0 hq;have al:=hid T;have au:=hid hr;have ao:(0:Int)<(l.length:Int):=by omega
 clear T hR K hr a;go_enter func159,ntmps159;go_upto_region 3 with fail;go_cut [23] (fun s23 C=>s23=.bool false/\C=w)
 case first=>
  by_cases h1:q<128
  .have H:(q:Int)<128:=by omega
   have J:¬((l.length:Int)=1):=by omega
   have U:((l.length:Int)==1)=false:=by simpa using J
   go_wp2;go_meet;exact⟨rfl,rfl⟩
  .have H:¬((q:Int)<128):=by omega
   have Q:decide ((q:Int)<128)=false:=by simpa using H
   go_wp2;go_meet;exact⟨rfl,rfl⟩
 case rest=>
 obtain⟨rfl,rfl⟩:=hcut;clear x0 hq ao;obtain⟨w,D⟩:∃w,w=wc:=⟨_,rfl⟩
 subst D;go_upto_region 5 with fail;obtain⟨t,O⟩:∃t,decide (192<=q/\q<224)=t:=⟨_,rfl⟩
 have g:=hid O;clear O;go_cut [30] (fun s30 C=>s30=.bool t/\C=w)
 case first=>
  by_cases h1:192<=q
  .have H:(192:Int)<=(q:Int):=by omega
   by_cases h2:q<224
   .have J:(q:Int)<224:=by omega
    have r:Hid (t=true):=hid (by rw[<-g.out];exact decide_eq_true ⟨h1,h2⟩);go_wp2;go_meet;exact⟨by rw[r.out],rfl⟩
   .have J:¬((q:Int)<224):=by omega
    have U:decide ((q:Int)<224)=false:=by simpa using J
    have r:Hid (t=false):=hid (by rw[<-g.out];exact decide_eq_false (fun h=>h2 h.2));go_wp2;go_meet;exact⟨by rw[r.out],rfl⟩
  .have H:¬((192:Int)<=(q:Int)):=by omega
   have Q:decide ((192:Int)<=(q:Int))=false:=by simpa using H
   have r:Hid (t=false):=hid (by rw[<-g.out];exact decide_eq_false (fun h=>h1 h.1));go_wp2;go_meet;exact⟨by rw[r.out],rfl⟩
 case rest=>
 obtain⟨rfl,rfl⟩:=hcut;obtain⟨w,D⟩:∃w,w=wc:=⟨_,rfl⟩
 subst D;go_upto_if 30 with fail;go_cut [5,6,7,8] (fun s5 s6 s7 s8 C=>∃n0 v0 l0 m0:Nat,s5=.int .i64 n0/\s6=.int .i64 v0/\s7=.int .i64 l0/\s8=.int .i64 m0/\Hid ((192<=q/\q<224->n0=n/\v0=v/\l0=o/\m0=m)/\(¬(192<=q/\q<224)->n0=0/\v0=0/\l0=0/\m0=0))/\C=w)
 case first=>
  cases t with
  |true=>
   have Y:=of_decide_eq_true g.out;have G:(q:Int)-192=((q-192:Nat):Int):=by omega
   have u:Hid ((192<=q/\q<224->2=n/\q-192=v/\128=o/\2047=m)/\(¬(192<=q/\q<224)->2=0/\q-192=0/\128=0/\2047=0)):=hid (by have:=f.out;omega);clear Y;go_wp2;go_meet;exact⟨2,q-192,128,2047,rfl,by rw[<-G],rfl,rfl,u,rfl⟩
  |false=>
   have u:Hid ((192<=q/\q<224->0=n/\0=v/\0=o/\0=m)/\(¬(192<=q/\q<224)->0=0/\0=0/\0=0/\0=0)):=hid (by have:=f.out;have:=of_decide_eq_false g.out;omega);go_wp2;go_meet
   first|exact⟨0,0,0,0,rfl,rfl,rfl,rfl,u,rfl⟩|exact⟨0,0,0,0,rfl,rfl,rfl,rfl,hid ⟨u.out.1,fun _=>⟨rfl,rfl,rfl,rfl⟩⟩,rfl⟩
 case rest=>
 obtain⟨n0,v0,l0,m0,rfl,rfl,rfl,rfl,H0,rfl⟩:=hcut;clear g t;obtain⟨w,D⟩:∃w,w=wc:=⟨_,rfl⟩
 subst D;go_upto_region 7 with fail;obtain⟨t,O⟩:∃t,decide (224<=q/\q<240)=t:=⟨_,rfl⟩
 have g:=hid O;clear O;go_cut [38] (fun s38 C=>s38=.bool t/\C=w)
 case first=>
  by_cases h1:224<=q
  .have H:(224:Int)<=(q:Int):=by omega
   by_cases h2:q<240
   .have J:(q:Int)<240:=by omega
    have r:Hid (t=true):=hid (by rw[<-g.out];exact decide_eq_true ⟨h1,h2⟩);go_wp2;go_meet;exact⟨by rw[r.out],rfl⟩
   .have J:¬((q:Int)<240):=by omega
    have U:decide ((q:Int)<240)=false:=by simpa using J
    have r:Hid (t=false):=hid (by rw[<-g.out];exact decide_eq_false (fun h=>h2 h.2));go_wp2;go_meet;exact⟨by rw[r.out],rfl⟩
  .have H:¬((224:Int)<=(q:Int)):=by omega
   have Q:decide ((224:Int)<=(q:Int))=false:=by simpa using H
   have r:Hid (t=false):=hid (by rw[<-g.out];exact decide_eq_false (fun h=>h1 h.1));go_wp2;go_meet;exact⟨by rw[r.out],rfl⟩
 case rest=>
 obtain⟨rfl,rfl⟩:=hcut;obtain⟨w,D⟩:∃w,w=wc:=⟨_,rfl⟩
 subst D;go_upto_if 38 with fail;go_cut [5,6,7,8] (fun s5 s6 s7 s8 C=>∃n1 v1 l1 m1:Nat,s5=.int .i64 n1/\s6=.int .i64 v1/\s7=.int .i64 l1/\s8=.int .i64 m1/\Hid ((192<=q/\q<240->n1=n/\v1=v/\l1=o/\m1=m)/\(¬(192<=q/\q<240)->n1=0/\v1=0/\l1=0/\m1=0))/\C=w)
 case first=>
  cases t with
  |true=>
   have Y:=of_decide_eq_true g.out;have G:(q:Int)-224=((q-224:Nat):Int):=by omega
   have u:Hid ((192<=q/\q<240->3=n/\q-224=v/\2048=o/\65535=m)/\(¬(192<=q/\q<240)->3=0/\q-224=0/\2048=0/\65535=0)):=hid (by have:=f.out;omega);clear Y;go_wp2;go_meet;exact⟨3,q-224,2048,65535,rfl,by rw[<-G],rfl,rfl,u,rfl⟩
  |false=>
   have u:Hid ((192<=q/\q<240->n0=n/\v0=v/\l0=o/\m0=m)/\(¬(192<=q/\q<240)->n0=0/\v0=0/\l0=0/\m0=0)):=hid (by have:=f.out;have:=of_decide_eq_false g.out;have:=H0.out;omega);go_wp2;go_meet
   first|exact⟨n0,v0,l0,m0,rfl,rfl,rfl,rfl,u,rfl⟩|exact⟨n0,v0,l0,m0,rfl,rfl,rfl,rfl,hid ⟨u.out.1,fun _=>⟨rfl,rfl,rfl,rfl⟩⟩,rfl⟩
 case rest=>
 obtain⟨n1,v1,l1,m1,rfl,rfl,rfl,rfl,H1,rfl⟩:=hcut;clear g t;obtain⟨w,D⟩:∃w,w=wc:=⟨_,rfl⟩
 subst D;go_upto_region 9 with fail;obtain⟨t,O⟩:∃t,decide (240<=q/\q<248)=t:=⟨_,rfl⟩
 have g:=hid O;clear O;go_cut [46] (fun s46 C=>s46=.bool t/\C=w)
 case first=>
  by_cases h1:240<=q
  .have H:(240:Int)<=(q:Int):=by omega
   by_cases h2:q<248
   .have J:(q:Int)<248:=by omega
    have r:Hid (t=true):=hid (by rw[<-g.out];exact decide_eq_true ⟨h1,h2⟩);go_wp2;go_meet;exact⟨by rw[r.out],rfl⟩
   .have J:¬((q:Int)<248):=by omega
    have U:decide ((q:Int)<248)=false:=by simpa using J
    have r:Hid (t=false):=hid (by rw[<-g.out];exact decide_eq_false (fun h=>h2 h.2));go_wp2;go_meet;exact⟨by rw[r.out],rfl⟩
  .have H:¬((240:Int)<=(q:Int)):=by omega
   have Q:decide ((240:Int)<=(q:Int))=false:=by simpa using H
   have r:Hid (t=false):=hid (by rw[<-g.out];exact decide_eq_false (fun h=>h1 h.1));go_wp2;go_meet;exact⟨by rw[r.out],rfl⟩
 case rest=>
 obtain⟨rfl,rfl⟩:=hcut;obtain⟨w,D⟩:∃w,w=wc:=⟨_,rfl⟩
 subst D;go_upto_if 46 with fail;go_cut [5,6,7,8] (fun s5 s6 s7 s8 C=>∃n2 v2 l2 m2:Nat,s5=.int .i64 n2/\s6=.int .i64 v2/\s7=.int .i64 l2/\s8=.int .i64 m2/\Hid ((192<=q/\q<248->n2=n/\v2=v/\l2=o/\m2=m)/\(¬(192<=q/\q<248)->n2=0/\v2=0/\l2=0/\m2=0))/\C=w)
 case first=>
  cases t with
  |true=>
   have Y:=of_decide_eq_true g.out;have G:(q:Int)-240=((q-240:Nat):Int):=by omega
   have u:Hid ((192<=q/\q<248->4=n/\q-240=v/\65536=o/\1114111=m)/\(¬(192<=q/\q<248)->4=0/\q-240=0/\65536=0/\1114111=0)):=hid (by have:=f.out;omega);clear Y;go_wp2;go_meet;exact⟨4,q-240,65536,1114111,rfl,by rw[<-G],rfl,rfl,u,rfl⟩
  |false=>
   have u:Hid ((192<=q/\q<248->n1=n/\v1=v/\l1=o/\m1=m)/\(¬(192<=q/\q<248)->n1=0/\v1=0/\l1=0/\m1=0)):=hid (by have:=f.out;have:=of_decide_eq_false g.out;have:=H1.out;omega);go_wp2;go_meet
   first|exact⟨n1,v1,l1,m1,rfl,rfl,rfl,rfl,u,rfl⟩|exact⟨n1,v1,l1,m1,rfl,rfl,rfl,rfl,hid ⟨u.out.1,fun _=>⟨rfl,rfl,rfl,rfl⟩⟩,rfl⟩
 case rest=>
 obtain⟨n2,v2,l2,m2,rfl,rfl,rfl,rfl,H2,rfl⟩:=hcut;clear g t;obtain⟨w,D⟩:∃w,w=wc:=⟨_,rfl⟩
 subst D;obtain⟨rfl,rfl,rfl,rfl⟩:n2=n/\v2=v/\l2=o/\m2=m:=by have:=f.out;have:=H2.out;omega
 have hn4:n2<=4:=by have:=f.out;omega
 have ae:v2<32:=by have:=f.out;omega
 have hlo:l2<=65536:=by have:=f.out;omega
 have hmo:m2<=1114111:=by have:=f.out;omega
 clear H0 H1 H2 f;by_cases hln:l.length>n2
 .have ak:(n2:Int)<(l.length:Int):=by omega
  have b:Hid (R=(0,0)):=hid (by have:=al.out;rw[if_pos hln]at this;exact this);go_wp2;go_ret2;rw[b.out];exact⟨rfl,rfl⟩
 .have ak:¬((n2:Int)<(l.length:Int)):=by omega
  have P:Hid (R=begF n2 l2 m2 l.length (Utf.goOn v2 (l.drop 1))):=hid (by have:=al.out;rw[if_neg hln]at this;exact this)
  skip
  go_wp2_with fail;go_loop [6,9] (fun s6 s9=>∃x i:Nat,1<=i/\i<=l.length/\s6=.int .i64 x/\s9=.int .i64 i/\x<32*64 ^ (i-1)/\Hid (Utf.goOn v2 (l.drop 1)=Utf.goOn x (l.drop i))) (fun _ s9=>l.length-(intOf s9).toNat)
  case atStart=>exact⟨v2,1,by omega,by omega,rfl,rfl,by simpa using ae,hid rfl⟩
  case round=>
   obtain⟨x,i,hi1,hil,rfl,rfl,aj,M⟩:=hrel;have an:x<32*64 ^ 3:=Nat.lt_of_lt_of_le aj (Nat.mul_le_mul_left _ (Nat.pow_le_pow_right (by omega) (by omega)));have an:x<=8388607:=by omega
   by_cases hlt:i<l.length
   .have ab:(i:Int)<(l.length:Int):=by omega
    obtain⟨ad',S,_,y0⟩:=byte_at au.out hlt;injection S with S
    subst S;have s:l.drop i=l[i]::l.drop (i+1):=List.drop_eq_getElem_cons hlt;obtain⟨d,hd⟩:=ex (l[i])
    rw[hd]at y0 s;obtain⟨j,N⟩:=ex d.toNat
    rw[N]at y0;have hd256:j<256:=by rw[<-N];exact UInt8.toNat_lt _
    have ag:Utf.goOn x (l.drop i)=if j<128\/191<j then none else Utf.goOn (64*x+(j-128)) (l.drop (i+1)):=by
     rw[s,Utf.zb8];unfold Utf.isC;rw[N];by_cases h1:j<128\/191<j
     .rw[if_pos h1,if_neg (by simp;omega)]
     .rw[if_neg h1,if_pos (by simp;omega)]
    have V:Hid (Utf.goOn v2 (l.drop 1)=if j<128\/191<j then none else Utf.goOn (64*x+(j-128)) (l.drop (i+1))):=hid (M.out.trans ag);clear ag s hd N M;by_cases h1:j<128
    .have j1:(j:Int)<128:=by omega
     have b:Hid (R=(0,0)):=hid (by rw[P.out,V.out,if_pos (.inl h1)];rfl);go_wp2;go_ret2;rw[b.out];exact⟨rfl,rfl⟩
    .have j1:¬((j:Int)<128):=by omega
     have j1b:decide ((j:Int)<128)=false:=by simpa using j1
     by_cases h2:191<j
     .have j2:(191:Int)<(j:Int):=by omega
      have b:Hid (R=(0,0)):=hid (by rw[P.out,V.out,if_pos (.inr h2)];rfl);go_wp2;go_ret2;rw[b.out];exact⟨rfl,rfl⟩
     .have j2:¬((191:Int)<(j:Int)):=by omega
      have j2b:decide ((191:Int)<(j:Int))=false:=by simpa using j2
      have p:64 ^ (i+1-1)=64*64 ^ (i-1):=by
       rw[show i+1-1=(i-1)+1 from by omega,Nat.pow_succ,Nat.mul_comm]
      have F:Hid (64*x+(j-128)<32*64 ^ (i+1-1)):=hid (by rw[p];omega);have ah:Hid (Utf.goOn v2 (l.drop 1)=Utf.goOn (64*x+(j-128)) (l.drop (i+1))):=hid (by rw[V.out,if_neg (by omega)]);clear p;go_wp2;go_round
      case rel=>exact⟨64*x+(j-128),i+1,by omega,by omega,by go_num,by go_num,F.out,ah⟩
      case measure=>simp[intOf];omega
   .have ab:¬((i:Int)<(l.length:Int)):=by omega
    have I:i=l.length:=by omega
    have X:R=if(Utf.widen (n2-l.length) (x,x)).2<l2\/(Utf.widen (n2-l.length) (x,x)).1>m2\/((Utf.widen (n2-l.length) (x,x)).1>=55296/\(Utf.widen (n2-l.length) (x,x)).2<=57343)then(0,0)else((Utf.widen (n2-l.length) (x,x)).1,n2):=by
     have h1:=M.out;rw[I,List.drop_length]at h1;have h1:Utf.goOn v2 (l.drop 1)=some x:=h1;rw[P.out,h1];rfl
    have aq:=hid X;have am:x<32*64 ^ (l.length-1):=by rw[<-I];exact aj
    clear X I M;go_wp2_with fail;go_loop [10,11,12] (fun s10 s11 s12=>∃y z k:Nat,l.length<=k/\k<=n2/\s10=.int .i64 y/\s11=.int .i64 z/\s12=.int .i64 k/\y<=z/\z<32*64 ^ (k-1)/\Hid (Utf.widen (n2-l.length) (x,x)=Utf.widen (n2-k) (y,z))) (fun _ _ s12=>n2-(intOf s12).toNat)
    case atStart=>exact⟨x,x,l.length,by omega,by omega,rfl,rfl,rfl,by omega,am,hid rfl⟩
    case round=>
     obtain⟨y,z,k,hk1,hk2,rfl,rfl,rfl,hyz,av,L⟩:=hrel;have ap:z<32*64 ^ 3:=Nat.lt_of_lt_of_le av (Nat.mul_le_mul_left _ (Nat.pow_le_pow_right (by omega) (by omega)));have ap:z<=8388607:=by omega
     by_cases hkn:k<n2
     .have ac:(k:Int)<(n2:Int):=by omega
      have p:64 ^ (k+1-1)=64*64 ^ (k-1):=by
       rw[show k+1-1=(k-1)+1 from by omega,Nat.pow_succ,Nat.mul_comm]
      have F:Hid (64*z+63<32*64 ^ (k+1-1)):=hid (by rw[p];omega);have ar:Hid (Utf.widen (n2-l.length) (x,x)=Utf.widen (n2-(k+1)) (64*y,64*z+63)):=hid (by
       rw[L.out,show n2-k=(n2-(k+1))+1 from by omega];rfl)
      clear p L;go_wp2;go_round
      case rel=>exact⟨64*y,64*z+63,k+1,by omega,by omega,by go_num,by go_num,by go_num,by omega,F.out,ar⟩
      case measure=>simp[intOf];omega
     .have ac:¬((k:Int)<(n2:Int)):=by omega
      have W:R=if z<l2\/y>m2\/(y>=55296/\z<=57343)then(0,0)else(y,n2):=by
       rw[aq.out,L.out,show n2-k=0 from by omega];rfl
      have E:=hid W;clear W L;by_cases t1:z<l2
      .have af:(z:Int)<(l2:Int):=by omega
       have b:Hid (R=(0,0)):=hid (by rw[E.out,if_pos (.inl t1)]);go_wp2;go_ret2;rw[b.out];exact⟨rfl,rfl⟩
      .have af:¬((z:Int)<(l2:Int)):=by omega
       have t1b:decide ((z:Int)<(l2:Int))=false:=by simpa using af
       by_cases t2:m2<y
       .have Z:(m2:Int)<(y:Int):=by omega
        have b:Hid (R=(0,0)):=hid (by rw[E.out,if_pos (.inr (.inl t2))]);go_wp2;go_ret2;rw[b.out];exact⟨rfl,rfl⟩
       .have Z:¬((m2:Int)<(y:Int)):=by omega
        have t2b:decide ((m2:Int)<(y:Int))=false:=by simpa using Z
        by_cases t3:55296<=y
        .have ai:(55296:Int)<=(y:Int):=by omega
         by_cases t4:z<=57343
         .have aa:(z:Int)<=57343:=by omega
          have b:Hid (R=(0,0)):=hid (by rw[E.out,if_pos (.inr (.inr ⟨t3,t4⟩))]);go_wp2;go_ret2;rw[b.out];exact⟨rfl,rfl⟩
         .have aa:¬((z:Int)<=57343):=by omega
          have t4b:decide ((z:Int)<=57343)=false:=by simpa using aa
          have b:Hid (R=(y,n2)):=hid (by rw[E.out,if_neg (by omega)]);go_wp2;go_ret2;rw[b.out];exact⟨rfl,rfl⟩
        .have ai:¬((55296:Int)<=(y:Int)):=by omega
         have t3b:decide ((55296:Int)<=(y:Int))=false:=by simpa using ai
         have b:Hid (R=(y,n2)):=hid (by rw[E.out,if_neg (by omega)]);go_wp2;go_ret2;rw[b.out];exact⟨rfl,rfl⟩
theorem zna (l:Utf.Str) (A:Option Addr) (c B:Nat) (h0:0<l.length) (h4:l.length<=4) (w:World) (hr:RowAt byteL w B A l) (R:Nat×Nat) (hR:Utf.begins l=R):
 Calls prog 159 #[.slice A l.length c] w fun e w'=>e=.returned (.tuple #[.int .i64 (R.1:Int),.int .i64 (R.2:Int)])/\w=w':=by
 by_cases h1:(l[0]).toNat<128/\l.length=1
 .rw[<-hR,zj5 l h1.2 h0 h1.1];exact zm8 l A c B h1.2 w hr h0 h1.1
 .exact zm9 l A c B h0 h4 w hr h1 R hR
def atC (r:Utf.Str) (k:Nat):Prop:=k<=r.length/\(Utf.begins (r.take k)).2=k
theorem zto (r:Utf.Str) (k:Nat) (h1:1<=k) (h4:k<=4) (hk:atC r k) (hno:∀j,1<=j->j<k->¬atC r j):Utf.refAt r=Utf.begins (r.take k):=by
 unfold Utf.refAt;unfold atC at hk hno;rcases(by omega:k=1\/k=2\/k=3\/k=4)with rfl|rfl|rfl|rfl
 .rw[if_pos hk]
 .rw[if_neg (hno 1 (by omega) (by omega)),if_pos hk]
 .rw[if_neg (hno 1 (by omega) (by omega)),if_neg (hno 2 (by omega) (by omega)),if_pos hk]
 .rw[if_neg (hno 1 (by omega) (by omega)),if_neg (hno 2 (by omega) (by omega)),if_neg (hno 3 (by omega) (by omega)),if_pos hk]
theorem zf6 (r:Utf.Str) (hno:∀j,1<=j->j<=4->¬atC r j):Utf.refAt r=(0,0):=by
 unfold Utf.refAt;unfold atC at hno;rw[if_neg (hno 1 (by omega) (by omega)),if_neg (hno 2 (by omega) (by omega)),if_neg (hno 3 (by omega) (by omega)),if_neg (hno 4 (by omega) (by omega))]
theorem zi1 (s:Utf.Str):byteL.all s=s.map (fun b=>Value.int .u8 (b.toNat:Int)):=by
 induction s with
 |nil=>rfl
 |cons c s ih=>simp only[Lay.all,List.flatMap_cons,List.map_cons]at *;rw[ih];rfl
theorem ztp (s:Utf.Str) (w:World):∃w1 cap,(convert 9 80 (.string ⟨s.toArray⟩)).run prog w=.ok (.slice (some ⟨w.heap.size,0,none⟩) s.length cap) w1/\Below w.heap.size w w1/\RowAt byteL w1 w1.heap.size (some ⟨w.heap.size,0,none⟩) s/\s.length<=cap:=by
 have h:=run_bytes_of_string (P:=prog) w 9 80 5 ⟨s.toArray⟩ underlying9 underlying80 underlying5;have f:(⟨s.toArray⟩:ByteArray).size=s.length:=by simp[ByteArray.size]
 rw[f]at h;refine⟨_,_,h,?_,?_,?_⟩
 .exact((Below.refl _ _).drew).alloc (Nat.le_refl _) _
 .refine⟨byteL.all_len s,fun _=>⟨_,rfl,?_,?_⟩⟩
  .rw[World.size_alloc];exact Nat.lt_succ_self _
  .intro j u a;rw[zi1]at a;have b:j<s.length:=by
    have:=(List.getElem?_eq_some_iff.1 a).1;simpa using this
   have e:(⟨w.heap.size,0,none⟩:Addr).add j=⟨w.heap.size,j,none⟩:=by
    unfold Addr.add;by_cases h0:j=0
    .simp[h0]
    .simp[h0]
   rw[e];have d:∀C fr,(w.drew.alloc (.cells C 5 fr)).cell? ⟨w.heap.size,j,none⟩=C[j]? :=fun C fr=>by
    have c:(w.drew.alloc (.cells C 5 fr)).heap[w.heap.size]? =some (.cells C 5 fr):=heap_alloc_new w.drew _;unfold World.cell?;rw[c];rfl
   rw[d];unfold bytesRow;rw[Array.getElem?_append_left (by simpa using b)];simpa using a
 .exact grownCap_ge w s.length 0 5
theorem ztq {w:World} {B g a k:Nat} {s:Utf.Str} (h:RowAt byteL w B (some ⟨g,0,none⟩) s) (hk:a+k<=s.length) (h0:0<k):RowAt byteL w B (some ⟨g,a,none⟩) ((s.drop a).take k):=by
 obtain⟨ad,e,l,c⟩:=h.2 (by omega);injection e with e
 subst e;refine⟨byteL.all_len _,fun _=>⟨_,rfl,l,fun j u b=>?_⟩⟩;rw[zi1]at b c;have f:j<k:=by
  have:=(List.getElem?_eq_some_iff.1 b).1;simp at this;omega
 have i:=c (a+j) u (by
  rw[List.getElem?_map]at b ⊢;rw[<-b,List.getElem?_take_of_lt f,List.getElem?_drop])
 have m:(⟨g,0,none⟩:Addr).add (a+j)=⟨g,a+j,none⟩:=by
  unfold Addr.add;by_cases h0:a+j=0
  .rw[if_pos h0,h0]
  .rw[if_neg h0];simp
 have d:(⟨g,a,none⟩:Addr).add j=⟨g,a+j,none⟩:=by
  unfold Addr.add;by_cases h0:j=0
  .rw[if_pos h0,h0];rfl
  .rw[if_neg h0]
 rw[d,<-m];exact i
theorem zye (s:Utf.Str) (a:Nat) (ha:a<s.length) (hs:s.length<=1073741823) (w:World) (R:Nat×Nat) (hR:Utf.refAt (s.drop a)=R):
 Calls prog 128 #[.string ⟨s.toArray⟩,.int .i64 a] w fun e w'=>e=.returned (.tuple #[.int .i64 (R.1:Int),.int .i64 (R.2:Int)])/\Below w.heap.size w w':=by
 have B:=hid hR;clear hR;obtain⟨D,b,v,p,d,hcap⟩:=ztp s w;have i:=hid p;have t:=hid d;clear p d;go_enter func128,ntmps128;have hne:¬(b=a):=by omega
 have hne':¬(a=b):=by omega
 have hcapI:(s.length:Int)<=(b:Int):=by omega
 go_wp2_with fail;clear v;go_loop [7] (fun s7=>∃k:Nat,1<=k/\k<=5/\s7=.int .i64 k/\Hid (∀j,1<=j->j<k->¬atC (s.drop a) j)) (fun s7=>5-(intOf s7).toNat)
 case atStart=>exact⟨1,by omega,by omega,rfl,hid (fun j o y=>by omega)⟩
 case round=>
  obtain⟨k,C,hk5,rfl,c⟩:=hrel;by_cases hk4:k<=4
  .have g:(k:Int)<=4:=by omega
   by_cases hkl:a+k<=s.length
   .have f:(a:Int)+(k:Int)<=(s.length:Int):=by omega
    have hklC:(a:Int)+(k:Int)<=(b:Int):=by omega
    have haI:(a:Int)<=(a:Int)+(k:Int):=by omega
    have q:((s.drop a).take k).length=k:=by rw[List.length_take,List.length_drop];omega
    obtain⟨Q,x⟩:=ex (Utf.begins ((s.drop a).take k))
    have m:=zna ((s.drop a).take k) (some ⟨w.heap.size,a,none⟩) (b-a) D.heap.size (by omega) (by omega) D (ztq t.out hkl (by omega)) Q x;rw[q]at m;have A:=hid m;have u:=hid x;clear m q x;go_wp2_with fail;refine A.out.mono ?_;rintro e w2 ⟨rfl,rfl⟩;by_cases hq:Q.2=k
    .have n:(Q.2:Int)=(k:Int):=by omega
     have r:((Q.2:Int)==(k:Int))=true:=by simpa using n
     have z:Hid (R=(Q.1,k)):=hid (by
      rw[<-B.out,<-hq,show(Q.1,Q.2)=Q from rfl,<-u.out];exact zto (s.drop a) k C hk4 ⟨by rw[List.length_drop];omega,by rw[u.out,hq]⟩ c.out)
     clear hq;go_wp2;go_ret2;exact⟨by rw[z.out];rfl,i.out⟩
    .have n:¬((Q.2:Int)=(k:Int)):=by omega
     have r:((Q.2:Int)==(k:Int))=false:=by simpa using n
     go_wp2;go_round
     case rel=>exact⟨k+1,by omega,by omega,by go_num,hid (fun j o y=>by
      by_cases e:j=k
      .subst e;rintro⟨_,l⟩;rw[u.out]at l;exact hq l
      .exact c.out j o (by omega))⟩
     case measure=>simp[intOf];omega
   .have f:¬((a:Int)+(k:Int)<=(s.length:Int)):=by omega
    have hklb:decide ((a:Int)+(k:Int)<=(s.length:Int))=false:=by simpa using f
    have h:Hid (R=(0,0)):=hid (by
     rw[<-B.out];refine zf6 _ (fun j o y l=>?_);by_cases hjk:j<k
     .exact c.out j o hjk l
     .have:=l.1;rw[List.length_drop]at this;omega)
    go_wp2;go_ret2;exact⟨by rw[h.out];rfl,i.out⟩
  .have g:¬((k:Int)<=4):=by omega
   have hk4b:decide ((k:Int)<=4)=false:=by simpa using g
   have h:Hid (R=(0,0)):=hid (by
    rw[<-B.out];exact zf6 _ (fun j o y l=>c.out j o (by omega) l))
   go_wp2;go_ret2;exact⟨by rw[h.out];rfl,i.out⟩
def runeL:Lay Int:={enc:=fun x=>[.int .i32 x],sz:=1,len:=fun _=>rfl,one:=fun x u hu=>by simp at hu;subst hu;rfl,pos:=by omega}
theorem runeT:SliceT prog runeL 143 21 4:=zbz runeL 143 21 (.int .i32 0) 4 underlying143 (by kernel_rfl) rfl (by omega)
def badN (s:Utf.Str):Int:=match Utf.bad s with
 |some a=>(a:Int)
 |none=>-1
theorem ztr (s:Utf.Str) (a:Nat) (ha:a<s.length) (R:Nat×Nat) (hR:Utf.refAt (s.drop a)=R) (h:Utf.bad s=Utf.badU (s.drop a).length (s.drop a) a):
 (R.2=0->Utf.bad s=some a)/\(R.2≠0->a+R.2<=s.length/\R.2<=4/\Utf.bad s=Utf.badU (s.drop (a+R.2)).length (s.drop (a+R.2)) (a+R.2)):=by
 have i:s.drop a=s[a]::s.drop (a+1):=List.drop_eq_getElem_cons ha;have d:s.drop a≠[]:=by rw[i];exact List.cons_ne_nil _ _
 have hw:=Utf.zhm (s.drop a);have j:=Utf.dec_len (s.drop a) d;rw[List.length_drop]at j;have k:∀n,Utf.badU (n+1) (s.drop a) a=if(Utf.dec (s.drop a)).1=65533/\(Utf.dec (s.drop a)).2=1 then some a else Utf.badU n ((s.drop a).drop (Utf.dec (s.drop a)).2) (a+(Utf.dec (s.drop a)).2):=by
  intro n;rw[i];rfl
 have c:(s.drop a).length=(s.length-a-1)+1:=by rw[List.length_drop];omega
 rw[c,k]at h;rcases Utf.agree (s.drop a) d with⟨e,b,g⟩|⟨e,b⟩
 .rw[if_pos ⟨e,b⟩]at h;rw[hR]at g;exact⟨fun _=>h,fun f=>absurd g f⟩
 .rw[if_neg e]at h;rw[hR]at b;refine⟨fun f=>?_,fun _=>⟨by rw[b];omega,by rw[b];omega,?_⟩⟩
  .rw[b]at f;omega
  .rw[h,b,List.drop_drop];exact Utf.zn6 _ _ _ _ (by rw[List.length_drop];omega) (Nat.le_refl _)
theorem znb (s:Utf.Str) (hs:s.length<=1073741823) (w:World):
 Calls prog 99 #[.string ⟨s.toArray⟩] w fun e w'=>Below w.heap.size w w'/\∃v,e=.returned (.tuple #[v,.int .i64 (badN s)]):=by
 go_enter func99,ntmps99;go_wp2_with fail;go_loopw [4,5] (fun s4 s5 wr=>∃(v:Value) (l:List Int) (a:Nat),a<=s.length/\l.length<=a/\s5=.int .i64 a/\v=s4/\Hid (OwnRow runeL wr w.heap.size 21 v l)/\Below w.heap.size w wr/\Hid (Utf.bad s=Utf.badU (s.drop a).length (s.drop a) a))
  (fun _ s5 _=>s.length-(intOf s5).toNat)
 case atStart=>exact⟨_,[],0,by omega,by simp,rfl,rfl,hid OwnRow.nil,Below.refl _ _,hid rfl⟩
 case round=>
  obtain⟨v,l,a,ha,hla,rfl,rfl,f,q,c⟩:=hrel;by_cases hlt:a<s.length
  .have m:(a:Int)<(s.length:Int):=by omega
   obtain⟨R,z⟩:=ex (Utf.refAt (s.drop a))
   have t:=hid (zye s a hlt hs wr R z);have D:=hid z;have p:=hid q;clear z q;go_wp2_with fail;refine t.out.mono ?_;rintro e F ⟨rfl,j⟩;have b:Hid (Below w.heap.size w F):=hid (p.out.trans (j.mono p.out.size));have n:=hid (f.out.later j);obtain⟨k,i⟩:=ztr s a hlt R D.out c.out;clear j f;by_cases h0:R.2=0
   .have g:(R.2:Int)=0:=by omega
    have B:((R.2:Int)==0)=true:=by simpa using g
    have y:Hid (badN s=(a:Int)):=hid (by unfold badN;rw[k h0]);clear k i h0;go_wp2;go_ret2;exact⟨b.out,_,by rw[y.out];rfl⟩
   .have g:¬((R.2:Int)=0):=by omega
    have B:((R.2:Int)==0)=false:=by simpa using g
    obtain⟨s1,s2,s3⟩:=i h0;have u:=hid s3;obtain⟨x,hx⟩:=ex (IntKind.i32.wrap (R.1:Int))
    clear k i s3 h0;go_wp2_with (at_builtin;go_must (refine zaa _ rfl (.tmp 22) (.tmp 25) 143 21 4 rfl runeT w.heap.size v l rfl (n.out.alloc _) _ _ 1 [x] rfl (RowAt.lit1 _ _ rfl _ ?_) ?_ ?_ ?_))
    .rfl
    .simp;omega
    .rw[World.size_alloc];have:=b.out.size;omega
    intro E C d o _;have r:Hid (Below w.heap.size w C):=hid ((b.out.alloc b.out.size _).trans ((n.out.alloc _).grown_below o (by rw[World.size_alloc];have:=b.out.size;omega)));have A:=hid d;clear d o;go_wp2;go_roundw
    case rel=>exact⟨E,l++[x],a+R.2,by omega,by simp;omega,by go_num,rfl,A,r.out,u⟩
    case measure=>simp[intOf];omega
  .have m:¬((a:Int)<(s.length:Int)):=by omega
   have y:Hid (badN s=-1):=hid (by
    have h:=c.out;rw[List.drop_of_length_le (by omega)]at h;have h:Utf.bad s=none:=h;unfold badN;rw[h])
   have p:=hid q;clear q c;go_wp2;go_ret2;exact⟨p.out,_,by rw[y.out];rfl⟩
theorem zyf (s:Utf.Str) (hs:s.length<=1073741823) (w:World) (r:Bool) (hr:decide (Utf.bad s=none)=r):
 Calls prog 68 #[.string ⟨s.toArray⟩] w fun e w'=>e=.returned (.bool r)/\Below w.heap.size w w':=by
 obtain⟨x,b⟩:=ex (badN s)
 have d:=hid (znb s hs w);have c:decide (x<0)=r:=by
  rw[<-b,<-hr];unfold badN;cases Utf.bad s with
  |none=>rfl
  |some a=>simp
 rw[b]at d;clear b hr;go_enter func68,ntmps68;go_wp2_with fail;refine d.out.mono ?_;rintro e w2 ⟨f,v,rfl⟩;have g:=hid f;clear f;go_wp2;go_ret;exact⟨by rw[<-c];rfl,g.out⟩
end Utf
end Go.Proofs.YtpgmfihonmoliaaGreatDoor
