import Derived.Test.YtpjmhafmeieloabGreatDoorZ06
namespace Go.Proofs.YtpjmhafmeieloabGreatDoor
open _root_.Go.Proofs.Tryz
open _root_.Go.Lib (hid)
set_option maxRecDepth 100000
set_option maxHeartbeats 16000000
namespace Utf
open Go.RowKit
theorem byte_at {w:World} {B:Nat} {A:Option Addr} {l:Utf.Str} {k:Nat} (h:RowAt byteL w B A l) (hk:k<l.length):∃ad,A=some ad/\ad.block<B/\w.cell? (ad.add k)=some (.int .u8 ((l[k]).toNat:Int)):=by
 obtain⟨ad,a,b,c,_⟩:=h.get hk;refine⟨ad,a,b,?_⟩;have:=c (.int .u8 ((l[k]).toNat:Int)) rfl;rwa[show k*byteL.sz=k from Nat.mul_one k]at this
theorem zj3 (l:Utf.Str) (h1:l.length=1) (h0:0<l.length) (hq:(l[0]).toNat<128):Utf.begins l=((l[0]).toNat,1):=by
 cases l with
 |nil=>simp at h0
 |cons c r=>
  have a:r=[]:=by simpa using h1
  subst a;unfold Utf.begins;simp only;rw[if_pos ⟨UInt8.lt_iff_toNat_lt.2 (by simpa using hq),by trivial⟩];rfl
def begF (n lo mo len:Nat):Option Nat->Nat×Nat
 |none=>(0,0)
 |some x=>if(Utf.widen (n-len) (x,x)).2<lo\/(Utf.widen (n-len) (x,x)).1>mo\/((Utf.widen (n-len) (x,x)).1>=55296/\(Utf.widen (n-len) (x,x)).2<=57343)then(0,0)else((Utf.widen (n-len) (x,x)).1,n)
theorem zj4 (l:Utf.Str) (h0:0<l.length) (hq:¬((l[0]).toNat<128/\l.length=1)) (n v lo mo:Nat) (hrow:Utf.rowOf (l[0]).toNat=(n,v,lo,mo)):
 Utf.begins l=if l.length>n then(0,0)else begF n lo mo l.length (Utf.goOn v (l.drop 1)):=by
 cases l with
 |nil=>simp at h0
 |cons c r=>
  unfold Utf.begins;simp only;rw[if_neg (fun h=>hq ⟨UInt8.lt_iff_toNat_lt.1 h.1,by simp[h.2]⟩)];have e:Utf.rowOf c.toNat=(n,v,lo,mo):=hrow;rw[e];simp only[List.length_cons,List.drop_succ_cons,List.drop_zero];by_cases hl:r.length+1>n
  .rw[if_pos hl,if_pos hl]
  .rw[if_neg hl,if_neg hl];cases Utf.goOn v r<;>rfl
theorem zmy (l:Utf.Str) (A:Option Addr) (c B:Nat) (h1:l.length=1) (w:World) (hr:RowAt byteL w B A l) (h0:0<l.length) (hq:(l[0]).toNat<128):
 Calls prog 178 #[.slice A l.length c] w fun e w'=>e=.returned (.tuple #[.int .i64 ((l[0]).toNat:Int),.int .i64 1])/\w=w':=by
 obtain⟨d,rfl,_,b⟩:=byte_at hr h0;have b:w.cell? d=some (.int .u8 ((l[0]).toNat:Int)):=by simpa[Addr.add]using b
 obtain⟨q,a⟩:=ex ((l[0]).toNat)
 rw[a]at b hq;rw[a];have hqI:(q:Int)<128:=by omega
 rw[h1];clear hr a h1;go_enter func178,ntmps178;go_wp2;go_ret2;exact⟨rfl,rfl⟩
theorem zmz (l:Utf.Str) (A:Option Addr) (c B:Nat) (h0:0<l.length) (h4:l.length<=4) (w:World) (hr:RowAt byteL w B A l) (hq:¬((l[0]).toNat<128/\l.length=1)) (R:Nat×Nat) (hR:Utf.begins l=R):
 Calls prog 178 #[.slice A l.length c] w fun e w'=>e=.returned (.tuple #[.int .i64 (R.1:Int),.int .i64 (R.2:Int)])/\w=w':=by
 obtain⟨ad,rfl,_,x0⟩:=byte_at hr h0;have x0:w.cell? ad=some (.int .u8 ((l[0]).toNat:Int)):=by simpa[Addr.add]using x0
 obtain⟨q,M⟩:=ex ((l[0]).toNat)
 have hq256:q<256:=by rw[<-M];exact UInt8.toNat_lt _
 obtain⟨n,v,o,m,a⟩:∃n v o m,Utf.rowOf q=(n,v,o,m):=⟨_,_,_,_,rfl⟩
 have V:=zj4 l h0 hq n v o m (by rw[M];exact a);have f:Hid ((192<=q/\q<224/\n=2/\v=q-192/\o=128/\m=2047)\/(224<=q/\q<240/\n=3/\v=q-224/\o=2048/\m=65535)\/(240<=q/\q<248/\n=4/\v=q-240/\o=65536/\m=1114111)\/((q<192\/248<=q)/\n=0/\v=0/\o=0/\m=0)):=hid (by
  unfold Utf.rowOf at a;split at a
  .injection a with h1 h2;injection h2 with h2 h3;injection h3 with h3 h4;omega
  .split at a
   .injection a with h1 h2;injection h2 with h2 h3;injection h3 with h3 h4;omega
   .split at a
    .injection a with h1 h2;injection h2 with h2 h3;injection h3 with h3 h4;omega
    .injection a with h1 h2;injection h2 with h2 h3;injection h3 with h3 h4;omega)
 rw[hR]at V;rw[M]at x0 hq;have aj:=hid V;have ap:=hid hr;have aq:(0:Int)<(l.length:Int):=by omega
 clear V hR M hr a;go_enter func178,ntmps178;go_upto_region 3 with fail;go_cut [23] (fun s23 D=>s23=.bool false/\D=w)
 case first=>
  by_cases h1:q<128
  .have I:(q:Int)<128:=by omega
   have J:¬((l.length:Int)=1):=by omega
   have Q:((l.length:Int)==1)=false:=by simpa using J
   go_wp2;go_meet;exact⟨rfl,rfl⟩
  .have I:¬((q:Int)<128):=by omega
   have S:decide ((q:Int)<128)=false:=by simpa using I
   go_wp2;go_meet;exact⟨rfl,rfl⟩
 case rest=>
 obtain⟨rfl,rfl⟩:=hcut;clear x0 hq aq;obtain⟨w,C⟩:∃w,w=wc:=⟨_,rfl⟩
 subst C;go_upto_region 5 with fail;obtain⟨t,O⟩:∃t,decide (192<=q/\q<224)=t:=⟨_,rfl⟩
 have j:=hid O;clear O;go_cut [30] (fun s30 D=>s30=.bool t/\D=w)
 case first=>
  by_cases h1:192<=q
  .have I:(192:Int)<=(q:Int):=by omega
   by_cases h2:q<224
   .have J:(q:Int)<224:=by omega
    have p:Hid (t=true):=hid (by rw[<-j.out];exact decide_eq_true ⟨h1,h2⟩);go_wp2;go_meet;exact⟨by rw[p.out],rfl⟩
   .have J:¬((q:Int)<224):=by omega
    have Q:decide ((q:Int)<224)=false:=by simpa using J
    have p:Hid (t=false):=hid (by rw[<-j.out];exact decide_eq_false (fun h=>h2 h.2));go_wp2;go_meet;exact⟨by rw[p.out],rfl⟩
  .have I:¬((192:Int)<=(q:Int)):=by omega
   have S:decide ((192:Int)<=(q:Int))=false:=by simpa using I
   have p:Hid (t=false):=hid (by rw[<-j.out];exact decide_eq_false (fun h=>h1 h.1));go_wp2;go_meet;exact⟨by rw[p.out],rfl⟩
 case rest=>
 obtain⟨rfl,rfl⟩:=hcut;obtain⟨w,C⟩:∃w,w=wc:=⟨_,rfl⟩
 subst C;go_upto_if 30 with fail;go_cut [5,6,7,8] (fun s5 s6 s7 s8 D=>∃n0 v0 l0 m0:Nat,s5=.int .i64 n0/\s6=.int .i64 v0/\s7=.int .i64 l0/\s8=.int .i64 m0/\Hid ((192<=q/\q<224->n0=n/\v0=v/\l0=o/\m0=m)/\(¬(192<=q/\q<224)->n0=0/\v0=0/\l0=0/\m0=0))/\D=w)
 case first=>
  cases t with
  |true=>
   have W:=of_decide_eq_true j.out;have F:(q:Int)-192=((q-192:Nat):Int):=by omega
   have u:Hid ((192<=q/\q<224->2=n/\q-192=v/\128=o/\2047=m)/\(¬(192<=q/\q<224)->2=0/\q-192=0/\128=0/\2047=0)):=hid (by have:=f.out;omega);clear W;go_wp2;go_meet;exact⟨2,q-192,128,2047,rfl,by rw[<-F],rfl,rfl,u,rfl⟩
  |false=>
   have u:Hid ((192<=q/\q<224->0=n/\0=v/\0=o/\0=m)/\(¬(192<=q/\q<224)->0=0/\0=0/\0=0/\0=0)):=hid (by have:=f.out;have:=of_decide_eq_false j.out;omega);go_wp2;go_meet
   first|exact⟨0,0,0,0,rfl,rfl,rfl,rfl,u,rfl⟩|exact⟨0,0,0,0,rfl,rfl,rfl,rfl,hid ⟨u.out.1,fun _=>⟨rfl,rfl,rfl,rfl⟩⟩,rfl⟩
 case rest=>
 obtain⟨n0,v0,l0,m0,rfl,rfl,rfl,rfl,H0,rfl⟩:=hcut;clear j t;obtain⟨w,C⟩:∃w,w=wc:=⟨_,rfl⟩
 subst C;go_upto_region 7 with fail;obtain⟨t,O⟩:∃t,decide (224<=q/\q<240)=t:=⟨_,rfl⟩
 have j:=hid O;clear O;go_cut [38] (fun s38 D=>s38=.bool t/\D=w)
 case first=>
  by_cases h1:224<=q
  .have I:(224:Int)<=(q:Int):=by omega
   by_cases h2:q<240
   .have J:(q:Int)<240:=by omega
    have p:Hid (t=true):=hid (by rw[<-j.out];exact decide_eq_true ⟨h1,h2⟩);go_wp2;go_meet;exact⟨by rw[p.out],rfl⟩
   .have J:¬((q:Int)<240):=by omega
    have Q:decide ((q:Int)<240)=false:=by simpa using J
    have p:Hid (t=false):=hid (by rw[<-j.out];exact decide_eq_false (fun h=>h2 h.2));go_wp2;go_meet;exact⟨by rw[p.out],rfl⟩
  .have I:¬((224:Int)<=(q:Int)):=by omega
   have S:decide ((224:Int)<=(q:Int))=false:=by simpa using I
   have p:Hid (t=false):=hid (by rw[<-j.out];exact decide_eq_false (fun h=>h1 h.1));go_wp2;go_meet;exact⟨by rw[p.out],rfl⟩
 case rest=>
 obtain⟨rfl,rfl⟩:=hcut;obtain⟨w,C⟩:∃w,w=wc:=⟨_,rfl⟩
 subst C;go_upto_if 38 with fail;go_cut [5,6,7,8] (fun s5 s6 s7 s8 D=>∃n1 v1 l1 m1:Nat,s5=.int .i64 n1/\s6=.int .i64 v1/\s7=.int .i64 l1/\s8=.int .i64 m1/\Hid ((192<=q/\q<240->n1=n/\v1=v/\l1=o/\m1=m)/\(¬(192<=q/\q<240)->n1=0/\v1=0/\l1=0/\m1=0))/\D=w)
 case first=>
  cases t with
  |true=>
   have W:=of_decide_eq_true j.out;have F:(q:Int)-224=((q-224:Nat):Int):=by omega
   have u:Hid ((192<=q/\q<240->3=n/\q-224=v/\2048=o/\65535=m)/\(¬(192<=q/\q<240)->3=0/\q-224=0/\2048=0/\65535=0)):=hid (by have:=f.out;omega);clear W;go_wp2;go_meet;exact⟨3,q-224,2048,65535,rfl,by rw[<-F],rfl,rfl,u,rfl⟩
  |false=>
   have u:Hid ((192<=q/\q<240->n0=n/\v0=v/\l0=o/\m0=m)/\(¬(192<=q/\q<240)->n0=0/\v0=0/\l0=0/\m0=0)):=hid (by have:=f.out;have:=of_decide_eq_false j.out;have:=H0.out;omega);go_wp2;go_meet
   first|exact⟨n0,v0,l0,m0,rfl,rfl,rfl,rfl,u,rfl⟩|exact⟨n0,v0,l0,m0,rfl,rfl,rfl,rfl,hid ⟨u.out.1,fun _=>⟨rfl,rfl,rfl,rfl⟩⟩,rfl⟩
 case rest=>
 obtain⟨n1,v1,l1,m1,rfl,rfl,rfl,rfl,H1,rfl⟩:=hcut;clear j t;obtain⟨w,C⟩:∃w,w=wc:=⟨_,rfl⟩
 subst C;go_upto_region 9 with fail;obtain⟨t,O⟩:∃t,decide (240<=q/\q<248)=t:=⟨_,rfl⟩
 have j:=hid O;clear O;go_cut [46] (fun s46 D=>s46=.bool t/\D=w)
 case first=>
  by_cases h1:240<=q
  .have I:(240:Int)<=(q:Int):=by omega
   by_cases h2:q<248
   .have J:(q:Int)<248:=by omega
    have p:Hid (t=true):=hid (by rw[<-j.out];exact decide_eq_true ⟨h1,h2⟩);go_wp2;go_meet;exact⟨by rw[p.out],rfl⟩
   .have J:¬((q:Int)<248):=by omega
    have Q:decide ((q:Int)<248)=false:=by simpa using J
    have p:Hid (t=false):=hid (by rw[<-j.out];exact decide_eq_false (fun h=>h2 h.2));go_wp2;go_meet;exact⟨by rw[p.out],rfl⟩
  .have I:¬((240:Int)<=(q:Int)):=by omega
   have S:decide ((240:Int)<=(q:Int))=false:=by simpa using I
   have p:Hid (t=false):=hid (by rw[<-j.out];exact decide_eq_false (fun h=>h1 h.1));go_wp2;go_meet;exact⟨by rw[p.out],rfl⟩
 case rest=>
 obtain⟨rfl,rfl⟩:=hcut;obtain⟨w,C⟩:∃w,w=wc:=⟨_,rfl⟩
 subst C;go_upto_if 46 with fail;go_cut [5,6,7,8] (fun s5 s6 s7 s8 D=>∃n2 v2 l2 m2:Nat,s5=.int .i64 n2/\s6=.int .i64 v2/\s7=.int .i64 l2/\s8=.int .i64 m2/\Hid ((192<=q/\q<248->n2=n/\v2=v/\l2=o/\m2=m)/\(¬(192<=q/\q<248)->n2=0/\v2=0/\l2=0/\m2=0))/\D=w)
 case first=>
  cases t with
  |true=>
   have W:=of_decide_eq_true j.out;have F:(q:Int)-240=((q-240:Nat):Int):=by omega
   have u:Hid ((192<=q/\q<248->4=n/\q-240=v/\65536=o/\1114111=m)/\(¬(192<=q/\q<248)->4=0/\q-240=0/\65536=0/\1114111=0)):=hid (by have:=f.out;omega);clear W;go_wp2;go_meet;exact⟨4,q-240,65536,1114111,rfl,by rw[<-F],rfl,rfl,u,rfl⟩
  |false=>
   have u:Hid ((192<=q/\q<248->n1=n/\v1=v/\l1=o/\m1=m)/\(¬(192<=q/\q<248)->n1=0/\v1=0/\l1=0/\m1=0)):=hid (by have:=f.out;have:=of_decide_eq_false j.out;have:=H1.out;omega);go_wp2;go_meet
   first|exact⟨n1,v1,l1,m1,rfl,rfl,rfl,rfl,u,rfl⟩|exact⟨n1,v1,l1,m1,rfl,rfl,rfl,rfl,hid ⟨u.out.1,fun _=>⟨rfl,rfl,rfl,rfl⟩⟩,rfl⟩
 case rest=>
 obtain⟨n2,v2,l2,m2,rfl,rfl,rfl,rfl,H2,rfl⟩:=hcut;clear j t;obtain⟨w,C⟩:∃w,w=wc:=⟨_,rfl⟩
 subst C;obtain⟨rfl,rfl,rfl,rfl⟩:n2=n/\v2=v/\l2=o/\m2=m:=by have:=f.out;have:=H2.out;omega
 have hn4:n2<=4:=by have:=f.out;omega
 have ai:v2<32:=by have:=f.out;omega
 have hlo:l2<=65536:=by have:=f.out;omega
 have hmo:m2<=1114111:=by have:=f.out;omega
 clear H0 H1 H2 f;by_cases hln:l.length>n2
 .have ab:(n2:Int)<(l.length:Int):=by omega
  have b:Hid (R=(0,0)):=hid (by have:=aj.out;rw[if_pos hln]at this;exact this);go_wp2;go_ret2;rw[b.out];exact⟨rfl,rfl⟩
 .have ab:¬((n2:Int)<(l.length:Int)):=by omega
  have P:Hid (R=begF n2 l2 m2 l.length (Utf.goOn v2 (l.drop 1))):=hid (by have:=aj.out;rw[if_neg hln]at this;exact this)
  skip
  go_wp2_with fail;go_loop [6,9] (fun s6 s9=>∃x i:Nat,1<=i/\i<=l.length/\s6=.int .i64 x/\s9=.int .i64 i/\x<32*64 ^ (i-1)/\Hid (Utf.goOn v2 (l.drop 1)=Utf.goOn x (l.drop i))) (fun _ s9=>l.length-(intOf s9).toNat)
  case atStart=>exact⟨v2,1,by omega,by omega,rfl,rfl,by simpa using ai,hid rfl⟩
  case round=>
   obtain⟨x,i,hi1,hil,rfl,rfl,Z,K⟩:=hrel;have am:x<32*64 ^ 3:=Nat.lt_of_lt_of_le Z (Nat.mul_le_mul_left _ (Nat.pow_le_pow_right (by omega) (by omega)));have am:x<=8388607:=by omega
   by_cases hlt:i<l.length
   .have X:(i:Int)<(l.length:Int):=by omega
    obtain⟨ad',U,_,y0⟩:=byte_at ap.out hlt;injection U with U
    subst U;have s:l.drop i=l[i]::l.drop (i+1):=List.drop_eq_getElem_cons hlt;obtain⟨d,hd⟩:=ex (l[i])
    rw[hd]at y0 s;obtain⟨g,N⟩:=ex d.toNat
    rw[N]at y0;have hd256:g<256:=by rw[<-N];exact UInt8.toNat_lt _
    have ac:Utf.goOn x (l.drop i)=if g<128\/191<g then none else Utf.goOn (64*x+(g-128)) (l.drop (i+1)):=by
     rw[s,Utf.zb8];unfold Utf.isC;rw[N];by_cases h1:g<128\/191<g
     .rw[if_pos h1,if_neg (by simp;omega)]
     .rw[if_neg h1,if_pos (by simp;omega)]
    have T:Hid (Utf.goOn v2 (l.drop 1)=if g<128\/191<g then none else Utf.goOn (64*x+(g-128)) (l.drop (i+1))):=hid (K.out.trans ac);clear ac s hd N K;by_cases h1:g<128
    .have j1:(g:Int)<128:=by omega
     have b:Hid (R=(0,0)):=hid (by rw[P.out,T.out,if_pos (.inl h1)];rfl);go_wp2;go_ret2;rw[b.out];exact⟨rfl,rfl⟩
    .have j1:¬((g:Int)<128):=by omega
     have j1b:decide ((g:Int)<128)=false:=by simpa using j1
     by_cases h2:191<g
     .have j2:(191:Int)<(g:Int):=by omega
      have b:Hid (R=(0,0)):=hid (by rw[P.out,T.out,if_pos (.inr h2)];rfl);go_wp2;go_ret2;rw[b.out];exact⟨rfl,rfl⟩
     .have j2:¬((191:Int)<(g:Int)):=by omega
      have j2b:decide ((191:Int)<(g:Int))=false:=by simpa using j2
      have r:64 ^ (i+1-1)=64*64 ^ (i-1):=by
       rw[show i+1-1=(i-1)+1 from by omega,Nat.pow_succ,Nat.mul_comm]
      have G:Hid (64*x+(g-128)<32*64 ^ (i+1-1)):=hid (by rw[r];omega);have ak:Hid (Utf.goOn v2 (l.drop 1)=Utf.goOn (64*x+(g-128)) (l.drop (i+1))):=hid (by rw[T.out,if_neg (by omega)]);clear r;go_wp2;go_round
      case rel=>exact⟨64*x+(g-128),i+1,by omega,by omega,by go_num,by go_num,G.out,ak⟩
      case measure=>simp[intOf];omega
   .have X:¬((i:Int)<(l.length:Int)):=by omega
    have H:i=l.length:=by omega
    have ah:R=if(Utf.widen (n2-l.length) (x,x)).2<l2\/(Utf.widen (n2-l.length) (x,x)).1>m2\/((Utf.widen (n2-l.length) (x,x)).1>=55296/\(Utf.widen (n2-l.length) (x,x)).2<=57343)then(0,0)else((Utf.widen (n2-l.length) (x,x)).1,n2):=by
     have h1:=K.out;rw[H,List.drop_length]at h1;have h1:Utf.goOn v2 (l.drop 1)=some x:=h1;rw[P.out,h1];rfl
    have au:=hid ah;have an:x<32*64 ^ (l.length-1):=by rw[<-H];exact Z
    clear ah H K;go_wp2_with fail;go_loop [10,11,12] (fun s10 s11 s12=>∃y z k:Nat,l.length<=k/\k<=n2/\s10=.int .i64 y/\s11=.int .i64 z/\s12=.int .i64 k/\y<=z/\z<32*64 ^ (k-1)/\Hid (Utf.widen (n2-l.length) (x,x)=Utf.widen (n2-k) (y,z))) (fun _ _ s12=>n2-(intOf s12).toNat)
    case atStart=>exact⟨x,x,l.length,by omega,by omega,rfl,rfl,rfl,by omega,an,hid rfl⟩
    case round=>
     obtain⟨y,z,k,hk1,hk2,rfl,rfl,rfl,hyz,av,L⟩:=hrel;have ao:z<32*64 ^ 3:=Nat.lt_of_lt_of_le av (Nat.mul_le_mul_left _ (Nat.pow_le_pow_right (by omega) (by omega)));have ao:z<=8388607:=by omega
     by_cases hkn:k<n2
     .have af:(k:Int)<(n2:Int):=by omega
      have r:64 ^ (k+1-1)=64*64 ^ (k-1):=by
       rw[show k+1-1=(k-1)+1 from by omega,Nat.pow_succ,Nat.mul_comm]
      have G:Hid (64*z+63<32*64 ^ (k+1-1)):=hid (by rw[r];omega);have ar:Hid (Utf.widen (n2-l.length) (x,x)=Utf.widen (n2-(k+1)) (64*y,64*z+63)):=hid (by
       rw[L.out,show n2-k=(n2-(k+1))+1 from by omega];rfl)
      clear r L;go_wp2;go_round
      case rel=>exact⟨64*y,64*z+63,k+1,by omega,by omega,by go_num,by go_num,by go_num,by omega,G.out,ar⟩
      case measure=>simp[intOf];omega
     .have af:¬((k:Int)<(n2:Int)):=by omega
      have ae:R=if z<l2\/y>m2\/(y>=55296/\z<=57343)then(0,0)else(y,n2):=by
       rw[au.out,L.out,show n2-k=0 from by omega];rfl
      have E:=hid ae;clear ae L;by_cases t1:z<l2
      .have ag:(z:Int)<(l2:Int):=by omega
       have b:Hid (R=(0,0)):=hid (by rw[E.out,if_pos (.inl t1)]);go_wp2;go_ret2;rw[b.out];exact⟨rfl,rfl⟩
      .have ag:¬((z:Int)<(l2:Int)):=by omega
       have t1b:decide ((z:Int)<(l2:Int))=false:=by simpa using ag
       by_cases t2:m2<y
       .have Y:(m2:Int)<(y:Int):=by omega
        have b:Hid (R=(0,0)):=hid (by rw[E.out,if_pos (.inr (.inl t2))]);go_wp2;go_ret2;rw[b.out];exact⟨rfl,rfl⟩
       .have Y:¬((m2:Int)<(y:Int)):=by omega
        have t2b:decide ((m2:Int)<(y:Int))=false:=by simpa using Y
        by_cases t3:55296<=y
        .have aa:(55296:Int)<=(y:Int):=by omega
         by_cases t4:z<=57343
         .have al:(z:Int)<=57343:=by omega
          have b:Hid (R=(0,0)):=hid (by rw[E.out,if_pos (.inr (.inr ⟨t3,t4⟩))]);go_wp2;go_ret2;rw[b.out];exact⟨rfl,rfl⟩
         .have al:¬((z:Int)<=57343):=by omega
          have t4b:decide ((z:Int)<=57343)=false:=by simpa using al
          have b:Hid (R=(y,n2)):=hid (by rw[E.out,if_neg (by omega)]);go_wp2;go_ret2;rw[b.out];exact⟨rfl,rfl⟩
        .have aa:¬((55296:Int)<=(y:Int)):=by omega
         have t3b:decide ((55296:Int)<=(y:Int))=false:=by simpa using aa
         have b:Hid (R=(y,n2)):=hid (by rw[E.out,if_neg (by omega)]);go_wp2;go_ret2;rw[b.out];exact⟨rfl,rfl⟩
theorem zm0 (l:Utf.Str) (A:Option Addr) (c B:Nat) (h0:0<l.length) (h4:l.length<=4) (w:World) (hr:RowAt byteL w B A l) (R:Nat×Nat) (hR:Utf.begins l=R):
 Calls prog 178 #[.slice A l.length c] w fun e w'=>e=.returned (.tuple #[.int .i64 (R.1:Int),.int .i64 (R.2:Int)])/\w=w':=by
 by_cases h1:(l[0]).toNat<128/\l.length=1
 .rw[<-hR,zj3 l h1.2 h0 h1.1];exact zmy l A c B h1.2 w hr h0 h1.1
 .exact zmz l A c B h0 h4 w hr h1 R hR
def atC (r:Utf.Str) (k:Nat):Prop:=k<=r.length/\(Utf.begins (r.take k)).2=k
theorem ztl (r:Utf.Str) (k:Nat) (h1:1<=k) (h4:k<=4) (hk:atC r k) (hno:∀j,1<=j->j<k->¬atC r j):Utf.refAt r=Utf.begins (r.take k):=by
 unfold Utf.refAt;unfold atC at hk hno;rcases(by omega:k=1\/k=2\/k=3\/k=4)with rfl|rfl|rfl|rfl
 .rw[if_pos hk]
 .rw[if_neg (hno 1 (by omega) (by omega)),if_pos hk]
 .rw[if_neg (hno 1 (by omega) (by omega)),if_neg (hno 2 (by omega) (by omega)),if_pos hk]
 .rw[if_neg (hno 1 (by omega) (by omega)),if_neg (hno 2 (by omega) (by omega)),if_neg (hno 3 (by omega) (by omega)),if_pos hk]
theorem zga (r:Utf.Str) (hno:∀j,1<=j->j<=4->¬atC r j):Utf.refAt r=(0,0):=by
 unfold Utf.refAt;unfold atC at hno;rw[if_neg (hno 1 (by omega) (by omega)),if_neg (hno 2 (by omega) (by omega)),if_neg (hno 3 (by omega) (by omega)),if_neg (hno 4 (by omega) (by omega))]
theorem ziq (s:Utf.Str):byteL.all s=s.map (fun b=>Value.int .u8 (b.toNat:Int)):=by
 induction s with
 |nil=>rfl
 |cons c s ih=>simp only[Lay.all,List.flatMap_cons,List.map_cons]at *;rw[ih];rfl
theorem ztm (s:Utf.Str) (w:World):∃w1 cap,(convert 9 81 (.string ⟨s.toArray⟩)).run prog w=.ok (.slice (some ⟨w.heap.size,0,none⟩) s.length cap) w1/\Below w.heap.size w w1/\RowAt byteL w1 w1.heap.size (some ⟨w.heap.size,0,none⟩) s/\s.length<=cap:=by
 have h:=run_bytes_of_string (P:=prog) w 9 81 5 ⟨s.toArray⟩ underlying9 underlying81 underlying5;have c:(⟨s.toArray⟩:ByteArray).size=s.length:=by simp[ByteArray.size]
 rw[c]at h;refine⟨_,_,h,?_,?_,?_⟩
 .exact((Below.refl _ _).drew).alloc (Nat.le_refl _) _
 .refine⟨byteL.all_len s,fun _=>⟨_,rfl,?_,?_⟩⟩
  .rw[World.size_alloc];exact Nat.lt_succ_self _
  .intro j u a;rw[ziq]at a;have f:j<s.length:=by
    have:=(List.getElem?_eq_some_iff.1 a).1;simpa using this
   have e:(⟨w.heap.size,0,none⟩:Addr).add j=⟨w.heap.size,j,none⟩:=by
    unfold Addr.add;by_cases h0:j=0
    .simp[h0]
    .simp[h0]
   rw[e];have d:∀C fr,(w.drew.alloc (.cells C 5 fr)).cell? ⟨w.heap.size,j,none⟩=C[j]? :=fun C fr=>by
    have b:(w.drew.alloc (.cells C 5 fr)).heap[w.heap.size]? =some (.cells C 5 fr):=heap_alloc_new w.drew _;unfold World.cell?;rw[b];rfl
   rw[d];unfold bytesRow;rw[Array.getElem?_append_left (by simpa using f)];simpa using a
 .exact grownCap_ge w s.length 0 5
theorem ztn {w:World} {B g a k:Nat} {s:Utf.Str} (h:RowAt byteL w B (some ⟨g,0,none⟩) s) (hk:a+k<=s.length) (h0:0<k):RowAt byteL w B (some ⟨g,a,none⟩) ((s.drop a).take k):=by
 obtain⟨ad,e,f,c⟩:=h.2 (by omega);injection e with e
 subst e;refine⟨byteL.all_len _,fun _=>⟨_,rfl,f,fun j u b=>?_⟩⟩;rw[ziq]at b c;have l:j<k:=by
  have:=(List.getElem?_eq_some_iff.1 b).1;simp at this;omega
 have d:=c (a+j) u (by
  rw[List.getElem?_map]at b ⊢;rw[<-b,List.getElem?_take_of_lt l,List.getElem?_drop])
 have m:(⟨g,0,none⟩:Addr).add (a+j)=⟨g,a+j,none⟩:=by
  unfold Addr.add;by_cases h0:a+j=0
  .rw[if_pos h0,h0]
  .rw[if_neg h0];simp
 have i:(⟨g,a,none⟩:Addr).add j=⟨g,a+j,none⟩:=by
  unfold Addr.add;by_cases h0:j=0
  .rw[if_pos h0,h0];rfl
  .rw[if_neg h0]
 rw[i,<-m];exact d
theorem zyc (s:Utf.Str) (a:Nat) (ha:a<s.length) (hs:s.length<=1073741823) (w:World) (R:Nat×Nat) (hR:Utf.refAt (s.drop a)=R):
 Calls prog 152 #[.string ⟨s.toArray⟩,.int .i64 a] w fun e w'=>e=.returned (.tuple #[.int .i64 (R.1:Int),.int .i64 (R.2:Int)])/\Below w.heap.size w w':=by
 have z:=hid hR;clear hR;obtain⟨D,b,v,p,f,hcap⟩:=ztm s w;have m:=hid p;have C:=hid f;clear p f;go_enter func152,ntmps152;have hne:¬(b=a):=by omega
 have hne':¬(a=b):=by omega
 have hcapI:(s.length:Int)<=(b:Int):=by omega
 go_wp2_with fail;clear v;go_loop [7] (fun s7=>∃k:Nat,1<=k/\k<=5/\s7=.int .i64 k/\Hid (∀j,1<=j->j<k->¬atC (s.drop a) j)) (fun s7=>5-(intOf s7).toNat)
 case atStart=>exact⟨1,by omega,by omega,rfl,hid (fun j o A=>by omega)⟩
 case round=>
  obtain⟨k,r,hk5,rfl,c⟩:=hrel;by_cases hk4:k<=4
  .have g:(k:Int)<=4:=by omega
   by_cases hkl:a+k<=s.length
   .have d:(a:Int)+(k:Int)<=(s.length:Int):=by omega
    have hklC:(a:Int)+(k:Int)<=(b:Int):=by omega
    have haI:(a:Int)<=(a:Int)+(k:Int):=by omega
    have q:((s.drop a).take k).length=k:=by rw[List.length_take,List.length_drop];omega
    obtain⟨Q,B⟩:=ex (Utf.begins ((s.drop a).take k))
    have n:=zm0 ((s.drop a).take k) (some ⟨w.heap.size,a,none⟩) (b-a) D.heap.size (by omega) (by omega) D (ztn C.out hkl (by omega)) Q B;rw[q]at n;have t:=hid n;have y:=hid B;clear n q B;go_wp2_with fail;refine t.out.mono ?_;rintro e w2 ⟨rfl,rfl⟩;by_cases hq:Q.2=k
    .have i:(Q.2:Int)=(k:Int):=by omega
     have u:((Q.2:Int)==(k:Int))=true:=by simpa using i
     have x:Hid (R=(Q.1,k)):=hid (by
      rw[<-z.out,<-hq,show(Q.1,Q.2)=Q from rfl,<-y.out];exact ztl (s.drop a) k r hk4 ⟨by rw[List.length_drop];omega,by rw[y.out,hq]⟩ c.out)
     clear hq;go_wp2;go_ret2;exact⟨by rw[x.out];rfl,m.out⟩
    .have i:¬((Q.2:Int)=(k:Int)):=by omega
     have u:((Q.2:Int)==(k:Int))=false:=by simpa using i
     go_wp2;go_round
     case rel=>exact⟨k+1,by omega,by omega,by go_num,hid (fun j o A=>by
      by_cases e:j=k
      .subst e;rintro⟨_,l⟩;rw[y.out]at l;exact hq l
      .exact c.out j o (by omega))⟩
     case measure=>simp[intOf];omega
   .have d:¬((a:Int)+(k:Int)<=(s.length:Int)):=by omega
    have hklb:decide ((a:Int)+(k:Int)<=(s.length:Int))=false:=by simpa using d
    have h:Hid (R=(0,0)):=hid (by
     rw[<-z.out];refine zga _ (fun j o A l=>?_);by_cases hjk:j<k
     .exact c.out j o hjk l
     .have:=l.1;rw[List.length_drop]at this;omega)
    go_wp2;go_ret2;exact⟨by rw[h.out];rfl,m.out⟩
  .have g:¬((k:Int)<=4):=by omega
   have hk4b:decide ((k:Int)<=4)=false:=by simpa using g
   have h:Hid (R=(0,0)):=hid (by
    rw[<-z.out];exact zga _ (fun j o A l=>c.out j o (by omega) l))
   go_wp2;go_ret2;exact⟨by rw[h.out];rfl,m.out⟩
def runeL:Lay Int:={enc:=fun x=>[.int .i32 x],sz:=1,len:=fun _=>rfl,one:=fun x u hu=>by simp at hu;subst hu;rfl,pos:=by omega}
theorem runeT:SliceT prog runeL 161 21 4:=zbq runeL 161 21 (.int .i32 0) 4 underlying161 (by kernel_rfl) rfl (by omega)
def badN (s:Utf.Str):Int:=match Utf.bad s with
 |some a=>(a:Int)
 |none=>-1
theorem zto (s:Utf.Str) (a:Nat) (ha:a<s.length) (R:Nat×Nat) (hR:Utf.refAt (s.drop a)=R) (h:Utf.bad s=Utf.badU (s.drop a).length (s.drop a) a):
 (R.2=0->Utf.bad s=some a)/\(R.2≠0->a+R.2<=s.length/\R.2<=4/\Utf.bad s=Utf.badU (s.drop (a+R.2)).length (s.drop (a+R.2)) (a+R.2)):=by
 have i:s.drop a=s[a]::s.drop (a+1):=List.drop_eq_getElem_cons ha;have d:s.drop a≠[]:=by rw[i];exact List.cons_ne_nil _ _
 have hw:=Utf.zh1 (s.drop a);have j:=Utf.dec_len (s.drop a) d;rw[List.length_drop]at j;have k:∀n,Utf.badU (n+1) (s.drop a) a=if(Utf.dec (s.drop a)).1=65533/\(Utf.dec (s.drop a)).2=1 then some a else Utf.badU n ((s.drop a).drop (Utf.dec (s.drop a)).2) (a+(Utf.dec (s.drop a)).2):=by
  intro n;rw[i];rfl
 have c:(s.drop a).length=(s.length-a-1)+1:=by rw[List.length_drop];omega
 rw[c,k]at h;rcases Utf.agree (s.drop a) d with⟨e,b,g⟩|⟨e,b⟩
 .rw[if_pos ⟨e,b⟩]at h;rw[hR]at g;exact⟨fun _=>h,fun f=>absurd g f⟩
 .rw[if_neg e]at h;rw[hR]at b;refine⟨fun f=>?_,fun _=>⟨by rw[b];omega,by rw[b];omega,?_⟩⟩
  .rw[b]at f;omega
  .rw[h,b,List.drop_drop];exact Utf.zop _ _ _ _ (by rw[List.length_drop];omega) (Nat.le_refl _)
theorem zm1 (s:Utf.Str) (hs:s.length<=1073741823) (w:World):
 Calls prog 121 #[.string ⟨s.toArray⟩] w fun e w'=>Below w.heap.size w w'/\∃v,e=.returned (.tuple #[v,.int .i64 (badN s)]):=by
 go_enter func121,ntmps121;go_wp2_with fail;go_loopw [4,5] (fun s4 s5 wr=>∃(v:Value) (l:List Int) (a:Nat),a<=s.length/\l.length<=a/\s5=.int .i64 a/\v=s4/\Hid (OwnRow runeL wr w.heap.size 21 v l)/\Below w.heap.size w wr/\Hid (Utf.bad s=Utf.badU (s.drop a).length (s.drop a) a))
  (fun _ s5 _=>s.length-(intOf s5).toNat)
 case atStart=>exact⟨_,[],0,by omega,by simp,rfl,rfl,hid OwnRow.nil,Below.refl _ _,hid rfl⟩
 case round=>
  obtain⟨v,l,a,ha,hla,rfl,rfl,f,p,c⟩:=hrel;by_cases hlt:a<s.length
  .have m:(a:Int)<(s.length:Int):=by omega
   obtain⟨R,B⟩:=ex (Utf.refAt (s.drop a))
   have r:=hid (zyc s a hlt hs wr R B);have C:=hid B;have q:=hid p;clear B p;go_wp2_with fail;refine r.out.mono ?_;rintro e E ⟨rfl,j⟩;have b:Hid (Below w.heap.size w E):=hid (q.out.trans (j.mono q.out.size));have o:=hid (f.out.later j);obtain⟨g,i⟩:=zto s a hlt R C.out c.out;clear j f;by_cases h0:R.2=0
   .have k:(R.2:Int)=0:=by omega
    have t:((R.2:Int)==0)=true:=by simpa using k
    have z:Hid (badN s=(a:Int)):=hid (by unfold badN;rw[g h0]);clear g i h0;go_wp2;go_ret2;exact⟨b.out,_,by rw[z.out];rfl⟩
   .have k:¬((R.2:Int)=0):=by omega
    have t:((R.2:Int)==0)=false:=by simpa using k
    obtain⟨s1,s2,s3⟩:=i h0;have A:=hid s3;obtain⟨x,hx⟩:=ex (IntKind.i32.wrap (R.1:Int))
    clear g i s3 h0;go_wp2_with (at_builtin;go_must (refine zaa _ rfl (.tmp 22) (.tmp 25) 161 21 4 rfl runeT w.heap.size v l rfl (o.out.alloc _) _ _ 1 [x] rfl (RowAt.lit1 _ _ rfl _ ?_) ?_ ?_ ?_))
    .rfl
    .simp;omega
    .rw[World.size_alloc];have:=b.out.size;omega
    intro F D d n _;have u:Hid (Below w.heap.size w D):=hid ((b.out.alloc b.out.size _).trans ((o.out.alloc _).grown_below n (by rw[World.size_alloc];have:=b.out.size;omega)));have y:=hid d;clear d n;go_wp2;go_roundw
    case rel=>exact⟨F,l++[x],a+R.2,by omega,by simp;omega,by go_num,rfl,y,u.out,A⟩
    case measure=>simp[intOf];omega
  .have m:¬((a:Int)<(s.length:Int)):=by omega
   have z:Hid (badN s=-1):=hid (by
    have h:=c.out;rw[List.drop_of_length_le (by omega)]at h;have h:Utf.bad s=none:=h;unfold badN;rw[h])
   have q:=hid p;clear p c;go_wp2;go_ret2;exact⟨q.out,_,by rw[z.out];rfl⟩
theorem zyd (s:Utf.Str) (hs:s.length<=1073741823) (w:World) (r:Bool) (hr:decide (Utf.bad s=none)=r):
 Calls prog 91 #[.string ⟨s.toArray⟩] w fun e w'=>e=.returned (.bool r)/\Below w.heap.size w w':=by
 obtain⟨x,b⟩:=ex (badN s)
 have d:=hid (zm1 s hs w);have c:decide (x<0)=r:=by
  rw[<-b,<-hr];unfold badN;cases Utf.bad s with
  |none=>rfl
  |some a=>simp
 rw[b]at d;clear b hr;go_enter func91,ntmps91;go_wp2_with fail;refine d.out.mono ?_;rintro e w2 ⟨f,v,rfl⟩;have g:=hid f;clear f;go_wp2;go_ret;exact⟨by rw[<-c];rfl,g.out⟩
end Utf
end Go.Proofs.YtpjmhafmeieloabGreatDoor
