import Derived.Test.YtpjmhafmeieloaaGreatDoorZ19
namespace Go.Proofs.YtpjmhafmeieloaaGreatDoor
open _root_.Go.Proofs.Tryz
open _root_.Go.Lib (hid)
set_option maxRecDepth 100000
set_option maxHeartbeats 16000000
namespace Utf
open Go.RowKit
theorem byte_at {w:World} {B:Nat} {A:Option Addr} {l:Utf.Str} {k:Nat} (h:RowAt byteL w B A l) (hk:k<l.length):∃ad,A=some ad/\ad.block<B/\w.cell? (ad.add k)=some (.int .u8 ((l[k]).toNat:Int)):=by
 obtain⟨ad,b,a,c,_⟩:=h.get hk;refine⟨ad,b,a,?_⟩;have:=c (.int .u8 ((l[k]).toNat:Int)) rfl;rwa[show k*byteL.sz=k from Nat.mul_one k]at this
theorem zkc (l:Utf.Str) (h1:l.length=1) (h0:0<l.length) (hq:(l[0]).toNat<128):Utf.begins l=((l[0]).toNat,1):=by
 cases l with
 |nil=>simp at h0
 |cons c r=>
  have a:r=[]:=by simpa using h1
  subst a;unfold Utf.begins;simp only;rw[if_pos ⟨UInt8.lt_iff_toNat_lt.2 (by simpa using hq),by trivial⟩];rfl
def begF (n lo mo len:Nat):Option Nat->Nat×Nat
 |none=>(0,0)
 |some x=>if(Utf.widen (n-len) (x,x)).2<lo\/(Utf.widen (n-len) (x,x)).1>mo\/((Utf.widen (n-len) (x,x)).1>=55296/\(Utf.widen (n-len) (x,x)).2<=57343)then(0,0)else((Utf.widen (n-len) (x,x)).1,n)
theorem zkd (l:Utf.Str) (h0:0<l.length) (hq:¬((l[0]).toNat<128/\l.length=1)) (n v lo mo:Nat) (hrow:Utf.rowOf (l[0]).toNat=(n,v,lo,mo)):
 Utf.begins l=if l.length>n then(0,0)else begF n lo mo l.length (Utf.goOn v (l.drop 1)):=by
 cases l with
 |nil=>simp at h0
 |cons c r=>
  unfold Utf.begins;simp only;rw[if_neg (fun h=>hq ⟨UInt8.lt_iff_toNat_lt.1 h.1,by simp[h.2]⟩)];have e:Utf.rowOf c.toNat=(n,v,lo,mo):=hrow;rw[e];simp only[List.length_cons,List.drop_succ_cons,List.drop_zero];by_cases hl:r.length+1>n
  .rw[if_pos hl,if_pos hl]
  .rw[if_neg hl,if_neg hl];cases Utf.goOn v r<;>rfl
theorem znl (l:Utf.Str) (A:Option Addr) (c B:Nat) (h1:l.length=1) (w:World) (hr:RowAt byteL w B A l) (h0:0<l.length) (hq:(l[0]).toNat<128):
 Calls prog 176 #[.slice A l.length c] w fun e w'=>e=.returned (.tuple #[.int .i64 ((l[0]).toNat:Int),.int .i64 1])/\w=w':=by
 obtain⟨d,rfl,_,b⟩:=byte_at hr h0;have b:w.cell? d=some (.int .u8 ((l[0]).toNat:Int)):=by simpa[Addr.add]using b
 obtain⟨q,a⟩:=ex ((l[0]).toNat)
 rw[a]at b hq;rw[a];have hqI:(q:Int)<128:=by omega
 rw[h1];clear hr a h1;go_enter func176,ntmps176;go_wp2;go_ret2;exact⟨rfl,rfl⟩
theorem znm (l:Utf.Str) (A:Option Addr) (c B:Nat) (h0:0<l.length) (h4:l.length<=4) (w:World) (hr:RowAt byteL w B A l) (hq:¬((l[0]).toNat<128/\l.length=1)) (R:Nat×Nat) (hR:Utf.begins l=R):
 Calls prog 176 #[.slice A l.length c] w fun e w'=>e=.returned (.tuple #[.int .i64 (R.1:Int),.int .i64 (R.2:Int)])/\w=w':=by
 obtain⟨ad,rfl,_,x0⟩:=byte_at hr h0;have x0:w.cell? ad=some (.int .u8 ((l[0]).toNat:Int)):=by simpa[Addr.add]using x0
 obtain⟨q,K⟩:=ex ((l[0]).toNat)
 have hq256:q<256:=by rw[<-K];exact UInt8.toNat_lt _
 obtain⟨n,v,m,p,a⟩:∃n v m p,Utf.rowOf q=(n,v,m,p):=⟨_,_,_,_,rfl⟩
 have P:=zkd l h0 hq n v m p (by rw[K];exact a);have f:Hid ((192<=q/\q<224/\n=2/\v=q-192/\m=128/\p=2047)\/(224<=q/\q<240/\n=3/\v=q-224/\m=2048/\p=65535)\/(240<=q/\q<248/\n=4/\v=q-240/\m=65536/\p=1114111)\/((q<192\/248<=q)/\n=0/\v=0/\m=0/\p=0)):=hid (by
  unfold Utf.rowOf at a;split at a
  .injection a with h1 h2;injection h2 with h2 h3;injection h3 with h3 h4;omega
  .split at a
   .injection a with h1 h2;injection h2 with h2 h3;injection h3 with h3 h4;omega
   .split at a
    .injection a with h1 h2;injection h2 with h2 h3;injection h3 with h3 h4;omega
    .injection a with h1 h2;injection h2 with h2 h3;injection h3 with h3 h4;omega)
 rw[hR]at P;rw[K]at x0 hq;have W:=hid P;have ao:=hid hr;have al:(0:Int)<(l.length:Int):=by omega
 clear P hR K hr a;go_enter func176,ntmps176;go_upto_region 3 with fail;go_cut [23] (fun s23 D=>s23=.bool false/\D=w)
 case first=>
  by_cases h1:q<128
  .have G:(q:Int)<128:=by omega
   have J:¬((l.length:Int)=1):=by omega
   have Q:((l.length:Int)==1)=false:=by simpa using J
   go_wp2;go_meet;exact⟨rfl,rfl⟩
  .have G:¬((q:Int)<128):=by omega
   have U:decide ((q:Int)<128)=false:=by simpa using G
   go_wp2;go_meet;exact⟨rfl,rfl⟩
 case rest=>
 obtain⟨rfl,rfl⟩:=hcut;clear x0 hq al;obtain⟨w,C⟩:∃w,w=wc:=⟨_,rfl⟩
 subst C;go_upto_region 5 with fail;obtain⟨t,O⟩:∃t,decide (192<=q/\q<224)=t:=⟨_,rfl⟩
 have g:=hid O;clear O;go_cut [30] (fun s30 D=>s30=.bool t/\D=w)
 case first=>
  by_cases h1:192<=q
  .have G:(192:Int)<=(q:Int):=by omega
   by_cases h2:q<224
   .have J:(q:Int)<224:=by omega
    have r:Hid (t=true):=hid (by rw[<-g.out];exact decide_eq_true ⟨h1,h2⟩);go_wp2;go_meet;exact⟨by rw[r.out],rfl⟩
   .have J:¬((q:Int)<224):=by omega
    have Q:decide ((q:Int)<224)=false:=by simpa using J
    have r:Hid (t=false):=hid (by rw[<-g.out];exact decide_eq_false (fun h=>h2 h.2));go_wp2;go_meet;exact⟨by rw[r.out],rfl⟩
  .have G:¬((192:Int)<=(q:Int)):=by omega
   have U:decide ((192:Int)<=(q:Int))=false:=by simpa using G
   have r:Hid (t=false):=hid (by rw[<-g.out];exact decide_eq_false (fun h=>h1 h.1));go_wp2;go_meet;exact⟨by rw[r.out],rfl⟩
 case rest=>
 obtain⟨rfl,rfl⟩:=hcut;obtain⟨w,C⟩:∃w,w=wc:=⟨_,rfl⟩
 subst C;go_upto_if 30 with fail;go_cut [5,6,7,8] (fun s5 s6 s7 s8 D=>∃n0 v0 l0 m0:Nat,s5=.int .i64 n0/\s6=.int .i64 v0/\s7=.int .i64 l0/\s8=.int .i64 m0/\Hid ((192<=q/\q<224->n0=n/\v0=v/\l0=m/\m0=p)/\(¬(192<=q/\q<224)->n0=0/\v0=0/\l0=0/\m0=0))/\D=w)
 case first=>
  cases t with
  |true=>
   have hb:=of_decide_eq_true g.out;have H:(q:Int)-192=((q-192:Nat):Int):=by omega
   have u:Hid ((192<=q/\q<224->2=n/\q-192=v/\128=m/\2047=p)/\(¬(192<=q/\q<224)->2=0/\q-192=0/\128=0/\2047=0)):=hid (by have:=f.out;omega);clear hb;go_wp2;go_meet;exact⟨2,q-192,128,2047,rfl,by rw[<-H],rfl,rfl,u,rfl⟩
  |false=>
   have u:Hid ((192<=q/\q<224->0=n/\0=v/\0=m/\0=p)/\(¬(192<=q/\q<224)->0=0/\0=0/\0=0/\0=0)):=hid (by have:=f.out;have:=of_decide_eq_false g.out;omega);go_wp2;go_meet
   first|exact⟨0,0,0,0,rfl,rfl,rfl,rfl,u,rfl⟩|exact⟨0,0,0,0,rfl,rfl,rfl,rfl,hid ⟨u.out.1,fun _=>⟨rfl,rfl,rfl,rfl⟩⟩,rfl⟩
 case rest=>
 obtain⟨n0,v0,l0,m0,rfl,rfl,rfl,rfl,H0,rfl⟩:=hcut;clear g t;obtain⟨w,C⟩:∃w,w=wc:=⟨_,rfl⟩
 subst C;go_upto_region 7 with fail;obtain⟨t,O⟩:∃t,decide (224<=q/\q<240)=t:=⟨_,rfl⟩
 have g:=hid O;clear O;go_cut [38] (fun s38 D=>s38=.bool t/\D=w)
 case first=>
  by_cases h1:224<=q
  .have G:(224:Int)<=(q:Int):=by omega
   by_cases h2:q<240
   .have J:(q:Int)<240:=by omega
    have r:Hid (t=true):=hid (by rw[<-g.out];exact decide_eq_true ⟨h1,h2⟩);go_wp2;go_meet;exact⟨by rw[r.out],rfl⟩
   .have J:¬((q:Int)<240):=by omega
    have Q:decide ((q:Int)<240)=false:=by simpa using J
    have r:Hid (t=false):=hid (by rw[<-g.out];exact decide_eq_false (fun h=>h2 h.2));go_wp2;go_meet;exact⟨by rw[r.out],rfl⟩
  .have G:¬((224:Int)<=(q:Int)):=by omega
   have U:decide ((224:Int)<=(q:Int))=false:=by simpa using G
   have r:Hid (t=false):=hid (by rw[<-g.out];exact decide_eq_false (fun h=>h1 h.1));go_wp2;go_meet;exact⟨by rw[r.out],rfl⟩
 case rest=>
 obtain⟨rfl,rfl⟩:=hcut;obtain⟨w,C⟩:∃w,w=wc:=⟨_,rfl⟩
 subst C;go_upto_if 38 with fail;go_cut [5,6,7,8] (fun s5 s6 s7 s8 D=>∃n1 v1 l1 m1:Nat,s5=.int .i64 n1/\s6=.int .i64 v1/\s7=.int .i64 l1/\s8=.int .i64 m1/\Hid ((192<=q/\q<240->n1=n/\v1=v/\l1=m/\m1=p)/\(¬(192<=q/\q<240)->n1=0/\v1=0/\l1=0/\m1=0))/\D=w)
 case first=>
  cases t with
  |true=>
   have hb:=of_decide_eq_true g.out;have H:(q:Int)-224=((q-224:Nat):Int):=by omega
   have u:Hid ((192<=q/\q<240->3=n/\q-224=v/\2048=m/\65535=p)/\(¬(192<=q/\q<240)->3=0/\q-224=0/\2048=0/\65535=0)):=hid (by have:=f.out;omega);clear hb;go_wp2;go_meet;exact⟨3,q-224,2048,65535,rfl,by rw[<-H],rfl,rfl,u,rfl⟩
  |false=>
   have u:Hid ((192<=q/\q<240->n0=n/\v0=v/\l0=m/\m0=p)/\(¬(192<=q/\q<240)->n0=0/\v0=0/\l0=0/\m0=0)):=hid (by have:=f.out;have:=of_decide_eq_false g.out;have:=H0.out;omega);go_wp2;go_meet
   first|exact⟨n0,v0,l0,m0,rfl,rfl,rfl,rfl,u,rfl⟩|exact⟨n0,v0,l0,m0,rfl,rfl,rfl,rfl,hid ⟨u.out.1,fun _=>⟨rfl,rfl,rfl,rfl⟩⟩,rfl⟩
 case rest=>
 obtain⟨n1,v1,l1,m1,rfl,rfl,rfl,rfl,H1,rfl⟩:=hcut;clear g t;obtain⟨w,C⟩:∃w,w=wc:=⟨_,rfl⟩
 subst C;go_upto_region 9 with fail;obtain⟨t,O⟩:∃t,decide (240<=q/\q<248)=t:=⟨_,rfl⟩
 have g:=hid O;clear O;go_cut [46] (fun s46 D=>s46=.bool t/\D=w)
 case first=>
  by_cases h1:240<=q
  .have G:(240:Int)<=(q:Int):=by omega
   by_cases h2:q<248
   .have J:(q:Int)<248:=by omega
    have r:Hid (t=true):=hid (by rw[<-g.out];exact decide_eq_true ⟨h1,h2⟩);go_wp2;go_meet;exact⟨by rw[r.out],rfl⟩
   .have J:¬((q:Int)<248):=by omega
    have Q:decide ((q:Int)<248)=false:=by simpa using J
    have r:Hid (t=false):=hid (by rw[<-g.out];exact decide_eq_false (fun h=>h2 h.2));go_wp2;go_meet;exact⟨by rw[r.out],rfl⟩
  .have G:¬((240:Int)<=(q:Int)):=by omega
   have U:decide ((240:Int)<=(q:Int))=false:=by simpa using G
   have r:Hid (t=false):=hid (by rw[<-g.out];exact decide_eq_false (fun h=>h1 h.1));go_wp2;go_meet;exact⟨by rw[r.out],rfl⟩
 case rest=>
 obtain⟨rfl,rfl⟩:=hcut;obtain⟨w,C⟩:∃w,w=wc:=⟨_,rfl⟩
 subst C;go_upto_if 46 with fail;go_cut [5,6,7,8] (fun s5 s6 s7 s8 D=>∃n2 v2 l2 m2:Nat,s5=.int .i64 n2/\s6=.int .i64 v2/\s7=.int .i64 l2/\s8=.int .i64 m2/\Hid ((192<=q/\q<248->n2=n/\v2=v/\l2=m/\m2=p)/\(¬(192<=q/\q<248)->n2=0/\v2=0/\l2=0/\m2=0))/\D=w)
 case first=>
  cases t with
  |true=>
   have hb:=of_decide_eq_true g.out;have H:(q:Int)-240=((q-240:Nat):Int):=by omega
   have u:Hid ((192<=q/\q<248->4=n/\q-240=v/\65536=m/\1114111=p)/\(¬(192<=q/\q<248)->4=0/\q-240=0/\65536=0/\1114111=0)):=hid (by have:=f.out;omega);clear hb;go_wp2;go_meet;exact⟨4,q-240,65536,1114111,rfl,by rw[<-H],rfl,rfl,u,rfl⟩
  |false=>
   have u:Hid ((192<=q/\q<248->n1=n/\v1=v/\l1=m/\m1=p)/\(¬(192<=q/\q<248)->n1=0/\v1=0/\l1=0/\m1=0)):=hid (by have:=f.out;have:=of_decide_eq_false g.out;have:=H1.out;omega);go_wp2;go_meet
   first|exact⟨n1,v1,l1,m1,rfl,rfl,rfl,rfl,u,rfl⟩|exact⟨n1,v1,l1,m1,rfl,rfl,rfl,rfl,hid ⟨u.out.1,fun _=>⟨rfl,rfl,rfl,rfl⟩⟩,rfl⟩
 case rest=>
 obtain⟨n2,v2,l2,m2,rfl,rfl,rfl,rfl,H2,rfl⟩:=hcut;clear g t;obtain⟨w,C⟩:∃w,w=wc:=⟨_,rfl⟩
 subst C;obtain⟨rfl,rfl,rfl,rfl⟩:n2=n/\v2=v/\l2=m/\m2=p:=by have:=f.out;have:=H2.out;omega
 have hn4:n2<=4:=by have:=f.out;omega
 have ac:v2<32:=by have:=f.out;omega
 have hlo:l2<=65536:=by have:=f.out;omega
 have hmo:m2<=1114111:=by have:=f.out;omega
 clear H0 H1 H2 f;by_cases hln:l.length>n2
 .have ai:(n2:Int)<(l.length:Int):=by omega
  have b:Hid (R=(0,0)):=hid (by have:=W.out;rw[if_pos hln]at this;exact this);go_wp2;go_ret2;rw[b.out];exact⟨rfl,rfl⟩
 .have ai:¬((n2:Int)<(l.length:Int)):=by omega
  have V:Hid (R=begF n2 l2 m2 l.length (Utf.goOn v2 (l.drop 1))):=hid (by have:=W.out;rw[if_neg hln]at this;exact this)
  skip
  go_wp2_with fail;go_loop [6,9] (fun s6 s9=>∃x i:Nat,1<=i/\i<=l.length/\s6=.int .i64 x/\s9=.int .i64 i/\x<32*64 ^ (i-1)/\Hid (Utf.goOn v2 (l.drop 1)=Utf.goOn x (l.drop i))) (fun _ s9=>l.length-(intOf s9).toNat)
  case atStart=>exact⟨v2,1,by omega,by omega,rfl,rfl,by simpa using ac,hid rfl⟩
  case round=>
   obtain⟨x,i,hi1,hil,rfl,rfl,aj,M⟩:=hrel;have an:x<32*64 ^ 3:=Nat.lt_of_lt_of_le aj (Nat.mul_le_mul_left _ (Nat.pow_le_pow_right (by omega) (by omega)));have an:x<=8388607:=by omega
   by_cases hlt:i<l.length
   .have aa:(i:Int)<(l.length:Int):=by omega
    obtain⟨ad',T,_,y0⟩:=byte_at ao.out hlt;injection T with T
    subst T;have s:l.drop i=l[i]::l.drop (i+1):=List.drop_eq_getElem_cons hlt;obtain⟨d,hd⟩:=ex (l[i])
    rw[hd]at y0 s;obtain⟨j,L⟩:=ex d.toNat
    rw[L]at y0;have hd256:j<256:=by rw[<-L];exact UInt8.toNat_lt _
    have X:Utf.goOn x (l.drop i)=if j<128\/191<j then none else Utf.goOn (64*x+(j-128)) (l.drop (i+1)):=by
     rw[s,Utf.zca];unfold Utf.isC;rw[L];by_cases h1:j<128\/191<j
     .rw[if_pos h1,if_neg (by simp;omega)]
     .rw[if_neg h1,if_pos (by simp;omega)]
    have S:Hid (Utf.goOn v2 (l.drop 1)=if j<128\/191<j then none else Utf.goOn (64*x+(j-128)) (l.drop (i+1))):=hid (M.out.trans X);clear X s hd L M;by_cases h1:j<128
    .have j1:(j:Int)<128:=by omega
     have b:Hid (R=(0,0)):=hid (by rw[V.out,S.out,if_pos (.inl h1)];rfl);go_wp2;go_ret2;rw[b.out];exact⟨rfl,rfl⟩
    .have j1:¬((j:Int)<128):=by omega
     have j1b:decide ((j:Int)<128)=false:=by simpa using j1
     by_cases h2:191<j
     .have j2:(191:Int)<(j:Int):=by omega
      have b:Hid (R=(0,0)):=hid (by rw[V.out,S.out,if_pos (.inr h2)];rfl);go_wp2;go_ret2;rw[b.out];exact⟨rfl,rfl⟩
     .have j2:¬((191:Int)<(j:Int)):=by omega
      have j2b:decide ((191:Int)<(j:Int))=false:=by simpa using j2
      have o:64 ^ (i+1-1)=64*64 ^ (i-1):=by
       rw[show i+1-1=(i-1)+1 from by omega,Nat.pow_succ,Nat.mul_comm]
      have I:Hid (64*x+(j-128)<32*64 ^ (i+1-1)):=hid (by rw[o];omega);have ak:Hid (Utf.goOn v2 (l.drop 1)=Utf.goOn (64*x+(j-128)) (l.drop (i+1))):=hid (by rw[S.out,if_neg (by omega)]);clear o;go_wp2;go_round
      case rel=>exact⟨64*x+(j-128),i+1,by omega,by omega,by go_num,by go_num,I.out,ak⟩
      case measure=>simp[intOf];omega
   .have aa:¬((i:Int)<(l.length:Int)):=by omega
    have F:i=l.length:=by omega
    have af:R=if(Utf.widen (n2-l.length) (x,x)).2<l2\/(Utf.widen (n2-l.length) (x,x)).1>m2\/((Utf.widen (n2-l.length) (x,x)).1>=55296/\(Utf.widen (n2-l.length) (x,x)).2<=57343)then(0,0)else((Utf.widen (n2-l.length) (x,x)).1,n2):=by
     have h1:=M.out;rw[F,List.drop_length]at h1;have h1:Utf.goOn v2 (l.drop 1)=some x:=h1;rw[V.out,h1];rfl
    have ap:=hid af;have am:x<32*64 ^ (l.length-1):=by rw[<-F];exact aj
    clear af F M;go_wp2_with fail;go_loop [10,11,12] (fun s10 s11 s12=>∃y z k:Nat,l.length<=k/\k<=n2/\s10=.int .i64 y/\s11=.int .i64 z/\s12=.int .i64 k/\y<=z/\z<32*64 ^ (k-1)/\Hid (Utf.widen (n2-l.length) (x,x)=Utf.widen (n2-k) (y,z))) (fun _ _ s12=>n2-(intOf s12).toNat)
    case atStart=>exact⟨x,x,l.length,by omega,by omega,rfl,rfl,rfl,by omega,am,hid rfl⟩
    case round=>
     obtain⟨y,z,k,hk1,hk2,rfl,rfl,rfl,hyz,ar,N⟩:=hrel;have au:z<32*64 ^ 3:=Nat.lt_of_lt_of_le ar (Nat.mul_le_mul_left _ (Nat.pow_le_pow_right (by omega) (by omega)));have au:z<=8388607:=by omega
     by_cases hkn:k<n2
     .have ae:(k:Int)<(n2:Int):=by omega
      have o:64 ^ (k+1-1)=64*64 ^ (k-1):=by
       rw[show k+1-1=(k-1)+1 from by omega,Nat.pow_succ,Nat.mul_comm]
      have I:Hid (64*z+63<32*64 ^ (k+1-1)):=hid (by rw[o];omega);have aq:Hid (Utf.widen (n2-l.length) (x,x)=Utf.widen (n2-(k+1)) (64*y,64*z+63)):=hid (by
       rw[N.out,show n2-k=(n2-(k+1))+1 from by omega];rfl)
      clear o N;go_wp2;go_round
      case rel=>exact⟨64*y,64*z+63,k+1,by omega,by omega,by go_num,by go_num,by go_num,by omega,I.out,aq⟩
      case measure=>simp[intOf];omega
     .have ae:¬((k:Int)<(n2:Int)):=by omega
      have Y:R=if z<l2\/y>m2\/(y>=55296/\z<=57343)then(0,0)else(y,n2):=by
       rw[ap.out,N.out,show n2-k=0 from by omega];rfl
      have E:=hid Y;clear Y N;by_cases t1:z<l2
      .have Z:(z:Int)<(l2:Int):=by omega
       have b:Hid (R=(0,0)):=hid (by rw[E.out,if_pos (.inl t1)]);go_wp2;go_ret2;rw[b.out];exact⟨rfl,rfl⟩
      .have Z:¬((z:Int)<(l2:Int)):=by omega
       have t1b:decide ((z:Int)<(l2:Int))=false:=by simpa using Z
       by_cases t2:m2<y
       .have ah:(m2:Int)<(y:Int):=by omega
        have b:Hid (R=(0,0)):=hid (by rw[E.out,if_pos (.inr (.inl t2))]);go_wp2;go_ret2;rw[b.out];exact⟨rfl,rfl⟩
       .have ah:¬((m2:Int)<(y:Int)):=by omega
        have t2b:decide ((m2:Int)<(y:Int))=false:=by simpa using ah
        by_cases t3:55296<=y
        .have ag:(55296:Int)<=(y:Int):=by omega
         by_cases t4:z<=57343
         .have ab:(z:Int)<=57343:=by omega
          have b:Hid (R=(0,0)):=hid (by rw[E.out,if_pos (.inr (.inr ⟨t3,t4⟩))]);go_wp2;go_ret2;rw[b.out];exact⟨rfl,rfl⟩
         .have ab:¬((z:Int)<=57343):=by omega
          have t4b:decide ((z:Int)<=57343)=false:=by simpa using ab
          have b:Hid (R=(y,n2)):=hid (by rw[E.out,if_neg (by omega)]);go_wp2;go_ret2;rw[b.out];exact⟨rfl,rfl⟩
        .have ag:¬((55296:Int)<=(y:Int)):=by omega
         have t3b:decide ((55296:Int)<=(y:Int))=false:=by simpa using ag
         have b:Hid (R=(y,n2)):=hid (by rw[E.out,if_neg (by omega)]);go_wp2;go_ret2;rw[b.out];exact⟨rfl,rfl⟩
theorem znn (l:Utf.Str) (A:Option Addr) (c B:Nat) (h0:0<l.length) (h4:l.length<=4) (w:World) (hr:RowAt byteL w B A l) (R:Nat×Nat) (hR:Utf.begins l=R):
 Calls prog 176 #[.slice A l.length c] w fun e w'=>e=.returned (.tuple #[.int .i64 (R.1:Int),.int .i64 (R.2:Int)])/\w=w':=by
 by_cases h1:(l[0]).toNat<128/\l.length=1
 .rw[<-hR,zkc l h1.2 h0 h1.1];exact znl l A c B h1.2 w hr h0 h1.1
 .exact znm l A c B h0 h4 w hr h1 R hR
def atC (r:Utf.Str) (k:Nat):Prop:=k<=r.length/\(Utf.begins (r.take k)).2=k
theorem ztu (r:Utf.Str) (k:Nat) (h1:1<=k) (h4:k<=4) (hk:atC r k) (hno:∀j,1<=j->j<k->¬atC r j):Utf.refAt r=Utf.begins (r.take k):=by
 unfold Utf.refAt;unfold atC at hk hno;rcases(by omega:k=1\/k=2\/k=3\/k=4)with rfl|rfl|rfl|rfl
 .rw[if_pos hk]
 .rw[if_neg (hno 1 (by omega) (by omega)),if_pos hk]
 .rw[if_neg (hno 1 (by omega) (by omega)),if_neg (hno 2 (by omega) (by omega)),if_pos hk]
 .rw[if_neg (hno 1 (by omega) (by omega)),if_neg (hno 2 (by omega) (by omega)),if_neg (hno 3 (by omega) (by omega)),if_pos hk]
theorem zgj (r:Utf.Str) (hno:∀j,1<=j->j<=4->¬atC r j):Utf.refAt r=(0,0):=by
 unfold Utf.refAt;unfold atC at hno;rw[if_neg (hno 1 (by omega) (by omega)),if_neg (hno 2 (by omega) (by omega)),if_neg (hno 3 (by omega) (by omega)),if_neg (hno 4 (by omega) (by omega))]
theorem zi8 (s:Utf.Str):byteL.all s=s.map (fun b=>Value.int .u8 (b.toNat:Int)):=by
 induction s with
 |nil=>rfl
 |cons c s ih=>simp only[Lay.all,List.flatMap_cons,List.map_cons]at *;rw[ih];rfl
theorem ztv (s:Utf.Str) (w:World):∃w1 cap,(convert 9 78 (.string ⟨s.toArray⟩)).run prog w=.ok (.slice (some ⟨w.heap.size,0,none⟩) s.length cap) w1/\Below w.heap.size w w1/\RowAt byteL w1 w1.heap.size (some ⟨w.heap.size,0,none⟩) s/\s.length<=cap:=by
 have h:=run_bytes_of_string (P:=prog) w 9 78 5 ⟨s.toArray⟩ underlying9 underlying78 underlying5;have b:(⟨s.toArray⟩:ByteArray).size=s.length:=by simp[ByteArray.size]
 rw[b]at h;refine⟨_,_,h,?_,?_,?_⟩
 .exact((Below.refl _ _).drew).alloc (Nat.le_refl _) _
 .refine⟨byteL.all_len s,fun _=>⟨_,rfl,?_,?_⟩⟩
  .rw[World.size_alloc];exact Nat.lt_succ_self _
  .intro j u a;rw[zi8]at a;have c:j<s.length:=by
    have:=(List.getElem?_eq_some_iff.1 a).1;simpa using this
   have e:(⟨w.heap.size,0,none⟩:Addr).add j=⟨w.heap.size,j,none⟩:=by
    unfold Addr.add;by_cases h0:j=0
    .simp[h0]
    .simp[h0]
   rw[e];have d:∀C fr,(w.drew.alloc (.cells C 5 fr)).cell? ⟨w.heap.size,j,none⟩=C[j]? :=fun C fr=>by
    have f:(w.drew.alloc (.cells C 5 fr)).heap[w.heap.size]? =some (.cells C 5 fr):=heap_alloc_new w.drew _;unfold World.cell?;rw[f];rfl
   rw[d];unfold bytesRow;rw[Array.getElem?_append_left (by simpa using c)];simpa using a
 .exact grownCap_ge w s.length 0 5
theorem ztw {w:World} {B g a k:Nat} {s:Utf.Str} (h:RowAt byteL w B (some ⟨g,0,none⟩) s) (hk:a+k<=s.length) (h0:0<k):RowAt byteL w B (some ⟨g,a,none⟩) ((s.drop a).take k):=by
 obtain⟨ad,e,f,c⟩:=h.2 (by omega);injection e with e
 subst e;refine⟨byteL.all_len _,fun _=>⟨_,rfl,f,fun j u b=>?_⟩⟩;rw[zi8]at b c;have l:j<k:=by
  have:=(List.getElem?_eq_some_iff.1 b).1;simp at this;omega
 have m:=c (a+j) u (by
  rw[List.getElem?_map]at b ⊢;rw[<-b,List.getElem?_take_of_lt l,List.getElem?_drop])
 have d:(⟨g,0,none⟩:Addr).add (a+j)=⟨g,a+j,none⟩:=by
  unfold Addr.add;by_cases h0:a+j=0
  .rw[if_pos h0,h0]
  .rw[if_neg h0];simp
 have i:(⟨g,a,none⟩:Addr).add j=⟨g,a+j,none⟩:=by
  unfold Addr.add;by_cases h0:j=0
  .rw[if_pos h0,h0];rfl
  .rw[if_neg h0]
 rw[i,<-d];exact m
theorem zyo (s:Utf.Str) (a:Nat) (ha:a<s.length) (hs:s.length<=1073741823) (w:World) (R:Nat×Nat) (hR:Utf.refAt (s.drop a)=R):
 Calls prog 150 #[.string ⟨s.toArray⟩,.int .i64 a] w fun e w'=>e=.returned (.tuple #[.int .i64 (R.1:Int),.int .i64 (R.2:Int)])/\Below w.heap.size w w':=by
 have C:=hid hR;clear hR;obtain⟨D,b,t,p,d,hcap⟩:=ztv s w;have n:=hid p;have y:=hid d;clear p d;go_enter func150,ntmps150;have hne:¬(b=a):=by omega
 have hne':¬(a=b):=by omega
 have hcapI:(s.length:Int)<=(b:Int):=by omega
 go_wp2_with fail;clear t;go_loop [7] (fun s7=>∃k:Nat,1<=k/\k<=5/\s7=.int .i64 k/\Hid (∀j,1<=j->j<k->¬atC (s.drop a) j)) (fun s7=>5-(intOf s7).toNat)
 case atStart=>exact⟨1,by omega,by omega,rfl,hid (fun j o x=>by omega)⟩
 case round=>
  obtain⟨k,v,hk5,rfl,c⟩:=hrel;by_cases hk4:k<=4
  .have g:(k:Int)<=4:=by omega
   by_cases hkl:a+k<=s.length
   .have f:(a:Int)+(k:Int)<=(s.length:Int):=by omega
    have hklC:(a:Int)+(k:Int)<=(b:Int):=by omega
    have haI:(a:Int)<=(a:Int)+(k:Int):=by omega
    have q:((s.drop a).take k).length=k:=by rw[List.length_take,List.length_drop];omega
    obtain⟨Q,B⟩:=ex (Utf.begins ((s.drop a).take k))
    have l:=znn ((s.drop a).take k) (some ⟨w.heap.size,a,none⟩) (b-a) D.heap.size (by omega) (by omega) D (ztw y.out hkl (by omega)) Q B;rw[q]at l;have u:=hid l;have r:=hid B;clear l q B;go_wp2_with fail;refine u.out.mono ?_;rintro e w2 ⟨rfl,rfl⟩;by_cases hq:Q.2=k
    .have i:(Q.2:Int)=(k:Int):=by omega
     have z:((Q.2:Int)==(k:Int))=true:=by simpa using i
     have A:Hid (R=(Q.1,k)):=hid (by
      rw[<-C.out,<-hq,show(Q.1,Q.2)=Q from rfl,<-r.out];exact ztu (s.drop a) k v hk4 ⟨by rw[List.length_drop];omega,by rw[r.out,hq]⟩ c.out)
     clear hq;go_wp2;go_ret2;exact⟨by rw[A.out];rfl,n.out⟩
    .have i:¬((Q.2:Int)=(k:Int)):=by omega
     have z:((Q.2:Int)==(k:Int))=false:=by simpa using i
     go_wp2;go_round
     case rel=>exact⟨k+1,by omega,by omega,by go_num,hid (fun j o x=>by
      by_cases e:j=k
      .subst e;rintro⟨_,m⟩;rw[r.out]at m;exact hq m
      .exact c.out j o (by omega))⟩
     case measure=>simp[intOf];omega
   .have f:¬((a:Int)+(k:Int)<=(s.length:Int)):=by omega
    have hklb:decide ((a:Int)+(k:Int)<=(s.length:Int))=false:=by simpa using f
    have h:Hid (R=(0,0)):=hid (by
     rw[<-C.out];refine zgj _ (fun j o x m=>?_);by_cases hjk:j<k
     .exact c.out j o hjk m
     .have:=m.1;rw[List.length_drop]at this;omega)
    go_wp2;go_ret2;exact⟨by rw[h.out];rfl,n.out⟩
  .have g:¬((k:Int)<=4):=by omega
   have hk4b:decide ((k:Int)<=4)=false:=by simpa using g
   have h:Hid (R=(0,0)):=hid (by
    rw[<-C.out];exact zgj _ (fun j o x m=>c.out j o (by omega) m))
   go_wp2;go_ret2;exact⟨by rw[h.out];rfl,n.out⟩
def runeL:Lay Int:={enc:=fun x=>[.int .i32 x],sz:=1,len:=fun _=>rfl,one:=fun x u hu=>by simp at hu;subst hu;rfl,pos:=by omega}
theorem runeT:SliceT prog runeL 158 21 4:=zby runeL 158 21 (.int .i32 0) 4 underlying158 (by kernel_rfl) rfl (by omega)
def badN (s:Utf.Str):Int:=match Utf.bad s with
 |some a=>(a:Int)
 |none=>-1
theorem ztx (s:Utf.Str) (a:Nat) (ha:a<s.length) (R:Nat×Nat) (hR:Utf.refAt (s.drop a)=R) (h:Utf.bad s=Utf.badU (s.drop a).length (s.drop a) a):
 (R.2=0->Utf.bad s=some a)/\(R.2≠0->a+R.2<=s.length/\R.2<=4/\Utf.bad s=Utf.badU (s.drop (a+R.2)).length (s.drop (a+R.2)) (a+R.2)):=by
 have i:s.drop a=s[a]::s.drop (a+1):=List.drop_eq_getElem_cons ha;have c:s.drop a≠[]:=by rw[i];exact List.cons_ne_nil _ _
 have hw:=Utf.zib (s.drop a);have j:=Utf.dec_len (s.drop a) c;rw[List.length_drop]at j;have k:∀n,Utf.badU (n+1) (s.drop a) a=if(Utf.dec (s.drop a)).1=65533/\(Utf.dec (s.drop a)).2=1 then some a else Utf.badU n ((s.drop a).drop (Utf.dec (s.drop a)).2) (a+(Utf.dec (s.drop a)).2):=by
  intro n;rw[i];rfl
 have d:(s.drop a).length=(s.length-a-1)+1:=by rw[List.length_drop];omega
 rw[d,k]at h;rcases Utf.agree (s.drop a) c with⟨e,b,g⟩|⟨e,b⟩
 .rw[if_pos ⟨e,b⟩]at h;rw[hR]at g;exact⟨fun _=>h,fun f=>absurd g f⟩
 .rw[if_neg e]at h;rw[hR]at b;refine⟨fun f=>?_,fun _=>⟨by rw[b];omega,by rw[b];omega,?_⟩⟩
  .rw[b]at f;omega
  .rw[h,b,List.drop_drop];exact Utf.zov _ _ _ _ (by rw[List.length_drop];omega) (Nat.le_refl _)
theorem zno (s:Utf.Str) (hs:s.length<=1073741823) (w:World):
 Calls prog 119 #[.string ⟨s.toArray⟩] w fun e w'=>Below w.heap.size w w'/\∃v,e=.returned (.tuple #[v,.int .i64 (badN s)]):=by
 go_enter func119,ntmps119;go_wp2_with fail;go_loopw [4,5] (fun s4 s5 wr=>∃(v:Value) (l:List Int) (a:Nat),a<=s.length/\l.length<=a/\s5=.int .i64 a/\v=s4/\Hid (OwnRow runeL wr w.heap.size 21 v l)/\Below w.heap.size w wr/\Hid (Utf.bad s=Utf.badU (s.drop a).length (s.drop a) a))
  (fun _ s5 _=>s.length-(intOf s5).toNat)
 case atStart=>exact⟨_,[],0,by omega,by simp,rfl,rfl,hid OwnRow.nil,Below.refl _ _,hid rfl⟩
 case round=>
  obtain⟨v,l,a,ha,hla,rfl,rfl,f,p,b⟩:=hrel;by_cases hlt:a<s.length
  .have n:(a:Int)<(s.length:Int):=by omega
   obtain⟨R,t⟩:=ex (Utf.refAt (s.drop a))
   have z:=hid (zyo s a hlt hs wr R t);have E:=hid t;have q:=hid p;clear t p;go_wp2_with fail;refine z.out.mono ?_;rintro e C ⟨rfl,k⟩;have c:Hid (Below w.heap.size w C):=hid (q.out.trans (k.mono q.out.size));have m:=hid (f.out.later k);obtain⟨i,j⟩:=ztx s a hlt R E.out b.out;clear k f;by_cases h0:R.2=0
   .have g:(R.2:Int)=0:=by omega
    have y:((R.2:Int)==0)=true:=by simpa using g
    have B:Hid (badN s=(a:Int)):=hid (by unfold badN;rw[i h0]);clear i j h0;go_wp2;go_ret2;exact⟨c.out,_,by rw[B.out];rfl⟩
   .have g:¬((R.2:Int)=0):=by omega
    have y:((R.2:Int)==0)=false:=by simpa using g
    obtain⟨s1,s2,s3⟩:=j h0;have r:=hid s3;obtain⟨x,hx⟩:=ex (IntKind.i32.wrap (R.1:Int))
    clear i j s3 h0;go_wp2_with (at_builtin;go_must (refine zab _ rfl (.tmp 22) (.tmp 25) 158 21 4 rfl runeT w.heap.size v l rfl (m.out.alloc _) _ _ 1 [x] rfl (RowAt.lit1 _ _ rfl _ ?_) ?_ ?_ ?_))
    .rfl
    .simp;omega
    .rw[World.size_alloc];have:=c.out.size;omega
    intro D F d o _;have A:Hid (Below w.heap.size w F):=hid ((c.out.alloc c.out.size _).trans ((m.out.alloc _).grown_below o (by rw[World.size_alloc];have:=c.out.size;omega)));have u:=hid d;clear d o;go_wp2;go_roundw
    case rel=>exact⟨D,l++[x],a+R.2,by omega,by simp;omega,by go_num,rfl,u,A.out,r⟩
    case measure=>simp[intOf];omega
  .have n:¬((a:Int)<(s.length:Int)):=by omega
   have B:Hid (badN s=-1):=hid (by
    have h:=b.out;rw[List.drop_of_length_le (by omega)]at h;have h:Utf.bad s=none:=h;unfold badN;rw[h])
   have q:=hid p;clear p b;go_wp2;go_ret2;exact⟨q.out,_,by rw[B.out];rfl⟩
theorem zyp (s:Utf.Str) (hs:s.length<=1073741823) (w:World) (r:Bool) (hr:decide (Utf.bad s=none)=r):
 Calls prog 89 #[.string ⟨s.toArray⟩] w fun e w'=>e=.returned (.bool r)/\Below w.heap.size w w':=by
 obtain⟨x,b⟩:=ex (badN s)
 have d:=hid (zno s hs w);have c:decide (x<0)=r:=by
  rw[<-b,<-hr];unfold badN;cases Utf.bad s with
  |none=>rfl
  |some a=>simp
 rw[b]at d;clear b hr;go_enter func89,ntmps89;go_wp2_with fail;refine d.out.mono ?_;rintro e w2 ⟨f,v,rfl⟩;have g:=hid f;clear f;go_wp2;go_ret;exact⟨by rw[<-c];rfl,g.out⟩
end Utf
end Go.Proofs.YtpjmhafmeieloaaGreatDoor
