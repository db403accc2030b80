import Derived.Test.YtpgmfihonmoliaaGreatDoorZ05
import Derived.Test.YtpgmfihonmoliaaGreatDoorZ02
namespace Go.Proofs.YtpgmfihonmoliaaGreatDoor
open Gr
open _root_.Go.Proofs.Tryz
open _root_.Go.Lib (hid)
set_option maxRecDepth 100000
set_option maxHeartbeats 16000000
open Go.RowKit
def tw (s:Gr.Str) (a n:Nat):Int:=match numAt s a n with
 |some v=>(v:Int)
 |none=>-1
theorem zd0 (c:UInt8) (b:Nat) (hb:c.toNat=b):Gr.dig c=(decide (48<=b) && decide (b<=57))/\Gr.dv c=b-48:=by
 subst hb;refine⟨?_,rfl⟩;rw[Bool.eq_iff_iff,zbh];simp
theorem zcl (s:Gr.Str) (a k:Nat) (h:a+k<s.length):(s.drop a).take (k+1)=(s.drop a).take k++[s[a+k]]:=by
 rw[List.take_succ_eq_append_getElem (by simp;omega),List.getElem_drop]
theorem zdo (s:Gr.Str) (a n k:Nat) (hk:k<n) (h:a+k<s.length) (hd:Gr.dig s[a+k]=false):numAt s a n=none:=by
 unfold numAt;rw[if_neg];rintro⟨h1,b⟩;rw[List.all_eq_true]at b;have:=b s[a+k] (by
  rw[List.mem_take_iff_getElem];exact⟨k,by simp;omega,by rw[List.getElem_drop]⟩)
 rw[hd]at this;cases this
theorem zdb (s:Gr.Str) (a n:Nat) (h:s.length<a+n):numAt s a n=none:=by
 unfold numAt;rw[if_neg (fun hc=>by omega)]
theorem zil (s:Gr.Str) (a n:Nat) (h:a+n<=s.length) (hd:((s.drop a).take n).all Gr.dig=true):numAt s a n=some (Gr.val ((s.drop a).take n)):=by
 unfold numAt;rw[if_pos ⟨h,hd⟩]
theorem zk4 (l:Gr.Str) (hd:l.all Gr.dig=true) (h:l.length<=9):Gr.val l<1000000000:=Nat.lt_of_lt_of_le (ze1 l hd) (Nat.pow_le_pow_right (n:=10) (by omega) h)
theorem zcw {s:Gr.Str} {a n v:Nat} (h:numAt s a n=some v) (hn:n<=9):v<1000000000/\v<10 ^ n/\a+n<=s.length:=by
 unfold numAt at h;split at h
 .rename_i hc;injection h with h
  subst h;have b:((s.drop a).take n).length=n:=by simp;omega
  have:=ze1 _ hc.2;rw[b]at this;exact⟨zk4 _ hc.2 (by omega),this,hc.1⟩
 .cases h
theorem zcm (s:Gr.Str) (hl:s.length<=1073741823) (a n:Nat) (i j:Int) (hi:i=(a:Int)) (hj:j=(n:Int)) (ha:a<=2147483647) (hn:n<=9) (w:World):
 Calls prog 188 #[.string ⟨s.toArray⟩,.int .i64 i,.int .i64 j] w fun e w'=>e=.returned (.int .i64 (tw s a n))/\w=w':=by
 subst hi;subst hj;obtain⟨r,x⟩:=ex (tw s a n)
 have m:=hid x;rw[x];clear x;by_cases hlen:s.length<a+n
 .have l:(s.length:Int)<(a:Int)+(n:Int):=by omega
  have g:Hid (r=-1):=hid (by rw[<-m.out];unfold tw;rw[zdb s a n hlen]);go_enter func188,ntmps188;go_wp2;go_ret;rw[g.out];exact⟨rfl,rfl⟩
 .have l:¬(s.length:Int)<(a:Int)+(n:Int):=by omega
  go_enter func188,ntmps188;go_wp2_with fail;go_loop [7,8] (fun s7 s8=>∃k v:Nat,k<=n/\v<=999999999/\s7=.int .i64 (v:Int)/\s8=.int .i64 ((a+k:Nat):Int)/\Hid (((s.drop a).take k).all Gr.dig=true/\v=Gr.val ((s.drop a).take k))) (fun _ s8=>a+n-(intOf s8).toNat)
  case atStart=>exact⟨0,0,by omega,by omega,rfl,rfl,hid ⟨by simp,by simp[Gr.val]⟩⟩
  case round=>
   obtain⟨k,v,hk,hv,rfl,rfl,p⟩:=hrel;by_cases hlt:k<n
   .have h:((a+k:Nat):Int)<(a:Int)+(n:Int):=by omega
    have c:a+k<s.length:=by omega
    obtain⟨b,o⟩:∃b:Nat,(s[a+k]'c).toNat=b:=⟨_,rfl⟩
    have hbv:(((⟨s.toArray⟩:ByteArray)[a+k]'(by simpa[ByteArray.size]using c)).toNat:Int)=(b:Int):=by rw[<-o];rfl
    have hbl:b<256:=by rw[<-o];exact(s[a+k]'c).toNat_lt
    have d:=hid (zd0 (s[a+k]'c) b o);clear o;by_cases h48:48<=b
    .have u:¬(b:Int)<48:=by omega
     have b48:(48:Int)<=(b:Int):=by omega
     by_cases h57:b<=57
     .have q:¬(57:Int)<(b:Int):=by omega
      have y:=hid (zcl s a k c);have f:Hid (((s.drop a).take (k+1)).all Gr.dig=true/\10*v+(b-48)=Gr.val ((s.drop a).take (k+1))):=hid (by
       rw[y.out,List.all_append,p.out.1,zbl,<-p.out.2,d.out.2];exact⟨by simp[d.out.1,h48,h57],rfl⟩)
      have t:10*v+(b-48)<=999999999:=by
       rw[f.out.2];have:=zk4 _ f.out.1 (by simp;omega);omega
      clear l;go_wp2;go_round
      case rel=>exact⟨k+1,10*v+(b-48),by omega,t,by exact congrArg (Value.int .i64) (by omega),by go_num,f⟩
      case measure=>simp[intOf];omega
     .have q:(57:Int)<(b:Int):=by omega
      have g:Hid (r=-1):=hid (by rw[<-m.out];unfold tw;rw[zdo s a n k hlt c (by rw[d.out.1];simp[h57])]);go_wp2;go_ret;rw[g.out];exact⟨rfl,rfl⟩
    .have u:(b:Int)<48:=by omega
     have g:Hid (r=-1):=hid (by rw[<-m.out];unfold tw;rw[zdo s a n k hlt c (by rw[d.out.1];simp[h48])]);go_wp2;go_ret;rw[g.out];exact⟨rfl,rfl⟩
   .obtain rfl:k=n:=by omega
    have h:¬((a+k:Nat):Int)<(a:Int)+(k:Int):=by omega
    have g:Hid (r=(v:Int)):=hid (by rw[<-m.out];unfold tw;rw[zil s a k (by omega) p.out.1,p.out.2]);go_wp2;go_ret;rw[g.out];exact⟨rfl,rfl⟩
theorem zcn (s:Gr.Str) (_hl:s.length<=1073741823) (a:Nat) (i:Int) (hi:i=(a:Int)) (c:UInt8) (j:Int) (hj:j=(c.toNat:Int)) (w:World):
 Calls prog 164 #[.string ⟨s.toArray⟩,.int .i64 i,.int .u8 j] w fun e w'=>e=.returned (.bool (isAt s a c))/\w=w':=by
 subst hi;subst hj;obtain⟨r,l⟩:=ex (isAt s a c)
 have m:=hid l;rw[l];clear l;obtain⟨d,g⟩:∃d:Nat,c.toNat=d:=⟨_,rfl⟩
 have n:=hid g;rw[g];clear g;by_cases hlt:a<s.length
 .have f:(a:Int)<(s.length:Int):=by omega
  obtain⟨b,k⟩:∃b:Nat,(s[a]'hlt).toNat=b:=⟨_,rfl⟩
  have hbv:(((⟨s.toArray⟩:ByteArray)[a]'(by simpa[ByteArray.size]using hlt)).toNat:Int)=(b:Int):=by rw[<-k];rfl
  have h:Hid (((b:Int)==(d:Int))=r):=hid (by
   rw[<-m.out];unfold isAt;rw[List.getElem?_eq_getElem hlt,Bool.eq_iff_iff];simp only[beq_iff_eq,Option.some.injEq];rw[<-UInt8.toNat_inj,n.out,k];omega)
  clear k;go_enter func164,ntmps164;go_wp2;go_ret;rw[<-h.out];exact⟨rfl,rfl⟩
 .have f:¬(a:Int)<(s.length:Int):=by omega
  have h:Hid (r=false):=hid (by
   rw[<-m.out];unfold isAt;rw[List.getElem?_eq_none (by omega)];rfl)
  go_enter func164,ntmps164;go_wp2;go_ret;rw[h.out];exact⟨rfl,rfl⟩
theorem zp7 (y:Int) (w:World):
 Calls prog 189 #[.int .i64 y] w fun e w'=>e=.returned (.bool (Cal.leapB y))/\w=w':=by
 go_enter func189,ntmps189;go_wp2
 all_goals go_ret
 all_goals exact⟨congrArg (fun b=>Ending.returned (.bool b)) (by simp[Cal.leapB, *]),rfl⟩
theorem zd2 (y m:Int) (_h1:1<=m) (_h2:m<=12) (w:World):
 Calls prog 166 #[.int .i64 y,.int .i64 m] w fun e w'=>e=.returned (.int .i64 (Cal.dim y m))/\w=w':=by
 go_enter func166,ntmps166;go_wp2_with (go_at_call 189;refine(zp7 _ _).mono ?_;rintro e w' ⟨rfl,rfl⟩)
 all_goals go_ret
 all_goals exact⟨congrArg (fun b=>Ending.returned (.int .i64 b)) (by simp_all [Cal.dim,Cal.lp]),rfl⟩
theorem zim (y m d:Int) (h0:0<=y) (h1:y<=20000) (h2:1<=m) (h3:m<=12) (h4:0<=d) (h5:d<=1000) (w:World):
 Calls prog 187 #[.int .i64 y,.int .i64 m,.int .i64 d] w fun e w'=>e=.returned (.int .i64 (Cal.num y m d))/\w=w':=by
 have h:Hid (Cal.fst y=365*y+(y+3) /4-(y+99) /100+(y+399) /400):=hid rfl;have hb0:0<=365*y+(y+3) /4-(y+99) /100+(y+399) /400:=by omega
 have hb1:365*y+(y+3) /4-(y+99) /100+(y+399) /400<=10000000:=by omega
 go_enter func187,ntmps187;go_wp2_with fail;go_loop [7,8] (fun n i=>∃k c:Int,1<=k/\k<=m/\0<=c/\c<=366/\i=.int .i64 k/\n=.int .i64 (365*y+(y+3) /4-(y+99) /100+(y+399) /400-719528+c)/\Hid (Cal.cum y k=c)) (fun _ i=>(13-intOf i).toNat)
 case atStart=>exact⟨1,0,by omega,by omega,by omega,by omega,rfl,by exact congrArg (Value.int .i64) (by omega),hid rfl⟩
 case round=>
  obtain⟨k,c,hk1,hk2,hc0,hc1,rfl,rfl,f⟩:=hrel;by_cases hlt:k<m
  .have o:=Cal.zxy y k;have b:=hid (Cal.zg3 y k (by omega) (by omega));have g:=Cal.zx0 y (k+1);have p:=hid g;clear g;obtain⟨q,a⟩:=ex (Cal.dim y k)
   have l:Hid (∀W,Calls prog 166 #[.int .i64 y,.int .i64 k] W fun e w'=>e=.returned (.int .i64 q)/\W=w'):=hid (fun W=>by rw[<-a];exact zd2 y k (by omega) (by omega) W);rw[a]at o b;clear a;go_wp2_with fail;refine(l.out _).mono ?_;rintro e w' ⟨rfl,rfl⟩;go_wp2;go_round
   case rel=>exact⟨k+1,c+q,by omega,by omega,by omega,by have:=b.out;have:=p.out;have:=f.out;omega,rfl,by exact congrArg (Value.int .i64) (by omega),hid (by rw[b.out,f.out])⟩
   case measure=>simp[intOf];omega
  .obtain rfl:k=m:=by omega
   have j:Hid (Cal.num y k d=365*y+(y+3) /4-(y+99) /100+(y+399) /400-719528+c+d-1):=hid (by unfold Cal.num;rw[h.out,f.out];omega);go_wp2;go_ret;rw[j.out];exact⟨rfl,rfl⟩
end Go.Proofs.YtpgmfihonmoliaaGreatDoor
