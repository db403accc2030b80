import Derived.Test.YtpgmfihonmoliaaGreatDoorGrInsP3B
import Derived.Test.YtpgmfihonmoliaaGreatDoorGrInsR12
namespace Go.Proofs.YtpgmfihonmoliaaGreatDoor
open _root_.Go.Proofs.Tryz
open _root_.Go.Lib (hid)
set_option maxRecDepth 100000
set_option maxHeartbeats 16000000
open Go.RowKit Go.Sort
theorem tz64_core (x k idx:Nat) (w:World) (hx0:((x:Int)==0)=false)
 (key:IntKind.u64.wrap (bits BinOp.and IntKind.u64 (x:Int) (IntKind.u64.wrap (-(x:Int)))*285870213051353865) /288230376151711744=(idx:Int))
 (hi:idx<64) (hk:k<64) (hcell:w.cell? ⟨6,idx,none⟩=some (.int .u8 k)):
 Calls prog 149 #[.int .u64 x] w fun e w'=>e=.returned (.int .i64 k)/\w'=w:=by
 go_enter func149,ntmps149;go_wp2_with (simp only[key]);go_ret;exact⟨rfl,rfl⟩
theorem zsx (x:Nat) (hx0:x≠0) (hx:x<18446744073709551616) (w:World) (hT:UT w):
 Calls prog 149 #[.int .u64 x] w fun e w'=>e=.returned (.int .i64 (Lib.ctz 64 x))/\w'=w:=by
 obtain⟨c,d⟩:=Lib.lowest_bit 64 x hx0 hx;obtain⟨f,b⟩:=Lib.deBruijn64_at _ d;have a:=hT.bru _ f;rw[b]at a;exact tz64_core x _ _ w (by simp;omega) (tz64_key x _ hx hx0 c) f d a
open Flt in
theorem zpq (m L:Nat) (e:Int) (h:Flt.Fits m L e) (f:Nat) (hf:fw m L e=f) (w:World) (hT:UT w):Calls prog 117 #[.float .f64 f] w fun r w'=>r=.returned (.tuple #[.int .u64 (m:Int),.int .i64 e])/\w=w':=by
 have j:=h.fw_lt.2;obtain⟨z,hz,b,_,a⟩:=h.fields;have c:=h.sig_bd;have i:m*2 ^ z<9007199254740992:=by rw[<-b];exact c.2.1
 have g:0<m*2 ^ z:=by rw[<-b];exact c.1
 have l:m<9007199254740992:=by have:=h.hi;have h2:=zfa (L+1) h.len;omega
 rw[hf]at a j;have A:=hid (fun W=>zgx f (by omega) W);have c1:=fun W=>zck f W
 have x:=zsq f (by omega);have d:=hid (zsx (m*2 ^ z) (by omega) (by omega) w hT);rw[zxq m z h.odd (by omega)]at d;obtain⟨M,p⟩:=ex (m*2 ^ z)
 have hdiv:(M:Int) /2 ^ z=(m:Int):=by rw[<-p];push_cast;exact Int.mul_ediv_cancel _ (by have:=Int.pow_pos (n:=2) (m:=z) (by omega);omega)
 rw[p]at d a i g;have hz0:(0:Int)<=(z:Int):=by omega
 have hz1:(z:Int)<=52:=by omega
 have hzn:((z:Int)).toNat=z:=by omega
 rcases a with⟨u,o,q⟩|⟨k,u,B,o,q⟩
 .have C:(f:Int) /4503599627370496=0:=by omega
  have t:=hid q;rw[o]at x;clear h c hf hT b p u o q j i g l;go_enter func117,ntmps117;go_wp2_with fail;refine(A.out _).mono ?_;rintro _ s ⟨rfl,rfl⟩;go_wp2_with fail;refine d.out.mono ?_;rintro _ s ⟨rfl,rfl⟩;go_wp2;go_ret2;refine⟨?_,rfl⟩;rw[t.out];rfl
 .have C:(f:Int) /4503599627370496=(k:Int)+1:=by omega
  have i3:IntKind.i64.wrap ((k:Int)+1)=(k:Int)+1:=IntWalk.i64_in _ (by omega);have i5:((k:Int)+1==0)=false:=by simp;omega
  have y:=or_one (f%4503599627370496) (by omega);rw[o]at y;obtain⟨Q,v⟩:=ex (f%4503599627370496)
  rw[v]at x y;have t:Hid (e=(k:Int)+1-1075+z):=hid (by omega);have hk0:(0:Int)<=(k:Int):=by omega
  have hk1:(k:Int)<=2045:=by omega
  clear h c hf hT b p u o q j i g l v B;go_enter func117,ntmps117;go_wp2_with fail;refine(A.out _).mono ?_;rintro _ s ⟨rfl,rfl⟩;go_wp2_with fail;refine d.out.mono ?_;rintro _ s ⟨rfl,rfl⟩;go_wp2;go_ret2;refine⟨?_,rfl⟩;rw[t.out];rfl
theorem zx2 (u:Nat) (hu64:u<18446744073709551616) (w:World) (hT:UT w):
 Calls prog 150 #[.int .u64 u,.int .i64 10] w fun e w'=>e=.returned (.string ⟨(Lib.decDigits u).toArray⟩)/\Below w.heap.size w w':=by
 by_cases hs:u<100
 .have r:(u:Int)<100:=by omega
  have hw:IntKind.i64.wrap (u:Int)=(u:Int):=IntWalk.i64_in _ (by omega);have v:=hid (fun W=>internal_strconv_small u hs W);go_enter func150,ntmps150;go_wp2_with fail;refine(v.out _).mono ?_;rintro e s ⟨rfl,rfl⟩;go_wp2;go_ret;exact⟨rfl,Below.refl _ _⟩
 .have r:¬(u:Int)<100:=by omega
  have d:1<=u:=by omega
  have hnd20:Lib.nDigits u<=20:=by have:=Lib.numDigits_eq u d hu64;split at this<;>omega
  have g:prog.arrayLen 210=24:=by kernel_rfl
  have i:prog.underlying 210=some (.array 24 5):=underlying210;have hsl1:∀W,(Instr.sliceAt 210 (.pointer (some ⟨w.heap.size,0,none⟩)) none (some (.int .i64 (Lib.nDigits u:Int))) none).run prog W=.ok (.slice (some ⟨w.heap.size,0,none⟩) (Lib.nDigits u) 24) W:=fun W=>by
   rw[run_sliceAt_array_h W 210 ⟨w.heap.size,0,none⟩ (by simp[Program.arrayLen,Program.elem,i]) .i64 (Lib.nDigits u:Int) (by omega) (by rw[g];omega)];go_simp
  have c:=Lib.holds_zero0 w 210 (Lib.nDigits u) (by omega);have a:=internal_strconv_formatBase10 w.heap.size 0 24 u (Array.replicate (Lib.nDigits u) 0) (w.alloc (.cells Lib.zeros24 210)) c (by rw[Array.size_replicate];exact Lib.lt_pow_nDigits u) hu64 (by rw[Array.size_replicate];omega);rw[Array.size_replicate]at a;have x:=hid a;have m:=hid c;have o:=hid (fun W (hW:UT W)=>internal_strconv_numDigits u d hu64 W hW.pow);have p:Hid (UT (w.alloc (.cells Lib.zeros24 210))):=hid (UT.stays _ _ hT ((Below.refl _ _).alloc (Nat.le_refl _) _));clear c a g i hT hs d;go_enter func150,ntmps150;go_wp2_with fail;refine(o.out _ p.out).mono ?_;rintro e s ⟨rfl,rfl⟩;go_wp2_with fail;refine x.out.mono ?_;rintro e s ⟨rfl,k,v',f,rfl,l⟩;have hcv:(convert 80 9 (.slice (some ⟨w.heap.size,0,none⟩) (Lib.nDigits u) 24)).run prog ((putRow (fun(b:UInt8)=>Value.int .u8 (b.toNat:Int)) (w.alloc (.cells Lib.zeros24 210)) w.heap.size 0 f).drewN k)=.ok (.string ⟨(Lib.decDigits u).toArray⟩) ((putRow (fun(b:UInt8)=>Value.int .u8 (b.toNat:Int)) (w.alloc (.cells Lib.zeros24 210)) w.heap.size 0 f).drewN k):=by
   have h:=run_convert_bytes_back (P:=prog) ((putRow (fun(b:UInt8)=>Value.int .u8 (b.toNat:Int)) (w.alloc (.cells Lib.zeros24 210)) w.heap.size 0 f).drewN k) 80 9 5 ⟨w.heap.size,0,none⟩ 24 (Lib.decDigits u) underlying80 underlying5 underlying9 (fun j q=>by
    rw[Lib.row_is_numeral l j q,Lib.add_plain,World.cell?_drewN];exact cell?_putRow (fun(b:UInt8)=>Value.int .u8 (b.toNat:Int)) _ w.heap.size 0 _ f m.out (by rw[l.size,Array.size_replicate]) j (by rw[l.size];rw[Lib.decDigits_length]at q;exact q))
   rw[Lib.decDigits_length]at h;exact h
  obtain⟨os,t⟩:=Lib.fin_at w (.cells Lib.zeros24 210) f k 0;have n:=hid t;clear l t;go_wp2;go_ret;refine⟨rfl,?_⟩;rw[n.out];exact Lib.below_grow _ _ (Nat.le_refl _) _ _
theorem zvv (u:Nat) (hu64:u<18446744073709551616) (w:World) (hT:UT w):
 Calls prog 118 #[.int .u64 u,.int .i64 10] w fun e w'=>e=.returned (.string ⟨(Lib.decDigits u).toArray⟩)/\Below w.heap.size w w':=by
 have c:=hid (zx2 u hu64 w hT);clear hT;go_enter func118,ntmps118;go_wp2_with fail;refine c.out.mono ?_;rintro e w1 ⟨rfl,a⟩;have b:=hid a;clear a;go_wp2;go_ret;exact⟨rfl,b.out⟩
open Flt in
theorem zpr (m L:Nat) (e:Int) (h:Flt.Fits m L e) (f:Nat) (hf:fw m L e=f) (w:World) (hT:UT w):Calls prog 86 #[.float .f64 f] w fun r w'=>r=.returned (.string ⟨(Lib.decDigits m++112::Lib.itoa e).toArray⟩)/\Below w.heap.size w w':=by
 have hlt:=h.fw_lt.2;have G:=h.o_zero;have F:=h.o_self;have hmb:m<9007199254740992:=by have:=h.hi;have z:=zfa (L+1) h.len;omega
 have H:=hid (fun W=>zkx f (by omega) (by rw[<-hf];exact h.o_max) W);have A:=hid (fun W=>zpa f (by omega) W);have t:=hid (fun W l=>zpq m L e h f hf W l);have he0:=h.e0;have he1:=h.e1;have y:=hid (fun W l=>zvv m (by omega) W l);have i:=hid (fun W l=>zg1 e (by omega) (by omega) W l);have B:(Lib.decDigits m).length<=20:=by
  have z:=congrArg List.length (Gr.zpo 20 m (by omega) (by omega));rw[List.length_append,List.length_replicate,Gr.za6]at z;omega
 have C:=zg2 e (by omega) (by omega);obtain⟨D,s⟩:∃D:Gr.Str,Lib.decDigits m=D:=⟨_,rfl⟩
 obtain⟨I,p⟩:∃I:Gr.Str,Lib.itoa e=I:=⟨_,rfl⟩
 rw[s]at y B;rw[p]at i C;obtain⟨s1,b⟩:∃x:Gr.Str,[]++D=x:=⟨_,rfl⟩
 have Ls1:s1.length<=30:=by rw[<-b];simp;omega
 have q:=fun W=>zad [] D (by simp;omega) W
 rw[b]at q;obtain⟨s2,a⟩:∃x:Gr.Str,s1++[112]=x:=⟨_,rfl⟩
 have Ls2:s2.length<=40:=by rw[<-a];simp;omega
 have u:=fun W=>zad s1 [112] (by simp;omega) W
 rw[a]at u;obtain⟨s3,g⟩:∃x:Gr.Str,s2++I=x:=⟨_,rfl⟩
 have o:=fun W=>zad s2 I (by omega) W
 rw[g]at o;have E:Hid (D++112::I=s3):=hid (by rw[<-g,<-a,<-b];simp);have d:=hid hT;rw[hf]at G F;rw[s,p];clear h hf hT s p b a g;go_enter func86,ntmps86;go_wp2_with fail;refine(A.out _).mono ?_;rintro r v ⟨rfl,rfl⟩;go_wp2_with fail;refine(H.out _).mono ?_;rintro r v ⟨rfl,rfl⟩;go_wp2_with fail;refine(t.out _ d.out).mono ?_;rintro r v ⟨rfl,rfl⟩;go_wp2_with fail;refine(y.out _ d.out).mono ?_;rintro r w2 ⟨rfl,k⟩;have c:=hid k;clear k;go_wp2_with fail;refine(i.out _ (UT.stays _ _ d.out c.out)).mono ?_;rintro r w3 ⟨rfl,j⟩;have n:=hid (c.out.trans (j.mono c.out.size));clear j;go_wp2;go_ret;rw[E.out];exact⟨rfl,n.out⟩
open Gr
open Go.RowKit
theorem zp5 {s:Gr.Str} {b n:Nat} (hle:b+n<=s.length) (hd:((s.drop b).take n).all Gr.dig=true) (hn:∀h2:b+n<s.length,Gr.dig (s[b+n]'h2)=false):(s.drop b).takeWhile Gr.dig=(s.drop b).take n:=by
 have a:s.drop b=(s.drop b).take n++s.drop (b+n):=by
  rw[<-List.drop_drop];exact(List.take_append_drop n (s.drop b)).symm
 rw[a,List.takeWhile_append_of_pos (by simpa using hd)];have h2:(s.drop (b+n)).takeWhile Gr.dig=[]:=by
  rcases Nat.lt_or_ge (b+n) s.length with h3|h3
  .rw[List.drop_eq_getElem_cons h3,List.takeWhile_cons,hn h3];rfl
  .rw[List.drop_eq_nil_of_le h3];rfl
 rw[h2,List.append_nil,List.take_append_of_le_length (by simp;omega),List.take_take,Nat.min_self]
theorem zv7 {s:Gr.Str} {b n:Nat} (hle:b+n<=s.length) (hd:((s.drop b).take n).all Gr.dig=true):n<=((s.drop b).takeWhile Gr.dig).length:=by
 have a:s.drop b=(s.drop b).take n++s.drop (b+n):=by
  rw[<-List.drop_drop];exact(List.take_append_drop n (s.drop b)).symm
 rw[a,List.takeWhile_append_of_pos (by simpa using hd),List.length_append];have:((s.drop b).take n).length=n:=by simp;omega
 omega
def pointO (s:Gr.Str) (sh:Nat) (f:Nat->Nat) (p:Nat):Option (Array Value):=
 if isAt s p 46=true then
  if((s.drop (p+1)).takeWhile Gr.dig).length=0\/9<((s.drop (p+1)).takeWhile Gr.dig).length then none
  else finO s sh f (Gr.val ((s.drop (p+1)).takeWhile Gr.dig)*10 ^ (9-((s.drop (p+1)).takeWhile Gr.dig).length)) (p+1+((s.drop (p+1)).takeWhile Gr.dig).length)
 else finO s sh f 0 p
theorem zms {s:Gr.Str} {sh:Nat} {f:Nat->Nat} {p k:Nat} (hp:isAt s p 46=true) (hle:p+1+k<=s.length) (hd:((s.drop (p+1)).take k).all Gr.dig=true) (h1:1<=k) (h9:k<=9) (hn:k=9\/∀h2:p+1+k<s.length,Gr.dig (s[p+1+k]'h2)=false):
 pointO s sh f p=finO s sh f (Gr.val ((s.drop (p+1)).take k)*10 ^ (9-k)) (p+1+k):=by
 unfold pointO;rw[if_pos hp];have d:((s.drop (p+1)).take k).length=k:=by clear hn;simp;omega
 by_cases hx:∀h2:p+1+k<s.length,Gr.dig (s[p+1+k]'h2)=false
 .rw[zp5 hle hd hx,d,if_neg (by clear hx hn;omega)]
 .have h92:k=9:=by rcases hn with h|h;exact h;exact absurd h hx
  have a:p+1+k<s.length:=by
   rcases Nat.lt_or_ge (p+1+k) s.length with h|h
   .exact h
   .exact absurd (fun h2=>absurd h2 (Nat.not_lt.2 h)) hx
  have c:Gr.dig (s[p+1+k]'a)=true:=by
   cases hc:Gr.dig (s[p+1+k]'a)with
   |true=>rfl
   |false=>exact absurd (fun _=>hc) hx
  clear hn hx;have hl2:=zv7 (s:=s) (b:=p+1) (n:=k+1) (by omega) (by rw[zcl s (p+1) k a,List.all_append,hd];simp[c]);rw[if_pos (by omega)];unfold finO;rw[if_neg (by omega)];split
  .rw[zk7 a rfl]<;>(intro e;rw[(zd0 _ _ e).1]at c;revert c;decide)
  .rfl
theorem zmt {s:Gr.Str} {sh:Nat} {f:Nat->Nat} {p:Nat} (hp:isAt s p 46=true) (hle:p+1<=s.length) (hn:∀h2:p+1<s.length,Gr.dig (s[p+1]'h2)=false):pointO s sh f p=none:=by
 unfold pointO;rw[if_pos hp,zp5 (n:=0) (by omega) (by simp) hn];simp
theorem zk8 {s:Gr.Str} {sh:Nat} {f:Nat->Nat} {p:Nat} (hp:isAt s p 46=false):pointO s sh f p=finO s sh f 0 p:=by
 unfold pointO;rw[if_neg (by rw[hp];decide)]
theorem RMem.at_ {s:Gr.Str} {w:World} {sb rb mb ab fb sh:Nat} {f:Nat->Nat} {nn z p:Nat} {wx:World} (h:RMem s w sb rb mb ab fb sh f nn z p wx) (q:Nat):RMem s w sb rb mb ab fb sh f nn z q (wx.setCell ⟨ab,0,none⟩ (.int .i64 (q:Int))):=
 h.fld (KM.ofA (Kept1.set _ _)) (h.m.far (h.m.ne_ h.a (by decide)) _) (h.a.set_ 0 _)
theorem RMem.ns {s:Gr.Str} {w:World} {sb rb mb ab fb sh:Nat} {f:Nat->Nat} {nn z p:Nat} {wx:World} (h:RMem s w sb rb mb ab fb sh f nn z p wx) (q:Nat):RMem s w sb rb mb ab fb sh f q z p (wx.setCell ⟨mb,9,none⟩ (.int .i64 (q:Int))):=
 have c:KM mb ab wx (wx.setCell ⟨mb,9,none⟩ (.int .i64 (q:Int))):=KM.ofM (Kept1.set _ _)
 ⟨h.b.trans (c.below h.b.size h.nm h.na),h.n,h.nm,h.na,h.mr,c.blk h.s (h.s.ne_ h.m (by decide)) (h.s.ne_ h.a (by decide)),c.blk h.r h.mr.symm (h.r.ne_ h.a (by decide)),h.m.set_ 9 _,h.a.far (h.a.ne_ h.m (by decide)) _,c.blk h.f (h.f.ne_ h.m (by decide)) (h.f.ne_ h.a (by decide))⟩
theorem zta (s:Gr.Str) (hl:s.length<=1073741823) (w wx:World) (sb rb mb ab fb sh:Nat) (f:Nat->Nat) (p:Nat) (T:Option (Array Value)) (HM:Hid (RMem s w sb rb mb ab fb sh f 0 0 p wx)) (hp:p<=s.length) (hsh:sh<=3) (HT:Hid (T=pointO s sh f p/\f 6=0/\f 7=0)) {u3 u8 u9 u10 u11 u12 u13 u14 u15 u16 u17 u18 u19 u20 u21 u22 u23 u24 u25 u26 u27 u28 u29 u30 u31 u32 u33 u34 u35 u36 u37 u38 u39 u40 u41 u42 u43 u44 u45 u46 u47 u48 u49 u50 u51 u52 u53 u54 u55 u56 u57 u58 u59 u60 u61 u62 u63 u64 u65 u66 u67 u68 u69 u70 u71 u72 u73 u74 u75 u76 u77 u78 u79 u80 u81 u82 u83 u84 u85 u86 u87 u88 u89 u90 u91 u92 u93 u94 u95 u96 u97 u98 u99 u100 u101 u102 u103 u104 u105 u106 u107 u108 u109 u110 u111 u112 u113 u114 u115 u116 u117 u118 u119 u120 u121 u122 u123 u124 u125 u126 u127 u128 u129 u130 u131 u132 u133 u134 u135 u136 u137 u138 u139 u140 u141 u142 u143 u144 u145 u146 u147 u148 u149 u150 u151 u152 u153 u154:Value}:
 Code.wp prog (tl 8 (f58.body.getD .skip)) (bodyPost prog f58 (RPost T w)) {tmps:=List.toArray (.string ⟨s.toArray⟩::.pointer (some ⟨sb,0,none⟩)::.pointer (some ⟨rb,0,none⟩)::u3::.pointer (some ⟨mb,0,none⟩)::.pointer (some ⟨ab,0,none⟩)::.pointer (some ⟨fb,0,none⟩)::.func (.func 90) #[] #[.pointer (some ⟨ab,0,none⟩),.pointer (some ⟨sb,0,none⟩),.pointer (some ⟨fb,0,none⟩)]::u8::u9::u10::u11::u12::u13::u14::u15::u16::u17::u18::u19::u20::u21::u22::u23::u24::u25::u26::u27::u28::u29::u30::u31::u32::u33::u34::u35::u36::u37::u38::u39::u40::u41::u42::u43::u44::u45::u46::u47::u48::u49::u50::u51::u52::u53::u54::u55::u56::u57::u58::u59::u60::u61::u62::u63::u64::u65::u66::u67::u68::u69::u70::u71::u72::u73::u74::u75::u76::u77::u78::u79::u80::u81::u82::u83::u84::u85::u86::u87::u88::u89::u90::u91::u92::u93::u94::u95::u96::u97::u98::u99::u100::u101::u102::u103::u104::u105::u106::u107::u108::u109::u110::u111::u112::u113::u114::u115::u116::u117::u118::u119::u120::u121::u122::u123::u124::u125::u126::u127::u128::u129::u130::u131::u132::u133::u134::u135::u136::u137::u138::u139::u140::u141::u142::u143::u144::u145::u146::u147::u148::u149::u150::u151::u152::u153::u154::[]),defers:=[]} wx:=by
 generalize hc0:tl 8 (f58.body.getD .skip)=c0;simp only[tl,f58,Option.getD_some]at hc0;subst hc0;obtain⟨S,Z⟩:=ex (isAt s p 46)
 have i:=hid Z;clear Z;have K:wx.cell? ⟨ab,0,none⟩=some (.int .i64 (p:Int)):=HM.out.a.cell 0;have z:∀j,wx.frozen? ⟨ab,j,none⟩=false:=HM.out.a.frozen;have G:wx.cell? ⟨sb,0,none⟩=some (.string ⟨s.toArray⟩):=HM.out.s.cell 0;have l:wx.cell? ⟨mb,9,none⟩=some (.int .i64 ((0:Nat):Int)):=HM.out.m.cell 9;have A:∀j,wx.frozen? ⟨mb,j,none⟩=false:=HM.out.m.frozen;go_upto_region 17 with fail;go_cut [63] (fun s63 o=>s63=.bool S/\o=wx)
 case first=>
  by_cases hlt:p<s.length
  .have B:(p:Int)<(s.length:Int):=by omega
   obtain⟨b,C⟩:∃b:Nat,(s[p]'hlt).toNat=b:=⟨_,rfl⟩
   have ai:(((⟨s.toArray⟩:ByteArray)[p]'(by simpa[ByteArray.size]using hlt)).toNat:Int)=(b:Int):=by rw[<-C];rfl
   by_cases h46:b=46
   .have y:(b:Int)=46:=by omega
    have N:((b:Int)==46)=true:=by simpa using y
    obtain rfl:S=true:=by rw[<-i.out,zbt hlt C];exact decide_eq_true h46
    clear C h46;go_wp2;go_meet;exact⟨rfl,rfl⟩
   .have y:¬(b:Int)=46:=by omega
    have N:((b:Int)==46)=false:=by simpa using y
    obtain rfl:S=false:=by rw[<-i.out,zbt hlt C];exact decide_eq_false h46
    clear C h46;go_wp2;go_meet;exact⟨rfl,rfl⟩
  .have B:¬(p:Int)<(s.length:Int):=by omega
   obtain rfl:S=false:=by rw[<-i.out,zg7 (by omega)]
   go_wp2;go_meet;exact⟨rfl,rfl⟩
 case rest=>
 obtain⟨rfl,rfl⟩:=hcut;go_upto_if 63 with fail;go_cut [] (fun o=>∃(nn' p':Nat),p'<=s.length/\Hid (RMem s w sb rb mb ab fb sh f nn' 0 p' o)/\Hid (T=finO s sh f nn' p'))
 case first=>
  cases S with
  |false=>
   go_wp2;go_meet;exact⟨0,p,hp,HM,hid (by rw[HT.out.1,zk8 i.out])⟩
  |true=>
   have hlt:p<s.length:=by
    rcases Nat.lt_or_ge p s.length with h|h
    .exact h
    .have:=i.out;rw[zg7 h]at this;cases this
   have H:=hid (HM.out.at_ (p+1));go_upto_block 0 with fail;clear K z G l A;go_cut [8] (fun s8 o=>∃k:Nat,k<=9/\p+1+k<=s.length/\s8=.int .i64 (k:Int)/\Hid (RMem s w sb rb mb ab fb sh f (Gr.val ((s.drop (p+1)).take k)) 0 (p+1+k) o/\((s.drop (p+1)).take k).all Gr.dig=true/\(k=9\/∀h2:p+1+k<s.length,Gr.dig (s[p+1+k]'h2)=false)))
   case first=>
    go_wp2_with fail;go_loopw [8] (fun s8 wr=>∃k:Nat,k<=9/\p+1+k<=s.length/\s8=.int .i64 (k:Int)/\Hid (RMem s w sb rb mb ab fb sh f (Gr.val ((s.drop (p+1)).take k)) 0 (p+1+k) wr/\((s.drop (p+1)).take k).all Gr.dig=true)) (fun s8 _=>9-(intOf s8).toNat)
    case atStart=>exact⟨0,by omega,by omega,rfl,hid ⟨by simpa[Gr.val]using H.out,by simp⟩⟩
    case round=>
     obtain⟨k,hk,F,rfl,e⟩:=hrel;obtain⟨P,q⟩:=ex (p+1+k)
     obtain⟨V,g⟩:=ex (Gr.val ((s.drop (p+1)).take k))
     have I:V<1000000000:=by rw[<-g];exact zk4 _ e.out.2 (by simp;omega)
     have J:=hid e.out.2;have c:Hid (RMem s w sb rb mb ab fb sh f V 0 P wr):=hid (by rw[<-q,<-g];exact e.out.1);have u:=hid (And.intro q g);have L:P<=s.length:=by omega
     clear e q g F;have K:wr.cell? ⟨ab,0,none⟩=some (.int .i64 (P:Int)):=c.out.a.cell 0;have z:∀j,wr.frozen? ⟨ab,j,none⟩=false:=c.out.a.frozen;have G:wr.cell? ⟨sb,0,none⟩=some (.string ⟨s.toArray⟩):=c.out.s.cell 0;have l:wr.cell? ⟨mb,9,none⟩=some (.int .i64 (V:Int)):=c.out.m.cell 9;have A:∀j,wr.frozen? ⟨mb,j,none⟩=false:=c.out.m.frozen;have d:Hid ((k=9\/∀h2:P<s.length,Gr.dig (s[P]'h2)=false)->∃k_1:Nat,k_1<=9/\p+1+k_1<=s.length/\Value.int .i64 (k:Int)=.int .i64 (k_1:Int)/\Hid (RMem s w sb rb mb ab fb sh f (Gr.val ((s.drop (p+1)).take k_1)) 0 (p+1+k_1) wr/\((s.drop (p+1)).take k_1).all Gr.dig=true/\(k_1=9\/∀h2:p+1+k_1<s.length,Gr.dig (s[p+1+k_1]'h2)=false))):=hid (fun hs=>by
      obtain⟨q,g⟩:=u.out;subst q;subst g;exact⟨k,hk,L,rfl,hid ⟨c.out,J.out,hs⟩⟩)
     by_cases hk9:k<9
     .have O:(k:Int)<9:=by omega
      by_cases hlP:P<s.length
      .have U:(P:Int)<(s.length:Int):=by omega
       obtain⟨b,C⟩:∃b:Nat,(s[P]'hlP).toNat=b:=⟨_,rfl⟩
       have ai:(((⟨s.toArray⟩:ByteArray)[P]'(by simpa[ByteArray.size]using hlP)).toNat:Int)=(b:Int):=by rw[<-C];rfl
       have hbl:b<256:=by rw[<-C];exact(s[P]'hlP).toNat_lt
       have E:=hid (zd0 (s[P]'hlP) b C);clear C;by_cases h48:48<=b
       .have al:(48:Int)<=(b:Int):=by omega
        by_cases h57:b<=57
        .have ac:(b:Int)<=57:=by omega
         have X:Hid (V*10+(b-48)=Gr.val ((s.drop (p+1)).take (k+1))/\((s.drop (p+1)).take (k+1)).all Gr.dig=true):=hid (by
          obtain⟨q,g⟩:=u.out;subst q;rw[zcl s (p+1) k hlP,List.all_append,J.out,zbl,g,E.out.2];exact⟨by omega,by simp[E.out.1,h48,h57]⟩)
         go_upto_region 21 with fail;clear K z G l A;have l:∀W:WB wr.heap.size wr,W.w.cell? ⟨mb,9,none⟩=some (.int .i64 (V:Int)):=fun W=>(c.out.up W.h).m.cell 9
         have K:∀W:WB wr.heap.size wr,W.w.cell? ⟨ab,0,none⟩=some (.int .i64 (P:Int)):=fun W=>(c.out.up W.h).a.cell 0
         have G:∀W:WB wr.heap.size wr,W.w.cell? ⟨sb,0,none⟩=some (.string ⟨s.toArray⟩):=fun W=>(c.out.up W.h).s.cell 0
         refine zbr 10 wr.heap.size wr (by kernel_rfl) (by kernel_rfl) (Below.refl _ _) ?_;simp only[List.take_succ_cons,List.take_zero,List.drop_succ_cons,List.drop_zero]
         iterate 10 (go_big_quiet_step (fail))
         refine wpQuiet_nil ?_;rintro _ ⟨wz,rfl⟩;have t:=hid (c.out.up wz.h);obtain⟨o,M⟩:=ex wz.w
         rw[M]at t ⊢;clear l K G M;have K:o.cell? ⟨ab,0,none⟩=some (.int .i64 (P:Int)):=t.out.a.cell 0;have z:∀j,o.frozen? ⟨ab,j,none⟩=false:=t.out.a.frozen;have G:o.cell? ⟨sb,0,none⟩=some (.string ⟨s.toArray⟩):=t.out.s.cell 0;have l:o.cell? ⟨mb,9,none⟩=some (.int .i64 (V:Int)):=t.out.m.cell 9;have A:∀j,o.frozen? ⟨mb,j,none⟩=false:=t.out.m.frozen;have qA2:∀v,(o.setCell ⟨mb,9,none⟩ v).cell? ⟨ab,0,none⟩=some (.int .i64 (P:Int)):=fun v=>(t.out.a.far (t.out.a.ne_ t.out.m (by decide)) v).cell 0
         have qF2:∀v j,(o.setCell ⟨mb,9,none⟩ v).frozen? ⟨ab,j,none⟩=false:=fun v j=>(t.out.a.far (t.out.a.ne_ t.out.m (by decide)) v).frozen j
         go_wp2;go_roundw
         case rel=>
          have Y:RMem s w sb rb mb ab fb sh f (Gr.val ((s.drop (p+1)).take (k+1))) 0 (p+1+(k+1)) ((o.setCell ⟨mb,9,none⟩ (.int .i64 (10*(V:Int)+((b:Int)-48)))).setCell ⟨ab,0,none⟩ (.int .i64 ((P:Int)+1))):=by
           rw[<-X.out.1,show p+1+(k+1)=P+1 from by have:=u.out.1;omega,show 10*(V:Int)+((b:Int)-48)=((V*10+(b-48):Nat):Int)from by omega,show(P:Int)+1=((P+1:Nat):Int)from by omega];exact(t.out.ns _).at_ _
          exact⟨k+1,by omega,by have:=u.out.1;omega,by go_num,hid ⟨Y,X.out.2⟩⟩
         case measure=>simp[intOf];omega
        .have ac:¬(b:Int)<=57:=by omega
         go_wp2;go_meet;exact d.out (.inr (fun _=>by rw[E.out.1];simp[h57]))
       .have al:¬(48:Int)<=(b:Int):=by omega
        go_wp2;go_meet;exact d.out (.inr (fun _=>by rw[E.out.1];simp[h48]))
      .have U:¬(P:Int)<(s.length:Int):=by omega
       go_wp2;go_meet;exact d.out (.inr (fun h=>absurd h hlP))
     .have O:¬(k:Int)<9:=by omega
      go_wp2;go_meet;exact d.out (.inl (by omega))
   case rest=>
   obtain⟨k,hk,F,rfl,e⟩:=hcut;obtain⟨P,q⟩:=ex (p+1+k)
   obtain⟨V,g⟩:=ex (Gr.val ((s.drop (p+1)).take k))
   have I:V<10 ^ k:=by
    have h:=ze1 _ e.out.2.1;rw[g]at h;rwa[show((s.drop (p+1)).take k).length=k from by simp;omega]at h
   have an:=hid I;have c:Hid (RMem s w sb rb mb ab fb sh f V 0 P wc):=hid (by rw[<-q,<-g];exact e.out.1);have J:=hid e.out.2;have u:=hid (And.intro q g);have L:P<=s.length:=by omega
   clear e q g F I;refine(‹∀(a:Act) (w_1:World),Code.wp prog _ _ a w_1->_›) _ _ ?_;by_cases h0:k=0
   .have D:(k:Int)=0:=by omega
    have aa:((k:Int)==0)=true:=by simpa using D
    have R:Hid (T=none):=hid (by
     rw[HT.out.1,zmt i.out (by omega)];rcases J.out.2 with h|h
     .omega
     .subst h0;exact h)
    clear h0 HT H J;obtain⟨m0,m1,m2,m3,m4,m5,m6,m7,m8,m9,m10⟩:=zag c.out.m;obtain⟨x0,x1,x2,x3,x4,x5,x6,x7,x8,x9,x10⟩:=zag c.out.r;have xf:∀j,wc.frozen? ⟨rb,j,none⟩=false:=c.out.r.frozen;go_wp2_with fail;have af:Blk (((((((((((wc.setCell ⟨rb,0,none⟩ (.int .i64 (sh:Int))).setCell ⟨rb,1,none⟩ (.int .i64 (f 0:Int))).setCell ⟨rb,2,none⟩ (.int .i64 (f 1:Int))).setCell ⟨rb,3,none⟩ (.int .i64 (f 2:Int))).setCell ⟨rb,4,none⟩ (.int .i64 (f 3:Int))).setCell ⟨rb,5,none⟩ (.int .i64 (f 4:Int))).setCell ⟨rb,6,none⟩ (.int .i64 (f 5:Int))).setCell ⟨rb,7,none⟩ (.int .i64 (f 6:Int))).setCell ⟨rb,8,none⟩ (.int .i64 (f 7:Int))).setCell ⟨rb,9,none⟩ (.int .i64 (V:Int))).setCell ⟨rb,10,none⟩ (.int .u8 ((0:Nat):Int))) rb 96 (mC sh f V (0:Nat)):=zbb c.out.r;obtain⟨e0,e1,e2,e3,e4,e5,e6,e7,e8,e9,e10⟩:=zag af;have ak:Below w.heap.size w (((((((((((wc.setCell ⟨rb,0,none⟩ (.int .i64 (sh:Int))).setCell ⟨rb,1,none⟩ (.int .i64 (f 0:Int))).setCell ⟨rb,2,none⟩ (.int .i64 (f 1:Int))).setCell ⟨rb,3,none⟩ (.int .i64 (f 2:Int))).setCell ⟨rb,4,none⟩ (.int .i64 (f 3:Int))).setCell ⟨rb,5,none⟩ (.int .i64 (f 4:Int))).setCell ⟨rb,6,none⟩ (.int .i64 (f 5:Int))).setCell ⟨rb,7,none⟩ (.int .i64 (f 6:Int))).setCell ⟨rb,8,none⟩ (.int .i64 (f 7:Int))).setCell ⟨rb,9,none⟩ (.int .i64 (V:Int))).setCell ⟨rb,10,none⟩ (.int .u8 ((0:Nat):Int))):=zco c.out.b c.out.n;refine bodyPost_ret (v:=.tuple #[.agg #[.int .i64 (sh:Int),.int .i64 (f 0:Int),.int .i64 (f 1:Int),.int .i64 (f 2:Int),.int .i64 (f 3:Int),.int .i64 (f 4:Int),.int .i64 (f 5:Int),.int .i64 (f 6:Int),.int .i64 (f 7:Int),.int .i64 (V:Int),.int .u8 ((0:Nat):Int)],.bool false]) (by rw[results_cell_tmp rfl];go_simp) rfl ?_;have aj:T=none:=R.out;unfold RPost;rw[aj];exact⟨ak,sh,f,V,(0:Nat),rfl,fun x Y=>by cases Y⟩
   .have D:¬(k:Int)=0:=by omega
    have aa:((k:Int)==0)=false:=by simpa using D
    have ad:Hid (T=finO s sh f (V*10 ^ (9-k)) P):=hid (by
     obtain⟨q,g⟩:=u.out;rw[HT.out.1,zms i.out (by omega) J.out.1 (by omega) hk J.out.2,g,q])
    clear h0 H;go_wp2_with fail;clear D aa;go_loopw [8] (fun s8 wr=>∃j:Nat,k<=j/\j<=9/\s8=.int .i64 (j:Int)/\Hid (RMem s w sb rb mb ab fb sh f (V*10 ^ (j-k)) 0 P wr)) (fun s8 _=>9-(intOf s8).toNat)
    case atStart=>exact⟨k,by omega,hk,rfl,by simpa using c⟩
    case round=>
     obtain⟨j,hkj,am,rfl,e⟩:=hrel;obtain⟨Q,hQ⟩:=ex (V*10 ^ (j-k))
     have hQ9:Q<=999999999:=by
      have h1:Q<10 ^ j:=by
       rw[<-hQ]
       calc V*10 ^ (j-k)<10 ^ k*10 ^ (j-k):=Nat.mul_lt_mul_of_pos_right an.out (Nat.pow_pos (by omega))
        _=10 ^ j:=by rw[<-Nat.pow_add];congr 1;omega
      have h2:(10:Nat) ^ j<=10 ^ 9:=Nat.pow_le_pow_right (by omega) am;omega
     rw[hQ]at e;have HQ:=hid hQ;clear hQ;have K:wr.cell? ⟨ab,0,none⟩=some (.int .i64 (P:Int)):=e.out.a.cell 0;have z:∀j,wr.frozen? ⟨ab,j,none⟩=false:=e.out.a.frozen;have G:wr.cell? ⟨sb,0,none⟩=some (.string ⟨s.toArray⟩):=e.out.s.cell 0;have l:wr.cell? ⟨mb,9,none⟩=some (.int .i64 (Q:Int)):=e.out.m.cell 9;have A:∀j,wr.frozen? ⟨mb,j,none⟩=false:=e.out.m.frozen;by_cases hlt9:j<9
     .have B:(j:Int)<9:=by omega
      go_wp2;go_roundw
      case rel=>
       have Y:RMem s w sb rb mb ab fb sh f (V*10 ^ (j+1-k)) 0 P (wr.setCell ⟨mb,9,none⟩ (.int .i64 ((Q:Int)*10))):=by
        rw[show j+1-k=(j-k)+1 from by omega,Nat.pow_succ,<-Nat.mul_assoc,HQ.out,show(Q:Int)*10=((Q*10:Nat):Int)from by omega];exact e.out.ns _
       exact⟨j+1,by omega,by omega,by go_num,hid Y⟩
      case measure=>simp[intOf];omega
     .have B:¬(j:Int)<9:=by omega
      obtain rfl:j=9:=by omega
      go_wp2;go_meet;exact⟨Q,P,L,e,by rw[<-HQ.out];exact ad⟩
 case rest=>
 obtain⟨nn',p',ae,ah,ag⟩:=hcut;refine(‹∀(a:Act) (w_1:World),Code.wp prog _ _ a w_1->_›) _ _ ?_;exact zv6 s hl w _ sb rb mb ab fb sh f nn' p' T ah ae hsh (hid ⟨ag.out,HT.out.2⟩)
theorem zp6 {s:Gr.Str} {sh:Nat} {f:Nat->Nat} {p h m c:Nat} (k:ClkIs s p h m c):(clockAt s p=none/\pointO s sh f (p+8)=none)\/∃x:Gr.Ck,clockAt s p=some x/\x.h=h/\x.m=m/\x.s=c/\pointO s sh f (p+8)=finO s sh f x.nanos x.stop:=by
 cases hd:isAt s (p+8) 46 with
 |false=>exact .inr ⟨_,zp3 k hd,rfl,rfl,rfl,zk8 hd⟩
 |true=>
  rw[zv5 k hd];unfold pointO;rw[if_pos hd,show p+8+1=p+9 from rfl];by_cases hc:((s.drop (p+9)).takeWhile Gr.dig).length=0\/9<((s.drop (p+9)).takeWhile Gr.dig).length
  .rw[if_pos hc,if_pos hc];exact .inl ⟨rfl,rfl⟩
  .rw[if_neg hc,if_neg hc];exact .inr ⟨_,rfl,rfl,rfl,rfl,rfl⟩
theorem RMem.sh_ {s:Gr.Str} {w:World} {sb rb mb ab fb sh:Nat} {f:Nat->Nat} {nn z p:Nat} {wx:World} (h:RMem s w sb rb mb ab fb sh f nn z p wx) (q:Nat):RMem s w sb rb mb ab fb q f nn z p (wx.setCell ⟨mb,0,none⟩ (.int .i64 (q:Int))):=
 have c:KM mb ab wx (wx.setCell ⟨mb,0,none⟩ (.int .i64 (q:Int))):=KM.ofM (Kept1.set _ _)
 ⟨h.b.trans (c.below h.b.size h.nm h.na),h.n,h.nm,h.na,h.mr,c.blk h.s (h.s.ne_ h.m (by decide)) (h.s.ne_ h.a (by decide)),c.blk h.r h.mr.symm (h.r.ne_ h.a (by decide)),h.m.set_ 0 _,h.a.far (h.a.ne_ h.m (by decide)) _,c.blk h.f (h.f.ne_ h.m (by decide)) (h.f.ne_ h.a (by decide))⟩
structure ClockT (s:Gr.Str) (sh:Nat) (f:Nat->Nat) (p:Nat) (T:Option (Array Value)):Prop where
 no:clockAt s p=none->T=none
 yes:∀(k:Gr.Ck) (f':Nat->Nat),clockAt s p=some k->f' 3=k.h->f' 4=k.m->f' 5=k.s->(∀j,j<3\/6<=j->f' j=f j)->T=finO s (sh+2) f' k.nanos k.stop
theorem ztb (s:Gr.Str) (hl:s.length<=1073741823) (w wx:World) (sb rb mb ab fb sh:Nat) (f:Nat->Nat) (p:Nat) (T:Option (Array Value)) (HM:Hid (RMem s w sb rb mb ab fb sh f 0 0 p wx)) (hp:p<=s.length) (hsh:sh<=1) (HT:Hid (ClockT s sh f p T/\f 6=0/\f 7=0)) {u3 u8 u9 u10 u11 u12 u13 u14 u15 u16 u17 u18 u19 u20 u21 u22 u23 u24 u25 u26 u27 u28 u29 u30 u31 u32 u33 u34 u35 u36 u37 u38 u39 u40 u41 u42 u43 u44 u45 u46 u47 u48 u49 u50 u51 u52 u53 u54 u55 u56 u57 u58 u59 u60 u61 u62 u63 u64 u65 u66 u67 u68 u69 u70 u71 u72 u73 u74 u75 u76 u77 u78 u79 u80 u81 u82 u83 u84 u85 u86 u87 u88 u89 u90 u91 u92 u93 u94 u95 u96 u97 u98 u99 u100 u101 u102 u103 u104 u105 u106 u107 u108 u109 u110 u111 u112 u113 u114 u115 u116 u117 u118 u119 u120 u121 u122 u123 u124 u125 u126 u127 u128 u129 u130 u131 u132 u133 u134 u135 u136 u137 u138 u139 u140 u141 u142 u143 u144 u145 u146 u147 u148 u149 u150 u151 u152 u153 u154:Value}:
 Code.wp prog (tl 6 (f58.body.getD .skip)) (bodyPost prog f58 (RPost T w)) {tmps:=List.toArray (.string ⟨s.toArray⟩::.pointer (some ⟨sb,0,none⟩)::.pointer (some ⟨rb,0,none⟩)::u3::.pointer (some ⟨mb,0,none⟩)::.pointer (some ⟨ab,0,none⟩)::.pointer (some ⟨fb,0,none⟩)::.func (.func 90) #[] #[.pointer (some ⟨ab,0,none⟩),.pointer (some ⟨sb,0,none⟩),.pointer (some ⟨fb,0,none⟩)]::u8::u9::u10::u11::u12::u13::u14::u15::u16::u17::u18::u19::u20::u21::u22::u23::u24::u25::u26::u27::u28::u29::u30::u31::u32::u33::u34::u35::u36::u37::u38::u39::u40::u41::u42::u43::u44::u45::u46::u47::u48::u49::u50::u51::u52::u53::u54::u55::u56::u57::u58::u59::u60::u61::u62::u63::u64::u65::u66::u67::u68::u69::u70::u71::u72::u73::u74::u75::u76::u77::u78::u79::u80::u81::u82::u83::u84::u85::u86::u87::u88::u89::u90::u91::u92::u93::u94::u95::u96::u97::u98::u99::u100::u101::u102::u103::u104::u105::u106::u107::u108::u109::u110::u111::u112::u113::u114::u115::u116::u117::u118::u119::u120::u121::u122::u123::u124::u125::u126::u127::u128::u129::u130::u131::u132::u133::u134::u135::u136::u137::u138::u139::u140::u141::u142::u143::u144::u145::u146::u147::u148::u149::u150::u151::u152::u153::u154::[]),defers:=[]} wx:=by
 generalize hc0:tl 6 (f58.body.getD .skip)=c0;simp only[tl,f58,Option.getD_some]at hc0;subst hc0;have y:=hid (zd1 s hl ab sb fb mb p 2 58 3 3 5 sh f 0 0 2 58 rfl rfl (by omega) (by omega) (by omega) (by omega) (by omega) (by omega) 4 rfl hp wx HM.out.a HM.out.s HM.out.f HM.out.m);go_upto_region 14 with fail;go_cut [48] (fun s48 q=>∃(f':Nat->Nat) (p':Nat),p'<=s.length/\Hid (RMem s w sb rb mb ab fb sh f' 0 0 p' q)/\(s48=.bool true/\Hid (T=none)\/s48=.bool false/\Hid (T=pointO s (sh+2) f' p'/\f' 6=0/\f' 7=0)))
 case first=>
  go_wp2_with fail;refine y.out.mono ?_;rintro e L ⟨B,f',i,⟨rfl,u,h,g,K⟩|⟨rfl,hno,p4,hp4,g⟩⟩
  .have k:Hid (RMem s w sb rb mb ab fb sh f' 0 0 (posAt p 2 3) L):=hid (HM.out.fld B i g);have F:Hid (T=pointO s (sh+2) f' (posAt p 2 3)/\f' 6=0/\f' 7=0):=hid (by
    have Q:f' 6=0:=(h 6 (by omega)).trans HT.out.2.1;have P:f' 7=0:=(h 7 (by omega)).trans HT.out.2.2;refine⟨?_,Q,P⟩;rw[show posAt p 2 3=p+8 from by simp[posAt]];rcases zp6 (sh:=sh+2) (f:=f') (zv4 u)with⟨D,C⟩|⟨x,D,C,O,N,M⟩
    .rw[C];exact HT.out.1.no D
    .rw[M];exact HT.out.1.yes x f' D C.symm O.symm N.symm (fun j hj=>h j (by omega)))
   clear B i g u h;go_wp2;go_meet;exact⟨f',_,K,k,.inr ⟨rfl,F⟩⟩
  .have k:Hid (RMem s w sb rb mb ab fb sh f' 0 0 p4 L):=hid (HM.out.fld B i g);have d:Hid (T=none):=hid (HT.out.1.no (zx9 hno));clear B i g hno;go_wp2;go_meet;exact⟨f',_,hp4,k,.inl ⟨rfl,d⟩⟩
 case rest=>
 obtain⟨f',p',E,c,t⟩:=hcut;obtain⟨l,A⟩:=ex wc
 rw[A]at c ⊢;clear HM HT y A;go_upto_if 48 with fail;go_cut [] (fun q=>q=l/\Hid (T=pointO s (sh+2) f' p'/\f' 6=0/\f' 7=0))
 case first=>
  rcases t with⟨rfl,d⟩|⟨rfl,o⟩
  .skip
   obtain⟨m0,m1,m2,m3,m4,m5,m6,m7,m8,m9,m10⟩:=zag c.out.m;obtain⟨x0,x1,x2,x3,x4,x5,x6,x7,x8,x9,x10⟩:=zag c.out.r;have xf:∀j,l.frozen? ⟨rb,j,none⟩=false:=c.out.r.frozen;go_wp2_with fail;have G:Blk (((((((((((l.setCell ⟨rb,0,none⟩ (.int .i64 (sh:Int))).setCell ⟨rb,1,none⟩ (.int .i64 (f' 0:Int))).setCell ⟨rb,2,none⟩ (.int .i64 (f' 1:Int))).setCell ⟨rb,3,none⟩ (.int .i64 (f' 2:Int))).setCell ⟨rb,4,none⟩ (.int .i64 (f' 3:Int))).setCell ⟨rb,5,none⟩ (.int .i64 (f' 4:Int))).setCell ⟨rb,6,none⟩ (.int .i64 (f' 5:Int))).setCell ⟨rb,7,none⟩ (.int .i64 (f' 6:Int))).setCell ⟨rb,8,none⟩ (.int .i64 (f' 7:Int))).setCell ⟨rb,9,none⟩ (.int .i64 ((0:Nat):Int))).setCell ⟨rb,10,none⟩ (.int .u8 ((0:Nat):Int))) rb 96 (mC sh f' 0 (0:Nat)):=zbb c.out.r;obtain⟨e0,D,C,O,N,M,e6,e7,e8,e9,e10⟩:=zag G;have J:Below w.heap.size w (((((((((((l.setCell ⟨rb,0,none⟩ (.int .i64 (sh:Int))).setCell ⟨rb,1,none⟩ (.int .i64 (f' 0:Int))).setCell ⟨rb,2,none⟩ (.int .i64 (f' 1:Int))).setCell ⟨rb,3,none⟩ (.int .i64 (f' 2:Int))).setCell ⟨rb,4,none⟩ (.int .i64 (f' 3:Int))).setCell ⟨rb,5,none⟩ (.int .i64 (f' 4:Int))).setCell ⟨rb,6,none⟩ (.int .i64 (f' 5:Int))).setCell ⟨rb,7,none⟩ (.int .i64 (f' 6:Int))).setCell ⟨rb,8,none⟩ (.int .i64 (f' 7:Int))).setCell ⟨rb,9,none⟩ (.int .i64 ((0:Nat):Int))).setCell ⟨rb,10,none⟩ (.int .u8 ((0:Nat):Int))):=zco c.out.b c.out.n;refine bodyPost_ret (v:=.tuple #[.agg #[.int .i64 (sh:Int),.int .i64 (f' 0:Int),.int .i64 (f' 1:Int),.int .i64 (f' 2:Int),.int .i64 (f' 3:Int),.int .i64 (f' 4:Int),.int .i64 (f' 5:Int),.int .i64 (f' 6:Int),.int .i64 (f' 7:Int),.int .i64 ((0:Nat):Int),.int .u8 ((0:Nat):Int)],.bool false]) (by rw[results_cell_tmp rfl];go_simp) rfl ?_;have I:T=none:=d.out;unfold RPost;rw[I];exact⟨J,sh,f',0,(0:Nat),rfl,fun x S=>by cases S⟩
  .go_wp2;go_meet;exact⟨rfl,o⟩
 case rest=>
 obtain⟨z,o⟩:=hcut;rw[z];clear t z;refine(‹∀(a:Act) (w_1:World),Code.wp prog _ _ a w_1->_›) _ _ ?_;have qM0:l.cell? ⟨mb,0,none⟩=some (.int .i64 (sh:Int)):=c.out.m.cell 0;have qMF:∀j,l.frozen? ⟨mb,j,none⟩=false:=c.out.m.frozen;go_upto_region 16 with fail;have H:Hid (∀v:Value,v=.int .i64 ((sh:Int)+2)->RMem s w sb rb mb ab fb (sh+2) f' 0 0 p' (World.setCell l ⟨mb,0,none⟩ v)):=hid (fun v R=>by
  rw[R,show(sh:Int)+2=((sh+2:Nat):Int)from by omega];exact c.out.sh_ _)
 go_cut [] (fun q=>Hid (RMem s w sb rb mb ab fb (sh+2) f' 0 0 p' q))
 case first=>
  go_wp2;go_meet;exact hid (H.out _ rfl)
 case rest=>
 refine(‹∀(a:Act) (w_1:World),Code.wp prog _ _ a w_1->_›) _ _ ?_;exact zta s hl w _ sb rb mb ab fb (sh+2) f' p' T hcut E (by omega) o
def moF (x:Gr.Mo):Nat->Nat:=fun j=>match j with
 | 0=>x.y
 | 1=>x.m
 | 2=>x.d
 | 3=>x.h
 | 4=>x.mi
 | 5=>x.c
 | 6=>x.zh
 |_=>x.zm
def moSh (x:Gr.Mo):Nat:=(if x.date=true then 1 else 0)+(if x.time=true then 2 else 0)
def moC (x:Gr.Mo):Array Value:=mC (moSh x) (moF x) x.nanos x.z.toNat
def rdT (s:Gr.Str):Option (Array Value):=(Gr.rd s).map moC
theorem zg9 {sh nn z:Nat} {f g:Nat->Nat} (h:∀j,j<8->f j=g j):mC sh f nn z=mC sh g nn z:=by
 simp[mC,h 0 (by omega),h 1 (by omega),h 2 (by omega),h 3 (by omega),h 4 (by omega),h 5 (by omega),h 6 (by omega),h 7 (by omega)]
theorem lt8 {P:Nat->Prop} (h:P 0/\P 1/\P 2/\P 3/\P 4/\P 5/\P 6/\P 7):∀j,j<8->P j:=by
 grind
theorem zir {s:Gr.Str} (h:∀h2:2<s.length,(s[2]'h2).toNat=58):dateAt s=none:=by
 unfold dateAt;have:numAt s 0 4=none:=by
  rcases Nat.lt_or_ge s.length 4 with hl|hl
  .exact zdb s 0 4 (by omega)
  .exact zdo s 0 4 2 (by omega) (by omega) (by rw[(zd0 _ 58 (h (by omega))).1];decide)
 rw[this]
theorem zha {s:Gr.Str} (hl:2<s.length) (h:(s[2]'hl).toNat≠58):clockAt s 0=none:=by
 unfold clockAt;split
 .rw[if_neg];rw[zbt (p:=0+2) hl rfl];simp;intro e;exact absurd e h
 .rfl
theorem zv8 {s:Gr.Str} (hd:dateAt s=none):ClockT s 0 (fun _=>0) 0 (rdT s) where
 no h:=by unfold rdT Gr.rd;rw[hd];simp only;rw[h];rfl
 yes k f' h h3 h4 h5 hf:=by
  unfold rdT Gr.rd finO;rw[hd];simp only;rw[h];simp only;by_cases hs:k.stop=s.length
  .rw[if_pos hs,if_pos hs];show some _=some _
   congr 1
   exact zg9 (lt8 ⟨(hf 0 (by omega)).symm,(hf 1 (by omega)).symm,(hf 2 (by omega)).symm,h3.symm,h4.symm,h5.symm,(hf 6 (by omega)).symm,(hf 7 (by omega)).symm⟩)
  .grind
theorem zv9 {s:Gr.Str} {g:Nat->Nat} (hd:dateAt s=some (g 0,g 1,g 2)) (h10:s.length≠10) (hsep:(isAt s 10 84 || isAt s 10 32)=true) (h6:g 6=0) (h7:g 7=0):ClockT s 1 g 11 (rdT s) where
 no h:=by unfold rdT Gr.rd;rw[hd];simp only;rw[if_neg h10,if_pos hsep,h];rfl
 yes k f' h h3 h4 h5 hf:=by
  unfold rdT Gr.rd finO;rw[hd];simp only;rw[if_neg h10,if_pos hsep,h];simp only;have hle:=zla (kh:=k.h) (km:=k.m) (kc:=k.s) (kf:=k.nanos) (ks:=k.stop) h;by_cases hs:k.stop=s.length
  .rw[if_pos hs,if_pos hs];show some _=some _
   congr 1
   exact zg9 (lt8 ⟨(hf 0 (by omega)).symm,(hf 1 (by omega)).symm,(hf 2 (by omega)).symm,h3.symm,h4.symm,h5.symm,((hf 6 (by omega)).trans h6).symm,((hf 7 (by omega)).trans h7).symm⟩)
  .rw[if_neg hs,if_neg hs,if_pos ⟨by trivial,by omega⟩];cases hz:zoneAt s k.stop with
   |none=>rfl
   |some z=>
    simp only;by_cases hzs:z.stop=s.length
    .rw[if_pos hzs,if_pos hzs];show some _=some _
     congr 1
     exact zg9 (lt8 ⟨(hf 0 (by omega)).symm,(hf 1 (by omega)).symm,(hf 2 (by omega)).symm,h3.symm,h4.symm,h5.symm,rfl,rfl⟩)
    .rw[if_neg hzs,if_neg hzs];rfl
end Go.Proofs.YtpgmfihonmoliaaGreatDoor
