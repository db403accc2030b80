import Derived.Test.YtpgmfihonmoliaaGreatDoorZ07
namespace Go.Proofs.YtpgmfihonmoliaaGreatDoor
open Gr
open _root_.Go.Proofs.Tryz
open _root_.Go.Lib (hid)
set_option maxRecDepth 100000
set_option maxHeartbeats 16000000
open Go.RowKit
theorem zso (m:Nat) (hm:m<18446744073709551616) (i:Int) (hi:i=(m:Int)) (w:World):Calls prog 98 #[.int .u64 i] w fun e w'=>e=.returned (.int .i64 (Lib.bitLen m))/\w=w':=by
 subst hi;obtain⟨B,a⟩:=ex (Lib.bitLen m)
 have d:=hid a;have hb64:B<=64:=by rw[<-a];exact Lib.bitLen_le m 64 (by omega) (by omega)
 rw[a];clear a;go_enter func98,ntmps98;go_wp2_with fail;go_loop [0,3] (fun s0 s3=>∃x n:Nat,x<18446744073709551616/\n<=B/\s0=.int .u64 (x:Int)/\s3=.int .i64 (n:Int)/\Hid (B=n+Lib.bitLen x)) (fun s0 _=>(intOf s0).toNat)
 case atStart=>exact⟨m,0,hm,by omega,rfl,rfl,hid (by rw[<-d.out];omega)⟩
 case round=>
  obtain⟨x,n,hx,hn,rfl,rfl,b⟩:=hrel;by_cases h0:0<x
  .have h0I:(0:Int)<(x:Int):=by omega
   have c:Hid (B=(n+1)+Lib.bitLen (x /2)/\n+1<=B):=hid (by
    have f:=b.out;rw[Lib.bitLen_half x (by omega) (by omega)]at f;omega)
   go_wp2;go_round
   case rel=>exact⟨x /2,n+1,by omega,c.out.2,by go_num,by go_num,hid c.out.1⟩
   case measure=>simp[intOf];omega
  .obtain rfl:x=0:=by omega
   have g:Hid (B=n):=hid (by have:=b.out;rw[this];rfl);go_wp2;go_ret;rw[g.out];exact⟨rfl,rfl⟩
def nodash (l:Gr.Str):Gr.Str:=l.filter (fun c=>c != 45)
theorem zf1 (l:Gr.Str) (h:l.all Gr.dig=true):nodash l=l:=by
 unfold nodash;rw[List.filter_eq_self];intro c a;have:=List.all_eq_true.1 h c a;cases hh:(c != 45)with
 |true=>rfl
 |false=>
  have e:c=45:=by simpa using hh
  subst e;simp[Gr.dig]at this
theorem zf2 {s:Gr.Str} (h:intB s=true):nodash s=intS s/\(intS s).all Gr.dig=true/\(∀c∈s,c=45\/Gr.dig c=true)/\0<s.length:=by
 unfold intB at h;split at h
 .cases h
 .rename_i hn;have a:0<s.length:=by
   rcases Nat.eq_zero_or_pos s.length with h0|h0
   .exact absurd (.inl (by unfold intS;rw[if_neg (by omega)];exact h0)) hn
   .exact h0
  refine⟨?_,h,?_,a⟩
  .unfold intS at h ⊢;split
   .rename_i hc;rw[if_pos hc]at h;cases s with
    |nil=>simp at hc
    |cons c r=>
     simp at hc;obtain⟨_,rfl⟩:=hc;show nodash (45::r)=r;have:nodash (45::r)=nodash r:=by unfold nodash;rw[List.filter_cons_of_neg (by decide)]
     rw[this];exact zf1 r h
   .rename_i hc;rw[if_neg hc]at h;exact zf1 s h
  .intro c hc;unfold intS at h;split at h
   .rename_i h1;cases s with
    |nil=>cases hc
    |cons d r=>
     simp at h1;rcases List.mem_cons.1 hc with rfl|hc
     .exact .inl h1.2
     .exact .inr (List.all_eq_true.1 h c hc)
   .exact .inr (List.all_eq_true.1 h c hc)
def NPost (o:Option Int) (w:World) (e:Ending) (w':World):Prop:=e=.returned (.tuple #[.int .i64 (o.getD 0),.bool o.isSome])/\w=w'
theorem zuh (l:Gr.Str) (h:l.all Gr.dig=true) (hl:l.length<=18):Gr.val l<1000000000000000000:=Nat.lt_of_lt_of_le (ze1 l h) (Nat.pow_le_pow_right (n:=10) (by omega) hl)
theorem zjn (s:Gr.Str) (hs:∀c∈s,c=45\/Gr.dig c=true) (k:Nat):(nodash (s.take k)).all Gr.dig=true/\(nodash (s.take k)).length<=k:=by
 constructor
 .rw[List.all_eq_true];intro c d;obtain⟨b,a⟩:=List.mem_filter.1 d;rcases hs c (List.mem_of_mem_take b)with rfl|h
  .cases a
  .exact h
 .exact Nat.le_trans (List.length_filter_le _ _) (by simp;omega)
theorem zjo (s:Gr.Str) (k:Nat) (h:k<s.length):nodash (s.take (k+1))=nodash (s.take k)++(if s[k]=45 then[]else[s[k]]):=by
 unfold nodash;rw[List.take_succ_eq_append_getElem h,List.filter_append]
 congr 1
 by_cases e:s[k]=45
 .rw[if_pos e,e];rfl
 .rw[if_neg e];simp[e]
theorem zkw (s:Gr.Str) (hl:s.length<=1073741823) (w:World):Calls prog 97 #[.string ⟨s.toArray⟩] w (NPost (numb s) w):=by
 have p:=hid (fun W=>zf0 s hl W);obtain⟨r,z⟩:=ex (numb s)
 have f:Hid ((if intB s=true/\s.length<=18 then some (if s.head?=some 45 then -(Gr.val (intS s):Int)else(Gr.val (intS s):Int))else none)=r):=hid z;rw[z];clear z;cases hi:intB s with
 |false=>
  rw[hi]at p;have c:Hid (r=none):=hid (by rw[<-f.out,if_neg (by rw[hi];simp)]);clear hi f;go_enter func97,ntmps97;go_wp2_with fail;refine(p.out _).mono ?_;rintro _ A ⟨rfl,rfl⟩;go_wp2;go_ret2;rw[c.out];exact⟨rfl,rfl⟩
 |true=>
  rw[hi]at p;by_cases h18:s.length<=18
  .have l:¬(18:Int)<(s.length:Int):=by omega
   obtain⟨H,J,B,a⟩:=zf2 hi;have o:Hid ((some (if s.head?=some 45 then -(Gr.val (nodash s):Int)else(Gr.val (nodash s):Int)))=r):=hid (by
    have h:=f.out;rw[if_pos ⟨hi,h18⟩]at h;rw[H];exact h)
   have F:=hid B;have h0I:(0:Int)<(s.length:Int):=by omega
   clear hi f H J B;go_enter func97,ntmps97;go_wp2_with fail;refine(p.out _).mono ?_;rintro _ A ⟨rfl,rfl⟩;go_wp2_with fail;go_loop [4,5] (fun s4 s5=>∃k v:Nat,k<=s.length/\v<1000000000000000000/\s4=.int .i64 (v:Int)/\s5=.int .i64 (k:Int)/\Hid (v=Gr.val (nodash (s.take k)))) (fun _ s5=>s.length-(intOf s5).toNat)
   case atStart=>exact⟨0,0,by omega,by omega,rfl,rfl,hid rfl⟩
   case round=>
    obtain⟨k,v,hk,I,rfl,rfl,y⟩:=hrel;by_cases hlt:k<s.length
    .have hltI:(k:Int)<(s.length:Int):=by omega
     have G:=hid (zjo s k hlt);have K:=hid (F.out s[k] (List.getElem_mem hlt));have C:=hid (zjn s F.out (k+1));by_cases h45:s[k]=45
     .have E:=zax s k hlt _ 45 45 rfl rfl h45;have D:=zar s k hlt _ 45 45 rfl rfl h45;have L:=hid h45;clear h45;go_wp2;go_round
      case rel=>exact⟨k+1,v,by omega,I,rfl,by go_num,hid (by rw[G.out,if_pos L.out,List.append_nil];exact y.out)⟩
      case measure=>simp[intOf];omega
     .have N:=zap s k hlt _ 45 45 rfl rfl h45;have M:=zas s k hlt _ 45 45 rfl rfl h45;have j:Gr.dig s[k]=true:=K.out.resolve_left h45;obtain⟨b,t⟩:∃b:Nat,(s[k]'hlt).toNat=b:=⟨_,rfl⟩
      have u:(((⟨s.toArray⟩:ByteArray)[k]'(by simpa[ByteArray.size]using hlt)).toNat:Int)=(b:Int):=by rw[<-t];rfl
      have d:=zkv (s[k]'hlt) b t;rw[j]at d;have i:48<=b/\b<=57:=by have:=d.symm;simpa using this
      have n:Gr.dv s[k]=b-48:=by unfold Gr.dv;rw[t]
      have g:Hid (10*v+(b-48)=Gr.val (nodash (s.take (k+1)))):=hid (by
       rw[G.out,if_neg h45,zbl,<-y.out,n])
      have x:10*v+(b-48)<1000000000000000000:=by
       rw[g.out];exact zuh _ C.out.1 (by have:=C.out.2;omega)
      rw[u]at N M;obtain⟨hb1,hb2⟩:=i;clear d j t n h45;go_wp2;go_round
      case rel=>exact⟨k+1,10*v+(b-48),by omega,x,by exact congrArg (Value.int .i64) (by omega),by go_num,hid g.out⟩
      case measure=>simp[intOf];omega
    .obtain rfl:k=s.length:=by omega
     have m:Hid (v=Gr.val (nodash s)):=hid (by have:=y.out;rwa[List.take_length]at this);have q:s.head?=some (s[0]'a):=by rw[List.head?_eq_getElem?,List.getElem?_eq_getElem a]
     by_cases h45:s[0]'a=45
     .have E:=zax s 0 a _ 45 45 rfl rfl h45;have D:=zar s 0 a _ 45 45 rfl rfl h45;have c:Hid (r=some (-(v:Int))):=hid (by rw[<-o.out,q,h45,if_pos rfl,m.out]);clear h45 q;go_wp2;go_ret2;rw[c.out];exact⟨rfl,rfl⟩
     .have E:=zap s 0 a _ 45 45 rfl rfl h45;have D:=zas s 0 a _ 45 45 rfl rfl h45;have c:Hid (r=some (v:Int)):=hid (by rw[<-o.out,q,if_neg (by intro e;injection e with e;exact h45 e),m.out]);clear h45 q;go_wp2;go_ret2;rw[c.out];exact⟨rfl,rfl⟩
  .have l:(18:Int)<(s.length:Int):=by omega
   have c:Hid (r=none):=hid (by rw[<-f.out,if_neg (by rintro⟨_,h⟩;exact h18 h)]);clear hi f;go_enter func97,ntmps97;go_wp2_with fail;refine(p.out _).mono ?_;rintro _ A ⟨rfl,rfl⟩;go_wp2;go_ret2;rw[c.out];exact⟨rfl,rfl⟩
theorem zvo {w:World} {g:Nat} {t:TypeId} {c0 c1 c2 c3 v0 v1 v2 v3:Value} (h:Blk w g t #[c0,c1,c2,c3]):Blk ((((w.setCell ⟨g,0,none⟩ v0).setCell ⟨g,1,none⟩ v1).setCell ⟨g,2,none⟩ v2).setCell ⟨g,3,none⟩ v3) g t #[v0,v1,v2,v3]:=by
 have a:=((((h.set_ 0 v0).set_ 1 v1).set_ 2 v2).set_ 3 v3)
 simp only[List.setIfInBounds_toArray,List.set_cons_zero,List.set_cons_succ]at a;exact a
theorem below4 {w0 w:World} {g B:Nat} (h:Below B w0 w) (hB:B<=g) (v0 v1 v2 v3:Value):Below B w0 ((((w.setCell ⟨g,0,none⟩ v0).setCell ⟨g,1,none⟩ v1).setCell ⟨g,2,none⟩ v2).setCell ⟨g,3,none⟩ v3):=
 (((h.setCell (p:=⟨g,0,none⟩) hB _).setCell (p:=⟨g,1,none⟩) hB _).setCell (p:=⟨g,2,none⟩) hB _).setCell (p:=⟨g,3,none⟩) hB _
theorem of4 {w0 w:World} {g B:Nat} {t:TypeId} {c0 c1 c2 c3:Value} (h:Blk w g t #[c0,c1,c2,c3]) (hb:Below B w0 w) (hB:B<=g) (v0 v1 v2 v3:Value):
 ((((w.setCell ⟨g,0,none⟩ v0).setCell ⟨g,1,none⟩ v1).setCell ⟨g,2,none⟩ v2).setCell ⟨g,3,none⟩ v3).cell? ⟨g,0,none⟩=some v0/\((((w.setCell ⟨g,0,none⟩ v0).setCell ⟨g,1,none⟩ v1).setCell ⟨g,2,none⟩ v2).setCell ⟨g,3,none⟩ v3).cell? ⟨g,1,none⟩=some v1/\((((w.setCell ⟨g,0,none⟩ v0).setCell ⟨g,1,none⟩ v1).setCell ⟨g,2,none⟩ v2).setCell ⟨g,3,none⟩ v3).cell? ⟨g,2,none⟩=some v2/\((((w.setCell ⟨g,0,none⟩ v0).setCell ⟨g,1,none⟩ v1).setCell ⟨g,2,none⟩ v2).setCell ⟨g,3,none⟩ v3).cell? ⟨g,3,none⟩=some v3/\Below B w0 ((((w.setCell ⟨g,0,none⟩ v0).setCell ⟨g,1,none⟩ v1).setCell ⟨g,2,none⟩ v2).setCell ⟨g,3,none⟩ v3):=
 have k:=zvo (v0:=v0) (v1:=v1) (v2:=v2) (v3:=v3) h
 ⟨k.cell 0,k.cell 1,k.cell 2,k.cell 3,below4 hb hB _ _ _ _⟩
def OfF (b:Bool) (w:World) (e:Ending) (w':World):Prop:=(∃(k:Int) (n:Bool) (m x:Int),e=.returned (.tuple #[.agg #[.int .i64 k,.bool n,.int .u64 m,.int .i64 x],.bool b]))/\Below w.heap.size w w'
theorem zxp (neg ok is r:Bool) (m e:Int) (hm0:-1000000000000000000<m) (hm1:m<1000000000000000000) (he0:-1000000000000000000<e) (he1:e<1000000000000000000) (gb:Nat) (w wx:World) (HM:Hid (Blk wx gb 107 #[.int .i64 0,.bool false,.int .u64 0,.int .i64 0]/\Below w.heap.size w wx/\w.heap.size<=gb)) (HR:Hid ((ok && is && mokB m e)=r)) {u0 u1 u3 u5 u6 u11 u12 u13 u14 u15 u16 u17 u18 u19 u20 u21 u22 u23 u24 u25 u26 u27 u28 u29 u30 u31 u32 u33 u34 u35 u36 u37 u38 u39 u40 u41 u42 u43 u44 u45 u46 u47 u48 u49 u50 u51 u52 u53 u54 u55 u56 u57 u58 u59 u60 u61 u62 u63 u64 u65 u66 u67 u68 u69 u70 u71 u72 u73 u74 u75 u76 u77 u78 u79 u80 u81 u82 u83 u84 u85 u86 u87 u88 u89 u90 u91 u92 u93 u94 u95 u96 u97 u98 u99 u100 u101 u102 u103 u104 u105 u106 u107 u108 u109 u110 u111 u112 u113 u114 u115 u116:Value}:
 Code.wp prog (tl 11 (f67.body.getD .skip)) (bodyPost prog f67 (OfF r w)) {tmps:=List.toArray (u0::u1::.pointer (some ⟨gb,0,none⟩)::u3::.bool neg::u5::u6::.int .i64 m::.bool ok::.int .i64 e::.bool is::u11::u12::u13::u14::u15::u16::u17::u18::u19::u20::u21::u22::u23::u24::u25::u26::u27::u28::u29::u30::u31::u32::u33::u34::u35::u36::u37::u38::u39::u40::u41::u42::u43::u44::u45::u46::u47::u48::u49::u50::u51::u52::u53::u54::u55::u56::u57::u58::u59::u60::u61::u62::u63::u64::u65::u66::u67::u68::u69::u70::u71::u72::u73::u74::u75::u76::u77::u78::u79::u80::u81::u82::u83::u84::u85::u86::u87::u88::u89::u90::u91::u92::u93::u94::u95::u96::u97::u98::u99::u100::u101::u102::u103::u104::u105::u106::u107::u108::u109::u110::u111::u112::u113::u114::u115::u116::[]),defers:=[]} wx:=by
 generalize hc0:tl 11 (f67.body.getD .skip)=c0;simp only[tl,f67,Option.getD_some]at hc0;subst hc0;obtain⟨q0,q1,q2,q3⟩:=cells4 HM.out.1;have qf:∀j,wx.frozen? ⟨gb,j,none⟩=false:=HM.out.1.frozen;cases ok with
 |false=>
  have c:Hid (r=false):=hid (by rw[<-HR.out];rfl);go_wp2_with fail;obtain⟨n,i,l,k,a⟩:=of4 HM.out.1 HM.out.2.1 HM.out.2.2 (.int .i64 0) (.bool false) (.int .u64 0) (.int .i64 0);refine bodyPost_ret (v:=.tuple #[.agg #[.int .i64 0,.bool false,.int .u64 0,.int .i64 0],.bool false]) (by rw[results_cell_tmp rfl];go_simp) rfl ?_;rw[c.out];exact⟨⟨_,_,_,_,rfl⟩,a⟩
 |true=>
  cases is with
  |false=>
   have c:Hid (r=false):=hid (by rw[<-HR.out];rfl);go_wp2_with fail;obtain⟨n,i,l,k,a⟩:=of4 HM.out.1 HM.out.2.1 HM.out.2.2 (.int .i64 0) (.bool false) (.int .u64 0) (.int .i64 0);refine bodyPost_ret (v:=.tuple #[.agg #[.int .i64 0,.bool false,.int .u64 0,.int .i64 0],.bool false]) (by rw[results_cell_tmp rfl];go_simp) rfl ?_;rw[c.out];exact⟨⟨_,_,_,_,rfl⟩,a⟩
  |true=>
   have h:Hid (mokB m e=r):=hid (by have:=HR.out;simpa using this);clear HR;by_cases hn:m<0
   .have c:Hid (r=false):=hid (by rw[<-h.out];unfold mokB;rw[decide_eq_true hn];rfl);go_wp2_with fail;obtain⟨n,i,l,k,a⟩:=of4 HM.out.1 HM.out.2.1 HM.out.2.2 (.int .i64 0) (.bool false) (.int .u64 0) (.int .i64 0);refine bodyPost_ret (v:=.tuple #[.agg #[.int .i64 0,.bool false,.int .u64 0,.int .i64 0],.bool false]) (by rw[results_cell_tmp rfl];go_simp) rfl ?_;rw[c.out];exact⟨⟨_,_,_,_,rfl⟩,a⟩
   .by_cases hz:m=0
    .subst hz;have o:((0:Int)==0)=true:=rfl;have p:((0:Int) != 0)=false:=rfl;by_cases hez:e=0
     .have g:(e==0)=true:=by simpa using hez
      have q:(e != 0)=false:=by rw[bne,g];rfl
      have c:Hid (r=true):=hid (by rw[<-h.out,hez];decide);clear hez;go_wp2_with fail;obtain⟨n,i,l,k,a⟩:=of4 HM.out.1 HM.out.2.1 HM.out.2.2 (.int .i64 0) (.bool neg) (.int .u64 0) (.int .i64 e);refine bodyPost_ret (v:=.tuple #[.agg #[.int .i64 0,.bool neg,.int .u64 0,.int .i64 e],.bool true]) (by rw[results_cell_tmp rfl];go_simp) rfl ?_;rw[c.out];exact⟨⟨_,_,_,_,rfl⟩,a⟩
     .have g:(e==0)=false:=by simpa using hez
      have q:(e != 0)=true:=by rw[bne,g];rfl
      have c:Hid (r=false):=hid (by rw[<-h.out];unfold mokB;simp[hez]);clear hez;go_wp2_with fail;obtain⟨n,i,l,k,a⟩:=of4 HM.out.1 HM.out.2.1 HM.out.2.2 (.int .i64 0) (.bool false) (.int .u64 0) (.int .i64 0);refine bodyPost_ret (v:=.tuple #[.agg #[.int .i64 0,.bool false,.int .u64 0,.int .i64 0],.bool false]) (by rw[results_cell_tmp rfl];go_simp) rfl ?_;rw[c.out];exact⟨⟨_,_,_,_,rfl⟩,a⟩
    .have o:(m==0)=false:=by simpa using hz
     have p:(m != 0)=true:=by rw[bne,o];rfl
     have hmp:0<m:=by omega
     have hwr:IntKind.u64.wrap m=m:=by rw[IntKind.wrap_u64];omega
     have d:=hid (fun W=>zso m.toNat (by omega) m (by omega) W);obtain⟨b,s⟩:=ex (Lib.bitLen m.toNat)
     have hb64:b<=64:=by rw[<-s];exact Lib.bitLen_le _ 64 (by omega) (by omega)
     have f:Hid (r=!(decide (m%2=0) || decide (53<b) || decide (e< -1074) || decide (1023<e) || decide (1024<e+b))):=hid (by
      rw[<-h.out];unfold mokB;rw[s,decide_eq_false hn,o,p];simp only[Bool.false_or,Bool.false_and,Bool.true_and];rfl)
     rw[s]at d;clear s hz h;by_cases k1:m%2=0
     .have u:(m%2==0)=true:=by simpa using k1
      have c:Hid (r=false):=hid (by rw[f.out];simp[k1]);clear k1;go_wp2_with fail;obtain⟨n,i,l,k,a⟩:=of4 HM.out.1 HM.out.2.1 HM.out.2.2 (.int .i64 0) (.bool false) (.int .u64 0) (.int .i64 0);refine bodyPost_ret (v:=.tuple #[.agg #[.int .i64 0,.bool false,.int .u64 0,.int .i64 0],.bool false]) (by rw[results_cell_tmp rfl];go_simp) rfl ?_;rw[c.out];exact⟨⟨_,_,_,_,rfl⟩,a⟩
     .have u:(m%2==0)=false:=by simpa using k1
      by_cases k2:53<b
      .have t:(53:Int)<(b:Int):=by omega
       have c:Hid (r=false):=hid (by rw[f.out];simp[k2]);clear k1 k2;go_wp2_with fail;refine(d.out _).mono ?_;rintro _ wx ⟨rfl,rfl⟩;go_wp2_with fail;obtain⟨n,i,l,k,a⟩:=of4 HM.out.1 HM.out.2.1 HM.out.2.2 (.int .i64 0) (.bool false) (.int .u64 0) (.int .i64 0);refine bodyPost_ret (v:=.tuple #[.agg #[.int .i64 0,.bool false,.int .u64 0,.int .i64 0],.bool false]) (by rw[results_cell_tmp rfl];go_simp) rfl ?_;rw[c.out];exact⟨⟨_,_,_,_,rfl⟩,a⟩
      .have t:¬(53:Int)<(b:Int):=by omega
       by_cases k3:e< -1074
       .have c:Hid (r=false):=hid (by rw[f.out];simp[k3]);clear k1 k2;go_wp2_with fail;refine(d.out _).mono ?_;rintro _ wx ⟨rfl,rfl⟩;go_wp2_with fail;obtain⟨n,i,l,k,a⟩:=of4 HM.out.1 HM.out.2.1 HM.out.2.2 (.int .i64 0) (.bool false) (.int .u64 0) (.int .i64 0);refine bodyPost_ret (v:=.tuple #[.agg #[.int .i64 0,.bool false,.int .u64 0,.int .i64 0],.bool false]) (by rw[results_cell_tmp rfl];go_simp) rfl ?_;rw[c.out];exact⟨⟨_,_,_,_,rfl⟩,a⟩
       .by_cases k4:1023<e
        .have c:Hid (r=false):=hid (by rw[f.out];simp[k4]);clear k1 k2;go_wp2_with fail;refine(d.out _).mono ?_;rintro _ wx ⟨rfl,rfl⟩;go_wp2_with fail;obtain⟨n,i,l,k,a⟩:=of4 HM.out.1 HM.out.2.1 HM.out.2.2 (.int .i64 0) (.bool false) (.int .u64 0) (.int .i64 0);refine bodyPost_ret (v:=.tuple #[.agg #[.int .i64 0,.bool false,.int .u64 0,.int .i64 0],.bool false]) (by rw[results_cell_tmp rfl];go_simp) rfl ?_;rw[c.out];exact⟨⟨_,_,_,_,rfl⟩,a⟩
        .by_cases k5:1024<e+b
         .have c:Hid (r=false):=hid (by rw[f.out];simp[k5]);clear k1 k2;go_wp2_with fail;refine(d.out _).mono ?_;rintro _ wx ⟨rfl,rfl⟩;go_wp2_with fail;refine(d.out _).mono ?_;rintro _ wx ⟨rfl,rfl⟩;go_wp2_with fail;obtain⟨n,i,l,k,a⟩:=of4 HM.out.1 HM.out.2.1 HM.out.2.2 (.int .i64 0) (.bool false) (.int .u64 0) (.int .i64 0);refine bodyPost_ret (v:=.tuple #[.agg #[.int .i64 0,.bool false,.int .u64 0,.int .i64 0],.bool false]) (by rw[results_cell_tmp rfl];go_simp) rfl ?_;rw[c.out];exact⟨⟨_,_,_,_,rfl⟩,a⟩
         .have c:Hid (r=true):=hid (by rw[f.out];simp[k1,k2,k3,k4,k5]);clear k1 k2;go_wp2_with fail;refine(d.out _).mono ?_;rintro _ wx ⟨rfl,rfl⟩;go_wp2_with fail;refine(d.out _).mono ?_;rintro _ wx ⟨rfl,rfl⟩;go_wp2_with fail;obtain⟨n,i,l,k,a⟩:=of4 HM.out.1 HM.out.2.1 HM.out.2.2 (.int .i64 0) (.bool neg) (.int .u64 m) (.int .i64 e);refine bodyPost_ret (v:=.tuple #[.agg #[.int .i64 0,.bool neg,.int .u64 m,.int .i64 e],.bool true]) (by rw[results_cell_tmp rfl];go_simp) rfl ?_;rw[c.out];exact⟨⟨_,_,_,_,rfl⟩,a⟩
theorem zo7 (s:Gr.Str):-1000000000000000000<(numb s).getD 0/\(numb s).getD 0<1000000000000000000:=by
 unfold numb;split
 .rename_i h;obtain⟨_,a,_,_⟩:=zf2 h.1;have hl:(intS s).length<=s.length:=by
   unfold intS;split
   .simp
   .omega
  have:=zuh (intS s) a (by omega);simp only[Option.getD_some];split<;>omega
 .simp
theorem zvp (s t:Gr.Str) (hl:s.length<=1073741823) (htl:t.length<=s.length) (neg r:Bool) (gb:Nat) (w wx:World) (HM:Hid (Blk wx gb 107 #[.int .i64 0,.bool false,.int .u64 0,.int .i64 0]/\Below w.heap.size w wx/\w.heap.size<=gb)) (HR:Hid ((if t=[105,110,102]then true else if s=[110,97,110]then true else match t.dropWhile (fun c=>c != 112)with| []=>false|_::b=>match numb (Gr.fA t)with|some m=>(match numb b with|some e=>mokB m e|none=>false)|none=>false)=r)) {u1 u3 u6 u7 u8 u9 u10 u11 u12 u13 u14 u15 u16 u17 u18 u19 u20 u21 u22 u23 u24 u25 u26 u27 u28 u29 u30 u31 u32 u33 u34 u35 u36 u37 u38 u39 u40 u41 u42 u43 u44 u45 u46 u47 u48 u49 u50 u51 u52 u53 u54 u55 u56 u57 u58 u59 u60 u61 u62 u63 u64 u65 u66 u67 u68 u69 u70 u71 u72 u73 u74 u75 u76 u77 u78 u79 u80 u81 u82 u83 u84 u85 u86 u87 u88 u89 u90 u91 u92 u93 u94 u95 u96 u97 u98 u99 u100 u101 u102 u103 u104 u105 u106 u107 u108 u109 u110 u111 u112 u113 u114 u115 u116:Value}:
 Code.wp prog (tl 4 (f67.body.getD .skip)) (bodyPost prog f67 (OfF r w)) {tmps:=List.toArray (.string ⟨s.toArray⟩::u1::.pointer (some ⟨gb,0,none⟩)::u3::.bool neg::.string ⟨t.toArray⟩::u6::u7::u8::u9::u10::u11::u12::u13::u14::u15::u16::u17::u18::u19::u20::u21::u22::u23::u24::u25::u26::u27::u28::u29::u30::u31::u32::u33::u34::u35::u36::u37::u38::u39::u40::u41::u42::u43::u44::u45::u46::u47::u48::u49::u50::u51::u52::u53::u54::u55::u56::u57::u58::u59::u60::u61::u62::u63::u64::u65::u66::u67::u68::u69::u70::u71::u72::u73::u74::u75::u76::u77::u78::u79::u80::u81::u82::u83::u84::u85::u86::u87::u88::u89::u90::u91::u92::u93::u94::u95::u96::u97::u98::u99::u100::u101::u102::u103::u104::u105::u106::u107::u108::u109::u110::u111::u112::u113::u114::u115::u116::[]),defers:=[]} wx:=by
 generalize hc0:tl 4 (f67.body.getD .skip)=c0;simp only[tl,f67,Option.getD_some]at hc0;subst hc0;obtain⟨Z,q1,q2,q3⟩:=cells4 HM.out.1;have qf:∀j,wx.frozen? ⟨gb,j,none⟩=false:=HM.out.1.frozen;by_cases hinf:t=[105,110,102]
 .have h1:(t==([105,110,102]:List UInt8))=true:=by rw[beq_iff_eq];exact hinf
  have E:Hid (r=true):=hid (by rw[<-HR.out,if_pos hinf]);clear hinf;go_wp2_with fail;obtain⟨X,S,O,Y,g⟩:=of4 HM.out.1 HM.out.2.1 HM.out.2.2 (.int .i64 1) (.bool neg) (.int .u64 0) (.int .i64 0);refine bodyPost_ret (v:=.tuple #[.agg #[.int .i64 1,.bool neg,.int .u64 0,.int .i64 0],.bool true]) (by rw[results_cell_tmp rfl];go_simp) rfl ?_;rw[E.out];exact⟨⟨_,_,_,_,rfl⟩,g⟩
 .have h1:(t==([105,110,102]:List UInt8))=false:=by rw[beq_eq_false_iff_ne];exact hinf
  by_cases hnan:s=[110,97,110]
  .have h2:(s==([110,97,110]:List UInt8))=true:=by rw[beq_iff_eq];exact hnan
   have E:Hid (r=true):=hid (by rw[<-HR.out,if_neg hinf,if_pos hnan]);clear hinf hnan;go_wp2_with fail;obtain⟨X,S,O,Y,g⟩:=of4 HM.out.1 HM.out.2.1 HM.out.2.2 (.int .i64 2) (.bool false) (.int .u64 0) (.int .i64 0);refine bodyPost_ret (v:=.tuple #[.agg #[.int .i64 2,.bool false,.int .u64 0,.int .i64 0],.bool true]) (by rw[results_cell_tmp rfl];go_simp) rfl ?_;rw[E.out];exact⟨⟨_,_,_,_,rfl⟩,g⟩
  .have h2:(s==([110,97,110]:List UInt8))=false:=by rw[beq_eq_false_iff_ne];exact hnan
   have i:Hid ((match t.dropWhile (fun c=>c != 112)with| []=>false|_::b=>match numb (Gr.fA t)with|some m=>(match numb b with|some e=>mokB m e|none=>false)|none=>false)=r):=hid (by rw[<-HR.out,if_neg hinf,if_neg hnan]);clear hinf hnan HR;have d:Hid (t=Gr.fA t++t.dropWhile (fun c=>c != 112)):=hid (List.takeWhile_append_dropWhile (p:=fun c:UInt8=>c != 112) (l:=t)).symm;have z:Hid (∀k (h:k<t.length),k<(Gr.fA t).length->t[k]≠112):=hid (fun k h K=>by
    have e:t[k]=(Gr.fA t)[k]:=by
     have:=d.out;rw[List.getElem_of_eq this h,List.getElem_append_left K]
    rw[e];have u:=List.getElem_mem K;unfold Gr.fA at u;have:=zoh u;have h4:¬((List.takeWhile (fun c:UInt8=>c != 112) t)[k]=112):=by simpa using this
    exact h4)
   obtain⟨A,P⟩:=ex (Gr.fA t)
   obtain⟨R,B⟩:=ex (t.dropWhile (fun c=>c != 112))
   have G:∀c b,R=c::b->c=112:=by
    intro c b e;have:=List.head?_dropWhile_not (fun c:UInt8=>c != 112) t;rw[B,e]at this;simpa using this
   have H:=hid G;rw[P,B]at i d;rw[P]at z;have hAl:A.length<=t.length:=by have:=congrArg List.length d.out;rw[List.length_append]at this;omega
   clear P B G;go_wp2_with fail;go_loop [6] (fun s6=>∃k:Nat,k<=A.length/\s6=.int .i64 (k:Int)) (fun s6=>t.length-(intOf s6).toNat)
   case atStart=>exact⟨0,Nat.zero_le _,rfl⟩
   case round=>
    obtain⟨k,K,rfl⟩:=hrel;by_cases hkA:k<A.length
    .have f:k<t.length:=by omega
     have n:(k:Int)<(t.length:Int):=by omega
     have C:=z.out k f hkA;have b1:=zap t k f _ 112 112 rfl rfl C;have b2:=zas t k f _ 112 112 rfl rfl C;clear C;go_wp2;go_round
     case rel=>exact⟨k+1,by omega,by go_num⟩
     case measure=>simp[intOf];omega
    .obtain rfl:k=A.length:=by omega
     clear hkA K;cases R with
     |nil=>
      have V:Hid (A.length=t.length):=hid (by have:=congrArg List.length d.out;rw[List.append_nil]at this;exact this.symm);have n:¬(A.length:Int)<(t.length:Int):=by have:=V.out;omega
      have T:((A.length:Int)==(t.length:Int))=true:=by rw[beq_iff_eq,V.out]
      have E:Hid (r=false):=hid (by rw[<-i.out]);go_wp2_with fail;obtain⟨X,S,O,Y,g⟩:=of4 HM.out.1 HM.out.2.1 HM.out.2.2 (.int .i64 0) (.bool false) (.int .u64 0) (.int .i64 0);refine bodyPost_ret (v:=.tuple #[.agg #[.int .i64 0,.bool false,.int .u64 0,.int .i64 0],.bool false]) (by rw[results_cell_tmp rfl];go_simp) rfl ?_;rw[E.out];exact⟨⟨_,_,_,_,rfl⟩,g⟩
     |cons c b=>
      obtain rfl:c=112:=H.out c b rfl;have F:Hid (A.length+1+b.length=t.length):=hid (by have:=congrArg List.length d.out;rw[List.length_append,List.length_cons]at this;omega);have f:A.length<t.length:=by have:=F.out;omega
      have n:(A.length:Int)<(t.length:Int):=by omega
      have T:((A.length:Int)==(t.length:Int))=false:=by rw[beq_eq_false_iff_ne];omega
      have M:t[A.length]=112:=by rw[List.getElem_of_eq d.out f,List.getElem_append_right (Nat.le_refl _)];simp
      have b1:=zax t A.length f _ 112 112 rfl rfl M;have b2:=zar t A.length f _ 112 112 rfl rfl M;have hbl:b.length<=1073741823:=by have:=F.out;omega
      have S:(⟨t.toArray⟩:ByteArray).extract 0 A.length=⟨A.toArray⟩:=by rw[zau,d.out];simp
      have O:(⟨t.toArray⟩:ByteArray).extract (A.length+1) t.length=⟨b.toArray⟩:=by rw[zau,List.take_of_length_le (by simp),d.out];simp
      have q:=hid (fun W=>zkw A (by omega) W);have y:=hid (fun W=>zkw b (by omega) W);have L:=zo7 A;have Q:=zo7 b;have I:Hid (((numb A).isSome && (numb b).isSome && mokB ((numb A).getD 0) ((numb b).getD 0))=r):=hid (by
       have h:=i.out;simp only at h;rw[<-h];rcases numb A with _|m<;>rcases numb b with _|e<;>first|rfl|simp)
      unfold NPost at q y;obtain⟨m,u⟩:=ex ((numb A).getD 0)
      obtain⟨x,J⟩:=ex ((numb b).getD 0)
      obtain⟨U,D⟩:=ex ((numb A).isSome)
      obtain⟨is,o⟩:=ex ((numb b).isSome)
      rw[u,D]at q;rw[J,o]at y;rw[u,J,D,o]at I;rw[u]at L;rw[J]at Q;have hA1:A.length+1<=t.length:=by omega
      have hA1I:(A.length:Int)+1<=(t.length:Int):=by omega
      clear u J D o M z H i d Z q1 q2 q3 qf;go_upto_region 14 with fail;go_cut [7,8] (fun s7 s8 N=>s7=.int .i64 m/\s8=.bool U/\N=wx)
      case first=>
       go_wp2_with fail;refine(q.out _).mono ?_;rintro _ w1 ⟨rfl,rfl⟩;go_wp2;go_meet;exact⟨rfl,rfl,rfl⟩
      case rest=>
      obtain⟨rfl,rfl,rfl⟩:=hcut;refine(‹∀(a:Act) (w_1:World),Code.wp prog _ _ a w_1->_›) _ _ ?_;go_upto_region 15 with fail;go_cut [9,10] (fun s9 s10 N=>s9=.int .i64 x/\s10=.bool is/\N=wc)
      case first=>
       go_wp2_with fail;refine(y.out _).mono ?_;rintro _ w1 ⟨rfl,rfl⟩;go_wp2;go_meet;exact⟨rfl,rfl,rfl⟩
      case rest=>
      obtain⟨rfl,rfl,rfl⟩:=hcut;refine(‹∀(a:Act) (w_1:World),Code.wp prog _ _ a w_1->_›) _ _ ?_;exact zxp neg U is r m x L.1 L.2 Q.1 Q.2 gb w _ HM I
theorem zsp (s:Gr.Str) (hl:s.length<=1073741823) (w:World):Calls prog 67 #[.string ⟨s.toArray⟩] w (OfF (fltR s) w):=by
 obtain⟨r,o⟩:=ex (fltR s)
 rw[o];have g:Hid (∀t,Gr.fT s=t->(if t=[105,110,102]then true else if s=[110,97,110]then true else match t.dropWhile (fun c=>c != 112)with| []=>false|_::b=>match numb (Gr.fA t)with|some m=>(match numb b with|some e=>mokB m e|none=>false)|none=>false)=r):=hid (fun t h=>by rw[<-o,<-h];rfl);clear o;by_cases h0:0<s.length
 .have n:(0:Int)<(s.length:Int):=by omega
  have l:s.head?=some s[0]:=by rw[List.head?_eq_getElem?,List.getElem?_eq_getElem h0]
  by_cases h45:s[0]=45
  .have q:=zax s 0 h0 _ 45 45 rfl rfl h45;have p:=zar s 0 h0 _ 45 45 rfl rfl h45;obtain⟨t,h⟩:=ex s.tail
   have k:=hid (g.out t (by unfold Gr.fT;rw[l,h45,if_pos rfl,h]));have htl:t.length<=s.length:=by rw[<-h];simp
   have e1:(⟨s.toArray⟩:ByteArray).extract 1 s.length=⟨t.toArray⟩:=by rw[zau,List.take_of_length_le (by simp),<-h,List.drop_one]
   have h1I:(1:Int)<=(s.length:Int):=by omega
   clear g l h45 h;go_enter func67,ntmps67;go_upto_region 1 with fail;obtain⟨f,d⟩:=ex (w.alloc (.cells #[.int .i64 0,.bool false,.int .u64 0,.int .i64 0] 107))
   have j:Hid (Blk f w.heap.size 107 #[.int .i64 0,.bool false,.int .u64 0,.int .i64 0]/\Below w.heap.size w f/\w.heap.size<=w.heap.size):=hid ⟨by rw[<-d];exact Blk.new _ _ _,by rw[<-d];exact(Below.refl _ _).alloc (Nat.le_refl _) _,Nat.le_refl _⟩;(try rw[d]);clear d;go_upto_if 20 with fail;go_cut [5] (fun s5 i=>s5=.string ⟨t.toArray⟩/\i=f)
   case first=>
    go_wp2;go_meet;exact⟨rfl,rfl⟩
   case rest=>
   obtain⟨rfl,rfl⟩:=hcut;refine(‹∀(a:Act) (w_1:World),Code.wp prog _ _ a w_1->_›) _ _ ?_;exact zvp s t hl (by omega) true r _ w _ j k
  .have q:=zap s 0 h0 _ 45 45 rfl rfl h45;have p:=zas s 0 h0 _ 45 45 rfl rfl h45;have k:=hid (g.out s (by unfold Gr.fT;rw[l,if_neg (by intro e;injection e with e;exact h45 e)]));clear g l h45;go_enter func67,ntmps67;go_upto_region 1 with fail;obtain⟨f,d⟩:=ex (w.alloc (.cells #[.int .i64 0,.bool false,.int .u64 0,.int .i64 0] 107))
   have j:Hid (Blk f w.heap.size 107 #[.int .i64 0,.bool false,.int .u64 0,.int .i64 0]/\Below w.heap.size w f/\w.heap.size<=w.heap.size):=hid ⟨by rw[<-d];exact Blk.new _ _ _,by rw[<-d];exact(Below.refl _ _).alloc (Nat.le_refl _) _,Nat.le_refl _⟩;(try rw[d]);clear d;go_upto_if 20 with fail;go_cut [5] (fun s5 i=>s5=.string ⟨s.toArray⟩/\i=f)
   case first=>
    go_wp2;go_meet;exact⟨rfl,rfl⟩
   case rest=>
   obtain⟨rfl,rfl⟩:=hcut;refine(‹∀(a:Act) (w_1:World),Code.wp prog _ _ a w_1->_›) _ _ ?_;exact zvp s s hl (by omega) false r _ w _ j k
 .have n:¬(0:Int)<(s.length:Int):=by omega
  have k:=hid (g.out s (by rw[show s=[]from List.eq_nil_of_length_eq_zero (by omega)];rfl));clear g;go_enter func67,ntmps67;go_upto_region 1 with fail;obtain⟨f,d⟩:=ex (w.alloc (.cells #[.int .i64 0,.bool false,.int .u64 0,.int .i64 0] 107))
  have j:Hid (Blk f w.heap.size 107 #[.int .i64 0,.bool false,.int .u64 0,.int .i64 0]/\Below w.heap.size w f/\w.heap.size<=w.heap.size):=hid ⟨by rw[<-d];exact Blk.new _ _ _,by rw[<-d];exact(Below.refl _ _).alloc (Nat.le_refl _) _,Nat.le_refl _⟩;(try rw[d]);clear d;go_upto_if 20 with fail;go_cut [5] (fun s5 i=>s5=.string ⟨s.toArray⟩/\i=f)
  case first=>
   go_wp2;go_meet;exact⟨rfl,rfl⟩
  case rest=>
  obtain⟨rfl,rfl⟩:=hcut;refine(‹∀(a:Act) (w_1:World),Code.wp prog _ _ a w_1->_›) _ _ ?_;exact zvp s s hl (by omega) false r _ w _ j k
end Go.Proofs.YtpgmfihonmoliaaGreatDoor
