import Derived.Test.YtpjmhafmeieloaaGreatDoorGrInsP3B
import Derived.Test.YtpjmhafmeieloaaGreatDoorGrInsR4T
namespace Go.Proofs.YtpjmhafmeieloaaGreatDoor
open Gr
open _root_.Go.Proofs.Tryz
open _root_.Go.Lib (hid)
set_option maxRecDepth 100000
set_option maxHeartbeats 16000000
open Go.RowKit
theorem zqo {s:Gr.Str} {b n:Nat} (hle:b+n<=s.length) (hd:((s.drop b).take n).all Gr.dig=true) (hn:∀h2:b+n<s.length,Gr.dig (s[b+n]'h2)=false):(s.drop b).takeWhile Gr.dig=(s.drop b).take n:=by
 have a:s.drop b=(s.drop b).take n++s.drop (b+n):=by
  rw[<-List.drop_drop];exact(List.take_append_drop n (s.drop b)).symm
 rw[a,List.takeWhile_append_of_pos (by simpa using hd)];have h2:(s.drop (b+n)).takeWhile Gr.dig=[]:=by
  rcases Nat.lt_or_ge (b+n) s.length with h3|h3
  .rw[List.drop_eq_getElem_cons h3,List.takeWhile_cons,hn h3];rfl
  .rw[List.drop_eq_nil_of_le h3];rfl
 rw[h2,List.append_nil,List.take_append_of_le_length (by simp;omega),List.take_take,Nat.min_self]
theorem zwn {s:Gr.Str} {b n:Nat} (hle:b+n<=s.length) (hd:((s.drop b).take n).all Gr.dig=true):n<=((s.drop b).takeWhile Gr.dig).length:=by
 have a:s.drop b=(s.drop b).take n++s.drop (b+n):=by
  rw[<-List.drop_drop];exact(List.take_append_drop n (s.drop b)).symm
 rw[a,List.takeWhile_append_of_pos (by simpa using hd),List.length_append];have:((s.drop b).take n).length=n:=by simp;omega
 omega
def pointO (s:Gr.Str) (sh:Nat) (f:Nat->Nat) (p:Nat):Option (Array Value):=
 if isAt s p 46=true then
  if((s.drop (p+1)).takeWhile Gr.dig).length=0\/9<((s.drop (p+1)).takeWhile Gr.dig).length then none
  else finO s sh f (Gr.val ((s.drop (p+1)).takeWhile Gr.dig)*10 ^ (9-((s.drop (p+1)).takeWhile Gr.dig).length)) (p+1+((s.drop (p+1)).takeWhile Gr.dig).length)
 else finO s sh f 0 p
theorem zm5 {s:Gr.Str} {sh:Nat} {f:Nat->Nat} {p k:Nat} (hp:isAt s p 46=true) (hle:p+1+k<=s.length) (hd:((s.drop (p+1)).take k).all Gr.dig=true) (h1:1<=k) (h9:k<=9) (hn:k=9\/∀h2:p+1+k<s.length,Gr.dig (s[p+1+k]'h2)=false):
 pointO s sh f p=finO s sh f (Gr.val ((s.drop (p+1)).take k)*10 ^ (9-k)) (p+1+k):=by
 unfold pointO;rw[if_pos hp];have d:((s.drop (p+1)).take k).length=k:=by clear hn;simp;omega
 by_cases hx:∀h2:p+1+k<s.length,Gr.dig (s[p+1+k]'h2)=false
 .rw[zqo hle hd hx,d,if_neg (by clear hx hn;omega)]
 .have h92:k=9:=by rcases hn with h|h;exact h;exact absurd h hx
  have a:p+1+k<s.length:=by
   rcases Nat.lt_or_ge (p+1+k) s.length with h|h
   .exact h
   .exact absurd (fun h2=>absurd h2 (Nat.not_lt.2 h)) hx
  have c:Gr.dig (s[p+1+k]'a)=true:=by
   cases hc:Gr.dig (s[p+1+k]'a)with
   |true=>rfl
   |false=>exact absurd (fun _=>hc) hx
  clear hn hx;have hl2:=zwn (s:=s) (b:=p+1) (n:=k+1) (by omega) (by rw[zco s (p+1) k a,List.all_append,hd];simp[c]);rw[if_pos (by omega)];unfold finO;rw[if_neg (by omega)];split
  .rw[zlg a rfl]<;>(intro e;rw[(zd4 _ _ e).1]at c;revert c;decide)
  .rfl
theorem zm6 {s:Gr.Str} {sh:Nat} {f:Nat->Nat} {p:Nat} (hp:isAt s p 46=true) (hle:p+1<=s.length) (hn:∀h2:p+1<s.length,Gr.dig (s[p+1]'h2)=false):pointO s sh f p=none:=by
 unfold pointO;rw[if_pos hp,zqo (n:=0) (by omega) (by simp) hn];simp
theorem zlh {s:Gr.Str} {sh:Nat} {f:Nat->Nat} {p:Nat} (hp:isAt s p 46=false):pointO s sh f p=finO s sh f 0 p:=by
 unfold pointO;rw[if_neg (by rw[hp];decide)]
theorem RMem.at_ {s:Gr.Str} {w:World} {sb rb mb ab fb sh:Nat} {f:Nat->Nat} {nn z p:Nat} {wx:World} (h:RMem s w sb rb mb ab fb sh f nn z p wx) (q:Nat):RMem s w sb rb mb ab fb sh f nn z q (wx.setCell ⟨ab,0,none⟩ (.int .i64 (q:Int))):=
 h.fld (KM.ofA (Kept1.set _ _)) (h.m.far (h.m.ne_ h.a (by decide)) _) (h.a.set_ 0 _)
theorem RMem.ns {s:Gr.Str} {w:World} {sb rb mb ab fb sh:Nat} {f:Nat->Nat} {nn z p:Nat} {wx:World} (h:RMem s w sb rb mb ab fb sh f nn z p wx) (q:Nat):RMem s w sb rb mb ab fb sh f q z p (wx.setCell ⟨mb,9,none⟩ (.int .i64 (q:Int))):=
 have c:KM mb ab wx (wx.setCell ⟨mb,9,none⟩ (.int .i64 (q:Int))):=KM.ofM (Kept1.set _ _)
 ⟨h.b.trans (c.below h.b.size h.nm h.na),h.n,h.nm,h.na,h.mr,c.blk h.s (h.s.ne_ h.m (by decide)) (h.s.ne_ h.a (by decide)),c.blk h.r h.mr.symm (h.r.ne_ h.a (by decide)),h.m.set_ 9 _,h.a.far (h.a.ne_ h.m (by decide)) _,c.blk h.f (h.f.ne_ h.m (by decide)) (h.f.ne_ h.a (by decide))⟩
theorem ztg (s:Gr.Str) (hl:s.length<=1073741823) (w wx:World) (sb rb mb ab fb sh:Nat) (f:Nat->Nat) (p:Nat) (T:Option (Array Value)) (HM:Hid (RMem s w sb rb mb ab fb sh f 0 0 p wx)) (hp:p<=s.length) (hsh:sh<=3) (HT:Hid (T=pointO s sh f p/\f 6=0/\f 7=0)) {u3 u8 u9 u10 u11 u12 u13 u14 u15 u16 u17 u18 u19 u20 u21 u22 u23 u24 u25 u26 u27 u28 u29 u30 u31 u32 u33 u34 u35 u36 u37 u38 u39 u40 u41 u42 u43 u44 u45 u46 u47 u48 u49 u50 u51 u52 u53 u54 u55 u56 u57 u58 u59 u60 u61 u62 u63 u64 u65 u66 u67 u68 u69 u70 u71 u72 u73 u74 u75 u76 u77 u78 u79 u80 u81 u82 u83 u84 u85 u86 u87 u88 u89 u90 u91 u92 u93 u94 u95 u96 u97 u98 u99 u100 u101 u102 u103 u104 u105 u106 u107 u108 u109 u110 u111 u112 u113 u114 u115 u116 u117 u118 u119 u120 u121 u122 u123 u124 u125 u126 u127 u128 u129 u130 u131 u132 u133 u134 u135 u136 u137 u138 u139 u140 u141 u142 u143 u144 u145 u146 u147 u148 u149 u150 u151 u152 u153 u154:Value}:
 Code.wp prog (tl 8 (f54.body.getD .skip)) (bodyPost prog f54 (RPost T w)) {tmps:=List.toArray (.string ⟨s.toArray⟩::.pointer (some ⟨sb,0,none⟩)::.pointer (some ⟨rb,0,none⟩)::u3::.pointer (some ⟨mb,0,none⟩)::.pointer (some ⟨ab,0,none⟩)::.pointer (some ⟨fb,0,none⟩)::.func (.func 82) #[] #[.pointer (some ⟨ab,0,none⟩),.pointer (some ⟨sb,0,none⟩),.pointer (some ⟨fb,0,none⟩)]::u8::u9::u10::u11::u12::u13::u14::u15::u16::u17::u18::u19::u20::u21::u22::u23::u24::u25::u26::u27::u28::u29::u30::u31::u32::u33::u34::u35::u36::u37::u38::u39::u40::u41::u42::u43::u44::u45::u46::u47::u48::u49::u50::u51::u52::u53::u54::u55::u56::u57::u58::u59::u60::u61::u62::u63::u64::u65::u66::u67::u68::u69::u70::u71::u72::u73::u74::u75::u76::u77::u78::u79::u80::u81::u82::u83::u84::u85::u86::u87::u88::u89::u90::u91::u92::u93::u94::u95::u96::u97::u98::u99::u100::u101::u102::u103::u104::u105::u106::u107::u108::u109::u110::u111::u112::u113::u114::u115::u116::u117::u118::u119::u120::u121::u122::u123::u124::u125::u126::u127::u128::u129::u130::u131::u132::u133::u134::u135::u136::u137::u138::u139::u140::u141::u142::u143::u144::u145::u146::u147::u148::u149::u150::u151::u152::u153::u154::[]),defers:=[]} wx:=by
 generalize hc0:tl 8 (f54.body.getD .skip)=c0;simp only[tl,f54,Option.getD_some]at hc0;subst hc0;obtain⟨N,Y⟩:=ex (isAt s p 46)
 have l:=hid Y;clear Y;have F:wx.cell? ⟨ab,0,none⟩=some (.int .i64 (p:Int)):=HM.out.a.cell 0;have y:∀j,wx.frozen? ⟨ab,j,none⟩=false:=HM.out.a.frozen;have G:wx.cell? ⟨sb,0,none⟩=some (.string ⟨s.toArray⟩):=HM.out.s.cell 0;have g:wx.cell? ⟨mb,9,none⟩=some (.int .i64 ((0:Nat):Int)):=HM.out.m.cell 9;have B:∀j,wx.frozen? ⟨mb,j,none⟩=false:=HM.out.m.frozen;go_upto_region 17 with fail;go_cut [63] (fun s63 o=>s63=.bool N/\o=wx)
 case first=>
  by_cases hlt:p<s.length
  .have A:(p:Int)<(s.length:Int):=by omega
   obtain⟨b,C⟩:∃b:Nat,(s[p]'hlt).toNat=b:=⟨_,rfl⟩
   have ad:(((⟨s.toArray⟩:ByteArray)[p]'(by simpa[ByteArray.size]using hlt)).toNat:Int)=(b:Int):=by rw[<-C];rfl
   by_cases h46:b=46
   .have z:(b:Int)=46:=by omega
    have R:((b:Int)==46)=true:=by simpa using z
    obtain rfl:N=true:=by rw[<-l.out,zbt hlt C];exact decide_eq_true h46
    clear C h46;go_wp2;go_meet;exact⟨rfl,rfl⟩
   .have z:¬(b:Int)=46:=by omega
    have R:((b:Int)==46)=false:=by simpa using z
    obtain rfl:N=false:=by rw[<-l.out,zbt hlt C];exact decide_eq_false h46
    clear C h46;go_wp2;go_meet;exact⟨rfl,rfl⟩
  .have A:¬(p:Int)<(s.length:Int):=by omega
   obtain rfl:N=false:=by rw[<-l.out,zhg (by omega)]
   go_wp2;go_meet;exact⟨rfl,rfl⟩
 case rest=>
 obtain⟨rfl,rfl⟩:=hcut;go_upto_if 63 with fail;go_cut [] (fun o=>∃(nn' p':Nat),p'<=s.length/\Hid (RMem s w sb rb mb ab fb sh f nn' 0 p' o)/\Hid (T=finO s sh f nn' p'))
 case first=>
  cases N with
  |false=>
   go_wp2;go_meet;exact⟨0,p,hp,HM,hid (by rw[HT.out.1,zlh l.out])⟩
  |true=>
   have hlt:p<s.length:=by
    rcases Nat.lt_or_ge p s.length with h|h
    .exact h
    .have:=l.out;rw[zhg h]at this;cases this
   have L:=hid (HM.out.at_ (p+1));go_upto_block 0 with fail;clear F y G g B;go_cut [8] (fun s8 o=>∃k:Nat,k<=9/\p+1+k<=s.length/\s8=.int .i64 (k:Int)/\Hid (RMem s w sb rb mb ab fb sh f (Gr.val ((s.drop (p+1)).take k)) 0 (p+1+k) o/\((s.drop (p+1)).take k).all Gr.dig=true/\(k=9\/∀h2:p+1+k<s.length,Gr.dig (s[p+1+k]'h2)=false)))
   case first=>
    go_wp2_with fail;go_loopw [8] (fun s8 wr=>∃k:Nat,k<=9/\p+1+k<=s.length/\s8=.int .i64 (k:Int)/\Hid (RMem s w sb rb mb ab fb sh f (Gr.val ((s.drop (p+1)).take k)) 0 (p+1+k) wr/\((s.drop (p+1)).take k).all Gr.dig=true)) (fun s8 _=>9-(intOf s8).toNat)
    case atStart=>exact⟨0,by omega,by omega,rfl,hid ⟨by simpa[Gr.val]using L.out,by simp⟩⟩
    case round=>
     obtain⟨k,hk,H,rfl,e⟩:=hrel;obtain⟨P,t⟩:=ex (p+1+k)
     obtain⟨V,i⟩:=ex (Gr.val ((s.drop (p+1)).take k))
     have I:V<1000000000:=by rw[<-i];exact zld _ e.out.2 (by simp;omega)
     have J:=hid e.out.2;have c:Hid (RMem s w sb rb mb ab fb sh f V 0 P wr):=hid (by rw[<-t,<-i];exact e.out.1);have q:=hid (And.intro t i);have K:P<=s.length:=by omega
     clear e t i H;have F:wr.cell? ⟨ab,0,none⟩=some (.int .i64 (P:Int)):=c.out.a.cell 0;have y:∀j,wr.frozen? ⟨ab,j,none⟩=false:=c.out.a.frozen;have G:wr.cell? ⟨sb,0,none⟩=some (.string ⟨s.toArray⟩):=c.out.s.cell 0;have g:wr.cell? ⟨mb,9,none⟩=some (.int .i64 (V:Int)):=c.out.m.cell 9;have B:∀j,wr.frozen? ⟨mb,j,none⟩=false:=c.out.m.frozen;have d:Hid ((k=9\/∀h2:P<s.length,Gr.dig (s[P]'h2)=false)->∃k_1:Nat,k_1<=9/\p+1+k_1<=s.length/\Value.int .i64 (k:Int)=.int .i64 (k_1:Int)/\Hid (RMem s w sb rb mb ab fb sh f (Gr.val ((s.drop (p+1)).take k_1)) 0 (p+1+k_1) wr/\((s.drop (p+1)).take k_1).all Gr.dig=true/\(k_1=9\/∀h2:p+1+k_1<s.length,Gr.dig (s[p+1+k_1]'h2)=false))):=hid (fun hs=>by
      obtain⟨t,i⟩:=q.out;subst t;subst i;exact⟨k,hk,K,rfl,hid ⟨c.out,J.out,hs⟩⟩)
     by_cases hk9:k<9
     .have Z:(k:Int)<9:=by omega
      by_cases hlP:P<s.length
      .have O:(P:Int)<(s.length:Int):=by omega
       obtain⟨b,C⟩:∃b:Nat,(s[P]'hlP).toNat=b:=⟨_,rfl⟩
       have ad:(((⟨s.toArray⟩:ByteArray)[P]'(by simpa[ByteArray.size]using hlP)).toNat:Int)=(b:Int):=by rw[<-C];rfl
       have hbl:b<256:=by rw[<-C];exact(s[P]'hlP).toNat_lt
       have E:=hid (zd4 (s[P]'hlP) b C);clear C;by_cases h48:48<=b
       .have af:(48:Int)<=(b:Int):=by omega
        by_cases h57:b<=57
        .have ae:(b:Int)<=57:=by omega
         have M:Hid (V*10+(b-48)=Gr.val ((s.drop (p+1)).take (k+1))/\((s.drop (p+1)).take (k+1)).all Gr.dig=true):=hid (by
          obtain⟨t,i⟩:=q.out;subst t;rw[zco s (p+1) k hlP,List.all_append,J.out,zbi,i,E.out.2];exact⟨by omega,by simp[E.out.1,h48,h57]⟩)
         go_upto_region 21 with fail;clear F y G g B;have g:∀W:WB wr.heap.size wr,W.w.cell? ⟨mb,9,none⟩=some (.int .i64 (V:Int)):=fun W=>(c.out.up W.h).m.cell 9
         have F:∀W:WB wr.heap.size wr,W.w.cell? ⟨ab,0,none⟩=some (.int .i64 (P:Int)):=fun W=>(c.out.up W.h).a.cell 0
         have G:∀W:WB wr.heap.size wr,W.w.cell? ⟨sb,0,none⟩=some (.string ⟨s.toArray⟩):=fun W=>(c.out.up W.h).s.cell 0
         refine zbr 10 wr.heap.size wr (by kernel_rfl) (by kernel_rfl) (Below.refl _ _) ?_;simp only[List.take_succ_cons,List.take_zero,List.drop_succ_cons,List.drop_zero]
         iterate 10 (go_big_quiet_step (fail))
         refine wpQuiet_nil ?_;rintro _ ⟨wz,rfl⟩;have u:=hid (c.out.up wz.h);obtain⟨o,S⟩:=ex wz.w
         rw[S]at u ⊢;clear g F G S;have F:o.cell? ⟨ab,0,none⟩=some (.int .i64 (P:Int)):=u.out.a.cell 0;have y:∀j,o.frozen? ⟨ab,j,none⟩=false:=u.out.a.frozen;have G:o.cell? ⟨sb,0,none⟩=some (.string ⟨s.toArray⟩):=u.out.s.cell 0;have g:o.cell? ⟨mb,9,none⟩=some (.int .i64 (V:Int)):=u.out.m.cell 9;have B:∀j,o.frozen? ⟨mb,j,none⟩=false:=u.out.m.frozen;have qA2:∀v,(o.setCell ⟨mb,9,none⟩ v).cell? ⟨ab,0,none⟩=some (.int .i64 (P:Int)):=fun v=>(u.out.a.far (u.out.a.ne_ u.out.m (by decide)) v).cell 0
         have qF2:∀v j,(o.setCell ⟨mb,9,none⟩ v).frozen? ⟨ab,j,none⟩=false:=fun v j=>(u.out.a.far (u.out.a.ne_ u.out.m (by decide)) v).frozen j
         go_wp2;go_roundw
         case rel=>
          have hx:RMem s w sb rb mb ab fb sh f (Gr.val ((s.drop (p+1)).take (k+1))) 0 (p+1+(k+1)) ((o.setCell ⟨mb,9,none⟩ (.int .i64 (10*(V:Int)+((b:Int)-48)))).setCell ⟨ab,0,none⟩ (.int .i64 ((P:Int)+1))):=by
           rw[<-M.out.1,show p+1+(k+1)=P+1 from by have:=q.out.1;omega,show 10*(V:Int)+((b:Int)-48)=((V*10+(b-48):Nat):Int)from by omega,show(P:Int)+1=((P+1:Nat):Int)from by omega];exact(u.out.ns _).at_ _
          exact⟨k+1,by omega,by have:=q.out.1;omega,by go_num,hid ⟨hx,M.out.2⟩⟩
         case measure=>simp[intOf];omega
        .have ae:¬(b:Int)<=57:=by omega
         go_wp2;go_meet;exact d.out (.inr (fun _=>by rw[E.out.1];simp[h57]))
       .have af:¬(48:Int)<=(b:Int):=by omega
        go_wp2;go_meet;exact d.out (.inr (fun _=>by rw[E.out.1];simp[h48]))
      .have O:¬(P:Int)<(s.length:Int):=by omega
       go_wp2;go_meet;exact d.out (.inr (fun h=>absurd h hlP))
     .have Z:¬(k:Int)<9:=by omega
      go_wp2;go_meet;exact d.out (.inl (by omega))
   case rest=>
   obtain⟨k,hk,H,rfl,e⟩:=hcut;obtain⟨P,t⟩:=ex (p+1+k)
   obtain⟨V,i⟩:=ex (Gr.val ((s.drop (p+1)).take k))
   have I:V<10 ^ k:=by
    have h:=zew _ e.out.2.1;rw[i]at h;rwa[show((s.drop (p+1)).take k).length=k from by simp;omega]at h
   have am:=hid I;have c:Hid (RMem s w sb rb mb ab fb sh f V 0 P wc):=hid (by rw[<-t,<-i];exact e.out.1);have J:=hid e.out.2;have q:=hid (And.intro t i);have K:P<=s.length:=by omega
   clear e t i H I;refine(‹∀(a:Act) (w_1:World),Code.wp prog _ _ a w_1->_›) _ _ ?_;by_cases h0:k=0
   .have D:(k:Int)=0:=by omega
    have X:((k:Int)==0)=true:=by simpa using D
    have U:Hid (T=none):=hid (by
     rw[HT.out.1,zm6 l.out (by omega)];rcases J.out.2 with h|h
     .omega
     .subst h0;exact h)
    clear h0 HT L J;obtain⟨m0,m1,m2,m3,m4,m5,m6,m7,m8,m9,m10⟩:=zaf c.out.m;obtain⟨x0,x1,x2,x3,x4,x5,x6,x7,x8,x9,x10⟩:=zaf c.out.r;have xf:∀j,wc.frozen? ⟨rb,j,none⟩=false:=c.out.r.frozen;go_wp2_with fail;have ag:Blk (((((((((((wc.setCell ⟨rb,0,none⟩ (.int .i64 (sh:Int))).setCell ⟨rb,1,none⟩ (.int .i64 (f 0:Int))).setCell ⟨rb,2,none⟩ (.int .i64 (f 1:Int))).setCell ⟨rb,3,none⟩ (.int .i64 (f 2:Int))).setCell ⟨rb,4,none⟩ (.int .i64 (f 3:Int))).setCell ⟨rb,5,none⟩ (.int .i64 (f 4:Int))).setCell ⟨rb,6,none⟩ (.int .i64 (f 5:Int))).setCell ⟨rb,7,none⟩ (.int .i64 (f 6:Int))).setCell ⟨rb,8,none⟩ (.int .i64 (f 7:Int))).setCell ⟨rb,9,none⟩ (.int .i64 (V:Int))).setCell ⟨rb,10,none⟩ (.int .u8 ((0:Nat):Int))) rb 94 (mC sh f V (0:Nat)):=zba c.out.r;obtain⟨e0,e1,e2,e3,e4,e5,e6,e7,e8,e9,e10⟩:=zaf ag;have ah:Below w.heap.size w (((((((((((wc.setCell ⟨rb,0,none⟩ (.int .i64 (sh:Int))).setCell ⟨rb,1,none⟩ (.int .i64 (f 0:Int))).setCell ⟨rb,2,none⟩ (.int .i64 (f 1:Int))).setCell ⟨rb,3,none⟩ (.int .i64 (f 2:Int))).setCell ⟨rb,4,none⟩ (.int .i64 (f 3:Int))).setCell ⟨rb,5,none⟩ (.int .i64 (f 4:Int))).setCell ⟨rb,6,none⟩ (.int .i64 (f 5:Int))).setCell ⟨rb,7,none⟩ (.int .i64 (f 6:Int))).setCell ⟨rb,8,none⟩ (.int .i64 (f 7:Int))).setCell ⟨rb,9,none⟩ (.int .i64 (V:Int))).setCell ⟨rb,10,none⟩ (.int .u8 ((0:Nat):Int))):=zcr c.out.b c.out.n;refine bodyPost_ret (v:=.tuple #[.agg #[.int .i64 (sh:Int),.int .i64 (f 0:Int),.int .i64 (f 1:Int),.int .i64 (f 2:Int),.int .i64 (f 3:Int),.int .i64 (f 4:Int),.int .i64 (f 5:Int),.int .i64 (f 6:Int),.int .i64 (f 7:Int),.int .i64 (V:Int),.int .u8 ((0:Nat):Int)],.bool false]) (by rw[results_cell_tmp rfl];go_simp) rfl ?_;have ak:T=none:=U.out;unfold RPost;rw[ak];exact⟨ah,sh,f,V,(0:Nat),rfl,fun x hx=>by cases hx⟩
   .have D:¬(k:Int)=0:=by omega
    have X:((k:Int)==0)=false:=by simpa using D
    have ai:Hid (T=finO s sh f (V*10 ^ (9-k)) P):=hid (by
     obtain⟨t,i⟩:=q.out;rw[HT.out.1,zm5 l.out (by omega) J.out.1 (by omega) hk J.out.2,i,t])
    clear h0 L;go_wp2_with fail;clear D X;go_loopw [8] (fun s8 wr=>∃j:Nat,k<=j/\j<=9/\s8=.int .i64 (j:Int)/\Hid (RMem s w sb rb mb ab fb sh f (V*10 ^ (j-k)) 0 P wr)) (fun s8 _=>9-(intOf s8).toNat)
    case atStart=>exact⟨k,by omega,hk,rfl,by simpa using c⟩
    case round=>
     obtain⟨j,hkj,al,rfl,e⟩:=hrel;obtain⟨Q,hQ⟩:=ex (V*10 ^ (j-k))
     have hQ9:Q<=999999999:=by
      have h1:Q<10 ^ j:=by
       rw[<-hQ]
       calc V*10 ^ (j-k)<10 ^ k*10 ^ (j-k):=Nat.mul_lt_mul_of_pos_right am.out (Nat.pow_pos (by omega))
        _=10 ^ j:=by rw[<-Nat.pow_add];congr 1;omega
      have h2:(10:Nat) ^ j<=10 ^ 9:=Nat.pow_le_pow_right (by omega) al;omega
     rw[hQ]at e;have HQ:=hid hQ;clear hQ;have F:wr.cell? ⟨ab,0,none⟩=some (.int .i64 (P:Int)):=e.out.a.cell 0;have y:∀j,wr.frozen? ⟨ab,j,none⟩=false:=e.out.a.frozen;have G:wr.cell? ⟨sb,0,none⟩=some (.string ⟨s.toArray⟩):=e.out.s.cell 0;have g:wr.cell? ⟨mb,9,none⟩=some (.int .i64 (Q:Int)):=e.out.m.cell 9;have B:∀j,wr.frozen? ⟨mb,j,none⟩=false:=e.out.m.frozen;by_cases hlt9:j<9
     .have A:(j:Int)<9:=by omega
      go_wp2;go_roundw
      case rel=>
       have hx:RMem s w sb rb mb ab fb sh f (V*10 ^ (j+1-k)) 0 P (wr.setCell ⟨mb,9,none⟩ (.int .i64 ((Q:Int)*10))):=by
        rw[show j+1-k=(j-k)+1 from by omega,Nat.pow_succ,<-Nat.mul_assoc,HQ.out,show(Q:Int)*10=((Q*10:Nat):Int)from by omega];exact e.out.ns _
       exact⟨j+1,by omega,by omega,by go_num,hid hx⟩
      case measure=>simp[intOf];omega
     .have A:¬(j:Int)<9:=by omega
      obtain rfl:j=9:=by omega
      go_wp2;go_meet;exact⟨Q,P,K,e,by rw[<-HQ.out];exact ai⟩
 case rest=>
 obtain⟨nn',p',ac,aa,aj⟩:=hcut;refine(‹∀(a:Act) (w_1:World),Code.wp prog _ _ a w_1->_›) _ _ ?_;exact zwm s hl w _ sb rb mb ab fb sh f nn' p' T aa ac hsh (hid ⟨aj.out,HT.out.2⟩)
def OfPost (Z nanos:Int) (w:World) (e:Ending) (w':World):Prop:=∃y m d:Int,Cal.vld y m d=true/\Cal.num y m d=Z /86400-719528/\e=.returned (.agg #[.bool true,.bool true,.bool true,.int .i64 y,.int .i64 m,.int .i64 d,.int .i64 (Z%86400 /3600),.int .i64 (Z%86400 /60%60),.int .i64 (Z%86400%60),.int .i64 nanos,.int .i64 0,.bool false])/\Below w.heap.size w w'
theorem zwu (S Z nanos:Int) (hz:S- -62167219200=Z) (h0:0<=Z) (h1:Z<=315569519999) (w:World):
 Calls prog 178 #[.int .i64 S,.int .i64 nanos] w (OfPost Z nanos w):=by
 have hS0:-62167219200<=S:=by omega
 have hS1:S<=253402300799:=by omega
 obtain⟨N,V⟩:=ex (Z /86400)
 obtain⟨R,hR⟩:=ex (Z%86400)
 have Y:0<=N:=by omega
 have hN1:N<=3652424:=by omega
 have hR0:0<=R:=by omega
 have hR1:R<=86399:=by omega
 have O:Hid (Z /86400=N/\Z%86400=R):=hid ⟨V,hR⟩;have HD:Hid (∀y:Int,0<=y->y<=10000->∀W,Calls prog 196 #[.int .i64 y,.int .i64 1,.int .i64 1] W fun e i=>e=.returned (.int .i64 (Cal.fst y-719528))/\W=i):=hid (fun y a b W=>by
  have:=ziu y 1 1 a (by omega) (by omega) (by omega) (by omega) (by omega) W;rwa[show Cal.num y 1 1=Cal.fst y-719528 from by unfold Cal.num;rw[Cal.zyy];omega]at this)
 go_enter func178,ntmps178;go_upto_region 5 with fail;obtain⟨c,t⟩:=ex w.heap.size
 obtain⟨B,D⟩:∃B,B=(w.alloc (.cells #[.bool false,.bool false,.bool false,.int .i64 0,.int .i64 0,.int .i64 0,.int .i64 0,.int .i64 0,.int .i64 0,.int .i64 0,.int .i64 0,.bool false] 162)).alloc (.cells #[.bool true,.bool true,.bool true,.int .i64 0,.int .i64 0,.int .i64 0,.int .i64 (R /3600),.int .i64 (R /60%60),.int .i64 (R%60),.int .i64 nanos,.int .i64 0,.bool false] 162):=⟨_,rfl⟩
 have l:Hid (Blk B (c+1) 162 (T12 true true true 0 0 0 (R /3600) (R /60%60) (R%60) nanos 0 false)/\Blk B c 162 (T12 false false false 0 0 0 0 0 0 0 0 false)/\Below c w B):=hid (by
  rw[D,<-t];refine⟨?_,(Blk.new _ _ _).alloc _,zbu _ _⟩;have:=Blk.new (w.alloc (.cells #[.bool false,.bool false,.bool false,.int .i64 0,.int .i64 0,.int .i64 0,.int .i64 0,.int .i64 0,.int .i64 0,.int .i64 0,.int .i64 0,.bool false] 162)) 162 (T12 true true true 0 0 0 (R /3600) (R /60%60) (R%60) nanos 0 false);rwa[World.size_alloc]at this)
 have ac:=hid t;(try rw[<-D]);(try rw[t]);rw[V,hR];clear D t V hR hz h0 h1;have F:B.cell? ⟨c+1,3,none⟩=some (.int .i64 0):=l.out.1.cell 3;have P:∀j,B.frozen? ⟨c+1,j,none⟩=false:=l.out.1.frozen;have ab:=hid (Cal.zxu N Y);go_wp2_with fail;clear F P;go_loopw [35] (fun _ wr=>∃y:Int,0<=y/\y<=9999/\Hid (Cal.fst y<=N/\Blk wr (c+1) 162 (T12 true true true y 0 0 (R /3600) (R /60%60) (R%60) nanos 0 false)/\Blk wr c 162 (T12 false false false 0 0 0 0 0 0 0 0 false)/\Below c w wr)) (fun _ wr=>match wr.cell? ⟨c+1,3,none⟩with|some (.int _ n)=>10000-n.toNat|_=>0)
 case atStart=>exact⟨N /366,by omega,by omega,hid ⟨ab.out,l.out.1.set_ 3 _,l.out.2.1.far (Nat.succ_ne_self c).symm _,l.out.2.2.setCell (p:=⟨c+1,3,none⟩) (by simp) _⟩⟩
 case round=>
  obtain⟨r,X⟩:∃r,r=wr:=⟨_,rfl⟩
  subst X;obtain⟨y,J,af,o⟩:=hrel;have M:=Cal.zk0 y J;have hl:=Cal.zxs y;have bd:=Cal.zxt y (by omega) (by omega);have ae:=Cal.zxt (y+1) (by omega) (by omega);have H:Hid (Cal.fst (y+1)=Cal.fst y+365+Cal.lp y/\0<=Cal.lp y/\Cal.lp y<=1):=hid ⟨M,hl⟩;obtain⟨I,s⟩:=ex (Cal.fst (y+1))
  obtain⟨x,u⟩:=ex (Cal.fst y)
  have f:Hid (Cal.fst (y+1)=I/\Cal.fst y=x):=hid ⟨s,u⟩;have K:Hid (∀W,Calls prog 196 #[.int .i64 (y+1),.int .i64 1,.int .i64 1] W fun e i=>e=.returned (.int .i64 (I-719528))/\W=i):=hid (fun W=>by rw[<-s];exact HD.out (y+1) (by omega) (by omega) W);have ad:Hid (∀W,Calls prog 196 #[.int .i64 y,.int .i64 1,.int .i64 1] W fun e i=>e=.returned (.int .i64 (x-719528))/\W=i):=hid (fun W=>by rw[<-u];exact HD.out y (by omega) (by omega) W);rw[s]at ae;rw[u]at bd;clear M hl s u;have F:r.cell? ⟨c+1,3,none⟩=some (.int .i64 y):=o.out.2.1.cell 3;have Q:r.cell? ⟨c+1,4,none⟩=some (.int .i64 0):=o.out.2.1.cell 4;have P:∀j,r.frozen? ⟨c+1,j,none⟩=false:=o.out.2.1.frozen;have hNf:x<=N:=by have:=o.out.1;rw[f.out.2]at this;exact this
  by_cases hc:I<=N
  .have an:I-719528<=N-719528:=by omega
   have hy4:y<9999:=by
    have:=Cal.zo9;by_cases e:y=9999
    .subst e;have h2:=f.out.1;rw[show(9999:Int)+1=10000 from rfl]at h2;omega
    .omega
   have k:Hid (Cal.fst (y+1)<=N/\Blk (r.setCell ⟨c+1,3,none⟩ (.int .i64 (y+1))) (c+1) 162 (T12 true true true (y+1) 0 0 (R /3600) (R /60%60) (R%60) nanos 0 false)/\Blk (r.setCell ⟨c+1,3,none⟩ (.int .i64 (y+1))) c 162 (T12 false false false 0 0 0 0 0 0 0 0 false)/\Below c w (r.setCell ⟨c+1,3,none⟩ (.int .i64 (y+1)))):=hid ⟨by rw[f.out.1];exact hc,o.out.2.1.set_ 3 _,o.out.2.2.1.far (Nat.succ_ne_self c).symm _,o.out.2.2.2.setCell (p:=⟨c+1,3,none⟩) (by simp) _⟩;go_wp2_with fail;refine(K.out _).mono ?_;rintro e i ⟨rfl,rfl⟩;go_wp2_with fail;have aj:(r.setCell ⟨c+1,3,none⟩ (.int .i64 (y+1))).cell? ⟨c+1,3,none⟩=some (.int .i64 (y+1)):=k.out.2.1.cell 3;go_roundw
   case rel=>exact⟨y+1,by omega,by omega,k⟩
   case measure=>rw[aj,F];simp only;omega
  .have an:¬I-719528<=N-719528:=by omega
   have hN2:N<x+366:=by have h1:=H.out;rw[f.out.1,f.out.2]at h1;omega
   have ak:Hid (N<x+365+Cal.lp y):=hid (by have h1:=H.out;rw[f.out.1,f.out.2]at h1;omega);go_wp2_with fail;refine(K.out _).mono ?_;rintro e i ⟨rfl,rfl⟩;go_wp2_with fail;refine(ad.out _).mono ?_;rintro e i ⟨rfl,rfl⟩;go_wp2_with fail;clear F Q P;go_loopw [6] (fun s6 wr=>∃m v:Int,1<=m/\m<=12/\0<=v/\v<=366/\s6=.int .i64 v/\Hid (v=N-x-Cal.cum y m/\Blk wr (c+1) 162 (T12 true true true y m 0 (R /3600) (R /60%60) (R%60) nanos 0 false)/\Blk wr c 162 (T12 false false false 0 0 0 0 0 0 0 0 false)/\Below c w wr)) (fun s6 wr=>match wr.cell? ⟨c+1,4,none⟩with|some (.int _ n)=>13-n.toNat|_=>0)
   case atStart=>exact⟨1,N-x,by omega,by omega,by omega,by omega,by exact congrArg (Value.int .i64) (by omega),hid ⟨by rw[Cal.zyy];omega,o.out.2.1.set_ 4 _,o.out.2.2.1.far (Nat.succ_ne_self c).symm _,o.out.2.2.2.setCell (p:=⟨c+1,4,none⟩) (by simp) _⟩⟩
   case round=>
    obtain⟨g,aa⟩:∃g,g=wr:=⟨_,rfl⟩
    subst aa;obtain⟨m,v,z,C,hv0,hv1,rfl,d⟩:=hrel;have E:=Cal.zg5 y m z C;have am:=Cal.zxv y m;obtain⟨q,T⟩:=ex (Cal.dim y m)
    have A:Hid (∀W,Calls prog 183 #[.int .i64 y,.int .i64 m] W fun e i=>e=.returned (.int .i64 q)/\W=i):=hid (fun W=>by rw[<-T];exact zd6 y m z C W);rw[T]at E am;have L:=hid E;have HQ:=hid T;clear E T;have F:g.cell? ⟨c+1,3,none⟩=some (.int .i64 y):=d.out.2.1.cell 3;have Q:g.cell? ⟨c+1,4,none⟩=some (.int .i64 m):=d.out.2.1.cell 4;have P:∀j,g.frozen? ⟨c+1,j,none⟩=false:=d.out.2.1.frozen;by_cases hd:q<=v
    .have hm4:m<12:=by
      by_cases e:m=12
      .subst e;have h1:=L.out;have h2:=ak.out;have h3:=Cal.zxy y;have h4:=d.out.1;rw[show(12:Int)+1=13 from rfl]at h1;omega
      .omega
     have k:Hid (v-q=N-x-Cal.cum y (m+1)/\Blk (g.setCell ⟨c+1,4,none⟩ (.int .i64 (m+1))) (c+1) 162 (T12 true true true y (m+1) 0 (R /3600) (R /60%60) (R%60) nanos 0 false)/\Blk (g.setCell ⟨c+1,4,none⟩ (.int .i64 (m+1))) c 162 (T12 false false false 0 0 0 0 0 0 0 0 false)/\Below c w (g.setCell ⟨c+1,4,none⟩ (.int .i64 (m+1)))):=hid ⟨by rw[L.out];have:=d.out.1;omega,d.out.2.1.set_ 4 _,d.out.2.2.1.far (Nat.succ_ne_self c).symm _,d.out.2.2.2.setCell (p:=⟨c+1,4,none⟩) (by simp) _⟩;go_wp2_with fail;refine(A.out _).mono ?_;rintro e i ⟨rfl,rfl⟩;go_wp2_with fail;refine(A.out _).mono ?_;rintro e i ⟨rfl,rfl⟩;go_wp2_with fail;have al:(g.setCell ⟨c+1,4,none⟩ (.int .i64 (m+1))).cell? ⟨c+1,4,none⟩=some (.int .i64 (m+1)):=k.out.2.1.cell 4;go_roundw
     case rel=>exact⟨m+1,v-q,by omega,by omega,by omega,by omega,rfl,k⟩
     case measure=>rw[al,Q];simp only;omega
    .have h:Hid (Blk (g.setCell ⟨c+1,5,none⟩ (.int .i64 (v+1))) (c+1) 162 (T12 true true true y m (v+1) (R /3600) (R /60%60) (R%60) nanos 0 false)/\Blk (g.setCell ⟨c+1,5,none⟩ (.int .i64 (v+1))) c 162 (T12 false false false 0 0 0 0 0 0 0 0 false)/\Below c w (g.setCell ⟨c+1,5,none⟩ (.int .i64 (v+1)))):=hid ⟨d.out.2.1.set_ 5 _,d.out.2.2.1.far (Nat.succ_ne_self c).symm _,d.out.2.2.2.setCell (p:=⟨c+1,5,none⟩) (by simp) _⟩;have q5:g.cell? ⟨c+1,5,none⟩=some (.int .i64 0):=d.out.2.1.cell 5;go_wp2_with fail;refine(A.out _).mono ?_;rintro e i ⟨rfl,rfl⟩;go_upto_region 14 with fail;obtain⟨U,G⟩:=ex (g.setCell ⟨c+1,5,none⟩ (.int .i64 (v+1)))
     rw[G]at h ⊢;clear G F Q q5 P;obtain⟨a0,a1,a2,a3,a4,a5,a6,a7,a8,a9,a10,a11⟩:=zag h.out.1;have xb:∀j,U.cell? ⟨c,j,none⟩=(#[.bool false,.bool false,.bool false,.int .i64 0,.int .i64 0,.int .i64 0,.int .i64 0,.int .i64 0,.int .i64 0,.int .i64 0,.int .i64 0,.bool false]:Array Value)[j]? :=fun j=>h.out.2.1.cell j
     have xf:∀j,U.frozen? ⟨c,j,none⟩=false:=h.out.2.1.frozen;go_wp2_with fail;have ag:Blk ((((((((((((U.setCell ⟨c,0,none⟩ (.bool true)).setCell ⟨c,1,none⟩ (.bool true)).setCell ⟨c,2,none⟩ (.bool true)).setCell ⟨c,3,none⟩ (.int .i64 y)).setCell ⟨c,4,none⟩ (.int .i64 m)).setCell ⟨c,5,none⟩ (.int .i64 (v+1))).setCell ⟨c,6,none⟩ (.int .i64 (R /3600))).setCell ⟨c,7,none⟩ (.int .i64 (R /60%60))).setCell ⟨c,8,none⟩ (.int .i64 (R%60))).setCell ⟨c,9,none⟩ (.int .i64 nanos)).setCell ⟨c,10,none⟩ (.int .i64 0)).setCell ⟨c,11,none⟩ (.bool false)) c 162 (T12 true true true y m (v+1) (R /3600) (R /60%60) (R%60) nanos 0 false):=zbb h.out.2.1;have ah:Below c w ((((((((((((U.setCell ⟨c,0,none⟩ (.bool true)).setCell ⟨c,1,none⟩ (.bool true)).setCell ⟨c,2,none⟩ (.bool true)).setCell ⟨c,3,none⟩ (.int .i64 y)).setCell ⟨c,4,none⟩ (.int .i64 m)).setCell ⟨c,5,none⟩ (.int .i64 (v+1))).setCell ⟨c,6,none⟩ (.int .i64 (R /3600))).setCell ⟨c,7,none⟩ (.int .i64 (R /60%60))).setCell ⟨c,8,none⟩ (.int .i64 (R%60))).setCell ⟨c,9,none⟩ (.int .i64 nanos)).setCell ⟨c,10,none⟩ (.int .i64 0)).setCell ⟨c,11,none⟩ (.bool false)):=zcd h.out.2.2 (Nat.le_refl c);obtain⟨e0,e1,e2,e3,e4,e5,e6,e7,e8,e9,ai,ao⟩:=zag ag;refine bodyPost_ret (v:=.agg #[.bool true,.bool true,.bool true,.int .i64 y,.int .i64 m,.int .i64 (v+1),.int .i64 (R /3600),.int .i64 (R /60%60),.int .i64 (R%60),.int .i64 nanos,.int .i64 0,.bool false]) (by simp[results,results178,go_sem,e0,e1,e2,e3,e4,e5,e6,e7,e8,e9,ai,ao]) rfl ?_;unfold OfPost;rw[O.out.1,O.out.2,ac.out];exact⟨y,m,v+1,Cal.zze ⟨J,af,z,C,by omega,by rw[HQ.out];omega⟩,by unfold Cal.num;rw[f.out.2];have:=d.out.1;omega,rfl,ah⟩
end Go.Proofs.YtpjmhafmeieloaaGreatDoor
