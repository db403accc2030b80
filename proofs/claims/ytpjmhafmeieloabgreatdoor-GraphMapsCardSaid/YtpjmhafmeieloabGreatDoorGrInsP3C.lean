import Derived.Test.YtpjmhafmeieloabGreatDoorGrInsP3B
namespace Go.Proofs.YtpjmhafmeieloabGreatDoor
open Gr
open _root_.Go.Proofs.Tryz
open _root_.Go.Lib (hid)
set_option maxRecDepth 100000
set_option maxHeartbeats 16000000
open Go.RowKit
theorem zpr {s:Gr.Str} {b n:Nat} (hle:b+n<=s.length) (hd:((s.drop b).take n).all Gr.dig=true) (hn:∀h2:b+n<s.length,Gr.dig (s[b+n]'h2)=false):(s.drop b).takeWhile Gr.dig=(s.drop b).take n:=by
 have a:s.drop b=(s.drop b).take n++s.drop (b+n):=by
  rw[<-List.drop_drop];exact(List.take_append_drop n (s.drop b)).symm
 rw[a,List.takeWhile_append_of_pos (by simpa using hd)];have h2:(s.drop (b+n)).takeWhile Gr.dig=[]:=by
  rcases Nat.lt_or_ge (b+n) s.length with h3|h3
  .rw[List.drop_eq_getElem_cons h3,List.takeWhile_cons,hn h3];rfl
  .rw[List.drop_eq_nil_of_le h3];rfl
 rw[h2,List.append_nil,List.take_append_of_le_length (by simp;omega),List.take_take,Nat.min_self]
theorem zv8 {s:Gr.Str} {b n:Nat} (hle:b+n<=s.length) (hd:((s.drop b).take n).all Gr.dig=true):n<=((s.drop b).takeWhile Gr.dig).length:=by
 have a:s.drop b=(s.drop b).take n++s.drop (b+n):=by
  rw[<-List.drop_drop];exact(List.take_append_drop n (s.drop b)).symm
 rw[a,List.takeWhile_append_of_pos (by simpa using hd),List.length_append];have:((s.drop b).take n).length=n:=by simp;omega
 omega
def pointO (s:Gr.Str) (sh:Nat) (f:Nat->Nat) (p:Nat):Option (Array Value):=
 if isAt s p 46=true then
  if((s.drop (p+1)).takeWhile Gr.dig).length=0\/9<((s.drop (p+1)).takeWhile Gr.dig).length then none
  else finO s sh f (Gr.val ((s.drop (p+1)).takeWhile Gr.dig)*10 ^ (9-((s.drop (p+1)).takeWhile Gr.dig).length)) (p+1+((s.drop (p+1)).takeWhile Gr.dig).length)
 else finO s sh f 0 p
theorem zmi {s:Gr.Str} {sh:Nat} {f:Nat->Nat} {p k:Nat} (hp:isAt s p 46=true) (hle:p+1+k<=s.length) (hd:((s.drop (p+1)).take k).all Gr.dig=true) (h1:1<=k) (h9:k<=9) (hn:k=9\/∀h2:p+1+k<s.length,Gr.dig (s[p+1+k]'h2)=false):
 pointO s sh f p=finO s sh f (Gr.val ((s.drop (p+1)).take k)*10 ^ (9-k)) (p+1+k):=by
 unfold pointO;rw[if_pos hp];have d:((s.drop (p+1)).take k).length=k:=by clear hn;simp;omega
 by_cases hx:∀h2:p+1+k<s.length,Gr.dig (s[p+1+k]'h2)=false
 .rw[zpr hle hd hx,d,if_neg (by clear hx hn;omega)]
 .have h92:k=9:=by rcases hn with h|h;exact h;exact absurd h hx
  have a:p+1+k<s.length:=by
   rcases Nat.lt_or_ge (p+1+k) s.length with h|h
   .exact h
   .exact absurd (fun h2=>absurd h2 (Nat.not_lt.2 h)) hx
  have c:Gr.dig (s[p+1+k]'a)=true:=by
   cases hc:Gr.dig (s[p+1+k]'a)with
   |true=>rfl
   |false=>exact absurd (fun _=>hc) hx
  clear hn hx;have hl2:=zv8 (s:=s) (b:=p+1) (n:=k+1) (by omega) (by rw[zcj s (p+1) k a,List.all_append,hd];simp[c]);rw[if_pos (by omega)];unfold finO;rw[if_neg (by omega)];split
  .rw[zk2 a rfl]<;>(intro e;rw[(zdx _ _ e).1]at c;revert c;decide)
  .rfl
theorem zmj {s:Gr.Str} {sh:Nat} {f:Nat->Nat} {p:Nat} (hp:isAt s p 46=true) (hle:p+1<=s.length) (hn:∀h2:p+1<s.length,Gr.dig (s[p+1]'h2)=false):pointO s sh f p=none:=by
 unfold pointO;rw[if_pos hp,zpr (n:=0) (by omega) (by simp) hn];simp
theorem zk3 {s:Gr.Str} {sh:Nat} {f:Nat->Nat} {p:Nat} (hp:isAt s p 46=false):pointO s sh f p=finO s sh f 0 p:=by
 unfold pointO;rw[if_neg (by rw[hp];decide)]
theorem RMem.at_ {s:Gr.Str} {w:World} {sb rb mb ab fb sh:Nat} {f:Nat->Nat} {nn z p:Nat} {wx:World} (h:RMem s w sb rb mb ab fb sh f nn z p wx) (q:Nat):RMem s w sb rb mb ab fb sh f nn z q (wx.setCell ⟨ab,0,none⟩ (.int .i64 (q:Int))):=
 h.fld (KM.ofA (Kept1.set _ _)) (h.m.far (h.m.ne_ h.a (by decide)) _) (h.a.set_ 0 _)
theorem RMem.ns {s:Gr.Str} {w:World} {sb rb mb ab fb sh:Nat} {f:Nat->Nat} {nn z p:Nat} {wx:World} (h:RMem s w sb rb mb ab fb sh f nn z p wx) (q:Nat):RMem s w sb rb mb ab fb sh f q z p (wx.setCell ⟨mb,9,none⟩ (.int .i64 (q:Int))):=
 have c:KM mb ab wx (wx.setCell ⟨mb,9,none⟩ (.int .i64 (q:Int))):=KM.ofM (Kept1.set _ _)
 ⟨h.b.trans (c.below h.b.size h.nm h.na),h.n,h.nm,h.na,h.mr,c.blk h.s (h.s.ne_ h.m (by decide)) (h.s.ne_ h.a (by decide)),c.blk h.r h.mr.symm (h.r.ne_ h.a (by decide)),h.m.set_ 9 _,h.a.far (h.a.ne_ h.m (by decide)) _,c.blk h.f (h.f.ne_ h.m (by decide)) (h.f.ne_ h.a (by decide))⟩
theorem zs7 (s:Gr.Str) (hl:s.length<=1073741823) (w wx:World) (sb rb mb ab fb sh:Nat) (f:Nat->Nat) (p:Nat) (T:Option (Array Value)) (HM:Hid (RMem s w sb rb mb ab fb sh f 0 0 p wx)) (hp:p<=s.length) (hsh:sh<=3) (HT:Hid (T=pointO s sh f p/\f 6=0/\f 7=0)) {u3 u8 u9 u10 u11 u12 u13 u14 u15 u16 u17 u18 u19 u20 u21 u22 u23 u24 u25 u26 u27 u28 u29 u30 u31 u32 u33 u34 u35 u36 u37 u38 u39 u40 u41 u42 u43 u44 u45 u46 u47 u48 u49 u50 u51 u52 u53 u54 u55 u56 u57 u58 u59 u60 u61 u62 u63 u64 u65 u66 u67 u68 u69 u70 u71 u72 u73 u74 u75 u76 u77 u78 u79 u80 u81 u82 u83 u84 u85 u86 u87 u88 u89 u90 u91 u92 u93 u94 u95 u96 u97 u98 u99 u100 u101 u102 u103 u104 u105 u106 u107 u108 u109 u110 u111 u112 u113 u114 u115 u116 u117 u118 u119 u120 u121 u122 u123 u124 u125 u126 u127 u128 u129 u130 u131 u132 u133 u134 u135 u136 u137 u138 u139 u140 u141 u142 u143 u144 u145 u146 u147 u148 u149 u150 u151 u152 u153 u154:Value}:
 Code.wp prog (tl 8 (f55.body.getD .skip)) (bodyPost prog f55 (RPost T w)) {tmps:=List.toArray (.string ⟨s.toArray⟩::.pointer (some ⟨sb,0,none⟩)::.pointer (some ⟨rb,0,none⟩)::u3::.pointer (some ⟨mb,0,none⟩)::.pointer (some ⟨ab,0,none⟩)::.pointer (some ⟨fb,0,none⟩)::.func (.func 84) #[] #[.pointer (some ⟨ab,0,none⟩),.pointer (some ⟨sb,0,none⟩),.pointer (some ⟨fb,0,none⟩)]::u8::u9::u10::u11::u12::u13::u14::u15::u16::u17::u18::u19::u20::u21::u22::u23::u24::u25::u26::u27::u28::u29::u30::u31::u32::u33::u34::u35::u36::u37::u38::u39::u40::u41::u42::u43::u44::u45::u46::u47::u48::u49::u50::u51::u52::u53::u54::u55::u56::u57::u58::u59::u60::u61::u62::u63::u64::u65::u66::u67::u68::u69::u70::u71::u72::u73::u74::u75::u76::u77::u78::u79::u80::u81::u82::u83::u84::u85::u86::u87::u88::u89::u90::u91::u92::u93::u94::u95::u96::u97::u98::u99::u100::u101::u102::u103::u104::u105::u106::u107::u108::u109::u110::u111::u112::u113::u114::u115::u116::u117::u118::u119::u120::u121::u122::u123::u124::u125::u126::u127::u128::u129::u130::u131::u132::u133::u134::u135::u136::u137::u138::u139::u140::u141::u142::u143::u144::u145::u146::u147::u148::u149::u150::u151::u152::u153::u154::[]),defers:=[]} wx:=by
 generalize hc0:tl 8 (f55.body.getD .skip)=c0;simp only[tl,f55,Option.getD_some]at hc0;subst hc0;obtain⟨X,Z⟩:=ex (isAt s p 46)
 have l:=hid Z;clear Z;have G:wx.cell? ⟨ab,0,none⟩=some (.int .i64 (p:Int)):=HM.out.a.cell 0;have z:∀j,wx.frozen? ⟨ab,j,none⟩=false:=HM.out.a.frozen;have I:wx.cell? ⟨sb,0,none⟩=some (.string ⟨s.toArray⟩):=HM.out.s.cell 0;have g:wx.cell? ⟨mb,9,none⟩=some (.int .i64 ((0:Nat):Int)):=HM.out.m.cell 9;have A:∀j,wx.frozen? ⟨mb,j,none⟩=false:=HM.out.m.frozen;go_upto_region 17 with fail;go_cut [63] (fun s63 o=>s63=.bool X/\o=wx)
 case first=>
  by_cases hlt:p<s.length
  .have y:(p:Int)<(s.length:Int):=by omega
   obtain⟨b,C⟩:∃b:Nat,(s[p]'hlt).toNat=b:=⟨_,rfl⟩
   have ak:(((⟨s.toArray⟩:ByteArray)[p]'(by simpa[ByteArray.size]using hlt)).toNat:Int)=(b:Int):=by rw[<-C];rfl
   by_cases h46:b=46
   .have B:(b:Int)=46:=by omega
    have aa:((b:Int)==46)=true:=by simpa using B
    obtain rfl:X=true:=by rw[<-l.out,zbu hlt C];exact decide_eq_true h46
    clear C h46;go_wp2;go_meet;exact⟨rfl,rfl⟩
   .have B:¬(b:Int)=46:=by omega
    have aa:((b:Int)==46)=false:=by simpa using B
    obtain rfl:X=false:=by rw[<-l.out,zbu hlt C];exact decide_eq_false h46
    clear C h46;go_wp2;go_meet;exact⟨rfl,rfl⟩
  .have y:¬(p:Int)<(s.length:Int):=by omega
   obtain rfl:X=false:=by rw[<-l.out,zg6 (by omega)]
   go_wp2;go_meet;exact⟨rfl,rfl⟩
 case rest=>
 obtain⟨rfl,rfl⟩:=hcut;go_upto_if 63 with fail;go_cut [] (fun o=>∃(nn' p':Nat),p'<=s.length/\Hid (RMem s w sb rb mb ab fb sh f nn' 0 p' o)/\Hid (T=finO s sh f nn' p'))
 case first=>
  cases X with
  |false=>
   go_wp2;go_meet;exact⟨0,p,hp,HM,hid (by rw[HT.out.1,zk3 l.out])⟩
  |true=>
   have hlt:p<s.length:=by
    rcases Nat.lt_or_ge p s.length with h|h
    .exact h
    .have:=l.out;rw[zg6 h]at this;cases this
   have J:=hid (HM.out.at_ (p+1));go_upto_block 0 with fail;clear G z I g A;go_cut [8] (fun s8 o=>∃k:Nat,k<=9/\p+1+k<=s.length/\s8=.int .i64 (k:Int)/\Hid (RMem s w sb rb mb ab fb sh f (Gr.val ((s.drop (p+1)).take k)) 0 (p+1+k) o/\((s.drop (p+1)).take k).all Gr.dig=true/\(k=9\/∀h2:p+1+k<s.length,Gr.dig (s[p+1+k]'h2)=false)))
   case first=>
    go_wp2_with fail;go_loopw [8] (fun s8 wr=>∃k:Nat,k<=9/\p+1+k<=s.length/\s8=.int .i64 (k:Int)/\Hid (RMem s w sb rb mb ab fb sh f (Gr.val ((s.drop (p+1)).take k)) 0 (p+1+k) wr/\((s.drop (p+1)).take k).all Gr.dig=true)) (fun s8 _=>9-(intOf s8).toNat)
    case atStart=>exact⟨0,by omega,by omega,rfl,hid ⟨by simpa[Gr.val]using J.out,by simp⟩⟩
    case round=>
     obtain⟨k,hk,L,rfl,e⟩:=hrel;obtain⟨P,t⟩:=ex (p+1+k)
     obtain⟨V,i⟩:=ex (Gr.val ((s.drop (p+1)).take k))
     have F:V<1000000000:=by rw[<-i];exact zkz _ e.out.2 (by simp;omega)
     have K:=hid e.out.2;have c:Hid (RMem s w sb rb mb ab fb sh f V 0 P wr):=hid (by rw[<-t,<-i];exact e.out.1);have q:=hid (And.intro t i);have H:P<=s.length:=by omega
     clear e t i L;have G:wr.cell? ⟨ab,0,none⟩=some (.int .i64 (P:Int)):=c.out.a.cell 0;have z:∀j,wr.frozen? ⟨ab,j,none⟩=false:=c.out.a.frozen;have I:wr.cell? ⟨sb,0,none⟩=some (.string ⟨s.toArray⟩):=c.out.s.cell 0;have g:wr.cell? ⟨mb,9,none⟩=some (.int .i64 (V:Int)):=c.out.m.cell 9;have A:∀j,wr.frozen? ⟨mb,j,none⟩=false:=c.out.m.frozen;have d:Hid ((k=9\/∀h2:P<s.length,Gr.dig (s[P]'h2)=false)->∃k_1:Nat,k_1<=9/\p+1+k_1<=s.length/\Value.int .i64 (k:Int)=.int .i64 (k_1:Int)/\Hid (RMem s w sb rb mb ab fb sh f (Gr.val ((s.drop (p+1)).take k_1)) 0 (p+1+k_1) wr/\((s.drop (p+1)).take k_1).all Gr.dig=true/\(k_1=9\/∀h2:p+1+k_1<s.length,Gr.dig (s[p+1+k_1]'h2)=false))):=hid (fun hs=>by
      obtain⟨t,i⟩:=q.out;subst t;subst i;exact⟨k,hk,H,rfl,hid ⟨c.out,K.out,hs⟩⟩)
     by_cases hk9:k<9
     .have O:(k:Int)<9:=by omega
      by_cases hlP:P<s.length
      .have R:(P:Int)<(s.length:Int):=by omega
       obtain⟨b,C⟩:∃b:Nat,(s[P]'hlP).toNat=b:=⟨_,rfl⟩
       have ak:(((⟨s.toArray⟩:ByteArray)[P]'(by simpa[ByteArray.size]using hlP)).toNat:Int)=(b:Int):=by rw[<-C];rfl
       have hbl:b<256:=by rw[<-C];exact(s[P]'hlP).toNat_lt
       have D:=hid (zdx (s[P]'hlP) b C);clear C;by_cases h48:48<=b
       .have ai:(48:Int)<=(b:Int):=by omega
        by_cases h57:b<=57
        .have af:(b:Int)<=57:=by omega
         have Y:Hid (V*10+(b-48)=Gr.val ((s.drop (p+1)).take (k+1))/\((s.drop (p+1)).take (k+1)).all Gr.dig=true):=hid (by
          obtain⟨t,i⟩:=q.out;subst t;rw[zcj s (p+1) k hlP,List.all_append,K.out,zbj,i,D.out.2];exact⟨by omega,by simp[D.out.1,h48,h57]⟩)
         go_upto_region 21 with fail;clear G z I g A;have g:∀W:WB wr.heap.size wr,W.w.cell? ⟨mb,9,none⟩=some (.int .i64 (V:Int)):=fun W=>(c.out.up W.h).m.cell 9
         have G:∀W:WB wr.heap.size wr,W.w.cell? ⟨ab,0,none⟩=some (.int .i64 (P:Int)):=fun W=>(c.out.up W.h).a.cell 0
         have I:∀W:WB wr.heap.size wr,W.w.cell? ⟨sb,0,none⟩=some (.string ⟨s.toArray⟩):=fun W=>(c.out.up W.h).s.cell 0
         refine zbt 10 wr.heap.size wr (by kernel_rfl) (by kernel_rfl) (Below.refl _ _) ?_;simp only[List.take_succ_cons,List.take_zero,List.drop_succ_cons,List.drop_zero]
         iterate 10 (go_big_quiet_step (fail))
         refine wpQuiet_nil ?_;rintro _ ⟨wz,rfl⟩;have u:=hid (c.out.up wz.h);obtain⟨o,U⟩:=ex wz.w
         rw[U]at u ⊢;clear g G I U;have G:o.cell? ⟨ab,0,none⟩=some (.int .i64 (P:Int)):=u.out.a.cell 0;have z:∀j,o.frozen? ⟨ab,j,none⟩=false:=u.out.a.frozen;have I:o.cell? ⟨sb,0,none⟩=some (.string ⟨s.toArray⟩):=u.out.s.cell 0;have g:o.cell? ⟨mb,9,none⟩=some (.int .i64 (V:Int)):=u.out.m.cell 9;have A:∀j,o.frozen? ⟨mb,j,none⟩=false:=u.out.m.frozen;have qA2:∀v,(o.setCell ⟨mb,9,none⟩ v).cell? ⟨ab,0,none⟩=some (.int .i64 (P:Int)):=fun v=>(u.out.a.far (u.out.a.ne_ u.out.m (by decide)) v).cell 0
         have qF2:∀v j,(o.setCell ⟨mb,9,none⟩ v).frozen? ⟨ab,j,none⟩=false:=fun v j=>(u.out.a.far (u.out.a.ne_ u.out.m (by decide)) v).frozen j
         go_wp2;go_roundw
         case rel=>
          have S:RMem s w sb rb mb ab fb sh f (Gr.val ((s.drop (p+1)).take (k+1))) 0 (p+1+(k+1)) ((o.setCell ⟨mb,9,none⟩ (.int .i64 (10*(V:Int)+((b:Int)-48)))).setCell ⟨ab,0,none⟩ (.int .i64 ((P:Int)+1))):=by
           rw[<-Y.out.1,show p+1+(k+1)=P+1 from by have:=q.out.1;omega,show 10*(V:Int)+((b:Int)-48)=((V*10+(b-48):Nat):Int)from by omega,show(P:Int)+1=((P+1:Nat):Int)from by omega];exact(u.out.ns _).at_ _
          exact⟨k+1,by omega,by have:=q.out.1;omega,by go_num,hid ⟨S,Y.out.2⟩⟩
         case measure=>simp[intOf];omega
        .have af:¬(b:Int)<=57:=by omega
         go_wp2;go_meet;exact d.out (.inr (fun _=>by rw[D.out.1];simp[h57]))
       .have ai:¬(48:Int)<=(b:Int):=by omega
        go_wp2;go_meet;exact d.out (.inr (fun _=>by rw[D.out.1];simp[h48]))
      .have R:¬(P:Int)<(s.length:Int):=by omega
       go_wp2;go_meet;exact d.out (.inr (fun h=>absurd h hlP))
     .have O:¬(k:Int)<9:=by omega
      go_wp2;go_meet;exact d.out (.inl (by omega))
   case rest=>
   obtain⟨k,hk,L,rfl,e⟩:=hcut;obtain⟨P,t⟩:=ex (p+1+k)
   obtain⟨V,i⟩:=ex (Gr.val ((s.drop (p+1)).take k))
   have F:V<10 ^ k:=by
    have h:=zev _ e.out.2.1;rw[i]at h;rwa[show((s.drop (p+1)).take k).length=k from by simp;omega]at h
   have ae:=hid F;have c:Hid (RMem s w sb rb mb ab fb sh f V 0 P wc):=hid (by rw[<-t,<-i];exact e.out.1);have K:=hid e.out.2;have q:=hid (And.intro t i);have H:P<=s.length:=by omega
   clear e t i L F;refine(‹∀(a:Act) (w_1:World),Code.wp prog _ _ a w_1->_›) _ _ ?_;by_cases h0:k=0
   .have E:(k:Int)=0:=by omega
    have N:((k:Int)==0)=true:=by simpa using E
    have M:Hid (T=none):=hid (by
     rw[HT.out.1,zmj l.out (by omega)];rcases K.out.2 with h|h
     .omega
     .subst h0;exact h)
    clear h0 HT J K;obtain⟨m0,m1,m2,m3,m4,m5,m6,m7,m8,m9,m10⟩:=zaf c.out.m;obtain⟨x0,x1,x2,x3,x4,x5,x6,x7,x8,x9,x10⟩:=zaf c.out.r;have xf:∀j,wc.frozen? ⟨rb,j,none⟩=false:=c.out.r.frozen;go_wp2_with fail;have am:Blk (((((((((((wc.setCell ⟨rb,0,none⟩ (.int .i64 (sh:Int))).setCell ⟨rb,1,none⟩ (.int .i64 (f 0:Int))).setCell ⟨rb,2,none⟩ (.int .i64 (f 1:Int))).setCell ⟨rb,3,none⟩ (.int .i64 (f 2:Int))).setCell ⟨rb,4,none⟩ (.int .i64 (f 3:Int))).setCell ⟨rb,5,none⟩ (.int .i64 (f 4:Int))).setCell ⟨rb,6,none⟩ (.int .i64 (f 5:Int))).setCell ⟨rb,7,none⟩ (.int .i64 (f 6:Int))).setCell ⟨rb,8,none⟩ (.int .i64 (f 7:Int))).setCell ⟨rb,9,none⟩ (.int .i64 (V:Int))).setCell ⟨rb,10,none⟩ (.int .u8 ((0:Nat):Int))) rb 97 (mC sh f V (0:Nat)):=za8 c.out.r;obtain⟨e0,e1,e2,e3,e4,e5,e6,e7,e8,e9,e10⟩:=zaf am;have ag:Below w.heap.size w (((((((((((wc.setCell ⟨rb,0,none⟩ (.int .i64 (sh:Int))).setCell ⟨rb,1,none⟩ (.int .i64 (f 0:Int))).setCell ⟨rb,2,none⟩ (.int .i64 (f 1:Int))).setCell ⟨rb,3,none⟩ (.int .i64 (f 2:Int))).setCell ⟨rb,4,none⟩ (.int .i64 (f 3:Int))).setCell ⟨rb,5,none⟩ (.int .i64 (f 4:Int))).setCell ⟨rb,6,none⟩ (.int .i64 (f 5:Int))).setCell ⟨rb,7,none⟩ (.int .i64 (f 6:Int))).setCell ⟨rb,8,none⟩ (.int .i64 (f 7:Int))).setCell ⟨rb,9,none⟩ (.int .i64 (V:Int))).setCell ⟨rb,10,none⟩ (.int .u8 ((0:Nat):Int))):=zcm c.out.b c.out.n;refine bodyPost_ret (v:=.tuple #[.agg #[.int .i64 (sh:Int),.int .i64 (f 0:Int),.int .i64 (f 1:Int),.int .i64 (f 2:Int),.int .i64 (f 3:Int),.int .i64 (f 4:Int),.int .i64 (f 5:Int),.int .i64 (f 6:Int),.int .i64 (f 7:Int),.int .i64 (V:Int),.int .u8 ((0:Nat):Int)],.bool false]) (by rw[results_cell_tmp rfl];go_simp) rfl ?_;have an:T=none:=M.out;unfold RPost;rw[an];exact⟨ag,sh,f,V,(0:Nat),rfl,fun x S=>by cases S⟩
   .have E:¬(k:Int)=0:=by omega
    have N:((k:Int)==0)=false:=by simpa using E
    have ah:Hid (T=finO s sh f (V*10 ^ (9-k)) P):=hid (by
     obtain⟨t,i⟩:=q.out;rw[HT.out.1,zmi l.out (by omega) K.out.1 (by omega) hk K.out.2,i,t])
    clear h0 J;go_wp2_with fail;clear E N;go_loopw [8] (fun s8 wr=>∃j:Nat,k<=j/\j<=9/\s8=.int .i64 (j:Int)/\Hid (RMem s w sb rb mb ab fb sh f (V*10 ^ (j-k)) 0 P wr)) (fun s8 _=>9-(intOf s8).toNat)
    case atStart=>exact⟨k,by omega,hk,rfl,by simpa using c⟩
    case round=>
     obtain⟨j,hkj,al,rfl,e⟩:=hrel;obtain⟨Q,hQ⟩:=ex (V*10 ^ (j-k))
     have hQ9:Q<=999999999:=by
      have h1:Q<10 ^ j:=by
       rw[<-hQ]
       calc V*10 ^ (j-k)<10 ^ k*10 ^ (j-k):=Nat.mul_lt_mul_of_pos_right ae.out (Nat.pow_pos (by omega))
        _=10 ^ j:=by rw[<-Nat.pow_add];congr 1;omega
      have h2:(10:Nat) ^ j<=10 ^ 9:=Nat.pow_le_pow_right (by omega) al;omega
     rw[hQ]at e;have HQ:=hid hQ;clear hQ;have G:wr.cell? ⟨ab,0,none⟩=some (.int .i64 (P:Int)):=e.out.a.cell 0;have z:∀j,wr.frozen? ⟨ab,j,none⟩=false:=e.out.a.frozen;have I:wr.cell? ⟨sb,0,none⟩=some (.string ⟨s.toArray⟩):=e.out.s.cell 0;have g:wr.cell? ⟨mb,9,none⟩=some (.int .i64 (Q:Int)):=e.out.m.cell 9;have A:∀j,wr.frozen? ⟨mb,j,none⟩=false:=e.out.m.frozen;by_cases hlt9:j<9
     .have y:(j:Int)<9:=by omega
      go_wp2;go_roundw
      case rel=>
       have S:RMem s w sb rb mb ab fb sh f (V*10 ^ (j+1-k)) 0 P (wr.setCell ⟨mb,9,none⟩ (.int .i64 ((Q:Int)*10))):=by
        rw[show j+1-k=(j-k)+1 from by omega,Nat.pow_succ,<-Nat.mul_assoc,HQ.out,show(Q:Int)*10=((Q*10:Nat):Int)from by omega];exact e.out.ns _
       exact⟨j+1,by omega,by omega,by go_num,hid S⟩
      case measure=>simp[intOf];omega
     .have y:¬(j:Int)<9:=by omega
      obtain rfl:j=9:=by omega
      go_wp2;go_meet;exact⟨Q,P,H,e,by rw[<-HQ.out];exact ah⟩
 case rest=>
 obtain⟨nn',p',ac,aj,ad⟩:=hcut;refine(‹∀(a:Act) (w_1:World),Code.wp prog _ _ a w_1->_›) _ _ ?_;exact zv7 s hl w _ sb rb mb ab fb sh f nn' p' T aj ac hsh (hid ⟨ad.out,HT.out.2⟩)
end Go.Proofs.YtpjmhafmeieloabGreatDoor
