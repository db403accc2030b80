import Derived.Test.YtoigpackhninoaaGreatDoorZ22
namespace Go.Proofs.YtoigpackhninoaaGreatDoor
open Gr
open _root_.Go.Proofs.Tryz
open _root_.Go.Lib (hid)
set_option maxRecDepth 100000
set_option maxHeartbeats 16000000
open Go.RowKit
theorem zom (m:Nat) (hm:m<18446744073709551616) (i:Int) (hi:i=(m:Int)) (w:World):Calls prog 79 #[.int .u64 i] w fun e w'=>e=.returned (.int .i64 (Lib.bitLen m))/\w=w':=by
 subst hi;obtain⟨B,hB⟩:=ex (Lib.bitLen m)
 have HB:=hid hB;have hb64:B<=64:=by rw[<-hB];exact Lib.bitLen_le m 64 (by omega) (by omega)
 rw[hB];clear hB;go_enter func79,ntmps79;go_wp2_with fail;go_loop [0,3] (fun s0 s3=>∃x n:Nat,x<18446744073709551616/\n<=B/\s0=.int .u64 (x:Int)/\s3=.int .i64 (n:Int)/\Hid (B=n+Lib.bitLen x)) (fun s0 _=>(intOf s0).toNat)
 case atStart=>exact⟨m,0,hm,by omega,rfl,rfl,hid (by rw[<-HB.out];omega)⟩
 case round=>
  obtain⟨x,n,hx,hn,rfl,rfl,HV⟩:=hrel;by_cases h0:0<x
  ·have h0I:(0:Int)<(x:Int):=by omega
   have HN:Hid (B=(n+1)+Lib.bitLen (x /2)/\n+1<=B):=hid (by
    have h1:=HV.out;rw[Lib.bitLen_half x (by omega) (by omega)]at h1;omega)
   go_wp2;go_round
   case rel=>exact⟨x /2,n+1,by omega,HN.out.2,by go_num,by go_num,hid HN.out.1⟩
   case measure=>simp[intOf];omega
  ·obtain rfl:x=0:=by omega
   have HF:Hid (B=n):=hid (by have:=HV.out;rw[this];rfl);go_wp2;go_ret;rw[HF.out];exact⟨rfl,rfl⟩
def nodash (l:Gr.Str):Gr.Str:=l.filter (fun c=>c != 45)
theorem ze1 (l:Gr.Str) (h:l.all Gr.dig=true):nodash l=l:=by
 unfold nodash;rw[List.filter_eq_self];intro c hc;have:=List.all_eq_true.1 h c hc;cases hh:(c != 45)with
 |true=>rfl
 |false=>
  have e:c=45:=by simpa using hh
  subst e;simp[Gr.dig]at this
theorem ze2 {s:Gr.Str} (h:intB s=true):nodash s=intS s/\(intS s).all Gr.dig=true/\(∀c∈s,c=45\/Gr.dig c=true)/\0<s.length:=by
 unfold intB at h;split at h
 ·cases h
 ·rename_i hn;have hlen:0<s.length:=by
   rcases Nat.eq_zero_or_pos s.length with h0|h0
   ·exact absurd (.inl (by unfold intS;rw[if_neg (by omega)];exact h0)) hn
   ·exact h0
  refine⟨?_,h,?_,hlen⟩
  ·unfold intS at h ⊢;split
   ·rename_i hc;rw[if_pos hc]at h;cases s with
    |nil=>simp at hc
    |cons c r=>
     simp at hc;obtain⟨_,rfl⟩:=hc;show nodash (45::r)=r;have:nodash (45::r)=nodash r:=by unfold nodash;rw[List.filter_cons_of_neg (by decide)]
     rw[this];exact ze1 r h
   ·rename_i hc;rw[if_neg hc]at h;exact ze1 s h
  ·intro c hc;unfold intS at h;split at h
   ·rename_i h1;cases s with
    |nil=>cases hc
    |cons d r=>
     simp at h1;rcases List.mem_cons.1 hc with rfl|hc
     ·exact .inl h1.2
     ·exact .inr (List.all_eq_true.1 h c hc)
   ·exact .inr (List.all_eq_true.1 h c hc)
def NPost (o:Option Int) (w:World) (e:Ending) (w':World):Prop:=e=.returned (.tuple #[.int .i64 (o.getD 0),.bool o.isSome])/\w=w'
theorem zqc (l:Gr.Str) (h:l.all Gr.dig=true) (hl:l.length<=18):Gr.val l<1000000000000000000:=Nat.lt_of_lt_of_le (zd9 l h) (Nat.pow_le_pow_right (n:=10) (by omega) hl)
theorem zho (s:Gr.Str) (hs:∀c∈s,c=45\/Gr.dig c=true) (k:Nat):(nodash (s.take k)).all Gr.dig=true/\(nodash (s.take k)).length<=k:=by
 constructor
 ·rw[List.all_eq_true];intro c hc;obtain⟨h1,h2⟩:=List.mem_filter.1 hc;rcases hs c (List.mem_of_mem_take h1)with rfl|h
  ·cases h2
  ·exact h
 ·exact Nat.le_trans (List.length_filter_le _ _) (by simp;omega)
theorem zhp (s:Gr.Str) (k:Nat) (h:k<s.length):nodash (s.take (k+1))=nodash (s.take k)++(if s[k]=45 then[]else[s[k]]):=by
 unfold nodash;rw[List.take_succ_eq_append_getElem h,List.filter_append]
 congr 1
 by_cases e:s[k]=45
 ·rw[if_pos e,e];rfl
 ·rw[if_neg e];simp[e]
theorem zis (s:Gr.Str) (hl:s.length<=1073741823) (w:World):Calls prog 78 #[.string ⟨s.toArray⟩] w (NPost (numb s) w):=by
 have HV:=hid (fun W=>ze0 s hl W);obtain⟨r,hr⟩:=ex (numb s)
 have HR:Hid ((if intB s=true/\s.length<=18 then some (if s.head?=some 45 then -(Gr.val (intS s):Int)else(Gr.val (intS s):Int))else none)=r):=hid hr;rw[hr];clear hr;cases hi:intB s with
 |false=>
  rw[hi]at HV;have HF:Hid (r=none):=hid (by rw[<-HR.out,if_neg (by rw[hi];simp)]);clear hi HR;go_enter func78,ntmps78;go_wp2_with fail;refine(HV.out _).mono ?_;rintro _ w1 ⟨rfl,rfl⟩;go_wp2;go_ret2;rw[HF.out];exact⟨rfl,rfl⟩
 |true=>
  rw[hi]at HV;by_cases h18:s.length<=18
  ·have h18I:¬(18:Int)<(s.length:Int):=by omega
   obtain⟨p1,p2,p3,p4⟩:=ze2 hi;have HR1:Hid ((some (if s.head?=some 45 then -(Gr.val (nodash s):Int)else(Gr.val (nodash s):Int)))=r):=hid (by
    have h:=HR.out;rw[if_pos ⟨hi,h18⟩]at h;rw[p1];exact h)
   have HP:=hid p3;have h0I:(0:Int)<(s.length:Int):=by omega
   clear hi HR p1 p2 p3;go_enter func78,ntmps78;go_wp2_with fail;refine(HV.out _).mono ?_;rintro _ w1 ⟨rfl,rfl⟩;go_wp2_with fail;go_loop [4,5] (fun s4 s5=>∃k v:Nat,k<=s.length/\v<1000000000000000000/\s4=.int .i64 (v:Int)/\s5=.int .i64 (k:Int)/\Hid (v=Gr.val (nodash (s.take k)))) (fun _ s5=>s.length-(intOf s5).toNat)
   case atStart=>exact⟨0,0,by omega,by omega,rfl,rfl,hid rfl⟩
   case round=>
    obtain⟨k,v,hk,hv,rfl,rfl,HK⟩:=hrel;by_cases hlt:k<s.length
    ·have hltI:(k:Int)<(s.length:Int):=by omega
     have HN:=hid (zhp s k hlt);have HM:=hid (HP.out s[k] (List.getElem_mem hlt));have HT:=hid (zho s HP.out (k+1));by_cases h45:s[k]=45
     ·have b1:=zar s k hlt _ 45 45 rfl rfl h45;have b2:=zaj s k hlt _ 45 45 rfl rfl h45;have HX:=hid h45;clear h45;go_wp2;go_round
      case rel=>exact⟨k+1,v,by omega,hv,rfl,by go_num,hid (by rw[HN.out,if_pos HX.out,List.append_nil];exact HK.out)⟩
      case measure=>simp[intOf];omega
     ·have c1:=zah s k hlt _ 45 45 rfl rfl h45;have c2:=zak s k hlt _ 45 45 rfl rfl h45;have hdg:Gr.dig s[k]=true:=HM.out.resolve_left h45;obtain⟨b,hb⟩:∃b:Nat,(s[k]'hlt).toNat=b:=⟨_,rfl⟩
      have hbv:(((⟨s.toArray⟩:ByteArray)[k]'(by simpa[ByteArray.size]using hlt)).toNat:Int)=(b:Int):=by rw[<-hb];rfl
      have hbd:=zir (s[k]'hlt) b hb;rw[hdg]at hbd;have hb48:48<=b/\b<=57:=by have:=hbd.symm;simpa using this
      have hdv:Gr.dv s[k]=b-48:=by unfold Gr.dv;rw[hb]
      have HNX:Hid (10*v+(b-48)=Gr.val (nodash (s.take (k+1)))):=hid (by
       rw[HN.out,if_neg h45,zba,<-HK.out,hdv])
      have hvn:10*v+(b-48)<1000000000000000000:=by
       rw[HNX.out];exact zqc _ HT.out.1 (by have:=HT.out.2;omega)
      rw[hbv]at c1 c2;obtain⟨hb1,hb2⟩:=hb48;clear hbd hdg hb hdv h45;go_wp2;go_round
      case rel=>exact⟨k+1,10*v+(b-48),by omega,hvn,by exact congrArg (Value.int .i64) (by omega),by go_num,hid HNX.out⟩
      case measure=>simp[intOf];omega
    ·obtain rfl:k=s.length:=by omega
     have HVL:Hid (v=Gr.val (nodash s)):=hid (by have:=HK.out;rwa[List.take_length]at this);have hh:s.head?=some (s[0]'p4):=by rw[List.head?_eq_getElem?,List.getElem?_eq_getElem p4]
     by_cases h45:s[0]'p4=45
     ·have b1:=zar s 0 p4 _ 45 45 rfl rfl h45;have b2:=zaj s 0 p4 _ 45 45 rfl rfl h45;have HF:Hid (r=some (-(v:Int))):=hid (by rw[<-HR1.out,hh,h45,if_pos rfl,HVL.out]);clear h45 hh;go_wp2;go_ret2;rw[HF.out];exact⟨rfl,rfl⟩
     ·have b1:=zah s 0 p4 _ 45 45 rfl rfl h45;have b2:=zak s 0 p4 _ 45 45 rfl rfl h45;have HF:Hid (r=some (v:Int)):=hid (by rw[<-HR1.out,hh,if_neg (by intro e;injection e with e;exact h45 e),HVL.out]);clear h45 hh;go_wp2;go_ret2;rw[HF.out];exact⟨rfl,rfl⟩
  ·have h18I:(18:Int)<(s.length:Int):=by omega
   have HF:Hid (r=none):=hid (by rw[<-HR.out,if_neg (by rintro⟨_,h⟩;exact h18 h)]);clear hi HR;go_enter func78,ntmps78;go_wp2_with fail;refine(HV.out _).mono ?_;rintro _ w1 ⟨rfl,rfl⟩;go_wp2;go_ret2;rw[HF.out];exact⟨rfl,rfl⟩
theorem zaw {w:World} {g:Nat} {t:TypeId} {c0 c1 c2 c3 v0 v1 v2 v3:Value} (h:Blk w g t #[c0,c1,c2,c3]):Blk ((((w.setCell ⟨g,0,none⟩ v0).setCell ⟨g,1,none⟩ v1).setCell ⟨g,2,none⟩ v2).setCell ⟨g,3,none⟩ v3) g t #[v0,v1,v2,v3]:=by
 have h1:=((((h.set_ 0 v0).set_ 1 v1).set_ 2 v2).set_ 3 v3)
 simp only[List.setIfInBounds_toArray,List.set_cons_zero,List.set_cons_succ]at h1;exact h1
theorem below4 {w0 w:World} {g B:Nat} (h:Below B w0 w) (hB:B<=g) (v0 v1 v2 v3:Value):Below B w0 ((((w.setCell ⟨g,0,none⟩ v0).setCell ⟨g,1,none⟩ v1).setCell ⟨g,2,none⟩ v2).setCell ⟨g,3,none⟩ v3):=
 (((h.setCell (p:=⟨g,0,none⟩) hB _).setCell (p:=⟨g,1,none⟩) hB _).setCell (p:=⟨g,2,none⟩) hB _).setCell (p:=⟨g,3,none⟩) hB _
def OfF (b:Bool) (w:World) (e:Ending) (w':World):Prop:=(∃(k:Int) (n:Bool) (m x:Int),e=.returned (.tuple #[.agg #[.int .i64 k,.bool n,.int .u64 m,.int .i64 x],.bool b]))/\Below w.heap.size w w'
theorem zs3 (neg ok is r:Bool) (m e:Int) (hm0:-1000000000000000000<m) (hm1:m<1000000000000000000) (he0:-1000000000000000000<e) (he1:e<1000000000000000000) (gb:Nat) (w wx:World) (HM:Hid (Blk wx gb 74 #[.int .i64 0,.bool false,.int .u64 0,.int .i64 0]/\Below w.heap.size w wx/\w.heap.size<=gb)) (HR:Hid ((ok && is && mokB m e)=r)) {u0 u1 u3 u5 u6 u11 u12 u13 u14 u15 u16 u17 u18 u19 u20 u21 u22 u23 u24 u25 u26 u27 u28 u29 u30 u31 u32 u33 u34 u35 u36 u37 u38 u39 u40 u41 u42 u43 u44 u45 u46 u47 u48 u49 u50 u51 u52 u53 u54 u55 u56 u57 u58 u59 u60 u61 u62 u63 u64 u65 u66 u67 u68 u69 u70 u71 u72 u73 u74 u75 u76 u77 u78 u79 u80 u81 u82 u83 u84 u85 u86 u87 u88 u89 u90 u91 u92 u93 u94 u95 u96 u97 u98 u99 u100 u101 u102 u103 u104 u105 u106 u107 u108 u109 u110 u111 u112 u113 u114 u115 u116:Value}:
 Code.wp prog (tl 11 (f45.body.getD .skip)) (bodyPost prog f45 (OfF r w)) {tmps:=List.toArray (u0::u1::.pointer (some ⟨gb,0,none⟩)::u3::.bool neg::u5::u6::.int .i64 m::.bool ok::.int .i64 e::.bool is::u11::u12::u13::u14::u15::u16::u17::u18::u19::u20::u21::u22::u23::u24::u25::u26::u27::u28::u29::u30::u31::u32::u33::u34::u35::u36::u37::u38::u39::u40::u41::u42::u43::u44::u45::u46::u47::u48::u49::u50::u51::u52::u53::u54::u55::u56::u57::u58::u59::u60::u61::u62::u63::u64::u65::u66::u67::u68::u69::u70::u71::u72::u73::u74::u75::u76::u77::u78::u79::u80::u81::u82::u83::u84::u85::u86::u87::u88::u89::u90::u91::u92::u93::u94::u95::u96::u97::u98::u99::u100::u101::u102::u103::u104::u105::u106::u107::u108::u109::u110::u111::u112::u113::u114::u115::u116::[]),defers:=[]} wx:=by
 generalize hc0:tl 11 (f45.body.getD .skip)=c0;simp only[tl,f45,Option.getD_some]at hc0;subst hc0;obtain⟨q0,q1,q2,q3⟩:=cells4 HM.out.1;have qf:∀j,wx.frozen? ⟨gb,j,none⟩=false:=HM.out.1.frozen;cases ok with
 |false=>
  have HF:Hid (r=false):=hid (by rw[<-HR.out];rfl);go_wp2_with fail;have HSB:Blk ((((wx.setCell ⟨gb,0,none⟩ (.int .i64 0)).setCell ⟨gb,1,none⟩ (.bool false)).setCell ⟨gb,2,none⟩ (.int .u64 0)).setCell ⟨gb,3,none⟩ (.int .i64 0)) gb 74 #[.int .i64 0,.bool false,.int .u64 0,.int .i64 0]:=zaw HM.out.1;obtain⟨e0,e1,e2,e3⟩:=cells4 HSB;have HSH:Below w.heap.size w ((((wx.setCell ⟨gb,0,none⟩ (.int .i64 0)).setCell ⟨gb,1,none⟩ (.bool false)).setCell ⟨gb,2,none⟩ (.int .u64 0)).setCell ⟨gb,3,none⟩ (.int .i64 0)):=below4 HM.out.2.1 HM.out.2.2 _ _ _ _;refine bodyPost_ret (v:=.tuple #[.agg #[.int .i64 0,.bool false,.int .u64 0,.int .i64 0],.bool false]) (by rw[results_cell_tmp rfl];go_simp) rfl ?_;rw[HF.out];exact⟨⟨_,_,_,_,rfl⟩,HSH⟩
 |true=>
  cases is with
  |false=>
   have HF:Hid (r=false):=hid (by rw[<-HR.out];rfl);go_wp2_with fail;have HSB:Blk ((((wx.setCell ⟨gb,0,none⟩ (.int .i64 0)).setCell ⟨gb,1,none⟩ (.bool false)).setCell ⟨gb,2,none⟩ (.int .u64 0)).setCell ⟨gb,3,none⟩ (.int .i64 0)) gb 74 #[.int .i64 0,.bool false,.int .u64 0,.int .i64 0]:=zaw HM.out.1;obtain⟨e0,e1,e2,e3⟩:=cells4 HSB;have HSH:Below w.heap.size w ((((wx.setCell ⟨gb,0,none⟩ (.int .i64 0)).setCell ⟨gb,1,none⟩ (.bool false)).setCell ⟨gb,2,none⟩ (.int .u64 0)).setCell ⟨gb,3,none⟩ (.int .i64 0)):=below4 HM.out.2.1 HM.out.2.2 _ _ _ _;refine bodyPost_ret (v:=.tuple #[.agg #[.int .i64 0,.bool false,.int .u64 0,.int .i64 0],.bool false]) (by rw[results_cell_tmp rfl];go_simp) rfl ?_;rw[HF.out];exact⟨⟨_,_,_,_,rfl⟩,HSH⟩
  |true=>
   have HMK:Hid (mokB m e=r):=hid (by have:=HR.out;simpa using this);clear HR;by_cases hn:m<0
   ·have HF:Hid (r=false):=hid (by rw[<-HMK.out];unfold mokB;rw[decide_eq_true hn];rfl);go_wp2_with fail;have HSB:Blk ((((wx.setCell ⟨gb,0,none⟩ (.int .i64 0)).setCell ⟨gb,1,none⟩ (.bool false)).setCell ⟨gb,2,none⟩ (.int .u64 0)).setCell ⟨gb,3,none⟩ (.int .i64 0)) gb 74 #[.int .i64 0,.bool false,.int .u64 0,.int .i64 0]:=zaw HM.out.1;obtain⟨e0,e1,e2,e3⟩:=cells4 HSB;have HSH:Below w.heap.size w ((((wx.setCell ⟨gb,0,none⟩ (.int .i64 0)).setCell ⟨gb,1,none⟩ (.bool false)).setCell ⟨gb,2,none⟩ (.int .u64 0)).setCell ⟨gb,3,none⟩ (.int .i64 0)):=below4 HM.out.2.1 HM.out.2.2 _ _ _ _;refine bodyPost_ret (v:=.tuple #[.agg #[.int .i64 0,.bool false,.int .u64 0,.int .i64 0],.bool false]) (by rw[results_cell_tmp rfl];go_simp) rfl ?_;rw[HF.out];exact⟨⟨_,_,_,_,rfl⟩,HSH⟩
   ·by_cases hz:m=0
    ·subst hz;have hzb:((0:Int)==0)=true:=rfl;have hzc:((0:Int) != 0)=false:=rfl;by_cases hez:e=0
     ·have hezb:(e==0)=true:=by simpa using hez
      have hezc:(e != 0)=false:=by rw[bne,hezb];rfl
      have HF:Hid (r=true):=hid (by rw[<-HMK.out,hez];decide);clear hez;go_wp2_with fail;have HSB:Blk ((((wx.setCell ⟨gb,0,none⟩ (.int .i64 0)).setCell ⟨gb,1,none⟩ (.bool neg)).setCell ⟨gb,2,none⟩ (.int .u64 0)).setCell ⟨gb,3,none⟩ (.int .i64 e)) gb 74 #[.int .i64 0,.bool neg,.int .u64 0,.int .i64 e]:=zaw HM.out.1;obtain⟨e0,e1,e2,e3⟩:=cells4 HSB;have HSH:Below w.heap.size w ((((wx.setCell ⟨gb,0,none⟩ (.int .i64 0)).setCell ⟨gb,1,none⟩ (.bool neg)).setCell ⟨gb,2,none⟩ (.int .u64 0)).setCell ⟨gb,3,none⟩ (.int .i64 e)):=below4 HM.out.2.1 HM.out.2.2 _ _ _ _;refine bodyPost_ret (v:=.tuple #[.agg #[.int .i64 0,.bool neg,.int .u64 0,.int .i64 e],.bool true]) (by rw[results_cell_tmp rfl];go_simp) rfl ?_;rw[HF.out];exact⟨⟨_,_,_,_,rfl⟩,HSH⟩
     ·have hezb:(e==0)=false:=by simpa using hez
      have hezc:(e != 0)=true:=by rw[bne,hezb];rfl
      have HF:Hid (r=false):=hid (by rw[<-HMK.out];unfold mokB;simp[hez]);clear hez;go_wp2_with fail;have HSB:Blk ((((wx.setCell ⟨gb,0,none⟩ (.int .i64 0)).setCell ⟨gb,1,none⟩ (.bool false)).setCell ⟨gb,2,none⟩ (.int .u64 0)).setCell ⟨gb,3,none⟩ (.int .i64 0)) gb 74 #[.int .i64 0,.bool false,.int .u64 0,.int .i64 0]:=zaw HM.out.1;obtain⟨e0,e1,e2,e3⟩:=cells4 HSB;have HSH:Below w.heap.size w ((((wx.setCell ⟨gb,0,none⟩ (.int .i64 0)).setCell ⟨gb,1,none⟩ (.bool false)).setCell ⟨gb,2,none⟩ (.int .u64 0)).setCell ⟨gb,3,none⟩ (.int .i64 0)):=below4 HM.out.2.1 HM.out.2.2 _ _ _ _;refine bodyPost_ret (v:=.tuple #[.agg #[.int .i64 0,.bool false,.int .u64 0,.int .i64 0],.bool false]) (by rw[results_cell_tmp rfl];go_simp) rfl ?_;rw[HF.out];exact⟨⟨_,_,_,_,rfl⟩,HSH⟩
    ·have hzb:(m==0)=false:=by simpa using hz
     have hzc:(m != 0)=true:=by rw[bne,hzb];rfl
     have hmp:0<m:=by omega
     have hwr:IntKind.u64.wrap m=m:=by rw[IntKind.wrap_u64];omega
     have HBL:=hid (fun W=>zom m.toNat (by omega) m (by omega) W);obtain⟨b,hb⟩:=ex (Lib.bitLen m.toNat)
     have hb64:b<=64:=by rw[<-hb];exact Lib.bitLen_le _ 64 (by omega) (by omega)
     have HMB:Hid (r=!(decide (m%2=0) || decide (53<b) || decide (e< -1074) || decide (1023<e) || decide (1024<e+b))):=hid (by
      rw[<-HMK.out];unfold mokB;rw[hb,decide_eq_false hn,hzb,hzc];simp only[Bool.false_or,Bool.false_and,Bool.true_and];rfl)
     rw[hb]at HBL;clear hb hz HMK;by_cases k1:m%2=0
     ·have k1b:(m%2==0)=true:=by simpa using k1
      have HF:Hid (r=false):=hid (by rw[HMB.out];simp[k1]);clear k1;go_wp2_with fail;have HSB:Blk ((((wx.setCell ⟨gb,0,none⟩ (.int .i64 0)).setCell ⟨gb,1,none⟩ (.bool false)).setCell ⟨gb,2,none⟩ (.int .u64 0)).setCell ⟨gb,3,none⟩ (.int .i64 0)) gb 74 #[.int .i64 0,.bool false,.int .u64 0,.int .i64 0]:=zaw HM.out.1;obtain⟨e0,e1,e2,e3⟩:=cells4 HSB;have HSH:Below w.heap.size w ((((wx.setCell ⟨gb,0,none⟩ (.int .i64 0)).setCell ⟨gb,1,none⟩ (.bool false)).setCell ⟨gb,2,none⟩ (.int .u64 0)).setCell ⟨gb,3,none⟩ (.int .i64 0)):=below4 HM.out.2.1 HM.out.2.2 _ _ _ _;refine bodyPost_ret (v:=.tuple #[.agg #[.int .i64 0,.bool false,.int .u64 0,.int .i64 0],.bool false]) (by rw[results_cell_tmp rfl];go_simp) rfl ?_;rw[HF.out];exact⟨⟨_,_,_,_,rfl⟩,HSH⟩
     ·have k1b:(m%2==0)=false:=by simpa using k1
      by_cases k2:53<b
      ·have k2I:(53:Int)<(b:Int):=by omega
       have HF:Hid (r=false):=hid (by rw[HMB.out];simp[k2]);clear k1 k2;go_wp2_with fail;refine(HBL.out _).mono ?_;rintro _ wx ⟨rfl,rfl⟩;go_wp2_with fail;have HSB:Blk ((((wx.setCell ⟨gb,0,none⟩ (.int .i64 0)).setCell ⟨gb,1,none⟩ (.bool false)).setCell ⟨gb,2,none⟩ (.int .u64 0)).setCell ⟨gb,3,none⟩ (.int .i64 0)) gb 74 #[.int .i64 0,.bool false,.int .u64 0,.int .i64 0]:=zaw HM.out.1;obtain⟨e0,e1,e2,e3⟩:=cells4 HSB;have HSH:Below w.heap.size w ((((wx.setCell ⟨gb,0,none⟩ (.int .i64 0)).setCell ⟨gb,1,none⟩ (.bool false)).setCell ⟨gb,2,none⟩ (.int .u64 0)).setCell ⟨gb,3,none⟩ (.int .i64 0)):=below4 HM.out.2.1 HM.out.2.2 _ _ _ _;refine bodyPost_ret (v:=.tuple #[.agg #[.int .i64 0,.bool false,.int .u64 0,.int .i64 0],.bool false]) (by rw[results_cell_tmp rfl];go_simp) rfl ?_;rw[HF.out];exact⟨⟨_,_,_,_,rfl⟩,HSH⟩
      ·have k2I:¬(53:Int)<(b:Int):=by omega
       by_cases k3:e< -1074
       ·have HF:Hid (r=false):=hid (by rw[HMB.out];simp[k3]);clear k1 k2;go_wp2_with fail;refine(HBL.out _).mono ?_;rintro _ wx ⟨rfl,rfl⟩;go_wp2_with fail;have HSB:Blk ((((wx.setCell ⟨gb,0,none⟩ (.int .i64 0)).setCell ⟨gb,1,none⟩ (.bool false)).setCell ⟨gb,2,none⟩ (.int .u64 0)).setCell ⟨gb,3,none⟩ (.int .i64 0)) gb 74 #[.int .i64 0,.bool false,.int .u64 0,.int .i64 0]:=zaw HM.out.1;obtain⟨e0,e1,e2,e3⟩:=cells4 HSB;have HSH:Below w.heap.size w ((((wx.setCell ⟨gb,0,none⟩ (.int .i64 0)).setCell ⟨gb,1,none⟩ (.bool false)).setCell ⟨gb,2,none⟩ (.int .u64 0)).setCell ⟨gb,3,none⟩ (.int .i64 0)):=below4 HM.out.2.1 HM.out.2.2 _ _ _ _;refine bodyPost_ret (v:=.tuple #[.agg #[.int .i64 0,.bool false,.int .u64 0,.int .i64 0],.bool false]) (by rw[results_cell_tmp rfl];go_simp) rfl ?_;rw[HF.out];exact⟨⟨_,_,_,_,rfl⟩,HSH⟩
       ·by_cases k4:1023<e
        ·have HF:Hid (r=false):=hid (by rw[HMB.out];simp[k4]);clear k1 k2;go_wp2_with fail;refine(HBL.out _).mono ?_;rintro _ wx ⟨rfl,rfl⟩;go_wp2_with fail;have HSB:Blk ((((wx.setCell ⟨gb,0,none⟩ (.int .i64 0)).setCell ⟨gb,1,none⟩ (.bool false)).setCell ⟨gb,2,none⟩ (.int .u64 0)).setCell ⟨gb,3,none⟩ (.int .i64 0)) gb 74 #[.int .i64 0,.bool false,.int .u64 0,.int .i64 0]:=zaw HM.out.1;obtain⟨e0,e1,e2,e3⟩:=cells4 HSB;have HSH:Below w.heap.size w ((((wx.setCell ⟨gb,0,none⟩ (.int .i64 0)).setCell ⟨gb,1,none⟩ (.bool false)).setCell ⟨gb,2,none⟩ (.int .u64 0)).setCell ⟨gb,3,none⟩ (.int .i64 0)):=below4 HM.out.2.1 HM.out.2.2 _ _ _ _;refine bodyPost_ret (v:=.tuple #[.agg #[.int .i64 0,.bool false,.int .u64 0,.int .i64 0],.bool false]) (by rw[results_cell_tmp rfl];go_simp) rfl ?_;rw[HF.out];exact⟨⟨_,_,_,_,rfl⟩,HSH⟩
        ·by_cases k5:1024<e+b
         ·have HF:Hid (r=false):=hid (by rw[HMB.out];simp[k5]);clear k1 k2;go_wp2_with fail;refine(HBL.out _).mono ?_;rintro _ wx ⟨rfl,rfl⟩;go_wp2_with fail;refine(HBL.out _).mono ?_;rintro _ wx ⟨rfl,rfl⟩;go_wp2_with fail;have HSB:Blk ((((wx.setCell ⟨gb,0,none⟩ (.int .i64 0)).setCell ⟨gb,1,none⟩ (.bool false)).setCell ⟨gb,2,none⟩ (.int .u64 0)).setCell ⟨gb,3,none⟩ (.int .i64 0)) gb 74 #[.int .i64 0,.bool false,.int .u64 0,.int .i64 0]:=zaw HM.out.1;obtain⟨e0,e1,e2,e3⟩:=cells4 HSB;have HSH:Below w.heap.size w ((((wx.setCell ⟨gb,0,none⟩ (.int .i64 0)).setCell ⟨gb,1,none⟩ (.bool false)).setCell ⟨gb,2,none⟩ (.int .u64 0)).setCell ⟨gb,3,none⟩ (.int .i64 0)):=below4 HM.out.2.1 HM.out.2.2 _ _ _ _;refine bodyPost_ret (v:=.tuple #[.agg #[.int .i64 0,.bool false,.int .u64 0,.int .i64 0],.bool false]) (by rw[results_cell_tmp rfl];go_simp) rfl ?_;rw[HF.out];exact⟨⟨_,_,_,_,rfl⟩,HSH⟩
         ·have HF:Hid (r=true):=hid (by rw[HMB.out];simp[k1,k2,k3,k4,k5]);clear k1 k2;go_wp2_with fail;refine(HBL.out _).mono ?_;rintro _ wx ⟨rfl,rfl⟩;go_wp2_with fail;refine(HBL.out _).mono ?_;rintro _ wx ⟨rfl,rfl⟩;go_wp2_with fail;have HSB:Blk ((((wx.setCell ⟨gb,0,none⟩ (.int .i64 0)).setCell ⟨gb,1,none⟩ (.bool neg)).setCell ⟨gb,2,none⟩ (.int .u64 m)).setCell ⟨gb,3,none⟩ (.int .i64 e)) gb 74 #[.int .i64 0,.bool neg,.int .u64 m,.int .i64 e]:=zaw HM.out.1;obtain⟨e0,e1,e2,e3⟩:=cells4 HSB;have HSH:Below w.heap.size w ((((wx.setCell ⟨gb,0,none⟩ (.int .i64 0)).setCell ⟨gb,1,none⟩ (.bool neg)).setCell ⟨gb,2,none⟩ (.int .u64 m)).setCell ⟨gb,3,none⟩ (.int .i64 e)):=below4 HM.out.2.1 HM.out.2.2 _ _ _ _;refine bodyPost_ret (v:=.tuple #[.agg #[.int .i64 0,.bool neg,.int .u64 m,.int .i64 e],.bool true]) (by rw[results_cell_tmp rfl];go_simp) rfl ?_;rw[HF.out];exact⟨⟨_,_,_,_,rfl⟩,HSH⟩
theorem zly (s:Gr.Str):-1000000000000000000<(numb s).getD 0/\(numb s).getD 0<1000000000000000000:=by
 unfold numb;split
 ·rename_i h;obtain⟨_,p2,_,_⟩:=ze2 h.1;have hl:(intS s).length<=s.length:=by
   unfold intS;split
   ·simp
   ·omega
  have:=zqc (intS s) p2 (by omega);simp only[Option.getD_some];split<;>omega
 ·simp
theorem zrd (s t:Gr.Str) (hl:s.length<=1073741823) (htl:t.length<=s.length) (neg r:Bool) (gb:Nat) (w wx:World) (HM:Hid (Blk wx gb 74 #[.int .i64 0,.bool false,.int .u64 0,.int .i64 0]/\Below w.heap.size w wx/\w.heap.size<=gb)) (HR:Hid ((if t=[105,110,102]then true else if s=[110,97,110]then true else match t.dropWhile (fun c=>c != 112)with| []=>false|_::b=>match numb (Gr.fA t)with|some m=>(match numb b with|some e=>mokB m e|none=>false)|none=>false)=r)) {u1 u3 u6 u7 u8 u9 u10 u11 u12 u13 u14 u15 u16 u17 u18 u19 u20 u21 u22 u23 u24 u25 u26 u27 u28 u29 u30 u31 u32 u33 u34 u35 u36 u37 u38 u39 u40 u41 u42 u43 u44 u45 u46 u47 u48 u49 u50 u51 u52 u53 u54 u55 u56 u57 u58 u59 u60 u61 u62 u63 u64 u65 u66 u67 u68 u69 u70 u71 u72 u73 u74 u75 u76 u77 u78 u79 u80 u81 u82 u83 u84 u85 u86 u87 u88 u89 u90 u91 u92 u93 u94 u95 u96 u97 u98 u99 u100 u101 u102 u103 u104 u105 u106 u107 u108 u109 u110 u111 u112 u113 u114 u115 u116:Value}:
 Code.wp prog (tl 4 (f45.body.getD .skip)) (bodyPost prog f45 (OfF r w)) {tmps:=List.toArray (.string ⟨s.toArray⟩::u1::.pointer (some ⟨gb,0,none⟩)::u3::.bool neg::.string ⟨t.toArray⟩::u6::u7::u8::u9::u10::u11::u12::u13::u14::u15::u16::u17::u18::u19::u20::u21::u22::u23::u24::u25::u26::u27::u28::u29::u30::u31::u32::u33::u34::u35::u36::u37::u38::u39::u40::u41::u42::u43::u44::u45::u46::u47::u48::u49::u50::u51::u52::u53::u54::u55::u56::u57::u58::u59::u60::u61::u62::u63::u64::u65::u66::u67::u68::u69::u70::u71::u72::u73::u74::u75::u76::u77::u78::u79::u80::u81::u82::u83::u84::u85::u86::u87::u88::u89::u90::u91::u92::u93::u94::u95::u96::u97::u98::u99::u100::u101::u102::u103::u104::u105::u106::u107::u108::u109::u110::u111::u112::u113::u114::u115::u116::[]),defers:=[]} wx:=by
 generalize hc0:tl 4 (f45.body.getD .skip)=c0;simp only[tl,f45,Option.getD_some]at hc0;subst hc0;obtain⟨q0,q1,q2,q3⟩:=cells4 HM.out.1;have qf:∀j,wx.frozen? ⟨gb,j,none⟩=false:=HM.out.1.frozen;by_cases hinf:t=[105,110,102]
 ·have h1:(t==([105,110,102]:List UInt8))=true:=by rw[beq_iff_eq];exact hinf
  have HF:Hid (r=true):=hid (by rw[<-HR.out,if_pos hinf]);clear hinf;go_wp2_with fail;have HSB:Blk ((((wx.setCell ⟨gb,0,none⟩ (.int .i64 1)).setCell ⟨gb,1,none⟩ (.bool neg)).setCell ⟨gb,2,none⟩ (.int .u64 0)).setCell ⟨gb,3,none⟩ (.int .i64 0)) gb 74 #[.int .i64 1,.bool neg,.int .u64 0,.int .i64 0]:=zaw HM.out.1;obtain⟨e0,e1,e2,e3⟩:=cells4 HSB;have HSH:Below w.heap.size w ((((wx.setCell ⟨gb,0,none⟩ (.int .i64 1)).setCell ⟨gb,1,none⟩ (.bool neg)).setCell ⟨gb,2,none⟩ (.int .u64 0)).setCell ⟨gb,3,none⟩ (.int .i64 0)):=below4 HM.out.2.1 HM.out.2.2 _ _ _ _;refine bodyPost_ret (v:=.tuple #[.agg #[.int .i64 1,.bool neg,.int .u64 0,.int .i64 0],.bool true]) (by rw[results_cell_tmp rfl];go_simp) rfl ?_;rw[HF.out];exact⟨⟨_,_,_,_,rfl⟩,HSH⟩
 ·have h1:(t==([105,110,102]:List UInt8))=false:=by rw[beq_eq_false_iff_ne];exact hinf
  by_cases hnan:s=[110,97,110]
  ·have h2:(s==([110,97,110]:List UInt8))=true:=by rw[beq_iff_eq];exact hnan
   have HF:Hid (r=true):=hid (by rw[<-HR.out,if_neg hinf,if_pos hnan]);clear hinf hnan;go_wp2_with fail;have HSB:Blk ((((wx.setCell ⟨gb,0,none⟩ (.int .i64 2)).setCell ⟨gb,1,none⟩ (.bool false)).setCell ⟨gb,2,none⟩ (.int .u64 0)).setCell ⟨gb,3,none⟩ (.int .i64 0)) gb 74 #[.int .i64 2,.bool false,.int .u64 0,.int .i64 0]:=zaw HM.out.1;obtain⟨e0,e1,e2,e3⟩:=cells4 HSB;have HSH:Below w.heap.size w ((((wx.setCell ⟨gb,0,none⟩ (.int .i64 2)).setCell ⟨gb,1,none⟩ (.bool false)).setCell ⟨gb,2,none⟩ (.int .u64 0)).setCell ⟨gb,3,none⟩ (.int .i64 0)):=below4 HM.out.2.1 HM.out.2.2 _ _ _ _;refine bodyPost_ret (v:=.tuple #[.agg #[.int .i64 2,.bool false,.int .u64 0,.int .i64 0],.bool true]) (by rw[results_cell_tmp rfl];go_simp) rfl ?_;rw[HF.out];exact⟨⟨_,_,_,_,rfl⟩,HSH⟩
  ·have h2:(s==([110,97,110]:List UInt8))=false:=by rw[beq_eq_false_iff_ne];exact hnan
   have HR2:Hid ((match t.dropWhile (fun c=>c != 112)with| []=>false|_::b=>match numb (Gr.fA t)with|some m=>(match numb b with|some e=>mokB m e|none=>false)|none=>false)=r):=hid (by rw[<-HR.out,if_neg hinf,if_neg hnan]);clear hinf hnan HR;have HSP:Hid (t=Gr.fA t++t.dropWhile (fun c=>c != 112)):=hid (List.takeWhile_append_dropWhile (p:=fun c:UInt8=>c != 112) (l:=t)).symm;have HNP:Hid (∀k (h:k<t.length),k<(Gr.fA t).length->t[k]≠112):=hid (fun k h hk=>by
    have e:t[k]=(Gr.fA t)[k]:=by
     have:=HSP.out;rw[List.getElem_of_eq this h,List.getElem_append_left hk]
    rw[e];have hm:=List.getElem_mem hk;unfold Gr.fA at hm;have:=zlk hm;have h4:¬((List.takeWhile (fun c:UInt8=>c != 112) t)[k]=112):=by simpa using this
    exact h4)
   obtain⟨A,hA⟩:=ex (Gr.fA t)
   obtain⟨R,hRd⟩:=ex (t.dropWhile (fun c=>c != 112))
   have hRh:∀c b,R=c::b->c=112:=by
    intro c b e;have:=List.head?_dropWhile_not (fun c:UInt8=>c != 112) t;rw[hRd,e]at this;simpa using this
   have HRH:=hid hRh;rw[hA,hRd]at HR2 HSP;rw[hA]at HNP;have hAl:A.length<=t.length:=by have:=congrArg List.length HSP.out;rw[List.length_append]at this;omega
   clear hA hRd hRh;go_wp2_with fail;go_loop [6] (fun s6=>∃k:Nat,k<=A.length/\s6=.int .i64 (k:Int)) (fun s6=>t.length-(intOf s6).toNat)
   case atStart=>exact⟨0,Nat.zero_le _,rfl⟩
   case round=>
    obtain⟨k,hk,rfl⟩:=hrel;by_cases hkA:k<A.length
    ·have hlt:k<t.length:=by omega
     have hltI:(k:Int)<(t.length:Int):=by omega
     have hne:=HNP.out k hlt hkA;have b1:=zah t k hlt _ 112 112 rfl rfl hne;have b2:=zak t k hlt _ 112 112 rfl rfl hne;clear hne;go_wp2;go_round
     case rel=>exact⟨k+1,by omega,by go_num⟩
     case measure=>simp[intOf];omega
    ·obtain rfl:k=A.length:=by omega
     clear hkA hk;cases R with
     |nil=>
      have HL:Hid (A.length=t.length):=hid (by have:=congrArg List.length HSP.out;rw[List.append_nil]at this;exact this.symm);have hltI:¬(A.length:Int)<(t.length:Int):=by have:=HL.out;omega
      have heI:((A.length:Int)==(t.length:Int))=true:=by rw[beq_iff_eq,HL.out]
      have HF:Hid (r=false):=hid (by rw[<-HR2.out]);go_wp2_with fail;have HSB:Blk ((((wx.setCell ⟨gb,0,none⟩ (.int .i64 0)).setCell ⟨gb,1,none⟩ (.bool false)).setCell ⟨gb,2,none⟩ (.int .u64 0)).setCell ⟨gb,3,none⟩ (.int .i64 0)) gb 74 #[.int .i64 0,.bool false,.int .u64 0,.int .i64 0]:=zaw HM.out.1;obtain⟨e0,e1,e2,e3⟩:=cells4 HSB;have HSH:Below w.heap.size w ((((wx.setCell ⟨gb,0,none⟩ (.int .i64 0)).setCell ⟨gb,1,none⟩ (.bool false)).setCell ⟨gb,2,none⟩ (.int .u64 0)).setCell ⟨gb,3,none⟩ (.int .i64 0)):=below4 HM.out.2.1 HM.out.2.2 _ _ _ _;refine bodyPost_ret (v:=.tuple #[.agg #[.int .i64 0,.bool false,.int .u64 0,.int .i64 0],.bool false]) (by rw[results_cell_tmp rfl];go_simp) rfl ?_;rw[HF.out];exact⟨⟨_,_,_,_,rfl⟩,HSH⟩
     |cons c b=>
      obtain rfl:c=112:=HRH.out c b rfl;have HLT:Hid (A.length+1+b.length=t.length):=hid (by have:=congrArg List.length HSP.out;rw[List.length_append,List.length_cons]at this;omega);have hlt:A.length<t.length:=by have:=HLT.out;omega
      have hltI:(A.length:Int)<(t.length:Int):=by omega
      have heI:((A.length:Int)==(t.length:Int))=false:=by rw[beq_eq_false_iff_ne];omega
      have hp:t[A.length]=112:=by rw[List.getElem_of_eq HSP.out hlt,List.getElem_append_right (Nat.le_refl _)];simp
      have b1:=zar t A.length hlt _ 112 112 rfl rfl hp;have b2:=zaj t A.length hlt _ 112 112 rfl rfl hp;have hbl:b.length<=1073741823:=by have:=HLT.out;omega
      have e1:(⟨t.toArray⟩:ByteArray).extract 0 A.length=⟨A.toArray⟩:=by rw[zan,HSP.out];simp
      have e2:(⟨t.toArray⟩:ByteArray).extract (A.length+1) t.length=⟨b.toArray⟩:=by rw[zan,List.take_of_length_le (by simp),HSP.out];simp
      have HNA:=hid (fun W=>zis A (by omega) W);have HNB:=hid (fun W=>zis b (by omega) W);have bA:=zly A;have bB:=zly b;have HMK:Hid (((numb A).isSome && (numb b).isSome && mokB ((numb A).getD 0) ((numb b).getD 0))=r):=hid (by
       have h:=HR2.out;simp only at h;rw[<-h];rcases numb A with _|m<;>rcases numb b with _|e<;>first|rfl|simp)
      unfold NPost at HNA HNB;obtain⟨m,hm⟩:=ex ((numb A).getD 0)
      obtain⟨x,hx⟩:=ex ((numb b).getD 0)
      obtain⟨ok,hok⟩:=ex ((numb A).isSome)
      obtain⟨is,his⟩:=ex ((numb b).isSome)
      rw[hm,hok]at HNA;rw[hx,his]at HNB;rw[hm,hx,hok,his]at HMK;rw[hm]at bA;rw[hx]at bB;have hA1:A.length+1<=t.length:=by omega
      have hA1I:(A.length:Int)+1<=(t.length:Int):=by omega
      clear hm hx hok his hp HNP HRH HR2 HSP q0 q1 q2 q3 qf;go_upto_region 14 with fail;go_cut [7,8] (fun s7 s8 wy=>s7=.int .i64 m/\s8=.bool ok/\wy=wx)
      case first=>
       go_wp2_with fail;refine(HNA.out _).mono ?_;rintro _ w1 ⟨rfl,rfl⟩;go_wp2;go_meet;exact⟨rfl,rfl,rfl⟩
      case rest=>
      obtain⟨rfl,rfl,rfl⟩:=hcut;refine(‹∀(a:Act) (w_1:World),Code.wp prog _ _ a w_1->_›) _ _ ?_;go_upto_region 15 with fail;go_cut [9,10] (fun s9 s10 wy=>s9=.int .i64 x/\s10=.bool is/\wy=wc)
      case first=>
       go_wp2_with fail;refine(HNB.out _).mono ?_;rintro _ w1 ⟨rfl,rfl⟩;go_wp2;go_meet;exact⟨rfl,rfl,rfl⟩
      case rest=>
      obtain⟨rfl,rfl,rfl⟩:=hcut;refine(‹∀(a:Act) (w_1:World),Code.wp prog _ _ a w_1->_›) _ _ ?_;exact zs3 neg ok is r m x bA.1 bA.2 bB.1 bB.2 gb w _ HM HMK
theorem zon (s:Gr.Str) (hl:s.length<=1073741823) (w:World):Calls prog 45 #[.string ⟨s.toArray⟩] w (OfF (fltR s) w):=by
 obtain⟨r,hr⟩:=ex (fltR s)
 rw[hr];have HR:Hid (∀t,Gr.fT s=t->(if t=[105,110,102]then true else if s=[110,97,110]then true else match t.dropWhile (fun c=>c != 112)with| []=>false|_::b=>match numb (Gr.fA t)with|some m=>(match numb b with|some e=>mokB m e|none=>false)|none=>false)=r):=hid (fun t ht=>by rw[<-hr,<-ht];rfl);clear hr;by_cases h0:0<s.length
 ·have h0I:(0:Int)<(s.length:Int):=by omega
  have hh:s.head?=some s[0]:=by rw[List.head?_eq_getElem?,List.getElem?_eq_getElem h0]
  by_cases h45:s[0]=45
  ·have b1:=zar s 0 h0 _ 45 45 rfl rfl h45;have b2:=zaj s 0 h0 _ 45 45 rfl rfl h45;obtain⟨t,ht⟩:=ex s.tail
   have HL:=hid (HR.out t (by unfold Gr.fT;rw[hh,h45,if_pos rfl,ht]));have htl:t.length<=s.length:=by rw[<-ht];simp
   have e1:(⟨s.toArray⟩:ByteArray).extract 1 s.length=⟨t.toArray⟩:=by rw[zan,List.take_of_length_le (by simp),<-ht,List.drop_one]
   have h1I:(1:Int)<=(s.length:Int):=by omega
   clear HR hh h45 ht;go_enter func45,ntmps45;go_upto_region 1 with fail;obtain⟨w0,hw0⟩:=ex (w.alloc (.cells #[.int .i64 0,.bool false,.int .u64 0,.int .i64 0] 74))
   have HM:Hid (Blk w0 w.heap.size 74 #[.int .i64 0,.bool false,.int .u64 0,.int .i64 0]/\Below w.heap.size w w0/\w.heap.size<=w.heap.size):=hid ⟨by rw[<-hw0];exact Blk.new _ _ _,by rw[<-hw0];exact(Below.refl _ _).alloc (Nat.le_refl _) _,Nat.le_refl _⟩;(try rw[hw0]);clear hw0;go_upto_if 20 with fail;go_cut [5] (fun s5 wy=>s5=.string ⟨t.toArray⟩/\wy=w0)
   case first=>
    go_wp2;go_meet;exact⟨rfl,rfl⟩
   case rest=>
   obtain⟨rfl,rfl⟩:=hcut;refine(‹∀(a:Act) (w_1:World),Code.wp prog _ _ a w_1->_›) _ _ ?_;exact zrd s t hl (by omega) true r _ w _ HM HL
  ·have b1:=zah s 0 h0 _ 45 45 rfl rfl h45;have b2:=zak s 0 h0 _ 45 45 rfl rfl h45;have HL:=hid (HR.out s (by unfold Gr.fT;rw[hh,if_neg (by intro e;injection e with e;exact h45 e)]));clear HR hh h45;go_enter func45,ntmps45;go_upto_region 1 with fail;obtain⟨w0,hw0⟩:=ex (w.alloc (.cells #[.int .i64 0,.bool false,.int .u64 0,.int .i64 0] 74))
   have HM:Hid (Blk w0 w.heap.size 74 #[.int .i64 0,.bool false,.int .u64 0,.int .i64 0]/\Below w.heap.size w w0/\w.heap.size<=w.heap.size):=hid ⟨by rw[<-hw0];exact Blk.new _ _ _,by rw[<-hw0];exact(Below.refl _ _).alloc (Nat.le_refl _) _,Nat.le_refl _⟩;(try rw[hw0]);clear hw0;go_upto_if 20 with fail;go_cut [5] (fun s5 wy=>s5=.string ⟨s.toArray⟩/\wy=w0)
   case first=>
    go_wp2;go_meet;exact⟨rfl,rfl⟩
   case rest=>
   obtain⟨rfl,rfl⟩:=hcut;refine(‹∀(a:Act) (w_1:World),Code.wp prog _ _ a w_1->_›) _ _ ?_;exact zrd s s hl (by omega) false r _ w _ HM HL
 ·have h0I:¬(0:Int)<(s.length:Int):=by omega
  have HL:=hid (HR.out s (by rw[show s=[]from List.eq_nil_of_length_eq_zero (by omega)];rfl));clear HR;go_enter func45,ntmps45;go_upto_region 1 with fail;obtain⟨w0,hw0⟩:=ex (w.alloc (.cells #[.int .i64 0,.bool false,.int .u64 0,.int .i64 0] 74))
  have HM:Hid (Blk w0 w.heap.size 74 #[.int .i64 0,.bool false,.int .u64 0,.int .i64 0]/\Below w.heap.size w w0/\w.heap.size<=w.heap.size):=hid ⟨by rw[<-hw0];exact Blk.new _ _ _,by rw[<-hw0];exact(Below.refl _ _).alloc (Nat.le_refl _) _,Nat.le_refl _⟩;(try rw[hw0]);clear hw0;go_upto_if 20 with fail;go_cut [5] (fun s5 wy=>s5=.string ⟨s.toArray⟩/\wy=w0)
  case first=>
   go_wp2;go_meet;exact⟨rfl,rfl⟩
  case rest=>
  obtain⟨rfl,rfl⟩:=hcut;refine(‹∀(a:Act) (w_1:World),Code.wp prog _ _ a w_1->_›) _ _ ?_;exact zrd s s hl (by omega) false r _ w _ HM HL
end Go.Proofs.YtoigpackhninoaaGreatDoor
