import Derived.Test.YtpgmfihonmoliaaGreatDoorZ08
namespace Go.Proofs.YtpgmfihonmoliaaGreatDoor
open _root_.Go.Proofs.Tryz
open _root_.Go.Lib (hid)
set_option maxRecDepth 100000
set_option maxHeartbeats 16000000
open Go.RowKit
def finO (s:Gr.Str) (sh:Nat) (f:Nat->Nat) (nn p:Nat):Option (Array Value):=
 if p=s.length then some (mC sh f nn 0)else if sh=3/\p<s.length then match Gr.zoneAt s p with
  |some z=>if z.stop=s.length then some (mC sh (fset (fset f 6 z.h) 7 z.m) nn z.z.toNat)else none
  |none=>none
 else none
theorem KM.below {mb ab:Nat} {a b:World} {B:Nat} (h:KM mb ab a b) (hB:B<=a.heap.size) (h1:B<=mb) (h2:B<=ab):Below B a b:=za9.below h hB (by rintro k (e|e)<;>omega)
theorem RMem.fld {s:Gr.Str} {w:World} {sb rb mb ab fb sh:Nat} {f f':Nat->Nat} {nn z p p':Nat} {wx wy:World} (h:RMem s w sb rb mb ab fb sh f nn z p wx) (hk:KM mb ab wx wy) (hm:Blk wy mb 96 (mC sh f' nn z)) (ha:Blk wy ab 3 #[.int .i64 (p':Int)]):RMem s w sb rb mb ab fb sh f' nn z p' wy:=
 ⟨h.b.trans (hk.below h.b.size h.nm h.na),h.n,h.nm,h.na,h.mr,hk.blk h.s (h.s.ne_ h.m (by decide)) (h.s.ne_ h.a (by decide)),hk.blk h.r h.mr.symm (h.r.ne_ h.a (by decide)),hm,ha,hk.blk h.f (h.f.ne_ h.m (by decide)) (h.f.ne_ h.a (by decide))⟩
theorem zp4 {sh nn z z6 z7:Nat} {f g:Nat->Nat} (h:∀j,j<6->g j=f j) (h6:g 6=z6) (h7:g 7=z7):mC sh g nn z=mC sh (fset (fset f 6 z6) 7 z7) nn z:=by
 simp[mC,fset,h 0 (by omega),h 1 (by omega),h 2 (by omega),h 3 (by omega),h 4 (by omega),h 5 (by omega),h6,h7]
theorem zv6 (s:Gr.Str) (hl:s.length<=1073741823) (w wx:World) (sb rb mb ab fb sh:Nat) (f:Nat->Nat) (nn p:Nat) (T:Option (Array Value)) (HM:Hid (RMem s w sb rb mb ab fb sh f nn 0 p wx)) (hp:p<=s.length) (_hsh:sh<=3) (HT:Hid (T=finO s sh f nn p/\f 6=0/\f 7=0)) {u3 u8 u9 u10 u11 u12 u13 u14 u15 u16 u17 u18 u19 u20 u21 u22 u23 u24 u25 u26 u27 u28 u29 u30 u31 u32 u33 u34 u35 u36 u37 u38 u39 u40 u41 u42 u43 u44 u45 u46 u47 u48 u49 u50 u51 u52 u53 u54 u55 u56 u57 u58 u59 u60 u61 u62 u63 u64 u65 u66 u67 u68 u69 u70 u71 u72 u73 u74 u75 u76 u77 u78 u79 u80 u81 u82 u83 u84 u85 u86 u87 u88 u89 u90 u91 u92 u93 u94 u95 u96 u97 u98 u99 u100 u101 u102 u103 u104 u105 u106 u107 u108 u109 u110 u111 u112 u113 u114 u115 u116 u117 u118 u119 u120 u121 u122 u123 u124 u125 u126 u127 u128 u129 u130 u131 u132 u133 u134 u135 u136 u137 u138 u139 u140 u141 u142 u143 u144 u145 u146 u147 u148 u149 u150 u151 u152 u153 u154:Value}:
 Code.wp prog (tl 9 (f58.body.getD .skip)) (bodyPost prog f58 (RPost T w)) {tmps:=List.toArray (.string ⟨s.toArray⟩::.pointer (some ⟨sb,0,none⟩)::.pointer (some ⟨rb,0,none⟩)::u3::.pointer (some ⟨mb,0,none⟩)::.pointer (some ⟨ab,0,none⟩)::.pointer (some ⟨fb,0,none⟩)::.func (.func 90) #[] #[.pointer (some ⟨ab,0,none⟩),.pointer (some ⟨sb,0,none⟩),.pointer (some ⟨fb,0,none⟩)]::u8::u9::u10::u11::u12::u13::u14::u15::u16::u17::u18::u19::u20::u21::u22::u23::u24::u25::u26::u27::u28::u29::u30::u31::u32::u33::u34::u35::u36::u37::u38::u39::u40::u41::u42::u43::u44::u45::u46::u47::u48::u49::u50::u51::u52::u53::u54::u55::u56::u57::u58::u59::u60::u61::u62::u63::u64::u65::u66::u67::u68::u69::u70::u71::u72::u73::u74::u75::u76::u77::u78::u79::u80::u81::u82::u83::u84::u85::u86::u87::u88::u89::u90::u91::u92::u93::u94::u95::u96::u97::u98::u99::u100::u101::u102::u103::u104::u105::u106::u107::u108::u109::u110::u111::u112::u113::u114::u115::u116::u117::u118::u119::u120::u121::u122::u123::u124::u125::u126::u127::u128::u129::u130::u131::u132::u133::u134::u135::u136::u137::u138::u139::u140::u141::u142::u143::u144::u145::u146::u147::u148::u149::u150::u151::u152::u153::u154::[]),defers:=[]} wx:=by
 generalize hc0:tl 9 (f58.body.getD .skip)=c0;simp only[tl,f58,Option.getD_some]at hc0;subst hc0;obtain⟨zb,am⟩:∃zb,decide (p<s.length/\sh=3)=zb:=⟨_,rfl⟩
 have L:=hid am;clear am;have qA:wx.cell? ⟨ab,0,none⟩=some (.int .i64 (p:Int)):=HM.out.a.cell 0;have aC:∀j,wx.frozen? ⟨ab,j,none⟩=false:=HM.out.a.frozen;have qS:wx.cell? ⟨sb,0,none⟩=some (.string ⟨s.toArray⟩):=HM.out.s.cell 0;have aA:wx.cell? ⟨mb,0,none⟩=some (.int .i64 (sh:Int)):=HM.out.m.cell 0;have au:wx.cell? ⟨mb,10,none⟩=some (.int .u8 ((0:Nat):Int)):=HM.out.m.cell 10;have ax:∀j,wx.frozen? ⟨mb,j,none⟩=false:=HM.out.m.frozen;go_upto_region 29 with fail;go_cut [119] (fun s119 wy=>s119=.bool zb/\wy=wx)
 case first=>
  by_cases hlt:p<s.length
  .have X:(p:Int)<(s.length:Int):=by omega
   by_cases h3:sh=3
   .have af:(sh:Int)=3:=by omega
    have ay:((sh:Int)==3)=true:=by simpa using af
    obtain rfl:zb=true:=by rw[<-L.out];exact decide_eq_true ⟨hlt,h3⟩
    go_wp2;go_meet;exact⟨rfl,rfl⟩
   .have af:¬(sh:Int)=3:=by omega
    have ay:((sh:Int)==3)=false:=by simpa using af
    obtain rfl:zb=false:=by rw[<-L.out];exact decide_eq_false (fun e=>h3 e.2)
    go_wp2;go_meet;exact⟨rfl,rfl⟩
  .have X:¬(p:Int)<(s.length:Int):=by omega
   obtain rfl:zb=false:=by rw[<-L.out];exact decide_eq_false (fun e=>hlt e.1)
   go_wp2;go_meet;exact⟨rfl,rfl⟩
 case rest=>
 obtain⟨rfl,rfl⟩:=hcut;go_upto_if 119 with fail;go_cut [] (fun wy=>∃(f':Nat->Nat) (z' p':Nat),Hid (RMem s w sb rb mb ab fb sh f' nn z' p' wy)/\Hid (T=if p'=s.length then some (mC sh f' nn z')else none))
 case first=>
  cases zb with
  |false=>
   have h:=of_decide_eq_false L.out;go_wp2;go_meet;exact⟨f,0,p,HM,hid (by
    rw[HT.out.1];unfold finO;by_cases hpl:p=s.length
    .rw[if_pos hpl,if_pos hpl]
    .rw[if_neg hpl,if_neg hpl,if_neg (fun e=>h ⟨e.2,e.1⟩)])⟩
  |true=>
   obtain⟨hlt,h3⟩:=of_decide_eq_true L.out;have X:(p:Int)<(s.length:Int):=by omega
   obtain⟨b,hb⟩:∃b:Nat,(s[p]'hlt).toNat=b:=⟨_,rfl⟩
   have hbv:(((⟨s.toArray⟩:ByteArray)[p]'(by simpa[ByteArray.size]using hlt)).toNat:Int)=(b:Int):=by rw[<-hb];rfl
   have hbl:b<256:=by rw[<-hb];exact(s[p]'hlt).toNat_lt
   have HB:=hid hb;have A:Hid (T=match Gr.zoneAt s p with
    |some z=>if z.stop=s.length then some (mC sh (fset (fset f 6 z.h) 7 z.m) nn z.z.toNat)else none
    |none=>none):=hid (by rw[HT.out.1];unfold finO;rw[if_neg (by omega),if_pos ⟨h3,hlt⟩])
   clear hb h3;have aw:∀v,(wc.setCell ⟨mb,10,none⟩ v).cell? ⟨ab,0,none⟩=some (.int .i64 (p:Int)):=fun v=>(HM.out.a.far (HM.out.a.ne_ HM.out.m (by decide)) v).cell 0
   have aE:∀v j,(wc.setCell ⟨mb,10,none⟩ v).frozen? ⟨ab,j,none⟩=false:=fun v j=>(HM.out.a.far (HM.out.a.ne_ HM.out.m (by decide)) v).frozen j
   go_upto_region 32 with fail;obtain⟨F,ae⟩:=ex (p+1)
   obtain⟨k,ac⟩:=ex ((wc.setCell ⟨mb,10,none⟩ (.int .u8 (b:Int))).setCell ⟨ab,0,none⟩ (.int .i64 ((p:Int)+1)))
   have c:Hid (RMem s w sb rb mb ab fb sh f nn b F k):=hid (by
    rw[<-ac,<-ae];have aa:=HM.out.m.ne_ HM.out.a (by decide);have D:KM mb ab wc ((wc.setCell ⟨mb,10,none⟩ (.int .u8 (b:Int))).setCell ⟨ab,0,none⟩ (.int .i64 ((p:Int)+1))):=(KM.ofM (Kept1.set _ _)).trans (KM.ofA (Kept1.set _ _));have h:=HM.out;exact⟨h.b.trans (D.below h.b.size h.nm h.na),h.n,h.nm,h.na,h.mr,D.blk h.s (h.s.ne_ h.m (by decide)) (h.s.ne_ h.a (by decide)),D.blk h.r h.mr.symm (h.r.ne_ h.a (by decide)),(h.m.set_ 10 _).far aa _,(h.a.far aa.symm _).set_ 0 _,D.blk h.f (h.f.ne_ h.m (by decide)) (h.f.ne_ h.a (by decide))⟩)
   (try rw[ac]);have G:=hid ae;clear ac aw aE qA aC qS aA au ax ae;have qz:k.cell? ⟨mb,10,none⟩=some (.int .u8 (b:Int)):=c.out.m.cell 10;by_cases h90:b=90
   .have t:(b:Int)=90:=by omega
    have N:((b:Int)==90)=true:=by simpa using t
    obtain⟨ok,ad⟩:=ex (decide ((F:Int)=(s.length:Int)))
    have hokb:((F:Int)==(s.length:Int))=ok:=by rw[<-ad];rfl
    have ap:Hid (T=if ok=true then some (mC sh f nn b)else none):=hid (by
     rw[A.out,zya hlt (HB.out.trans h90),<-ad];simp only;rw[<-zp4 (f:=f) (g:=f) (fun _ _=>rfl) HT.out.2.1 HT.out.2.2,h90];by_cases h:F=s.length
     .rw[if_pos (by rw[G.out];exact h),if_pos (by simp[h])];rfl
     .rw[if_neg (by rw[G.out];exact h),if_neg (by simp;omega)])
    clear ad HT A HM;go_upto_region 33 with fail;clear t N qz;obtain⟨Z,hZ⟩:∃Z:Bool->Array Value,Z=fun d=>if d=true then mC sh f nn b else mZ:=⟨_,rfl⟩
    have K:Hid (Z false=mZ/\Z true=mC sh f nn b):=hid (by rw[hZ];exact⟨rfl,rfl⟩);clear hZ;have ah:Hid (∃y:WL rb 96 k (Z false),{k with drawn:=k.drawn+1}=y.w):=hid ⟨⟨k.drewN 1,(KB.refl _ _).drewN 1,by rw[K.out.1];exact c.out.r.drewN 1⟩,rfl⟩;have V:Hid (∀y:WL rb 96 k (Z false),∃z':WL rb 96 k (Z true),(((((((((((y.w.setCell ⟨rb,0,none⟩ (.int .i64 (sh:Int))).setCell ⟨rb,1,none⟩ (.int .i64 (f 0:Int))).setCell ⟨rb,2,none⟩ (.int .i64 (f 1:Int))).setCell ⟨rb,3,none⟩ (.int .i64 (f 2:Int))).setCell ⟨rb,4,none⟩ (.int .i64 (f 3:Int))).setCell ⟨rb,5,none⟩ (.int .i64 (f 4:Int))).setCell ⟨rb,6,none⟩ (.int .i64 (f 5:Int))).setCell ⟨rb,7,none⟩ (.int .i64 (f 6:Int))).setCell ⟨rb,8,none⟩ (.int .i64 (f 7:Int))).setCell ⟨rb,9,none⟩ (.int .i64 (nn:Int))).setCell ⟨rb,10,none⟩ (.int .u8 (b:Int)))=z'.w):=hid (fun y=>⟨⟨_,kb11 y.h,by
     have h0:=WL.hc2 y K.out.1;rw[K.out.2];exact zbb h0⟩,rfl⟩)
    have av:Hid (∀d,Nonempty (WL rb 96 k (Z d))):=hid (fun d=>by
     obtain⟨y,_⟩:=ah.out;cases d with
     |false=>exact⟨y⟩
     |true=>obtain⟨z',_⟩:=V.out y;exact⟨z'⟩)
    have E:Hid (∀d,∀y:WL rb 96 k (Z d),Blk y.w mb 96 (mC sh f nn b)/\Blk y.w ab 3 #[.int .i64 (F:Int)]/\Blk y.w sb 9 #[.string ⟨s.toArray⟩]):=hid (fun d y=>⟨y.h.blk c.out.m c.out.mr,y.h.blk c.out.a (c.out.a.ne_ c.out.r (by decide)),y.h.blk c.out.s (c.out.s.ne_ c.out.r (by decide))⟩);refine zba (aF:=?aF) 5 (by kernel_rfl) _ rfl rfl rfl rfl rfl (by kernel_rfl) (by kernel_rfl) (by kernel_rfl) (by kernel_rfl) (by kernel_rfl) (fun d W=>∃y:WL rb 96 k (Z d),W=y.w) ah.out (fun d=>?h1) ?h2 ?h3
    case h1=>
     have q0:∀y:WL rb 96 k (Z d),y.w.cell? ⟨mb,0,none⟩=some (.int .i64 (sh:Int)):=fun y=>(E.out d y).1.cell 0
     have q1:∀y:WL rb 96 k (Z d),y.w.cell? ⟨mb,1,none⟩=some (.int .i64 (f 0:Int)):=fun y=>(E.out d y).1.cell 1
     have q2:∀y:WL rb 96 k (Z d),y.w.cell? ⟨mb,2,none⟩=some (.int .i64 (f 1:Int)):=fun y=>(E.out d y).1.cell 2
     have q3:∀y:WL rb 96 k (Z d),y.w.cell? ⟨mb,3,none⟩=some (.int .i64 (f 2:Int)):=fun y=>(E.out d y).1.cell 3
     have q4:∀y:WL rb 96 k (Z d),y.w.cell? ⟨mb,4,none⟩=some (.int .i64 (f 3:Int)):=fun y=>(E.out d y).1.cell 4
     have q5:∀y:WL rb 96 k (Z d),y.w.cell? ⟨mb,5,none⟩=some (.int .i64 (f 4:Int)):=fun y=>(E.out d y).1.cell 5
     have q6:∀y:WL rb 96 k (Z d),y.w.cell? ⟨mb,6,none⟩=some (.int .i64 (f 5:Int)):=fun y=>(E.out d y).1.cell 6
     have q7:∀y:WL rb 96 k (Z d),y.w.cell? ⟨mb,7,none⟩=some (.int .i64 (f 6:Int)):=fun y=>(E.out d y).1.cell 7
     have q8:∀y:WL rb 96 k (Z d),y.w.cell? ⟨mb,8,none⟩=some (.int .i64 (f 7:Int)):=fun y=>(E.out d y).1.cell 8
     have q9:∀y:WL rb 96 k (Z d),y.w.cell? ⟨mb,9,none⟩=some (.int .i64 (nn:Int)):=fun y=>(E.out d y).1.cell 9
     have q10:∀y:WL rb 96 k (Z d),y.w.cell? ⟨mb,10,none⟩=some (.int .u8 (b:Int)):=fun y=>(E.out d y).1.cell 10
     have aa:=av.out d;have qA:∀y:WL rb 96 k (Z d),y.w.cell? ⟨ab,0,none⟩=some (.int .i64 (F:Int)):=fun y=>(E.out d y).2.1.cell 0
     have qS:∀y:WL rb 96 k (Z d),y.w.cell? ⟨sb,0,none⟩=some (.string ⟨s.toArray⟩):=fun y=>(E.out d y).2.2.cell 0
     simp only[List.set_cons_succ,List.set_cons_zero,nopOf,List.getElem_toArray,List.getElem_cons_succ,List.getElem_cons_zero]
     iterate 7 (go_big_quiet_step (fail))
     refine wpQuiet_nil ?_;rfl
    case h2=>
     rintro _ ⟨y,rfl⟩;obtain⟨z',hz⟩:=V.out y;have U:Blk y.w rb 96 #[.int .i64 0,.int .i64 0,.int .i64 0,.int .i64 0,.int .i64 0,.int .i64 0,.int .i64 0,.int .i64 0,.int .i64 0,.int .i64 0,.int .u8 0]:=WL.hc2 y K.out.1;have f0:∀j,y.w.frozen? ⟨rb,j,none⟩=false:=U.frozen;obtain⟨c0,c1,c2,c3,c4,c5,c6,c7,c8,c9,c10⟩:=zag U;refine⟨z'.w,?_,z',rfl⟩;rw[<-hz];simp only[List.getElem_toArray,List.getElem_cons_succ,List.getElem_cons_zero];go_simp
    case h3=>
    rintro _ ⟨y,rfl⟩;have U:Blk y.w rb 96 (mC sh f nn b):=WL.hc2 y K.out.2;obtain⟨e0,e1,e2,e3,e4,e5,e6,e7,e8,e9,ag⟩:=zag U;go_wp2_with fail;have C:Below w.heap.size w y.w:=c.out.b.trans (y.h.below c.out.n c.out.b.size);refine bodyPost_ret (v:=.tuple #[.agg #[.int .i64 (sh:Int),.int .i64 (f 0:Int),.int .i64 (f 1:Int),.int .i64 (f 2:Int),.int .i64 (f 3:Int),.int .i64 (f 4:Int),.int .i64 (f 5:Int),.int .i64 (f 6:Int),.int .i64 (f 7:Int),.int .i64 (nn:Int),.int .u8 (b:Int)],.bool ok]) (by rw[results_cell_tmp rfl];go_simp) rfl ?_;unfold RPost;refine⟨C,sh,f,nn,b,?_,fun x H=>?_⟩
    .rw[ap.out];cases ok<;>rfl
    .rw[ap.out]at H;split at H
     .injection H with H;exact H.symm
     .cases H
   .have t:¬(b:Int)=90:=by omega
    have N:((b:Int)==90)=false:=by simpa using t
    have Q:=hid h90;clear h90;go_upto_region 34 with fail;clear t N;by_cases hpm:b=43\/b=45
    .have aq:Hid ((∃j,j<2/\fldAt s F 2 58 j=none)->T=none):=hid (fun u=>by
      rw[A.out,zmr hlt HB.out Q.out (by rw[G.out];exact u)])
     have al:Hid (∀g:Nat->Nat,(∀j,j<2->fldAt s F 2 58 j=some (g (6+j)))->(∀j,j<6->g j=f j)->T=if posAt F 2 2=s.length then some (mC sh g nn b)else none):=hid (fun g hg h6=>by
      obtain⟨z,e1,e2,e3,e4,e5⟩:=zs9 hlt HB.out hpm (by rw[G.out];exact hg);rw[A.out,e1];simp only;rw[e2,e3,e4,e5,<-zp4 (f:=f) h6 rfl rfl,show posAt F 2 2=p+6 from by rw[<-G.out];simp[posAt]])
     have ak:=hid (zd1 s hl ab sb fb mb F 2 58 6 2 2 sh f nn b 2 58 rfl rfl (by omega) (by omega) (by omega) (by omega) (by omega) (by omega) 7 rfl (by have:=G.out;omega) k c.out.a c.out.s c.out.f c.out.m);clear HT A HM HB Q;by_cases h43:b=43
     .have B:(b:Int)=43:=by omega
      have S:((b:Int)==43)=true:=by simpa using B
      clear h43 hpm;go_wp2_with fail;clear B S;refine ak.out.mono ?_;rintro e J ⟨D,f',o,⟨rfl,M,I,l,hpl⟩|⟨rfl,u,p4,hp4,l⟩⟩
      .have i:Hid (RMem s w sb rb mb ab fb sh f' nn b (posAt F 2 2) J):=hid (c.out.fld D o l);have Y:=hid (al.out f' M (fun j hj=>I j (.inl hj)));clear D o l M I;go_wp2;go_meet;exact⟨f',b,_,i,Y⟩
      .have i:Hid (RMem s w sb rb mb ab fb sh f' nn b p4 J):=hid (c.out.fld D o l);have q:=hid (aq.out u);clear D o l u;obtain⟨m0,m1,m2,m3,m4,m5,m6,m7,m8,m9,an⟩:=zag i.out.m;obtain⟨x0,x1,x2,x3,x4,x5,x6,x7,x8,x9,ar⟩:=zag i.out.r;have xf:∀j,J.frozen? ⟨rb,j,none⟩=false:=i.out.r.frozen;go_wp2_with fail;have O:Blk (((((((((((J.setCell ⟨rb,0,none⟩ (.int .i64 (sh:Int))).setCell ⟨rb,1,none⟩ (.int .i64 (f' 0:Int))).setCell ⟨rb,2,none⟩ (.int .i64 (f' 1:Int))).setCell ⟨rb,3,none⟩ (.int .i64 (f' 2:Int))).setCell ⟨rb,4,none⟩ (.int .i64 (f' 3:Int))).setCell ⟨rb,5,none⟩ (.int .i64 (f' 4:Int))).setCell ⟨rb,6,none⟩ (.int .i64 (f' 5:Int))).setCell ⟨rb,7,none⟩ (.int .i64 (f' 6:Int))).setCell ⟨rb,8,none⟩ (.int .i64 (f' 7:Int))).setCell ⟨rb,9,none⟩ (.int .i64 (nn:Int))).setCell ⟨rb,10,none⟩ (.int .u8 (b:Int))) rb 96 (mC sh f' nn b):=zbb i.out.r;obtain⟨e0,e1,e2,e3,e4,e5,e6,e7,e8,e9,ag⟩:=zag O;have C:Below w.heap.size w (((((((((((J.setCell ⟨rb,0,none⟩ (.int .i64 (sh:Int))).setCell ⟨rb,1,none⟩ (.int .i64 (f' 0:Int))).setCell ⟨rb,2,none⟩ (.int .i64 (f' 1:Int))).setCell ⟨rb,3,none⟩ (.int .i64 (f' 2:Int))).setCell ⟨rb,4,none⟩ (.int .i64 (f' 3:Int))).setCell ⟨rb,5,none⟩ (.int .i64 (f' 4:Int))).setCell ⟨rb,6,none⟩ (.int .i64 (f' 5:Int))).setCell ⟨rb,7,none⟩ (.int .i64 (f' 6:Int))).setCell ⟨rb,8,none⟩ (.int .i64 (f' 7:Int))).setCell ⟨rb,9,none⟩ (.int .i64 (nn:Int))).setCell ⟨rb,10,none⟩ (.int .u8 (b:Int))):=zco i.out.b i.out.n;refine bodyPost_ret (v:=.tuple #[.agg #[.int .i64 (sh:Int),.int .i64 (f' 0:Int),.int .i64 (f' 1:Int),.int .i64 (f' 2:Int),.int .i64 (f' 3:Int),.int .i64 (f' 4:Int),.int .i64 (f' 5:Int),.int .i64 (f' 6:Int),.int .i64 (f' 7:Int),.int .i64 (nn:Int),.int .u8 (b:Int)],.bool false]) (by rw[results_cell_tmp rfl];go_simp) rfl ?_;have P:T=none:=q.out;unfold RPost;rw[P];exact⟨C,sh,f',nn,b,rfl,fun x H=>by cases H⟩
     .have aB:b=45:=by omega
      have B:¬(b:Int)=43:=by omega
      have S:((b:Int)==43)=false:=by simpa using B
      have R:(b:Int)=45:=by omega
      have ao:((b:Int)==45)=true:=by simpa using R
      clear h43 aB hpm;go_wp2_with fail;clear B S R ao;refine ak.out.mono ?_;rintro e J ⟨D,f',o,⟨rfl,M,I,l,hpl⟩|⟨rfl,u,p4,hp4,l⟩⟩
      .have i:Hid (RMem s w sb rb mb ab fb sh f' nn b (posAt F 2 2) J):=hid (c.out.fld D o l);have Y:=hid (al.out f' M (fun j hj=>I j (.inl hj)));clear D o l M I;go_wp2;go_meet;exact⟨f',b,_,i,Y⟩
      .have i:Hid (RMem s w sb rb mb ab fb sh f' nn b p4 J):=hid (c.out.fld D o l);have q:=hid (aq.out u);clear D o l u;obtain⟨m0,m1,m2,m3,m4,m5,m6,m7,m8,m9,an⟩:=zag i.out.m;obtain⟨x0,x1,x2,x3,x4,x5,x6,x7,x8,x9,ar⟩:=zag i.out.r;have xf:∀j,J.frozen? ⟨rb,j,none⟩=false:=i.out.r.frozen;go_wp2_with fail;have O:Blk (((((((((((J.setCell ⟨rb,0,none⟩ (.int .i64 (sh:Int))).setCell ⟨rb,1,none⟩ (.int .i64 (f' 0:Int))).setCell ⟨rb,2,none⟩ (.int .i64 (f' 1:Int))).setCell ⟨rb,3,none⟩ (.int .i64 (f' 2:Int))).setCell ⟨rb,4,none⟩ (.int .i64 (f' 3:Int))).setCell ⟨rb,5,none⟩ (.int .i64 (f' 4:Int))).setCell ⟨rb,6,none⟩ (.int .i64 (f' 5:Int))).setCell ⟨rb,7,none⟩ (.int .i64 (f' 6:Int))).setCell ⟨rb,8,none⟩ (.int .i64 (f' 7:Int))).setCell ⟨rb,9,none⟩ (.int .i64 (nn:Int))).setCell ⟨rb,10,none⟩ (.int .u8 (b:Int))) rb 96 (mC sh f' nn b):=zbb i.out.r;obtain⟨e0,e1,e2,e3,e4,e5,e6,e7,e8,e9,ag⟩:=zag O;have C:Below w.heap.size w (((((((((((J.setCell ⟨rb,0,none⟩ (.int .i64 (sh:Int))).setCell ⟨rb,1,none⟩ (.int .i64 (f' 0:Int))).setCell ⟨rb,2,none⟩ (.int .i64 (f' 1:Int))).setCell ⟨rb,3,none⟩ (.int .i64 (f' 2:Int))).setCell ⟨rb,4,none⟩ (.int .i64 (f' 3:Int))).setCell ⟨rb,5,none⟩ (.int .i64 (f' 4:Int))).setCell ⟨rb,6,none⟩ (.int .i64 (f' 5:Int))).setCell ⟨rb,7,none⟩ (.int .i64 (f' 6:Int))).setCell ⟨rb,8,none⟩ (.int .i64 (f' 7:Int))).setCell ⟨rb,9,none⟩ (.int .i64 (nn:Int))).setCell ⟨rb,10,none⟩ (.int .u8 (b:Int))):=zco i.out.b i.out.n;refine bodyPost_ret (v:=.tuple #[.agg #[.int .i64 (sh:Int),.int .i64 (f' 0:Int),.int .i64 (f' 1:Int),.int .i64 (f' 2:Int),.int .i64 (f' 3:Int),.int .i64 (f' 4:Int),.int .i64 (f' 5:Int),.int .i64 (f' 6:Int),.int .i64 (f' 7:Int),.int .i64 (nn:Int),.int .u8 (b:Int)],.bool false]) (by rw[results_cell_tmp rfl];go_simp) rfl ?_;have P:T=none:=q.out;unfold RPost;rw[P];exact⟨C,sh,f',nn,b,rfl,fun x H=>by cases H⟩
    .have aj:b≠43:=fun e=>hpm (.inl e)
     have ai:b≠45:=fun e=>hpm (.inr e)
     have q:Hid (T=none):=hid (by rw[A.out,zk7 hlt HB.out Q.out aj ai]);have B:¬(b:Int)=43:=by omega
     have S:((b:Int)==43)=false:=by simpa using B
     have R:¬(b:Int)=45:=by omega
     have ao:((b:Int)==45)=false:=by simpa using R
     clear HT A HM HB aj ai hpm Q;obtain⟨m0,m1,m2,m3,m4,m5,m6,m7,m8,m9,an⟩:=zag c.out.m;obtain⟨x0,x1,x2,x3,x4,x5,x6,x7,x8,x9,ar⟩:=zag c.out.r;have xf:∀j,k.frozen? ⟨rb,j,none⟩=false:=c.out.r.frozen;go_wp2_with fail;have O:Blk (((((((((((k.setCell ⟨rb,0,none⟩ (.int .i64 (sh:Int))).setCell ⟨rb,1,none⟩ (.int .i64 (f 0:Int))).setCell ⟨rb,2,none⟩ (.int .i64 (f 1:Int))).setCell ⟨rb,3,none⟩ (.int .i64 (f 2:Int))).setCell ⟨rb,4,none⟩ (.int .i64 (f 3:Int))).setCell ⟨rb,5,none⟩ (.int .i64 (f 4:Int))).setCell ⟨rb,6,none⟩ (.int .i64 (f 5:Int))).setCell ⟨rb,7,none⟩ (.int .i64 (f 6:Int))).setCell ⟨rb,8,none⟩ (.int .i64 (f 7:Int))).setCell ⟨rb,9,none⟩ (.int .i64 (nn:Int))).setCell ⟨rb,10,none⟩ (.int .u8 (b:Int))) rb 96 (mC sh f nn b):=zbb c.out.r;obtain⟨e0,e1,e2,e3,e4,e5,e6,e7,e8,e9,ag⟩:=zag O;have C:Below w.heap.size w (((((((((((k.setCell ⟨rb,0,none⟩ (.int .i64 (sh:Int))).setCell ⟨rb,1,none⟩ (.int .i64 (f 0:Int))).setCell ⟨rb,2,none⟩ (.int .i64 (f 1:Int))).setCell ⟨rb,3,none⟩ (.int .i64 (f 2:Int))).setCell ⟨rb,4,none⟩ (.int .i64 (f 3:Int))).setCell ⟨rb,5,none⟩ (.int .i64 (f 4:Int))).setCell ⟨rb,6,none⟩ (.int .i64 (f 5:Int))).setCell ⟨rb,7,none⟩ (.int .i64 (f 6:Int))).setCell ⟨rb,8,none⟩ (.int .i64 (f 7:Int))).setCell ⟨rb,9,none⟩ (.int .i64 (nn:Int))).setCell ⟨rb,10,none⟩ (.int .u8 (b:Int))):=zco c.out.b c.out.n;refine bodyPost_ret (v:=.tuple #[.agg #[.int .i64 (sh:Int),.int .i64 (f 0:Int),.int .i64 (f 1:Int),.int .i64 (f 2:Int),.int .i64 (f 3:Int),.int .i64 (f 4:Int),.int .i64 (f 5:Int),.int .i64 (f 6:Int),.int .i64 (f 7:Int),.int .i64 (nn:Int),.int .u8 (b:Int)],.bool false]) (by rw[results_cell_tmp rfl];go_simp) rfl ?_;have P:T=none:=q.out;unfold RPost;rw[P];exact⟨C,sh,f,nn,b,rfl,fun x H=>by cases H⟩
 case rest=>
 obtain⟨f',z',p',az,aD⟩:=hcut;refine(‹∀(a:Act) (w_1:World),Code.wp prog _ _ a w_1->_›) _ _ ?_;exact zx8 s hl w _ sb rb mb ab fb sh f' nn z' p' T az aD
end Go.Proofs.YtpgmfihonmoliaaGreatDoor
