import Derived.Test.YtpgmfihonmoliabGreatDoorZ03
open _root_.Go.RowKit.Below renaming refl->K8
open _root_.Go.Proofs.YtpgmfihonmoliabGreatDoor.Blk renaming new->K5
open _root_.Bool renaming eq_iff_iff->X5
open _root_.Go renaming bodyPost_ret->X9,results_cell_tmp->U0
open _root_.Go.Proofs.YtpgmfihonmoliabGreatDoor.Gr renaming dig->K0,Str->K1,val->K4,fA->Y5,rd->X1
open _root_.Go.Proofs.YtpgmfihonmoliabGreatDoor.Kept1 renaming set->Q8
open _root_.Go.Lib renaming bitLen->Q2,bitLen_le->X7
open _root_.List renaming getElem?_eq_getElem->K6,all_eq_true->K7,toArray->K9,length_append->Q1,takeWhile_append_of_pos->Q5,append_nil->Q6,getD_eq_getElem?_getD->Q7,take_of_length_le->Q9,head?_eq_getElem?->Y0,getElem_cons_zero->Y1,getElem_cons_succ->Y2,take_append_drop->Y3,getElem?_eq_none->Y4,getElem_toArray->Y6,set_cons_zero->Y8,set_cons_succ->Y9,getElem_of_eq->X0,getElem_mem->X3,all_append->X4,drop_drop->X6
open _root_.Nat renaming le_refl->K3,lt_or_ge->Q0,le_of_lt->Q3,succ_ne_self->Q4,pow_le_pow_right->Y7,le_succ->X8
open _root_.Option renaming getD_some->K2
open _root_.Go.World renaming size_alloc->X2
namespace Go.Proofs.YtpgmfihonmoliabGreatDoor
open _root_.Go.Proofs.Tryz
open _root_.Go.Lib (hid)
set_option maxRecDepth 100000
set_option maxHeartbeats 16000000
open Go.RowKit
def finO (s:K1) (sh:Nat) (f:Nat->Nat) (nn p:Nat):Option (Array Value):=
 if p=s.length then some (mC sh f nn 0)else if sh=3/\p<s.length then match Gr.zoneAt s p with
  |some z=>if z.stop=s.length then some (mC sh (fset (fset f 6 z.h) 7 z.m) nn z.z.toNat)else none
  |none=>none
 else none
theorem KM.below {mb ab:Nat} {a b:World} {B:Nat} (h:KM mb ab a b) (hB:B<=a.heap.size) (h1:B<=mb) (h2:B<=ab):Below B a b:=zbc.below h hB (by rintro k (e|e)<;>omega)
theorem RMem.fld {s:K1} {w:World} {sb rb mb ab fb sh:Nat} {f f':Nat->Nat} {nn z p p':Nat} {wx wy:World} (h:RMem s w sb rb mb ab fb sh f nn z p wx) (hk:KM mb ab wx wy) (hm:Blk wy mb 96 (mC sh f' nn z)) (ha:Blk wy ab 3 #[.int .i64 (p':Int)]):RMem s w sb rb mb ab fb sh f' nn z p' wy:=
 ⟨h.b.trans (hk.below h.b.size h.nm h.na),h.n,h.nm,h.na,h.mr,hk.blk h.s (h.s.ne_ h.m (by decide)) (h.s.ne_ h.a (by decide)),hk.blk h.r h.mr.symm (h.r.ne_ h.a (by decide)),hm,ha,hk.blk h.f (h.f.ne_ h.m (by decide)) (h.f.ne_ h.a (by decide))⟩
theorem zqy {sh nn z z6 z7:Nat} {f g:Nat->Nat} (h:∀j,j<6->g j=f j) (h6:g 6=z6) (h7:g 7=z7):mC sh g nn z=mC sh (fset (fset f 6 z6) 7 z7) nn z:=by
 simp[mC,fset,h 0 (by omega),h 1 (by omega),h 2 (by omega),h 3 (by omega),h 4 (by omega),h 5 (by omega),h6,h7]
theorem zxc (s:K1) (hl:s.length<=1073741823) (w wx:World) (sb rb mb ab fb sh:Nat) (f:Nat->Nat) (nn p:Nat) (T:Option (Array Value)) (HM:Hid (RMem s w sb rb mb ab fb sh f nn 0 p wx)) (hp:p<=s.length) (_hsh:sh<=3) (HT:Hid (T=finO s sh f nn p/\f 6=0/\f 7=0)) {u3 u8 u9 u10 u11 u12 u13 u14 u15 u16 u17 u18 u19 u20 u21 u22 u23 u24 u25 u26 u27 u28 u29 u30 u31 u32 u33 u34 u35 u36 u37 u38 u39 u40 u41 u42 u43 u44 u45 u46 u47 u48 u49 u50 u51 u52 u53 u54 u55 u56 u57 u58 u59 u60 u61 u62 u63 u64 u65 u66 u67 u68 u69 u70 u71 u72 u73 u74 u75 u76 u77 u78 u79 u80 u81 u82 u83 u84 u85 u86 u87 u88 u89 u90 u91 u92 u93 u94 u95 u96 u97 u98 u99 u100 u101 u102 u103 u104 u105 u106 u107 u108 u109 u110 u111 u112 u113 u114 u115 u116 u117 u118 u119 u120 u121 u122 u123 u124 u125 u126 u127 u128 u129 u130 u131 u132 u133 u134 u135 u136 u137 u138 u139 u140 u141 u142 u143 u144 u145 u146 u147 u148 u149 u150 u151 u152 u153 u154:Value}:
 Code.wp prog (tl 9 (f58.body.getD .skip)) (bodyPost prog f58 (RPost T w)) {tmps:=K9 (.string ⟨s.toArray⟩::.pointer (some ⟨sb,0,none⟩)::.pointer (some ⟨rb,0,none⟩)::u3::.pointer (some ⟨mb,0,none⟩)::.pointer (some ⟨ab,0,none⟩)::.pointer (some ⟨fb,0,none⟩)::.func (.func 87) #[] #[.pointer (some ⟨ab,0,none⟩),.pointer (some ⟨sb,0,none⟩),.pointer (some ⟨fb,0,none⟩)]::u8::u9::u10::u11::u12::u13::u14::u15::u16::u17::u18::u19::u20::u21::u22::u23::u24::u25::u26::u27::u28::u29::u30::u31::u32::u33::u34::u35::u36::u37::u38::u39::u40::u41::u42::u43::u44::u45::u46::u47::u48::u49::u50::u51::u52::u53::u54::u55::u56::u57::u58::u59::u60::u61::u62::u63::u64::u65::u66::u67::u68::u69::u70::u71::u72::u73::u74::u75::u76::u77::u78::u79::u80::u81::u82::u83::u84::u85::u86::u87::u88::u89::u90::u91::u92::u93::u94::u95::u96::u97::u98::u99::u100::u101::u102::u103::u104::u105::u106::u107::u108::u109::u110::u111::u112::u113::u114::u115::u116::u117::u118::u119::u120::u121::u122::u123::u124::u125::u126::u127::u128::u129::u130::u131::u132::u133::u134::u135::u136::u137::u138::u139::u140::u141::u142::u143::u144::u145::u146::u147::u148::u149::u150::u151::u152::u153::u154::[]),defers:=[]} wx:=by
 generalize hc0:tl 9 (f58.body.getD .skip)=c0;simp only[tl,f58,K2]at hc0;subst hc0;obtain⟨zb,aq⟩:∃zb,decide (p<s.length/\sh=3)=zb:=⟨_,rfl⟩
 have P:=hid aq;clear aq;have qA:wx.cell? ⟨ab,0,none⟩=some (.int .i64 (p:Int)):=HM.out.a.cell 0;have ax:∀j,wx.frozen? ⟨ab,j,none⟩=false:=HM.out.a.frozen;have qS:wx.cell? ⟨sb,0,none⟩=some (.string ⟨s.toArray⟩):=HM.out.s.cell 0;have aD:wx.cell? ⟨mb,0,none⟩=some (.int .i64 (sh:Int)):=HM.out.m.cell 0;have ap:wx.cell? ⟨mb,10,none⟩=some (.int .u8 ((0:Nat):Int)):=HM.out.m.cell 10;have aE:∀j,wx.frozen? ⟨mb,j,none⟩=false:=HM.out.m.frozen;go_upto_region 29 with fail;go_cut [119] (fun s119 wy=>s119=.bool zb/\wy=wx)
 case first=>
  by_cases hlt:p<s.length
  .have X:(p:Int)<(s.length:Int):=by omega
   by_cases h3:sh=3
   .have ad:(sh:Int)=3:=by omega
    have aC:((sh:Int)==3)=true:=by simpa using ad
    obtain rfl:zb=true:=by rw[<-P.out];exact qqk ⟨hlt,h3⟩
    go_wp2;go_meet;exact⟨rfl,rfl⟩
   .have ad:¬(sh:Int)=3:=by omega
    have aC:((sh:Int)==3)=false:=by simpa using ad
    obtain rfl:zb=false:=by rw[<-P.out];exact qqx (fun e=>h3 e.2)
    go_wp2;go_meet;exact⟨rfl,rfl⟩
  .have X:¬(p:Int)<(s.length:Int):=by omega
   obtain rfl:zb=false:=by rw[<-P.out];exact qqx (fun e=>hlt e.1)
   go_wp2;go_meet;exact⟨rfl,rfl⟩
 case rest=>
 obtain⟨rfl,rfl⟩:=hcut;go_upto_if 119 with fail;go_cut [] (fun wy=>∃(f':Nat->Nat) (z' p':Nat),Hid (RMem s w sb rb mb ab fb sh f' nn z' p' wy)/\Hid (T=if p'=s.length then some (mC sh f' nn z')else none))
 case first=>
  cases zb with
  |false=>
   have h:=qqz P.out;go_wp2;go_meet;exact⟨f,0,p,HM,hid (by
    rw[HT.out.1];unfold finO;by_cases hpl:p=s.length
    .rw[if_pos hpl,if_pos hpl]
    .rw[if_neg hpl,if_neg hpl,if_neg (fun e=>h ⟨e.2,e.1⟩)])⟩
  |true=>
   obtain⟨hlt,h3⟩:=qqy P.out;have X:(p:Int)<(s.length:Int):=by omega
   obtain⟨b,hb⟩:∃b:Nat,(s[p]'hlt).toNat=b:=⟨_,rfl⟩
   have hbv:(((⟨s.toArray⟩:ByteArray)[p]'(by simpa[ByteArray.size]using hlt)).toNat:Int)=(b:Int):=by rw[<-hb];rfl
   have hbl:b<256:=by rw[<-hb];exact(s[p]'hlt).toNat_lt
   have HB:=hid hb;have C:Hid (T=match Gr.zoneAt s p with
    |some z=>if z.stop=s.length then some (mC sh (fset (fset f 6 z.h) 7 z.m) nn z.z.toNat)else none
    |none=>none):=hid (by rw[HT.out.1];unfold finO;rw[if_neg (by omega),if_pos ⟨h3,hlt⟩])
   clear hb h3;have az:∀v,(wc.setCell ⟨mb,10,none⟩ v).cell? ⟨ab,0,none⟩=some (.int .i64 (p:Int)):=fun v=>(HM.out.a.far (HM.out.a.ne_ HM.out.m (by decide)) v).cell 0
   have aw:∀v j,(wc.setCell ⟨mb,10,none⟩ v).frozen? ⟨ab,j,none⟩=false:=fun v j=>(HM.out.a.far (HM.out.a.ne_ HM.out.m (by decide)) v).frozen j
   go_upto_region 32 with fail;obtain⟨E,ac⟩:=ex (p+1)
   obtain⟨k,aa⟩:=ex ((wc.setCell ⟨mb,10,none⟩ (.int .u8 (b:Int))).setCell ⟨ab,0,none⟩ (.int .i64 ((p:Int)+1)))
   have c:Hid (RMem s w sb rb mb ab fb sh f nn b E k):=hid (by
    rw[<-aa,<-ac];have af:=HM.out.m.ne_ HM.out.a (by decide);have D:KM mb ab wc ((wc.setCell ⟨mb,10,none⟩ (.int .u8 (b:Int))).setCell ⟨ab,0,none⟩ (.int .i64 ((p:Int)+1))):=(KM.ofM (Q8 _ _)).trans (KM.ofA (Q8 _ _));have h:=HM.out;exact⟨h.b.trans (D.below h.b.size h.nm h.na),h.n,h.nm,h.na,h.mr,D.blk h.s (h.s.ne_ h.m (by decide)) (h.s.ne_ h.a (by decide)),D.blk h.r h.mr.symm (h.r.ne_ h.a (by decide)),(h.m.set_ 10 _).far af _,(h.a.far af.symm _).set_ 0 _,D.blk h.f (h.f.ne_ h.m (by decide)) (h.f.ne_ h.a (by decide))⟩)
   (try rw[aa]);have F:=hid ac;clear aa az aw qA ax qS aD ap aE ac;have qz:k.cell? ⟨mb,10,none⟩=some (.int .u8 (b:Int)):=c.out.m.cell 10;by_cases h90:b=90
   .have t:(b:Int)=90:=by omega
    have L:((b:Int)==90)=true:=by simpa using t
    obtain⟨ok,ae⟩:=ex (decide ((E:Int)=(s.length:Int)))
    have hokb:((E:Int)==(s.length:Int))=ok:=by rw[<-ae];rfl
    have ak:Hid (T=if ok=true then some (mC sh f nn b)else none):=hid (by
     rw[C.out,zzd hlt (HB.out.trans h90),<-ae];simp only;rw[<-zqy (f:=f) (g:=f) (fun _ _=>rfl) HT.out.2.1 HT.out.2.2,h90];by_cases h:E=s.length
     .rw[if_pos (by rw[F.out];exact h),if_pos (by simp[h])];rfl
     .rw[if_neg (by rw[F.out];exact h),if_neg (by simp;omega)])
    clear ae HT C HM;go_upto_region 33 with fail;clear t L qz;obtain⟨Z,hZ⟩:∃Z:Bool->Array Value,Z=fun d=>if d=true then mC sh f nn b else mZ:=⟨_,rfl⟩
    have J:Hid (Z false=mZ/\Z true=mC sh f nn b):=hid (by rw[hZ];exact⟨rfl,rfl⟩);clear hZ;have ai:Hid (∃y:WL rb 96 k (Z false),{k with drawn:=k.drawn+1}=y.w):=hid ⟨⟨k.drewN 1,(KB.refl _ _).drewN 1,by rw[J.out.1];exact c.out.r.drewN 1⟩,rfl⟩;have V:Hid (∀y:WL rb 96 k (Z false),∃z':WL rb 96 k (Z true),(((((((((((y.w.setCell ⟨rb,0,none⟩ (.int .i64 (sh:Int))).setCell ⟨rb,1,none⟩ (.int .i64 (f 0:Int))).setCell ⟨rb,2,none⟩ (.int .i64 (f 1:Int))).setCell ⟨rb,3,none⟩ (.int .i64 (f 2:Int))).setCell ⟨rb,4,none⟩ (.int .i64 (f 3:Int))).setCell ⟨rb,5,none⟩ (.int .i64 (f 4:Int))).setCell ⟨rb,6,none⟩ (.int .i64 (f 5:Int))).setCell ⟨rb,7,none⟩ (.int .i64 (f 6:Int))).setCell ⟨rb,8,none⟩ (.int .i64 (f 7:Int))).setCell ⟨rb,9,none⟩ (.int .i64 (nn:Int))).setCell ⟨rb,10,none⟩ (.int .u8 (b:Int)))=z'.w):=hid (fun y=>⟨⟨_,kb11 y.h,by
     have h0:=WL.hc2 y J.out.1;rw[J.out.2];exact zbe h0⟩,rfl⟩)
    have aA:Hid (∀d,Nonempty (WL rb 96 k (Z d))):=hid (fun d=>by
     obtain⟨y,_⟩:=ai.out;cases d with
     |false=>exact⟨y⟩
     |true=>obtain⟨z',_⟩:=V.out y;exact⟨z'⟩)
    have G:Hid (∀d,∀y:WL rb 96 k (Z d),Blk y.w mb 96 (mC sh f nn b)/\Blk y.w ab 3 #[.int .i64 (E:Int)]/\Blk y.w sb 9 #[.string ⟨s.toArray⟩]):=hid (fun d y=>⟨y.h.blk c.out.m c.out.mr,y.h.blk c.out.a (c.out.a.ne_ c.out.r (by decide)),y.h.blk c.out.s (c.out.s.ne_ c.out.r (by decide))⟩);refine zbd (aF:=?aF) 5 (by kernel_rfl) _ rfl rfl rfl rfl rfl (by kernel_rfl) (by kernel_rfl) (by kernel_rfl) (by kernel_rfl) (by kernel_rfl) (fun d W=>∃y:WL rb 96 k (Z d),W=y.w) ai.out (fun d=>?h1) ?h2 ?h3
    case h1=>
     have q0:∀y:WL rb 96 k (Z d),y.w.cell? ⟨mb,0,none⟩=some (.int .i64 (sh:Int)):=fun y=>(G.out d y).1.cell 0
     have q1:∀y:WL rb 96 k (Z d),y.w.cell? ⟨mb,1,none⟩=some (.int .i64 (f 0:Int)):=fun y=>(G.out d y).1.cell 1
     have q2:∀y:WL rb 96 k (Z d),y.w.cell? ⟨mb,2,none⟩=some (.int .i64 (f 1:Int)):=fun y=>(G.out d y).1.cell 2
     have q3:∀y:WL rb 96 k (Z d),y.w.cell? ⟨mb,3,none⟩=some (.int .i64 (f 2:Int)):=fun y=>(G.out d y).1.cell 3
     have q4:∀y:WL rb 96 k (Z d),y.w.cell? ⟨mb,4,none⟩=some (.int .i64 (f 3:Int)):=fun y=>(G.out d y).1.cell 4
     have q5:∀y:WL rb 96 k (Z d),y.w.cell? ⟨mb,5,none⟩=some (.int .i64 (f 4:Int)):=fun y=>(G.out d y).1.cell 5
     have q6:∀y:WL rb 96 k (Z d),y.w.cell? ⟨mb,6,none⟩=some (.int .i64 (f 5:Int)):=fun y=>(G.out d y).1.cell 6
     have q7:∀y:WL rb 96 k (Z d),y.w.cell? ⟨mb,7,none⟩=some (.int .i64 (f 6:Int)):=fun y=>(G.out d y).1.cell 7
     have q8:∀y:WL rb 96 k (Z d),y.w.cell? ⟨mb,8,none⟩=some (.int .i64 (f 7:Int)):=fun y=>(G.out d y).1.cell 8
     have q9:∀y:WL rb 96 k (Z d),y.w.cell? ⟨mb,9,none⟩=some (.int .i64 (nn:Int)):=fun y=>(G.out d y).1.cell 9
     have q10:∀y:WL rb 96 k (Z d),y.w.cell? ⟨mb,10,none⟩=some (.int .u8 (b:Int)):=fun y=>(G.out d y).1.cell 10
     have af:=aA.out d;have qA:∀y:WL rb 96 k (Z d),y.w.cell? ⟨ab,0,none⟩=some (.int .i64 (E:Int)):=fun y=>(G.out d y).2.1.cell 0
     have qS:∀y:WL rb 96 k (Z d),y.w.cell? ⟨sb,0,none⟩=some (.string ⟨s.toArray⟩):=fun y=>(G.out d y).2.2.cell 0
     simp only[Y9,Y8,nopOf,Y6,Y2,Y1]
     iterate 7 (go_big_quiet_step (fail))
     refine wpQuiet_nil ?_;rfl
    case h2=>
     rintro _ ⟨y,rfl⟩;obtain⟨z',hz⟩:=V.out y;have S:Blk y.w rb 96 #[.int .i64 0,.int .i64 0,.int .i64 0,.int .i64 0,.int .i64 0,.int .i64 0,.int .i64 0,.int .i64 0,.int .i64 0,.int .i64 0,.int .u8 0]:=WL.hc2 y J.out.1;have f0:∀j,y.w.frozen? ⟨rb,j,none⟩=false:=S.frozen;obtain⟨c0,c1,c2,c3,c4,c5,c6,c7,c8,c9,c10⟩:=zag S;refine⟨z'.w,?_,z',rfl⟩;rw[<-hz];simp only[Y6,Y2,Y1];go_simp
    case h3=>
    rintro _ ⟨y,rfl⟩;have S:Blk y.w rb 96 (mC sh f nn b):=WL.hc2 y J.out.2;obtain⟨e0,e1,e2,e3,e4,e5,e6,e7,e8,e9,ag⟩:=zag S;go_wp2_with fail;have A:Below w.heap.size w y.w:=c.out.b.trans (y.h.below c.out.n c.out.b.size);refine X9 (v:=.tuple #[.agg #[.int .i64 (sh:Int),.int .i64 (f 0:Int),.int .i64 (f 1:Int),.int .i64 (f 2:Int),.int .i64 (f 3:Int),.int .i64 (f 4:Int),.int .i64 (f 5:Int),.int .i64 (f 6:Int),.int .i64 (f 7:Int),.int .i64 (nn:Int),.int .u8 (b:Int)],.bool ok]) (by rw[U0 rfl];go_simp) rfl ?_;unfold RPost;refine⟨A,sh,f,nn,b,?_,fun x H=>?_⟩
    .rw[ak.out];cases ok<;>rfl
    .rw[ak.out]at H;split at H
     .injection H with H;exact H.symm
     .cases H
   .have t:¬(b:Int)=90:=by omega
    have L:((b:Int)==90)=false:=by simpa using t
    have Q:=hid h90;clear h90;go_upto_region 34 with fail;clear t L;by_cases hpm:b=43\/b=45
    .have au:Hid ((∃j,j<2/\fldAt s E 2 58 j=none)->T=none):=hid (fun u=>by
      rw[C.out,zng hlt HB.out Q.out (by rw[F.out];exact u)])
     have ah:Hid (∀g:Nat->Nat,(∀j,j<2->fldAt s E 2 58 j=some (g (6+j)))->(∀j,j<6->g j=f j)->T=if posAt E 2 2=s.length then some (mC sh g nn b)else none):=hid (fun g hg h6=>by
      obtain⟨z,e1,e2,e3,e4,e5⟩:=zud hlt HB.out hpm (by rw[F.out];exact hg);rw[C.out,e1];simp only;rw[e2,e3,e4,e5,<-zqy (f:=f) h6 rfl rfl,show posAt E 2 2=p+6 from by rw[<-F.out];simp[posAt]])
     have aj:=hid (zd7 s hl ab sb fb mb E 2 58 6 2 2 sh f nn b 2 58 rfl rfl (by omega) (by omega) (by omega) (by omega) (by omega) (by omega) 7 rfl (by have:=F.out;omega) k c.out.a c.out.s c.out.f c.out.m);clear HT C HM HB Q;by_cases h43:b=43
     .have B:(b:Int)=43:=by omega
      have U:((b:Int)==43)=true:=by simpa using B
      clear h43 hpm;go_wp2_with fail;clear B U;refine aj.out.mono ?_;rintro e M ⟨D,f',o,⟨rfl,I,K,l,hpl⟩|⟨rfl,u,p4,hp4,l⟩⟩
      .have i:Hid (RMem s w sb rb mb ab fb sh f' nn b (posAt E 2 2) M):=hid (c.out.fld D o l);have Y:=hid (ah.out f' I (fun j hj=>K j (.inl hj)));clear D o l I K;go_wp2;go_meet;exact⟨f',b,_,i,Y⟩
      .have i:Hid (RMem s w sb rb mb ab fb sh f' nn b p4 M):=hid (c.out.fld D o l);have q:=hid (au.out u);clear D o l u;obtain⟨m0,m1,m2,m3,m4,m5,m6,m7,m8,m9,ar⟩:=zag i.out.m;obtain⟨x0,x1,x2,x3,x4,x5,x6,x7,x8,x9,al⟩:=zag i.out.r;have xf:∀j,M.frozen? ⟨rb,j,none⟩=false:=i.out.r.frozen;go_wp2_with fail;have O:Blk (((((((((((M.setCell ⟨rb,0,none⟩ (.int .i64 (sh:Int))).setCell ⟨rb,1,none⟩ (.int .i64 (f' 0:Int))).setCell ⟨rb,2,none⟩ (.int .i64 (f' 1:Int))).setCell ⟨rb,3,none⟩ (.int .i64 (f' 2:Int))).setCell ⟨rb,4,none⟩ (.int .i64 (f' 3:Int))).setCell ⟨rb,5,none⟩ (.int .i64 (f' 4:Int))).setCell ⟨rb,6,none⟩ (.int .i64 (f' 5:Int))).setCell ⟨rb,7,none⟩ (.int .i64 (f' 6:Int))).setCell ⟨rb,8,none⟩ (.int .i64 (f' 7:Int))).setCell ⟨rb,9,none⟩ (.int .i64 (nn:Int))).setCell ⟨rb,10,none⟩ (.int .u8 (b:Int))) rb 96 (mC sh f' nn b):=zbe i.out.r;obtain⟨e0,e1,e2,e3,e4,e5,e6,e7,e8,e9,ag⟩:=zag O;have A:Below w.heap.size w (((((((((((M.setCell ⟨rb,0,none⟩ (.int .i64 (sh:Int))).setCell ⟨rb,1,none⟩ (.int .i64 (f' 0:Int))).setCell ⟨rb,2,none⟩ (.int .i64 (f' 1:Int))).setCell ⟨rb,3,none⟩ (.int .i64 (f' 2:Int))).setCell ⟨rb,4,none⟩ (.int .i64 (f' 3:Int))).setCell ⟨rb,5,none⟩ (.int .i64 (f' 4:Int))).setCell ⟨rb,6,none⟩ (.int .i64 (f' 5:Int))).setCell ⟨rb,7,none⟩ (.int .i64 (f' 6:Int))).setCell ⟨rb,8,none⟩ (.int .i64 (f' 7:Int))).setCell ⟨rb,9,none⟩ (.int .i64 (nn:Int))).setCell ⟨rb,10,none⟩ (.int .u8 (b:Int))):=zcq i.out.b i.out.n;refine X9 (v:=.tuple #[.agg #[.int .i64 (sh:Int),.int .i64 (f' 0:Int),.int .i64 (f' 1:Int),.int .i64 (f' 2:Int),.int .i64 (f' 3:Int),.int .i64 (f' 4:Int),.int .i64 (f' 5:Int),.int .i64 (f' 6:Int),.int .i64 (f' 7:Int),.int .i64 (nn:Int),.int .u8 (b:Int)],.bool false]) (by rw[U0 rfl];go_simp) rfl ?_;have N:T=none:=q.out;unfold RPost;rw[N];exact⟨A,sh,f',nn,b,rfl,fun x H=>by cases H⟩
     .have ay:b=45:=by omega
      have B:¬(b:Int)=43:=by omega
      have U:((b:Int)==43)=false:=by simpa using B
      have R:(b:Int)=45:=by omega
      have ao:((b:Int)==45)=true:=by simpa using R
      clear h43 ay hpm;go_wp2_with fail;clear B U R ao;refine aj.out.mono ?_;rintro e M ⟨D,f',o,⟨rfl,I,K,l,hpl⟩|⟨rfl,u,p4,hp4,l⟩⟩
      .have i:Hid (RMem s w sb rb mb ab fb sh f' nn b (posAt E 2 2) M):=hid (c.out.fld D o l);have Y:=hid (ah.out f' I (fun j hj=>K j (.inl hj)));clear D o l I K;go_wp2;go_meet;exact⟨f',b,_,i,Y⟩
      .have i:Hid (RMem s w sb rb mb ab fb sh f' nn b p4 M):=hid (c.out.fld D o l);have q:=hid (au.out u);clear D o l u;obtain⟨m0,m1,m2,m3,m4,m5,m6,m7,m8,m9,ar⟩:=zag i.out.m;obtain⟨x0,x1,x2,x3,x4,x5,x6,x7,x8,x9,al⟩:=zag i.out.r;have xf:∀j,M.frozen? ⟨rb,j,none⟩=false:=i.out.r.frozen;go_wp2_with fail;have O:Blk (((((((((((M.setCell ⟨rb,0,none⟩ (.int .i64 (sh:Int))).setCell ⟨rb,1,none⟩ (.int .i64 (f' 0:Int))).setCell ⟨rb,2,none⟩ (.int .i64 (f' 1:Int))).setCell ⟨rb,3,none⟩ (.int .i64 (f' 2:Int))).setCell ⟨rb,4,none⟩ (.int .i64 (f' 3:Int))).setCell ⟨rb,5,none⟩ (.int .i64 (f' 4:Int))).setCell ⟨rb,6,none⟩ (.int .i64 (f' 5:Int))).setCell ⟨rb,7,none⟩ (.int .i64 (f' 6:Int))).setCell ⟨rb,8,none⟩ (.int .i64 (f' 7:Int))).setCell ⟨rb,9,none⟩ (.int .i64 (nn:Int))).setCell ⟨rb,10,none⟩ (.int .u8 (b:Int))) rb 96 (mC sh f' nn b):=zbe i.out.r;obtain⟨e0,e1,e2,e3,e4,e5,e6,e7,e8,e9,ag⟩:=zag O;have A:Below w.heap.size w (((((((((((M.setCell ⟨rb,0,none⟩ (.int .i64 (sh:Int))).setCell ⟨rb,1,none⟩ (.int .i64 (f' 0:Int))).setCell ⟨rb,2,none⟩ (.int .i64 (f' 1:Int))).setCell ⟨rb,3,none⟩ (.int .i64 (f' 2:Int))).setCell ⟨rb,4,none⟩ (.int .i64 (f' 3:Int))).setCell ⟨rb,5,none⟩ (.int .i64 (f' 4:Int))).setCell ⟨rb,6,none⟩ (.int .i64 (f' 5:Int))).setCell ⟨rb,7,none⟩ (.int .i64 (f' 6:Int))).setCell ⟨rb,8,none⟩ (.int .i64 (f' 7:Int))).setCell ⟨rb,9,none⟩ (.int .i64 (nn:Int))).setCell ⟨rb,10,none⟩ (.int .u8 (b:Int))):=zcq i.out.b i.out.n;refine X9 (v:=.tuple #[.agg #[.int .i64 (sh:Int),.int .i64 (f' 0:Int),.int .i64 (f' 1:Int),.int .i64 (f' 2:Int),.int .i64 (f' 3:Int),.int .i64 (f' 4:Int),.int .i64 (f' 5:Int),.int .i64 (f' 6:Int),.int .i64 (f' 7:Int),.int .i64 (nn:Int),.int .u8 (b:Int)],.bool false]) (by rw[U0 rfl];go_simp) rfl ?_;have N:T=none:=q.out;unfold RPost;rw[N];exact⟨A,sh,f',nn,b,rfl,fun x H=>by cases H⟩
    .have an:b≠43:=fun e=>hpm (.inl e)
     have am:b≠45:=fun e=>hpm (.inr e)
     have q:Hid (T=none):=hid (by rw[C.out,zlx hlt HB.out Q.out an am]);have B:¬(b:Int)=43:=by omega
     have U:((b:Int)==43)=false:=by simpa using B
     have R:¬(b:Int)=45:=by omega
     have ao:((b:Int)==45)=false:=by simpa using R
     clear HT C HM HB an am hpm Q;obtain⟨m0,m1,m2,m3,m4,m5,m6,m7,m8,m9,ar⟩:=zag c.out.m;obtain⟨x0,x1,x2,x3,x4,x5,x6,x7,x8,x9,al⟩:=zag c.out.r;have xf:∀j,k.frozen? ⟨rb,j,none⟩=false:=c.out.r.frozen;go_wp2_with fail;have O:Blk (((((((((((k.setCell ⟨rb,0,none⟩ (.int .i64 (sh:Int))).setCell ⟨rb,1,none⟩ (.int .i64 (f 0:Int))).setCell ⟨rb,2,none⟩ (.int .i64 (f 1:Int))).setCell ⟨rb,3,none⟩ (.int .i64 (f 2:Int))).setCell ⟨rb,4,none⟩ (.int .i64 (f 3:Int))).setCell ⟨rb,5,none⟩ (.int .i64 (f 4:Int))).setCell ⟨rb,6,none⟩ (.int .i64 (f 5:Int))).setCell ⟨rb,7,none⟩ (.int .i64 (f 6:Int))).setCell ⟨rb,8,none⟩ (.int .i64 (f 7:Int))).setCell ⟨rb,9,none⟩ (.int .i64 (nn:Int))).setCell ⟨rb,10,none⟩ (.int .u8 (b:Int))) rb 96 (mC sh f nn b):=zbe c.out.r;obtain⟨e0,e1,e2,e3,e4,e5,e6,e7,e8,e9,ag⟩:=zag O;have A:Below w.heap.size w (((((((((((k.setCell ⟨rb,0,none⟩ (.int .i64 (sh:Int))).setCell ⟨rb,1,none⟩ (.int .i64 (f 0:Int))).setCell ⟨rb,2,none⟩ (.int .i64 (f 1:Int))).setCell ⟨rb,3,none⟩ (.int .i64 (f 2:Int))).setCell ⟨rb,4,none⟩ (.int .i64 (f 3:Int))).setCell ⟨rb,5,none⟩ (.int .i64 (f 4:Int))).setCell ⟨rb,6,none⟩ (.int .i64 (f 5:Int))).setCell ⟨rb,7,none⟩ (.int .i64 (f 6:Int))).setCell ⟨rb,8,none⟩ (.int .i64 (f 7:Int))).setCell ⟨rb,9,none⟩ (.int .i64 (nn:Int))).setCell ⟨rb,10,none⟩ (.int .u8 (b:Int))):=zcq c.out.b c.out.n;refine X9 (v:=.tuple #[.agg #[.int .i64 (sh:Int),.int .i64 (f 0:Int),.int .i64 (f 1:Int),.int .i64 (f 2:Int),.int .i64 (f 3:Int),.int .i64 (f 4:Int),.int .i64 (f 5:Int),.int .i64 (f 6:Int),.int .i64 (f 7:Int),.int .i64 (nn:Int),.int .u8 (b:Int)],.bool false]) (by rw[U0 rfl];go_simp) rfl ?_;have N:T=none:=q.out;unfold RPost;rw[N];exact⟨A,sh,f,nn,b,rfl,fun x H=>by cases H⟩
 case rest=>
 obtain⟨f',z',p',aB,av⟩:=hcut;refine(‹∀(a:Act) (w_1:World),Code.wp prog _ _ a w_1->_›) _ _ ?_;exact zzb s hl w _ sb rb mb ab fb sh f' nn z' p' T aB av
open Gr
theorem zqz {s:K1} {b n:Nat} (hle:b+n<=s.length) (hd:((s.drop b).take n).all K0=true) (hn:∀h2:b+n<s.length,K0 (s[b+n]'h2)=false):(s.drop b).takeWhile K0=(s.drop b).take n:=by
 have a:s.drop b=(s.drop b).take n++s.drop (b+n):=by
  rw[<-X6];exact(Y3 n (s.drop b)).symm
 rw[a,Q5 (by simpa using hd)];have h2:(s.drop (b+n)).takeWhile K0=[]:=by
  rcases Q0 (b+n) s.length with h3|h3
  .rw[List.drop_eq_getElem_cons h3,List.takeWhile_cons,hn h3];rfl
  .rw[List.drop_eq_nil_of_le h3];rfl
 rw[h2,Q6,List.take_append_of_le_length (by simp;omega),List.take_take,Nat.min_self]
theorem zxd {s:K1} {b n:Nat} (hle:b+n<=s.length) (hd:((s.drop b).take n).all K0=true):n<=((s.drop b).takeWhile K0).length:=by
 have a:s.drop b=(s.drop b).take n++s.drop (b+n):=by
  rw[<-X6];exact(Y3 n (s.drop b)).symm
 rw[a,Q5 (by simpa using hd),Q1];have:((s.drop b).take n).length=n:=by simp;omega
 omega
def pointO (s:K1) (sh:Nat) (f:Nat->Nat) (p:Nat):Option (Array Value):=
 if isAt s p 46=true then
  if((s.drop (p+1)).takeWhile K0).length=0\/9<((s.drop (p+1)).takeWhile K0).length then none
  else finO s sh f (K4 ((s.drop (p+1)).takeWhile K0)*10 ^ (9-((s.drop (p+1)).takeWhile K0).length)) (p+1+((s.drop (p+1)).takeWhile K0).length)
 else finO s sh f 0 p
theorem znh {s:K1} {sh:Nat} {f:Nat->Nat} {p k:Nat} (hp:isAt s p 46=true) (hle:p+1+k<=s.length) (hd:((s.drop (p+1)).take k).all K0=true) (h1:1<=k) (h9:k<=9) (hn:k=9\/∀h2:p+1+k<s.length,K0 (s[p+1+k]'h2)=false):
 pointO s sh f p=finO s sh f (K4 ((s.drop (p+1)).take k)*10 ^ (9-k)) (p+1+k):=by
 unfold pointO;rw[if_pos hp];have d:((s.drop (p+1)).take k).length=k:=by clear hn;simp;omega
 by_cases hx:∀h2:p+1+k<s.length,K0 (s[p+1+k]'h2)=false
 .rw[zqz hle hd hx,d,if_neg (by clear hx hn;omega)]
 .have h92:k=9:=by rcases hn with h|h;exact h;exact absurd h hx
  have a:p+1+k<s.length:=by
   rcases Q0 (p+1+k) s.length with h|h
   .exact h
   .exact absurd (fun h2=>absurd h2 (Nat.not_lt.2 h)) hx
  have c:K0 (s[p+1+k]'a)=true:=by
   cases hc:K0 (s[p+1+k]'a)with
   |true=>rfl
   |false=>exact absurd (fun _=>hc) hx
  clear hn hx;have hl2:=zxd (s:=s) (b:=p+1) (n:=k+1) (by omega) (by rw[zcn s (p+1) k a,X4,hd];simp[c]);rw[if_pos (by omega)];unfold finO;rw[if_neg (by omega)];split
  .rw[zlx a rfl]<;>(intro e;rw[(zd6 _ _ e).1]at c;revert c;decide)
  .rfl
theorem zni {s:K1} {sh:Nat} {f:Nat->Nat} {p:Nat} (hp:isAt s p 46=true) (hle:p+1<=s.length) (hn:∀h2:p+1<s.length,K0 (s[p+1]'h2)=false):pointO s sh f p=none:=by
 unfold pointO;rw[if_pos hp,zqz (n:=0) (by omega) (by simp) hn];simp
theorem zly {s:K1} {sh:Nat} {f:Nat->Nat} {p:Nat} (hp:isAt s p 46=false):pointO s sh f p=finO s sh f 0 p:=by
 unfold pointO;rw[if_neg (by rw[hp];decide)]
theorem RMem.at_ {s:K1} {w:World} {sb rb mb ab fb sh:Nat} {f:Nat->Nat} {nn z p:Nat} {wx:World} (h:RMem s w sb rb mb ab fb sh f nn z p wx) (q:Nat):RMem s w sb rb mb ab fb sh f nn z q (wx.setCell ⟨ab,0,none⟩ (.int .i64 (q:Int))):=
 h.fld (KM.ofA (Q8 _ _)) (h.m.far (h.m.ne_ h.a (by decide)) _) (h.a.set_ 0 _)
theorem RMem.ns {s:K1} {w:World} {sb rb mb ab fb sh:Nat} {f:Nat->Nat} {nn z p:Nat} {wx:World} (h:RMem s w sb rb mb ab fb sh f nn z p wx) (q:Nat):RMem s w sb rb mb ab fb sh f q z p (wx.setCell ⟨mb,9,none⟩ (.int .i64 (q:Int))):=
 have c:KM mb ab wx (wx.setCell ⟨mb,9,none⟩ (.int .i64 (q:Int))):=KM.ofM (Q8 _ _)
 ⟨h.b.trans (c.below h.b.size h.nm h.na),h.n,h.nm,h.na,h.mr,c.blk h.s (h.s.ne_ h.m (by decide)) (h.s.ne_ h.a (by decide)),c.blk h.r h.mr.symm (h.r.ne_ h.a (by decide)),h.m.set_ 9 _,h.a.far (h.a.ne_ h.m (by decide)) _,c.blk h.f (h.f.ne_ h.m (by decide)) (h.f.ne_ h.a (by decide))⟩
theorem zue (s:K1) (hl:s.length<=1073741823) (w wx:World) (sb rb mb ab fb sh:Nat) (f:Nat->Nat) (p:Nat) (T:Option (Array Value)) (HM:Hid (RMem s w sb rb mb ab fb sh f 0 0 p wx)) (hp:p<=s.length) (hsh:sh<=3) (HT:Hid (T=pointO s sh f p/\f 6=0/\f 7=0)) {u3 u8 u9 u10 u11 u12 u13 u14 u15 u16 u17 u18 u19 u20 u21 u22 u23 u24 u25 u26 u27 u28 u29 u30 u31 u32 u33 u34 u35 u36 u37 u38 u39 u40 u41 u42 u43 u44 u45 u46 u47 u48 u49 u50 u51 u52 u53 u54 u55 u56 u57 u58 u59 u60 u61 u62 u63 u64 u65 u66 u67 u68 u69 u70 u71 u72 u73 u74 u75 u76 u77 u78 u79 u80 u81 u82 u83 u84 u85 u86 u87 u88 u89 u90 u91 u92 u93 u94 u95 u96 u97 u98 u99 u100 u101 u102 u103 u104 u105 u106 u107 u108 u109 u110 u111 u112 u113 u114 u115 u116 u117 u118 u119 u120 u121 u122 u123 u124 u125 u126 u127 u128 u129 u130 u131 u132 u133 u134 u135 u136 u137 u138 u139 u140 u141 u142 u143 u144 u145 u146 u147 u148 u149 u150 u151 u152 u153 u154:Value}:
 Code.wp prog (tl 8 (f58.body.getD .skip)) (bodyPost prog f58 (RPost T w)) {tmps:=K9 (.string ⟨s.toArray⟩::.pointer (some ⟨sb,0,none⟩)::.pointer (some ⟨rb,0,none⟩)::u3::.pointer (some ⟨mb,0,none⟩)::.pointer (some ⟨ab,0,none⟩)::.pointer (some ⟨fb,0,none⟩)::.func (.func 87) #[] #[.pointer (some ⟨ab,0,none⟩),.pointer (some ⟨sb,0,none⟩),.pointer (some ⟨fb,0,none⟩)]::u8::u9::u10::u11::u12::u13::u14::u15::u16::u17::u18::u19::u20::u21::u22::u23::u24::u25::u26::u27::u28::u29::u30::u31::u32::u33::u34::u35::u36::u37::u38::u39::u40::u41::u42::u43::u44::u45::u46::u47::u48::u49::u50::u51::u52::u53::u54::u55::u56::u57::u58::u59::u60::u61::u62::u63::u64::u65::u66::u67::u68::u69::u70::u71::u72::u73::u74::u75::u76::u77::u78::u79::u80::u81::u82::u83::u84::u85::u86::u87::u88::u89::u90::u91::u92::u93::u94::u95::u96::u97::u98::u99::u100::u101::u102::u103::u104::u105::u106::u107::u108::u109::u110::u111::u112::u113::u114::u115::u116::u117::u118::u119::u120::u121::u122::u123::u124::u125::u126::u127::u128::u129::u130::u131::u132::u133::u134::u135::u136::u137::u138::u139::u140::u141::u142::u143::u144::u145::u146::u147::u148::u149::u150::u151::u152::u153::u154::[]),defers:=[]} wx:=by
 generalize hc0:tl 8 (f58.body.getD .skip)=c0;simp only[tl,f58,K2]at hc0;subst hc0;obtain⟨U,X⟩:=ex (isAt s p 46)
 have l:=hid X;clear X;have I:wx.cell? ⟨ab,0,none⟩=some (.int .i64 (p:Int)):=HM.out.a.cell 0;have y:∀j,wx.frozen? ⟨ab,j,none⟩=false:=HM.out.a.frozen;have H:wx.cell? ⟨sb,0,none⟩=some (.string ⟨s.toArray⟩):=HM.out.s.cell 0;have g:wx.cell? ⟨mb,9,none⟩=some (.int .i64 ((0:Nat):Int)):=HM.out.m.cell 9;have A:∀j,wx.frozen? ⟨mb,j,none⟩=false:=HM.out.m.frozen;go_upto_region 17 with fail;go_cut [63] (fun s63 o=>s63=.bool U/\o=wx)
 case first=>
  by_cases hlt:p<s.length
  .have B:(p:Int)<(s.length:Int):=by omega
   obtain⟨b,C⟩:∃b:Nat,(s[p]'hlt).toNat=b:=⟨_,rfl⟩
   have al:(((⟨s.toArray⟩:ByteArray)[p]'(by simpa[ByteArray.size]using hlt)).toNat:Int)=(b:Int):=by rw[<-C];rfl
   by_cases h46:b=46
   .have z:(b:Int)=46:=by omega
    have R:((b:Int)==46)=true:=by simpa using z
    obtain rfl:U=true:=by rw[<-l.out,zby hlt C];exact qqk h46
    clear C h46;go_wp2;go_meet;exact⟨rfl,rfl⟩
   .have z:¬(b:Int)=46:=by omega
    have R:((b:Int)==46)=false:=by simpa using z
    obtain rfl:U=false:=by rw[<-l.out,zby hlt C];exact qqx h46
    clear C h46;go_wp2;go_meet;exact⟨rfl,rfl⟩
  .have B:¬(p:Int)<(s.length:Int):=by omega
   obtain rfl:U=false:=by rw[<-l.out,zhs (by omega)]
   go_wp2;go_meet;exact⟨rfl,rfl⟩
 case rest=>
 obtain⟨rfl,rfl⟩:=hcut;go_upto_if 63 with fail;go_cut [] (fun o=>∃(nn' p':Nat),p'<=s.length/\Hid (RMem s w sb rb mb ab fb sh f nn' 0 p' o)/\Hid (T=finO s sh f nn' p'))
 case first=>
  cases U with
  |false=>
   go_wp2;go_meet;exact⟨0,p,hp,HM,hid (by rw[HT.out.1,zly l.out])⟩
  |true=>
   have hlt:p<s.length:=by
    rcases Q0 p s.length with h|h
    .exact h
    .have:=l.out;rw[zhs h]at this;cases this
   have L:=hid (HM.out.at_ (p+1));go_upto_block 0 with fail;clear I y H g A;go_cut [8] (fun s8 o=>∃k:Nat,k<=9/\p+1+k<=s.length/\s8=.int .i64 (k:Int)/\Hid (RMem s w sb rb mb ab fb sh f (K4 ((s.drop (p+1)).take k)) 0 (p+1+k) o/\((s.drop (p+1)).take k).all K0=true/\(k=9\/∀h2:p+1+k<s.length,K0 (s[p+1+k]'h2)=false)))
   case first=>
    go_wp2_with fail;go_loopw [8] (fun s8 wr=>∃k:Nat,k<=9/\p+1+k<=s.length/\s8=.int .i64 (k:Int)/\Hid (RMem s w sb rb mb ab fb sh f (K4 ((s.drop (p+1)).take k)) 0 (p+1+k) wr/\((s.drop (p+1)).take k).all K0=true)) (fun s8 _=>9-(intOf s8).toNat)
    case atStart=>exact⟨0,by omega,by omega,rfl,hid ⟨by simpa[K4]using L.out,by simp⟩⟩
    case round=>
     obtain⟨k,hk,K,rfl,e⟩:=hrel;obtain⟨P,u⟩:=ex (p+1+k)
     obtain⟨V,i⟩:=ex (K4 ((s.drop (p+1)).take k))
     have F:V<1000000000:=by rw[<-i];exact zlu _ e.out.2 (by simp;omega)
     have J:=hid e.out.2;have c:Hid (RMem s w sb rb mb ab fb sh f V 0 P wr):=hid (by rw[<-u,<-i];exact e.out.1);have t:=hid (And.intro u i);have G:P<=s.length:=by omega
     clear e u i K;have I:wr.cell? ⟨ab,0,none⟩=some (.int .i64 (P:Int)):=c.out.a.cell 0;have y:∀j,wr.frozen? ⟨ab,j,none⟩=false:=c.out.a.frozen;have H:wr.cell? ⟨sb,0,none⟩=some (.string ⟨s.toArray⟩):=c.out.s.cell 0;have g:wr.cell? ⟨mb,9,none⟩=some (.int .i64 (V:Int)):=c.out.m.cell 9;have A:∀j,wr.frozen? ⟨mb,j,none⟩=false:=c.out.m.frozen;have d:Hid ((k=9\/∀h2:P<s.length,K0 (s[P]'h2)=false)->∃k_1:Nat,k_1<=9/\p+1+k_1<=s.length/\Value.int .i64 (k:Int)=.int .i64 (k_1:Int)/\Hid (RMem s w sb rb mb ab fb sh f (K4 ((s.drop (p+1)).take k_1)) 0 (p+1+k_1) wr/\((s.drop (p+1)).take k_1).all K0=true/\(k_1=9\/∀h2:p+1+k_1<s.length,K0 (s[p+1+k_1]'h2)=false))):=hid (fun hs=>by
      obtain⟨u,i⟩:=t.out;subst u;subst i;exact⟨k,hk,G,rfl,hid ⟨c.out,J.out,hs⟩⟩)
     by_cases hk9:k<9
     .have Z:(k:Int)<9:=by omega
      by_cases hlP:P<s.length
      .have Y:(P:Int)<(s.length:Int):=by omega
       obtain⟨b,C⟩:∃b:Nat,(s[P]'hlP).toNat=b:=⟨_,rfl⟩
       have al:(((⟨s.toArray⟩:ByteArray)[P]'(by simpa[ByteArray.size]using hlP)).toNat:Int)=(b:Int):=by rw[<-C];rfl
       have hbl:b<256:=by rw[<-C];exact(s[P]'hlP).toNat_lt
       have E:=hid (zd6 (s[P]'hlP) b C);clear C;by_cases h48:48<=b
       .have ai:(48:Int)<=(b:Int):=by omega
        by_cases h57:b<=57
        .have ad:(b:Int)<=57:=by omega
         have O:Hid (V*10+(b-48)=K4 ((s.drop (p+1)).take (k+1))/\((s.drop (p+1)).take (k+1)).all K0=true):=hid (by
          obtain⟨u,i⟩:=t.out;subst u;rw[zcn s (p+1) k hlP,X4,J.out,zbp,i,E.out.2];exact⟨by omega,by simp[E.out.1,h48,h57]⟩)
         go_upto_region 21 with fail;clear I y H g A;have g:∀W:WB wr.heap.size wr,W.w.cell? ⟨mb,9,none⟩=some (.int .i64 (V:Int)):=fun W=>(c.out.up W.h).m.cell 9
         have I:∀W:WB wr.heap.size wr,W.w.cell? ⟨ab,0,none⟩=some (.int .i64 (P:Int)):=fun W=>(c.out.up W.h).a.cell 0
         have H:∀W:WB wr.heap.size wr,W.w.cell? ⟨sb,0,none⟩=some (.string ⟨s.toArray⟩):=fun W=>(c.out.up W.h).s.cell 0
         refine zbw 10 wr.heap.size wr (by kernel_rfl) (by kernel_rfl) (K8 _ _) ?_;simp only[List.take_succ_cons,List.take_zero,List.drop_succ_cons,List.drop_zero]
         iterate 10 (go_big_quiet_step (fail))
         refine wpQuiet_nil ?_;rintro _ ⟨wz,rfl⟩;have q:=hid (c.out.up wz.h);obtain⟨o,N⟩:=ex wz.w
         rw[N]at q ⊢;clear g I H N;have I:o.cell? ⟨ab,0,none⟩=some (.int .i64 (P:Int)):=q.out.a.cell 0;have y:∀j,o.frozen? ⟨ab,j,none⟩=false:=q.out.a.frozen;have H:o.cell? ⟨sb,0,none⟩=some (.string ⟨s.toArray⟩):=q.out.s.cell 0;have g:o.cell? ⟨mb,9,none⟩=some (.int .i64 (V:Int)):=q.out.m.cell 9;have A:∀j,o.frozen? ⟨mb,j,none⟩=false:=q.out.m.frozen;have qA2:∀v,(o.setCell ⟨mb,9,none⟩ v).cell? ⟨ab,0,none⟩=some (.int .i64 (P:Int)):=fun v=>(q.out.a.far (q.out.a.ne_ q.out.m (by decide)) v).cell 0
         have qF2:∀v j,(o.setCell ⟨mb,9,none⟩ v).frozen? ⟨ab,j,none⟩=false:=fun v j=>(q.out.a.far (q.out.a.ne_ q.out.m (by decide)) v).frozen j
         go_wp2;go_roundw
         case rel=>
          have S:RMem s w sb rb mb ab fb sh f (K4 ((s.drop (p+1)).take (k+1))) 0 (p+1+(k+1)) ((o.setCell ⟨mb,9,none⟩ (.int .i64 (10*(V:Int)+((b:Int)-48)))).setCell ⟨ab,0,none⟩ (.int .i64 ((P:Int)+1))):=by
           rw[<-O.out.1,show p+1+(k+1)=P+1 from by have:=t.out.1;omega,show 10*(V:Int)+((b:Int)-48)=((V*10+(b-48):Nat):Int)from by omega,show(P:Int)+1=((P+1:Nat):Int)from by omega];exact(q.out.ns _).at_ _
          exact⟨k+1,by omega,by have:=t.out.1;omega,by go_num,hid ⟨S,O.out.2⟩⟩
         case measure=>simp[intOf];omega
        .have ad:¬(b:Int)<=57:=by omega
         go_wp2;go_meet;exact d.out (.inr (fun _=>by rw[E.out.1];simp[h57]))
       .have ai:¬(48:Int)<=(b:Int):=by omega
        go_wp2;go_meet;exact d.out (.inr (fun _=>by rw[E.out.1];simp[h48]))
      .have Y:¬(P:Int)<(s.length:Int):=by omega
       go_wp2;go_meet;exact d.out (.inr (fun h=>absurd h hlP))
     .have Z:¬(k:Int)<9:=by omega
      go_wp2;go_meet;exact d.out (.inl (by omega))
   case rest=>
   obtain⟨k,hk,K,rfl,e⟩:=hcut;obtain⟨P,u⟩:=ex (p+1+k)
   obtain⟨V,i⟩:=ex (K4 ((s.drop (p+1)).take k))
   have F:V<10 ^ k:=by
    have h:=zfe _ e.out.2.1;rw[i]at h;rwa[show((s.drop (p+1)).take k).length=k from by simp;omega]at h
   have ak:=hid F;have c:Hid (RMem s w sb rb mb ab fb sh f V 0 P wc):=hid (by rw[<-u,<-i];exact e.out.1);have J:=hid e.out.2;have t:=hid (And.intro u i);have G:P<=s.length:=by omega
   clear e u i K F;refine(‹∀(a:Act) (w_1:World),Code.wp prog _ _ a w_1->_›) _ _ ?_;by_cases h0:k=0
   .have D:(k:Int)=0:=by omega
    have aa:((k:Int)==0)=true:=by simpa using D
    have M:Hid (T=none):=hid (by
     rw[HT.out.1,zni l.out (by omega)];rcases J.out.2 with h|h
     .omega
     .subst h0;exact h)
    clear h0 HT L J;obtain⟨m0,m1,m2,m3,m4,m5,m6,m7,m8,m9,m10⟩:=zag c.out.m;obtain⟨x0,x1,x2,x3,x4,x5,x6,x7,x8,x9,x10⟩:=zag c.out.r;have xf:∀j,wc.frozen? ⟨rb,j,none⟩=false:=c.out.r.frozen;go_wp2_with fail;have af:Blk (((((((((((wc.setCell ⟨rb,0,none⟩ (.int .i64 (sh:Int))).setCell ⟨rb,1,none⟩ (.int .i64 (f 0:Int))).setCell ⟨rb,2,none⟩ (.int .i64 (f 1:Int))).setCell ⟨rb,3,none⟩ (.int .i64 (f 2:Int))).setCell ⟨rb,4,none⟩ (.int .i64 (f 3:Int))).setCell ⟨rb,5,none⟩ (.int .i64 (f 4:Int))).setCell ⟨rb,6,none⟩ (.int .i64 (f 5:Int))).setCell ⟨rb,7,none⟩ (.int .i64 (f 6:Int))).setCell ⟨rb,8,none⟩ (.int .i64 (f 7:Int))).setCell ⟨rb,9,none⟩ (.int .i64 (V:Int))).setCell ⟨rb,10,none⟩ (.int .u8 ((0:Nat):Int))) rb 96 (mC sh f V (0:Nat)):=zbe c.out.r;obtain⟨e0,e1,e2,e3,e4,e5,e6,e7,e8,e9,e10⟩:=zag af;have aj:Below w.heap.size w (((((((((((wc.setCell ⟨rb,0,none⟩ (.int .i64 (sh:Int))).setCell ⟨rb,1,none⟩ (.int .i64 (f 0:Int))).setCell ⟨rb,2,none⟩ (.int .i64 (f 1:Int))).setCell ⟨rb,3,none⟩ (.int .i64 (f 2:Int))).setCell ⟨rb,4,none⟩ (.int .i64 (f 3:Int))).setCell ⟨rb,5,none⟩ (.int .i64 (f 4:Int))).setCell ⟨rb,6,none⟩ (.int .i64 (f 5:Int))).setCell ⟨rb,7,none⟩ (.int .i64 (f 6:Int))).setCell ⟨rb,8,none⟩ (.int .i64 (f 7:Int))).setCell ⟨rb,9,none⟩ (.int .i64 (V:Int))).setCell ⟨rb,10,none⟩ (.int .u8 ((0:Nat):Int))):=zcq c.out.b c.out.n;refine X9 (v:=.tuple #[.agg #[.int .i64 (sh:Int),.int .i64 (f 0:Int),.int .i64 (f 1:Int),.int .i64 (f 2:Int),.int .i64 (f 3:Int),.int .i64 (f 4:Int),.int .i64 (f 5:Int),.int .i64 (f 6:Int),.int .i64 (f 7:Int),.int .i64 (V:Int),.int .u8 ((0:Nat):Int)],.bool false]) (by rw[U0 rfl];go_simp) rfl ?_;have ae:T=none:=M.out;unfold RPost;rw[ae];exact⟨aj,sh,f,V,(0:Nat),rfl,fun x S=>by cases S⟩
   .have D:¬(k:Int)=0:=by omega
    have aa:((k:Int)==0)=false:=by simpa using D
    have am:Hid (T=finO s sh f (V*10 ^ (9-k)) P):=hid (by
     obtain⟨u,i⟩:=t.out;rw[HT.out.1,znh l.out (by omega) J.out.1 (by omega) hk J.out.2,i,u])
    clear h0 L;go_wp2_with fail;clear D aa;go_loopw [8] (fun s8 wr=>∃j:Nat,k<=j/\j<=9/\s8=.int .i64 (j:Int)/\Hid (RMem s w sb rb mb ab fb sh f (V*10 ^ (j-k)) 0 P wr)) (fun s8 _=>9-(intOf s8).toNat)
    case atStart=>exact⟨k,by omega,hk,rfl,by simpa using c⟩
    case round=>
     obtain⟨j,hkj,ag,rfl,e⟩:=hrel;obtain⟨Q,hQ⟩:=ex (V*10 ^ (j-k))
     have hQ9:Q<=999999999:=by
      have h1:Q<10 ^ j:=by
       rw[<-hQ]
       calc V*10 ^ (j-k)<10 ^ k*10 ^ (j-k):=Nat.mul_lt_mul_of_pos_right ak.out (Nat.pow_pos (by omega))
        _=10 ^ j:=by rw[<-Nat.pow_add];congr 1;omega
      have h2:(10:Nat) ^ j<=10 ^ 9:=Y7 (by omega) ag;omega
     rw[hQ]at e;have HQ:=hid hQ;clear hQ;have I:wr.cell? ⟨ab,0,none⟩=some (.int .i64 (P:Int)):=e.out.a.cell 0;have y:∀j,wr.frozen? ⟨ab,j,none⟩=false:=e.out.a.frozen;have H:wr.cell? ⟨sb,0,none⟩=some (.string ⟨s.toArray⟩):=e.out.s.cell 0;have g:wr.cell? ⟨mb,9,none⟩=some (.int .i64 (Q:Int)):=e.out.m.cell 9;have A:∀j,wr.frozen? ⟨mb,j,none⟩=false:=e.out.m.frozen;by_cases hlt9:j<9
     .have B:(j:Int)<9:=by omega
      go_wp2;go_roundw
      case rel=>
       have S:RMem s w sb rb mb ab fb sh f (V*10 ^ (j+1-k)) 0 P (wr.setCell ⟨mb,9,none⟩ (.int .i64 ((Q:Int)*10))):=by
        rw[show j+1-k=(j-k)+1 from by omega,Nat.pow_succ,<-Nat.mul_assoc,HQ.out,show(Q:Int)*10=((Q*10:Nat):Int)from by omega];exact e.out.ns _
       exact⟨j+1,by omega,by omega,by go_num,hid S⟩
      case measure=>simp[intOf];omega
     .have B:¬(j:Int)<9:=by omega
      obtain rfl:j=9:=by omega
      go_wp2;go_meet;exact⟨Q,P,G,e,by rw[<-HQ.out];exact am⟩
 case rest=>
 obtain⟨nn',p',ah,an,ac⟩:=hcut;refine(‹∀(a:Act) (w_1:World),Code.wp prog _ _ a w_1->_›) _ _ ?_;exact zxc s hl w _ sb rb mb ab fb sh f nn' p' T an ah hsh (hid ⟨ac.out,HT.out.2⟩)
def zey (s:K1) (a:Nat) (date time:Bool) (Y M D H N C F:Int) (w:World) (e:Ending) (w':World):Prop:=∃(t:RT) (r:Int),e=.returned (.tuple #[t.v,.int .i64 r])/\Below w.heap.size w w'/\
 match zoneAt s a with
 |none=>r=-1
 |some z=>r=(z.stop:Int)/\t=⟨date,time,true,Y,M,D,H,N,C,F,if z.z=45 then -((3600*z.h+60*z.m:Nat):Int)else((3600*z.h+60*z.m:Nat):Int),decide (23<z.h) || decide (59<z.m)⟩
theorem zq4 (s:K1) (_hl:s.length<=1073741823) (a:Nat) (ha:a<=1073741824) (date time:Bool) (Y M D H N C F P Q:Int) (p m k:Bool) (bP:-1<=P/\P<=999999999) (bQ:-1<=Q/\Q<=999999999) (w wy:World) (gb:Nat)
 (HGO:Hid (∀(r:Int) (off:Int) (late:Bool) (w':World),Below w.heap.size w w'->(zoneAt s a=none/\r=-1\/∃zz:Gr.Zn,zoneAt s a=some zz/\r=(zz.stop:Int)/\off=(if zz.z=45 then -((3600*zz.h+60*zz.m:Nat):Int)else((3600*zz.h+60*zz.m:Nat):Int))/\late=(decide (23<zz.h) || decide (59<zz.m)))->zey s a date time Y M D H N C F w (.returned (.tuple #[.agg #[.bool date,.bool time,.bool true,.int .i64 Y,.int .i64 M,.int .i64 D,.int .i64 H,.int .i64 N,.int .i64 C,.int .i64 F,.int .i64 off,.bool late],.int .i64 r])) w'))
 (HI2:Hid (∀W,Calls prog 186 #[.string ⟨s.toArray⟩,.int .i64 (a:Int),.int .u8 43] W fun e w'=>e=.returned (.bool p)/\W=w')) (HI3:Hid (∀W,Calls prog 186 #[.string ⟨s.toArray⟩,.int .i64 (a:Int),.int .u8 45] W fun e w'=>e=.returned (.bool m)/\W=w')) (HI4:Hid (∀W,Calls prog 186 #[.string ⟨s.toArray⟩,.int .i64 ((a:Int)+3),.int .u8 58] W fun e w'=>e=.returned (.bool k)/\W=w'))
 (HNO:Hid (p=false/\m=false\/P<0\/Q<0\/k=false->zoneAt s a=none))
 (HYES:Hid ((p || m)=true->0<=P->0<=Q->k=true->∃(hla:a<s.length) (hh mm:Nat),P=hh/\Q=mm/\hh<=999999999/\mm<=999999999/\zoneAt s a=some ⟨s[a]'hla,hh,mm,a+6⟩))
 (HGB:Hid (w.heap.size=gb)) (HB:Hid (Blk wy gb 164 (T12 date time true Y M D H N C F 0 false)/\Blk wy (gb+1) 164 (T12 false false false 0 0 0 0 0 0 0 0 false)/\Below gb w wy))
 (u2 u3 u4 u7 u10 u11 u12 u13 u14 u15 u16 u17 u18 u19 u20 u21 u22 u23 u24 u25 u26 u27 u28 u29 u30 u31 u32 u33 u34 u35 u36 u37 u38 u39 u40 u41 u42 u43 u44 u45 u46 u47 u48 u49 u50 u51 u52 u53 u54 u55 u56 u57 u58 u59 u60 u61 u62 u63 u64 u65 u66 u67 u68 u69 u70 u71 u72 u73 u74:Value):
 Code.wp prog (tl 4 (f187.body.getD .skip)) (bodyPost prog f187 (zey s a date time Y M D H N C F w)) {tmps:=K9 (.string ⟨s.toArray⟩::.int .i64 (a:Int)::u2::u3::u4::.pointer (some ⟨gb,0,none⟩)::.pointer (some ⟨gb+1,0,none⟩)::u7::.int .i64 P::.int .i64 Q::u10::u11::u12::u13::u14::u15::u16::u17::u18::u19::u20::u21::u22::u23::u24::u25::u26::u27::u28::u29::u30::u31::u32::u33::u34::u35::u36::u37::u38::u39::u40::u41::u42::u43::u44::u45::u46::u47::u48::u49::u50::u51::u52::u53::u54::u55::u56::u57::u58::u59::u60::u61::u62::u63::u64::u65::u66::u67::u68::u69::u70::u71::u72::u73::u74::[]),defers:=[]} wy:=by
 generalize hc0:tl 4 (f187.body.getD .skip)=c0;simp only[tl,f187,K2]at hc0;subst hc0;obtain⟨d,B⟩:=ex (!((p || m) && !decide (P<0) && !decide (Q<0) && k))
 have c:=hid B;clear B;have V:(p=false/\m=false)\/((p=true\/p=false/\m=true)/\P<0)\/((p=true\/p=false/\m=true)/\¬P<0/\Q<0)\/((p=true\/p=false/\m=true)/\¬P<0/\¬Q<0/\k=false)\/((p=true\/p=false/\m=true)/\¬P<0/\¬Q<0/\k=true):=by
  cases p<;>cases m<;>cases k<;>simp<;>omega
 go_upto_region 5 with fail;go_cut [49] (fun s49 f=>s49=.bool d/\f=wy)
 case first=>
  clear HNO HYES HGO;rcases V with⟨rfl,rfl⟩|⟨rfl|⟨rfl,rfl⟩,c1⟩|⟨rfl|⟨rfl,rfl⟩,c1,c2⟩|⟨rfl|⟨rfl,rfl⟩,c1,c2,rfl⟩|⟨rfl|⟨rfl,rfl⟩,c1,c2,rfl⟩
  .obtain rfl:d=true:=by rw[<-c.out];simp[*]
   clear c;go_wp2_with fail;refine(HI2.out _).mono ?_;rintro e g ⟨rfl,rfl⟩;go_wp2_with fail;refine(HI3.out _).mono ?_;rintro e g ⟨rfl,rfl⟩;go_wp2;go_meet
   first|exact⟨rfl,rfl⟩|exact⟨by simp[*],rfl⟩
  .obtain rfl:d=true:=by rw[<-c.out];simp[*]
   clear c;go_wp2_with fail;refine(HI2.out _).mono ?_;rintro e g ⟨rfl,rfl⟩;go_wp2;go_meet
   first|exact⟨rfl,rfl⟩|exact⟨by simp[*],rfl⟩
  .obtain rfl:d=true:=by rw[<-c.out];simp[*]
   clear c;go_wp2_with fail;refine(HI2.out _).mono ?_;rintro e g ⟨rfl,rfl⟩;go_wp2_with fail;refine(HI3.out _).mono ?_;rintro e g ⟨rfl,rfl⟩;go_wp2;go_meet
   first|exact⟨rfl,rfl⟩|exact⟨by simp[*],rfl⟩
  .obtain rfl:d=true:=by rw[<-c.out];simp[*]
   clear c;go_wp2_with fail;refine(HI2.out _).mono ?_;rintro e g ⟨rfl,rfl⟩;go_wp2;go_meet
   first|exact⟨rfl,rfl⟩|exact⟨by simp[*],rfl⟩
  .obtain rfl:d=true:=by rw[<-c.out];simp[*]
   clear c;go_wp2_with fail;refine(HI2.out _).mono ?_;rintro e g ⟨rfl,rfl⟩;go_wp2_with fail;refine(HI3.out _).mono ?_;rintro e g ⟨rfl,rfl⟩;go_wp2;go_meet
   first|exact⟨rfl,rfl⟩|exact⟨by simp[*],rfl⟩
  .obtain rfl:d=true:=by rw[<-c.out];simp[*]
   clear c;go_wp2_with fail;refine(HI2.out _).mono ?_;rintro e g ⟨rfl,rfl⟩;go_wp2_with fail;refine(HI4.out _).mono ?_;rintro e g ⟨rfl,rfl⟩;go_wp2;go_meet
   first|exact⟨rfl,rfl⟩|exact⟨by simp[*],rfl⟩
  .obtain rfl:d=true:=by rw[<-c.out];simp[*]
   clear c;go_wp2_with fail;refine(HI2.out _).mono ?_;rintro e g ⟨rfl,rfl⟩;go_wp2_with fail;refine(HI3.out _).mono ?_;rintro e g ⟨rfl,rfl⟩;go_wp2_with fail;refine(HI4.out _).mono ?_;rintro e g ⟨rfl,rfl⟩;go_wp2;go_meet
   first|exact⟨rfl,rfl⟩|exact⟨by simp[*],rfl⟩
  .obtain rfl:d=false:=by rw[<-c.out];simp[*]
   clear c;go_wp2_with fail;refine(HI2.out _).mono ?_;rintro e g ⟨rfl,rfl⟩;go_wp2_with fail;refine(HI4.out _).mono ?_;rintro e g ⟨rfl,rfl⟩;go_wp2;go_meet
   first|exact⟨rfl,rfl⟩|exact⟨by simp[*],rfl⟩
  .obtain rfl:d=false:=by rw[<-c.out];simp[*]
   clear c;go_wp2_with fail;refine(HI2.out _).mono ?_;rintro e g ⟨rfl,rfl⟩;go_wp2_with fail;refine(HI3.out _).mono ?_;rintro e g ⟨rfl,rfl⟩;go_wp2_with fail;refine(HI4.out _).mono ?_;rintro e g ⟨rfl,rfl⟩;go_wp2;go_meet
   first|exact⟨rfl,rfl⟩|exact⟨by simp[*],rfl⟩
 case rest=>
 obtain⟨rfl,rfl⟩:=hcut;refine(‹∀(a:Act) (w_1:World),Code.wp prog _ _ a w_1->_›) _ _ ?_;go_cut [] (fun f=>d=false/\f=wc)
 case first=>
  cases d with
  |true=>
   have HF:Hid (zoneAt s a=none):=hid (HNO.out (by
    have h:=c.out;cases p<;>cases m<;>cases k<;>simp at h ⊢<;>omega))
   clear HNO HYES c V;obtain⟨q0,q1,q2,q3,q4,Z,q6,q7,X,q9,u,T⟩:=zah HB.out.1;have qf:∀j,wc.frozen? ⟨gb,j,none⟩=false:=HB.out.1.frozen;have xb:∀j,wc.cell? ⟨gb+1,j,none⟩=(#[.bool false,.bool false,.bool false,.int .i64 0,.int .i64 0,.int .i64 0,.int .i64 0,.int .i64 0,.int .i64 0,.int .i64 0,.int .i64 0,.bool false]:Array Value)[j]? :=fun j=>HB.out.2.1.cell j
   have xf:∀j,wc.frozen? ⟨gb+1,j,none⟩=false:=HB.out.2.1.frozen;go_wp2_with fail;have E:Blk ((((((((((((wc.setCell ⟨gb+1,0,none⟩ (.bool date)).setCell ⟨gb+1,1,none⟩ (.bool time)).setCell ⟨gb+1,2,none⟩ (.bool true)).setCell ⟨gb+1,3,none⟩ (.int .i64 Y)).setCell ⟨gb+1,4,none⟩ (.int .i64 M)).setCell ⟨gb+1,5,none⟩ (.int .i64 D)).setCell ⟨gb+1,6,none⟩ (.int .i64 H)).setCell ⟨gb+1,7,none⟩ (.int .i64 N)).setCell ⟨gb+1,8,none⟩ (.int .i64 C)).setCell ⟨gb+1,9,none⟩ (.int .i64 F)).setCell ⟨gb+1,10,none⟩ (.int .i64 0)).setCell ⟨gb+1,11,none⟩ (.bool false)) (gb+1) 164 (T12 date time true Y M D H N C F 0 false):=zbf HB.out.2.1;have G:Below gb w ((((((((((((wc.setCell ⟨gb+1,0,none⟩ (.bool date)).setCell ⟨gb+1,1,none⟩ (.bool time)).setCell ⟨gb+1,2,none⟩ (.bool true)).setCell ⟨gb+1,3,none⟩ (.int .i64 Y)).setCell ⟨gb+1,4,none⟩ (.int .i64 M)).setCell ⟨gb+1,5,none⟩ (.int .i64 D)).setCell ⟨gb+1,6,none⟩ (.int .i64 H)).setCell ⟨gb+1,7,none⟩ (.int .i64 N)).setCell ⟨gb+1,8,none⟩ (.int .i64 C)).setCell ⟨gb+1,9,none⟩ (.int .i64 F)).setCell ⟨gb+1,10,none⟩ (.int .i64 0)).setCell ⟨gb+1,11,none⟩ (.bool false)):=zce HB.out.2.2 (X8 gb);obtain⟨e0,e1,e2,e3,e4,e5,e6,e7,e8,e9,aa,ab⟩:=zah E;refine X9 (v:=.tuple #[.agg #[.bool date,.bool time,.bool true,.int .i64 Y,.int .i64 M,.int .i64 D,.int .i64 H,.int .i64 N,.int .i64 C,.int .i64 F,.int .i64 0,.bool false],.int .i64 (-1)]) (by rw[U0 rfl];go_simp) rfl ?_;exact HGO.out _ _ _ _ (by rw[HGB.out];exact G) (.inl ⟨HF.out,rfl⟩)
  |false=>
   go_wp2;go_meet
   first|exact⟨rfl,rfl⟩|exact⟨trivial,rfl⟩
 case rest=>
 obtain⟨rfl,rfl⟩:=hcut;obtain⟨hla,hh,mm,rfl,rfl,hh9,hm9,hz⟩:=HYES.out (by have h:=c.out;cases p<;>cases m<;>cases k<;>simp at h ⊢) (by have h:=c.out;cases p<;>cases m<;>cases k<;>simp at h<;>omega) (by have h:=c.out;cases p<;>cases m<;>cases k<;>simp at h<;>omega) (by have h:=c.out;cases p<;>cases m<;>cases k<;>simp at h ⊢);have HZ:=hid hz;obtain⟨o,R⟩:=ex (decide (23<hh) || decide (59<mm))
 have A:=hid R;clear hz R HNO HYES c V bP bQ;refine(‹∀(a:Act) (w_1:World),Code.wp prog _ _ a w_1->_›) _ _ ?_;go_upto_region 7 with fail;go_cut [] (fun f=>Hid (Blk f gb 164 (T12 date time true Y M D H N C F 0 o)/\Blk f (gb+1) 164 (T12 false false false 0 0 0 0 0 0 0 0 false)/\Below gb w f))
 case first=>
  obtain⟨q0,q1,q2,q3,q4,Z,q6,q7,X,q9,u,T⟩:=zah HB.out.1;have qf:∀j,wc.frozen? ⟨gb,j,none⟩=false:=HB.out.1.frozen;have xb:∀j,wc.cell? ⟨gb+1,j,none⟩=(#[.bool false,.bool false,.bool false,.int .i64 0,.int .i64 0,.int .i64 0,.int .i64 0,.int .i64 0,.int .i64 0,.int .i64 0,.int .i64 0,.bool false]:Array Value)[j]? :=fun j=>HB.out.2.1.cell j
  have xf:∀j,wc.frozen? ⟨gb+1,j,none⟩=false:=HB.out.2.1.frozen;have n:∀b:Bool,o=b->Hid (Blk (wc.setCell ⟨gb,11,none⟩ (.bool b)) gb 164 (T12 date time true Y M D H N C F 0 o)/\Blk (wc.setCell ⟨gb,11,none⟩ (.bool b)) (gb+1) 164 (T12 false false false 0 0 0 0 0 0 0 0 false)/\Below gb w (wc.setCell ⟨gb,11,none⟩ (.bool b))):=fun b hb=>hid (by subst hb;exact⟨HB.out.1.set_ 11 _,HB.out.2.1.far (Q4 gb) _,HB.out.2.2.setCell (p:=⟨gb,11,none⟩) (by simp) _⟩)
  have q:=hid n;clear n q0 q1 q2 q3 q4 Z q6 q7 X q9 u xb xf;by_cases h23:23<hh
  .have L:(23:Int)<(hh:Int):=by omega
   go_wp2;go_meet;exact q.out _ (by rw[<-A.out];simp[h23])
  .have L:¬(23:Int)<(hh:Int):=by omega
   by_cases h59:59<mm
   .have K:(59:Int)<(mm:Int):=by omega
    go_wp2;go_meet;exact q.out _ (by rw[<-A.out];simp[h59])
   .have K:¬(59:Int)<(mm:Int):=by omega
    go_wp2;go_meet;exact q.out _ (by rw[<-A.out];simp[h23,h59])
 case rest=>
 have l:=hcut;clear hcut HB;refine(‹∀(a:Act) (w_1:World),Code.wp prog _ _ a w_1->_›) _ _ ?_;go_upto_region 8 with fail;go_cut [] (fun f=>Hid (Blk f gb 164 (T12 date time true Y M D H N C F (3600*(hh:Int)+60*(mm:Int)) o)/\Blk f (gb+1) 164 (T12 false false false 0 0 0 0 0 0 0 0 false)/\Below gb w f))
 case first=>
  have u:wc.cell? ⟨gb,10,none⟩=some (.int .i64 0):=l.out.1.cell 10;have qf:∀j,wc.frozen? ⟨gb,j,none⟩=false:=l.out.1.frozen;have n:Hid (Blk (wc.setCell ⟨gb,10,none⟩ (.int .i64 (3600*(hh:Int)+60*(mm:Int)))) gb 164 (T12 date time true Y M D H N C F (3600*(hh:Int)+60*(mm:Int)) o)/\Blk (wc.setCell ⟨gb,10,none⟩ (.int .i64 (3600*(hh:Int)+60*(mm:Int)))) (gb+1) 164 (T12 false false false 0 0 0 0 0 0 0 0 false)/\Below gb w (wc.setCell ⟨gb,10,none⟩ (.int .i64 (3600*(hh:Int)+60*(mm:Int))))):=hid ⟨l.out.1.set_ 10 _,l.out.2.1.far (Q4 gb) _,l.out.2.2.setCell (p:=⟨gb,10,none⟩) (by simp) _⟩;go_wp2;go_meet;exact n
 case rest=>
 have i:=hcut;clear hcut l;refine(‹∀(a:Act) (w_1:World),Code.wp prog _ _ a w_1->_›) _ _ ?_;obtain⟨S,y⟩:∃S:Nat,(s[a]'hla).toNat=S:=⟨_,rfl⟩
 have ad:(((⟨s.toArray⟩:ByteArray)[a]'(by simpa[ByteArray.size]using hla)).toNat:Int)=(S:Int):=by rw[<-y];rfl
 obtain⟨J,I⟩:=ex (decide (S=45))
 have U:((S:Int)==45)=J:=by rw[<-I,X5];simp;omega
 have ac:Hid (J=decide (s[a]'hla=45)):=hid (by
  rw[<-I,X5];simp only[qqv];exact⟨fun h=>UInt8.toNat_inj.1 (by rw[y,h];rfl),fun h=>by rw[<-y,h];rfl⟩)
 clear y I;obtain⟨of,O⟩:∃of:Int,(if J=true then -(3600*(hh:Int)+60*(mm:Int))else 3600*(hh:Int)+60*(mm:Int))=of:=⟨_,rfl⟩
 have t:=hid O;clear O;go_upto_region 9 with fail;go_cut [67] (fun s67 f=>s67=.bool J/\f=wc)
 case first=>
  go_wp2;go_meet;exact⟨rfl,rfl⟩
 case rest=>
 obtain⟨rfl,rfl⟩:=hcut;clear ad U;refine(‹∀(a:Act) (w_1:World),Code.wp prog _ _ a w_1->_›) _ _ ?_;go_cut [] (fun f=>Hid (Blk f gb 164 (T12 date time true Y M D H N C F of o)/\Blk f (gb+1) 164 (T12 false false false 0 0 0 0 0 0 0 0 false)/\Below gb w f))
 case first=>
  cases J with
  |true=>
   have u:wc.cell? ⟨gb,10,none⟩=some (.int .i64 (3600*(hh:Int)+60*(mm:Int))):=i.out.1.cell 10;have qf:∀j,wc.frozen? ⟨gb,j,none⟩=false:=i.out.1.frozen;obtain rfl:-(3600*(hh:Int)+60*(mm:Int))=of:=by rw[<-t.out];rfl
   have n:Hid (Blk (wc.setCell ⟨gb,10,none⟩ (.int .i64 (-(3600*(hh:Int)+60*(mm:Int))))) gb 164 (T12 date time true Y M D H N C F (-(3600*(hh:Int)+60*(mm:Int))) o)/\Blk (wc.setCell ⟨gb,10,none⟩ (.int .i64 (-(3600*(hh:Int)+60*(mm:Int))))) (gb+1) 164 (T12 false false false 0 0 0 0 0 0 0 0 false)/\Below gb w (wc.setCell ⟨gb,10,none⟩ (.int .i64 (-(3600*(hh:Int)+60*(mm:Int)))))):=hid ⟨i.out.1.set_ 10 _,i.out.2.1.far (Q4 gb) _,i.out.2.2.setCell (p:=⟨gb,10,none⟩) (by simp) _⟩;clear t;go_wp2;go_meet;exact n
  |false=>
   obtain rfl:(3600*(hh:Int)+60*(mm:Int))=of:=by rw[<-t.out];rfl
   clear t;go_wp2;go_meet;exact i
 case rest=>
 have x:=hcut;clear hcut i;refine(‹∀(a:Act) (w_1:World),Code.wp prog _ _ a w_1->_›) _ _ ?_;obtain⟨q0,q1,q2,q3,q4,Z,q6,q7,X,q9,u,T⟩:=zah x.out.1;have xb:∀j,wc.cell? ⟨gb+1,j,none⟩=(#[.bool false,.bool false,.bool false,.int .i64 0,.int .i64 0,.int .i64 0,.int .i64 0,.int .i64 0,.int .i64 0,.int .i64 0,.int .i64 0,.bool false]:Array Value)[j]? :=fun j=>x.out.2.1.cell j
 have xf:∀j,wc.frozen? ⟨gb+1,j,none⟩=false:=x.out.2.1.frozen;go_wp2_with fail;have E:Blk ((((((((((((wc.setCell ⟨gb+1,0,none⟩ (.bool date)).setCell ⟨gb+1,1,none⟩ (.bool time)).setCell ⟨gb+1,2,none⟩ (.bool true)).setCell ⟨gb+1,3,none⟩ (.int .i64 Y)).setCell ⟨gb+1,4,none⟩ (.int .i64 M)).setCell ⟨gb+1,5,none⟩ (.int .i64 D)).setCell ⟨gb+1,6,none⟩ (.int .i64 H)).setCell ⟨gb+1,7,none⟩ (.int .i64 N)).setCell ⟨gb+1,8,none⟩ (.int .i64 C)).setCell ⟨gb+1,9,none⟩ (.int .i64 F)).setCell ⟨gb+1,10,none⟩ (.int .i64 of)).setCell ⟨gb+1,11,none⟩ (.bool o)) (gb+1) 164 (T12 date time true Y M D H N C F of o):=zbf x.out.2.1;have G:Below gb w ((((((((((((wc.setCell ⟨gb+1,0,none⟩ (.bool date)).setCell ⟨gb+1,1,none⟩ (.bool time)).setCell ⟨gb+1,2,none⟩ (.bool true)).setCell ⟨gb+1,3,none⟩ (.int .i64 Y)).setCell ⟨gb+1,4,none⟩ (.int .i64 M)).setCell ⟨gb+1,5,none⟩ (.int .i64 D)).setCell ⟨gb+1,6,none⟩ (.int .i64 H)).setCell ⟨gb+1,7,none⟩ (.int .i64 N)).setCell ⟨gb+1,8,none⟩ (.int .i64 C)).setCell ⟨gb+1,9,none⟩ (.int .i64 F)).setCell ⟨gb+1,10,none⟩ (.int .i64 of)).setCell ⟨gb+1,11,none⟩ (.bool o)):=zce x.out.2.2 (X8 gb);obtain⟨e0,e1,e2,e3,e4,e5,e6,e7,e8,e9,aa,ab⟩:=zah E;refine X9 (v:=.tuple #[.agg #[.bool date,.bool time,.bool true,.int .i64 Y,.int .i64 M,.int .i64 D,.int .i64 H,.int .i64 N,.int .i64 C,.int .i64 F,.int .i64 of,.bool o],.int .i64 ((a:Int)+6)]) (by rw[U0 rfl];go_simp) rfl ?_;refine HGO.out _ _ _ _ (by rw[HGB.out];exact G) (.inr ⟨_,HZ.out,by simp,?_,A.out.symm⟩);rw[<-t.out,ac.out];simp only[qqv];split<;>push_cast<;>rfl
theorem zq5 (s:K1) (hl:s.length<=1073741823) (a:Nat) (i:Int) (hi:i=(a:Int)) (ha:a<=1073741824) (date time:Bool) (Y M D H N C F:Int) (w:World):
 Calls prog 187 #[.string ⟨s.toArray⟩,.int .i64 i,.agg #[.bool date,.bool time,.bool false,.int .i64 Y,.int .i64 M,.int .i64 D,.int .i64 H,.int .i64 N,.int .i64 C,.int .i64 F,.int .i64 0,.bool false]] w (zey s a date time Y M D H N C F w):=by
 subst hi;have l:=hid (fun W=>zcp s hl a (a:Int) rfl 90 90 rfl W);have A:=hid (fun W=>zcp s hl a (a:Int) rfl 43 43 rfl W);have B:=hid (fun W=>zcp s hl a (a:Int) rfl 45 45 rfl W);have y:=hid (fun W=>zcp s hl (a+3) ((a:Int)+3) (by omega) 58 58 rfl W);have O:=hid (fun W=>zco s hl (a+1) 2 ((a:Int)+1) 2 (by omega) rfl (by omega) (by omega) W);have K:=hid (fun W=>zco s hl (a+4) 2 ((a:Int)+4) 2 (by omega) rfl (by omega) (by omega) W);have d:=hid (fun h=> @zcr s (a+1) 2 h);have g:=hid (fun h=> @zcr s (a+4) 2 h);have q:=hid (fun h=> @zcs s (a+1) 2 h);have n:=hid (fun h=> @zcs s (a+4) 2 h);have bP:=zjf s (a+1) 2 (by omega);have bQ:=zjf s (a+4) 2 (by omega);obtain⟨P,V⟩:=ex (tw s (a+1) 2)
 obtain⟨Q,Z⟩:=ex (tw s (a+4) 2)
 obtain⟨z,x⟩:=ex (isAt s a 90)
 obtain⟨p,U⟩:=ex (isAt s a 43)
 obtain⟨m,T⟩:=ex (isAt s a 45)
 obtain⟨k,I⟩:=ex (isAt s (a+3) 58)
 have f:Hid (isAt s a 90=z/\isAt s a 43=p/\isAt s a 45=m/\isAt s (a+3) 58=k):=hid ⟨x,U,T,I⟩;have HPQ:Hid (tw s (a+1) 2=P/\tw s (a+4) 2=Q):=hid ⟨V,Z⟩;rw[V]at O d q bP;rw[Z]at K g n bQ;rw[x]at l;rw[U]at A;rw[T]at B;rw[I]at y;clear V Z x U T I;have go:∀(r:Int) (off:Int) (late:Bool) (w':World),Below w.heap.size w w'->(zoneAt s a=none/\r=-1\/∃zz:Gr.Zn,zoneAt s a=some zz/\r=(zz.stop:Int)/\off=(if zz.z=45 then -((3600*zz.h+60*zz.m:Nat):Int)else((3600*zz.h+60*zz.m:Nat):Int))/\late=(decide (23<zz.h) || decide (59<zz.m)))->zey s a date time Y M D H N C F w (.returned (.tuple #[.agg #[.bool date,.bool time,.bool true,.int .i64 Y,.int .i64 M,.int .i64 D,.int .i64 H,.int .i64 N,.int .i64 C,.int .i64 F,.int .i64 off,.bool late],.int .i64 r])) w':=by
  intro r off late w' hb h;refine⟨⟨date,time,true,Y,M,D,H,N,C,F,off,late⟩,r,rfl,hb,?_⟩;rcases h with⟨b,c⟩|⟨zz,b,c,h3,h4⟩
  .rw[b];exact c
  .rw[b];exact⟨c,by rw[h3,h4]⟩
 have G:=hid go;clear go;have L:Hid (z=false->(p=false/\m=false\/P<0\/Q<0\/k=false)->zoneAt s a=none):=hid (fun x h=>by
  unfold zoneAt;rw[f.out.1,x,if_neg (by decide)];by_cases b:P<0
  .rw[q.out b]
  .by_cases c:Q<0
   .obtain⟨v,hv,_⟩:=d.out b;rw[hv,n.out c]
   .obtain⟨v,hv,_⟩:=d.out b;obtain⟨u,hu,_⟩:=g.out c;rw[hv,hu];simp only;rw[if_neg];rw[f.out.2.1,f.out.2.2.1,f.out.2.2.2];rcases h with⟨h3,h4⟩|h3|h3|h3
    .rw[h3,h4];simp
    .exact absurd h3 b
    .exact absurd h3 c
    .rw[h3];simp)
 cases z with
 |true=>
  have HF:Hid (zoneAt s a=some ⟨90,0,0,a+1⟩):=hid (by unfold zoneAt;rw[f.out.1,if_pos rfl]);go_enter func187,ntmps187;go_wp2_with fail;refine(l.out _).mono ?_;rintro e w1 ⟨rfl,rfl⟩;go_wp2_with fail;refine X9 (v:=.tuple #[.agg #[.bool date,.bool time,.bool true,.int .i64 Y,.int .i64 M,.int .i64 D,.int .i64 H,.int .i64 N,.int .i64 C,.int .i64 F,.int .i64 0,.bool false],.int .i64 ((a:Int)+1)]) (by rw[U0 rfl];go_simp) rfl ?_;exact G.out _ _ _ _ (zbz _ _) (.inr ⟨_,HF.out,by simp,by show(0:Int)=if(90:UInt8)=45 then _ else _;rw[if_neg (by decide)];rfl,rfl⟩)
 |false=>
  have E:Hid (p=false/\m=false\/P<0\/Q<0\/k=false->zoneAt s a=none):=hid (L.out rfl);have J:Hid ((p || m)=true->0<=P->0<=Q->k=true->∃(hla:a<s.length) (hh mm:Nat),P=hh/\Q=mm/\hh<=999999999/\mm<=999999999/\zoneAt s a=some ⟨s[a]'hla,hh,mm,a+6⟩):=hid (fun o c1 c2 I=>by
   obtain⟨hh,ac,ad⟩:=d.out (by omega);obtain⟨mm,aa,X⟩:=g.out (by omega);have hla:a<s.length:=by
    rcases Q0 a s.length with h|h
    .exact h
    .have b:=f.out.2.1;have c:=f.out.2.2.1;unfold isAt at b c;rw[Y4 h]at b c;rw[<-b,<-c]at o;cases o
   refine⟨hla,hh,mm,ad,X,by omega,by omega,?_⟩;unfold zoneAt;rw[f.out.1,if_neg (by decide),ac,aa];simp only;rw[f.out.2.1,f.out.2.2.1,f.out.2.2.2,o,I,Bool.and_self,if_pos rfl,Q7,K6 hla,K2])
  clear L d g q n;go_enter func187,ntmps187;go_wp2_with fail;refine(l.out _).mono ?_;rintro e w1 ⟨rfl,rfl⟩;go_upto_region 4 with fail;obtain⟨R,j⟩:=ex w.heap.size
  obtain⟨S,t⟩:=ex ((w.alloc (.cells #[.bool date,.bool time,.bool true,.int .i64 Y,.int .i64 M,.int .i64 D,.int .i64 H,.int .i64 N,.int .i64 C,.int .i64 F,.int .i64 0,.bool false] 164)).alloc (.cells #[.bool false,.bool false,.bool false,.int .i64 0,.int .i64 0,.int .i64 0,.int .i64 0,.int .i64 0,.int .i64 0,.int .i64 0,.int .i64 0,.bool false] 164))
  have HB:Hid (Blk S R 164 (T12 date time true Y M D H N C F 0 false)/\Blk S (R+1) 164 (T12 false false false 0 0 0 0 0 0 0 0 false)/\Below R w S):=hid (by
   rw[<-t,<-j];refine⟨(K5 _ _ _).alloc _,?_,zbz _ _⟩;have:=K5 (w.alloc (.cells #[.bool date,.bool time,.bool true,.int .i64 Y,.int .i64 M,.int .i64 D,.int .i64 H,.int .i64 N,.int .i64 C,.int .i64 F,.int .i64 0,.bool false] 164)) 164 (T12 false false false 0 0 0 0 0 0 0 0 false);rwa[X2]at this)
  have ab:=hid j;(try rw[t]);(try rw[j]);clear t j;go_cut [8,9] (fun s8 s9 wx=>s8=.int .i64 P/\s9=.int .i64 Q/\wx=S)
  case first=>
   go_wp2_with fail;refine(O.out _).mono ?_;rintro e w1 ⟨rfl,rfl⟩;go_wp2_with fail;refine(K.out _).mono ?_;rintro e w1 ⟨rfl,rfl⟩;go_wp2;go_meet;exact⟨rfl,rfl,rfl⟩
  case rest=>
   obtain⟨rfl,rfl,rfl⟩:=hcut;refine(‹∀(a:Act) (w_1:World),Code.wp prog _ _ a w_1->_›) _ _ ?_;exact zq4 s hl a ha date time Y M D H N C F P Q p m k bP bQ w _ R G A B y E J ab HB _ _ _ _ _ _ _ _ _ _ _ _ _ _ _ _ _ _ _ _ _ _ _ _ _ _ _ _ _ _ _ _ _ _ _ _ _ _ _ _ _ _ _ _ _ _ _ _ _ _ _ _ _ _ _ _ _ _ _ _ _ _ _ _ _ _ _ _ _
theorem zgr (s:K1) (hl:s.length<=1073741823) (a:Nat) (i:Int) (hi:i=(a:Int)) (ha:a<=1073741824) (date:Bool) (Y M D:Int) (w:World):
 Calls prog 185 #[.string ⟨s.toArray⟩,.int .i64 i,.agg #[.bool date,.bool false,.bool false,.int .i64 Y,.int .i64 M,.int .i64 D,.int .i64 0,.int .i64 0,.int .i64 0,.int .i64 0,.int .i64 0,.bool false]] w (zbj s a date Y M D w):=by
 subst hi;have F:=hid (fun W=>zco s hl a 2 (a:Int) 2 rfl rfl (by omega) (by omega) W);have B:=hid (fun W=>zco s hl (a+3) 2 ((a:Int)+3) 2 (by omega) rfl (by omega) (by omega) W);have x:=hid (fun W=>zco s hl (a+6) 2 ((a:Int)+6) 2 (by omega) rfl (by omega) (by omega) W);have o:=hid (fun W=>zcp s hl (a+2) ((a:Int)+2) (by omega) 58 58 rfl W);have A:=hid (fun W=>zcp s hl (a+5) ((a:Int)+5) (by omega) 58 58 rfl W);have P:=hid (fun W=>zcp s hl (a+8) ((a:Int)+8) (by omega) 46 46 rfl W);have b:=hid (fun h=> @zcr s a 2 h);have j:=hid (fun h=> @zcr s (a+3) 2 h);have l:=hid (fun h=> @zcr s (a+6) 2 h);have K:=hid (fun h=> @zcs s a 2 h);have I:=hid (fun h=> @zcs s (a+3) 2 h);have J:=hid (fun h=> @zcs s (a+6) 2 h);have bH:=zjf s a 2 (by omega);have bM:=zjf s (a+3) 2 (by omega);have bC:=zjf s (a+6) 2 (by omega);obtain⟨H,hH⟩:=ex (tw s a 2)
 obtain⟨g,hN⟩:=ex (tw s (a+3) 2)
 obtain⟨C,hC⟩:=ex (tw s (a+6) 2)
 obtain⟨p,X⟩:=ex (isAt s (a+2) 58)
 obtain⟨q,V⟩:=ex (isAt s (a+5) 58)
 obtain⟨z,U⟩:=ex (isAt s (a+8) 46)
 have R:Hid (isAt s (a+2) 58=p/\isAt s (a+5) 58=q/\isAt s (a+8) 46=z):=hid ⟨X,V,U⟩;rw[hH]at F b K bH;rw[hN]at B j I bM;rw[hC]at x l J bC;rw[X]at o;rw[V]at A;rw[U]at P;clear hH hN hC X V U;have hc:H<0\/(¬H<0/\g<0)\/(¬H<0/\¬g<0/\C<0)\/(¬H<0/\¬g<0/\¬C<0/\p=false)\/(¬H<0/\¬g<0/\¬C<0/\p=true/\q=false)\/(¬H<0/\¬g<0/\¬C<0/\p=true/\q=true):=by
  cases p<;>cases q<;>simp<;>omega
 have go:∀(r:Int) (ok:Bool) (n:Int) (w':World),Below w.heap.size w w'->(clockAt s a=none/\r=-1\/∃h m c f t:Nat,clockAt s a=some ⟨h,m,c,f,t⟩/\r=(t:Int)/\ok=true/\H=h/\g=m/\C=c/\n=f)->zbj s a date Y M D w (.returned (.tuple #[.agg #[.bool date,.bool ok,.bool false,.int .i64 Y,.int .i64 M,.int .i64 D,.int .i64 H,.int .i64 g,.int .i64 C,.int .i64 n,.int .i64 0,.bool false],.int .i64 r])) w':=by
  intro r ok n w' hb h;refine⟨⟨date,ok,false,Y,M,D,H,g,C,n,0,false⟩,r,rfl,hb,?_⟩;rcases h with⟨k,N⟩|⟨h,m,c,f,t,k,N,u,rfl,rfl,rfl,rfl⟩
  .rw[k];exact N
  .rw[k];exact⟨N,by rw[u]⟩
 have Q:=hid go;clear go;rcases hc with c1|⟨c1,c2⟩|⟨c1,c2,c3⟩|⟨c1,c2,c3,rfl⟩|⟨c1,c2,c3,rfl,rfl⟩|⟨c1,c2,c3,rfl,rfl⟩
 case inr.inr.inr.inr.inr=>
  have HF:Hid (∃h m c:Nat,numAt s a 2=some h/\numAt s (a+3) 2=some m/\numAt s (a+6) 2=some c/\H=h/\g=m/\C=c):=hid (by
   obtain⟨y,k,N⟩:=b.out c1;obtain⟨m,u,h4⟩:=j.out c2;obtain⟨d,O,h6⟩:=l.out c3;exact⟨y,m,d,k,u,O,N,h4,h6⟩)
  clear b j l K I J;go_enter func185,ntmps185;go_wp2_with fail;refine(F.out _).mono ?_;rintro e E ⟨rfl,rfl⟩;go_wp2_with fail;refine(B.out _).mono ?_;rintro e E ⟨rfl,rfl⟩;go_wp2_with fail;refine(x.out _).mono ?_;rintro e E ⟨rfl,rfl⟩;go_wp2_with fail;refine(o.out _).mono ?_;rintro e E ⟨rfl,rfl⟩;go_wp2_with fail;refine(A.out _).mono ?_;rintro e E ⟨rfl,rfl⟩;go_upto_region 5 with fail;clear F B x o A;obtain⟨S,G⟩:=ex w.heap.size
  obtain⟨T,L⟩:=ex ((w.alloc (.cells #[.bool date,.bool true,.bool false,.int .i64 Y,.int .i64 M,.int .i64 D,.int .i64 H,.int .i64 g,.int .i64 C,.int .i64 0,.int .i64 0,.bool false] 164)).alloc (.cells #[.bool false,.bool false,.bool false,.int .i64 0,.int .i64 0,.int .i64 0,.int .i64 0,.int .i64 0,.int .i64 0,.int .i64 0,.int .i64 0,.bool false] 164))
  have HB:Hid (Blk T S 164 (T12 date true false Y M D H g C 0 0 false)/\Blk T (S+1) 164 (T12 false false false 0 0 0 0 0 0 0 0 false)/\Below S w T):=hid (by
   rw[<-L,<-G];refine⟨(K5 _ _ _).alloc _,?_,zbz _ _⟩;have:=K5 (w.alloc (.cells #[.bool date,.bool true,.bool false,.int .i64 Y,.int .i64 M,.int .i64 D,.int .i64 H,.int .i64 g,.int .i64 C,.int .i64 0,.int .i64 0,.bool false] 164)) 164 (T12 false false false 0 0 0 0 0 0 0 0 false);rwa[X2]at this)
  have Z:=hid G;rw[L];(try rw[G]);clear L G;go_cut [1] (fun s1 wx=>s1=.int .i64 ((a:Int)+8)/\wx=T)
  case first=>
   go_wp2;go_meet;exact⟨rfl,rfl⟩
  case rest=>
   obtain⟨rfl,rfl⟩:=hcut;refine(‹∀(a:Act) (w_1:World),Code.wp prog _ _ a w_1->_›) _ _ ?_;exact zq3 s hl a ha date Y M D H g C z w _ S Q HF R P Z HB
 all_goals
  have HF:Hid (clockAt s a=none):=hid (by
   unfold clockAt
   first
    | (rw[K.out c1])
    | (obtain⟨y,k,_⟩:=b.out c1;rw[k,I.out c2])
    | (obtain⟨y,k,_⟩:=b.out c1;obtain⟨m,u,_⟩:=j.out c2;rw[k,u,J.out c3])
    | (obtain⟨y,k,_⟩:=b.out c1;obtain⟨m,u,_⟩:=j.out c2;obtain⟨d,O,_⟩:=l.out c3;rw[k,u,O,R.out.1,R.out.2.1];rfl)
    | (obtain⟨y,k,_⟩:=b.out c1;obtain⟨m,u,_⟩:=j.out c2;obtain⟨d,O,_⟩:=l.out c3;rw[k,u,O,R.out.1];rfl))
  go_enter func185,ntmps185;go_wp2_with fail;refine(F.out _).mono ?_;rintro e E ⟨rfl,rfl⟩;go_wp2_with fail;refine(B.out _).mono ?_;rintro e E ⟨rfl,rfl⟩;go_wp2_with fail;refine(x.out _).mono ?_;rintro e E ⟨rfl,rfl⟩;go_wp2_with fail;(try (refine(o.out _).mono ?_;rintro e E ⟨rfl,rfl⟩;go_wp2_with fail));(try (refine(A.out _).mono ?_;rintro e E ⟨rfl,rfl⟩;go_wp2_with fail));refine X9 (v:=.tuple #[.agg #[.bool date,.bool false,.bool false,.int .i64 Y,.int .i64 M,.int .i64 D,.int .i64 H,.int .i64 g,.int .i64 C,.int .i64 0,.int .i64 0,.bool false],.int .i64 (-1)]) (by rw[U0 rfl];go_simp) rfl ?_;exact Q.out _ _ _ _ (zbz _ _) (.inl ⟨HF.out,rfl⟩)
def toRT (x:Gr.Mo):RT:=⟨x.date,x.time,decide (x.z≠0),x.y,x.m,x.d,x.h,x.mi,x.c,x.nanos,offS x,decide (23<x.zh) || decide (59<x.zm)⟩
def RdPost (s:K1) (w:World) (e:Ending) (w':World):Prop:=∃(t:RT) (ok:Bool),e=.returned (.tuple #[t.v,.bool ok])/\Below w.heap.size w w'/\
 match X1 s with
 |none=>ok=false
 |some x=>ok=true/\t=toRT x
theorem far12 {w:World} {g k:Nat} {t:TypeId} {cs:Array Value} (hne:k≠g) {v0 v1 v2 v3 v4 v5 v6 v7 v8 v9 v10 v11:Value} (h:Blk w k t cs):Blk ((((((((((((w.setCell ⟨g,0,none⟩ (v0)).setCell ⟨g,1,none⟩ (v1)).setCell ⟨g,2,none⟩ (v2)).setCell ⟨g,3,none⟩ (v3)).setCell ⟨g,4,none⟩ (v4)).setCell ⟨g,5,none⟩ (v5)).setCell ⟨g,6,none⟩ (v6)).setCell ⟨g,7,none⟩ (v7)).setCell ⟨g,8,none⟩ (v8)).setCell ⟨g,9,none⟩ (v9)).setCell ⟨g,10,none⟩ (v10)).setCell ⟨g,11,none⟩ (v11)) k t cs:=
 ((((((((((((h.far hne v0).far hne v1).far hne v2).far hne v3).far hne v4).far hne v5).far hne v6).far hne v7).far hne v8).far hne v9).far hne v10).far hne v11)
theorem put12 {w0 w:World} {g:Nat} {t:TypeId} {c0 c1 c2 c3 c4 c5 c6 c7 c8 c9 c10 c11:Value} (b0 b1 b2:Bool) (i3 i4 i5 i6 i7 i8 i9 i10:Int) (b11:Bool) (h:Blk w g t #[c0,c1,c2,c3,c4,c5,c6,c7,c8,c9,c10,c11]/\Below g w0 w):Blk ((((((((((((w.setCell ⟨g,0,none⟩ (.bool b0)).setCell ⟨g,1,none⟩ (.bool b1)).setCell ⟨g,2,none⟩ (.bool b2)).setCell ⟨g,3,none⟩ (.int .i64 i3)).setCell ⟨g,4,none⟩ (.int .i64 i4)).setCell ⟨g,5,none⟩ (.int .i64 i5)).setCell ⟨g,6,none⟩ (.int .i64 i6)).setCell ⟨g,7,none⟩ (.int .i64 i7)).setCell ⟨g,8,none⟩ (.int .i64 i8)).setCell ⟨g,9,none⟩ (.int .i64 i9)).setCell ⟨g,10,none⟩ (.int .i64 i10)).setCell ⟨g,11,none⟩ (.bool b11)) g t (T12 b0 b1 b2 i3 i4 i5 i6 i7 i8 i9 i10 b11)/\Below g w0 ((((((((((((w.setCell ⟨g,0,none⟩ (.bool b0)).setCell ⟨g,1,none⟩ (.bool b1)).setCell ⟨g,2,none⟩ (.bool b2)).setCell ⟨g,3,none⟩ (.int .i64 i3)).setCell ⟨g,4,none⟩ (.int .i64 i4)).setCell ⟨g,5,none⟩ (.int .i64 i5)).setCell ⟨g,6,none⟩ (.int .i64 i6)).setCell ⟨g,7,none⟩ (.int .i64 i7)).setCell ⟨g,8,none⟩ (.int .i64 i8)).setCell ⟨g,9,none⟩ (.int .i64 i9)).setCell ⟨g,10,none⟩ (.int .i64 i10)).setCell ⟨g,11,none⟩ (.bool b11)):=
 ⟨zbf h.1,zce h.2 (K3 g)⟩
theorem zht {w0 w:World} {g k:Nat} {t t2:TypeId} {cs:Array Value} {c0 c1 c2 c3 c4 c5 c6 c7 c8 c9 c10 c11:Value} (b0 b1 b2:Bool) (i3 i4 i5 i6 i7 i8 i9 i10:Int) (b11:Bool) (h:Blk w g t #[c0,c1,c2,c3,c4,c5,c6,c7,c8,c9,c10,c11]/\Blk w k t2 cs/\Below k w0 w/\k<g):∃x,((((((((((((w.setCell ⟨g,0,none⟩ (.bool b0)).setCell ⟨g,1,none⟩ (.bool b1)).setCell ⟨g,2,none⟩ (.bool b2)).setCell ⟨g,3,none⟩ (.int .i64 i3)).setCell ⟨g,4,none⟩ (.int .i64 i4)).setCell ⟨g,5,none⟩ (.int .i64 i5)).setCell ⟨g,6,none⟩ (.int .i64 i6)).setCell ⟨g,7,none⟩ (.int .i64 i7)).setCell ⟨g,8,none⟩ (.int .i64 i8)).setCell ⟨g,9,none⟩ (.int .i64 i9)).setCell ⟨g,10,none⟩ (.int .i64 i10)).setCell ⟨g,11,none⟩ (.bool b11))=x/\(Blk x g t (T12 b0 b1 b2 i3 i4 i5 i6 i7 i8 i9 i10 b11)/\Blk x k t2 cs/\Below k w0 x/\k<g):=
 ⟨_,rfl,zbf h.1,far12 (by omega) h.2.1,zce h.2.2.1 (Q3 h.2.2.2),h.2.2.2⟩
theorem keep12 {w0 w w2:World} {g k:Nat} {t t2:TypeId} {cs cs2:Array Value} (h:Blk w g t cs/\Blk w k t2 cs2/\Below k w0 w/\k<g) (hb:Below w.heap.size w w2):Blk w2 g t cs/\Blk w2 k t2 cs2/\Below k w0 w2/\k<g:=
 ⟨h.1.below hb h.1.lt,h.2.1.below hb h.2.1.lt,h.2.2.1.trans (hb.mono (Q3 h.2.1.lt)),h.2.2.2⟩
theorem zq6 {s:K1} {a:Nat} {z:Gr.Zn} (h:zoneAt s a=some z):z.z≠0:=by
 unfold zoneAt at h;split at h
 .injection h with h;subst h;show(90:UInt8)≠0;decide
 .split at h
  .split at h
   .rename_i hc;injection h with h
    subst h;rw[Bool.and_eq_true,Bool.or_eq_true]at hc;unfold isAt at hc;show s.getD a 0≠0;rw[Q7];rcases hc.1 with h1|h1
    .rw[eq_of_beq h1];decide
    .rw[eq_of_beq h1];decide
   .cases h
  .cases h
theorem zl0 {s:K1} {a kh km kc kf ks:Nat} (h:clockAt s a=some ⟨kh,km,kc,kf,ks⟩):ks<=s.length:=by
 unfold clockAt at h;split at h
 .rename_i h1 h2 h3;have b:=(zcz h3 (by omega)).2.2;split at h
  .split at h
   .rename_i hp;split at h
    .cases h
    .injection h with h
     injection h with _ _ _ _ h5
     have c:((s.drop (a+9)).takeWhile K0).length<=(s.drop (a+9)).length:=(List.takeWhile_sublist K0).length_le;rw[List.length_drop]at c;have:a+8<s.length:=by
      unfold isAt at hp;rcases Q0 (a+8) s.length with h6|h6
      .exact h6
      .rw[Y4 h6]at hp;cases hp
     omega
   .injection h with h
    injection h with _ _ _ _ h5
    omega
  .cases h
 .cases h
theorem zjh (s:K1) (hl:s.length<=1073741823) (DA:dateAt s=none) (w:World):
 Calls prog 157 #[.string ⟨s.toArray⟩] w (RdPost s w):=by
 have aa:=hid (fun W=>zjg s hl W);have af:=hid (fun W=>zgr s hl 0 0 rfl (by omega) false 0 0 0 W);go_enter func157,ntmps157;go_upto_region 1 with fail;obtain⟨a,i⟩:=ex w.heap.size
 obtain⟨L,p⟩:∃L,L=w.alloc (.cells #[.bool false,.bool false,.bool false,.int .i64 0,.int .i64 0,.int .i64 0,.int .i64 0,.int .i64 0,.int .i64 0,.int .i64 0,.int .i64 0,.bool false] 164):=⟨_,rfl⟩
 have c:Hid (Blk L a 164 (T12 false false false 0 0 0 0 0 0 0 0 false)/\Below a w L/\L.heap.size=a+1):=hid (by rw[p,<-i];exact⟨K5 _ _ _,(K8 _ _).alloc (K3 _) _,by simp⟩);have ab:=hid i;(try rw[<-p]);(try rw[i]);clear p i;go_wp2_with fail;refine(aa.out _).mono ?_;rintro e N ⟨⟨t0,t1,X,t3,t4,Y,t6,t7,t8,t9,u,q⟩,r,rfl,g,hm⟩;have h:Hid (Blk N a 164 (T12 false false false 0 0 0 0 0 0 0 0 false)/\Below a w N/\a<N.heap.size):=hid ⟨c.out.1.below g c.out.1.lt,c.out.2.1.trans (g.mono (by have:=c.out.2.2;omega)),by have:=c.out.2.2;have:=g.size;omega⟩;rw[DA]at hm;simp only at hm;subst hm;have ad:=hid DA;clear DA;simp only[RT.v];clear g;go_upto_region 2 with fail;obtain⟨t,n⟩:=ex N.heap.size
 obtain⟨z,o⟩:=ex (N.alloc (.cells #[.bool t0,.bool t1,.bool X,.int .i64 t3,.int .i64 t4,.int .i64 Y,.int .i64 t6,.int .i64 t7,.int .i64 t8,.int .i64 t9,.int .i64 u,.bool q] 164))
 have K:Hid (Blk z t 164 (T12 t0 t1 X t3 t4 Y t6 t7 t8 t9 u q)/\Blk z a 164 (T12 false false false 0 0 0 0 0 0 0 0 false)/\Below a w z/\a<t):=hid (by
  rw[<-o,<-n];exact⟨K5 _ _ _,h.out.1.alloc _,h.out.2.1.alloc (Q3 h.out.2.2) _,h.out.2.2⟩)
 (try rw[o]);(try rw[n]);clear o n;obtain⟨q0,q1,q2,q3,q4,q5,q6,q7,q8,q9,I,Q⟩:=zah K.out.1;have xb:∀j,z.cell? ⟨a,j,none⟩=(#[.bool false,.bool false,.bool false,.int .i64 0,.int .i64 0,.int .i64 0,.int .i64 0,.int .i64 0,.int .i64 0,.int .i64 0,.int .i64 0,.bool false]:Array Value)[j]? :=fun j=>K.out.2.1.cell j
 have xf:∀j,z.frozen? ⟨a,j,none⟩=false:=K.out.2.1.frozen;have T:∀j,z.frozen? ⟨t,j,none⟩=false:=K.out.1.frozen;go_wp2_with fail;refine(af.out _).mono ?_;rintro e w2 ⟨⟨R,M,J,E,S,G,F,H,D,O,f,d⟩,r2,rfl,P,B⟩;have Z:=hid B;clear q0 q1 q2 q3 q4 q5 q6 q7 q8 q9 I Q xb xf T B;simp only[RT.v];have x:=hid (keep12 K.out P);clear P;have T:∀j,w2.frozen? ⟨t,j,none⟩=false:=x.out.1.frozen;have xa:∀j,w2.cell? ⟨t,j,none⟩=(#[.bool t0,.bool t1,.bool X,.int .i64 t3,.int .i64 t4,.int .i64 Y,.int .i64 t6,.int .i64 t7,.int .i64 t8,.int .i64 t9,.int .i64 u,.bool q]:Array Value)[j]? :=fun j=>x.out.1.cell j
 go_upto_region 4 with fail;obtain⟨y,C,U⟩:=zht R M J E S G F H D O f d x.out;have b:=hid U;(try rw[C]);clear T xa C U;obtain⟨V,l⟩:=ex (decide (r2=(s.length:Int)))
 have hokb:(r2==(s.length:Int))=V:=by rw[<-l];rfl
 have m:=hid l;clear l;obtain⟨q0,q1,q2,q3,q4,q5,q6,q7,q8,q9,I,Q⟩:=zah b.out.1;have xb:∀j,y.cell? ⟨a,j,none⟩=(#[.bool false,.bool false,.bool false,.int .i64 0,.int .i64 0,.int .i64 0,.int .i64 0,.int .i64 0,.int .i64 0,.int .i64 0,.int .i64 0,.bool false]:Array Value)[j]? :=fun j=>b.out.2.1.cell j
 have xf:∀j,y.frozen? ⟨a,j,none⟩=false:=b.out.2.1.frozen;have T:∀j,y.frozen? ⟨t,j,none⟩=false:=b.out.1.frozen;go_wp2_with fail;have ae:Hid (Blk y t 164 (T12 R M J E S G F H D O f d)/\Blk y a 164 (T12 false false false 0 0 0 0 0 0 0 0 false)/\Below a w y):=hid ⟨b.out.1,b.out.2.1,b.out.2.2.1⟩;obtain⟨ac,ag⟩:=put12 R M J E S G F H D O f d ae.out.2;obtain⟨e0,e1,e2,e3,e4,e5,e6,e7,e8,e9,e10,e11⟩:=zah ac;refine X9 (v:=.tuple #[.agg #[.bool R,.bool M,.bool J,.int .i64 E,.int .i64 S,.int .i64 G,.int .i64 F,.int .i64 H,.int .i64 D,.int .i64 O,.int .i64 f,.bool d],.bool V]) (by rw[U0 rfl];go_simp) rfl ?_;unfold RdPost;rw[ab.out];refine⟨⟨R,M,J,E,S,G,F,H,D,O,f,d⟩,V,rfl,ag,?_⟩;unfold X1;rw[ad.out];simp only;have A:=Z.out;cases hck:clockAt s 0 with
 |none=>
  rw[hck]at A;simp only at A ⊢;rw[<-m.out,A];simp
 |some k=>
  rw[hck]at A;simp only at A ⊢;obtain⟨h2,U⟩:=A;by_cases hk:k.stop=s.length
  .rw[if_pos hk];refine⟨by rw[<-m.out,h2,hk];simp,?_⟩;rw[U];simp[toRT,offS]
  .rw[if_neg hk];show V=false;rw[<-m.out,h2];simp;omega
theorem znm (s:K1) (hl:s.length<=1073741823) (y m d:Nat) (DA:dateAt s=some (y,m,d)) (w:World):
 Calls prog 157 #[.string ⟨s.toArray⟩] w (RdPost s w):=by
 have ak:=hid (fun W=>zjg s hl W);have I:=hid (fun W=>zcp s hl 10 10 rfl 84 84 rfl W);have N:=hid (fun W=>zcp s hl 10 10 rfl 32 32 rfl W);obtain⟨vT,hT⟩:=ex (isAt s 10 84)
 obtain⟨vS,hS⟩:=ex (isAt s 10 32)
 rw[hT]at I;rw[hS]at N;have L:=hid (And.intro hT hS);clear hT hS;go_enter func157,ntmps157;go_upto_region 1 with fail;obtain⟨c,Q⟩:=ex w.heap.size
 obtain⟨w0,Z⟩:∃w0,w0=w.alloc (.cells #[.bool false,.bool false,.bool false,.int .i64 0,.int .i64 0,.int .i64 0,.int .i64 0,.int .i64 0,.int .i64 0,.int .i64 0,.int .i64 0,.bool false] 164):=⟨_,rfl⟩
 have G:Hid (Blk w0 c 164 (T12 false false false 0 0 0 0 0 0 0 0 false)/\Below c w w0/\w0.heap.size=c+1):=hid (by rw[Z,<-Q];exact⟨K5 _ _ _,(K8 _ _).alloc (K3 _) _,by simp⟩);have C:=hid Q;(try rw[<-Z]);(try rw[Q]);clear Z Q;go_wp2_with fail;refine(ak.out _).mono ?_;rintro e w1 ⟨⟨t0,t1,t2,t3,t4,t5,t6,t7,t8,t9,t10,t11⟩,r,rfl,R,hm⟩;have P:Hid (Blk w1 c 164 (T12 false false false 0 0 0 0 0 0 0 0 false)/\Below c w w1/\c<w1.heap.size):=hid ⟨G.out.1.below R G.out.1.lt,G.out.2.1.trans (R.mono (by have:=G.out.2.2;omega)),by have:=G.out.2.2;have:=R.size;omega⟩;rw[DA]at hm;simp only at hm;obtain⟨am,o⟩:=hm;subst am;injection o with k0 k1 k2 k3 k4 k5 k6 k7 k8 k9 k10 k11
 subst k0 k1 k2 k3 k4 k5 k6 k7 k8 k9 k10 k11;have F:=hid DA;clear DA;simp only[RT.v];clear R;go_upto_region 2 with fail;obtain⟨h,X⟩:=ex w1.heap.size
 obtain⟨p,ac⟩:=ex (w1.alloc (.cells #[.bool true,.bool false,.bool false,.int .i64 (y:Int),.int .i64 (m:Int),.int .i64 (d:Int),.int .i64 0,.int .i64 0,.int .i64 0,.int .i64 0,.int .i64 0,.bool false] 164))
 have f:Hid (Blk p h 164 (T12 true false false (y:Int) (m:Int) (d:Int) 0 0 0 0 0 false)/\Blk p c 164 (T12 false false false 0 0 0 0 0 0 0 0 false)/\Below c w p/\c<h):=hid (by
  rw[<-ac,<-X];exact⟨K5 _ _ _,P.out.1.alloc _,P.out.2.1.alloc (Q3 P.out.2.2) _,P.out.2.2⟩)
 (try rw[ac]);(try rw[X]);clear ac X;by_cases h10:s.length=10
 .have ap:((10:Int)==(s.length:Int))=true:=by rw[qkq];omega
  have av:=hid h10;clear h10;obtain⟨q0,q1,q2,q3,q4,Y,q6,q7,U,q9,t,u⟩:=zah f.out.1;have xb:∀j,p.cell? ⟨c,j,none⟩=(#[.bool false,.bool false,.bool false,.int .i64 0,.int .i64 0,.int .i64 0,.int .i64 0,.int .i64 0,.int .i64 0,.int .i64 0,.int .i64 0,.bool false]:Array Value)[j]? :=fun j=>f.out.2.1.cell j
  have xf:∀j,p.frozen? ⟨c,j,none⟩=false:=f.out.2.1.frozen;have x:∀j,p.frozen? ⟨h,j,none⟩=false:=f.out.1.frozen;go_wp2_with fail;have l:Hid (Blk p h 164 (T12 true false false (y:Int) (m:Int) (d:Int) 0 0 0 0 0 false)/\Blk p c 164 (T12 false false false 0 0 0 0 0 0 0 0 false)/\Below c w p):=hid ⟨f.out.1,f.out.2.1,f.out.2.2.1⟩;obtain⟨i,g⟩:=put12 true false false (y:Int) (m:Int) (d:Int) 0 0 0 0 0 false l.out.2;obtain⟨e0,e1,e2,e3,e4,e5,e6,e7,e8,e9,S,O⟩:=zah i;refine X9 (v:=.tuple #[.agg #[.bool true,.bool false,.bool false,.int .i64 (y:Int),.int .i64 (m:Int),.int .i64 (d:Int),.int .i64 0,.int .i64 0,.int .i64 0,.int .i64 0,.int .i64 0,.bool false],.bool true]) (by rw[U0 rfl];go_simp) rfl ?_;unfold RdPost;rw[C.out];refine⟨⟨true,false,false,y,m,d,0,0,0,0,0,false⟩,true,rfl,g,?_⟩;unfold X1;rw[F.out];simp only;rw[if_pos av.out]
  first|exact⟨rfl,by simp[toRT,offS]⟩|exact⟨trivial,by simp[toRT,offS]⟩
 .have hI:¬(10:Int)=(s.length:Int):=by omega
  have ap:((10:Int)==(s.length:Int))=false:=by simpa using hI
  by_cases hsep:(vT || vS)=true
  .have ae:vT=true\/(vT=false/\vS=true):=by cases vT<;>cases vS<;>simp_all
   have K:Hid ((isAt s 10 84 || isAt s 10 32)=true):=hid (by rw[L.out.1,L.out.2,hsep]);have an:=hid (fun W=>zgr s hl 11 11 rfl (by omega) true (y:Int) (m:Int) (d:Int) W);clear hsep L;go_upto_region 7 with fail;go_cut [39] (fun s39 wx=>s39=.bool false/\wx=p)
   case first=>
    rcases ae with rfl|⟨rfl,rfl⟩
    .go_wp2_with fail;refine(I.out _).mono ?_;rintro e n ⟨rfl,rfl⟩;go_wp2;go_meet;exact⟨rfl,rfl⟩
    .go_wp2_with fail;refine(I.out _).mono ?_;rintro e n ⟨rfl,rfl⟩;go_wp2_with fail;refine(N.out _).mono ?_;rintro e n ⟨rfl,rfl⟩;go_wp2;go_meet;exact⟨rfl,rfl⟩
   case rest=>
   obtain⟨rfl,rfl⟩:=hcut;refine(‹∀(a:Act) (w_1:World),Code.wp prog _ _ a w_1->_›) _ _ ?_;clear ae I N;obtain⟨q0,q1,q2,q3,q4,Y,q6,q7,U,q9,t,u⟩:=zah f.out.1;have xb:∀j,wc.cell? ⟨c,j,none⟩=(#[.bool false,.bool false,.bool false,.int .i64 0,.int .i64 0,.int .i64 0,.int .i64 0,.int .i64 0,.int .i64 0,.int .i64 0,.int .i64 0,.bool false]:Array Value)[j]? :=fun j=>f.out.2.1.cell j
   have xf:∀j,wc.frozen? ⟨c,j,none⟩=false:=f.out.2.1.frozen;have x:∀j,wc.frozen? ⟨h,j,none⟩=false:=f.out.1.frozen;go_wp2_with fail;refine(an.out _).mono ?_;rintro e w2 ⟨⟨u0,u1,u2,u3,u4,u5,u6,u7,u8,u9,E,D⟩,r2,rfl,ai,o⟩;clear q0 q1 q2 q3 q4 Y q6 q7 U q9 t u xb xf x;simp only[RT.v];have A:=hid (keep12 f.out ai);clear ai;cases hck:clockAt s 11 with
   |none=>
    rw[hck]at o;simp only at o;subst o;have x:∀j,w2.frozen? ⟨h,j,none⟩=false:=A.out.1.frozen;have xa:∀j,w2.cell? ⟨h,j,none⟩=(#[.bool true,.bool false,.bool false,.int .i64 (y:Int),.int .i64 (m:Int),.int .i64 (d:Int),.int .i64 0,.int .i64 0,.int .i64 0,.int .i64 0,.int .i64 0,.bool false]:Array Value)[j]? :=fun j=>A.out.1.cell j
    go_upto_region 10 with fail;obtain⟨n,B,M⟩:=zht u0 u1 u2 u3 u4 u5 u6 u7 u8 u9 E D A.out;have b:=hid M;(try rw[B]);clear x xa B M;have hJ:¬(-1:Int)=(s.length:Int):=by omega
    have aw:((-1:Int)==(s.length:Int))=false:=by simp
    obtain⟨q0,q1,q2,q3,q4,Y,q6,q7,U,q9,t,u⟩:=zah b.out.1;have xb:∀j,n.cell? ⟨c,j,none⟩=(#[.bool false,.bool false,.bool false,.int .i64 0,.int .i64 0,.int .i64 0,.int .i64 0,.int .i64 0,.int .i64 0,.int .i64 0,.int .i64 0,.bool false]:Array Value)[j]? :=fun j=>b.out.2.1.cell j
    have xf:∀j,n.frozen? ⟨c,j,none⟩=false:=b.out.2.1.frozen;have x:∀j,n.frozen? ⟨h,j,none⟩=false:=b.out.1.frozen;go_wp2_with fail;have l:Hid (Blk n h 164 (T12 u0 u1 u2 u3 u4 u5 u6 u7 u8 u9 E D)/\Blk n c 164 (T12 false false false 0 0 0 0 0 0 0 0 false)/\Below c w n):=hid ⟨b.out.1,b.out.2.1,b.out.2.2.1⟩;obtain⟨i,g⟩:=put12 u0 u1 u2 u3 u4 u5 u6 u7 u8 u9 E D l.out.2;obtain⟨e0,e1,e2,e3,e4,e5,e6,e7,e8,e9,S,O⟩:=zah i;refine X9 (v:=.tuple #[.agg #[.bool u0,.bool u1,.bool u2,.int .i64 u3,.int .i64 u4,.int .i64 u5,.int .i64 u6,.int .i64 u7,.int .i64 u8,.int .i64 u9,.int .i64 E,.bool D],.bool false]) (by rw[U0 rfl];go_simp) rfl ?_;unfold RdPost;rw[C.out];refine⟨⟨u0,u1,u2,u3,u4,u5,u6,u7,u8,u9,E,D⟩,false,rfl,g,?_⟩;unfold X1;rw[F.out];simp only;rw[if_neg h10,if_pos K.out,hck]
    trivial
   |some k=>
    obtain⟨kh,km,kc,kf,T⟩:=k;have hkl:=zl0 hck;rw[hck]at o;simp only at o;obtain⟨aj,hu⟩:=o;subst aj;injection hu with k0 k1 k2 k3 k4 k5 k6 k7 k8 k9 k10 k11
    subst k0 k1 k2 k3 k4 k5 k6 k7 k8 k9 k10 k11;have ag:=hid hck;clear hck;have x:∀j,w2.frozen? ⟨h,j,none⟩=false:=A.out.1.frozen;have xa:∀j,w2.cell? ⟨h,j,none⟩=(#[.bool true,.bool false,.bool false,.int .i64 (y:Int),.int .i64 (m:Int),.int .i64 (d:Int),.int .i64 0,.int .i64 0,.int .i64 0,.int .i64 0,.int .i64 0,.bool false]:Array Value)[j]? :=fun j=>A.out.1.cell j
    go_upto_region 10 with fail;obtain⟨n,B,M⟩:=zht true true false (y:Int) (m:Int) (d:Int) (kh:Int) (km:Int) (kc:Int) (kf:Int) 0 false A.out;have b:=hid M;(try rw[B]);clear x xa B M;obtain⟨q0,q1,q2,q3,q4,Y,q6,q7,U,q9,t,u⟩:=zah b.out.1;have xb:∀j,n.cell? ⟨c,j,none⟩=(#[.bool false,.bool false,.bool false,.int .i64 0,.int .i64 0,.int .i64 0,.int .i64 0,.int .i64 0,.int .i64 0,.int .i64 0,.int .i64 0,.bool false]:Array Value)[j]? :=fun j=>b.out.2.1.cell j
    have xf:∀j,n.frozen? ⟨c,j,none⟩=false:=b.out.2.1.frozen;have x:∀j,n.frozen? ⟨h,j,none⟩=false:=b.out.1.frozen;by_cases hks:T=s.length
    .have al:=hid hks;have hKb:((T:Int)==(s.length:Int))=true:=by rw[hks];simp
     clear hks;go_wp2_with fail;have l:Hid (Blk n h 164 (T12 true true false (y:Int) (m:Int) (d:Int) (kh:Int) (km:Int) (kc:Int) (kf:Int) 0 false)/\Blk n c 164 (T12 false false false 0 0 0 0 0 0 0 0 false)/\Below c w n):=hid ⟨b.out.1,b.out.2.1,b.out.2.2.1⟩;obtain⟨i,g⟩:=put12 true true false (y:Int) (m:Int) (d:Int) (kh:Int) (km:Int) (kc:Int) (kf:Int) 0 false l.out.2;obtain⟨e0,e1,e2,e3,e4,e5,e6,e7,e8,e9,S,O⟩:=zah i;refine X9 (v:=.tuple #[.agg #[.bool true,.bool true,.bool false,.int .i64 (y:Int),.int .i64 (m:Int),.int .i64 (d:Int),.int .i64 (kh:Int),.int .i64 (km:Int),.int .i64 (kc:Int),.int .i64 (kf:Int),.int .i64 0,.bool false],.bool true]) (by rw[U0 rfl];go_simp) rfl ?_;unfold RdPost;rw[C.out];refine⟨⟨true,true,false,y,m,d,kh,km,kc,kf,0,false⟩,true,rfl,g,?_⟩;unfold X1;rw[F.out];simp only;rw[if_neg h10,if_pos K.out,ag.out];simp only;rw[if_pos al.out];exact⟨trivial,by simp[toRT,offS]⟩
    .have ar:=hid (fun W=>zq5 s hl T (T:Int) rfl (by omega) true true (y:Int) (m:Int) (d:Int) (kh:Int) (km:Int) (kc:Int) (kf:Int) W);have hJ:¬(T:Int)=(s.length:Int):=by omega
     have aw:((T:Int)==(s.length:Int))=false:=by simpa using hJ
     have hJ2:¬(T:Int)<0:=by omega
     go_wp2_with fail;refine(ar.out _).mono ?_;rintro e w4 ⟨⟨v0,v1,v2,v3,v4,v5,v6,v7,v8,v9,J,H⟩,r3,rfl,ad,ah⟩;have au:=hid ah;clear q0 q1 q2 q3 q4 Y q6 q7 U q9 t u xb xf x ah;simp only[RT.v];have aa:=hid (keep12 b.out ad);clear ad;have x:∀j,w4.frozen? ⟨h,j,none⟩=false:=aa.out.1.frozen;have xa:∀j,w4.cell? ⟨h,j,none⟩=(#[.bool true,.bool true,.bool false,.int .i64 (y:Int),.int .i64 (m:Int),.int .i64 (d:Int),.int .i64 (kh:Int),.int .i64 (km:Int),.int .i64 (kc:Int),.int .i64 (kf:Int),.int .i64 0,.bool false]:Array Value)[j]? :=fun j=>aa.out.1.cell j
     go_upto_region 15 with fail;obtain⟨w5,af,M⟩:=zht v0 v1 v2 v3 v4 v5 v6 v7 v8 v9 J H aa.out;have q:=hid M;(try rw[af]);clear x xa af M;obtain⟨ok,ab⟩:=ex (decide (r3=(s.length:Int)))
     have hokb:(r3==(s.length:Int))=ok:=by rw[<-ab];rfl
     have V:=hid ab;clear ab;obtain⟨q0,q1,q2,q3,q4,Y,q6,q7,U,q9,t,u⟩:=zah q.out.1;have xb:∀j,w5.cell? ⟨c,j,none⟩=(#[.bool false,.bool false,.bool false,.int .i64 0,.int .i64 0,.int .i64 0,.int .i64 0,.int .i64 0,.int .i64 0,.int .i64 0,.int .i64 0,.bool false]:Array Value)[j]? :=fun j=>q.out.2.1.cell j
     have xf:∀j,w5.frozen? ⟨c,j,none⟩=false:=q.out.2.1.frozen;have x:∀j,w5.frozen? ⟨h,j,none⟩=false:=q.out.1.frozen;go_wp2_with fail;have l:Hid (Blk w5 h 164 (T12 v0 v1 v2 v3 v4 v5 v6 v7 v8 v9 J H)/\Blk w5 c 164 (T12 false false false 0 0 0 0 0 0 0 0 false)/\Below c w w5):=hid ⟨q.out.1,q.out.2.1,q.out.2.2.1⟩;obtain⟨i,g⟩:=put12 v0 v1 v2 v3 v4 v5 v6 v7 v8 v9 J H l.out.2;obtain⟨e0,e1,e2,e3,e4,e5,e6,e7,e8,e9,S,O⟩:=zah i;refine X9 (v:=.tuple #[.agg #[.bool v0,.bool v1,.bool v2,.int .i64 v3,.int .i64 v4,.int .i64 v5,.int .i64 v6,.int .i64 v7,.int .i64 v8,.int .i64 v9,.int .i64 J,.bool H],.bool ok]) (by rw[U0 rfl];go_simp) rfl ?_;unfold RdPost;rw[C.out];refine⟨⟨v0,v1,v2,v3,v4,v5,v6,v7,v8,v9,J,H⟩,ok,rfl,g,?_⟩;unfold X1;rw[F.out];simp only;rw[if_neg h10,if_pos K.out,ag.out];simp only;rw[if_neg hks];have h1:=au.out;cases hzn:zoneAt s T with
     |none=>
      rw[hzn]at h1;simp only at h1 ⊢;rw[<-V.out,h1];simp
     |some z=>
      rw[hzn]at h1;simp only at h1 ⊢;obtain⟨h2,M⟩:=h1;by_cases hk:z.stop=s.length
      .rw[if_pos hk];refine⟨by rw[<-V.out,h2,hk];simp,?_⟩;rw[M];simp[toRT,offS,zq6 hzn]
      .rw[if_neg hk];show ok=false;rw[<-V.out,h2];simp;omega
  .have aq:vT=false:=by cases vT<;>simp_all
   have ao:vS=false:=by cases vS<;>simp_all
   subst aq;subst ao;obtain⟨q0,q1,q2,q3,q4,Y,q6,q7,U,q9,t,u⟩:=zah f.out.1;have xb:∀j,p.cell? ⟨c,j,none⟩=(#[.bool false,.bool false,.bool false,.int .i64 0,.int .i64 0,.int .i64 0,.int .i64 0,.int .i64 0,.int .i64 0,.int .i64 0,.int .i64 0,.bool false]:Array Value)[j]? :=fun j=>f.out.2.1.cell j
   have xf:∀j,p.frozen? ⟨c,j,none⟩=false:=f.out.2.1.frozen;have x:∀j,p.frozen? ⟨h,j,none⟩=false:=f.out.1.frozen;go_wp2_with fail;refine(I.out _).mono ?_;rintro e n ⟨rfl,rfl⟩;go_wp2_with fail;refine(N.out _).mono ?_;rintro e n ⟨rfl,rfl⟩;go_wp2_with fail;have l:Hid (Blk p h 164 (T12 true false false (y:Int) (m:Int) (d:Int) 0 0 0 0 0 false)/\Blk p c 164 (T12 false false false 0 0 0 0 0 0 0 0 false)/\Below c w p):=hid ⟨f.out.1,f.out.2.1,f.out.2.2.1⟩;obtain⟨i,g⟩:=put12 true false false (y:Int) (m:Int) (d:Int) 0 0 0 0 0 false l.out.2;obtain⟨e0,e1,e2,e3,e4,e5,e6,e7,e8,e9,S,O⟩:=zah i;refine X9 (v:=.tuple #[.agg #[.bool true,.bool false,.bool false,.int .i64 (y:Int),.int .i64 (m:Int),.int .i64 (d:Int),.int .i64 0,.int .i64 0,.int .i64 0,.int .i64 0,.int .i64 0,.bool false],.bool false]) (by rw[U0 rfl];go_simp) rfl ?_;unfold RdPost;rw[C.out];refine⟨⟨true,false,false,y,m,d,0,0,0,0,0,false⟩,false,rfl,g,?_⟩;unfold X1;rw[F.out];simp only;rw[if_neg h10,if_neg (by rw[L.out.1,L.out.2];decide)]
   trivial
theorem zde (s:K1) (hl:s.length<=1073741823) (w:World):Calls prog 157 #[.string ⟨s.toArray⟩] w (RdPost s w):=by
 cases hd:dateAt s with
 |none=>exact zjh s hl hd w
 |some t=>exact znm s hl t.1 t.2.1 t.2.2 hd w
theorem zts (m:Nat) (hm:m<18446744073709551616) (i:Int) (hi:i=(m:Int)) (w:World):Calls prog 123 #[.int .u64 i] w fun e w'=>e=.returned (.int .i64 (Q2 m))/\w=w':=by
 subst hi;obtain⟨B,a⟩:=ex (Q2 m)
 have f:=hid a;have hb64:B<=64:=by rw[<-a];exact X7 m 64 (by omega) (by omega)
 rw[a];clear a;go_enter func123,ntmps123;go_wp2_with fail;go_loop [0,3] (fun s0 s3=>∃x n:Nat,x<18446744073709551616/\n<=B/\s0=.int .u64 (x:Int)/\s3=.int .i64 (n:Int)/\Hid (B=n+Q2 x)) (fun s0 _=>(intOf s0).toNat)
 case atStart=>exact⟨m,0,hm,by omega,rfl,rfl,hid (by rw[<-f.out];omega)⟩
 case round=>
  obtain⟨x,n,hx,hn,rfl,rfl,c⟩:=hrel;by_cases h0:0<x
  .have h0I:(0:Int)<(x:Int):=by omega
   have b:Hid (B=(n+1)+Q2 (x /2)/\n+1<=B):=hid (by
    have d:=c.out;rw[Lib.bitLen_half x (by omega) (by omega)]at d;omega)
   go_wp2;go_round
   case rel=>exact⟨x /2,n+1,by omega,b.out.2,by go_num,by go_num,hid b.out.1⟩
   case measure=>simp[intOf];omega
  .obtain rfl:x=0:=by omega
   have g:Hid (B=n):=hid (by have:=c.out;rw[this];rfl);go_wp2;go_ret;rw[g.out];exact⟨rfl,rfl⟩
def nodash (l:K1):K1:=l.filter (fun c=>c != 45)
theorem zgn (l:K1) (h:l.all K0=true):nodash l=l:=by
 unfold nodash;rw[List.filter_eq_self];intro c a;have:=K7.1 h c a;cases hh:(c != 45)with
 |true=>rfl
 |false=>
  have e:c=45:=by simpa using hh
  subst e;simp[K0]at this
theorem zgo {s:K1} (h:intB s=true):nodash s=intS s/\(intS s).all K0=true/\(∀c∈s,c=45\/K0 c=true)/\0<s.length:=by
 unfold intB at h;split at h
 .cases h
 .rename_i hn;have a:0<s.length:=by
   rcases Nat.eq_zero_or_pos s.length with h0|h0
   .exact absurd (.inl (by unfold intS;rw[if_neg (by omega)];exact h0)) hn
   .exact h0
  refine⟨?_,h,?_,a⟩
  .unfold intS at h ⊢;split
   .rename_i hc;rw[if_pos hc]at h;cases s with
    |nil=>simp at hc
    |cons c r=>
     simp at hc;obtain⟨_,rfl⟩:=hc;show nodash (45::r)=r;have:nodash (45::r)=nodash r:=by unfold nodash;rw[List.filter_cons_of_neg (by decide)]
     rw[this];exact zgn r h
   .rename_i hc;rw[if_neg hc]at h;exact zgn s h
  .intro c hc;unfold intS at h;split at h
   .rename_i h1;cases s with
    |nil=>cases hc
    |cons d r=>
     simp at h1;rcases List.mem_cons.1 hc with rfl|hc
     .exact .inl h1.2
     .exact .inr (K7.1 h c hc)
   .exact .inr (K7.1 h c hc)
def NPost (o:Option Int) (w:World) (e:Ending) (w':World):Prop:=e=.returned (.tuple #[.int .i64 (o.getD 0),.bool o.isSome])/\w=w'
theorem zvp (l:K1) (h:l.all K0=true) (hl:l.length<=18):K4 l<1000000000000000000:=Nat.lt_of_lt_of_le (zfe l h) (Y7 (n:=10) (by omega) hl)
theorem zkg (s:K1) (hs:∀c∈s,c=45\/K0 c=true) (k:Nat):(nodash (s.take k)).all K0=true/\(nodash (s.take k)).length<=k:=by
 constructor
 .rw[K7];intro c b;obtain⟨a,d⟩:=List.mem_filter.1 b;rcases hs c (List.mem_of_mem_take a)with rfl|h
  .cases d
  .exact h
 .exact Nat.le_trans (List.length_filter_le _ _) (by simp;omega)
theorem zkh (s:K1) (k:Nat) (h:k<s.length):nodash (s.take (k+1))=nodash (s.take k)++(if s[k]=45 then[]else[s[k]]):=by
 unfold nodash;rw[List.take_succ_eq_append_getElem h,List.filter_append]
 congr 1
 by_cases e:s[k]=45
 .rw[if_pos e,e];rfl
 .rw[if_neg e];simp[e]
theorem zlm (s:K1) (hl:s.length<=1073741823) (w:World):Calls prog 122 #[.string ⟨s.toArray⟩] w (NPost (numb s) w):=by
 have m:=hid (fun W=>zgm s hl W);obtain⟨r,u⟩:=ex (numb s)
 have f:Hid ((if intB s=true/\s.length<=18 then some (if s.head?=some 45 then -(K4 (intS s):Int)else(K4 (intS s):Int))else none)=r):=hid u;rw[u];clear u;cases hi:intB s with
 |false=>
  rw[hi]at m;have d:Hid (r=none):=hid (by rw[<-f.out,if_neg (by rw[hi];simp)]);clear hi f;go_enter func122,ntmps122;go_wp2_with fail;refine(m.out _).mono ?_;rintro _ F ⟨rfl,rfl⟩;go_wp2;go_ret2;rw[d.out];exact⟨rfl,rfl⟩
 |true=>
  rw[hi]at m;by_cases h18:s.length<=18
  .have n:¬(18:Int)<(s.length:Int):=by omega
   obtain⟨B,L,E,a⟩:=zgo hi;have i:Hid ((some (if s.head?=some 45 then -(K4 (nodash s):Int)else(K4 (nodash s):Int)))=r):=hid (by
    have h:=f.out;rw[if_pos ⟨hi,h18⟩]at h;rw[B];exact h)
   have D:=hid E;have h0I:(0:Int)<(s.length:Int):=by omega
   clear hi f B L E;go_enter func122,ntmps122;go_wp2_with fail;refine(m.out _).mono ?_;rintro _ F ⟨rfl,rfl⟩;go_wp2_with fail;go_loop [4,5] (fun s4 s5=>∃k v:Nat,k<=s.length/\v<1000000000000000000/\s4=.int .i64 (v:Int)/\s5=.int .i64 (k:Int)/\Hid (v=K4 (nodash (s.take k)))) (fun _ s5=>s.length-(intOf s5).toNat)
   case atStart=>exact⟨0,0,by omega,by omega,rfl,rfl,hid rfl⟩
   case round=>
    obtain⟨k,v,hk,M,rfl,rfl,y⟩:=hrel;by_cases hlt:k<s.length
    .have hltI:(k:Int)<(s.length:Int):=by omega
     have H:=hid (zkh s k hlt);have I:=hid (D.out s[k] (X3 hlt));have C:=hid (zkg s D.out (k+1));by_cases h45:s[k]=45
     .have A:=zaz s k hlt _ 45 45 rfl rfl h45;have G:=zaq s k hlt _ 45 45 rfl rfl h45;have J:=hid h45;clear h45;go_wp2;go_round
      case rel=>exact⟨k+1,v,by omega,M,rfl,by go_num,hid (by rw[H.out,if_pos J.out,Q6];exact y.out)⟩
      case measure=>simp[intOf];omega
     .have N:=zao s k hlt _ 45 45 rfl rfl h45;have K:=zar s k hlt _ 45 45 rfl rfl h45;have p:K0 s[k]=true:=I.out.resolve_left h45;obtain⟨b,t⟩:∃b:Nat,(s[k]'hlt).toNat=b:=⟨_,rfl⟩
      have z:(((⟨s.toArray⟩:ByteArray)[k]'(by simpa[ByteArray.size]using hlt)).toNat:Int)=(b:Int):=by rw[<-t];rfl
      have c:=zll (s[k]'hlt) b t;rw[p]at c;have l:48<=b/\b<=57:=by have:=c.symm;simpa using this
      have j:Gr.dv s[k]=b-48:=by unfold Gr.dv;rw[t]
      have o:Hid (10*v+(b-48)=K4 (nodash (s.take (k+1)))):=hid (by
       rw[H.out,if_neg h45,zbp,<-y.out,j])
      have x:10*v+(b-48)<1000000000000000000:=by
       rw[o.out];exact zvp _ C.out.1 (by have:=C.out.2;omega)
      rw[z]at N K;obtain⟨hb1,hb2⟩:=l;clear c p t j h45;go_wp2;go_round
      case rel=>exact⟨k+1,10*v+(b-48),by omega,x,by exact congrArg (Value.int .i64) (by omega),by go_num,hid o.out⟩
      case measure=>simp[intOf];omega
    .obtain rfl:k=s.length:=by omega
     have g:Hid (v=K4 (nodash s)):=hid (by have:=y.out;rwa[List.take_length]at this);have q:s.head?=some (s[0]'a):=by rw[Y0,K6 a]
     by_cases h45:s[0]'a=45
     .have A:=zaz s 0 a _ 45 45 rfl rfl h45;have G:=zaq s 0 a _ 45 45 rfl rfl h45;have d:Hid (r=some (-(v:Int))):=hid (by rw[<-i.out,q,h45,if_pos rfl,g.out]);clear h45 q;go_wp2;go_ret2;rw[d.out];exact⟨rfl,rfl⟩
     .have A:=zao s 0 a _ 45 45 rfl rfl h45;have G:=zar s 0 a _ 45 45 rfl rfl h45;have d:Hid (r=some (v:Int)):=hid (by rw[<-i.out,q,if_neg (by intro e;injection e with e;exact h45 e),g.out]);clear h45 q;go_wp2;go_ret2;rw[d.out];exact⟨rfl,rfl⟩
  .have n:(18:Int)<(s.length:Int):=by omega
   have d:Hid (r=none):=hid (by rw[<-f.out,if_neg (by rintro⟨_,h⟩;exact h18 h)]);clear hi f;go_enter func122,ntmps122;go_wp2_with fail;refine(m.out _).mono ?_;rintro _ F ⟨rfl,rfl⟩;go_wp2;go_ret2;rw[d.out];exact⟨rfl,rfl⟩
theorem zwv {w:World} {g:Nat} {t:TypeId} {c0 c1 c2 c3 v0 v1 v2 v3:Value} (h:Blk w g t #[c0,c1,c2,c3]):Blk ((((w.setCell ⟨g,0,none⟩ v0).setCell ⟨g,1,none⟩ v1).setCell ⟨g,2,none⟩ v2).setCell ⟨g,3,none⟩ v3) g t #[v0,v1,v2,v3]:=by
 have a:=((((h.set_ 0 v0).set_ 1 v1).set_ 2 v2).set_ 3 v3)
 simp only[List.setIfInBounds_toArray,Y8,Y9]at a;exact a
theorem below4 {w0 w:World} {g B:Nat} (h:Below B w0 w) (hB:B<=g) (v0 v1 v2 v3:Value):Below B w0 ((((w.setCell ⟨g,0,none⟩ v0).setCell ⟨g,1,none⟩ v1).setCell ⟨g,2,none⟩ v2).setCell ⟨g,3,none⟩ v3):=
 (((h.setCell (p:=⟨g,0,none⟩) hB _).setCell (p:=⟨g,1,none⟩) hB _).setCell (p:=⟨g,2,none⟩) hB _).setCell (p:=⟨g,3,none⟩) hB _
theorem of4 {w0 w:World} {g B:Nat} {t:TypeId} {c0 c1 c2 c3:Value} (h:Blk w g t #[c0,c1,c2,c3]) (hb:Below B w0 w) (hB:B<=g) (v0 v1 v2 v3:Value):
 ((((w.setCell ⟨g,0,none⟩ v0).setCell ⟨g,1,none⟩ v1).setCell ⟨g,2,none⟩ v2).setCell ⟨g,3,none⟩ v3).cell? ⟨g,0,none⟩=some v0/\((((w.setCell ⟨g,0,none⟩ v0).setCell ⟨g,1,none⟩ v1).setCell ⟨g,2,none⟩ v2).setCell ⟨g,3,none⟩ v3).cell? ⟨g,1,none⟩=some v1/\((((w.setCell ⟨g,0,none⟩ v0).setCell ⟨g,1,none⟩ v1).setCell ⟨g,2,none⟩ v2).setCell ⟨g,3,none⟩ v3).cell? ⟨g,2,none⟩=some v2/\((((w.setCell ⟨g,0,none⟩ v0).setCell ⟨g,1,none⟩ v1).setCell ⟨g,2,none⟩ v2).setCell ⟨g,3,none⟩ v3).cell? ⟨g,3,none⟩=some v3/\Below B w0 ((((w.setCell ⟨g,0,none⟩ v0).setCell ⟨g,1,none⟩ v1).setCell ⟨g,2,none⟩ v2).setCell ⟨g,3,none⟩ v3):=
 have k:=zwv (v0:=v0) (v1:=v1) (v2:=v2) (v3:=v3) h
 ⟨k.cell 0,k.cell 1,k.cell 2,k.cell 3,below4 hb hB _ _ _ _⟩
def OfF (b:Bool) (w:World) (e:Ending) (w':World):Prop:=(∃(k:Int) (n:Bool) (m x:Int),e=.returned (.tuple #[.agg #[.int .i64 k,.bool n,.int .u64 m,.int .i64 x],.bool b]))/\Below w.heap.size w w'
theorem zys (neg ok is r:Bool) (m e:Int) (hm0:-1000000000000000000<m) (hm1:m<1000000000000000000) (he0:-1000000000000000000<e) (he1:e<1000000000000000000) (gb:Nat) (w wx:World) (HM:Hid (Blk wx gb 137 #[.int .i64 0,.bool false,.int .u64 0,.int .i64 0]/\Below w.heap.size w wx/\w.heap.size<=gb)) (HR:Hid ((ok && is && mokB m e)=r)) {u0 u1 u3 u5 u6 u11 u12 u13 u14 u15 u16 u17 u18 u19 u20 u21 u22 u23 u24 u25 u26 u27 u28 u29 u30 u31 u32 u33 u34 u35 u36 u37 u38 u39 u40 u41 u42 u43 u44 u45 u46 u47 u48 u49 u50 u51 u52 u53 u54 u55 u56 u57 u58 u59 u60 u61 u62 u63 u64 u65 u66 u67 u68 u69 u70 u71 u72 u73 u74 u75 u76 u77 u78 u79 u80 u81 u82 u83 u84 u85 u86 u87 u88 u89 u90 u91 u92 u93 u94 u95 u96 u97 u98 u99 u100 u101 u102 u103 u104 u105 u106 u107 u108 u109 u110 u111 u112 u113 u114 u115 u116:Value}:
 Code.wp prog (tl 11 (f93.body.getD .skip)) (bodyPost prog f93 (OfF r w)) {tmps:=K9 (u0::u1::.pointer (some ⟨gb,0,none⟩)::u3::.bool neg::u5::u6::.int .i64 m::.bool ok::.int .i64 e::.bool is::u11::u12::u13::u14::u15::u16::u17::u18::u19::u20::u21::u22::u23::u24::u25::u26::u27::u28::u29::u30::u31::u32::u33::u34::u35::u36::u37::u38::u39::u40::u41::u42::u43::u44::u45::u46::u47::u48::u49::u50::u51::u52::u53::u54::u55::u56::u57::u58::u59::u60::u61::u62::u63::u64::u65::u66::u67::u68::u69::u70::u71::u72::u73::u74::u75::u76::u77::u78::u79::u80::u81::u82::u83::u84::u85::u86::u87::u88::u89::u90::u91::u92::u93::u94::u95::u96::u97::u98::u99::u100::u101::u102::u103::u104::u105::u106::u107::u108::u109::u110::u111::u112::u113::u114::u115::u116::[]),defers:=[]} wx:=by
 generalize hc0:tl 11 (f93.body.getD .skip)=c0;simp only[tl,f93,K2]at hc0;subst hc0;obtain⟨q0,q1,q2,q3⟩:=cells4 HM.out.1;have qf:∀j,wx.frozen? ⟨gb,j,none⟩=false:=HM.out.1.frozen;cases ok with
 |false=>
  have c:Hid (r=false):=hid (by rw[<-HR.out];rfl);go_wp2_with fail;obtain⟨k,l,n,i,a⟩:=of4 HM.out.1 HM.out.2.1 HM.out.2.2 (.int .i64 0) (.bool false) (.int .u64 0) (.int .i64 0);refine X9 (v:=.tuple #[.agg #[.int .i64 0,.bool false,.int .u64 0,.int .i64 0],.bool false]) (by rw[U0 rfl];go_simp) rfl ?_;rw[c.out];exact⟨⟨_,_,_,_,rfl⟩,a⟩
 |true=>
  cases is with
  |false=>
   have c:Hid (r=false):=hid (by rw[<-HR.out];rfl);go_wp2_with fail;obtain⟨k,l,n,i,a⟩:=of4 HM.out.1 HM.out.2.1 HM.out.2.2 (.int .i64 0) (.bool false) (.int .u64 0) (.int .i64 0);refine X9 (v:=.tuple #[.agg #[.int .i64 0,.bool false,.int .u64 0,.int .i64 0],.bool false]) (by rw[U0 rfl];go_simp) rfl ?_;rw[c.out];exact⟨⟨_,_,_,_,rfl⟩,a⟩
  |true=>
   have h:Hid (mokB m e=r):=hid (by have:=HR.out;simpa using this);clear HR;by_cases hn:m<0
   .have c:Hid (r=false):=hid (by rw[<-h.out];unfold mokB;rw[qqk hn];rfl);go_wp2_with fail;obtain⟨k,l,n,i,a⟩:=of4 HM.out.1 HM.out.2.1 HM.out.2.2 (.int .i64 0) (.bool false) (.int .u64 0) (.int .i64 0);refine X9 (v:=.tuple #[.agg #[.int .i64 0,.bool false,.int .u64 0,.int .i64 0],.bool false]) (by rw[U0 rfl];go_simp) rfl ?_;rw[c.out];exact⟨⟨_,_,_,_,rfl⟩,a⟩
   .by_cases hz:m=0
    .subst hz;have o:((0:Int)==0)=true:=rfl;have q:((0:Int) != 0)=false:=rfl;by_cases hez:e=0
     .have g:(e==0)=true:=by simpa using hez
      have p:(e != 0)=false:=by rw[bne,g];rfl
      have c:Hid (r=true):=hid (by rw[<-h.out,hez];decide);clear hez;go_wp2_with fail;obtain⟨k,l,n,i,a⟩:=of4 HM.out.1 HM.out.2.1 HM.out.2.2 (.int .i64 0) (.bool neg) (.int .u64 0) (.int .i64 e);refine X9 (v:=.tuple #[.agg #[.int .i64 0,.bool neg,.int .u64 0,.int .i64 e],.bool true]) (by rw[U0 rfl];go_simp) rfl ?_;rw[c.out];exact⟨⟨_,_,_,_,rfl⟩,a⟩
     .have g:(e==0)=false:=by simpa using hez
      have p:(e != 0)=true:=by rw[bne,g];rfl
      have c:Hid (r=false):=hid (by rw[<-h.out];unfold mokB;simp[hez]);clear hez;go_wp2_with fail;obtain⟨k,l,n,i,a⟩:=of4 HM.out.1 HM.out.2.1 HM.out.2.2 (.int .i64 0) (.bool false) (.int .u64 0) (.int .i64 0);refine X9 (v:=.tuple #[.agg #[.int .i64 0,.bool false,.int .u64 0,.int .i64 0],.bool false]) (by rw[U0 rfl];go_simp) rfl ?_;rw[c.out];exact⟨⟨_,_,_,_,rfl⟩,a⟩
    .have o:(m==0)=false:=by simpa using hz
     have q:(m != 0)=true:=by rw[bne,o];rfl
     have hmp:0<m:=by omega
     have hwr:IntKind.u64.wrap m=m:=by rw[IntKind.wrap_u64];omega
     have d:=hid (fun W=>zts m.toNat (by omega) m (by omega) W);obtain⟨b,s⟩:=ex (Q2 m.toNat)
     have hb64:b<=64:=by rw[<-s];exact X7 _ 64 (by omega) (by omega)
     have f:Hid (r=!(decide (m%2=0) || decide (53<b) || decide (e< -1074) || decide (1023<e) || decide (1024<e+b))):=hid (by
      rw[<-h.out];unfold mokB;rw[s,qqx hn,o,q];simp only[Bool.false_or,Bool.false_and,Bool.true_and];rfl)
     rw[s]at d;clear s hz h;by_cases k1:m%2=0
     .have t:(m%2==0)=true:=by simpa using k1
      have c:Hid (r=false):=hid (by rw[f.out];simp[k1]);clear k1;go_wp2_with fail;obtain⟨k,l,n,i,a⟩:=of4 HM.out.1 HM.out.2.1 HM.out.2.2 (.int .i64 0) (.bool false) (.int .u64 0) (.int .i64 0);refine X9 (v:=.tuple #[.agg #[.int .i64 0,.bool false,.int .u64 0,.int .i64 0],.bool false]) (by rw[U0 rfl];go_simp) rfl ?_;rw[c.out];exact⟨⟨_,_,_,_,rfl⟩,a⟩
     .have t:(m%2==0)=false:=by simpa using k1
      by_cases k2:53<b
      .have u:(53:Int)<(b:Int):=by omega
       have c:Hid (r=false):=hid (by rw[f.out];simp[k2]);clear k1 k2;go_wp2_with fail;refine(d.out _).mono ?_;rintro _ wx ⟨rfl,rfl⟩;go_wp2_with fail;obtain⟨k,l,n,i,a⟩:=of4 HM.out.1 HM.out.2.1 HM.out.2.2 (.int .i64 0) (.bool false) (.int .u64 0) (.int .i64 0);refine X9 (v:=.tuple #[.agg #[.int .i64 0,.bool false,.int .u64 0,.int .i64 0],.bool false]) (by rw[U0 rfl];go_simp) rfl ?_;rw[c.out];exact⟨⟨_,_,_,_,rfl⟩,a⟩
      .have u:¬(53:Int)<(b:Int):=by omega
       by_cases k3:e< -1074
       .have c:Hid (r=false):=hid (by rw[f.out];simp[k3]);clear k1 k2;go_wp2_with fail;refine(d.out _).mono ?_;rintro _ wx ⟨rfl,rfl⟩;go_wp2_with fail;obtain⟨k,l,n,i,a⟩:=of4 HM.out.1 HM.out.2.1 HM.out.2.2 (.int .i64 0) (.bool false) (.int .u64 0) (.int .i64 0);refine X9 (v:=.tuple #[.agg #[.int .i64 0,.bool false,.int .u64 0,.int .i64 0],.bool false]) (by rw[U0 rfl];go_simp) rfl ?_;rw[c.out];exact⟨⟨_,_,_,_,rfl⟩,a⟩
       .by_cases k4:1023<e
        .have c:Hid (r=false):=hid (by rw[f.out];simp[k4]);clear k1 k2;go_wp2_with fail;refine(d.out _).mono ?_;rintro _ wx ⟨rfl,rfl⟩;go_wp2_with fail;obtain⟨k,l,n,i,a⟩:=of4 HM.out.1 HM.out.2.1 HM.out.2.2 (.int .i64 0) (.bool false) (.int .u64 0) (.int .i64 0);refine X9 (v:=.tuple #[.agg #[.int .i64 0,.bool false,.int .u64 0,.int .i64 0],.bool false]) (by rw[U0 rfl];go_simp) rfl ?_;rw[c.out];exact⟨⟨_,_,_,_,rfl⟩,a⟩
        .by_cases k5:1024<e+b
         .have c:Hid (r=false):=hid (by rw[f.out];simp[k5]);clear k1 k2;go_wp2_with fail;refine(d.out _).mono ?_;rintro _ wx ⟨rfl,rfl⟩;go_wp2_with fail;refine(d.out _).mono ?_;rintro _ wx ⟨rfl,rfl⟩;go_wp2_with fail;obtain⟨k,l,n,i,a⟩:=of4 HM.out.1 HM.out.2.1 HM.out.2.2 (.int .i64 0) (.bool false) (.int .u64 0) (.int .i64 0);refine X9 (v:=.tuple #[.agg #[.int .i64 0,.bool false,.int .u64 0,.int .i64 0],.bool false]) (by rw[U0 rfl];go_simp) rfl ?_;rw[c.out];exact⟨⟨_,_,_,_,rfl⟩,a⟩
         .have c:Hid (r=true):=hid (by rw[f.out];simp[k1,k2,k3,k4,k5]);clear k1 k2;go_wp2_with fail;refine(d.out _).mono ?_;rintro _ wx ⟨rfl,rfl⟩;go_wp2_with fail;refine(d.out _).mono ?_;rintro _ wx ⟨rfl,rfl⟩;go_wp2_with fail;obtain⟨k,l,n,i,a⟩:=of4 HM.out.1 HM.out.2.1 HM.out.2.2 (.int .i64 0) (.bool neg) (.int .u64 m) (.int .i64 e);refine X9 (v:=.tuple #[.agg #[.int .i64 0,.bool neg,.int .u64 m,.int .i64 e],.bool true]) (by rw[U0 rfl];go_simp) rfl ?_;rw[c.out];exact⟨⟨_,_,_,_,rfl⟩,a⟩
theorem zp1 (s:K1):-1000000000000000000<(numb s).getD 0/\(numb s).getD 0<1000000000000000000:=by
 unfold numb;split
 .rename_i h;obtain⟨_,a,_,_⟩:=zgo h.1;have hl:(intS s).length<=s.length:=by
   unfold intS;split
   .simp
   .omega
  have:=zvp (intS s) a (by omega);simp only[K2];split<;>omega
 .simp
theorem zww (s t:K1) (hl:s.length<=1073741823) (htl:t.length<=s.length) (neg r:Bool) (gb:Nat) (w wx:World) (HM:Hid (Blk wx gb 137 #[.int .i64 0,.bool false,.int .u64 0,.int .i64 0]/\Below w.heap.size w wx/\w.heap.size<=gb)) (HR:Hid ((if t=[105,110,102]then true else if s=[110,97,110]then true else match t.dropWhile (fun c=>c != 112)with| []=>false|_::b=>match numb (Y5 t)with|some m=>(match numb b with|some e=>mokB m e|none=>false)|none=>false)=r)) {u1 u3 u6 u7 u8 u9 u10 u11 u12 u13 u14 u15 u16 u17 u18 u19 u20 u21 u22 u23 u24 u25 u26 u27 u28 u29 u30 u31 u32 u33 u34 u35 u36 u37 u38 u39 u40 u41 u42 u43 u44 u45 u46 u47 u48 u49 u50 u51 u52 u53 u54 u55 u56 u57 u58 u59 u60 u61 u62 u63 u64 u65 u66 u67 u68 u69 u70 u71 u72 u73 u74 u75 u76 u77 u78 u79 u80 u81 u82 u83 u84 u85 u86 u87 u88 u89 u90 u91 u92 u93 u94 u95 u96 u97 u98 u99 u100 u101 u102 u103 u104 u105 u106 u107 u108 u109 u110 u111 u112 u113 u114 u115 u116:Value}:
 Code.wp prog (tl 4 (f93.body.getD .skip)) (bodyPost prog f93 (OfF r w)) {tmps:=K9 (.string ⟨s.toArray⟩::u1::.pointer (some ⟨gb,0,none⟩)::u3::.bool neg::.string ⟨t.toArray⟩::u6::u7::u8::u9::u10::u11::u12::u13::u14::u15::u16::u17::u18::u19::u20::u21::u22::u23::u24::u25::u26::u27::u28::u29::u30::u31::u32::u33::u34::u35::u36::u37::u38::u39::u40::u41::u42::u43::u44::u45::u46::u47::u48::u49::u50::u51::u52::u53::u54::u55::u56::u57::u58::u59::u60::u61::u62::u63::u64::u65::u66::u67::u68::u69::u70::u71::u72::u73::u74::u75::u76::u77::u78::u79::u80::u81::u82::u83::u84::u85::u86::u87::u88::u89::u90::u91::u92::u93::u94::u95::u96::u97::u98::u99::u100::u101::u102::u103::u104::u105::u106::u107::u108::u109::u110::u111::u112::u113::u114::u115::u116::[]),defers:=[]} wx:=by
 generalize hc0:tl 4 (f93.body.getD .skip)=c0;simp only[tl,f93,K2]at hc0;subst hc0;obtain⟨q0,q1,q2,q3⟩:=cells4 HM.out.1;have qf:∀j,wx.frozen? ⟨gb,j,none⟩=false:=HM.out.1.frozen;by_cases hinf:t=[105,110,102]
 .have h1:(t==([105,110,102]:List UInt8))=true:=by rw[qkq];exact hinf
  have I:Hid (r=true):=hid (by rw[<-HR.out,if_pos hinf]);clear hinf;go_wp2_with fail;obtain⟨V,P,T,U,g⟩:=of4 HM.out.1 HM.out.2.1 HM.out.2.2 (.int .i64 1) (.bool neg) (.int .u64 0) (.int .i64 0);refine X9 (v:=.tuple #[.agg #[.int .i64 1,.bool neg,.int .u64 0,.int .i64 0],.bool true]) (by rw[U0 rfl];go_simp) rfl ?_;rw[I.out];exact⟨⟨_,_,_,_,rfl⟩,g⟩
 .have h1:(t==([105,110,102]:List UInt8))=false:=by rw[qqq];exact hinf
  by_cases hnan:s=[110,97,110]
  .have h2:(s==([110,97,110]:List UInt8))=true:=by rw[qkq];exact hnan
   have I:Hid (r=true):=hid (by rw[<-HR.out,if_neg hinf,if_pos hnan]);clear hinf hnan;go_wp2_with fail;obtain⟨V,P,T,U,g⟩:=of4 HM.out.1 HM.out.2.1 HM.out.2.2 (.int .i64 2) (.bool false) (.int .u64 0) (.int .i64 0);refine X9 (v:=.tuple #[.agg #[.int .i64 2,.bool false,.int .u64 0,.int .i64 0],.bool true]) (by rw[U0 rfl];go_simp) rfl ?_;rw[I.out];exact⟨⟨_,_,_,_,rfl⟩,g⟩
  .have h2:(s==([110,97,110]:List UInt8))=false:=by rw[qqq];exact hnan
   have i:Hid ((match t.dropWhile (fun c=>c != 112)with| []=>false|_::b=>match numb (Y5 t)with|some m=>(match numb b with|some e=>mokB m e|none=>false)|none=>false)=r):=hid (by rw[<-HR.out,if_neg hinf,if_neg hnan]);clear hinf hnan HR;have d:Hid (t=Y5 t++t.dropWhile (fun c=>c != 112)):=hid (List.takeWhile_append_dropWhile (p:=fun c:UInt8=>c != 112) (l:=t)).symm;have o:Hid (∀k (h:k<t.length),k<(Y5 t).length->t[k]≠112):=hid (fun k h J=>by
    have e:t[k]=(Y5 t)[k]:=by
     have:=d.out;rw[X0 this h,List.getElem_append_left J]
    rw[e];have B:=X3 J;unfold Y5 at B;have:=zo9 B;have h4:¬((List.takeWhile (fun c:UInt8=>c != 112) t)[k]=112):=by simpa using this
    exact h4)
   obtain⟨A,M⟩:=ex (Y5 t)
   obtain⟨R,z⟩:=ex (t.dropWhile (fun c=>c != 112))
   have F:∀c b,R=c::b->c=112:=by
    intro c b e;have:=List.head?_dropWhile_not (fun c:UInt8=>c != 112) t;rw[z,e]at this;simpa using this
   have E:=hid F;rw[M,z]at i d;rw[M]at o;have hAl:A.length<=t.length:=by have:=congrArg List.length d.out;rw[Q1]at this;omega
   clear M z F;go_wp2_with fail;go_loop [6] (fun s6=>∃k:Nat,k<=A.length/\s6=.int .i64 (k:Int)) (fun s6=>t.length-(intOf s6).toNat)
   case atStart=>exact⟨0,Nat.zero_le _,rfl⟩
   case round=>
    obtain⟨k,J,rfl⟩:=hrel;by_cases hkA:k<A.length
    .have f:k<t.length:=by omega
     have n:(k:Int)<(t.length:Int):=by omega
     have D:=o.out k f hkA;have Z:=zao t k f _ 112 112 rfl rfl D;have b2:=zar t k f _ 112 112 rfl rfl D;clear D;go_wp2;go_round
     case rel=>exact⟨k+1,by omega,by go_num⟩
     case measure=>simp[intOf];omega
    .obtain rfl:k=A.length:=by omega
     clear hkA J;cases R with
     |nil=>
      have X:Hid (A.length=t.length):=hid (by have:=congrArg List.length d.out;rw[Q6]at this;exact this.symm);have n:¬(A.length:Int)<(t.length:Int):=by have:=X.out;omega
      have Q:((A.length:Int)==(t.length:Int))=true:=by rw[qkq,X.out]
      have I:Hid (r=false):=hid (by rw[<-i.out]);go_wp2_with fail;obtain⟨V,P,T,U,g⟩:=of4 HM.out.1 HM.out.2.1 HM.out.2.2 (.int .i64 0) (.bool false) (.int .u64 0) (.int .i64 0);refine X9 (v:=.tuple #[.agg #[.int .i64 0,.bool false,.int .u64 0,.int .i64 0],.bool false]) (by rw[U0 rfl];go_simp) rfl ?_;rw[I.out];exact⟨⟨_,_,_,_,rfl⟩,g⟩
     |cons c b=>
      obtain rfl:c=112:=E.out c b rfl;have H:Hid (A.length+1+b.length=t.length):=hid (by have:=congrArg List.length d.out;rw[Q1,List.length_cons]at this;omega);have f:A.length<t.length:=by have:=H.out;omega
      have n:(A.length:Int)<(t.length:Int):=by omega
      have Q:((A.length:Int)==(t.length:Int))=false:=by rw[qqq];omega
      have O:t[A.length]=112:=by rw[X0 d.out f,List.getElem_append_right (K3 _)];simp
      have Z:=zaz t A.length f _ 112 112 rfl rfl O;have b2:=zaq t A.length f _ 112 112 rfl rfl O;have hbl:b.length<=1073741823:=by have:=H.out;omega
      have P:(⟨t.toArray⟩:ByteArray).extract 0 A.length=⟨A.toArray⟩:=by rw[zav,d.out];simp
      have T:(⟨t.toArray⟩:ByteArray).extract (A.length+1) t.length=⟨b.toArray⟩:=by rw[zav,Q9 (by simp),d.out];simp
      have u:=hid (fun W=>zlm A (by omega) W);have y:=hid (fun W=>zlm b (by omega) W);have N:=zp1 A;have L:=zp1 b;have G:Hid (((numb A).isSome && (numb b).isSome && mokB ((numb A).getD 0) ((numb b).getD 0))=r):=hid (by
       have h:=i.out;simp only at h;rw[<-h];rcases numb A with _|m<;>rcases numb b with _|e<;>first|rfl|simp)
      unfold NPost at u y;obtain⟨m,B⟩:=ex ((numb A).getD 0)
      obtain⟨x,K⟩:=ex ((numb b).getD 0)
      obtain⟨Y,q⟩:=ex ((numb A).isSome)
      obtain⟨is,C⟩:=ex ((numb b).isSome)
      rw[B,q]at u;rw[K,C]at y;rw[B,K,q,C]at G;rw[B]at N;rw[K]at L;have hA1:A.length+1<=t.length:=by omega
      have hA1I:(A.length:Int)+1<=(t.length:Int):=by omega
      clear B K q C O o E i d q0 q1 q2 q3 qf;go_upto_region 14 with fail;go_cut [7,8] (fun s7 s8 S=>s7=.int .i64 m/\s8=.bool Y/\S=wx)
      case first=>
       go_wp2_with fail;refine(u.out _).mono ?_;rintro _ w1 ⟨rfl,rfl⟩;go_wp2;go_meet;exact⟨rfl,rfl,rfl⟩
      case rest=>
      obtain⟨rfl,rfl,rfl⟩:=hcut;refine(‹∀(a:Act) (w_1:World),Code.wp prog _ _ a w_1->_›) _ _ ?_;go_upto_region 15 with fail;go_cut [9,10] (fun s9 s10 S=>s9=.int .i64 x/\s10=.bool is/\S=wc)
      case first=>
       go_wp2_with fail;refine(y.out _).mono ?_;rintro _ w1 ⟨rfl,rfl⟩;go_wp2;go_meet;exact⟨rfl,rfl,rfl⟩
      case rest=>
      obtain⟨rfl,rfl,rfl⟩:=hcut;refine(‹∀(a:Act) (w_1:World),Code.wp prog _ _ a w_1->_›) _ _ ?_;exact zys neg Y is r m x N.1 N.2 L.1 L.2 gb w _ HM G
theorem ztt (s:K1) (hl:s.length<=1073741823) (w:World):Calls prog 93 #[.string ⟨s.toArray⟩] w (OfF (fltR s) w):=by
 obtain⟨r,o⟩:=ex (fltR s)
 rw[o];have h:Hid (∀t,Gr.fT s=t->(if t=[105,110,102]then true else if s=[110,97,110]then true else match t.dropWhile (fun c=>c != 112)with| []=>false|_::b=>match numb (Y5 t)with|some m=>(match numb b with|some e=>mokB m e|none=>false)|none=>false)=r):=hid (fun t g=>by rw[<-o,<-g];rfl);clear o;by_cases h0:0<s.length
 .have n:(0:Int)<(s.length:Int):=by omega
  have l:s.head?=some s[0]:=by rw[Y0,K6 h0]
  by_cases h45:s[0]=45
  .have p:=zaz s 0 h0 _ 45 45 rfl rfl h45;have q:=zaq s 0 h0 _ 45 45 rfl rfl h45;obtain⟨t,g⟩:=ex s.tail
   have i:=hid (h.out t (by unfold Gr.fT;rw[l,h45,if_pos rfl,g]));have htl:t.length<=s.length:=by rw[<-g];simp
   have e1:(⟨s.toArray⟩:ByteArray).extract 1 s.length=⟨t.toArray⟩:=by rw[zav,Q9 (by simp),<-g,List.drop_one]
   have h1I:(1:Int)<=(s.length:Int):=by omega
   clear h l h45 g;go_enter func93,ntmps93;go_upto_region 1 with fail;obtain⟨f,d⟩:=ex (w.alloc (.cells #[.int .i64 0,.bool false,.int .u64 0,.int .i64 0] 137))
   have j:Hid (Blk f w.heap.size 137 #[.int .i64 0,.bool false,.int .u64 0,.int .i64 0]/\Below w.heap.size w f/\w.heap.size<=w.heap.size):=hid ⟨by rw[<-d];exact K5 _ _ _,by rw[<-d];exact(K8 _ _).alloc (K3 _) _,K3 _⟩;(try rw[d]);clear d;go_upto_if 20 with fail;go_cut [5] (fun s5 k=>s5=.string ⟨t.toArray⟩/\k=f)
   case first=>
    go_wp2;go_meet;exact⟨rfl,rfl⟩
   case rest=>
   obtain⟨rfl,rfl⟩:=hcut;refine(‹∀(a:Act) (w_1:World),Code.wp prog _ _ a w_1->_›) _ _ ?_;exact zww s t hl (by omega) true r _ w _ j i
  .have p:=zao s 0 h0 _ 45 45 rfl rfl h45;have q:=zar s 0 h0 _ 45 45 rfl rfl h45;have i:=hid (h.out s (by unfold Gr.fT;rw[l,if_neg (by intro e;injection e with e;exact h45 e)]));clear h l h45;go_enter func93,ntmps93;go_upto_region 1 with fail;obtain⟨f,d⟩:=ex (w.alloc (.cells #[.int .i64 0,.bool false,.int .u64 0,.int .i64 0] 137))
   have j:Hid (Blk f w.heap.size 137 #[.int .i64 0,.bool false,.int .u64 0,.int .i64 0]/\Below w.heap.size w f/\w.heap.size<=w.heap.size):=hid ⟨by rw[<-d];exact K5 _ _ _,by rw[<-d];exact(K8 _ _).alloc (K3 _) _,K3 _⟩;(try rw[d]);clear d;go_upto_if 20 with fail;go_cut [5] (fun s5 k=>s5=.string ⟨s.toArray⟩/\k=f)
   case first=>
    go_wp2;go_meet;exact⟨rfl,rfl⟩
   case rest=>
   obtain⟨rfl,rfl⟩:=hcut;refine(‹∀(a:Act) (w_1:World),Code.wp prog _ _ a w_1->_›) _ _ ?_;exact zww s s hl (by omega) false r _ w _ j i
 .have n:¬(0:Int)<(s.length:Int):=by omega
  have i:=hid (h.out s (by rw[show s=[]from List.eq_nil_of_length_eq_zero (by omega)];rfl));clear h;go_enter func93,ntmps93;go_upto_region 1 with fail;obtain⟨f,d⟩:=ex (w.alloc (.cells #[.int .i64 0,.bool false,.int .u64 0,.int .i64 0] 137))
  have j:Hid (Blk f w.heap.size 137 #[.int .i64 0,.bool false,.int .u64 0,.int .i64 0]/\Below w.heap.size w f/\w.heap.size<=w.heap.size):=hid ⟨by rw[<-d];exact K5 _ _ _,by rw[<-d];exact(K8 _ _).alloc (K3 _) _,K3 _⟩;(try rw[d]);clear d;go_upto_if 20 with fail;go_cut [5] (fun s5 k=>s5=.string ⟨s.toArray⟩/\k=f)
  case first=>
   go_wp2;go_meet;exact⟨rfl,rfl⟩
  case rest=>
  obtain⟨rfl,rfl⟩:=hcut;refine(‹∀(a:Act) (w_1:World),Code.wp prog _ _ a w_1->_›) _ _ ?_;exact zww s s hl (by omega) false r _ w _ j i
end Go.Proofs.YtpgmfihonmoliabGreatDoor
