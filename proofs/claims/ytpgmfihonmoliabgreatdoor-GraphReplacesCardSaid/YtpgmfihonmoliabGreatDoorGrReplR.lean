import Derived.Test.YtpgmfihonmoliabGreatDoorZ10
open _root_.Go.RowKit.Below renaming refl->K1,alloc->K6,setCell->Q3
open _root_.Go renaming bodyPost_ret->Q9,results_cell_tmp->Y0
open _root_.Go.Proofs.YtpgmfihonmoliabGreatDoor.Gr renaming rpl->K0,rpN->K4,joinN->Q5,dupB->Q8
open _root_.Int renaming toNat_natCast->Q0
open _root_.Go.Proofs.YtpgmfihonmoliabGreatDoor.KeptT renaming setCell->K3,refl->Q6
open _root_.List renaming length_map->K2,mem_append_right->K7,mem_append_left->K8,length_set->Q1,mem_map->Q4
open _root_.Nat renaming le_trans->K5,zero_le->K9,le_refl->Q7
open _root_.Go.Proofs.YtpgmfihonmoliabGreatDoor.TwoT renaming o12->Q2
namespace Go.Proofs.YtpgmfihonmoliabGreatDoor
open Gr
open _root_.Go.Proofs.Tryz
open _root_.Go.Lib (hid)
set_option maxRecDepth 100000
set_option maxHeartbeats 16000000
open Go.RowKit
theorem zf6 (A A2:Option Addr) (c c2 n n2:Nat) (root node rw':Int) (ck cv no:Nat) (_:n<=40) (w:World) (hg:RCkOk w (.agg #[.slice A n c,.int .i64 root]) ck) (hw:RCkOk w (.agg #[.slice A2 n2 c2,.int .i64 rw']) cv)
 (hno:(ck≠0/\no=3)\/(ck=0/\cv≠0/\no=3)\/(ck=0/\cv=0/\(node<0\/(n:Int)<=node)/\no=2)):
 Calls prog 7 #[.agg #[.slice A n c,.int .i64 root],.int .i64 node,.agg #[.slice A2 n2 c2,.int .i64 rw']] w (ResR (([],0),no) w):=by
 have p:=hid hg;have o:=hid hw;have g:=hid hno;have i:Hid (w.heap.size=w.heap.size):=hid rfl;clear hg hw hno;go_enter func7,ntmps7;go_upto_region 1 with fail;obtain⟨L,h⟩:=ex (((w.alloc (.cells #[.slice A n c,.int .i64 root] 24)).alloc (.cells #[.slice A2 n2 c2,.int .i64 rw'] 24)).alloc (.cells #[.slice none 0 0,.int .i64 0] 24))
 obtain⟨r,b⟩:=ex w.heap.size
 obtain⟨j,J,u⟩:=Box3.new b h;have a:=hid b;have G:=hid J;have q:=hid j;obtain⟨s,z⟩:=cells2 j.b1;rw[b]at i;(try rw[h]);(try rw[b]);(try rw[show r+1+1=r+2 from rfl]);clear h b j J u;go_wp2_with fail;refine(p.out L (by rw[a.out];exact G.out)).mono ?_;rintro e I ⟨rfl,k⟩;have f:=hid (q.out.later k);have F:Hid (Below r w I):=hid (G.out.trans (k.mono (by have:=q.out.lt;omega)));clear k s z p;by_cases h0:ck=0
 rotate_left
 .have y:((ck:Int) != 0)=true:=by rw[bne_iff_ne];omega
  have m:Hid (no=3):=hid (by have:=g.out;omega);obtain⟨x,D,E⟩:=f.out.zero;go_wp2_with fail;refine Q9 (v:=.tuple #[gZero,.int .i64 3]) (by rw[Y0 rfl];go_simp;rfl) rfl ?_;rw[m.out];exact zbh 3 a.out F.out
 .have y:((ck:Int) != 0)=false:=by rw[h0];rfl
  have t:=hid h0;obtain⟨s,z⟩:=cells2 f.out.b2;clear h0;go_wp2_with fail;refine(o.out I (by rw[a.out];exact F.out)).mono ?_;rintro e H ⟨rfl,l⟩;have d:=hid (f.out.later l);have B:Hid (Below r w H):=hid (F.out.trans (l.mono (by have:=f.out.lt;omega)));clear l s z o;by_cases h1:cv=0
  rotate_left
  .have C:((cv:Int) != 0)=true:=by rw[bne_iff_ne];omega
   have m:Hid (no=3):=hid (by have:=g.out;have:=t.out;omega);clear h1;obtain⟨x,D,E⟩:=d.out.zero;go_wp2_with fail;refine Q9 (v:=.tuple #[gZero,.int .i64 3]) (by rw[Y0 rfl];go_simp;rfl) rfl ?_;rw[m.out];exact zbh 3 a.out B.out
  .have C:((cv:Int) != 0)=false:=by rw[h1];rfl
   have m:Hid (no=2):=hid (by have:=g.out;have:=t.out;omega);have K:Hid (node<0\/(n:Int)<=node):=hid (by have:=g.out;have:=t.out;omega);have s:H.cell? ⟨r,0,none⟩=some (.slice A n c):=d.out.b1.cell 0;clear h1;by_cases hn1:node<0
   .skip
    obtain⟨x,D,E⟩:=d.out.zero;go_wp2_with fail;refine Q9 (v:=.tuple #[gZero,.int .i64 2]) (by rw[Y0 rfl];go_simp;rfl) rfl ?_;rw[m.out];exact zbh 2 a.out B.out
   .have hn2:(n:Int)<=node:=by have:=K.out;omega
    obtain⟨x,D,E⟩:=d.out.zero;go_wp2_with fail;refine Q9 (v:=.tuple #[gZero,.int .i64 2]) (by rw[Y0 rfl];go_simp;rfl) rfl ?_;rw[m.out];exact zbh 2 a.out B.out
theorem zoo (A A2:Option Addr) (c c2 r q k:Nat) (vs us:List NV) (gs hs:List Gr.Nd) (G:ReplG gs hs r q) (hk:k<gs.length) (w:World) (hg:RCkOk w (.agg #[.slice A gs.length c,.int .i64 (r:Int)]) 0) (hw:RCkOk w (.agg #[.slice A2 hs.length c2,.int .i64 (q:Int)]) 0) (h:GAt w w.heap.size A vs gs) (h2:GAt w w.heap.size A2 us hs):
 Calls prog 7 #[.agg #[.slice A gs.length c,.int .i64 (r:Int)],.int .i64 (k:Int),.agg #[.slice A2 hs.length c2,.int .i64 (q:Int)]] w (ResR (if mkd (inKeys gs) k=true/\Q8 hs q=true then(([],0),16)else endL (Q5 gs hs k (q+gs.length)) (K0 k (q+gs.length) r)) w):=by
 have HG:=hid G;have a5:=hid hg;have ba:=hid hw;have HA:Hid (∀W,Below w.heap.size w W->GAt W w.heap.size A vs gs/\GAt W w.heap.size A2 us hs):=hid (fun W D=>⟨h.below D,h2.below D⟩);have S:Hid (∀W,Below w.heap.size w W->Calls prog 21 #[.agg #[.slice A gs.length c,.int .i64 (r:Int)]] W fun e O=>∃ob,e=.returned (.slice (some ⟨ob,0,none⟩) gs.length gs.length)/\W.heap.size<=ob/\Below W.heap.size W O/\Blk O ob 4 (bcells (inKeys gs))):=hid (fun W D=>
  zf1 A c (r:Int) vs gs G.rf (by have:=G.gl;omega) (fun n hn=>by have:=G.ge n hn;omega) W ((h.below D).more D.size))
 have aI:Hid (∀W,Below w.heap.size w W->Calls prog 22 #[.agg #[.slice A2 hs.length c2,.int .i64 (q:Int)]] W fun e O=>e=.returned (.bool (!Q8 hs q))/\Below W.heap.size W O):=hid (fun W D=>
  zsz A2 c2 q us hs G.wf (by have:=G.hl;omega) (fun n hn=>by have:=G.he n hn;omega) W ((h2.below D).more D.size))
 have bH:Hid (k<(inKeys gs).length):=hid (by rw[zcy G.rf];exact hk);obtain⟨mk,aJ⟩:=ex (mkd (inKeys gs) k)
 obtain⟨du,bf⟩:=ex (Q8 hs q)
 have bG:=hid aJ;obtain⟨J,hJ⟩:=ex (Q5 gs hs k (q+gs.length))
 obtain⟨z,Y⟩:=ex (K0 k (q+gs.length) r)
 have an:=hid (G.join k);rw[hJ,Y]at an;obtain⟨E,hE⟩:∃E,(if mk=true/\du=true then(([],0),16)else endL J z)=E:=⟨_,rfl⟩
 have bd:=hid hE;have bm:=G.gl;have bw:=G.hl;have bO:=G.rr;have bF:=G.wf.root;have HJ:Hid (Q5 gs hs k (q+gs.length)=J/\K0 k (q+gs.length) r=z):=hid ⟨hJ,Y⟩;rw[bf]at aI;rw[aJ,bf,hJ,Y,hE];obtain⟨n,hn⟩:=ex gs.length
 obtain⟨n2,aK⟩:=ex hs.length
 rw[hn]at a5 S an HJ bm bO hk;rw[aK]at ba aI an bw bF;have HN:=hid (And.intro hn aK);rw[hn,aK];clear G hg hw h h2 aJ bf hJ Y hE hn aK ;go_enter func7,ntmps7;go_upto_region 1 with fail;obtain⟨w1,bl⟩:=ex (((w.alloc (.cells #[.slice A n c,.int .i64 (r:Int)] 24)).alloc (.cells #[.slice A2 n2 c2,.int .i64 (q:Int)] 24)).alloc (.cells #[.slice none 0 0,.int .i64 0] 24))
 obtain⟨I,L⟩:=ex w.heap.size
 obtain⟨V,l1,aL⟩:=Box3.new L bl;have P:=hid L;have L1:=hid l1;have a8:=hid V;obtain⟨q0,q1⟩:=cells2 V.b1;rw[L]at S;(try rw[bl]);(try rw[L]);(try rw[show I+1+1=I+2 from rfl]);clear bl L V l1 aL;go_wp2_with fail;refine(a5.out w1 (by rw[P.out];exact L1.out)).mono ?_;rintro e w2 ⟨rfl,Q⟩;have aN:=hid (a8.out.later Q);have L2:Hid (Below I w w2):=hid (L1.out.trans (Q.mono (by have:=a8.out.lt;omega)));clear Q q0 q1 a5;have cg:(((0:Nat):Int) != 0)=false:=rfl;obtain⟨q0,q1⟩:=cells2 aN.out.b2;go_wp2_with fail;refine(ba.out w2 (by rw[P.out];exact L2.out)).mono ?_;rintro e w3 ⟨rfl,bg⟩;have aS:=hid (aN.out.later bg);have L3:Hid (Below I w w3):=hid (L2.out.trans (bg.mono (by have:=aN.out.lt;omega)));clear bg q0 q1 ba;obtain⟨q0,q1⟩:=cells2 aS.out.b1;have cc:¬(k:Int)<0:=by omega
 have bV:¬(n:Int)<=(k:Int):=by omega
 go_upto_region 5 with fail;go_cut [42] (fun s42 wx=>s42=.bool (mk && du)/\∃wy,wy=wx/\Hid (Below I w wy/\Box3 I #[.slice A n c,.int .i64 (r:Int)] #[.slice A2 n2 c2,.int .i64 (q:Int)] #[.slice none 0 0,.int .i64 0] wy))
 case first=>
  go_wp2_with fail;refine(S.out w3 L3.out).mono ?_;rintro e w4 ⟨ob,rfl,cb,aW,bD⟩;have aF:=hid (aS.out.later aW);have L4:Hid (Below I w w4):=hid (L3.out.trans (aW.mono (by have:=aS.out.lt;omega)));have z0:w4.cell? ⟨ob,k,none⟩=some (.bool mk):=by rw[bD.cell,zae bH.out];exact congrArg (fun b=>some (Value.bool b)) bG.out
  clear q0 q1 aW bD cb;have hknI:(k:Int)<(n:Int):=by omega
  cases mk with
  |false=>
   go_wp2;go_meet;exact⟨rfl,_,rfl,hid ⟨L4.out,aF.out⟩⟩
  |true=>
   obtain⟨q0,q1⟩:=cells2 aF.out.b2;go_wp2_with fail;refine(aI.out w4 (by rw[P.out];exact L4.out)).mono ?_;rintro e w5 ⟨rfl,a3⟩;have bU:=hid (aF.out.later a3);have L5:Hid (Below I w w5):=hid (L4.out.trans (a3.mono (by have:=aF.out.lt;omega)));clear q0 q1 z0 a3;cases du<;>(go_wp2;go_meet;exact⟨rfl,_,rfl,hid ⟨L5.out,bU.out⟩⟩)
 case rest=>
  obtain⟨rfl,d,rfl,N⟩:=hcut;have ai:=hid N.out.2;have L6:=hid N.out.1;obtain⟨b,hb⟩:=ex (mk && du)
  have bi:=hid hb;rw[hb];clear N hb q0 q1 cc bV S aI aS aN a8 L1 L2 L3 bH bG cg;cases b with
  |true=>
   have HE:Hid (E=(([],0),16)):=hid (by rw[<-bd.out,if_pos (by simpa using bi.out)]);obtain⟨d0,d1,df⟩:=ai.out.zero;go_wp2_with fail;refine Q9 (v:=.tuple #[gZero,.int .i64 16]) (by rw[Y0 rfl];go_simp;rfl) rfl ?_;rw[HE.out];exact zbh 16 P.out L6.out
  |false=>
   have HE:Hid (endL J z=E):=hid (by rw[<-bd.out,if_neg (by have:=bi.out;intro h;rw[h.1,h.2]at this;cases this)]);clear bd bi;obtain⟨a,b5⟩:=ex d.heap.size
   have B:Hid (I+3<=a/\w.heap.size<=a/\d.heap.size=a):=hid (by have:=ai.out.lt;have:=P.out;omega);have aR:Hid (∀W,Below a d W->Below I w W):=hid (fun W D=>L6.out.trans (D.mono (by have:=B.out;omega)));obtain⟨T,hT⟩:=ex (hs.map (shN n))
   have aE:Hid (∀W,Below a d W->Calls prog 23 #[.slice A n c,.int .i64 0] W fun e O=>Below a d O/\a<=O.heap.size/\∃A5 c5 us5,e=.returned (.slice A5 n c5)/\Tab W.heap.size O (.slice A5 n c5) us5 gs/\Below W.heap.size W O):=hid (fun W D=>by
    have C:=zeg A c 0 vs gs (by have:=HN.out;omega) (fun x u=>by have:=HG.out.ge x u;omega) (fun x u y hy=>by have:=HG.out.rf x u y hy;have:=HN.out;omega) (by omega) W ((HA.out W (by rw[P.out];exact aR.out W D)).1.more (by have:=D.size;have:=B.out;omega));rw[HN.out.1,shN00]at C;refine C.mono ?_;rintro e O ⟨v',us5,rfl,ht,hb⟩;obtain⟨A5,c5,rfl,_⟩:=ht.at_;rw[HN.out.1]at ht ⊢;have hz:a<=W.heap.size:=by have:=D.size;have:=B.out;omega
    exact⟨D.trans (hb.mono hz),K5 hz hb.size,A5,c5,us5,rfl,ht,hb⟩)
   have bq:Hid (∀W,Below a d W->Calls prog 23 #[.slice A2 n2 c2,.int .i64 (n:Int)] W fun e O=>Below a d O/\a<=O.heap.size/\∃A6 c6 us6,e=.returned (.slice A6 us6.length c6)/\Hid (us6.length=n2)/\Tab W.heap.size O (.slice A6 us6.length c6) us6 T/\Below W.heap.size W O):=hid (fun W D=>by
    have C:=zeg A2 c2 n us hs (by have:=HN.out;omega) (fun x u=>by have:=HG.out.he x u;omega) (fun x u y hy=>by have:=HG.out.wf.refs x u y hy;have:=HN.out;omega) (by omega) W ((HA.out W (by rw[P.out];exact aR.out W D)).2.more (by have:=D.size;have:=B.out;omega));rw[HN.out.2,hT]at C;refine C.mono ?_;rintro e O ⟨v',us6,rfl,ht,hb⟩;obtain⟨A6,c6,rfl,_⟩:=ht.at_;have hl:us6.length=T.length:=ht.rows.len;rw[<-hl]at ht ⊢;have hz:a<=W.heap.size:=by have:=D.size;have:=B.out;omega
    exact⟨D.trans (hb.mono hz),K5 hz hb.size,A6,c6,us6,rfl,hid (by rw[hl,<-hT,K2];exact HN.out.2),ht,hb⟩)
   have bk:Hid (∀W,Below a d W->W.cell? ⟨I,0,none⟩=some (.slice A n c)/\W.cell? ⟨I,1,none⟩=some (.int .i64 (r:Int))/\W.cell? ⟨I+1,0,none⟩=some (.slice A2 n2 c2)):=hid (fun W D=>by
    have h:=ai.out.below D B.out.1;exact⟨h.b1.cell 0,h.b1.cell 1,h.b2.cell 0⟩)
   obtain⟨q0,q1,q2⟩:=bk.out d (K1 _ _);have b0:n<=40:=bm;have bL:=hid hT;clear hT b5;go_upto_region 8 with fail;go_cut [9] (fun s9 wx=>∃ob wy A8 c8 n8 vs8,s9=.pointer (some ⟨ob,0,none⟩)/\wy=wx/\Hid (n8=n+n2/\a<=ob/\Tab a wy (.slice A8 n8 c8) vs8 (gs++T)/\Blk wy ob 24 #[.slice A8 n8 c8,.int .i64 (r:Int)]/\Below a d wy))
   case first=>
    clear HG HA HJ an HE aR P L6 ai;have aA:a<=d.heap.size:=by have:=B.out;omega
    have bX:a<=(d.alloc (.cells #[.slice none 0 0,.int .i64 0] 24)).drew.heap.size:=by show a<=(d.alloc _).heap.size;rw[World.size_alloc];omega
    have bz:Hid (gs.length+T.length=n+n2):=hid (by rw[<-bL.out,K2,HN.out.1,HN.out.2]);go_region_held3 (fun O=>O.cell? ⟨I,0,none⟩=some (.slice A n c)/\O.cell? ⟨I,1,none⟩=some (.int .i64 (r:Int))/\O.cell? ⟨I+1,0,none⟩=some (.slice A2 n2 c2))
     (first|exact bk.out _ (by first|assumption|exact K1 _ _|exact(K1 _ _).drew|exact((K1 _ _).alloc (by assumption) _).drew|exact K6 (by assumption) (by assumption) _| (refine Q3 (Q3 ?_ ?_ _) ?_ _<;>(first|assumption|exact K6 (by assumption) (by assumption) _)))|go_keep) (first
     | (go_at_call 23;(with_reducible refine(aE.out _ ?_).mono ?_);(first|assumption|exact K1 _ _|exact(K1 _ _).drew|exact((K1 _ _).alloc (by assumption) _).drew|exact K6 (by assumption) (by assumption) _);rintro e1 l ⟨hd1,aL,A5,c5,us5,rfl,av,aB⟩;(first| (have ay:Blk l d.heap.size 24 #[.slice none 0 0,.int .i64 0]:=(by first|exact boxA aB|exact boxB aB);have p0:l.cell? ⟨d.heap.size,0,none⟩=some (.slice none 0 0):=ay.cell 0;have p1:l.cell? ⟨d.heap.size,1,none⟩=some (.int .i64 0):=ay.cell 1;have pf:∀i,l.frozen? ⟨d.heap.size,i,none⟩=false:=ay.frozen)|skip))
     | (go_at_call 23;(with_reducible refine(bq.out _ ?_).mono ?_);(first|assumption|exact K1 _ _|exact(K1 _ _).drew|exact((K1 _ _).alloc (by assumption) _).drew|exact K6 (by assumption) (by assumption) _);rintro e2 s ⟨hd2,bp,A6,c6,us6,rfl,bu,bj,Q⟩;have Z:TwoT a d s A5 n c5 us5 gs A6 c6 us6 T:=(by first|exact Q2 (W1:=d.drew) (W2:=l) av aB bj Q (K1 _ _).drew aA (K1 _ _)|exact Q2 (W1:=d.drew) (W2:=l.alloc (.cells #[.slice none 0 0,.int .i64 0] 24)) av aB bj Q (K1 _ _).drew aA ((K1 _ _).alloc (Q7 _) _)|exact Q2 (W1:=(d.alloc (.cells #[.slice none 0 0,.int .i64 0] 24)).drew) (W2:=l) av aB bj Q ((K1 _ _).alloc aA _).drew bX (K1 _ _));(first| (have aa:=ay.below Q ay.lt;have p0:s.cell? ⟨d.heap.size,0,none⟩=some (.slice none 0 0):=aa.cell 0;have p1:s.cell? ⟨d.heap.size,1,none⟩=some (.int .i64 0):=aa.cell 1;have pf:∀i,s.frozen? ⟨d.heap.size,i,none⟩=false:=aa.frozen)| (have aa:Blk s l.heap.size 24 #[.slice none 0 0,.int .i64 0]:=boxB Q;have p0:s.cell? ⟨l.heap.size,0,none⟩=some (.slice none 0 0):=aa.cell 0;have p1:s.cell? ⟨l.heap.size,1,none⟩=some (.int .i64 0):=aa.cell 1;have pf:∀i,s.frozen? ⟨l.heap.size,i,none⟩=false:=aa.frozen)|skip))
     | (refine zai _ rfl (.tmp 49) (.tmp 53) 22 37 80 rfl nodeT a (.slice A5 n c5) us5 rfl Z.t1.row _ _ c6 us6 rfl Z.arg (by have:=av.rows.len;have:=bu.out;have:=HN.out;omega) Z.hs ?_;intro v2 w2 H aD _;obtain⟨A8,c8,aC,ag,ax,a0,a6⟩:=Z.out H aD;rw[bz.out]at aC ag;subst aC;clear H aD;(first| (have o:=a6 _ _ aa;first| (have p0:w2.cell? ⟨d.heap.size,0,none⟩=some (.slice none 0 0):=o.cell 0;have p1:w2.cell? ⟨d.heap.size,1,none⟩=some (.int .i64 0):=o.cell 1;have pf:∀i,w2.frozen? ⟨d.heap.size,i,none⟩=false:=o.frozen)| (have p0:w2.cell? ⟨l.heap.size,0,none⟩=some (.slice none 0 0):=o.cell 0;have p1:w2.cell? ⟨l.heap.size,1,none⟩=some (.int .i64 0):=o.cell 1;have pf:∀i,w2.frozen? ⟨l.heap.size,i,none⟩=false:=o.frozen))|skip))
     | (refine zai _ rfl (.tmp 49) (.tmp 53) 22 37 80 rfl nodeT a (.slice A5 n c5) us5 rfl (Z.alloc _).t1.row _ _ c6 us6 rfl (Z.alloc _).arg (by have:=av.rows.len;have:=bu.out;have:=HN.out;omega) (Z.alloc _).hs ?_;intro v2 w2 H aD _;obtain⟨A8,c8,aC,ag,ax,a0,a6⟩:=(Z.alloc _).out H aD;rw[bz.out]at aC ag;subst aC;clear H aD;(have o:Blk w2 s.heap.size 24 #[.slice none 0 0,.int .i64 0]:=a6 _ _ (Blk.new s _ _);have p0:w2.cell? ⟨s.heap.size,0,none⟩=some (.slice none 0 0):=o.cell 0;have p1:w2.cell? ⟨s.heap.size,1,none⟩=some (.int .i64 0):=o.cell 1;have pf:∀i,w2.frozen? ⟨s.heap.size,i,none⟩=false:=o.frozen)))
    all_goals
     go_wp2;go_meet
     first
     |exact⟨_,_,A8,c8,n+n2,us5++us6,rfl,rfl,hid ⟨rfl,bp,zh8 ag ax o bp⟩⟩
     |exact⟨_,_,A8,c8,n+n2,us5++us6,rfl,rfl,hid ⟨rfl,aL,zh8 ag ax o aL⟩⟩
     |exact⟨_,_,A8,c8,n+n2,us5++us6,rfl,rfl,hid ⟨rfl,aA,zh8 ag ax o aA⟩⟩
     |exact⟨_,_,A8,c8,n+n2,us5++us6,rfl,rfl,hid ⟨rfl,a0,ag.later ((K1 _ _).alloc (Q7 _) _),Blk.new w2 _ _,ax.alloc a0 _⟩⟩
   case rest=>
    obtain⟨ob,w7,A8,c8,n8,vs8,rfl,rfl,N⟩:=hcut;clear q0 q1 q2 bk aE bq;have bT:Hid (Box3 I #[.slice A n c,.int .i64 (r:Int)] #[.slice A2 n2 c2,.int .i64 (q:Int)] #[.slice none 0 0,.int .i64 0] d):=ai;have bB:(n:Int)+(q:Int)=((q+n:Nat):Int):=by omega
    obtain⟨t,ht⟩:=ex (q+n)
    rw[ht]at bB;have bC:t<=80:=by omega
    have bc:Hid (gs.length=n/\gs.length+T.length=n8):=hid ⟨HN.out.1,by
     have C:=N.out.2.2.1.at_;obtain⟨_,_,hv,_⟩:=C;injection hv with _ e _
     rw[e,List.length_append]⟩
    have aX:Hid (midN (K4 k t) gs T n=J/\K0 k t r=z):=hid (by
     have C:=zjz gs hs k t;rw[HN.out.1,bL.out]at C;have h2:=HJ.out;rw[ht]at h2;exact⟨C.trans h2.1,h2.2⟩)
    have L7:=hid N.out.2.2.2.2;have bK:Hid (Box3 I #[.slice A n c,.int .i64 (r:Int)] #[.slice A2 n2 c2,.int .i64 (q:Int)] #[.slice none 0 0,.int .i64 0] w7):=hid (ai.out.below L7.out B.out.1);have bQ:Hid (a<=ob):=hid N.out.2.1;have q2:w7.cell? ⟨I+1,1,none⟩=some (.int .i64 (q:Int)):=bK.out.b2.cell 1;have q3:w7.cell? ⟨ob,1,none⟩=some (.int .i64 (r:Int)):=N.out.2.2.2.1.cell 1;have qf:∀i,w7.frozen? ⟨ob,i,none⟩=false:=N.out.2.2.2.1.frozen;have Y:=aX.out.2;clear ht ai;have bt:(((r:Int)==(k:Int))=true/\t=z)\/(((r:Int)==(k:Int))=false/\r=z):=by
     by_cases hrk:r=k
     .exact .inl ⟨by rw[qkq];omega,by rw[<-Y];exact(if_pos hrk).symm⟩
     .exact .inr ⟨by rw[qqq];omega,by rw[<-Y];exact(if_neg hrk).symm⟩
    have bn:=hid bt;clear Y bt;rcases bn.out with⟨aq,hrk⟩|⟨aq,hrk⟩
    case' inl=>
     have aH:=hid hrk;clear hrk bn;go_upto_region 13 with fail;obtain⟨F,al⟩:=ex (w7.setCell ⟨ob,1,none⟩ (.int .i64 (t:Int)))
     have a2:Hid (RRel a F F A8 n8 c8 vs8 (midN (K4 k t) gs T 0) ob z):=hid (by
      rw[<-al,<-aH.out];exact⟨by unfold midN;simpa using(⟨N.out.2.2.1.row.kept (K3 (p:=⟨ob,1,none⟩) N.out.2.2.2.1 (by decide) _),N.out.2.2.1.rows.kept (K3 (p:=⟨ob,1,none⟩) N.out.2.2.2.1 (by decide) _)⟩:Tab a (w7.setCell ⟨ob,1,none⟩ (.int .i64 (t:Int))) (.slice A8 n8 c8) vs8 (gs++T)),K1 _ _,N.out.2.2.2.1.set_ 1 _⟩)
     have L9:Hid (Below a d F/\a<=F.heap.size):=hid (by
      rw[<-al];exact⟨L7.out.setCell (p:=⟨ob,1,none⟩) bQ.out _,by have:=L7.out.size;have:=B.out;simp[World.setCell];omega⟩)
     (try rw[al]);clear al
    case' inr=>
     have aH:=hid hrk;clear hrk bn;go_upto_region 13 with fail;obtain⟨F,al⟩:∃F,F=w7:=⟨_,rfl⟩
     subst al;have a2:Hid (RRel a F F A8 n8 c8 vs8 (midN (K4 k t) gs T 0) ob z):=hid (by
      rw[<-aH.out];exact⟨by unfold midN;simpa using N.out.2.2.1,K1 _ _,N.out.2.2.2.1⟩)
     have L9:Hid (Below a d F/\a<=F.heap.size):=hid ⟨L7.out,by have:=L7.out.size;have:=B.out;omega⟩
    all_goals
     clear q2 q3 qf aq aH N bK L7;go_loopw [11] (fun s11 wr=>∃i:Nat,i<=n/\s11=.int .i64 i/\Hid (RRel a F wr A8 n8 c8 vs8 (midN (K4 k t) gs T i) ob z)) (fun s11 _=>n-(intOf s11).toNat)
     case atStart=>exact⟨0,K9 _,rfl,a2⟩
     case round=>
      obtain⟨i,hi,rfl,HV⟩:=hrel;obtain⟨wq,bW⟩:∃wq,wq=wr:=⟨_,rfl⟩
      subst bW;clear a2;by_cases hlt:i<n
      .have aV:(i:Int)<(n:Int):=by omega
       have aO:i<gs.length:=by rw[bc.out.1];exact hlt
       have aQ:=zmd (K4 k t) gs T i aO;have ak:=zmc (K4 k t) gs T i aO;have aw:=zh4 (K4 k t) gs T i;have aM:=HG.out.ge _ (List.getElem_mem aO);obtain⟨m,hm⟩:=ex (gs[i])
       rw[hm]at aQ ak aM;obtain⟨M,hM⟩:=ex (midN (K4 k t) gs T i)
       simp only[hM]at aQ ak aw;rw[hM]at HV;have aG:i<M.length:=by rw[aw];omega
       have ce:Hid (M.set i (stN (K0 k t) m 2)=midN (K4 k t) gs T (i+1)):=hid aQ;have aJ:m.keys.length<=1000:=aM.1;have hmi:m.items.length<=1000:=aM.2.1;have ap:=hid aG;have hni:i<n8:=by have:=bc.out;omega
       have hniI:(i:Int)<(n8:Int):=by omega
       obtain⟨ad,ca,bx,_,_⟩:=HV.out.1.nodeV aG;obtain rfl:A8=some ad:=by injection bx
       have bM:Hid (RRel a F wq (some ad) n8 c8 vs8 (M.set i (stN (K0 k t) m 0)) ob z):=hid (by
        rw[show M.set i (stN (K0 k t) m 0)=M from by rw[zzw,<-ak];exact List.set_getElem_self aG];exact HV.out)
       clear aQ ak aw aM hm hM aG bx aO HV;have bP:Hid (RRel a F wq (some ad) n8 c8 vs8 (M.set i (setI (stN (K0 k t) m 0) false (prL (K0 k t) m.keys 0))) ob z):=hid (by rw[show setI (stN (K0 k t) m 0) false (prL (K0 k t) m.keys 0)=stN (K0 k t) m 0 from zf3 _ _ 0 (by omega)];exact bM.out);have aU:Hid (setI (stN (K0 k t) m 0) false (prL (K0 k t) m.keys m.keys.length)=stN (K0 k t) m 1):=hid (zh5 _ _ 0 (by omega));go_upto_region 16 with fail;go_loopw [12] (fun s12 wr=>∃j:Nat,j<=m.keys.length/\s12=.int .i64 j/\Hid (RRel a F wr (some ad) n8 c8 vs8 (M.set i (setI (stN (K0 k t) m 0) false (prL (K0 k t) m.keys j))) ob z)) (fun s12 _=>m.keys.length-(intOf s12).toNat)
       case atStart=>exact⟨0,K9 _,rfl,bP⟩
       case round=>
        obtain⟨j,hj,rfl,U⟩:=hrel;obtain⟨wz,bo⟩:∃wz,wz=wr:=⟨_,rfl⟩
        subst bo;clear bP;have z0:wz.cell? ⟨ob,0,none⟩=some (.slice (some ad) n8 c8):=U.out.2.2.cell 0;have X:i<(M.set i (setI (stN (K0 k t) m 0) false (prL (K0 k t) m.keys j))).length:=by rw[Q1];exact ap.out
        obtain⟨xa,xc,u⟩:=SV.is U.out.1 i false;rw[zef M i false _ _ ap.out,zh2]at u;have x3:=(U.out.1.nodeA X).1;rw[u]at x3;have N:=hid u;clear u X;by_cases hjl:j<m.keys.length
        .have aj:(j:Int)<(m.keys.length:Int):=by omega
         obtain⟨g,gc,ah,ar,y0,yf,⟨bZ,L⟩,R⟩:=Tab.ren ap.out U.out.1 hjl;obtain rfl:xa=some ⟨g,0,none⟩:=by rw[N.out]at ah;injection ah
         obtain⟨x,u⟩:=ex (m.keys[j])
         have f:=zh3 (K0 k t) m.keys j hjl;rw[u]at y0 R f;have ac:Hid (x=k->RRel a F (wz.setCell ⟨g,j,none⟩ (.int .i64 (t:Int))) (some ad) n8 c8 vs8 (M.set i (setI (stN (K0 k t) m 0) false (prL (K0 k t) m.keys (j+1)))) ob z):=hid (fun h=>by
          rw[show K0 k t x=t from if_pos h]at R;exact⟨R,U.out.2.1.setCell (p:=⟨g,j,none⟩) ar _,K3 (p:=⟨g,j,none⟩) L (by decide) _ _ _ U.out.2.2⟩)
         have ab:Hid (x≠k->RRel a F wz (some ad) n8 c8 vs8 (M.set i (setI (stN (K0 k t) m 0) false (prL (K0 k t) m.keys (j+1)))) ob z):=hid (fun h=>by
          rw[<-f (if_neg h)];exact U.out)
         clear ah ar L R f u;by_cases hxk:x=k
         .subst hxk;have aq:((x:Int)==(x:Int))=true:=beq_self_eq_true _;have af:=hid (ac.out rfl);clear ac ab;go_wp2;go_roundw
          case rel=>exact⟨j+1,by omega,by go_num,af⟩
          case measure=>simp[intOf];omega
         .have aq:((x:Int)==(k:Int))=false:=by rw[qqq];omega
          have af:=hid (ab.out hxk);clear ac ab hxk;go_wp2;go_roundw
          case rel=>exact⟨j+1,by omega,by go_num,af⟩
          case measure=>simp[intOf];omega
        .have aj:¬(j:Int)<(m.keys.length:Int):=by omega
         have cf:Hid (RRel a F wz (some ad) n8 c8 vs8 (M.set i (stN (K0 k t) m 1)) ob z):=hid (by
          have C:=U.out;rw[show j=m.keys.length by omega,aU.out]at C;exact C)
         go_upto_region 21 with fail;clear U N x3 z0 aj hj aU bM;have aE:Hid (RRel a F wz (some ad) n8 c8 vs8 (M.set i (setI (stN (K0 k t) m 1) true (prL (K0 k t) m.items 0))) ob z):=hid (by rw[show setI (stN (K0 k t) m 1) true (prL (K0 k t) m.items 0)=stN (K0 k t) m 1 from zf3 _ _ 1 (by omega)];exact cf.out);have bv:Hid (setI (stN (K0 k t) m 1) true (prL (K0 k t) m.items m.items.length)=stN (K0 k t) m 2):=hid (zh5 _ _ 1 (by omega));go_loopw [13] (fun s13 wr=>∃j:Nat,j<=m.items.length/\s13=.int .i64 j/\Hid (RRel a F wr (some ad) n8 c8 vs8 (M.set i (setI (stN (K0 k t) m 1) true (prL (K0 k t) m.items j))) ob z)) (fun s13 _=>m.items.length-(intOf s13).toNat)
         case atStart=>exact⟨0,K9 _,rfl,aE⟩
         case round=>
          obtain⟨j,hj,rfl,U⟩:=hrel;obtain⟨wv,bo⟩:∃wv,wv=wr:=⟨_,rfl⟩
          subst bo;clear aE;have z0:wv.cell? ⟨ob,0,none⟩=some (.slice (some ad) n8 c8):=U.out.2.2.cell 0;have X:i<(M.set i (setI (stN (K0 k t) m 1) true (prL (K0 k t) m.items j))).length:=by rw[Q1];exact ap.out
          obtain⟨xa,xc,u⟩:=SV.is U.out.1 i true;rw[zef M i true _ _ ap.out,zh2]at u;have x3:=(U.out.1.nodeA X).2;rw[u]at x3;have N:=hid u;clear u X;by_cases hjl:j<m.items.length
          .have aj:(j:Int)<(m.items.length:Int):=by omega
           obtain⟨g,gc,ah,ar,y0,yf,⟨bZ,L⟩,R⟩:=Tab.ren ap.out U.out.1 hjl;obtain rfl:xa=some ⟨g,0,none⟩:=by rw[N.out]at ah;injection ah
           obtain⟨x,u⟩:=ex (m.items[j])
           have f:=zh3 (K0 k t) m.items j hjl;rw[u]at y0 R f;have ac:Hid (x=k->RRel a F (wv.setCell ⟨g,j,none⟩ (.int .i64 (t:Int))) (some ad) n8 c8 vs8 (M.set i (setI (stN (K0 k t) m 1) true (prL (K0 k t) m.items (j+1)))) ob z):=hid (fun h=>by
            rw[show K0 k t x=t from if_pos h]at R;exact⟨R,U.out.2.1.setCell (p:=⟨g,j,none⟩) ar _,K3 (p:=⟨g,j,none⟩) L (by decide) _ _ _ U.out.2.2⟩)
           have ab:Hid (x≠k->RRel a F wv (some ad) n8 c8 vs8 (M.set i (setI (stN (K0 k t) m 1) true (prL (K0 k t) m.items (j+1)))) ob z):=hid (fun h=>by
            rw[<-f (if_neg h)];exact U.out)
           clear ah ar L R f u;by_cases hxk:x=k
           .subst hxk;have aq:((x:Int)==(x:Int))=true:=beq_self_eq_true _;have af:=hid (ac.out rfl);clear ac ab;go_wp2;go_roundw
            case rel=>exact⟨j+1,by omega,by go_num,af⟩
            case measure=>simp[intOf];omega
           .have aq:((x:Int)==(k:Int))=false:=by rw[qqq];omega
            have af:=hid (ab.out hxk);clear ac ab hxk;go_wp2;go_roundw
            case rel=>exact⟨j+1,by omega,by go_num,af⟩
            case measure=>simp[intOf];omega
          .have aj:¬(j:Int)<(m.items.length:Int):=by omega
           have b7:Hid (RRel a F wv (some ad) n8 c8 vs8 (M.set i (stN (K0 k t) m 2)) ob z):=hid (by
            have C:=U.out;rw[show j=m.items.length by omega,bv.out]at C;exact C)
           have bY:Hid (RRel a F wv (some ad) n8 c8 vs8 (midN (K4 k t) gs T (i+1)) ob z):=hid (by
            have C:=b7.out;rw[ce.out]at C;exact C)
           go_wp2;go_roundw
           case rel=>exact⟨i+1,by omega,by go_num,bY⟩
           case measure=>simp[intOf];omega
      .have aV:¬(i:Int)<(n:Int):=by omega
       have ao:Hid (Tab a wq (.slice A8 n8 c8) vs8 J/\Below a d wq/\a<=wq.heap.size):=hid (by
        have C:=HV.out;rw[show i=n by omega,aX.out.1]at C;exact⟨C.1,L9.out.1.trans C.2.1,K5 L9.out.2 C.2.1.size⟩)
       obtain⟨z0,z1⟩:=cells2 HV.out.2.2;have b9:Hid (∀W,Below a d W->Blk W (I+2) 24 #[.slice none 0 0,.int .i64 0]):=hid (fun W D=>bT.out.b3.below D (by have:=B.out;omega));obtain⟨A9,c9,a4,b4,bR⟩:=ao.out.1.row.form';obtain⟨A7,c7,aZ,bI⟩:=ao.out.1.at_;obtain⟨be,a7,hjl,bh⟩:=an.out;obtain⟨f1,f2,f3,f4⟩:=zee be a7 bh;have bA:vs8.length=J.length:=ao.out.1.rows.len;rw[bA]at a4 bR;have a1:=zs1 A7 c7 z vs8 J be (by rw[hjl];omega) (fun x u=>by have:=bh x u;omega) a7 (by injection a4 with _ _ e;injection aZ with _ _ e2;omega) wq bI;obtain⟨jl,aT⟩:=ex J.length
       rw[aT]at a1 aZ f3 hjl;injection aZ with e1 e2 e3
       subst e1 e2 e3;have bS:=hid a1;obtain⟨K,hK⟩:=ex (Gr.keptN J (marks J z))
       obtain⟨ra,bb⟩:=ex ((Gr.atL (marks J z)).getD z 0)
       have ae:=hid (And.intro hK bb);rw[hK]at f1 f2 f3 f4;rw[bb]at f2;have HF:Hid (Refs K/\ra<K.length/\K.length<=1000/\∀n∈K,n.keys.length<=1000/\n.items.length<=1000/\n.text.length<=1000):=hid ⟨f1,f2,by omega,f4⟩;clear bI be a7 bh a1 f1 f2 f3 f4 hK bb aT HV hjl a4 b4 bR bA;clear an HG HA HN bc aX L9 bQ;go_wp2_with fail;refine bS.out.mono ?_;rintro e am ⟨au,A5,c5,bN,rfl,hK⟩;have b8:=hid hK;have aP:Hid (Below a d am/\a<=am.heap.size):=hid ⟨ao.out.2.1.trans (au.mono ao.out.2.2),K5 ao.out.2.2 au.size⟩;have aY:=z0e HF.out.1 HF.out.2.1 HF.out.2.2.1 HF.out.2.2.2 A5 c5 bN am (by
        have:=hK am (Q6 _ _) (Q6 _ _);rwa[ae.out.1]at this)
       rw[ae.out.1,ae.out.2];obtain⟨cz,a9⟩:=ex (checkG sclX K ra)
       rw[a9]at aY;have cd:=hid a9;have bE:=hid (zsy (zs2 A5 K.length c5 ra cz am aY));clear hK aY a9 au bS z0 z1;go_wp2_with fail;refine bE.out.mono ?_;rintro e bs ⟨az,A4,n4,c4,r4,rfl,b6⟩;have bJ:=hid az;have V:=b9.out bs (aP.out.1.trans (az.mono aP.out.2));have br:=hid V;obtain⟨d0,d1⟩:=cells2 V;have df:∀i,bs.frozen? ⟨I+2,i,none⟩=false:=V.frozen;clear az bE V bB bC b0 aV hlt hi hk bO bm bF bw;go_wp2_with fail;refine Q9 (v:=.tuple #[.agg #[.slice A4 n4 c4,.int .i64 r4],.int .i64 cz]) (by rw[Y0 rfl];go_simp) rfl ?_;rw[<-HE.out];refine zmf (vs2:=bN) (A2:=A5) (c2:=c5) b8.out (by rw[ae.out.1,ae.out.2];exact cd.out) (by rw[ae.out.1,ae.out.2];exact b6.out) ?_ (fun t ht=>?_)
       .rw[P.out];exact(((aR.out am aP.out.1).trans (bJ.out.mono (by have:=aP.out.2;have:=B.out;omega))).setCell (by simp) _).setCell (by simp) _
       .exact(KeptT.later bJ.out).trans ((K3 (p:=⟨I+2,0,none⟩) br.out ht _).trans (K3 (p:=⟨I+2,1,none⟩) (br.out.set_ 0 _) ht _))
theorem zs3 (A A2:Option Addr) (c c2:Nat) (root node rw':Int) (vs us:List NV) (is ws:List Gr.Ni) (hl:is.length<=40/\ws.length<=40) (hks:∀x∈is++ws,x.text.length<=1000/\x.keys.length<=1000/\x.items.length<=1000) (w:World) (h:IAt w w.heap.size A vs is) (h2:IAt w w.heap.size A2 us ws):
 Calls prog 7 #[.agg #[.slice A is.length c,.int .i64 root],.int .i64 node,.agg #[.slice A2 ws.length c2,.int .i64 rw']] w (ResR (replL is root node ws rw') w):=by
 have a:RCkOk w (.agg #[.slice A is.length c,.int .i64 root]) (checkI sclX is root):=zzx A c root vs is (by omega) (fun y i=>by have:=hks y (K8 _ i);omega) w h;have b:RCkOk w (.agg #[.slice A2 ws.length c2,.int .i64 rw']) (checkI sclX ws rw'):=zzx A2 c2 rw' us ws (by omega) (fun y i=>by have:=hks y (K7 _ i);omega) w h2;by_cases h0:checkI sclX is root=0
 .by_cases h1:checkI sclX ws rw'=0
  .by_cases hn:node<0\/(is.length:Int)<=node
   .rw[zk3 h0 h1 hn];exact zf6 A A2 c c2 is.length ws.length root node rw' _ _ 2 hl.1 w a b (Or.inr (Or.inr ⟨h0,h1,hn,rfl⟩))
   .obtain⟨k,rfl⟩:∃k:Nat,node=(k:Int):=⟨node.toNat,by omega⟩
    rw[zh0 h0 h1 (by omega)];rw[h0]at a;rw[h1]at b;obtain⟨r,rfl,e,g,_⟩:=Gr.za5 zaw h0;obtain⟨q,rfl,f,d,_⟩:=Gr.za5 zaw h1;have m:(is.map Gr.Ni.nd).length=is.length:=K2 ..;have o:(ws.map Gr.Ni.nd).length=ws.length:=K2 ..;have l:=zoo A A2 c c2 r q k vs us (is.map Gr.Ni.nd) (ws.map Gr.Ni.nd) ⟨e.refs,e.root,f,by omega,by omega,fun n hn=>by
     obtain⟨x,j,rfl⟩:=Q4.1 hn;have:=hks x (K8 _ j);simp only[Gr.Ni.nd,K2];omega,fun n hn=>by
     obtain⟨x,j,rfl⟩:=Q4.1 hn;have:=hks x (K7 _ j);simp only[Gr.Ni.nd,K2];omega⟩ (by omega) w (by rw[m];exact a) (by rw[o];exact b) (h.toG (za1 g).1) (h2.toG (za1 d).1)
    rw[m,o]at l;rw[Q0,Q0];exact l
  .rw[zed (Or.inr h1)];exact zf6 A A2 c c2 is.length ws.length root node rw' _ _ 3 hl.1 w a b (Or.inr (Or.inl ⟨h0,h1,rfl⟩))
 .rw[zed (Or.inl h0)];exact zf6 A A2 c c2 is.length ws.length root node rw' _ _ 3 hl.1 w a b (Or.inl ⟨h0,rfl⟩)
end Go.Proofs.YtpgmfihonmoliabGreatDoor
