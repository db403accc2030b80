import Derived.Test.YtpgmfihonmoliabGreatDoorZ09
open _root_.Go.RowKit.Below renaming refl->K1,drew->U5
open _root_.Go.Proofs.YtpgmfihonmoliabGreatDoor.Blk renaming new->Q3
open _root_.Bool renaming false_ne_true->X7
open _root_.Go.Proofs.YtpgmfihonmoliabGreatDoor.Gr renaming atL->K3,keptT->Q7,Nd->Q8,keptN->Y5,zcd->Y8
open _root_.Go.IntWalk renaming i64_in->X9
open _root_.Go.Proofs.YtpgmfihonmoliabGreatDoor.KeptT renaming setCell->Q5,grown->X4,alloc->U3
open _root_.List renaming replicate->K0,getElem?_eq_getElem->K4,take_succ_eq_append_getElem->K5,take_of_length_le->K6,getD_eq_getElem?_getD->K7,getElem_mem->K8,length_take->Q0,length_map->Q1,append_nil->Q6,mem_append_right->Q9,mem_append_left->Y0,count_le_length->Y1,replicate_zero->Y3,map_append->Y7,getElem_append_right->Y9,getElem?_append_left->X0,drop_eq_nil_of_le->X2,getElem?_toArray->X3,mem_singleton->X6,count_append->X8
open _root_.Nat renaming le_refl->K2,le_trans->Q4,le_succ->Y6,min_eq_left->U1,le_of_lt->U4
open _root_.Option renaming getD_some->X5
open _root_.Go.Proofs.YtpgmfihonmoliabGreatDoor.OwnRow renaming nil->Y2
open _root_.Go.Proofs.YtpgmfihonmoliabGreatDoor.RowAt renaming lit1->Y4
open _root_.Go.Proofs.YtpgmfihonmoliabGreatDoor.Rows renaming nil->U0
open _root_.Go.Proofs.YtpgmfihonmoliabGreatDoor.SV renaming nil->X1,row->U2
open _root_.Go.World renaming size_alloc->K9,block_lt_of_cell?->Q2
namespace Go.Proofs.YtpgmfihonmoliabGreatDoor
open Gr
open _root_.Go.Proofs.Tryz
open _root_.Go.Lib (hid)
set_option maxRecDepth 100000
set_option maxHeartbeats 16000000
open Go.RowKit
theorem zh6 (L:List Nat) (n i:Nat) (hL:L.length=n) (h:i<n):(L.take i++K0 (n-i) 0).set i (L.getD i 0)=L.take (i+1)++K0 (n-(i+1)) 0:=by
 have e:(L.take i).length=i:=by simp;omega
 obtain⟨k,a⟩:∃k,n-i=k+1:=⟨n-i-1,by omega⟩
 rw[a,List.replicate_succ,List.set_append_right _ _ (by rw[e];exact K2 _),e,Nat.sub_self,List.set_cons_zero,K5 (by omega),show n-(i+1)=k by omega,K7,K4 (by omega),X5,List.append_assoc];rfl
theorem zh7 (L:List Nat) (n i:Nat) (hL:L.length=n) (h:i<n):i<(L.take i++K0 (n-i) 0).length:=by simp;omega
theorem zsx (A:Option Addr) (c:Nat) (l:List Nat) (hl:l.length<=1073741823) (bb ab n:Nat) (M:List Nat) (hM:M.length=n) (hMx:∀x,M.getD x 0<=1073741823) (hx:∀x∈l,x<n) (w:World) (B:Nat) (hB:B<=w.heap.size) (h:RowAt intL w B A l) (hbb:Blk w bb 35 #[.slice (some ⟨ab,0,none⟩) n n]) (hab:Blk w ab 3 (icells M)):
 Calls prog 35 #[.slice A l.length c,.pointer (some ⟨bb,0,none⟩)] w fun e w'=>e=.returned (.slice (some ⟨w.heap.size,0,none⟩) l.length l.length)/\Below w.heap.size w w'/\Blk w' w.heap.size 3 (icells (l.map (fun x=>M.getD x 0))):=by
 have u:=fun W=>za7 l.length (by omega) W
 have N:=hid (And.intro hx hM);have j:Hid (∀W,Below w.heap.size w W->RowAt intL W B A l/\Blk W bb 35 #[.slice (some ⟨ab,0,none⟩) n n]/\Blk W ab 3 (icells M)):=hid (fun W E=>⟨h.below (E.mono hB),hbb.below E hbb.lt,hab.below E hab.lt⟩);have HMX:=hid hMx;clear h hbb hab hx hM hMx;go_enter func35,ntmps35;go_upto_region 3 with fail;obtain⟨s,a⟩:=ex (w.alloc (.cells (icells (K0 l.length 0)) 3))
 obtain⟨g,f⟩:=ex w.heap.size
 have J:Below g w s:=by rw[<-a,<-f];exact(K1 _ _).alloc (K2 _) _
 have F:Blk s g 3 (icells (K0 l.length 0)):=by rw[<-a,<-f];exact Q3 _ _ _
 have o:Hid (Below g w s/\Blk s g 3 (icells (K0 l.length 0))):=hid ⟨J,F⟩;rw[f]at j;have P:=hid f;(try rw[a]);(try rw[f]);clear a f J F u;go_loopw [12] (fun s12 wr=>∃i:Nat,i<=l.length/\s12=.int .i64 i/\Hid (Below g w wr/\Blk wr g 3 (icells ((l.map (fun x=>M.getD x 0)).take i++K0 (l.length-i) 0)))) (fun s12 _=>l.length-(intOf s12).toNat)
 case atStart=>exact⟨0,by omega,rfl,hid ⟨o.out.1,by simpa using o.out.2⟩⟩
 case round=>
  obtain⟨i,hi,rfl,d⟩:=hrel;obtain⟨b,C⟩:∃b,b=wr:=⟨_,rfl⟩
  subst C;by_cases hlt:i<l.length
  .have k:(i:Int)<(l.length:Int):=by omega
   obtain⟨G,O,H⟩:=j.out b d.out.1;obtain⟨ad,rfl,_,Q⟩:=zaf G hlt;obtain⟨y,r⟩:=ex (l[i])
   have z:y<n:=by rw[<-r];exact N.out.1 _ (K8 hlt)
   have hynI:(y:Int)<(n:Int):=by omega
   rw[r]at Q;obtain⟨v,D⟩:=ex (M.getD y 0)
   have z0:b.cell? ⟨bb,0,none⟩=some (.slice (some ⟨ab,0,none⟩) n n):=O.cell 0;have z1:b.cell? ⟨ab,y,none⟩=some (.int .i64 (v:Int)):=by rw[H.cell,zaa (by rw[N.out.2];exact z),D]
   obtain⟨L,q⟩:=ex ((l.map (fun x=>M.getD x 0)).take i++K0 (l.length-i) 0)
   have t:Hid (L.set i v=(l.map (fun x=>M.getD x 0)).take (i+1)++K0 (l.length-(i+1)) 0):=hid (by
    rw[<-q,<-zh6 _ l.length i (by simp) hlt,K7,List.getElem?_map,K4 hlt,r,Option.map_some,X5,D])
   have m:i<L.length:=by rw[<-q];exact zh7 _ _ _ (by simp) hlt
   rw[q]at d;have q0:b.cell? ⟨g,i,none⟩=some (.int .i64 ((L.getD i 0:Nat):Int)):=by rw[d.out.2.cell,zaa m]
   have qf:∀i,b.frozen? ⟨g,i,none⟩=false:=d.out.2.frozen;clear G O H r D q m;go_wp2;go_roundw
   case rel=>exact⟨i+1,by omega,by go_num,hid ⟨d.out.1.setCell (p:=⟨g,i,none⟩) (K2 _) _,by rw[<-t.out,<-zam];exact d.out.2.set_ i _⟩⟩
   case measure=>simp[intOf];omega
  .have k:¬(i:Int)<(l.length:Int):=by omega
   have I:Hid (Below g w b/\Blk b g 3 (icells (l.map (fun x=>M.getD x 0)))):=hid (by
    have K:=d.out;rw[K6 (by rw[Q1];omega),show l.length-i=0 by omega,Y3,Q6]at K;exact K)
   go_wp2;go_ret;rw[P.out];exact⟨rfl,I.out.1,I.out.2⟩
structure KBx (w wx:World) (nb:Nat) (n:Q8) (kl il:List Nat) (g1 g2:Nat):Prop where
 box:Blk wx nb 37 #[.int .i64 n.kind,.string ⟨n.text.toArray⟩,.bool n.ord,.slice (some ⟨g1,0,none⟩) n.keys.length n.keys.length,.slice (some ⟨g2,0,none⟩) n.items.length n.items.length]
 b1:Blk wx g1 3 (icells kl)
 b2:Blk wx g2 3 (icells il)
 lo1:w.heap.size<=g1
 lo2:w.heap.size<=g2
 ne_:g1≠g2
 below:Below w.heap.size w wx
structure KKM (w0 wr:World) (ob:Nat) (ra:Nat) (v:Value) (vs:List NV) (ms:List Q8):Prop where
 below:Below ob w0 wr
 box:Blk wr ob 24 #[v,.int .i64 (ra:Nat)]
 tab:Tab (ob+1) wr v vs ms
 hd:ob+1<=wr.heap.size
theorem KKM.later {w0 wr w2:World} {ob ra:Nat} {v:Value} {vs:List NV} {ms:List Q8} (H:KKM w0 wr ob ra v vs ms) (hb:Below wr.heap.size wr w2):KKM w0 w2 ob ra v vs ms:=
 ⟨H.below.trans (hb.mono (by have:=H.hd;omega)),H.box.below hb H.box.lt,H.tab.later hb,Q4 H.hd hb.size⟩
def zme (ns:List Q8) (root:Nat) (w:World) (e:Ending) (w':World):Prop:=
 Below w.heap.size w w'/\∃A2 c2 vs2,e=.returned (.agg #[.slice A2 (Y5 ns (marks ns root)).length c2,.int .i64 ((K3 (marks ns root)).getD root 0:Nat)])/\∀W',KeptT 37 w' W'->KeptT 3 w' W'->GAt W' W'.heap.size A2 vs2 (Y5 ns (marks ns root))
theorem zvg (A:Option Addr) (c root:Nat) (vs:List NV) (ns:List Q8) (hr:Refs ns) (hl:ns.length<=1000) (hks:∀n∈ns,n.keys.length<=1000/\n.items.length<=1000) (hroot:root<ns.length) (w:World) (h:GAt w w.heap.size A vs ns):
 Calls prog 19 #[.agg #[.slice A ns.length c,.int .i64 root]] w (zme ns root w):=by
 have bq:=fun W=>zbq ns.length (by omega) W
 have bA:=fun W=>za7 ns.length (by omega) W
 have r:=hid (zau hr hroot);have a1:=hid hr;have HG:Hid (∀W,Below w.heap.size w W->GAt W w.heap.size A vs ns):=hid (fun W J=>h.below J);have am:Hid (∀(mb:Nat) (W:World),Below w.heap.size w W->w.heap.size<=mb->Blk W mb 4 (bcells (K0 ns.length false))->Calls prog 30 #[.agg #[.slice A ns.length c,.int .i64 (root:Nat)],.int .i64 (root:Nat),.slice (some ⟨mb,0,none⟩) ns.length ns.length] W fun e w'=>e=.returned (.tuple #[])/\zbc W w' (fun k=>k=mb)/\Blk w' mb 4 (bcells (marks ns root))):=hid (fun mb W J hm hb=>zc6 mb A c (root:Int) vs ns w.heap.size hr (by omega) (fun n hn=>by have:=hks n hn;omega) (K0 ns.length false) root W (h.below J) hm hb (by simp) hroot (zc5 _));have bk:=hid hks;obtain⟨m,hm⟩:=ex (marks ns root)
 have bC:=hid hm;rw[hm]at r am;have bg:(root:Int)<(ns.length:Int):=by omega
 clear h hks hr hm;go_enter func19,ntmps19;go_upto_region 1 with fail;obtain⟨w1,ac⟩:=ex ((w.alloc (.cells #[.slice A ns.length c,.int .i64 root] 24)).alloc (.cells #[.slice none 0 0,.int .i64 0] 24))
 obtain⟨d,H⟩:=ex w.heap.size
 have b1:Blk w1 d 24 #[.slice A ns.length c,.int .i64 root]:=by rw[<-ac,<-H];exact(Q3 _ _ _).alloc _
 have b2:Blk w1 (d+1) 24 #[.slice none 0 0,.int .i64 0]:=by rw[<-ac,<-H];have:=Q3 (w.alloc (.cells #[.slice A ns.length c,.int .i64 root] 24)) 24 #[.slice none 0 0,.int .i64 0];rwa[K9]at this
 have l1:Below d w w1:=by rw[<-ac,<-H];exact((K1 _ _).alloc (K2 _) _).alloc (by simp) _
 have ap:w1.heap.size=d+2:=by rw[<-ac,<-H];simp
 have g0:w1.cell? ⟨d,0,none⟩=some (.slice A ns.length c):=b1.cell 0;rw[H]at HG am;have bl:=hid H;(try rw[ac]);(try rw[H]);clear ac H;go_upto_region 2 with fail;obtain⟨w2,ai⟩:=ex (w1.alloc (.cells (bcells (K0 ns.length false)) 4))
 have b3:Blk w2 (d+2) 4 (bcells (K0 ns.length false)):=by rw[<-ai,<-ap];exact Q3 _ _ _
 have l2:Below (d+2) w1 w2:=by rw[<-ai];exact(K1 _ _).alloc (by omega) _
 have aT:w2.heap.size=d+3:=by rw[<-ai];simp[ap]
 have au:Hid (Blk w2 d 24 #[.slice A ns.length c,.int .i64 root]/\Blk w2 (d+1) 24 #[.slice none 0 0,.int .i64 0]):=hid ⟨b1.below l2 (by omega),b2.below l2 (by omega)⟩;have L2:Hid (Below d w w2):=hid (l1.trans (l2.mono (by omega)));have aw:=hid (am.out (d+2) w2 L2.out (by omega) b3);have ay:=hid aT;obtain⟨q0,q1⟩:=cells2 au.out.1;(try rw[ai]);(try rw[ap]);clear ai g0 b1 b2 b3 l1 l2 ap aT am bq;go_wp2_with fail;refine aw.out.mono ?_;rintro e w3 ⟨rfl,aN,a5⟩;have L3:Hid (Below d w w3):=hid (L2.out.trans (aN.below (by have:=ay.out;omega) (fun k hk=>by omega)));have an:Below (d+2) w2 w3:=aN.below (by have:=ay.out;omega) (fun k hk=>by omega);have aS:Hid (Blk w3 d 24 #[.slice A ns.length c,.int .i64 root]/\Blk w3 (d+1) 24 #[.slice none 0 0,.int .i64 0]/\Blk w3 (d+2) 4 (bcells m)):=hid ⟨au.out.1.below an (by omega),au.out.2.below an (by omega),a5⟩;have aB:Hid (d+3<=w3.heap.size):=hid (by have:=an.size;have:=ay.out;omega);have g0:w3.cell? ⟨d,0,none⟩=some (.slice A ns.length c):=aS.out.1.cell 0;clear aN a5 an q0 q1 aw au;go_upto_region 6 with fail;obtain⟨n,hn⟩:=ex ns.length
 rw[hn]at r bg hroot hl;obtain⟨o,Y⟩:=ex w3.heap.size
 obtain⟨w4,aa⟩:=ex ((w3.alloc (.cells (icells (K0 n 0)) 3)).alloc (.cells #[.slice (some ⟨o,0,none⟩) n n] 35))
 have l4:Below o w3 w4:=by rw[<-aa,<-Y];exact((K1 _ _).alloc (K2 _) _).alloc (by simp) _
 have b4:Blk w4 o 3 (icells (K0 n 0)):=by rw[<-aa,<-Y];exact(Q3 _ _ _).alloc _
 have b5:Blk w4 (o+1) 35 #[.slice (some ⟨o,0,none⟩) n n]:=by
  rw[<-aa];have:=Q3 (w3.alloc (.cells (icells (K0 n 0)) 3)) 35 #[.slice (some ⟨o,0,none⟩) n n];rwa[K9,Y]at this
 have u:Hid (d+3<=o/\w4.heap.size=o+2):=hid ⟨by have:=aB.out;omega,by rw[<-aa];simp[Y]⟩;have L4:Hid (Below d w w4):=hid (L3.out.trans (l4.mono (by have:=aB.out;omega)));have Z:Hid (Blk w4 d 24 #[.slice A n c,.int .i64 root]/\Blk w4 (d+1) 24 #[.slice none 0 0,.int .i64 0]/\Blk w4 (d+2) 4 (bcells m)):=hid (by
  have I:=aS.out;rw[hn]at I;have:=u.out;exact⟨I.1.below l4 (by omega),I.2.1.below l4 (by omega),I.2.2.below l4 (by omega)⟩)
 have ax:=hid (And.intro b4 b5);have af:=hid hn;(try rw[hn]);(try rw[Y]);(try rw[aa]);clear aa Y g0 l4 b4 b5 aB aS bA hn;go_loopw [5,27] (fun s5 s27 wr=>∃(j k:Nat),j<=n/\k<=j/\s27=.int .i64 j/\s5=.int .i64 k/\Hid (k=(m.take j).count true/\Below o w4 wr/\Blk wr (o+1) 35 #[.slice (some ⟨o,0,none⟩) n n]/\Blk wr o 3 (icells ((K3 m).take j++K0 (n-j) 0)))) (fun _ s27 _=>n-(intOf s27).toNat)
 case atStart=>exact⟨0,0,by omega,by omega,rfl,rfl,hid ⟨rfl,K1 _ _,ax.out.2,by simpa using ax.out.1⟩⟩
 case round=>
  obtain⟨j,k,hj,bi,rfl,rfl,HW⟩:=hrel;obtain⟨E,bj⟩:∃E,E=wr:=⟨_,rfl⟩
  subst bj;by_cases hlt:j<n
  .have U:(j:Int)<(n:Int):=by omega
   have B:j<m.length:=by rw[r.out];exact hlt
   obtain⟨b,hb⟩:=ex (m[j])
   have z0:E.cell? ⟨d+2,j,none⟩=some (.bool b):=by
    rw[(Z.out.2.2.below HW.out.2.1 (by have:=u.out;omega)).cell,zae B,K7,K4 B,hb];rfl
   have z1:E.cell? ⟨o+1,0,none⟩=some (.slice (some ⟨o,0,none⟩) n n):=HW.out.2.2.1.cell 0;have aC:(K3 m).length=n:=by rw[Y8,r.out]
   have be:(K3 m).getD j 0=k:=by rw[Gr.zd3 B];exact HW.out.1.symm
   obtain⟨L,hL⟩:=ex ((K3 m).take j++K0 (n-j) 0)
   have aq:Hid (L.set j k=(K3 m).take (j+1)++K0 (n-(j+1)) 0):=hid (by rw[<-hL,<-zh6 _ n j aC hlt,be]);have bc:j<L.length:=by rw[<-hL];exact zh7 _ _ _ aC hlt
   rw[hL]at HW;have q0:E.cell? ⟨o,j,none⟩=some (.int .i64 ((L.getD j 0:Nat):Int)):=by rw[HW.out.2.2.2.cell,zaa bc]
   have qf:∀i,E.frozen? ⟨o,i,none⟩=false:=HW.out.2.2.2.frozen;have aX:Hid ((m.take (j+1)).count true=k+(if b=true then 1 else 0)):=hid (by
    rw[K5 B,X8,hb,<-HW.out.1];cases b<;>rfl)
   have al:Hid (Below o w4 (E.setCell ⟨o,j,none⟩ (.int .i64 k))/\Blk (E.setCell ⟨o,j,none⟩ (.int .i64 k)) (o+1) 35 #[.slice (some ⟨o,0,none⟩) n n]/\Blk (E.setCell ⟨o,j,none⟩ (.int .i64 k)) o 3 (icells ((K3 m).take (j+1)++K0 (n-(j+1)) 0))):=hid
    ⟨HW.out.2.1.setCell (p:=⟨o,j,none⟩) (K2 _) _,HW.out.2.2.1.far (by simp) _,by rw[<-aq.out,<-zam];exact HW.out.2.2.2.set_ j _⟩
   clear hb aC be hL bc B;cases b with
   |false=>
    have aH:Hid (k=(m.take (j+1)).count true):=hid (by rw[aX.out];rfl);go_wp2;go_roundw
    case rel=>exact⟨j+1,k,by omega,by omega,by go_num,rfl,hid ⟨aH.out,al.out⟩⟩
    case measure=>simp[intOf];omega
   |true=>
    have aH:Hid (k+1=(m.take (j+1)).count true):=hid (by rw[aX.out];rfl);go_wp2;go_roundw
    case rel=>exact⟨j+1,k+1,by omega,by omega,by go_num,by go_num,hid ⟨aH.out,al.out⟩⟩
    case measure=>simp[intOf];omega
  .have U:¬(j:Int)<(n:Int):=by omega
   have HE:Hid (Below o w4 E/\Blk E (o+1) 35 #[.slice (some ⟨o,0,none⟩) n n]/\Blk E o 3 (icells (K3 m))):=hid (by
    have I:=HW.out;rw[K6 (l:=K3 m) (by rw[Y8,r.out];omega),show n-j=0 by omega,Y3,Q6]at I;exact I.2)
   obtain⟨S,ao⟩:=ex ((K3 m).getD root 0)
   have hrab:S<=1000:=by
    rw[<-ao,Gr.zd3 (by rw[r.out];exact hroot)];have:=Y1 (a:=true) (l:=m.take root);rw[Q0]at this;have:=r.out;omega
   have aD:=Z.out.1.below HE.out.1 (by have:=u.out;omega);have z0:E.cell? ⟨o+1,0,none⟩=some (.slice (some ⟨o,0,none⟩) n n):=HE.out.2.1.cell 0;have z1:E.cell? ⟨d,1,none⟩=some (.int .i64 root):=aD.cell 1;have z2:E.cell? ⟨d,0,none⟩=some (.slice A n c):=aD.cell 0;have z3:E.cell? ⟨o,root,none⟩=some (.int .i64 (S:Int)):=by rw[HE.out.2.2.cell,zaa (by rw[Y8,r.out];exact hroot),ao]
   have bv:=hid ao;clear ao aD HW;go_upto_region 13 with fail;obtain⟨s,M⟩:=ex E.heap.size
   obtain⟨D,ag⟩:=ex (E.alloc (.cells #[.slice none 0 0,.int .i64 (S:Nat)] 24))
   have l5:Below s E D:=by rw[<-ag,<-M];exact(K1 _ _).alloc (K2 _) _
   have b5:Blk D s 24 #[.slice none 0 0,.int .i64 (S:Nat)]:=by rw[<-ag,<-M];exact Q3 _ _ _
   have O:Hid (o+2<=s/\D.heap.size=s+1):=hid ⟨by have:=HE.out.1.size;have:=u.out;omega,by rw[<-ag,<-M];simp⟩;have L5:Hid (Below d w D):=hid ((L4.out.trans (HE.out.1.mono (by have:=u.out;omega))).trans (l5.mono (by have:=u.out;have:=O.out;omega)));have ah:Hid (Blk D d 24 #[.slice A n c,.int .i64 root]/\Blk D (d+1) 24 #[.slice none 0 0,.int .i64 0]/\Blk D (d+2) 4 (bcells m)/\Blk D (o+1) 35 #[.slice (some ⟨o,0,none⟩) n n]/\Blk D o 3 (icells (K3 m))):=hid (by
    have I:=u.out;have h2:=O.out;exact⟨(Z.out.1.below HE.out.1 (by omega)).below l5 (by omega),(Z.out.2.1.below HE.out.1 (by omega)).below l5 (by omega),(Z.out.2.2.below HE.out.1 (by omega)).below l5 (by omega),HE.out.2.1.below l5 (by omega),HE.out.2.2.below l5 (by omega)⟩)
   have a2:Hid (KKM D D s S (.slice none 0 0) [] []):=hid ⟨K1 _ _,b5,⟨Y2,U0 _ _⟩,by have:=O.out;omega⟩;have y0:D.cell? ⟨d,0,none⟩=some (.slice A n c):=ah.out.1.cell 0;(try rw[ag]);(try rw[M]);clear ag M l5 b5 z0 z1 z2 z3 HE Z ax hlt U hj bi;go_upto_region 15 with fail;clear y0;go_loopw [50] (fun s50 wr=>∃(j:Nat) (A1:Option Addr) (n1 c1:Nat) (vs1:List NV),j<=n/\s50=.int .i64 j/\Hid (KKM D wr s S (.slice A1 n1 c1) vs1 (Q7 ns m j))) (fun s50 _=>n-(intOf s50).toNat)
   case atStart=>exact⟨0,none,0,0,[],by omega,rfl,hid (by unfold Q7;simpa using a2.out)⟩
   case round=>
    obtain⟨j,A1,n1,c1,vs1,hj,rfl,HV⟩:=hrel;obtain⟨C,bh⟩:∃C,C=wr:=⟨_,rfl⟩
    subst bh;clear a2;by_cases hlt:j<n
    .have U:(j:Int)<(n:Int):=by omega
     have bE:Hid (∀W,Below s D W->Below d w W):=hid (fun W J=>L5.out.trans (J.mono (by have:=u.out;have:=O.out;omega)));have aO:j<ns.length:=by rw[af.out];exact hlt
     obtain⟨ad,ks,is,rfl,hN⟩:=(HG.out C (bE.out C HV.out.below)).node aO;obtain⟨ka,kn,kc⟩:=ks;obtain⟨ia,bz,ic⟩:=is;have aR:ns[j]∈ns:=K8 aO;obtain⟨a9,aW⟩:=bk.out _ aR;have ar:=a1.out _ aR;have B:j<m.length:=by rw[r.out];exact hlt
     have Q:=Gr.zd4 aO B;obtain⟨f,aM⟩:=ex (ns[j])
     obtain⟨b,hb⟩:=ex (m[j])
     rw[aM,hb]at Q;rw[aM]at hN a9 aW ar;have aq:=hid Q;obtain rfl:kn=f.keys.length:=hN.kn;obtain rfl:bz=f.items.length:=hN.inn;have x0:=hN.c0;have x1:=hN.c1;have x2:=hN.c2;have x3:=hN.c3;have x4:=hN.c4;have aZ:Hid ((∀x∈f.keys,x<n)/\∀x∈f.items,x<n):=hid ⟨fun x hx=>by rw[<-af.out];exact ar x (Y0 _ hx),fun x hx=>by rw[<-af.out];exact ar x (Q9 _ hx)⟩;have aE:Hid (RowAt intL C d ka f.keys/\RowAt intL C d ia f.items):=hid ⟨hN.keys,hN.items⟩;have aQ:Blk C (d+2) 4 (bcells m):=ah.out.2.2.1.below HV.out.below (by have:=u.out;have:=O.out;omega);have a0:m.getD j false=b:=by rw[K7,K4 B,hb];rfl
     have aY:Hid (∀W,Below C.heap.size C W->W.cell? ⟨d+2,j,none⟩=some (.bool b)):=hid (fun W J=>by rw[(aQ.below J aQ.lt).cell,zae B,a0]);clear hN aR aM hb ar Q aQ a0 B;go_upto_region 17 with fail;obtain⟨F,aj⟩:=ex (C.alloc (.cells #[.int .i64 f.kind,.string ⟨f.text.toArray⟩,.bool f.ord,.slice ka f.keys.length kc,.slice ia f.items.length ic] 37))
     obtain⟨K,G⟩:=ex C.heap.size
     have b6:Blk F K 37 #[.int .i64 f.kind,.string ⟨f.text.toArray⟩,.bool f.ord,.slice ka f.keys.length kc,.slice ia f.items.length ic]:=by rw[<-aj,<-G];exact Q3 _ _ _
     have l6:Below K C F:=by rw[<-aj,<-G];exact(K1 _ _).alloc (K2 _) _
     have a8:F.heap.size=K+1:=by rw[<-aj,<-G];simp
     (try rw[aj]);(try rw[G]);have av:=hid l6;have y:=hid b6;have N:Hid (F.heap.size=K+1/\C.heap.size=K/\s+1<=K):=hid ⟨a8,G,by rw[<-G];exact HV.out.hd⟩;have z0:F.cell? ⟨d+2,j,none⟩=some (.bool b):=aY.out F (by rw[G];exact l6);clear aj G b6 l6 a8 x0 x1 x2 x3 x4;cases b with
     |false=>
      have bm:Hid (KKM D F s S (.slice A1 n1 c1) vs1 (Q7 ns m (j+1))):=hid (by
       rw[aq.out,if_neg X7];exact HV.out.later (by rw[N.out.2.1];exact av.out))
      go_wp2;go_roundw
      case rel=>exact⟨j+1,A1,n1,c1,vs1,by omega,by go_num,bm⟩
      case measure=>simp[intOf];omega
     |true=>
      have y3:F.cell? ⟨K,3,none⟩=some (.slice ka f.keys.length kc):=y.out.cell 3;have y4:F.cell? ⟨K,4,none⟩=some (.slice ia f.items.length ic):=y.out.cell 4;have yf:∀i,F.frozen? ⟨K,i,none⟩=false:=y.out.frozen;have HY:Hid (∀W,Below F.heap.size F W->W.cell? ⟨K,3,none⟩=some (.slice ka f.keys.length kc)/\W.cell? ⟨K,4,none⟩=some (.slice ia f.items.length ic)/\∀i,W.frozen? ⟨K,i,none⟩=false):=hid (fun W J=>⟨(y.out.below J y.out.lt).cell 3,(y.out.below J y.out.lt).cell 4,(y.out.below J y.out.lt).frozen⟩);have aP:Hid (∀(l:List Nat) (a:Option Addr) (cc:Nat),l.length<=1000->(∀x∈l,x<n)->RowAt intL C d a l->∀W,Below F.heap.size F W->Calls prog 35 #[.slice a l.length cc,.pointer (some ⟨o+1,0,none⟩)] W fun e w'=>Below F.heap.size F w'/\Below W.heap.size W w'/\∃g,g=W.heap.size/\e=.returned (.slice (some ⟨g,0,none⟩) l.length l.length)/\Blk w' g 3 (icells (l.map (fun x=>(K3 m).getD x 0)))):=hid (fun l a cc hl1 bt hr W J=>by
       have h6:=N.out;have aA:Below s D W:=HV.out.below.trans ((av.out.mono (by omega)).trans (J.mono (by omega)));have hsz:=aA.size;have h7:=O.out;have h8:=u.out;refine(zsx a cc l (by omega) (o+1) o n (K3 m) (by rw[Y8,r.out]) (fun x=>Q4 (Gr.zyr m x) (by rw[r.out];omega)) bt W d (by omega) (hr.below ((av.out.mono (by omega)).trans (J.mono (by omega)))) (ah.out.2.2.2.1.below aA (by omega)) (ah.out.2.2.2.2.below aA (by omega))).mono ?_;rintro e w' ⟨rfl,I,h2⟩;exact⟨J.trans (I.mono J.size),I,_,rfl,rfl,h2⟩)
      have aK:=hid (aP.out f.keys ka kc a9 aZ.out.1 aE.out.1);have aJ:=hid (aP.out f.items ia ic aW aZ.out.2 aE.out.2);obtain⟨kl,T⟩:=ex (f.keys.map (fun x=>(K3 m).getD x 0))
      obtain⟨il,V⟩:=ex (f.items.map (fun x=>(K3 m).getD x 0))
      have aU:Hid (Gr.mvN (K3 m) f=⟨f.kind,f.text,f.ord,kl,il⟩):=hid (by unfold Gr.mvN;rw[T,V]);have a6:Hid (kl.length=f.keys.length/\il.length=f.items.length):=hid ⟨by rw[<-T,Q1],by rw[<-V,Q1]⟩;rw[T]at aK;rw[V]at aJ;clear T V aP;go_upto_region 18 with fail;clear z0;go_cut [] (fun wx=>∃g1 g2 wy,wy=wx/\Hid (KBx C wy K f kl il g1 g2))
      case first=>
       go_region_with ((first
        | (go_at_call 35;(with_reducible refine(aK.out _ ?_).mono ?_);(first|assumption|exact K1 _ _|exact(K1 _ _).drew|exact U5 (by assumption));rintro e1 bp ⟨bx,hc1,g1,aV,rfl,ak⟩;obtain⟨q13,q14,q1f⟩:=HY.out bp bx;have bw:=hid aV;clear aV)
        | (go_at_call 35;(with_reducible refine(aJ.out _ ?_).mono ?_);(first|assumption|exact K1 _ _|exact(K1 _ _).drew|exact U5 (by assumption));rintro e2 bD ⟨aF,bf,g2,bb,rfl,bd⟩;obtain⟨q23,q24,q2f⟩:=HY.out bD aF;have bu:=hid bb;clear bb)))
       all_goals
        go_wp2;go_meet;have e1:g1=K+1:=by have:=bw.out;have h2:=N.out;rw[show F.drew.heap.size=F.heap.size from rfl]at this;omega
        have e2:g1<g2:=by have:=bu.out;have:=ak.lt;omega
        refine⟨g1,g2,_,rfl,hid ⟨((y.out.below aF y.out.lt).set_ 3 _).set_ 4 _,((ak.below bf ak.lt).far (by simp;omega) _).far (by simp;omega) _,(bd.far (by simp;omega) _).far (by simp;omega) _,by have:=N.out;omega,by have:=N.out;omega,by omega,?_⟩⟩;have hw:C.heap.size=K:=N.out.2.1;rw[hw];exact((av.out.trans (aF.mono (by have:=N.out;omega))).setCell (by simp) _).setCell (by simp) _
      case rest=>
       obtain⟨g1,g2,w7,rfl,HX⟩:=hcut;obtain⟨z0,z1,z2,z3,z4⟩:=cells5 HX.out.box;have q:Hid (KKM D w7 s S (.slice A1 n1 c1) vs1 (Q7 ns m j)):=hid (HV.out.later HX.out.below);have o0:w7.cell? ⟨s,0,none⟩=some (.slice A1 n1 c1):=q.out.box.cell 0;obtain⟨x,a7⟩:∃x:NV,x=⟨f.kind,f.text,f.ord,⟨some ⟨g1,0,none⟩,f.keys.length,f.keys.length⟩,⟨some ⟨g2,0,none⟩,f.items.length,f.items.length⟩⟩:=⟨_,rfl⟩
       have X:=hid a7;have a3:Hid (vs1.length<=1000):=hid (by
        have I:=q.out.tab.rows.len;rw[Gr.zdo (by rw[r.out,af.out]) (by omega)]at I;have:=Y1 (a:=true) (l:=m.take j);rw[Q0]at this;omega)
       clear a7 y3 y4 yf aK aJ HY aE aY;go_wp2_with (at_builtin;go_must (refine zab _ rfl (.tmp 70) (.tmp 72) 22 37 80 rfl nodeT (s+1) (.slice A1 n1 c1) vs1 rfl (q.out.tab.row.alloc _) _ _ 1 [x] rfl (Y4 _ _ (by rw[X.out];rfl) _ ?_) ?_ ?_ ?_))
       any_goals (first|rfl| (have:=a3.out;have:=q.out.hd;simp;omega))
       intro v8 w8 R hg bs;obtain⟨A2,c2,ba,_⟩:=R.form;obtain⟨n2,a4⟩:=ex ((vs1++[x]).length)
       rw[a4]at ba;subst ba;have aI:∀t,t≠37->KeptT t w7 w8:=fun t ht=>(U3 _ _ _).trans (X4 hg (q.out.tab.row.alloc _) (Ne.symm ht))
       have aL:Below (s+1) w7 w8:=((K1 (s+1) w7).alloc q.out.hd _).trans ((q.out.tab.row.alloc _).grown_below hg (by rw[K9];have:=q.out.hd;omega));have z:=aI _ (by decide) _ _ q.out.box;have o8:w8.cell? ⟨s,0,none⟩=some (.slice A1 n1 c1):=z.cell 0;have f8:∀i,w8.frozen? ⟨s,i,none⟩=false:=z.frozen;have al:Hid (KKM D (w8.setCell ⟨s,0,none⟩ (.slice A2 n2 c2)) s S (.slice A2 n2 c2) (vs1++[x]) (Q7 ns m (j+1))):=hid (by
        have aG:=(aI 3 (by decide)).trans (Q5 (p:=⟨s,0,none⟩) z (by decide) (.slice A2 n2 c2));refine⟨(q.out.below.trans (aL.mono (Y6 _))).setCell (p:=⟨s,0,none⟩) (K2 _) _,z.set_ 0 _,⟨R.setCell (fun e=>by have:=(R.lt _ e).1;simp at this;omega) _,?_⟩,Q4 q.out.hd (by have:=aL.size;simp;omega)⟩;rw[aq.out,if_pos (by trivial),aU.out];have hlo:=HX.out.lo1;have hlo2:=HX.out.lo2;have hhd:=HV.out.hd;have hbd:=a3.out;refine(q.out.tab.rows.kept aG).snoc x ⟨f.kind,f.text,f.ord,kl,il⟩ (by rw[X.out];exact⟨rfl,rfl,rfl⟩) ?_ ?_ ?_ ?_
        .rw[X.out];exact zb8 (aG _ _ HX.out.b1) (by omega) a6.out.1 (by simp only[maxLen];omega)
        .rw[X.out];exact zb8 (aG _ _ HX.out.b2) (by omega) a6.out.2 (by simp only[maxLen];omega)
        .intro g e1 e2;rw[X.out]at e1 e2;simp[SV.v,Value.ownBlock]at e1 e2;have:=HX.out.ne_;omega
        .intro j' b' g e1;have:=((HV.out.tab.rows.own j' b').lt g e1).2;rw[X.out];constructor<;>(intro e2;simp[SV.v,Value.ownBlock]at e2;omega))
       clear R hg bs aI aL z a4 z0 z1 z2 z3 z4 o0;go_wp2;go_roundw
       case rel=>exact⟨j+1,A2,n2,c2,vs1++[x],by omega,by go_num,al⟩
       case measure=>simp[intOf];omega
    .have U:¬(j:Int)<(n:Int):=by omega
     have ae:Hid (KKM D C s S (.slice A1 n1 c1) vs1 (Y5 ns m)):=hid (by
      have I:=HV.out;rw[show j=ns.length by rw[af.out];omega]at I;exact I)
     have M:d+1<s:=by have:=u.out;have:=O.out;omega
     obtain⟨o0,o1⟩:=cells2 ae.out.box;have z:=ah.out.2.1.below ae.out.below M;have az:=hid z;obtain⟨d0,d1⟩:=cells2 z;have df:∀i,C.frozen? ⟨d+1,i,none⟩=false:=z.frozen;clear z HV;go_wp2_with fail;have br:Blk ((C.setCell ⟨d+1,0,none⟩ (.slice A1 n1 c1)).setCell ⟨d+1,1,none⟩ (.int .i64 (S:Nat))) (d+1) 24 #[.slice A1 n1 c1,.int .i64 (S:Nat)]:=(az.out.set_ 0 _).set_ 1 _;refine bodyPost_ret (v:=.agg #[.slice A1 n1 c1,.int .i64 (S:Nat)]) (results_cell_row (P:=prog) rfl _ _ (d+1) 24 _ (0,0) _ rfl br underlying24 rfl (by kernel_rfl)) rfl ⟨?_,?_⟩
     .rw[bl.out];exact((L5.out.trans (ae.out.below.mono (by omega))).setCell (by simp) _).setCell (by simp) _
     .rw[bC.out,bv.out];obtain⟨A9,c9,bn,_⟩:=ae.out.tab.at_;injection bn with e1 e2 e3
      subst e1;refine⟨A1,c1,vs1,by rw[<-e2],fun W' kN kI=>?_⟩;have hk:∀t,t≠24->KeptT t C ((C.setCell ⟨d+1,0,none⟩ (.slice A1 n1 c1)).setCell ⟨d+1,1,none⟩ (.int .i64 (S:Nat))):=fun t ht=>(Q5 (p:=⟨d+1,0,none⟩) az.out ht _).trans (Q5 (p:=⟨d+1,1,none⟩) (az.out.set_ 0 _) ht _)
      have ht:Tab (s+1) W' (.slice A1 n1 c1) vs1 (Y5 ns m):=⟨ae.out.tab.row.kept ((hk _ (by decide)).trans kN),ae.out.tab.rows.kept ((hk _ (by decide)).trans kI)⟩
      obtain⟨A8,c8,bo,bB⟩:=ht.at_;injection bo with e1 e2 e3
      subst e1;exact bB
theorem zj0 {B nb:Nat} {w w':World} {v:Value} {vs:List NV} {ns:List Q8} (h:Tab B w v vs ns) (ho:∀j b g,(ints vs j b).v.ownBlock=some g->g<nb) (hv:∀g,v.ownBlock=some g->g<nb) (hb:Below nb w w'):Tab B w' v vs ns:=
 ⟨h.row.below hb hv,⟨h.rows.len,h.rows.kind,fun j b=>(h.rows.own j b).below hb (ho j b),h.rows.apart⟩⟩
structure ShM (B:Nat) (w wr:World) (nb:Nat) (vO:Value) (vs:List NV) (ms:List Q8) (kind:Int) (text:Gr.Str) (ord:Bool) (ks is:SV) (kl il:List Nat):Prop where
 below:Below B w wr
 tab:Tab B wr vO vs ms
 box:Blk wr nb 37 #[.int .i64 kind,.string ⟨text.toArray⟩,.bool ord,ks.v,is.v]
 ok:OwnRow intL wr (nb+1) 3 ks.v kl
 oi:OwnRow intL wr (nb+1) 3 is.v il
 sep:∀g,ks.v.ownBlock=some g->is.v.ownBlock=some g->False
 old1:∀j b g,(ints vs j b).v.ownBlock=some g->g<nb
 old2:∀g,vO.ownBlock=some g->g<nb
 hd:nb+1<=wr.heap.size
 hB:B<=nb
section
variable {B nb:Nat} {w wr w2:World} {vO:Value} {vs:List NV} {ms:List Q8} {kind:Int} {text:Gr.Str} {ord:Bool} {ks is:SV} {kl il:List Nat}
theorem ShM.later (h:ShM B w wr nb vO vs ms kind text ord ks is kl il) (hb:Below wr.heap.size wr w2):ShM B w w2 nb vO vs ms kind text ord ks is kl il:=
 ⟨h.below.trans (hb.mono (by have:=h.hd;have:=h.hB;omega)),h.tab.later hb,h.box.below hb h.box.lt,h.ok.later hb,h.oi.later hb,h.sep,h.old1,h.old2,Q4 h.hd hb.size,h.hB⟩
theorem ShM.growK (h:ShM B w wr nb vO vs ms kind text ord ks is kl il) {x:SV} {l:List Nat} (ho:OwnRow intL w2 (nb+1) 3 x.v l) (hg:wr.grownBy w2 ks.v.ownBlock) (hat:x.v.ownBlock=ks.v.ownBlock\/x.v.ownBlock=some wr.heap.size):
 ShM B w (w2.setCell ⟨nb,3,none⟩ x.v) nb vO vs ms kind text ord x is l il:=by
 have k:=h.ok.grown_below hg h.hd;have a:∀(y:SV) (l:List Nat) (W:World),OwnRow intL W (nb+1) 3 y.v l->y.v.ownBlock≠some nb:=fun y l W j e=>by have:=(j.lt nb e).1;omega
 have b:Below nb wr (w2.setCell ⟨nb,3,none⟩ x.v):=(k.mono (Y6 nb)).setCell (p:=⟨nb,3,none⟩) (K2 nb) _;have f:Blk w2 nb 37 #[.int .i64 kind,.string ⟨text.toArray⟩,.bool ord,ks.v,is.v]:=h.box.grown hg (fun e=>a _ _ _ h.ok e.symm);refine⟨h.below.trans (b.mono h.hB),zj0 h.tab h.old1 h.old2 b,f.set_ 3 _,ho.setCell (p:=⟨nb,3,none⟩) (a _ _ _ ho) _,?_,fun g c d=>?_,h.old1,h.old2,Q4 h.hd b.size,h.hB⟩
 .have i:=h.oi.grown_other hg (fun g c d=>h.sep g d c);exact i.setCell (p:=⟨nb,3,none⟩) (a _ _ _ i) _
 .rcases hat with e|e
  .exact h.sep g (by rw[<-e];exact c) d
  .rw[e]at c;injection c with c
   have:=(h.oi.lt g d).2;omega
theorem ShM.growI (h:ShM B w wr nb vO vs ms kind text ord ks is kl il) {x:SV} {l:List Nat} (ho:OwnRow intL w2 (nb+1) 3 x.v l) (hg:wr.grownBy w2 is.v.ownBlock) (hat:x.v.ownBlock=is.v.ownBlock\/x.v.ownBlock=some wr.heap.size):
 ShM B w (w2.setCell ⟨nb,4,none⟩ x.v) nb vO vs ms kind text ord ks x kl l:=by
 have k:=h.oi.grown_below hg h.hd;have a:∀(y:SV) (l:List Nat) (W:World),OwnRow intL W (nb+1) 3 y.v l->y.v.ownBlock≠some nb:=fun y l W j e=>by have:=(j.lt nb e).1;omega
 have b:Below nb wr (w2.setCell ⟨nb,4,none⟩ x.v):=(k.mono (Y6 nb)).setCell (p:=⟨nb,4,none⟩) (K2 nb) _;have f:Blk w2 nb 37 #[.int .i64 kind,.string ⟨text.toArray⟩,.bool ord,ks.v,is.v]:=h.box.grown hg (fun e=>a _ _ _ h.oi e.symm);refine⟨h.below.trans (b.mono h.hB),zj0 h.tab h.old1 h.old2 b,f.set_ 4 _,?_,ho.setCell (p:=⟨nb,4,none⟩) (a _ _ _ ho) _,fun g d c=>?_,h.old1,h.old2,Q4 h.hd b.size,h.hB⟩
 .have i:=h.ok.grown_other hg (fun g d c=>h.sep g d c);exact i.setCell (p:=⟨nb,4,none⟩) (a _ _ _ i) _
 .rcases hat with e|e
  .exact h.sep g d (by rw[<-e];exact c)
  .rw[e]at c;injection c with c
   have:=(h.ok.lt g d).2;omega
theorem ShM.push (h:ShM B w wr nb vO vs ms kind text ord ks is kl il) {v':Value} (ho:OwnRow nodeL w2 B 37 v' (vs++[⟨kind,text,ord,ks,is⟩])) (hg:wr.grownBy w2 vO.ownBlock):
 Tab B w2 v' (vs++[⟨kind,text,ord,ks,is⟩]) (ms++[⟨kind,text,ord,kl,il⟩])/\Below B w w2:=by
 have c:KeptT 3 wr w2:=X4 hg h.tab.row (by decide);have a:B<=wr.heap.size:=by have:=h.hd;have:=h.hB;omega
 refine⟨⟨ho,Rows.snoc (h.tab.rows.kept c) _ ⟨kind,text,ord,kl,il⟩ ⟨rfl,rfl,rfl⟩ ((h.ok.kept c).lower (by have:=h.hB;omega)) ((h.oi.kept c).lower (by have:=h.hB;omega)) h.sep (fun j b g e=>⟨fun d=>?_,fun d=>?_⟩)⟩,h.below.trans (h.tab.row.grown_below hg a)⟩
 .have:=h.old1 j b g e;have:=(h.ok.lt g d).1;omega
 .have:=h.old1 j b g e;have:=(h.oi.lt g d).1;omega
end
theorem zeg (A:Option Addr) (c d:Nat) (us:List NV) (gs:List Q8) (hgl:gs.length<=1000) (hks:∀n∈gs,n.keys.length<=1000/\n.items.length<=1000) (hxb:∀n∈gs,∀x∈n.keys++n.items,x<=1000000) (hd:d<=1000000) (w:World) (h:GAt w w.heap.size A us gs):
 Calls prog 23 #[.slice A gs.length c,.int .i64 d] w fun e w'=>∃v' vs',e=.returned v'/\Tab w.heap.size w' v' vs' (gs.map (shN d))/\Below w.heap.size w w':=by
 have H:=hid h;have aA:Hid (Tab w.heap.size w (.slice none 0 0) [] []):=hid ⟨Y2,U0 _ _⟩;clear h;go_enter func23,ntmps23;go_upto_region 3 with fail;go_loopw [5,6] (fun s5 s6 wr=>∃(j:Nat) (A1:Option Addr) (c1:Nat) (vs1:List NV),j<=gs.length/\s6=.int .i64 j/\s5=.slice A1 vs1.length c1/\Hid (Tab w.heap.size wr (.slice A1 vs1.length c1) vs1 ((gs.take j).map (shN d))/\Below w.heap.size w wr)) (fun _ s6 _=>gs.length-(intOf s6).toNat)
 case atStart=>exact⟨0,none,0,[],by omega,rfl,rfl,hid ⟨aA.out,K1 _ _⟩⟩
 case round=>
  obtain⟨j,A1,c1,vs1,hj,rfl,rfl,O⟩:=hrel;obtain⟨L,ar⟩:∃L,L=wr:=⟨_,rfl⟩
  subst ar;by_cases hlt:j<gs.length
  .have ak:(j:Int)<(gs.length:Int):=by omega
   have ae:gs[j]∈gs:=K8 hlt;obtain⟨ax,av⟩:=hks _ ae;have S:=hid (hxb _ ae);obtain⟨r,aE,aB,rfl,hN⟩:=H.out.node hlt;obtain⟨ka,kn,kc⟩:=aE;obtain⟨ia,ay,ic⟩:=aB;obtain⟨n,hn⟩:=ex (gs[j])
   have aF:Hid ((gs.take (j+1)).map (shN d)=(gs.take j).map (shN d)++[shN d n]):=hid (by rw[K5 hlt,Y7,hn];rfl);rw[hn]at hN ax av S;obtain rfl:kn=n.keys.length:=hN.kn;obtain rfl:ay=n.items.length:=hN.inn;have Q:=hid hN;have ac:Hid (∀W,Below w.heap.size w W->W.cell? (r.add (j*5))=some (.int .i64 n.kind)/\W.cell? {block:=(r.add (j*5)).block,off:=(r.add (j*5)).off+1}=some (.string ⟨n.text.toArray⟩)/\W.cell? {block:=(r.add (j*5)).block,off:=(r.add (j*5)).off+2}=some (.bool n.ord)/\W.cell? {block:=(r.add (j*5)).block,off:=(r.add (j*5)).off+3}=some (.slice ka n.keys.length kc)/\W.cell? {block:=(r.add (j*5)).block,off:=(r.add (j*5)).off+4}=some (.slice ia n.items.length ic)):=hid (fun W P=>by
    have lt:=Q.out.lt;exact⟨(P.cell lt).trans Q.out.c0,(P.cell (by exact lt)).trans Q.out.c1,(P.cell (by exact lt)).trans Q.out.c2,(P.cell (by exact lt)).trans Q.out.c3,(P.cell (by exact lt)).trans Q.out.c4⟩)
   have aj:Hid (∀W,Below w.heap.size w W->RowAt intL W w.heap.size ka n.keys/\RowAt intL W w.heap.size ia n.items):=hid (fun W P=>⟨Q.out.keys.below P,Q.out.items.below P⟩);obtain⟨x0,x1,x2,R,x4⟩:=ac.out L O.out.2;have hjb:j<=1000:=by omega
   clear hN hn ae R x4;go_upto_region 5 with fail;go_cut [7] (fun s7 wx=>∃nb,s7=.pointer (some ⟨nb,0,none⟩)/\Hid (Blk wx nb 37 #[.int .i64 n.kind,.string ⟨n.text.toArray⟩,.bool n.ord,.slice none 0 0,.slice none 0 0]/\Below L.heap.size L wx/\nb=L.heap.size))
   case first=>
    go_region_held3 (fun w'=>w'.cell? (r.add (j*5))=some (.int .i64 n.kind)/\w'.cell? {block:=(r.add (j*5)).block,off:=(r.add (j*5)).off+1}=some (.string ⟨n.text.toArray⟩)/\w'.cell? {block:=(r.add (j*5)).block,off:=(r.add (j*5)).off+2}=some (.bool n.ord))
     (first|go_keep| (simp[go_sem])) (fail)
    all_goals
     go_wp2;go_meet
    exact⟨L.heap.size,rfl,hid ⟨Q3 _ _ _,((K1 _ _).alloc (K2 _) _).drew,rfl⟩⟩
   case rest=>
    obtain⟨nb,rfl,ag⟩:=hcut;have ao:Hid (ShM w.heap.size w wc nb (.slice A1 vs1.length c1) vs1 ((gs.take j).map (shN d)) n.kind n.text n.ord X1 X1 [] []):=hid (by
     obtain⟨N,C,h3⟩:=ag.out;have hq:=O.out.2.size;exact⟨O.out.2.trans (C.mono hq),O.out.1.later C,N,Y2,Y2,fun g e=>(by cases e),fun j b g e=>(by rw[h3];exact((O.out.1.rows.own j b).lt g e).2),fun g e=>(by rw[h3];exact(O.out.1.row.lt g e).2),(by have:=N.lt;omega),(by omega)⟩)
    clear x0 x1 x2 ag;go_upto_region 7 with fail;go_loopw [8] (fun s8 wr=>∃(k:Nat) (kx:SV),k<=n.keys.length/\s8=.int .i64 k/\Hid (ShM w.heap.size w wr nb (.slice A1 vs1.length c1) vs1 ((gs.take j).map (shN d)) n.kind n.text n.ord kx X1 ((n.keys.take k).map (· +d)) [])) (fun s8 _=>n.keys.length-(intOf s8).toNat)
    case atStart=>exact⟨0,X1,by omega,rfl,hid (by simpa using ao.out)⟩
    case round=>
     obtain⟨k,kx,hk,rfl,p⟩:=hrel;obtain⟨a,Z⟩:∃a,a=wr:=⟨_,rfl⟩
     subst Z;have R:=(ac.out a p.out.below).2.2.2.1;by_cases hlk:k<n.keys.length
     .have I:(k:Int)<(n.keys.length:Int):=by omega
      obtain⟨y,K⟩:=ex (n.keys[k])
      obtain⟨D,rfl,_,U⟩:=zaf (aj.out a p.out.below).1 hlk;rw[K]at U;have an:=S.out y (Y0 _ (by rw[<-K];exact K8 hlk));have J:Hid ((n.keys.take (k+1)).map (· +d)=(n.keys.take k).map (· +d)++[y+d]):=hid (by rw[K5 hlk,Y7,K];rfl);obtain⟨kl,o⟩:=ex ((n.keys.take k).map (· +d))
      have T:Hid (kl.length<=1000):=hid (by rw[<-o,Q1,Q0];omega);rw[o]at p J;obtain⟨l,aa,f⟩:=kx;obtain rfl:aa=kl.length:=(U2 p.out.ok).2;have z3:a.cell? ⟨nb,3,none⟩=some (.slice l kl.length f):=p.out.box.cell 3;have aC:k<=1000:=by omega
      clear K o;have t:Below a.heap.size a (a.alloc (.cells #[.int .i64 (IntKind.i64.wrap ((y:Int)+(d:Int)))] 3)):=(K1 _ _).alloc (K2 _) _;have aD:(a.alloc (.cells #[.int .i64 (IntKind.i64.wrap ((y:Int)+(d:Int)))] 3)).cell? ⟨nb,3,none⟩=some (.slice l kl.length f):=(p.out.box.alloc _).cell 3;have al:(a.alloc (.cells #[.int .i64 (IntKind.i64.wrap ((y:Int)+(d:Int)))] 3)).cell? {block:=(r.add (j*5)).block,off:=(r.add (j*5)).off+3}=some (.slice (some D) n.keys.length kc):=(t.cell (Q2 a _ R)).trans R;have aq:(a.alloc (.cells #[.int .i64 (IntKind.i64.wrap ((y:Int)+(d:Int)))] 3)).cell? (D.add k)=some (.int .i64 (y:Int)):=(t.cell (Q2 a _ U)).trans U;have z:OwnRow intL (a.alloc (.cells #[.int .i64 (IntKind.i64.wrap ((y:Int)+(d:Int)))] 3)).drew (nb+1) 3 (.slice l kl.length f) kl:=p.out.ok.alloc _;have u:RowAt intL (a.alloc (.cells #[.int .i64 (IntKind.i64.wrap ((y:Int)+(d:Int)))] 3)).drew (a.heap.size+1) (some ⟨a.heap.size,0,none⟩) [y+d]:=Y4 _ _ (by rw[X9 _ (by omega)];rfl) _ rfl;have ab:kl.length+[y+d].length<=1073741824:=by have:=T.out;simp;omega
      have V:nb+1<=(a.alloc (.cells #[.int .i64 (IntKind.i64.wrap ((y:Int)+(d:Int)))] 3)).drew.heap.size:=by have:=p.out.hd;simp;omega
      have v:Hid (ShM w.heap.size w (a.alloc (.cells #[.int .i64 (IntKind.i64.wrap ((y:Int)+(d:Int)))] 3)).drew nb (.slice A1 vs1.length c1) vs1 ((gs.take j).map (shN d)) n.kind n.text n.ord ⟨l,kl.length,f⟩ X1 kl []):=hid (p.out.later ((K1 _ _).alloc (K2 _) _).drew);have G:some nb≠(Value.slice l kl.length f).ownBlock:=fun e=>by have:=(p.out.ok.lt nb e.symm).1;omega
      clear t;go_upto_region 9 with fail;go_region_law (refine zai _ rfl (.tmp 43) (.tmp 54) 35 3 8 rfl intT (nb+1) (.slice l kl.length f) kl rfl z _ _ 1 [y+d] rfl u ab V ?_;intro v' w2 m q s;obtain⟨A9,c9,Y,_⟩:=m.form;subst Y;have az:∀i,w2.frozen? ⟨nb,i,none⟩=false:=(v.out.box.grown q G).frozen;have au:w2.cell? ⟨nb,3,none⟩=some (.slice l kl.length f):=(v.out.box.grown q G).cell 3;have X:=hid (And.intro m (And.intro q s));clear m q s)
      all_goals
       go_wp2_with fail;have C:=X.out;rw[show(kl++[y+d]).length=kl.length+1 from by simp]at C;exact⟨⟨k+1,⟨A9,kl.length+1,c9⟩,by omega,by go_num,hid (by rw[J.out];exact v.out.growK (x:=⟨A9,kl.length+1,c9⟩) C.1 C.2.1 C.2.2)⟩,by simp[intOf];omega⟩
     .have I:¬(k:Int)<(n.keys.length:Int):=by omega
      have ap:Hid (ShM w.heap.size w a nb (.slice A1 vs1.length c1) vs1 ((gs.take j).map (shN d)) n.kind n.text n.ord kx X1 (n.keys.map (· +d)) []):=hid (by have N:=p.out;have e:n.keys.take k=n.keys:=K6 (by omega);rwa[e]at N);obtain⟨ks,ah⟩:∃ks,ks=kx:=⟨_,rfl⟩
      subst ah;go_upto_region 11 with fail;go_loopw [9] (fun s9 wr=>∃(k:Nat) (kx:SV),k<=n.items.length/\s9=.int .i64 k/\Hid (ShM w.heap.size w wr nb (.slice A1 vs1.length c1) vs1 ((gs.take j).map (shN d)) n.kind n.text n.ord ks kx (n.keys.map (· +d)) ((n.items.take k).map (· +d)))) (fun s9 _=>n.items.length-(intOf s9).toNat)
      case atStart=>exact⟨0,X1,by omega,rfl,hid (by simpa using ap.out)⟩
      case round=>
       obtain⟨k,kx,hk,rfl,p⟩:=hrel;obtain⟨a,Z⟩:∃a,a=wr:=⟨_,rfl⟩
       subst Z;have R:=(ac.out a p.out.below).2.2.2.2;by_cases hlk:k<n.items.length
       .have I:(k:Int)<(n.items.length:Int):=by omega
        obtain⟨y,K⟩:=ex (n.items[k])
        obtain⟨D,rfl,_,U⟩:=zaf (aj.out a p.out.below).2 hlk;rw[K]at U;have an:=S.out y (Q9 _ (by rw[<-K];exact K8 hlk));have J:Hid ((n.items.take (k+1)).map (· +d)=(n.items.take k).map (· +d)++[y+d]):=hid (by rw[K5 hlk,Y7,K];rfl);obtain⟨kl,o⟩:=ex ((n.items.take k).map (· +d))
        have T:Hid (kl.length<=1000):=hid (by rw[<-o,Q1,Q0];omega);rw[o]at p J;obtain⟨l,aa,f⟩:=kx;obtain rfl:aa=kl.length:=(U2 p.out.oi).2;have z3:a.cell? ⟨nb,4,none⟩=some (.slice l kl.length f):=p.out.box.cell 4;have aC:k<=1000:=by omega
        clear K o;have t:Below a.heap.size a (a.alloc (.cells #[.int .i64 (IntKind.i64.wrap ((y:Int)+(d:Int)))] 3)):=(K1 _ _).alloc (K2 _) _;have aD:(a.alloc (.cells #[.int .i64 (IntKind.i64.wrap ((y:Int)+(d:Int)))] 3)).cell? ⟨nb,4,none⟩=some (.slice l kl.length f):=(p.out.box.alloc _).cell 4;have al:(a.alloc (.cells #[.int .i64 (IntKind.i64.wrap ((y:Int)+(d:Int)))] 3)).cell? {block:=(r.add (j*5)).block,off:=(r.add (j*5)).off+4}=some (.slice (some D) n.items.length ic):=(t.cell (Q2 a _ R)).trans R;have aq:(a.alloc (.cells #[.int .i64 (IntKind.i64.wrap ((y:Int)+(d:Int)))] 3)).cell? (D.add k)=some (.int .i64 (y:Int)):=(t.cell (Q2 a _ U)).trans U;have z:OwnRow intL (a.alloc (.cells #[.int .i64 (IntKind.i64.wrap ((y:Int)+(d:Int)))] 3)).drew (nb+1) 3 (.slice l kl.length f) kl:=p.out.oi.alloc _;have u:RowAt intL (a.alloc (.cells #[.int .i64 (IntKind.i64.wrap ((y:Int)+(d:Int)))] 3)).drew (a.heap.size+1) (some ⟨a.heap.size,0,none⟩) [y+d]:=Y4 _ _ (by rw[X9 _ (by omega)];rfl) _ rfl;have ab:kl.length+[y+d].length<=1073741824:=by have:=T.out;simp;omega
        have V:nb+1<=(a.alloc (.cells #[.int .i64 (IntKind.i64.wrap ((y:Int)+(d:Int)))] 3)).drew.heap.size:=by have:=p.out.hd;simp;omega
        have v:Hid (ShM w.heap.size w (a.alloc (.cells #[.int .i64 (IntKind.i64.wrap ((y:Int)+(d:Int)))] 3)).drew nb (.slice A1 vs1.length c1) vs1 ((gs.take j).map (shN d)) n.kind n.text n.ord ks ⟨l,kl.length,f⟩ (n.keys.map (· +d)) kl):=hid (p.out.later ((K1 _ _).alloc (K2 _) _).drew);have G:some nb≠(Value.slice l kl.length f).ownBlock:=fun e=>by have:=(p.out.oi.lt nb e.symm).1;omega
        clear t;go_upto_region 13 with fail;go_region_law (refine zai _ rfl (.tmp 68) (.tmp 79) 35 3 8 rfl intT (nb+1) (.slice l kl.length f) kl rfl z _ _ 1 [y+d] rfl u ab V ?_;intro v' w2 m q s;obtain⟨A9,c9,Y,_⟩:=m.form;subst Y;have az:∀i,w2.frozen? ⟨nb,i,none⟩=false:=(v.out.box.grown q G).frozen;have au:w2.cell? ⟨nb,4,none⟩=some (.slice l kl.length f):=(v.out.box.grown q G).cell 4;have X:=hid (And.intro m (And.intro q s));clear m q s)
        all_goals
         go_wp2_with fail;have C:=X.out;rw[show(kl++[y+d]).length=kl.length+1 from by simp]at C;exact⟨⟨k+1,⟨A9,kl.length+1,c9⟩,by omega,by go_num,hid (by rw[J.out];exact v.out.growI (x:=⟨A9,kl.length+1,c9⟩) C.1 C.2.1 C.2.2)⟩,by simp[intOf];omega⟩
       .have I:¬(k:Int)<(n.items.length:Int):=by omega
        have E:Hid (ShM w.heap.size w a nb (.slice A1 vs1.length c1) vs1 ((gs.take j).map (shN d)) n.kind n.text n.ord ks kx (n.keys.map (· +d)) (n.items.map (· +d))):=hid (by have N:=p.out;have e:n.items.take k=n.items:=K6 (by omega);rwa[e]at N);obtain⟨k1,k2,k3⟩:=ks;obtain⟨i1,i2,i3⟩:=kx;obtain⟨z0,z1,z2,z3,z4⟩:=cells5 E.out.box;have hvl:vs1.length<=1000:=by have N:=E.out.tab.rows.len;rw[Q1,Q0]at N;omega
        have af:Hid (w.heap.size<=a.heap.size):=hid E.out.below.size;go_wp2_with (at_builtin;go_must (refine zab _ rfl (.tmp 82) (.tmp 84) 22 37 80 rfl nodeT w.heap.size (.slice A1 vs1.length c1) vs1 rfl (E.out.tab.row.alloc _) _ _ 1 [⟨n.kind,n.text,n.ord,⟨k1,k2,k3⟩,⟨i1,i2,i3⟩⟩] rfl (Y4 _ _ rfl _ ?_) ?_ ?_ ?_))
        any_goals (first|rfl| (have:=af.out;omega)| (have:=af.out;simp;omega)| (rw[K9];have:=af.out;omega))
        intro v' w5 F hg am;have HP:=hid ((E.out.later ((K1 _ _).alloc (K2 _) (.cells #[.int .i64 n.kind,.string ⟨n.text.toArray⟩,.bool n.ord,.slice k1 k2 k3,.slice i1 i2 i3] 37))).push F hg);obtain⟨A5,c5,ai,_⟩:=F.form;obtain⟨aw,M⟩:=ex (vs1++[⟨n.kind,n.text,n.ord,⟨k1,k2,k3⟩,⟨i1,i2,i3⟩⟩])
        rw[M]at HP ai;subst ai;clear F hg am M z0 z1 z2 z3 z4;go_wp2;go_roundw
        case rel=>exact⟨j+1,A5,c5,aw,by omega,by go_num,rfl,hid ⟨by rw[aF.out];exact HP.out.1,HP.out.2⟩⟩
        case measure=>simp[intOf];omega
  .have ak:¬(j:Int)<(gs.length:Int):=by omega
   have HE:Hid (Tab w.heap.size L (.slice A1 vs1.length c1) vs1 (gs.map (shN d))/\Below w.heap.size w L):=hid ⟨by have:=O.out.1;rwa[K6 (by omega)]at this,O.out.2⟩;go_wp2;go_ret
   first|exact⟨_,_,rfl,HE.out⟩|exact⟨_,rfl,⟨_,HE.out.1⟩,HE.out.2⟩|exact⟨_,rfl,_,HE.out⟩
structure RKx (wp wr:World) (nb:Nat) (nd:Q8) (kx ix:SV) (kl il:List Nat):Prop where
 below:Below wp.heap.size wp wr
 box:Blk wr nb 37 #[.int .i64 nd.kind,.string ⟨nd.text.toArray⟩,.bool nd.ord,kx.v,ix.v]
 ok:OwnRow intL wr wp.heap.size 3 kx.v kl
 oi:OwnRow intL wr wp.heap.size 3 ix.v il
 sep:∀g,kx.v.ownBlock=some g->ix.v.ownBlock=some g->False
theorem RKx.drew {wp wr:World} {nb:Nat} {nd:Q8} {kx ix:SV} {kl il:List Nat} (H:RKx wp wr nb nd kx ix kl il):RKx wp wr.drew nb nd kx ix kl il:=
 ⟨H.below.drew,H.box,H.ok.drew,H.oi.drew,H.sep⟩
theorem RKx.setK {wp wr:World} {nb:Nat} {nd:Q8} {kx ix:SV} {kl il:List Nat} (H:RKx wp wr nb nd kx ix kl il) (k y:Nat) (hk:k<kl.length):
 ∃g,kx.v=.slice (some ⟨g,0,none⟩) kl.length kx.c/\(∀i (hi:i<kl.length),wr.cell? ⟨g,i,none⟩=some (.int .i64 (kl[i]:Int)))/\(∀i,wr.frozen? ⟨g,i,none⟩=false)/\RKx wp (wr.setCell ⟨g,k,none⟩ (.int .i64 (y:Int))) nb nd kx ix (kl.set k y) il:=by
 obtain⟨g,h,rest,f,hcap,d,j,b⟩:=H.ok.row (by intro e;rw[e]at hk;simp at hk);have o:h=kx.c:=by unfold SV.v at f;injection f with _ _ e;exact e.symm
 subst o;have a:∀i (hi:i<kl.length),wr.cell? ⟨g,i,none⟩=some (.int .i64 (kl[i]:Int)):=fun i hi=>by
  have m:=intL.all_at kl i kl[i] (K4 hi) 0 _ rfl;rw[d.cell,X3,X0 (by rw[intL.all_len];show i<kl.length*1;omega)];have e:i*intL.sz+0=i:=by show i*1+0=i;omega
  rw[e]at m;exact m
 have n:=zev intL d k 0 y (.int .i64 (y:Int)) hk (by decide) rfl;have e:k*intL.sz+0=k:=by show k*1+0=k;omega
 rw[e]at n;have l:nb≠g:=fun e=>by subst e;exact Blk.ne_ (t:=37) H.box d (by decide) rfl
 refine⟨g,f,a,d.frozen,H.below.setCell (p:=⟨g,k,none⟩) j _,H.box.far (fun e=>l e) _,b _ _ (by simp) n,H.oi.setCell (fun e=>H.sep g (by rw[f];rfl) e) _,H.sep⟩
theorem RKx.setI {wp wr:World} {nb:Nat} {nd:Q8} {kx ix:SV} {kl il:List Nat} (H:RKx wp wr nb nd kx ix kl il) (k y:Nat) (hk:k<il.length):
 ∃g,ix.v=.slice (some ⟨g,0,none⟩) il.length ix.c/\(∀i (hi:i<il.length),wr.cell? ⟨g,i,none⟩=some (.int .i64 (il[i]:Int)))/\(∀i,wr.frozen? ⟨g,i,none⟩=false)/\RKx wp (wr.setCell ⟨g,k,none⟩ (.int .i64 (y:Int))) nb nd kx ix kl (il.set k y):=by
 obtain⟨g,h,rest,f,hcap,d,j,b⟩:=H.oi.row (by intro e;rw[e]at hk;simp at hk);have o:h=ix.c:=by unfold SV.v at f;injection f with _ _ e;exact e.symm
 subst o;have a:∀i (hi:i<il.length),wr.cell? ⟨g,i,none⟩=some (.int .i64 (il[i]:Int)):=fun i hi=>by
  have m:=intL.all_at il i il[i] (K4 hi) 0 _ rfl;rw[d.cell,X3,X0 (by rw[intL.all_len];show i<il.length*1;omega)];have e:i*intL.sz+0=i:=by show i*1+0=i;omega
  rw[e]at m;exact m
 have n:=zev intL d k 0 y (.int .i64 (y:Int)) hk (by decide) rfl;have e:k*intL.sz+0=k:=by show k*1+0=k;omega
 rw[e]at n;have l:nb≠g:=fun e=>by subst e;exact Blk.ne_ (t:=37) H.box d (by decide) rfl
 refine⟨g,f,a,d.frozen,H.below.setCell (p:=⟨g,k,none⟩) j _,H.box.far (fun e=>l e) _,H.ok.setCell (fun e=>H.sep g e (by rw[f];rfl)) _,b _ _ (by simp) n,H.sep⟩
theorem infoNodeK:(prog.info? 37).map (fun i=>(i.zero,i.size,i.bytes))=some (some (.agg #[.int .i64 0,.string ⟨#[]⟩,.bool false,.slice none 0 0,.slice none 0 0]),5,80):=by kernel_rfl
theorem zom (a:Addr) (n c i:Nat) (hi:i+1<=c) (W:World):(Instr.slice 22 (.slice (some a) n c) (some (.int .i64 (i:Int))) (some (.int .i64 ((i:Int)+1))) none).run prog W=.ok (.slice (some (a.add (i*5))) 1 (c-i)) W:=by
 have e:((i:Int)+1)=((i+1:Nat):Int):=by omega
 obtain⟨j,d,hz,b,hby⟩:=info_parts infoNodeK;have f:∀code,(Instr.sliceBound (.int .i64 ((i:Int)+1)) c code).run prog W=.ok (i+1) W:=fun code=>by
  rw[e,run_sliceBound (P:=prog) (w:=W) .i64 (i+1:Nat) c code (by omega) (by omega)];simp
 have g:∀code,(Instr.sliceBound (.int .i64 (i:Int)) (i+1) code).run prog W=.ok i W:=fun code=>by
  rw[run_sliceBound (P:=prog) (w:=W) .i64 i (i+1) code (by omega) (by omega)];simp
 simp[Instr.slice,run_underlying underlying22,Instr.sliceBounds,sizeOf,typeInfo,d,b,f,g,show c≠i from by omega]
theorem GAt.one {w:World} {B:Nat} {a:Addr} {vs:List NV} {ns:List Q8} (h:GAt w B (some a) vs ns) {i:Nat} (hi:i<ns.length):∃u,GAt w B (some (a.add (i*5))) [u] [ns[i]]:=by
 have hl:=h.len;have b:i<vs.length:=by omega
 refine⟨vs[i],?_,rfl,fun j c d=>?_,fun j c d=>?_⟩
 .have c:=RowAt.sub (L:=nodeL) h.row (k:=i) (m:=i+1) (cap:=vs.length+1) (by omega) (by omega) (by omega);rw[if_neg (by omega),List.drop_eq_getElem_cons b,show i+1-i=0+1 by omega,List.take_succ_cons,List.take_zero]at c;exact c
 .have:j=0:=by simp at c;omega
  subst this;exact h.kind i b hi
 .have:j=0:=by simp at c;omega
  subst this;exact h.nums i b hi
theorem shN0 (x:Q8):shN 0 x=x:=by unfold shN;simp
theorem zs1 (A:Option Addr) (c root:Nat) (vs:List NV) (ns:List Q8) (hr:Refs ns) (hl:ns.length<=1000) (hks:∀n∈ns,n.keys.length<=1000/\n.items.length<=1000) (hroot:root<ns.length) (hc:ns.length<=c) (w:World) (h:GAt w w.heap.size A vs ns):
 Calls prog 25 #[.agg #[.slice A ns.length c,.int .i64 root]] w (zme ns root w):=by
 have bd:=fun W=>za7 ns.length (by omega) W
 have D:=hid (zau hr hroot);have a5:=hid hr;have HG:Hid (∀W,Below w.heap.size w W->GAt W w.heap.size A vs ns):=hid (fun W hW=>h.below hW);have ah:Hid (∀W,Below w.heap.size w W->Calls prog 39 #[.agg #[.slice A ns.length c,.int .i64 (root:Nat)],.int .i64 (root:Nat)] W fun e w'=>∃ob,e=.returned (.slice (some ⟨ob,0,none⟩) ns.length ns.length)/\W.heap.size<=ob/\Below W.heap.size W w'/\Blk w' ob 4 (bcells (marks ns root))):=hid (fun W hW=>zc1 A c root (root:Int) vs ns hr hl hks hroot W ((h.below hW).more hW.size));have bl:=hid hks;obtain⟨m,hm⟩:=ex (marks ns root)
 have bz:=hid hm;rw[hm]at D ah;have bh:(root:Int)<(ns.length:Int):=by omega
 obtain⟨n,hn⟩:=ex ns.length
 have U:=hid hn;rw[hn]at D bh hroot hl hc ah bd;have HC:=hid hc;rw[hn];clear h hks hr hm hn hc;go_enter func25,ntmps25;go_upto_region 1 with fail;obtain⟨w1,aa⟩:=ex ((w.alloc (.cells #[.slice A n c,.int .i64 root] 24)).alloc (.cells #[.slice none 0 0,.int .i64 0] 24))
 obtain⟨o,F⟩:=ex w.heap.size
 have b1:Blk w1 o 24 #[.slice A n c,.int .i64 root]:=by rw[<-aa,<-F];exact(Q3 _ _ _).alloc _
 have b2:Blk w1 (o+1) 24 #[.slice none 0 0,.int .i64 0]:=by rw[<-aa,<-F];have:=Q3 (w.alloc (.cells #[.slice A n c,.int .i64 root] 24)) 24 #[.slice none 0 0,.int .i64 0];rwa[K9]at this
 have l1:Below o w w1:=by rw[<-aa,<-F];exact((K1 _ _).alloc (K2 _) _).alloc (by simp) _
 have a9:w1.heap.size=o+2:=by rw[<-aa,<-F];simp
 rw[F]at HG ah;have aV:=hid F;have L1:=hid l1;have aQ:=hid a9;have ai:=hid (And.intro b1 b2);obtain⟨q0,q1⟩:=cells2 b1;(try rw[aa]);(try rw[F]);clear aa F b1 b2 l1 a9;go_wp2_with fail;refine(ah.out w1 L1.out).mono ?_;rintro e w3 ⟨mb,rfl,bp,av,ae⟩;have L3:Hid (Below o w w3):=hid (L1.out.trans (av.mono (by have:=aQ.out;omega)));have aq:Hid (Blk w3 o 24 #[.slice A n c,.int .i64 root]/\Blk w3 (o+1) 24 #[.slice none 0 0,.int .i64 0]/\Blk w3 mb 4 (bcells m)):=hid ⟨ai.out.1.below av ai.out.1.lt,ai.out.2.below av ai.out.2.lt,ae⟩;have aC:Hid (o+2<=mb/\mb<w3.heap.size):=hid ⟨by have:=aQ.out;omega,ae.lt⟩;have g0:w3.cell? ⟨o,0,none⟩=some (.slice A n c):=aq.out.1.cell 0;clear av ae bp q0 q1 ah ai aQ;go_upto_region 5 with fail;obtain⟨s,V⟩:=ex w3.heap.size
 obtain⟨w4,ak⟩:=ex (w3.alloc (.cells (icells (K0 n 0)) 3))
 have l4:Below s w3 w4:=by rw[<-ak,<-V];exact(K1 _ _).alloc (K2 _) _
 have b4:Blk w4 s 3 (icells (K0 n 0)):=by rw[<-ak,<-V];exact Q3 _ _ _
 have r:Hid (o+2<=mb/\mb<s/\w4.heap.size=s+1):=hid ⟨aC.out.1,by rw[<-V];exact aC.out.2,by rw[<-ak];simp[V]⟩;have L4:Hid (Below o w w4):=hid (L3.out.trans (l4.mono (by have:=r.out;omega)));have X:Hid (Blk w4 o 24 #[.slice A n c,.int .i64 root]/\Blk w4 (o+1) 24 #[.slice none 0 0,.int .i64 0]/\Blk w4 mb 4 (bcells m)):=hid (by
  have:=r.out;exact⟨aq.out.1.below l4 (by omega),aq.out.2.1.below l4 (by omega),aq.out.2.2.below l4 (by omega)⟩)
 have aU:=hid b4;(try rw[V]);(try rw[ak]);clear ak V g0 l4 b4 aC aq bd;go_loopw [5,6] (fun s5 s6 wr=>∃(j k:Nat),j<=n/\k<=j/\s6=.int .i64 j/\s5=.int .i64 k/\Hid (k=(m.take j).count true/\Below s w4 wr/\Blk wr s 3 (icells ((K3 m).take j++K0 (n-j) 0)))) (fun _ s6 _=>n-(intOf s6).toNat)
 case atStart=>exact⟨0,0,by omega,by omega,rfl,rfl,hid ⟨rfl,K1 _ _,by simpa using aU.out⟩⟩
 case round=>
  obtain⟨j,k,hj,bj,rfl,rfl,HW⟩:=hrel;obtain⟨J,bk⟩:∃J,J=wr:=⟨_,rfl⟩
  subst bk;by_cases hlt:j<n
  .have S:(j:Int)<(n:Int):=by omega
   have B:j<m.length:=by rw[D.out];exact hlt
   obtain⟨b,hb⟩:=ex (m[j])
   have aD:(K3 m).length=n:=by rw[Y8,D.out]
   have bf:(K3 m).getD j 0=k:=by rw[Gr.zd3 B];exact HW.out.1.symm
   obtain⟨L,hL⟩:=ex ((K3 m).take j++K0 (n-j) 0)
   have ax:Hid (L.set j k=(K3 m).take (j+1)++K0 (n-(j+1)) 0):=hid (by rw[<-hL,<-zh6 _ n j aD hlt,bf]);have be:j<L.length:=by rw[<-hL];exact zh7 _ _ _ aD hlt
   rw[hL]at HW;have q0:J.cell? ⟨s,j,none⟩=some (.int .i64 ((L.getD j 0:Nat):Int)):=by rw[HW.out.2.2.cell,zaa be]
   have qf:∀i,J.frozen? ⟨s,i,none⟩=false:=HW.out.2.2.frozen;have aZ:Hid ((m.take (j+1)).count true=k+(if b=true then 1 else 0)):=hid (by
    rw[K5 B,X8,hb,<-HW.out.1];cases b<;>rfl)
   have az:Below s w4 (J.setCell ⟨s,j,none⟩ (.int .i64 k)):=HW.out.2.1.setCell (p:=⟨s,j,none⟩) (K2 _) _;have ar:Hid (Below s w4 (J.setCell ⟨s,j,none⟩ (.int .i64 k))/\Blk (J.setCell ⟨s,j,none⟩ (.int .i64 k)) s 3 (icells ((K3 m).take (j+1)++K0 (n-(j+1)) 0))):=hid
    ⟨az,by rw[<-ax.out,<-zam];exact HW.out.2.2.set_ j _⟩
   have z0:(J.setCell ⟨s,j,none⟩ (.int .i64 k)).cell? ⟨mb,j,none⟩=some (.bool b):=by
    rw[(X.out.2.2.below az (by have:=r.out;omega)).cell,zae B,K7,K4 B,hb];rfl
   clear hb aD bf hL be B az;cases b with
   |false=>
    have aG:Hid (k=(m.take (j+1)).count true):=hid (by rw[aZ.out];rfl);go_wp2;go_roundw
    case rel=>exact⟨j+1,k,by omega,by omega,by go_num,rfl,hid ⟨aG.out,ar.out⟩⟩
    case measure=>simp[intOf];omega
   |true=>
    have aG:Hid (k+1=(m.take (j+1)).count true):=hid (by rw[aZ.out];rfl);go_wp2;go_roundw
    case rel=>exact⟨j+1,k+1,by omega,by omega,by go_num,by go_num,hid ⟨aG.out,ar.out⟩⟩
    case measure=>simp[intOf];omega
  .have S:¬(j:Int)<(n:Int):=by omega
   have HE:Hid (Below s w4 J/\Blk J s 3 (icells (K3 m))):=hid (by
    have C:=HW.out;rw[K6 (l:=K3 m) (by rw[Y8,D.out];omega),show n-j=0 by omega,Y3,Q6]at C;exact C.2)
   obtain⟨Z,aK⟩:=ex ((K3 m).getD root 0)
   have a0:=X.out.1.below HE.out.1 (by have:=r.out;omega);have z1:J.cell? ⟨o,1,none⟩=some (.int .i64 root):=a0.cell 1;have z3:J.cell? ⟨s,root,none⟩=some (.int .i64 (Z:Int)):=by rw[HE.out.2.cell,zaa (by rw[Y8,D.out];exact hroot),aK]
   have bu:=hid aK;clear aK a0 HW;go_upto_region 12 with fail;obtain⟨ob,K⟩:=ex J.heap.size
   obtain⟨H,ag⟩:=ex (J.alloc (.cells #[.slice none 0 0,.int .i64 (Z:Nat)] 24))
   have l5:Below ob J H:=by rw[<-ag,<-K];exact(K1 _ _).alloc (K2 _) _
   have b5:Blk H ob 24 #[.slice none 0 0,.int .i64 (Z:Nat)]:=by rw[<-ag,<-K];exact Q3 _ _ _
   have G:Hid (s+1<=ob/\H.heap.size=ob+1):=hid ⟨by have:=HE.out.1.size;have:=r.out;omega,by rw[<-ag,<-K];simp⟩;have L5:Hid (Below o w H):=hid ((L4.out.trans (HE.out.1.mono (by have:=r.out;omega))).trans (l5.mono (by have:=r.out;have:=G.out;omega)));have au:Hid (Blk H o 24 #[.slice A n c,.int .i64 root]/\Blk H (o+1) 24 #[.slice none 0 0,.int .i64 0]/\Blk H mb 4 (bcells m)/\Blk H s 3 (icells (K3 m))):=hid (by
    have C:=r.out;have h2:=G.out;exact⟨(X.out.1.below HE.out.1 (by omega)).below l5 (by omega),(X.out.2.1.below HE.out.1 (by omega)).below l5 (by omega),(X.out.2.2.below HE.out.1 (by omega)).below l5 (by omega),HE.out.2.below l5 (by omega)⟩)
   have a6:Hid (KKM H H ob Z (.slice none 0 0) [] []):=hid ⟨K1 _ _,b5,⟨Y2,U0 _ _⟩,by have:=G.out;omega⟩;(try rw[ag]);(try rw[K]);clear ag K l5 b5 z1 z3 HE X aU hlt S hj bj;go_loopw [8] (fun s8 wr=>∃(j:Nat) (A1:Option Addr) (n1 c1:Nat) (vs1:List NV),j<=n/\s8=.int .i64 j/\Hid (KKM H wr ob Z (.slice A1 n1 c1) vs1 (Q7 ns m j))) (fun s8 _=>n-(intOf s8).toNat)
   case atStart=>exact⟨0,none,0,0,[],by omega,rfl,hid (by unfold Q7;simpa using a6.out)⟩
   case round=>
    obtain⟨j,A1,n1,c1,vs1,hj,rfl,HV⟩:=hrel;obtain⟨f,bi⟩:∃f,f=wr:=⟨_,rfl⟩
    subst bi;clear a6;by_cases hlt:j<n
    .have S:(j:Int)<(n:Int):=by omega
     have aS:Hid (∀W,Below ob H W->Below o w W):=hid (fun W hW=>L5.out.trans (hW.mono (by have:=r.out;have:=G.out;omega)));have aw:j<ns.length:=by rw[U.out];exact hlt
     have aR:ns[j]∈ns:=K8 aw;obtain⟨bb,aY⟩:=bl.out _ aR;have am:=a5.out _ aR;have B:j<m.length:=by rw[D.out];exact hlt
     have Q:=Gr.zd4 aw B;obtain⟨ad,rfl⟩:∃ad,A=some ad:=by
      obtain⟨ad,_,_,e,_⟩:=(HG.out f (aS.out f HV.out.below)).node aw;exact⟨ad,e⟩
     obtain⟨u,al⟩:=((HG.out f (aS.out f HV.out.below)).more (by have C:=(aS.out f HV.out.below).size;rw[aV.out]at C;exact C)).one aw;obtain⟨d,aM⟩:=ex (ns[j])
     obtain⟨b,hb⟩:=ex (m[j])
     rw[aM,hb]at Q;rw[aM]at bb aY am al;have ax:=hid Q;have a2:Hid ((∀x∈d.keys,x<n)/\∀x∈d.items,x<n):=hid ⟨fun x hx=>by rw[<-U.out];exact am x (Y0 _ hx),fun x hx=>by rw[<-U.out];exact am x (Q9 _ hx)⟩;have ae:Blk f mb 4 (bcells m):=au.out.2.2.1.below HV.out.below (by have:=r.out;have:=G.out;omega);have a4:m.getD j false=b:=by rw[K7,K4 B,hb];rfl
     have z0:f.cell? ⟨mb,j,none⟩=some (.bool b):=by rw[ae.cell,zae B,a4]
     have a3:Hid (Calls prog 23 #[.slice (some (ad.add (j*5))) 1 (c-j),.int .i64 0] f fun e w'=>∃v' vs',e=.returned v'/\Tab f.heap.size w' v' vs' [d]/\Below f.heap.size f w'):=hid (by
      have:=zeg (some (ad.add (j*5))) (c-j) 0 [u] [d] (by simp) (fun y O=>by rw[X6.1 O];exact⟨bb,aY⟩) (fun y O x hx=>by
       rw[X6.1 O]at hx;have:=am x hx;rw[U.out]at this;omega) (by omega) f al
      rw[List.map_cons,List.map_nil,shN0]at this;exact this)
     have bv:=fun W=>zom ad n c j (by have:=HC.out;omega) W
     have y0:f.cell? ⟨o,0,none⟩=some (.slice (some ad) n c):=(au.out.1.below HV.out.below (by have:=r.out;have:=G.out;omega)).cell 0;clear al aR aM hb am Q ae a4 B;cases b with
     |false=>
      have bm:Hid (KKM H f ob Z (.slice A1 n1 c1) vs1 (Q7 ns m (j+1))):=hid (by rw[ax.out,if_neg X7];exact HV.out);go_wp2;go_roundw
      case rel=>exact⟨j+1,A1,n1,c1,vs1,by omega,by go_num,bm⟩
      case measure=>simp[intOf];omega
     |true=>
      go_wp2_with fail;refine a3.out.mono ?_;rintro e w6 ⟨v6,us,rfl,N,aX⟩;obtain⟨u0,rfl⟩:∃u0,us=[u0]:=by
       have:=N.rows.len;cases us with
       |nil=>cases this
       |cons a l=>cases l with
        |nil=>exact⟨a,rfl⟩
        |cons b l=>simp at this
      obtain⟨uk,ut,uo,⟨ka,kn,kc⟩,⟨ia,aO,ic⟩⟩:=u0;obtain⟨rfl,rfl,rfl⟩:uk=d.kind/\ut=d.text/\uo=d.ord:=N.rows.kind 0 (by simp) (by simp);obtain⟨g5,aT,rest5,aB,_,ay,_,_⟩:=N.row.row (by simp);have aB:v6=.slice (some ⟨g5,0,none⟩) 1 aT:=aB;subst aB;have aJ:OwnRow intL w6 f.heap.size 3 (.slice ka kn kc) d.keys:=N.rows.own 0 false;have aN:OwnRow intL w6 f.heap.size 3 (.slice ia aO ic) d.items:=N.rows.own 0 true;obtain rfl:kn=d.keys.length:=(U2 (x:=⟨ka,kn,kc⟩) aJ).2;obtain rfl:aO=d.items.length:=(U2 (x:=⟨ia,aO,ic⟩) aN).2;have aW:∀g,(Value.slice ka d.keys.length kc).ownBlock=some g->(Value.slice ia d.items.length ic).ownBlock=some g->False:=fun g e1 e2=>by
       have:=(N.rows.apart 0 false 0 true g e1 e2).2;cases this
      have c0:w6.cell? ⟨g5,0,none⟩=some (.int .i64 d.kind):=ay.cell 0;have c1:w6.cell? ⟨g5,1,none⟩=some (.string ⟨d.text.toArray⟩):=ay.cell 1;have c2:w6.cell? ⟨g5,2,none⟩=some (.bool d.ord):=ay.cell 2;have c3:w6.cell? ⟨g5,3,none⟩=some (.slice ka d.keys.length kc):=ay.cell 3;have c4:w6.cell? ⟨g5,4,none⟩=some (.slice ia d.items.length ic):=ay.cell 4;have H6:=hid (And.intro aJ (And.intro aN (And.intro aW aX)));clear N ay aJ aN aW aX y0 bv z0 a3;go_upto_region 17 with fail;obtain⟨w7,Y⟩:=ex (w6.alloc (.cells #[.int .i64 d.kind,.string ⟨d.text.toArray⟩,.bool d.ord,.slice ka d.keys.length kc,.slice ia d.items.length ic] 37))
      obtain⟨nb,aE⟩:=ex w6.heap.size
      have bw:Hid (RKx f w7 nb d ⟨ka,d.keys.length,kc⟩ ⟨ia,d.items.length,ic⟩ d.keys d.items):=hid ⟨by rw[<-Y];exact H6.out.2.2.2.alloc H6.out.2.2.2.size _,by rw[<-Y,<-aE];exact Q3 _ _ _,by rw[<-Y];exact H6.out.1.alloc _,by rw[<-Y];exact H6.out.2.1.alloc _,H6.out.2.2.1⟩;(try rw[Y]);(try rw[aE]);clear Y aE c0 c1 c2 c3 c4 H6;have ba:Hid (∀W,Below f.heap.size f W->∀y,y<n->W.cell? ⟨s,y,none⟩=some (.int .i64 (((K3 m).getD y 0:Nat):Int))):=hid (fun W hW y O=>by
       have C:=au.out.2.2.2.below HV.out.below (by have:=G.out;omega);rw[(C.below hW C.lt).cell,zaa (by rw[Y8,D.out];exact O)])
      go_loopw [10] (fun s10 wr=>∃(k:Nat),k<=d.keys.length/\s10=.int .i64 k/\Hid (RKx f wr nb d ⟨ka,d.keys.length,kc⟩ ⟨ia,d.items.length,ic⟩ ((d.keys.take k).map (fun x=>(K3 m).getD x 0)++d.keys.drop k) d.items)) (fun s10 _=>d.keys.length-(intOf s10).toNat)
      case atStart=>exact⟨0,by omega,rfl,hid (by simpa using bw.out)⟩
      case round=>
       obtain⟨k,hk,rfl,HK⟩:=hrel;obtain⟨wy,aH⟩:∃wy,wy=wr:=⟨_,rfl⟩
       subst aH;have y3:wy.cell? ⟨nb,3,none⟩=some (.slice ka d.keys.length kc):=HK.out.box.cell 3;by_cases hlk:k<d.keys.length
       .have E:(k:Int)<(d.keys.length:Int):=by omega
        obtain⟨y,O⟩:=ex (d.keys[k])
        have aP:y<n:=by rw[<-O];exact a2.out.1 _ (K8 hlk)
        have a1:(y:Int)<(n:Int):=by omega
        obtain⟨v,hv⟩:=ex ((K3 m).getD y 0)
        have an:((d.keys.take k).map (fun x=>(K3 m).getD x 0)++d.keys.drop k).length=d.keys.length:=by simp;omega
        have ao:((d.keys.take k).map (fun x=>(K3 m).getD x 0)++d.keys.drop k)[k]'(by omega)=y:=by
         rw[Y9 (by simp;omega)];simp[<-O,U1 (U4 hlk)]
        obtain⟨g,M,af,bg,I⟩:=HK.out.setK k v (by omega);have q0:=af k (by omega);rw[ao]at q0;rw[an]at M;have ap:((d.keys.take k).map (fun x=>(K3 m).getD x 0)++d.keys.drop k).set k v=(d.keys.take (k+1)).map (fun x=>(K3 m).getD x 0)++d.keys.drop (k+1):=by
         rw[<-zfg d.keys (fun x=>(K3 m).getD x 0) k hlk,O,hv]
        rw[ap]at I;obtain rfl:ka=some ⟨g,0,none⟩:=by injection M
        have q1:wy.cell? ⟨s,y,none⟩=some (.int .i64 (v:Int)):=by rw[<-hv];exact ba.out wy HK.out.below y aP
        have aj:=hid I;clear M af I ap ao an O hv;go_upto_region 19 with fail;go_region
        all_goals
         go_wp2_with fail;exact⟨⟨k+1,by omega,by go_num,(by first|exact aj|exact hid aj.out.drew)⟩,by simp[intOf];omega⟩
       .have E:¬(k:Int)<(d.keys.length:Int):=by omega
        have bt:Hid (RKx f wy nb d ⟨ka,d.keys.length,kc⟩ ⟨ia,d.items.length,ic⟩ (d.keys.map (fun x=>(K3 m).getD x 0)) d.items):=hid (by
         have C:=HK.out;rwa[K6 (by omega),X2 (by omega),Q6]at C)
        go_upto_region 21 with fail;clear E y3 HK hk hlk;go_loopw [11] (fun s11 wr=>∃(k:Nat),k<=d.items.length/\s11=.int .i64 k/\Hid (RKx f wr nb d ⟨ka,d.keys.length,kc⟩ ⟨ia,d.items.length,ic⟩ (d.keys.map (fun x=>(K3 m).getD x 0)) ((d.items.take k).map (fun x=>(K3 m).getD x 0)++d.items.drop k))) (fun s11 _=>d.items.length-(intOf s11).toNat)
        case atStart=>exact⟨0,by omega,rfl,hid (by simpa using bt.out)⟩
        case round=>
         obtain⟨k,hk,rfl,HK⟩:=hrel;obtain⟨wz,aH⟩:∃wz,wz=wr:=⟨_,rfl⟩
         subst aH;have y3:wz.cell? ⟨nb,4,none⟩=some (.slice ia d.items.length ic):=HK.out.box.cell 4;by_cases hlk:k<d.items.length
         .have E:(k:Int)<(d.items.length:Int):=by omega
          obtain⟨y,O⟩:=ex (d.items[k])
          have aP:y<n:=by rw[<-O];exact a2.out.2 _ (K8 hlk)
          have a1:(y:Int)<(n:Int):=by omega
          obtain⟨v,hv⟩:=ex ((K3 m).getD y 0)
          have an:((d.items.take k).map (fun x=>(K3 m).getD x 0)++d.items.drop k).length=d.items.length:=by simp;omega
          have ao:((d.items.take k).map (fun x=>(K3 m).getD x 0)++d.items.drop k)[k]'(by omega)=y:=by
           rw[Y9 (by simp;omega)];simp[<-O,U1 (U4 hlk)]
          obtain⟨g,M,af,bg,I⟩:=HK.out.setI k v (by omega);have q0:=af k (by omega);rw[ao]at q0;rw[an]at M;have ap:((d.items.take k).map (fun x=>(K3 m).getD x 0)++d.items.drop k).set k v=(d.items.take (k+1)).map (fun x=>(K3 m).getD x 0)++d.items.drop (k+1):=by
           rw[<-zfg d.items (fun x=>(K3 m).getD x 0) k hlk,O,hv]
          rw[ap]at I;obtain rfl:ia=some ⟨g,0,none⟩:=by injection M
          have q1:wz.cell? ⟨s,y,none⟩=some (.int .i64 (v:Int)):=by rw[<-hv];exact ba.out wz HK.out.below y aP
          have aj:=hid I;clear M af I ap ao an O hv;go_upto_region 23 with fail;go_region
          all_goals
           go_wp2_with fail;exact⟨⟨k+1,by omega,by go_num,(by first|exact aj|exact hid aj.out.drew)⟩,by simp[intOf];omega⟩
         .have E:¬(k:Int)<(d.items.length:Int):=by omega
          have HZ:Hid (RKx f wz nb d ⟨ka,d.keys.length,kc⟩ ⟨ia,d.items.length,ic⟩ (d.keys.map (fun x=>(K3 m).getD x 0)) (d.items.map (fun x=>(K3 m).getD x 0))):=hid (by
           have C:=HK.out;rwa[K6 (by omega),X2 (by omega),Q6]at C)
          go_upto_region 24 with fail;clear E y3 HK hk hlk;have q:Hid (KKM H wz ob Z (.slice A1 n1 c1) vs1 (Q7 ns m j)):=hid (HV.out.later HZ.out.below);have o0:wz.cell? ⟨ob,0,none⟩=some (.slice A1 n1 c1):=q.out.box.cell 0;obtain⟨z0,z1,z2,z3,z4⟩:=cells5 HZ.out.box;have br:Hid (vs1.length<=1000):=hid (by
           have C:=q.out.tab.rows.len;rw[Gr.zdo (by rw[D.out,U.out]) (by omega)]at C;have:=Y1 (a:=true) (l:=m.take j);rw[Q0]at this;omega)
          obtain⟨x,a8⟩:∃x:NV,x=⟨d.kind,d.text,d.ord,⟨ka,d.keys.length,kc⟩,⟨ia,d.items.length,ic⟩⟩:=⟨_,rfl⟩
          have T:=hid a8;clear a8;go_wp2_with (at_builtin;go_must (refine zab _ rfl (.tmp 101) (.tmp 103) 22 37 80 rfl nodeT (ob+1) (.slice A1 n1 c1) vs1 rfl (q.out.tab.row.alloc _) _ _ 1 [x] rfl (Y4 _ _ (by rw[T.out];rfl) _ ?_) ?_ ?_ ?_))
          any_goals (first|rfl| (have:=br.out;have:=q.out.hd;simp;omega))
          intro v8 w8 R hg bs;obtain⟨A2,c2,bc,_⟩:=R.form;obtain⟨n2,a7⟩:=ex ((vs1++[x]).length)
          rw[a7]at bc;subst bc;have aI:∀t,t≠37->KeptT t wz w8:=fun t ht=>(U3 _ _ _).trans (X4 hg (q.out.tab.row.alloc _) (Ne.symm ht))
          have aL:Below (ob+1) wz w8:=((K1 (ob+1) wz).alloc q.out.hd _).trans ((q.out.tab.row.alloc _).grown_below hg (by rw[K9];have:=q.out.hd;omega));have z:=aI _ (by decide) _ _ q.out.box;have o8:w8.cell? ⟨ob,0,none⟩=some (.slice A1 n1 c1):=z.cell 0;have f8:∀i,w8.frozen? ⟨ob,i,none⟩=false:=z.frozen;have ar:Hid (KKM H (w8.setCell ⟨ob,0,none⟩ (.slice A2 n2 c2)) ob Z (.slice A2 n2 c2) (vs1++[x]) (Q7 ns m (j+1))):=hid (by
           have aF:=(aI 3 (by decide)).trans (Q5 (p:=⟨ob,0,none⟩) z (by decide) (.slice A2 n2 c2));refine⟨(q.out.below.trans (aL.mono (Y6 _))).setCell (p:=⟨ob,0,none⟩) (K2 _) _,z.set_ 0 _,⟨R.setCell (fun e=>by have:=(R.lt _ e).1;simp at this;omega) _,?_⟩,Q4 q.out.hd (by have:=aL.size;simp;omega)⟩;rw[ax.out,if_pos (by trivial)];have hhd:=HV.out.hd;refine(q.out.tab.rows.kept aF).snoc x (Gr.mvN (K3 m) d) (by rw[T.out];exact⟨rfl,rfl,rfl⟩) ?_ ?_ ?_ ?_
           .rw[T.out];exact(HZ.out.ok.kept aF).lower (by omega)
           .rw[T.out];exact(HZ.out.oi.kept aF).lower (by omega)
           .intro g e1 e2;rw[T.out]at e1 e2;exact HZ.out.sep g e1 e2
           .intro j' b' g e1;have C:=((HV.out.tab.rows.own j' b').lt g e1).2;rw[T.out];exact⟨fun e2=>by have:=(HZ.out.ok.lt g e2).1;omega,fun e2=>by have:=(HZ.out.oi.lt g e2).1;omega⟩)
          clear R hg bs aI aL z a7 z0 z1 z2 z3 z4 o0;go_wp2;go_roundw
          case rel=>exact⟨j+1,A2,n2,c2,vs1++[x],by omega,by go_num,ar⟩
          case measure=>simp[intOf];omega
    .have S:¬(j:Int)<(n:Int):=by omega
     have ac:Hid (KKM H f ob Z (.slice A1 n1 c1) vs1 (Y5 ns m)):=hid (by
      have C:=HV.out;rw[show j=ns.length by rw[U.out];omega]at C;exact C)
     have K:o+1<ob:=by have:=r.out;have:=G.out;omega
     obtain⟨o0,o1⟩:=cells2 ac.out.box;have z:=au.out.2.1.below ac.out.below K;have aA:=hid z;obtain⟨d0,d1⟩:=cells2 z;have df:∀i,f.frozen? ⟨o+1,i,none⟩=false:=z.frozen;clear z HV;go_wp2_with fail;have bq:Blk ((f.setCell ⟨o+1,0,none⟩ (.slice A1 n1 c1)).setCell ⟨o+1,1,none⟩ (.int .i64 (Z:Nat))) (o+1) 24 #[.slice A1 n1 c1,.int .i64 (Z:Nat)]:=(aA.out.set_ 0 _).set_ 1 _;refine bodyPost_ret (v:=.agg #[.slice A1 n1 c1,.int .i64 (Z:Nat)]) (results_cell_row (P:=prog) rfl _ _ (o+1) 24 _ (0,0) _ rfl bq underlying24 rfl (by kernel_rfl)) rfl ⟨?_,?_⟩
     .rw[aV.out];exact((L5.out.trans (ac.out.below.mono (by omega))).setCell (by simp) _).setCell (by simp) _
     .rw[bz.out,bu.out];obtain⟨A9,c9,bn,_⟩:=ac.out.tab.at_;injection bn with e1 e2 e3
      subst e1;refine⟨A1,c1,vs1,by rw[<-e2],fun W' kN kI=>?_⟩;have hk:∀t,t≠24->KeptT t f ((f.setCell ⟨o+1,0,none⟩ (.slice A1 n1 c1)).setCell ⟨o+1,1,none⟩ (.int .i64 (Z:Nat))):=fun t ht=>(Q5 (p:=⟨o+1,0,none⟩) aA.out ht _).trans (Q5 (p:=⟨o+1,1,none⟩) (aA.out.set_ 0 _) ht _)
      have ht:Tab (ob+1) W' (.slice A1 n1 c1) vs1 (Y5 ns m):=⟨ac.out.tab.row.kept ((hk _ (by decide)).trans kN),ac.out.tab.rows.kept ((hk _ (by decide)).trans kI)⟩
      obtain⟨A8,c8,bo,bx⟩:=ht.at_;injection bo with e1 e2 e3
      subst e1;exact bx
end Go.Proofs.YtpgmfihonmoliabGreatDoor
