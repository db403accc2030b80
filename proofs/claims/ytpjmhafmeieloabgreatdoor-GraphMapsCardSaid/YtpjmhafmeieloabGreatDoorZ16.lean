import Derived.Test.YtpjmhafmeieloabGreatDoorGrRShift
import Derived.Lib.LaidU8T
import Derived.PinnedBridge
import Derived.Lay
import Derived.Deep.DeepWitnessRowRef
import Derived.Test.YtpjmhafmeieloabGreatDoorZ26
namespace Go.Proofs.YtpjmhafmeieloabGreatDoor
open _root_.Go.Proofs.Tryz
open _root_.Go.Lib (hid)
set_option maxRecDepth 100000
set_option maxHeartbeats 16000000
open Go.RowKit
theorem zt2 {w:World} {g gi:Nat} (h:Blk w g 40 #[.int .i64 9,.string ⟨#[]⟩,.bool false,.slice none 0 0,.slice (some ⟨gi,0,none⟩) 1 1]) (hi:Blk w gi 3 #[.int .i64 0]):∃vs,GAt w w.heap.size (some ⟨g,0,none⟩) vs nsLoop:=by
 have f:OwnRow intL w 0 3 (.slice (some ⟨gi,0,none⟩) 1 1) [0]:=zd5 (l:=[0]) hi (Nat.zero_le _) rfl (by decide);have a:=(Rows.nil 0 w).snoc ⟨9,[],false,SV.nil,⟨some ⟨gi,0,none⟩,1,1⟩⟩ ⟨9,[],false,[],[0]⟩ ⟨rfl,rfl,rfl⟩ OwnRow.nil f (fun g h=>by simp[SV.nil,SV.v,Value.ownBlock]at h) (fun j b g h=>by simp[ints,SV.nil,SV.v,Value.ownBlock]at h);have i:Tab 0 w (.slice (some ⟨g,0,none⟩) 1 1) [⟨9,[],false,SV.nil,⟨some ⟨gi,0,none⟩,1,1⟩⟩] nsLoop:=⟨⟨nodeL.all_len _,.inr ⟨g,1,_,rfl,Nat.zero_le _,h,Nat.le_refl _,by decide,rfl,rfl⟩⟩,a⟩
 obtain⟨A,c,e,d⟩:=i.at_;injection e with e1 e2 e3
 subst e1;exact⟨_,d⟩
theorem zt3 {w:World} {A:Option Addr} {c:Nat} {vs:List NV} (h:GAt w w.heap.size A vs nsLoop):DepOk w (.agg #[.slice A 1 c,.int .i64 0]) (0,false):=by
 intro W a;have:=zh6 A c 0 vs nsLoop (za5 _ (by decide)) (by decide) (by intro n e;have:=zcf nsLoop (by decide) n e;exact⟨this.1,this.2.1⟩) (by decide)
  (by intro v b;have d:v=0:=by simp[nsLoop]at b;omega
      subst d;exact .refl _) W ((h.below a).more a.size)
 rw[znl]at this;exact this
theorem zrm (w:World) (hUT:UT w):Calls prog 5 #[] w fun e w'=>e=.returned (.bool true)/\Below w.heap.size w w':=by
 have al:Hid (∀W,UT W->Calls prog 9 #[.int .i64 2,.string ⟨([49]:Gr.Str).toArray⟩] W fun e w'=>Below W.heap.size W w'/\∃g,W.heap.size<=g/\e=.returned (.tuple #[.agg #[.slice (some ⟨g,0,none⟩) 1 1,.int .i64 0],.int .i64 0])/\Blk w' g 40 #[.int .i64 2,.string ⟨([49]:Gr.Str).toArray⟩,.bool false,.slice none 0 0,.slice none 0 0]):=hid (fun W hW=>(zd6 UT UT.stays 2 [49] true (by decide) (by decide) (by rw[<-zw7];exact zen [49] (by decide)) W hW).mono (by
  rintro e w' ⟨hb,_,h⟩;exact⟨hb,h rfl⟩))
 have aH:Hid (∀W,UT W->Calls prog 9 #[.int .i64 5,.string ⟨([97]:Gr.Str).toArray⟩] W fun e w'=>Below W.heap.size W w'/\∃g,W.heap.size<=g/\e=.returned (.tuple #[.agg #[.slice (some ⟨g,0,none⟩) 1 1,.int .i64 0],.int .i64 0])/\Blk w' g 40 #[.int .i64 5,.string ⟨([97]:Gr.Str).toArray⟩,.bool false,.slice none 0 0,.slice none 0 0]):=hid (fun W hW=>(zd6 UT UT.stays 5 [97] true (by decide) (by decide) (by rw[<-zy1];exact zff [97] (by decide)) W hW).mono (by
  rintro e w' ⟨hb,_,h⟩;exact⟨hb,h rfl⟩))
 have ax:Hid (∀W,UT W->Calls prog 9 #[.int .i64 2,.string ⟨([48,49]:Gr.Str).toArray⟩] W fun e w'=>Below W.heap.size W w'/\e=.returned (.tuple #[.agg #[.slice none 0 0,.int .i64 0],.int .i64 3])):=hid (fun W hW=>(zd6 UT UT.stays 2 [48,49] false (by decide) (by decide) (by rw[<-zw8];exact zen [48,49] (by decide)) W hW).mono (by
  rintro e w' ⟨hb,h,_⟩;exact⟨hb,h rfl⟩))
 have a:=hid hUT;clear hUT;go_enter func5,ntmps5;go_upto_region 1 with fail;go_wp2_with fail;refine(al.out w a.out).mono ?_;rintro e w1 ⟨Y,g1,aJ,rfl,az⟩;go_upto_region 2 with fail;obtain⟨w2,v⟩:=ex (w1.alloc (.cells #[.slice (some ⟨g1,0,none⟩) 1 1,.int .i64 0] 27))
 obtain⟨n1,V⟩:=ex w1.heap.size
 have B:Hid (Below w.heap.size w w2):=hid (by rw[<-v];exact Y.alloc Y.size _);have ab:Hid (Blk w2 g1 40 #[.int .i64 2,.string ⟨([49]:Gr.Str).toArray⟩,.bool false,.slice none 0 0,.slice none 0 0]):=hid (by rw[<-v];exact az.alloc _);have af:Hid (Blk w2 n1 27 #[.slice (some ⟨g1,0,none⟩) 1 1,.int .i64 0]):=hid (by rw[<-v,<-V];exact Blk.new _ _ _);have aw:=hid (UT.stays _ _ a.out B.out);clear Y aJ az;(try rw[v]);(try rw[V]);clear v V;go_wp2_with fail;refine(aH.out w2 aw.out).mono ?_;rintro e w3 ⟨X,g2,aL,rfl,aj⟩;go_upto_region 3 with fail;obtain⟨w4,u⟩:=ex (w3.alloc (.cells #[.slice (some ⟨g2,0,none⟩) 1 1,.int .i64 0] 27))
 obtain⟨n2,R⟩:=ex w3.heap.size
 have C:Below w2.heap.size w2 w4:=by rw[<-u];exact X.alloc X.size _
 have y:=hid (B.out.trans (C.mono B.out.size));have t:=hid (ab.out.below C ab.out.lt);have aF:=af.out.below C af.out.lt;have l:Hid (Blk w4 g2 40 #[.int .i64 5,.string ⟨([97]:Gr.Str).toArray⟩,.bool false,.slice none 0 0,.slice none 0 0]):=hid (by rw[<-u];exact aj.alloc _);have aD:Blk w4 n2 27 #[.slice (some ⟨g2,0,none⟩) 1 1,.int .i64 0]:=by rw[<-u,<-R];exact Blk.new _ _ _
 have ai:=hid (UT.stays _ _ a.out y.out);obtain⟨a0,a1⟩:=cells2 aF;obtain⟨a2,a3⟩:=cells2 aD;clear X aL aj C aF aD;(try rw[u]);(try rw[R]);clear u R;obtain⟨w5,H⟩:=ex (w4.alloc (.cells #[.slice (some ⟨g1,0,none⟩) 1 1,.int .i64 0,.slice (some ⟨g2,0,none⟩) 1 1,.int .i64 0] 27))
 obtain⟨n3,U⟩:=ex w4.heap.size
 have q:Below w4.heap.size w4 w5:=by rw[<-H];exact(Below.refl _ _).alloc (Nat.le_refl _) _
 have P:RowAt argL w5 w5.heap.size (some ⟨n3,0,none⟩) [argOf g1 2 [49],argOf g2 5 [97]]:=by
  have ho:OwnRow argL w5 0 27 (.slice (some ⟨n3,0,none⟩) 2 2) [argOf g1 2 [49],argOf g2 5 [97]]:=⟨argL.all_len _,.inr ⟨n3,2,_,rfl,Nat.zero_le _,by rw[<-H,<-U];exact Blk.new _ _ _,Nat.le_refl _,by decide,rfl,rfl⟩⟩
  obtain⟨A,c,hv,hg⟩:=ho.form;injection hv with e1 e2 e3
  subst e1;exact hg
 have ae:=hid (y.out.trans (q.mono y.out.size));have hl:=zt1 (some ⟨n3,0,none⟩) 2 g1 g2 w5 (UT.stays _ _ ai.out q) (t.out.below q t.out.lt) (l.out.below q l.out.lt) P;have HL:=hid hl;clear q P hl af ab t l al aH;go_wp2_with fail;(try rw[H]);(try rw[U]);clear H U a0 a1 a2 a3;refine HL.out.mono ?_;rintro e w6 ⟨aE,Q,c3,I,rfl,aA⟩;go_upto_region 4 with fail;obtain⟨w7,E⟩:=ex (w6.alloc (.cells #[.slice Q 3 c3,.int .i64 0] 27))
 obtain⟨n5,Z⟩:=ex w6.heap.size
 have K:Below w6.heap.size w6 w7:=by rw[<-E];exact(Below.refl _ _).alloc (Nat.le_refl _) _
 have j:=ae.out.trans (aE.mono ae.out.size);have M:=hid (j.trans (K.mono j.size));have aI:Hid (GAt w7 w7.heap.size Q I nsL):=hid ((aA.below K).more K.size);have f:Hid (Blk w7 n5 27 #[.slice Q 3 c3,.int .i64 0]):=hid (by rw[<-E,<-Z];exact Blk.new _ _ _);have aK:=hid (UT.stays _ _ a.out M.out);clear aE aA K j HL B y ae aw ai;(try rw[E]);(try rw[Z]);clear E Z;go_wp2_with fail;refine(ax.out w7 aK.out).mono ?_;rintro e w8 ⟨ad,rfl⟩;go_upto_region 5 with fail;obtain⟨N,T⟩:=ex (w8.alloc (.cells #[.slice none 0 0,.int .i64 0] 27))
 obtain⟨n7,ak⟩:=ex w8.heap.size
 have i:Below w7.heap.size w7 N:=by rw[<-T];exact ad.alloc ad.size _
 have aa:=hid (M.out.trans (i.mono M.out.size));have ap:Hid (GAt N N.heap.size Q I nsL):=hid ((aI.out.below i).more i.size);have k:=hid (f.out.below i f.out.lt);clear ad i aI f ax;(try rw[T]);(try rw[ak]);clear T ak;go_upto_region 6 with fail;obtain⟨s,hs⟩:=ex N.heap.size
 (try rw[hs]);obtain⟨wa,x⟩:=ex (N.alloc (.cells #[.int .i64 0] 3))
 have ba:Blk wa s 3 #[.int .i64 0]:=by rw[<-x,<-hs];exact Blk.new _ _ _
 have la:Below s N wa:=by rw[<-x,<-hs];exact(Below.refl _ _).alloc (Nat.le_refl _) _
 have sa:wa.heap.size=s+1:=by rw[<-x,<-hs];simp
 obtain⟨wb,m⟩:=ex (wa.alloc (.cells #[.int .i64 9,.string ⟨#[]⟩,.bool false,.slice none 0 0,.slice (some ⟨s,0,none⟩) 1 1] 40))
 have bb:Blk wb (s+1) 40 #[.int .i64 9,.string ⟨#[]⟩,.bool false,.slice none 0 0,.slice (some ⟨s,0,none⟩) 1 1]:=by rw[<-m,<-sa];exact Blk.new _ _ _
 have lb:Below (s+1) wa wb:=by rw[<-m];exact(Below.refl _ _).alloc (by omega) _
 have sb:wb.heap.size=s+2:=by rw[<-m];simp[sa]
 obtain⟨wc,F⟩:=ex (wb.alloc (.cells #[.slice (some ⟨s+1,0,none⟩) 1 1,.int .i64 0] 27))
 have bc:Blk wc (s+2) 27 #[.slice (some ⟨s+1,0,none⟩) 1 1,.int .i64 0]:=by rw[<-F,<-sb];exact Blk.new _ _ _
 have lc:Below (s+2) wb wc:=by rw[<-F];exact(Below.refl _ _).alloc (by omega) _
 have ah:Blk wc (s+1) 40 #[.int .i64 9,.string ⟨#[]⟩,.bool false,.slice none 0 0,.slice (some ⟨s,0,none⟩) 1 1]:=bb.below lc (by omega);have au:Blk wc s 3 #[.int .i64 0]:=(ba.below lb (by omega)).below lc (by omega);have b:Below N.heap.size N wc:=by rw[hs];exact la.trans ((lb.mono (by omega)).trans (lc.mono (by omega)))
 obtain⟨vl,J⟩:=zt2 ah au;have am:=hid J;have z:=hid (aa.out.trans (b.mono aa.out.size));have ag:Hid (GAt wc wc.heap.size Q I nsL):=hid ((ap.out.below b).more b.size);have p:=k.out.below b k.out.lt;have f:=hid p;have S:=hid bc;have aB:=hid (UT.stays _ _ a.out z.out);obtain⟨q0,q1⟩:=cells2 bc;have HD:Hid (Calls prog 11 #[.agg #[.slice (some ⟨s+1,0,none⟩) 1 1,.int .i64 0]] wc fun e w'=>e=.returned (.tuple #[.int .i64 0,.bool false])/\Below wc.heap.size wc w'):=hid (by
  have O:=zb9 (some ⟨s+1,0,none⟩) 1 vl nsLoop wc aB.out (zcf _ (by decide)) (zby _ (by decide)) (za5 _ (by decide)) (by decide) (by decide) J;rw[zrl]at O;exact zrh (some ⟨s+1,0,none⟩) 1 1 0 0 (0,false) wc O (fun _=>zt3 J))
 (try rw[x]);(try rw[m]);(try rw[F]);clear hs x ba la sa m bb lb sb F bc lc ah au b J p ap k aa M;go_wp2_with fail;refine HD.out.mono ?_;rintro e wd ⟨rfl,d⟩;have D:=hid (z.out.trans (d.mono z.out.size));have ar:=hid (UT.stays _ _ a.out D.out);have p:=f.out.below d f.out.lt;have n:=S.out.below d S.out.lt;obtain⟨r0,r1⟩:=cells2 p;have r:=hid n;have aG:Hid (Calls prog 12 #[.agg #[.slice Q 3 c3,.int .i64 0]] wd fun e w'=>e=.returned (.int .i64 3)/\Below wd.heap.size wd w'):=hid (by
  have O:=zb9 Q c3 I nsL wd ar.out (zcf _ (by decide)) (zby _ (by decide)) (za5 _ (by decide)) (by decide) (by decide) ((ag.out.below d).more d.size);rw[zrk]at O;exact ztw Q 3 c3 0 0 wd O)
 have av:Hid (GAt wd wd.heap.size (some ⟨s+1,0,none⟩) vl nsLoop):=hid ((am.out.below d).more d.size);clear d p n f S am ag q0 q1 HD z aB;go_upto_region 7 with fail;go_wp2_with fail;refine aG.out.mono ?_;rintro e we ⟨rfl,o⟩;have G:=hid (D.out.trans (o.mono D.out.size));have ao:=hid (UT.stays _ _ a.out G.out);have n:=r.out.below o r.out.lt;obtain⟨q0,q1⟩:=cells2 n;have an:Hid (ChkOk we (.agg #[.slice (some ⟨s+1,0,none⟩) 1 1,.int .i64 0]) 0):=hid (by
  have O:=zb9 (some ⟨s+1,0,none⟩) 1 vl nsLoop we ao.out (zcf _ (by decide)) (zby _ (by decide)) (za5 _ (by decide)) (by decide) (by decide) ((av.out.below o).more o.size);rw[zrl]at O;exact O)
 clear o n r0 r1 r av D ar aG;go_wp2_with fail;refine(an.out we (Below.refl _ _)).mono ?_;rintro e wf ⟨rfl,aq⟩;have L:=hid (G.out.trans (aq.mono G.out.size));have ac:=zt0 wf (UT.stays _ _ a.out L.out) wf (Below.refl _ _);unfold gZero at ac;have aC:=hid ac;clear aq ac q0 q1 G ao an;go_wp2_with fail;refine aC.out.mono ?_;rintro e wg ⟨rfl,ay⟩;have aM:=hid (L.out.trans (ay.mono L.out.size));clear ay L aC;go_wp2;go_ret;exact⟨rfl,aM.out⟩
theorem zrn (A A2:Option Addr) (c c2:Nat) (root no:Int) (vs vs2:List NV) (is:List Gr.Ni) (hz:Sz is) (w:World) (h:IAt w w.heap.size A vs is) (h2:IAt w w.heap.size A2 vs2 is) (hck:no=0->ChkOk w (.agg #[.slice A is.length c,.int .i64 root]) 0):
 Calls prog 8 #[.agg #[.slice A is.length c,.int .i64 root],.int .i64 no,.agg #[.slice A2 is.length c2,.int .i64 root],.int .i64 no] w fun e w'=>e=.returned (.bool true)/\Below w.heap.size w w':=by
 have n:=hid (fun W (hW:Below w.heap.size w W)=>znk A A2 c c2 root vs vs2 is hz W ((h.below hW).more hW.size) ((h2.below hW).more hW.size));have g:=hid hck;obtain⟨N,r⟩:=ex is.length
 rw[r]at n g ⊢;clear h h2 hz hck r;obtain⟨q,f⟩:=ex w.heap.size
 have HGB:=hid f;go_enter func8,ntmps8;go_upto_region 1 with fail;obtain⟨p,i⟩:=ex ((w.alloc (.cells #[.slice A N c,.int .i64 root] 27)).alloc (.cells #[.slice A2 N c2,.int .i64 root] 27))
 have a:Hid (Blk p q 27 #[.slice A N c,.int .i64 root]/\Blk p (q+1) 27 #[.slice A2 N c2,.int .i64 root]/\Below w.heap.size w p):=hid (by
  rw[<-i,<-f];refine⟨(Blk.new _ _ _).alloc _,?_,((Below.refl _ _).alloc (Nat.le_refl _) _).alloc (by simp) _⟩;have:=Blk.new (w.alloc (.cells #[.slice A N c,.int .i64 root] 27)) 27 #[.slice A2 N c2,.int .i64 root];rw[World.size_alloc]at this;exact this)
 (try rw[i]);(try rw[f]);clear i f;obtain⟨v,u⟩:=cells2 a.out.1;obtain⟨t,s⟩:=cells2 a.out.2.1;by_cases h0:no=0
 .have m:=hid (g.out h0);clear g;subst h0;have k:((0:Int)==0)=true:=rfl;go_wp2_with fail;refine(n.out _ a.out.2.2).mono ?_;rintro _ l ⟨rfl,b⟩;have d:Hid (Below w.heap.size w l):=hid (a.out.2.2.trans (b.mono a.out.2.2.size));have x:=a.out.1.below b a.out.1.lt;obtain⟨B,z⟩:=cells2 x;clear b x v u t s;go_wp2_with fail;refine(m.out _ d.out).mono ?_;rintro _ y ⟨rfl,j⟩;have o:Hid (Below w.heap.size w y):=hid (d.out.trans (j.mono d.out.size));clear j B z;go_wp2;go_ret;exact⟨rfl,o.out⟩
 .have k:(no==0)=false:=by simpa using h0
  have h0c:(no != 0)=true:=by rw[bne,k];rfl
  go_wp2_with fail;refine(n.out _ a.out.2.2).mono ?_;rintro _ l ⟨rfl,b⟩;have d:Hid (Below w.heap.size w l):=hid (a.out.2.2.trans (b.mono a.out.2.2.size));clear b v u t s;go_wp2;go_ret;exact⟨rfl,d.out⟩
theorem zy2 (A:Option Addr) (c:Nat) (root:Int) (vs:List NV) (is:List Gr.Ni) (hs:∀x∈is,x.text.length<=268435455/\x.keys.length<=1073741823/\x.items.length<=1073741823) (hl:is.length<=1073741823) (w:World) (hUT:UT w) (h:IAt w w.heap.size A vs is):
 ChkOk w (.agg #[.slice A is.length c,.int .i64 root]) (checkI sclX is root):=fun W d=>
 ze6 UT UT.stays sclX A c root vs is (fun x a=>by
  obtain⟨y,b,rfl⟩:=List.mem_map.1 a;have:=hs y b;simp only[Gr.Ni.nd,List.length_map];omega) (fun x a _ _ _ _ _ _=>by
  obtain⟨y,b,rfl⟩:=List.mem_map.1 a;exact zux _ _ (hs y b).1) hl W (UT.stays _ _ hUT d) ((h.below d).more d.size)
theorem inil (w:World):IAt w w.heap.size none [] []:=by
 obtain⟨A,c,b,a⟩:=(OwnRow.nil (L:=nodeL) (w:=w) (base:=0) (E:=40)).form;injection b with e1 e2 e3
 rw[<-e1]at a;exact⟨a,rfl,fun j h=>absurd h (Nat.not_lt_zero _),fun j h=>absurd h (Nat.not_lt_zero _)⟩
theorem zy3 {is:List Gr.Ni} (h1:is.length<=maxLen) (h2:∀y∈is,y.text.length<=maxLen/\y.keys.length<=maxLen/\y.items.length<=maxLen):Sz is:=by
 unfold maxLen at h1 h2;exact⟨h1,h2⟩
theorem ck_g {ns:List Gr.Nd} {root:Nat} (hr:Gr.Refs ns) (h0:root<ns.length) (hl:ns.length<=1000) (hks:∀n∈ns,n.keys.length<=1000/\n.items.length<=1000/\n.text.length<=1000) (A:Option Addr) (c:Nat) (vs:List NV) (W:World) (hT:UT W) (hG:GAt W W.heap.size A vs ns):
 ChkOk W (.agg #[.slice A ns.length c,.int .i64 (root:Nat)]) (checkG sclX ns root):=fun d a=>
 zrg UT UT.stays sclX A c root vs ns (fun x b=>by have:=hks x b;omega) (fun x b _ _ _ _ _ _=>zux _ _ (by have:=hks x b;omega)) (by omega) hr h0 d (UT.stays _ _ hT a) ((hG.below a).more a.size)
theorem zyk {ns:List Gr.Nd} {A:Option Addr} {vs:List NV} {W:World} {B:Nat} (h:IAt W B A vs (ns.map Gr.Nd.ni)):GAt W B A vs ns:=by
 have:=h.toG (fun x b y a=>by
  obtain⟨z,hz,rfl⟩:=List.mem_map.1 b;have a:y∈z.keys.map Int.ofNat++z.items.map Int.ofNat:=a;rw[<-List.map_append]at a;obtain⟨u,_,rfl⟩:=List.mem_map.1 a;exact Int.natCast_nonneg u)
 rwa[Gr.zi4]at this
theorem zy4 {ns:List Gr.Nd} (hl:ns.length<=1000) (hks:∀n∈ns,n.keys.length<=1000/\n.items.length<=1000/\n.text.length<=1000):Sz (ns.map Gr.Nd.ni):=
 ⟨by rw[List.length_map];omega,fun x b=>by
  obtain⟨y,a,rfl⟩:=List.mem_map.1 b;have:=hks y a;simp only[Gr.Nd.ni,List.length_map];omega⟩
theorem zro:Sz []:=⟨by simp,fun x a=>by cases a⟩
open Gr
theorem zrq (A:Option Addr) (c:Nat) (root:Int) (vs:List NV) (is:List Gr.Ni) (hz:Sz is) (w:World) (h:IAt w w.heap.size A vs is):
 Calls prog 4 #[.agg #[.slice A is.length c,.int .i64 root]] w fun e w'=>e=.returned (.bool (Gr.few is))/\Below w.heap.size w w':=by
 have H:=hid h;have HZ:=hid hz;obtain⟨u,q⟩:=ex (w.alloc (.cells #[.slice A is.length c,.int .i64 root] 27))
 have T:Blk u w.heap.size 27 #[.slice A is.length c,.int .i64 root]:=by rw[<-q];exact Blk.new _ _ _
 have P:Hid (Below w.heap.size w u):=hid (by rw[<-q];exact(Below.refl _ _).alloc (Nat.le_refl _) _);have g0:u.cell? ⟨w.heap.size,0,none⟩=some (.slice A is.length c):=T.cell 0;have L:=hid T;have S:=hz.1;clear h T hz;go_enter func4,ntmps4;go_upto_region 1 with fail;(try rw[q]);clear q;by_cases h40:is.length<=40
 .have I:¬(40:Int)<(is.length:Int):=by omega
  go_upto_region 5 with fail;clear g0 S;go_loopw [3,4,5] (fun s3 s4 s5 wr=>∃i:Nat,i<=is.length/\s5=.int .i64 i/\s3=.int .i64 (fsum is i:Nat)/\s4=.int .i64 (fbyt is i:Nat)/\fsum is i<=160*i/\fbyt is i<=100*i/\Hid (Below u.heap.size u wr/\∀j,j<i->∀(hj:j<is.length),is[j].text.length<=100/\is[j].keys.length<=80/\is[j].items.length<=80)) (fun _ _ s5 _=>is.length-(intOf s5).toNat)
  case atStart=>exact⟨0,by omega,rfl,rfl,rfl,by simp[fsum],by simp[fbyt],hid ⟨Below.refl _ _,fun j hj=>by omega⟩⟩
  case round=>
   obtain⟨i,hi,rfl,rfl,rfl,aa,ac,E⟩:=hrel;have a:Hid (Below w.heap.size w wr):=hid (P.out.trans (E.out.1.mono P.out.size));have af:Hid (Blk wr w.heap.size 27 #[.slice A is.length c,.int .i64 root]):=hid (L.out.below E.out.1 L.out.lt);have g0:wr.cell? ⟨w.heap.size,0,none⟩=some (.slice A is.length c):=af.out.cell 0;have D:=hid (fun h=>zra (is:=is) (k:=i) h);have B:=hid (fun h=>zrb (is:=is) (k:=i) h);obtain⟨O,g⟩:=ex (fsum is i)
   obtain⟨N,o⟩:=ex (fbyt is i)
   rw[g]at aa D;rw[o]at ac B;have X:=hid g;have R:=hid o;(try rw[g]);(try rw[o]);clear g o;by_cases hlt:i<is.length
   .have F:(i:Int)<(is.length:Int):=by omega
    have G:is[i]∈is:=List.getElem_mem hlt;obtain⟨ah,ae,ag⟩:=HZ.out.2 _ G;have m:=hid (zw3 hlt);have r:Hid ((is[i].text.length<=100/\is[i].keys.length<=80/\is[i].items.length<=80)->∀j,j<i+1->∀(hj:j<is.length),is[j].text.length<=100/\is[j].keys.length<=80/\is[j].items.length<=80):=hid (fun h j hj U=>by
     rcases Nat.lt_or_ge j i with h1|h1
     .exact E.out.2 j h1 U
     .obtain rfl:j=i:=by omega
      exact h)
    have s:=hid (D.out hlt);have y:=hid (B.out hlt);obtain⟨ad,ks,V,rfl,J,c0,c1,c2,c3,c4,r1,r2,r3,r4⟩:=(H.out.below a.out).node hlt;obtain⟨ka,kn,kc⟩:=ks;obtain⟨W,Q,Z⟩:=V;obtain⟨n,hn⟩:=ex (is[i])
    rw[hn]at c0 c1 c2 r2 r4 ah ae ag m r s y;obtain rfl:kn=n.keys.length:=r2;obtain rfl:Q=n.items.length:=r4;have hib:i<=40:=by omega
    clear hn G r1 r3 J D B;go_upto_region 8 with fail;obtain⟨v,x⟩:=ex (wr.alloc (.cells #[.int .i64 n.kind,.string ⟨n.text.toArray⟩,.bool n.ord,.slice ka n.keys.length kc,.slice W n.items.length Z] 40))
    obtain⟨M,t⟩:=ex wr.heap.size
    have f:Hid (Blk v M 40 #[.int .i64 n.kind,.string ⟨n.text.toArray⟩,.bool n.ord,.slice ka n.keys.length kc,.slice W n.items.length Z]/\Below wr.heap.size wr v):=hid (by rw[<-x,<-t];exact⟨Blk.new _ _ _,(Below.refl _ _).alloc (Nat.le_refl _) _⟩);(try rw[x]);(try rw[t]);have s1:v.cell? ⟨M,1,none⟩=some (.string ⟨n.text.toArray⟩):=f.out.1.cell 1;have s3:v.cell? ⟨M,3,none⟩=some (.slice ka n.keys.length kc):=f.out.1.cell 3;have s4:v.cell? ⟨M,4,none⟩=some (.slice W n.items.length Z):=f.out.1.cell 4;have l:Hid (Below u.heap.size u v/\Below w.heap.size w v):=hid ⟨E.out.1.trans (f.out.2.mono E.out.1.size),a.out.trans (f.out.2.mono a.out.size)⟩;clear x t c0 c1 c2 c3 c4 g0;have z:(100:Int)<(n.text.length:Int)\/¬(100:Int)<(n.text.length:Int):=by omega
    have d:(80:Int)<(n.keys.length:Int)\/¬(80:Int)<(n.keys.length:Int):=by omega
    have C:(80:Int)<(n.items.length:Int)\/¬(80:Int)<(n.items.length:Int):=by omega
    rcases z with h1|h1
    .have b:Hid (Gr.few is=false):=hid (m.out (by omega));clear d C;go_wp2;go_ret;exact⟨by rw[b.out]<;>rfl,l.out.2⟩
    .rcases d with h2|h2
     .have b:Hid (Gr.few is=false):=hid (m.out (by omega));clear C;go_wp2;go_ret;exact⟨by rw[b.out]<;>rfl,l.out.2⟩
     .rcases C with h3|h3
      .have b:Hid (Gr.few is=false):=hid (m.out (by omega));go_wp2;go_ret;exact⟨by rw[b.out]<;>rfl,l.out.2⟩
      .have K:Hid (fsum is (i+1)<=160*(i+1)/\fbyt is (i+1)<=100*(i+1)):=hid (by rw[s.out,y.out];omega);have ab:=hid (r.out (by omega));go_wp2;go_roundw
       case rel=>exact⟨i+1,by omega,by go_num,by rw[s.out];go_num,by rw[y.out];go_num,K.out.1,K.out.2,hid ⟨l.out.1,ab.out⟩⟩
       case measure=>simp[intOf];omega
   .have F:¬(i:Int)<(is.length:Int):=by omega
    have Y:Hid (Gr.few is=(decide (O<=240) && decide (N<=300))):=hid (by
     have:=zw4 (k:=i) (by omega) h40 E.out.2;rwa[X.out,R.out]at this)
    have z:(O:Int)<=240\/¬(O:Int)<=240:=by omega
    have d:(N:Int)<=300\/¬(N:Int)<=300:=by omega
    rcases z with h1|h1
    .rcases d with h2|h2
     .have b:Hid (Gr.few is=true):=hid (by rw[Y.out,decide_eq_true (by omega),decide_eq_true (by omega)];rfl);go_wp2;go_ret;exact⟨by rw[b.out]<;>rfl,a.out⟩
     .have b:Hid (Gr.few is=false):=hid (by rw[Y.out,decide_eq_false (p:=N<=300) (by omega)];simp);go_wp2;go_ret;exact⟨by rw[b.out]<;>rfl,a.out⟩
    .have b:Hid (Gr.few is=false):=hid (by rw[Y.out,decide_eq_false (p:=O<=240) (by omega)];simp);clear d;go_wp2;go_ret;exact⟨by rw[b.out]<;>rfl,a.out⟩
 .have I:(40:Int)<(is.length:Int):=by omega
  have b:Hid (Gr.few is=false):=hid (zw2 h40);go_wp2;go_ret;exact⟨by rw[b.out]<;>rfl,P.out⟩
theorem zlh (vs us:List NV) (j:Nat) (b:Bool):ints (vs++us) j b=if j<vs.length then ints vs j b else ints us (j-vs.length) b:=by
 unfold ints;by_cases h:j<vs.length
 .rw[if_pos h,List.getElem?_append_left h]
 .rw[if_neg h,List.getElem?_append_right (by omega)]
theorem znj (vs us:List Gr.Nd) (j:Nat) (b:Bool):intsOf (vs++us) j b=if j<vs.length then intsOf vs j b else intsOf us (j-vs.length) b:=by
 unfold intsOf;by_cases h:j<vs.length
 .rw[if_pos h,List.getElem?_append_left h]
 .rw[if_neg h,List.getElem?_append_right (by omega)]
theorem Rows.append {B B':Nat} {w:World} {vs us:List NV} {ns ms:List Gr.Nd} (h:Rows B w vs ns) (hlt:∀j b g,(ints vs j b).v.ownBlock=some g->g<B') (h2:Rows B' w us ms) (hB:B<=B'):Rows B w (vs++us) (ns++ms):=by
 have e:=h.len;have d:=h2.len;refine⟨by simp[e,d],fun j l k=>?_,fun j b=>?_,fun j b f i g c a=>?_⟩
 .by_cases hj:j<vs.length
  .rw[List.getElem_append_left hj,List.getElem_append_left (by omega)];exact h.kind j hj (by omega)
  .rw[List.getElem_append_right (by omega),List.getElem_append_right (by omega)];simp only[e];exact h2.kind _ (by rw[List.length_append]at l;omega) (by rw[List.length_append]at k;omega)
 .rw[zlh,znj,<-e];by_cases hj:j<vs.length
  .rw[if_pos hj,if_pos hj];exact h.own j b
  .rw[if_neg hj,if_neg hj];exact(h2.own _ b).lower hB
 .rw[zlh]at c a;by_cases hj:j<vs.length
  .rw[if_pos hj]at c;by_cases hj':f<vs.length
   .rw[if_pos hj']at a;exact h.apart j b f i g c a
   .rw[if_neg hj']at a;have:=hlt _ _ _ c;have:=((h2.own _ i).lt g a).1;omega
  .rw[if_neg hj]at c;by_cases hj':f<vs.length
   .rw[if_pos hj']at a;have:=hlt _ _ _ a;have:=((h2.own _ b).lt g c).1;omega
   .rw[if_neg hj']at a;have:=h2.apart _ b _ i g c a;exact⟨by omega,this.2⟩
abbrev rootC (kind:Int) (ord:Bool) (x y:SV):Array Value:=#[.int .i64 kind,.string ⟨#[]⟩,.bool ord,x.v,y.v]
structure LsM (w0 wr:World) (h:Nat) (vO:Value) (kind:Int) (ord:Bool) (vs:List NV) (sk si:SV) (ks is:List Nat) (ns:List Gr.Nd):Prop where
 below:Below h w0 wr
 row:OwnRow nodeL wr (h+1) 40 vO (⟨kind,[],ord,SV.nil,SV.nil⟩::vs)
 rows:Rows (h+1) wr (⟨kind,[],ord,sk,si⟩::vs) (⟨kind,[],ord,ks,is⟩::ns)
 box:Blk wr h 40 (rootC kind ord sk si)
 hd:h+1<=wr.heap.size
section
variable {w0 wr w2 w3:World} {h:Nat} {vO v':Value} {kind:Int} {ord:Bool} {vs us:List NV} {sk si:SV} {ks is:List Nat} {ns ms:List Gr.Nd}
theorem LsM.later (H:LsM w0 wr h vO kind ord vs sk si ks is ns) (hb:Below wr.heap.size wr w2):LsM w0 w2 h vO kind ord vs sk si ks is ns:=
 ⟨H.below.trans (hb.mono (by have:=H.hd;omega)),H.row.later hb,H.rows.later hb,H.box.below hb H.box.lt,Nat.le_trans H.hd hb.size⟩
theorem LsM.growI (H:LsM w0 wr h vO kind ord vs sk si ks is ns) {x:SV} {l:List Nat} (ho:OwnRow intL w2 (h+1) 3 x.v l) (hg:wr.grownBy w2 si.v.ownBlock) (hat:x.v.ownBlock=si.v.ownBlock\/x.v.ownBlock=some wr.heap.size):
 LsM w0 (w2.setCell ⟨h,4,none⟩ x.v) h vO kind ord vs sk x ks l ns:=by
 have d:OwnRow intL wr (h+1) 3 si.v is:=H.rows.own 0 true;have a:KeptT 40 wr w2:=KeptT.grown hg d (by decide);have f:Below (h+1) wr w2:=d.grown_below hg H.hd;have b:Below h wr (w2.setCell ⟨h,4,none⟩ x.v):=(f.mono (Nat.le_succ h)).setCell (p:=⟨h,4,none⟩) (Nat.le_refl h) _;have c:Blk w2 h 40 (rootC kind ord sk si):=a _ _ H.box;refine⟨H.below.trans b,(H.row.kept a).setCell (fun e=>by have:=(H.row.lt _ e).1;simp at this;omega) _,?_,c.set_ 4 _,Nat.le_trans H.hd b.size⟩;have:=H.rows.grow (w':=w2) 0 true ⟨kind,[],ord,sk,x⟩ ⟨kind,[],ord,ks,l⟩ (by simp) ⟨rfl,rfl,rfl⟩ ⟨rfl,rfl,rfl⟩ rfl rfl ho hg hat;exact this.kept (KeptT.setCell (p:=⟨h,4,none⟩) c (by decide) _)
theorem LsM.growK (H:LsM w0 wr h vO kind ord vs sk si ks is ns) {x:SV} {l:List Nat} (ho:OwnRow intL w2 (h+1) 3 x.v l) (hg:wr.grownBy w2 sk.v.ownBlock) (hat:x.v.ownBlock=sk.v.ownBlock\/x.v.ownBlock=some wr.heap.size):
 LsM w0 (w2.setCell ⟨h,3,none⟩ x.v) h vO kind ord vs x si l is ns:=by
 have d:OwnRow intL wr (h+1) 3 sk.v ks:=H.rows.own 0 false;have a:KeptT 40 wr w2:=KeptT.grown hg d (by decide);have f:Below (h+1) wr w2:=d.grown_below hg H.hd;have b:Below h wr (w2.setCell ⟨h,3,none⟩ x.v):=(f.mono (Nat.le_succ h)).setCell (p:=⟨h,3,none⟩) (Nat.le_refl h) _;have c:Blk w2 h 40 (rootC kind ord sk si):=a _ _ H.box;refine⟨H.below.trans b,(H.row.kept a).setCell (fun e=>by have:=(H.row.lt _ e).1;simp at this;omega) _,?_,c.set_ 3 _,Nat.le_trans H.hd b.size⟩;have:=H.rows.grow (w':=w2) 0 false ⟨kind,[],ord,x,si⟩ ⟨kind,[],ord,l,is⟩ (by simp) ⟨rfl,rfl,rfl⟩ ⟨rfl,rfl,rfl⟩ rfl rfl ho hg hat;exact this.kept (KeptT.setCell (p:=⟨h,3,none⟩) c (by decide) _)
theorem LsM.push (H:LsM w0 wr h vO kind ord vs sk si ks is ns) (hb:Below wr.heap.size wr w2) (ht:Rows wr.heap.size w2 us ms) (ho:OwnRow nodeL w3 (h+1) 40 v' ((⟨kind,[],ord,SV.nil,SV.nil⟩::vs)++us)) (hg:w2.grownBy w3 vO.ownBlock):
 LsM w0 w3 h v' kind ord (vs++us) sk si ks is (ns++ms):=by
 have a:=H.later hb;have d:KeptT 3 w2 w3:=KeptT.grown hg a.row (by decide);have c:Below (h+1) w2 w3:=a.row.grown_below hg a.hd;refine⟨a.below.trans (c.mono (Nat.le_succ h)),ho,?_,a.box.grown hg (fun e=>by have:=(a.row.lt h e.symm).1;omega),Nat.le_trans a.hd c.size⟩;exact((H.rows.later hb).append (fun j b g e=>((H.rows.own j b).lt g e).2) ht H.hd).kept d
theorem LsM.fin (H:LsM w0 wr h vO kind ord vs sk si ks is ns):∃g c,vO=.slice (some ⟨g,0,none⟩) (vs.length+1) c/\(∀i,wr.frozen? ⟨g,i,none⟩=false)/\(wr.cell? ⟨g,0,none⟩=some (.int .i64 kind)/\wr.cell? ⟨g,1,none⟩=some (.string ⟨#[]⟩)/\wr.cell? ⟨g,2,none⟩=some (.bool ord)/\wr.cell? ⟨g,3,none⟩=some (.slice none 0 0)/\wr.cell? ⟨g,4,none⟩=some (.slice none 0 0))/\
 (∀W,W=((((wr.setCell ⟨g,0,none⟩ (.int .i64 kind)).setCell ⟨g,1,none⟩ (.string ⟨#[]⟩)).setCell ⟨g,2,none⟩ (.bool ord)).setCell ⟨g,3,none⟩ sk.v).setCell ⟨g,4,none⟩ si.v->Below h w0 W/\Tab (h+1) W vO (⟨kind,[],ord,sk,si⟩::vs) (⟨kind,[],ord,ks,is⟩::ns)):=by
 obtain⟨g,l,rest,m,hcap,a,hbg,d⟩:=H.row.row (by simp);refine⟨g,l,m,a.frozen,⟨a.cell 0,a.cell 1,a.cell 2,a.cell 3,a.cell 4⟩,fun W k=>?_⟩;have f:=znf a 0 (by simp) ⟨kind,[],ord,sk,si⟩;simp only[Nat.zero_mul,Nat.zero_add]at f;rw[<-k]at f;have e:∀(w1:World) (cs:Array Value) (i:Nat) (u:Value),Blk w1 g 40 cs->KeptT 3 w1 (w1.setCell ⟨g,i,none⟩ u):=fun w1 cs i u a=>KeptT.setCell (p:=⟨g,i,none⟩) a (by decide) u
 have j:KeptT 3 wr W:=by
  rw[k];exact((((e _ _ _ _ a).trans (e _ _ _ _ (a.set_ 0 _))).trans (e _ _ _ _ ((a.set_ 0 _).set_ 1 _))).trans (e _ _ _ _ (((a.set_ 0 _).set_ 1 _).set_ 2 _))).trans (e _ _ _ _ ((((a.set_ 0 _).set_ 1 _).set_ 2 _).set_ 3 _))
 have b:h<=g:=by omega
 refine⟨?_,d _ _ (by simp) f,H.rows.kept j⟩;rw[k];exact((((H.below.setCell (p:=⟨g,0,none⟩) b _).setCell (p:=⟨g,1,none⟩) b _).setCell (p:=⟨g,2,none⟩) b _).setCell (p:=⟨g,3,none⟩) b _).setCell (p:=⟨g,4,none⟩) b _
end
namespace Gr
structure FewG (g:List Ni×Int):Prop where
 len:g.1.length<=40
 each:∀y∈g.1,y.text.length<=100/\y.keys.length<=80/\y.items.length<=80
structure GoodG (g:List Ni×Int):Prop extends FewG g where
 refs:Refs (g.1.map Ni.nd)
 root:g.2.toNat<g.1.length
theorem zli {gs:List Nd} (h:Refs gs) (d:Nat):∀x∈gs.map (shN d),∀r∈x.keys++x.items,r<d+gs.length:=by
 intro x b r a;obtain⟨y,c,rfl⟩:=List.mem_map.1 b;have a:r∈y.keys.map (· +d)++y.items.map (· +d):=a;rw[<-List.map_append]at a;obtain⟨u,e,rfl⟩:=List.mem_map.1 a;have:=h y c u e;omega
theorem zri {g:List Ni×Int} (h:FewG g) (d:Nat):∀x∈(g.1.map Ni.nd).map (shN d),x.keys.length<=80/\x.items.length<=80/\x.text.length<=100:=by
 intro x b;obtain⟨y,a,rfl⟩:=List.mem_map.1 b;obtain⟨z,c,rfl⟩:=List.mem_map.1 a;have:=h.each z c;simp only[shN,Ni.nd,List.length_map];omega
end Gr
theorem zrj {x:GArg} (hf:Gr.FewG x.p) (hc:x.chk sclX=0):Gr.GoodG x.p:=by
 obtain⟨h1,h2,d⟩:=zuz hc;obtain⟨r,c,b,h0,a⟩:=zu0 d;exact⟨hf,a,by show x.root.toNat<x.is.length;rw[c];simpa using b⟩
open Go.Shelf Go.Lib Go.ChangeShapes Go.WideShapes Go.ChangeAt Go.RowKit
def laid7:List (String×DataW Unit):=Rows.graphMapsRow.laid
theorem own:ownKnob prog.godebug=none:=by kernel_rfl
theorem zud:Rows.laid_unicode_utf8_first=Lib.firstData:=by kernel_rfl
theorem zr2:(Rows.laid_unicode_utf8_acceptRanges:DataW Unit)=Lib.acceptData:=by kernel_rfl
noncomputable def laidWorld (os:Os):World:=World.laidAll prog os laid7
theorem zue (os:Os) (args:Array Value):laidMet prog laid7 ((laidWorld os).forCall (fun _ _=>0) ⟨#[],args,[]⟩).memory:=laidMet_laidAll _ (by kernel_rfl) (by kernel_rfl)
theorem zr3:("unicode/utf8.first",Lib.firstData)∈laid7:=by
 rw[<-zud];exact .tail _ (.tail _ (.tail _ (.tail _ (.tail _ (.tail _ (.head _))))))
theorem znu:("unicode/utf8.acceptRanges",Lib.acceptData)∈laid7:=by
 rw[<-zr2];exact .tail _ (.tail _ (.tail _ (.head _)))
theorem zja {W:World} (h:laidMet prog laid7 W):Lib.Utf8Tabs 1 2 W:=
 utf8Tabs_of_readsT (ρ:=lays197_ren) {lays197 with} ⟨by kernel_rfl,by kernel_rfl,by kernel_rfl,by kernel_rfl,by kernel_rfl,by kernel_rfl,by kernel_rfl⟩ (Lib.laidMet.reads h zr3) (Lib.laidMet.reads h znu)
theorem zu5 {W:World} {n:String} {k:IntKind} {zs:List Int} {t e:TypeId} {m g:Nat} (hg:prog.globalNamed n=some g) (hty:(prog.globals[g]?).map (·.type)=some t) (ht:prog.underlying t=some (.array m e)) (he:prog.underlying e=some (.int k)) (hce:prog.cellsOf e=1) (hct:prog.cellsOf t=m)
 (h:Lib.VarReads prog W n (Lib.tabData k zs)):Lib.TabIs prog W n k zs:=by
 obtain⟨g',t',cs,fuel,p,c,b,a,d⟩:=h;obtain rfl:=Option.some.inj (hg.symm.trans c);obtain rfl:=Option.some.inj (hty.symm.trans b);unfold Lib.TabIs;rw[a,<-Lib.cells_of_tab ht he hce hct d]
theorem zlo {W:World} {n:String} {t g:Nat} {ms:Array (String×TypeId)} {nm:String} {d:DataW Unit} (hg:prog.globalNamed n=some g) (hty:(prog.globals[g]?).map (·.type)=some t) (ht:prog.underlying t=some (.interface ms))
 (h:Lib.VarReads prog W n (.iface nm d)):∃te p,W.cell? ⟨g,0,none⟩=some (.iface te p):=by
 obtain⟨g',t',cs,a,p,f,e,b,c⟩:=h;obtain rfl:=Option.some.inj (hg.symm.trans f);obtain rfl:=Option.some.inj (hty.symm.trans e);cases a with
 |zero=>simp[DataW.trod]at c
 |succ a=>
  have h0:=World.var?_cell hg b 0;unfold DataW.trod at c;rw[ht]at c;split at c<;>simp_all;rename_i hcs;rw[<-Array.getElem?_toList,hcs];exact⟨_,_,rfl⟩
theorem zyo:(Rows.laid_internal_strconv_uint64pow10:DataW Unit)=Lib.tabData .u64 Lib.pow10Tab:=by kernel_rfl
theorem zyp:(Rows.laid_math_bits_deBruijn64tab:DataW Unit)=Lib.tabData .u8 (Lib.deBruijn64tab.map Int.ofNat):=by kernel_rfl
theorem znv {W:World} (hl:laidMet prog laid7 W):UT W:=by
 have h:=zja hl;have a:("math/bits.deBruijn64tab",(Rows.laid_math_bits_deBruijn64tab:DataW Unit))∈laid7:=.tail _ (.head _);have c:("internal/strconv.uint64pow10",(Rows.laid_internal_strconv_uint64pow10:DataW Unit))∈laid7:=.tail _ (.tail _ (.head _));have i:("strconv.ErrRange",(Rows.laid_strconv_ErrRange:DataW Unit))∈laid7:=.tail _ (.tail _ (.tail _ (.tail _ (.head _))));have k:("strconv.ErrSyntax",(Rows.laid_strconv_ErrSyntax:DataW Unit))∈laid7:=.tail _ (.tail _ (.tail _ (.tail _ (.tail _ (.head _)))));rw[zyp]at a;rw[zyo]at c;refine⟨h,?_,?_,?_,?_,?_⟩
 .have b:=(h.2 0 (by decide)).1;rcases Nat.lt_or_ge 2 W.heap.size with h1|h1
  .exact h1
  .rw[World.cell?]at b;simp[Array.getElem?_eq_none h1]at b
 .exact zu5 (t:=232) (e:=120) (m:=20) (g:=7) (by kernel_rfl) (by kernel_rfl) underlying232 underlying120 (by kernel_rfl) (by kernel_rfl) (Lib.laidMet.reads hl c)
 .have d:=zu5 (t:=204) (e:=5) (m:=64) (g:=6) (by kernel_rfl) (by kernel_rfl) underlying204 underlying5 (by kernel_rfl) (by kernel_rfl) (Lib.laidMet.reads hl a);intro j f;have:=d.cell (g:=6) (by kernel_rfl) j (by simpa using f);rw[this]
  congr 2
  rw[List.getD_eq_getElem?_getD,List.getD_eq_getElem?_getD,List.getElem?_map];cases Lib.deBruijn64tab[j]? <;>rfl
 .exact zlo (t:=106) (g:=4) (by kernel_rfl) (by kernel_rfl) underlying106 (Lib.laidMet.reads hl k)
 .exact zlo (t:=106) (g:=5) (by kernel_rfl) (by kernel_rfl) underlying106 (Lib.laidMet.reads hl i)
namespace Gr
section
variable {kind:Int} {text:Str} {ns:List Nd} {r:Nat}
end
end Gr
namespace Gr
def dupB (ns:List Nd) (r:Nat):Bool:=(counts ns r).any (fun n=>decide (1<n))
theorem zd4 (ns:List Nd) (r:Nat):(counts ns r).length=ns.length:=by unfold counts;rw[zbr,zb3];simp
theorem znd {f:Nat->List Nat} {a b:Nat} (h:Reach f a b):a=b\/∃u,b∈f u:=by
 induction h with
 |refl=>exact .inl rfl
 |step h1 _ ih=>
  rcases ih with rfl|h2
  .exact .inr ⟨_,h1⟩
  .exact .inr h2
theorem WellF.cnt {ns:List Nd} {r:Nat} (h:WellF ns r) (v:Nat) (hv:v<ns.length):1<=(counts ns r).getD v 0:=by
 rw[zcv hv];by_cases hvr:v=r
 .simp[hvr]
 .rcases znd (h.all v hv)with e|⟨u,hu⟩
  .exact absurd e.symm hvr
  .have:v∈Gr.refs ns:=by
    unfold succ at hu;cases hx:ns[u]? with
    |none=>rw[hx]at hu;cases hu
    |some x=>rw[hx]at hu;exact List.mem_flatMap.2 ⟨x,List.mem_of_getElem? hx,hu⟩
   have:=List.count_pos_iff.2 this;omega
theorem zts {ns:List Nd} {r:Nat} (h:WellF ns r):(counts ns r).all (fun n=>n==1)=!dupB ns r:=by
 unfold dupB;rw[List.not_any_eq_all_not];have hl:=zd4 ns r;rw[Bool.eq_iff_iff,List.all_eq_true,List.all_eq_true];constructor
 .intro b x a;have:=b x a;simp at this;simp[this]
 .intro b x a;have c:=b x a;obtain⟨i,d,rfl⟩:=List.mem_iff_getElem.1 a;have:=h.cnt i (by omega);rw[List.getD_eq_getElem?_getD,List.getElem?_eq_getElem d,Option.getD_some]at this;simp at c;simp;omega
end Gr
open Go.RowKit
theorem ztt (l:List Nat) (p:Nat->Bool) (k:Nat) (h:k<l.length):(l.take (k+1)).any p=((l.take k).any p || p l[k]):=by
 rw[List.take_succ_eq_append_getElem h,List.any_append];simp
theorem zne (A:Option Addr) (c root:Nat) (vs:List NV) (ns:List Gr.Nd) (hr:Refs ns) (hl:ns.length<=1000) (hks:∀n∈ns,n.keys.length<=1000/\n.items.length<=1000) (ha:root<ns.length) (w:World) (h:GAt w w.heap.size A vs ns):
 Calls prog 14 #[.agg #[.slice A ns.length c,.int .i64 root]] w fun e w'=>e=.returned (.bool (Gr.dupB ns root))/\Below w.heap.size w w':=by
 have M:Hid (∀W,Below w.heap.size w W->Calls prog 27 #[.agg #[.slice A ns.length c,.int .i64 root]] W fun e w'=>∃ob,e=.returned (.slice (some ⟨ob,0,none⟩) ns.length ns.length)/\W.heap.size<=ob/\Below W.heap.size W w'/\Blk w' ob 3 (icells (counts ns root))):=hid (fun W H=>
  zfz A c root vs ns hr (by omega) (fun n s=>by have:=hks n s;omega) (by
   have:(Gr.refs ns).length<=ns.length*2000:=by
    clear h hr ha hl;unfold Gr.refs
    induction ns with
    |nil=>simp
    |cons x l ih=>
     have q:=hks x List.mem_cons_self;have h2:=ih (fun n s=>hks n (List.mem_cons_of_mem _ s));simp only[List.flatMap_cons,List.length_append,List.length_cons];omega
   omega) W ((h.below H).more H.size) ha)
 have d:=hid (Gr.zd4 ns root);obtain⟨N,m⟩:=ex ns.length
 have z:Hid (Gr.dupB ns root=(counts ns root).any (fun n=>decide (1<n))):=hid rfl;obtain⟨C,o⟩:=ex (counts ns root)
 rw[m,o]at M;rw[o]at z;rw[o,m]at d;rw[m];have hNb:N<=1000:=by omega
 clear h hr hks ha o m hl;go_enter func14,ntmps14;go_upto_region 1 with fail;obtain⟨u,b⟩:=ex (w.alloc (.cells #[.slice A N c,.int .i64 root] 27))
 have G:Below w.heap.size w u:=by rw[<-b];exact(Below.refl _ _).alloc (Nat.le_refl _) _
 have J:Blk u w.heap.size 27 #[.slice A N c,.int .i64 root]:=by rw[<-b];exact Blk.new _ _ _
 obtain⟨R,P⟩:=cells2 J;have r:=hid G;(try rw[b]);clear b G J;go_wp2_with fail;refine(M.out u r.out).mono ?_;rintro e D ⟨ob,rfl,t,g,K⟩;have I:Hid (Below w.heap.size w D):=hid (r.out.trans (g.mono r.out.size));have O:=hid K;clear g K t R P;go_upto_region 2 with fail;go_loopw [8] (fun s8 wr=>∃j:Nat,j<=N/\s8=.int .i64 j/\Hid (Below D.heap.size D wr/\(C.take j).any (fun n=>decide (1<n))=false)) (fun s8 _=>N-(RowKit.intOf s8).toNat)
 case atStart=>exact⟨0,by omega,rfl,hid ⟨Below.refl _ _,rfl⟩⟩
 case round=>
  obtain⟨j,hj,rfl,i⟩:=hrel;obtain⟨k,B⟩:∃k,k=wr:=⟨_,rfl⟩
  subst B;have L:Hid (Below w.heap.size w k):=hid (I.out.trans (i.out.1.mono I.out.size));by_cases hlt:j<N
  .have f:(j:Int)<(N:Int):=by omega
   have a:j<C.length:=by rw[d.out];exact hlt
   obtain⟨v,p⟩:=ex (C[j])
   have z0:k.cell? ⟨ob,j,none⟩=some (.int .i64 (v:Int)):=by rw[(O.out.below i.out.1 O.out.lt).cell,zad a,List.getD_eq_getElem?_getD,List.getElem?_eq_getElem a,p];rfl
   have T:Hid ((C.take (j+1)).any (fun n=>decide (1<n))=decide (1<v)):=hid (by rw[ztt _ _ _ a,i.out.2,p];rfl);have Q:Hid (1<v->C.any (fun n=>decide (1<n))=true):=hid (fun h=>List.any_eq_true.2 ⟨_,List.getElem_mem a,by rw[p];exact decide_eq_true h⟩);clear p a;by_cases q:1<v
   .have E:(1:Int)<(v:Int):=by omega
    have y:=hid (Q.out q);go_wp2;go_ret;exact⟨by rw[z.out,y.out];rfl,L.out⟩
   .have E:¬(1:Int)<(v:Int):=by omega
    have F:Hid ((C.take (j+1)).any (fun n=>decide (1<n))=false):=hid (by rw[T.out];exact decide_eq_false q);clear q;go_wp2;go_roundw
    case rel=>exact⟨j+1,by omega,by go_num,hid ⟨i.out.1,F.out⟩⟩
    case measure=>simp[RowKit.intOf];omega
  .have f:¬(j:Int)<(N:Int):=by omega
   have S:Hid (C.any (fun n=>decide (1<n))=false):=hid (by have:=i.out.2;rwa[List.take_of_length_le (by rw[d.out];omega)]at this);go_wp2;go_ret;exact⟨by rw[z.out,S.out];rfl,L.out⟩
theorem zrc (A:Option Addr) (c root:Nat) (vs:List NV) (ns:List Gr.Nd) (hw:WellF ns root) (hl:ns.length<=1000) (hks:∀n∈ns,n.keys.length<=1000/\n.items.length<=1000) (w:World) (h:GAt w w.heap.size A vs ns):
 Calls prog 18 #[.agg #[.slice A ns.length c,.int .i64 root]] w fun e w'=>e=.returned (.bool (!Gr.dupB ns root))/\Below w.heap.size w w':=by
 have I:Hid (∀W,Below w.heap.size w W->Calls prog 34 #[.agg #[.slice A ns.length c,.int .i64 root]] W fun e w'=>∃ob,e=.returned (.slice (some ⟨ob,0,none⟩) ns.length ns.length)/\W.heap.size<=ob/\Below W.heap.size W w'/\Blk w' ob 3 (icells (counts ns root))):=hid (fun W D=>
  zfl A c root vs ns hw.refs hl hks hw.root W ((h.below D).more D.size))
 have d:=hid (Gr.zd4 ns root);have u:=hid (Gr.zts hw);obtain⟨N,l⟩:=ex ns.length
 obtain⟨C,m⟩:=ex (counts ns root)
 rw[l,m]at I;rw[m]at u;rw[m,l]at d;rw[<-u.out,l];have hNb:N<=1000:=by omega
 clear h hks m l hl hw u;go_enter func18,ntmps18;go_upto_region 1 with fail;obtain⟨s,b⟩:=ex (w.alloc (.cells #[.slice A N c,.int .i64 root] 27))
 have B:Below w.heap.size w s:=by rw[<-b];exact(Below.refl _ _).alloc (Nat.le_refl _) _
 have F:Blk s w.heap.size 27 #[.slice A N c,.int .i64 root]:=by rw[<-b];exact Blk.new _ _ _
 obtain⟨M,K⟩:=cells2 F;have p:=hid B;(try rw[b]);clear b B F;go_wp2_with fail;refine(I.out s p.out).mono ?_;rintro e y ⟨ob,rfl,r,g,G⟩;have E:Hid (Below w.heap.size w y):=hid (p.out.trans (g.mono p.out.size));have J:=hid G;clear g G r M K;go_upto_region 3 with fail;go_loopw [4] (fun s4 wr=>∃j:Nat,j<=N/\s4=.int .i64 j/\Hid (Below y.heap.size y wr/\(C.take j).all (fun n=>n==1)=true)) (fun s4 _=>N-(RowKit.intOf s4).toNat)
 case atStart=>exact⟨0,by omega,rfl,hid ⟨Below.refl _ _,rfl⟩⟩
 case round=>
  obtain⟨j,hj,rfl,i⟩:=hrel;obtain⟨k,x⟩:∃k,k=wr:=⟨_,rfl⟩
  subst x;have H:Hid (Below w.heap.size w k):=hid (E.out.trans (i.out.1.mono E.out.size));by_cases hlt:j<N
  .have f:(j:Int)<(N:Int):=by omega
   have a:j<C.length:=by rw[d.out];exact hlt
   obtain⟨v,o⟩:=ex (C[j])
   have z0:k.cell? ⟨ob,j,none⟩=some (.int .i64 (v:Int)):=by rw[(J.out.below i.out.1 J.out.lt).cell,zad a,List.getD_eq_getElem?_getD,List.getElem?_eq_getElem a,o];rfl
   have P:Hid ((C.take (j+1)).all (fun n=>n==1)=(v==1)):=hid (by rw[List.take_succ_eq_append_getElem a,List.all_append,i.out.2,o];simp);have L:Hid (v≠1->C.all (fun n=>n==1)=false):=hid (fun h=>List.all_eq_false.2 ⟨_,List.getElem_mem a,by rw[o];simpa using h⟩);clear o a;by_cases h1:v=1
   .have z:Hid ((C.take (j+1)).all (fun n=>n==1)=true):=hid (by rw[P.out,h1];rfl);subst h1;have q:(((1:Nat):Int) != 1)=false:=rfl;go_wp2;go_roundw
    case rel=>exact⟨j+1,by omega,by go_num,hid ⟨i.out.1,z.out⟩⟩
    case measure=>simp[RowKit.intOf];omega
   .have q:((v:Int) != 1)=true:=by rw[bne_iff_ne];omega
    have t:=hid (L.out h1);clear h1;go_wp2;go_ret;exact⟨by rw[t.out];rfl,H.out⟩
  .have f:¬(j:Int)<(N:Int):=by omega
   have O:Hid (C.all (fun n=>n==1)=true):=hid (by have:=i.out.2;rwa[List.take_of_length_le (by rw[d.out];omega)]at this);go_wp2;go_ret;exact⟨by rw[O.out];rfl,H.out⟩
namespace Gr
abbrev GP:=List Ni×Int
def mstepI (p:(List Nat×List Nat)×List Nd) (g:GP×GP):(List Nat×List Nat)×List Nd:=
 ((p.1.1++[g.1.2.toNat+(p.2.length+1)],p.1.2++[g.2.2.toNat+(p.2.length+g.1.1.length+1)]),(p.2++(g.1.1.map Ni.nd).map (shN (p.2.length+1)))++(g.2.1.map Ni.nd).map (shN (p.2.length+g.1.1.length+1)))
def mapI (gs:List (GP×GP)):(List Nat×List Nat)×List Nd:=gs.foldl mstepI (([],[]),[])
def mapN (ord:Bool) (gs:List (GP×GP)):List Nd:=⟨10,[],ord,(mapI gs).1.1,(mapI gs).1.2⟩::(mapI gs).2
structure MOk (p:(List Nat×List Nat)×List Nd) (k:Nat):Prop where
 kl:p.1.1.length=k
 il:p.1.2.length=k
 nl:p.2.length<=k*80
 refs:∀r∈p.1.1++p.1.2,r<p.2.length+1
 refs2:∀x∈p.2,∀r∈x.keys++x.items,r<p.2.length+1
 each:∀x∈p.2,x.keys.length<=80/\x.items.length<=80/\x.text.length<=100
theorem MOk.step {p:(List Nat×List Nat)×List Nd} {k:Nat} (h:MOk p k) {g:GP×GP} (hk:GoodG g.1) (hv:GoodG g.2):MOk (mstepI p g) (k+1):=by
 obtain⟨i,d,h3,c,f,e⟩:=h;have hl:=hk.len;have hl2:=hv.len;have r1:=hk.root;have r2:=hv.root;have a:(mstepI p g).2.length=p.2.length+g.1.1.length+g.2.1.length:=by simp[mstepI];omega
 refine⟨by simp[mstepI,i],by simp[mstepI,d],by rw[a];omega,fun r b=>?_,fun x hx r b=>?_,fun x hx=>?_⟩
 .rw[a];simp only[mstepI,List.mem_append,List.mem_singleton]at b;rcases b with(b|rfl)| (b|rfl)
  .have:=c r (List.mem_append_left _ b);omega
  .omega
  .have:=c r (List.mem_append_right _ b);omega
  .omega
 .rw[a];rcases List.mem_append.1 hx with hx|hx
  .rcases List.mem_append.1 hx with hx|hx
   .have:=f x hx r b;omega
   .have:=zli hk.refs _ x hx r b;rw[List.length_map]at this;omega
  .have:=zli hv.refs _ x hx r b;rw[List.length_map]at this;omega
 .rcases List.mem_append.1 hx with hx|hx
  .rcases List.mem_append.1 hx with hx|hx
   .exact e x hx
   .exact zri hk.toFewG _ x hx
  .exact zri hv.toFewG _ x hx
theorem zka (gs:List (GP×GP)) (h:∀g∈gs,GoodG g.1/\GoodG g.2):MOk (mapI gs) gs.length:=by
 have c:∀(gs:List (GP×GP)) (p:(List Nat×List Nat)×List Nd) (k:Nat),(∀g∈gs,GoodG g.1/\GoodG g.2)->MOk p k->MOk (gs.foldl mstepI p) (k+gs.length):=by
  intro gs
  induction gs with
  |nil=>intro p k _ h;exact h
  |cons g gs ih=>
   intro p k b h;have:=ih (mstepI p g) (k+1) (fun x a=>b x (List.mem_cons_of_mem _ a)) (h.step (b g List.mem_cons_self).1 (b g List.mem_cons_self).2);rw[List.length_cons,show k+(gs.length+1)=k+1+gs.length by omega];exact this
 have:=c gs (([],[]),[]) 0 h ⟨rfl,rfl,by simp,fun r d=>by simp at d,fun x a=>by simp at a,fun x a=>by simp at a⟩;rwa[Nat.zero_add]at this
end Gr
theorem mapOk {gs:List (Gr.GP×Gr.GP)} (ord:Bool) (h:∀g∈gs,Gr.GoodG g.1/\Gr.GoodG g.2) (hl:gs.length<=6):Gr.Refs (Gr.mapN ord gs)/\0<(Gr.mapN ord gs).length/\(Gr.mapN ord gs).length<=1000/\∀n∈Gr.mapN ord gs,n.keys.length<=1000/\n.items.length<=1000/\n.text.length<=1000:=by
 obtain⟨h1,h2,h3,d,c,b⟩:=Gr.zka gs h;refine⟨fun x hx r a=>?_,by simp[Gr.mapN],by rw[Gr.mapN,List.length_cons];omega,fun n hn=>?_⟩
 .rw[Gr.mapN,List.length_cons];rcases List.mem_cons.1 hx with rfl|hx
  .exact d r a
  .exact c x hx r a
 .rcases List.mem_cons.1 hn with rfl|hn
  .simp;omega
  .have:=b n hn;omega
structure PArg where
 k:GArg
 v:GArg
def PArg.p (x:PArg):Gr.GP×Gr.GP:=(x.k.p,x.v.p)
def pairL:Lay PArg:={enc:=fun x=>[.slice x.k.a x.k.is.length x.k.c,.int .i64 x.k.root,.slice x.v.a x.v.is.length x.v.c,.int .i64 x.v.root],sz:=4,len:=fun _=>rfl,one:=fun x u hu=>by simp at hu;rcases hu with rfl|rfl|rfl|rfl<;>rfl,pos:=by omega}
abbrev pairC (x:PArg):Array Value:=#[.slice x.k.a x.k.is.length x.k.c,.int .i64 x.k.root,.slice x.v.a x.v.is.length x.v.c,.int .i64 x.v.root]
theorem zrp {w:World} {B:Nat} {A:Option Addr} {l:List PArg} {k:Nat} (h:RowAt pairL w B A l) (hk:k<l.length):∃ad,A=some ad/\ad.block<B/\w.cell? (ad.add (k*4))=some (.slice l[k].k.a l[k].k.is.length l[k].k.c)/\
 w.cell? {block:=(ad.add (k*4)).block,off:=(ad.add (k*4)).off+1}=some (.int .i64 l[k].k.root)/\w.cell? {block:=(ad.add (k*4)).block,off:=(ad.add (k*4)).off+2}=some (.slice l[k].v.a l[k].v.is.length l[k].v.c)/\
 w.cell? {block:=(ad.add (k*4)).block,off:=(ad.add (k*4)).off+3}=some (.int .i64 l[k].v.root):=by
 obtain⟨ad,d,e,f,b⟩:=h.get hk;exact⟨ad,d,e,f _ rfl,b 1 _ (by omega) rfl,b 2 _ (by omega) rfl,b 3 _ (by omega) rfl⟩
structure PsAt (w:World) (B:Nat) (A:Option Addr) (l:List PArg):Prop where
 row:RowAt pairL w B A l
 each:∀x∈l,IAt w B x.k.a x.k.vs x.k.is/\IAt w B x.v.a x.v.vs x.v.is
theorem PsAt.below {w w':World} {B:Nat} {A:Option Addr} {l:List PArg} (h:PsAt w B A l) (hb:Below B w w'):PsAt w' B A l:=⟨h.row.below hb,fun x a=>⟨(h.each x a).1.below hb,(h.each x a).2.below hb⟩⟩
noncomputable def PArg.bad (x:PArg):Bool:=x.k.chk sclX != 0 || x.v.chk sclX != 0
noncomputable def PArg.dup (x:PArg):Bool:=Gr.dupB (x.k.is.map Gr.Ni.nd) x.k.root.toNat
noncomputable def mapL (ord:Bool) (l:List PArg):List Gr.Ni×Nat:=
 if l.any PArg.bad=true then([],3)else if l.any PArg.dup=true then([],16)else if checkG sclX (Gr.mapN ord (l.map PArg.p)) 0≠0 then([],checkG sclX (Gr.mapN ord (l.map PArg.p)) 0)else((Gr.mapN ord (l.map PArg.p)).map Gr.Nd.ni,0)
def za6 (L:List Gr.Ni×Nat) (w:World) (e:Ending) (w':World):Prop:=
 Below w.heap.size w w'/\∃A2 c2 vs2,e=.returned (.tuple #[.agg #[.slice A2 L.1.length c2,.int .i64 0],.int .i64 (L.2:Nat)])/\∀W',KeptT 40 w' W'->KeptT 3 w' W'->IAt W' W'.heap.size A2 vs2 L.1
theorem za6.zero {w w':World} (no:Nat) (h:Below w.heap.size w w'):za6 ([],no) w (.returned (.tuple #[gZero,.int .i64 (no:Nat)])) w':=⟨h,none,0,[],rfl,fun _ _ _=>inil _⟩
theorem goodsP {l:List PArg} (hf:∀x∈l,Gr.FewG x.k.p/\Gr.FewG x.v.p) (hn:l.any PArg.bad=false):∀x∈l,Gr.GoodG x.k.p/\Gr.GoodG x.v.p:=by
 intro x a;rw[List.any_eq_false]at hn;have:=hn x a;simp[PArg.bad]at this;exact⟨zrj (hf x a).1 this.1,zrj (hf x a).2 this.2⟩
theorem goodsM {l:List PArg} (h:∀x∈l,Gr.GoodG x.k.p/\Gr.GoodG x.v.p):∀g∈l.map PArg.p,Gr.GoodG g.1/\Gr.GoodG g.2:=by
 intro g a;obtain⟨x,b,rfl⟩:=List.mem_map.1 a;exact h x b
theorem zxa {l:List PArg} (ord:Bool) (hl:l.length<=6) (hf:∀x∈l,Gr.FewG x.k.p/\Gr.FewG x.v.p):
 Sz (mapL ord l).1/\((mapL ord l).2=0->∀A2 c2 vs2 W,UT W->IAt W W.heap.size A2 vs2 (mapL ord l).1->ChkOk W (.agg #[.slice A2 (mapL ord l).1.length c2,.int .i64 0]) 0):=by
 unfold mapL;by_cases hn:l.any PArg.bad=true
 .rw[if_pos hn];exact⟨zro,fun h=>absurd h (by decide)⟩
 .rw[if_neg hn];rw[Bool.not_eq_true]at hn;by_cases hd:l.any PArg.dup=true
  .rw[if_pos hd];exact⟨zro,fun h=>absurd h (by decide)⟩
  .rw[if_neg hd];by_cases hc:checkG sclX (Gr.mapN ord (l.map PArg.p)) 0=0
   .rw[if_neg (fun h=>h hc)];obtain⟨e,c,a,b⟩:=mapOk ord (goodsM (goodsP hf hn)) (by simpa using hl);refine⟨zy4 a b,fun _ A2 c2 vs2 W d f=>?_⟩;have:=ck_g e c a b A2 c2 vs2 W d (zyk f);rw[hc]at this;rw[List.length_map];exact this
   .rw[if_pos hc];exact⟨zro,fun h=>absurd h hc⟩
theorem zlj {l:List PArg} (ord:Bool) (h1:l.any PArg.bad=false) (h2:l.any PArg.dup=false):mapL ord l=(if checkG sclX (Gr.mapN ord (l.map PArg.p)) 0≠0 then([],checkG sclX (Gr.mapN ord (l.map PArg.p)) 0)else((Gr.mapN ord (l.map PArg.p)).map Gr.Nd.ni,0)):=by
 unfold mapL;rw[if_neg (by rw[h1];decide),if_neg (by rw[h2];decide)]
theorem zlk {ns:List Gr.Nd} {cz n4 c4 B n c:Nat} {A A4:Option Addr} {w w':World} (hb:Below w.heap.size w w') (_hn:ns.length=n) (hz:(cz=0->A4=A/\n4=n/\c4=c)/\(cz≠0->A4=none/\n4=0/\c4=0)) (ht:cz=0->∃vs,Tab B w' (.slice A4 n4 c4) vs ns):
 za6 (if cz≠0 then([],cz)else(ns.map Gr.Nd.ni,0)) w (.returned (.tuple #[.agg #[.slice A4 n4 c4,.int .i64 0],.int .i64 (cz:Nat)])) w':=by
 by_cases h0:cz=0
 .obtain⟨vs,a⟩:=ht h0;obtain⟨_,h2,_⟩:=hz.1 h0;rw[if_neg (fun h=>h h0)];clear ht hz;subst h0;refine⟨hb,A4,c4,vs,?_,fun j f i=>?_⟩
  .obtain⟨g,k,b,_⟩:=a.at_;injection b with e1 e2 e3
   rw[List.length_map,<-e2]
  .have d:Tab B j (.slice A4 n4 c4) vs ns:=⟨a.row.kept f,a.rows.kept i⟩
   obtain⟨g,k,b,e⟩:=d.at_;injection b with e1 e2 e3
   subst e1;exact e.toI
 .rw[if_pos h0];obtain⟨rfl,rfl,rfl⟩:=hz.2 h0;exact⟨hb,none,0,[],rfl,fun _ _ _=>inil _⟩
theorem Tab.pushK {B:Nat} {w1 w2:World} {g n cap k:Nat} {x:NV} {vl:List NV} {m:Gr.Nd} {nl:List Gr.Nd} {v:Value} (h:Tab B w1 (.slice (some ⟨g,0,none⟩) n cap) (x::vl) (m::nl))
 (hown:OwnRow intL w2 B 3 v (m.keys++[k])) (hg:w1.grownBy w2 x.k.v.ownBlock) (hat:v.ownBlock=x.k.v.ownBlock\/v.ownBlock=some w1.heap.size):
 ∃i:SV,v=i.v/\Tab B (w2.setCell ⟨g,3,none⟩ v) (.slice (some ⟨g,0,none⟩) n cap) ({x with k:=i}::vl) ({m with keys:=m.keys++[k]}::nl)/\(B<=w1.heap.size->Below B w1 (w2.setCell ⟨g,3,none⟩ v)):=by
 obtain⟨A,c,s,_⟩:=hown.form;have q:OwnRow intL w1 B 3 x.k.v m.keys:=h.rows.own 0 false;have f:KeptT 40 w1 w2:=KeptT.grown hg q (by decide);obtain⟨u,e,rest,hv',hcap,t,l,b⟩:=h.row.row (by simp);obtain⟨rfl,rfl,rfl⟩:g=u/\n=(x::vl).length/\cap=e:=by
  grind
 have d:=f _ _ t;have o:=znh d 0 (by simp) ⟨A,(m.keys++[k]).length,c⟩;have a:v=(⟨A,(m.keys++[k]).length,c⟩:SV).v:=s;rw[<-a,Nat.zero_mul,Nat.zero_add]at o;have j:KeptT 3 w2 (w2.setCell ⟨g,3,none⟩ v):=KeptT.setCell (p:=⟨g,3,none⟩) d (by decide) v;refine⟨⟨A,(m.keys++[k]).length,c⟩,a,⟨b _ _ (by simp) o,?_⟩,?_⟩
 .have r:=h.rows.grow (w':=w2) 0 false {x with k:=⟨A,(m.keys++[k]).length,c⟩} {m with keys:=m.keys++[k]} (by simp) ⟨rfl,rfl,rfl⟩ ⟨rfl,rfl,rfl⟩ rfl rfl (by rw[if_neg Bool.false_ne_true,if_neg Bool.false_ne_true,<-a];exact hown) hg (by rw[if_neg Bool.false_ne_true,<-a];exact hat);exact r.kept j
 .intro w;exact(q.grown_below hg w).setCell l v
open Go.RowKit Go.WideShapes Go.ChangeShapes Go.Deep
section
variable {H:Type} {enc:TypeId×Value->H} {W:World} {r:Reach} {b0 base:Nat} {sp:Nat->Bool} {hd:Bool} {v:Value} {d:DataW H} {p:List MemPlace}
theorem zfq (hv:Value.okWide prog W r b0 22 v) (h:DataW.Trod enc prog W base sp hd 22 v d p):
 ∃(A:Option Addr) (c:Nat) (l:List GArg),v=.slice A l.length c/\GsAt W W.heap.size A l/\(∀x∈l,Sz x.is)/\l.length<=c/\c<=maxLen:=by
 obtain⟨A,n,c,rfl⟩:=okWide_slice underlying22 hv;obtain⟨fuel,E⟩:=h;have t:prog.cellsOf 27=2:=by kernel_rfl
 rcases open_slice underlying22 E with⟨f,o⟩|⟨a,len,cap,m,k,D,Pl,f,hb,N,M,z,o,g⟩
 .simp[Value.cells]at f;obtain⟨rfl,rfl,rfl⟩:=f;refine⟨none,0,[],rfl,⟨RowAt.nil,?_⟩,?_,Nat.le_refl _,Nat.zero_le _⟩<;>(intro x h;cases h)
 .simp[Value.cells]at f;obtain⟨rfl,rfl,rfl⟩:=f;have hml:n<=m:=by rw[z];split<;>omega
  obtain⟨l,y,b⟩:=zkd (n:=n) (Q:=fun i (x:GArg)=>(∀j u,(argL.enc x)[j]? =some u->W.cell? (a.add (i*2+j))=some u)/\IAt W W.heap.size x.a x.vs x.is/\Sz x.is) (fun i him=>by
   obtain⟨cs',B,G⟩:=g i (by omega);rw[t]at B;obtain⟨_,hlen,w⟩:=World.cells?_some B;obtain⟨J,F,q,I,is,e,C,K,L⟩:=znx G;refine⟨⟨J,F,q,I,is⟩,fun j u s=>?_,C,zy3 K L⟩;have hj:j<2:=(List.getElem?_eq_some_iff.1 s).1;have:=w j (by omega);rw[zdo]at this;rw[this,e];exact s)
  subst y;refine⟨some a,c,l,rfl,⟨row_of argL (fun i g j u s=>(b i g).1 j u s),fun x o=>?_⟩,fun x o=>?_,N,M⟩
  .obtain⟨i,g,rfl⟩:=List.mem_iff_getElem.1 o;exact(b i g).2.1
  .obtain⟨i,g,rfl⟩:=List.mem_iff_getElem.1 o;exact(b i g).2.2
end
end Go.Proofs.YtpjmhafmeieloabGreatDoor
