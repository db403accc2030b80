import Derived.Test.YtpgmfihonmoliaaGreatDoorZ17
import Derived.Test.YtpgmfihonmoliaaGreatDoorZ28
import Derived.Test.YtpgmfihonmoliaaGreatDoorGrRShift
namespace Go.Proofs.YtpgmfihonmoliaaGreatDoor
open _root_.Go.Proofs.Tryz
open _root_.Go.Lib (hid)
set_option maxRecDepth 100000
set_option maxHeartbeats 16000000
open Go.RowKit
theorem zt6 {w:World} {g gi:Nat} (h:Blk w g 38 #[.int .i64 9,.string ⟨#[]⟩,.bool false,.slice none 0 0,.slice (some ⟨gi,0,none⟩) 1 1]) (hi:Blk w gi 3 #[.int .i64 0]):∃vs,GAt w w.heap.size (some ⟨g,0,none⟩) vs nsLoop:=by
 have a:OwnRow intL w 0 3 (.slice (some ⟨gi,0,none⟩) 1 1) [0]:=zb5 (l:=[0]) hi (Nat.zero_le _) rfl (by decide);have i:=(Rows.nil 0 w).snoc ⟨9,[],false,SV.nil,⟨some ⟨gi,0,none⟩,1,1⟩⟩ ⟨9,[],false,[],[0]⟩ ⟨rfl,rfl,rfl⟩ OwnRow.nil a (fun g h=>by simp[SV.nil,SV.v,Value.ownBlock]at h) (fun j b g h=>by simp[ints,SV.nil,SV.v,Value.ownBlock]at h);have e:Tab 0 w (.slice (some ⟨g,0,none⟩) 1 1) [⟨9,[],false,SV.nil,⟨some ⟨gi,0,none⟩,1,1⟩⟩] nsLoop:=⟨⟨nodeL.all_len _,.inr ⟨g,1,_,rfl,Nat.zero_le _,h,Nat.le_refl _,by decide,rfl,rfl⟩⟩,i⟩
 obtain⟨A,c,d,f⟩:=e.at_;injection d with e1 e2 e3
 subst e1;exact⟨_,f⟩
theorem zt7 {w:World} {A:Option Addr} {c:Nat} {vs:List NV} (h:GAt w w.heap.size A vs nsLoop):DepOk w (.agg #[.slice A 1 c,.int .i64 0]) (0,false):=by
 intro W a;have:=zho A c 0 vs nsLoop (za8 _ (by decide)) (by decide) (by intro n d;have:=zcg nsLoop (by decide) n d;exact⟨this.1,this.2.1⟩) (by decide)
  (by intro v b;have e:v=0:=by simp[nsLoop]at b;omega
      subst e;exact .refl _) W ((h.below a).more a.size)
 rw[znu]at this;exact this
theorem zrv (w:World) (hUT:UT w):Calls prog 5 #[] w fun e w'=>e=.returned (.bool true)/\Below w.heap.size w w':=by
 have ap:Hid (∀W,UT W->Calls prog 11 #[.int .i64 2,.string ⟨([49]:Gr.Str).toArray⟩] W fun e w'=>Below W.heap.size W w'/\∃g,W.heap.size<=g/\e=.returned (.tuple #[.agg #[.slice (some ⟨g,0,none⟩) 1 1,.int .i64 0],.int .i64 0])/\Blk w' g 38 #[.int .i64 2,.string ⟨([49]:Gr.Str).toArray⟩,.bool false,.slice none 0 0,.slice none 0 0]):=hid (fun W hW=>(zd5 UT UT.stays 2 [49] true (by decide) (by decide) (by rw[<-zxa];exact zek [49] (by decide)) W hW).mono (by
  rintro e w' ⟨hb,_,h⟩;exact⟨hb,h rfl⟩))
 have aq:Hid (∀W,UT W->Calls prog 11 #[.int .i64 5,.string ⟨([97]:Gr.Str).toArray⟩] W fun e w'=>Below W.heap.size W w'/\∃g,W.heap.size<=g/\e=.returned (.tuple #[.agg #[.slice (some ⟨g,0,none⟩) 1 1,.int .i64 0],.int .i64 0])/\Blk w' g 38 #[.int .i64 5,.string ⟨([97]:Gr.Str).toArray⟩,.bool false,.slice none 0 0,.slice none 0 0]):=hid (fun W hW=>(zd5 UT UT.stays 5 [97] true (by decide) (by decide) (by rw[<-zy4];exact ze2 [97] (by decide)) W hW).mono (by
  rintro e w' ⟨hb,_,h⟩;exact⟨hb,h rfl⟩))
 have aI:Hid (∀W,UT W->Calls prog 11 #[.int .i64 2,.string ⟨([48,49]:Gr.Str).toArray⟩] W fun e w'=>Below W.heap.size W w'/\e=.returned (.tuple #[.agg #[.slice none 0 0,.int .i64 0],.int .i64 3])):=hid (fun W hW=>(zd5 UT UT.stays 2 [48,49] false (by decide) (by decide) (by rw[<-zxb];exact zek [48,49] (by decide)) W hW).mono (by
  rintro e w' ⟨hb,h,_⟩;exact⟨hb,h rfl⟩))
 have a:=hid hUT;clear hUT;go_enter func5,ntmps5;go_upto_region 1 with fail;go_wp2_with fail;refine(ap.out w a.out).mono ?_;rintro e w1 ⟨af,g1,aO,rfl,aJ⟩;go_upto_region 2 with fail;obtain⟨w2,x⟩:=ex (w1.alloc (.cells #[.slice (some ⟨g1,0,none⟩) 1 1,.int .i64 0] 24))
 obtain⟨n1,ab⟩:=ex w1.heap.size
 have z:Hid (Below w.heap.size w w2):=hid (by rw[<-x];exact af.alloc af.size _);have ae:Hid (Blk w2 g1 38 #[.int .i64 2,.string ⟨([49]:Gr.Str).toArray⟩,.bool false,.slice none 0 0,.slice none 0 0]):=hid (by rw[<-x];exact aJ.alloc _);have ag:Hid (Blk w2 n1 24 #[.slice (some ⟨g1,0,none⟩) 1 1,.int .i64 0]):=hid (by rw[<-x,<-ab];exact Blk.new _ _ _);have ar:=hid (UT.stays _ _ a.out z.out);clear af aO aJ;(try rw[x]);(try rw[ab]);clear x ab;go_wp2_with fail;refine(aq.out w2 ar.out).mono ?_;rintro e w3 ⟨R,T,aP,rfl,aw⟩;go_upto_region 3 with fail;obtain⟨V,p⟩:=ex (w3.alloc (.cells #[.slice (some ⟨T,0,none⟩) 1 1,.int .i64 0] 24))
 obtain⟨n2,ad⟩:=ex w3.heap.size
 have I:Below w2.heap.size w2 V:=by rw[<-p];exact R.alloc R.size _
 have D:=hid (z.out.trans (I.mono z.out.size));have r:=hid (ae.out.below I ae.out.lt);have aH:=ag.out.below I ag.out.lt;have l:Hid (Blk V T 38 #[.int .i64 5,.string ⟨([97]:Gr.Str).toArray⟩,.bool false,.slice none 0 0,.slice none 0 0]):=hid (by rw[<-p];exact aw.alloc _);have aE:Blk V n2 24 #[.slice (some ⟨T,0,none⟩) 1 1,.int .i64 0]:=by rw[<-p,<-ad];exact Blk.new _ _ _
 have ak:=hid (UT.stays _ _ a.out D.out);obtain⟨a0,a1⟩:=cells2 aH;obtain⟨a2,a3⟩:=cells2 aE;clear R aP aw I aH aE;(try rw[p]);(try rw[ad]);clear p ad;obtain⟨w5,H⟩:=ex (V.alloc (.cells #[.slice (some ⟨g1,0,none⟩) 1 1,.int .i64 0,.slice (some ⟨T,0,none⟩) 1 1,.int .i64 0] 24))
 obtain⟨n3,S⟩:=ex V.heap.size
 have k:Below V.heap.size V w5:=by rw[<-H];exact(Below.refl _ _).alloc (Nat.le_refl _) _
 have O:RowAt argL w5 w5.heap.size (some ⟨n3,0,none⟩) [argOf g1 2 [49],argOf T 5 [97]]:=by
  have ho:OwnRow argL w5 0 24 (.slice (some ⟨n3,0,none⟩) 2 2) [argOf g1 2 [49],argOf T 5 [97]]:=⟨argL.all_len _,.inr ⟨n3,2,_,rfl,Nat.zero_le _,by rw[<-H,<-S];exact Blk.new _ _ _,Nat.le_refl _,by decide,rfl,rfl⟩⟩
  obtain⟨A,c,hv,hg⟩:=ho.form;injection hv with e1 e2 e3
  subst e1;exact hg
 have X:=hid (D.out.trans (k.mono D.out.size));have hl:=zt5 (some ⟨n3,0,none⟩) 2 g1 T w5 (UT.stays _ _ ak.out k) (r.out.below k r.out.lt) (l.out.below k l.out.lt) O;have HL:=hid hl;clear k O hl ag ae r l ap aq;go_wp2_with fail;(try rw[H]);(try rw[S]);clear H S a0 a1 a2 a3;refine HL.out.mono ?_;rintro e w6 ⟨aF,N,c3,K,rfl,aL⟩;go_upto_region 4 with fail;obtain⟨U,F⟩:=ex (w6.alloc (.cells #[.slice N 3 c3,.int .i64 0] 24))
 obtain⟨n5,ah⟩:=ex w6.heap.size
 have J:Below w6.heap.size w6 U:=by rw[<-F];exact(Below.refl _ _).alloc (Nat.le_refl _) _
 have i:=X.out.trans (aF.mono X.out.size);have B:=hid (i.trans (J.mono i.size));have aA:Hid (GAt U U.heap.size N K nsL):=hid ((aL.below J).more J.size);have f:Hid (Blk U n5 24 #[.slice N 3 c3,.int .i64 0]):=hid (by rw[<-F,<-ah];exact Blk.new _ _ _);have aM:=hid (UT.stays _ _ a.out B.out);clear aF aL J i HL z D X ar ak;(try rw[F]);(try rw[ah]);clear F ah;go_wp2_with fail;refine(aI.out U aM.out).mono ?_;rintro e w8 ⟨Z,rfl⟩;go_upto_region 5 with fail;obtain⟨P,ac⟩:=ex (w8.alloc (.cells #[.slice none 0 0,.int .i64 0] 24))
 obtain⟨n7,aG⟩:=ex w8.heap.size
 have m:Below U.heap.size U P:=by rw[<-ac];exact Z.alloc Z.size _
 have Y:=hid (B.out.trans (m.mono B.out.size));have ay:Hid (GAt P P.heap.size N K nsL):=hid ((aA.out.below m).more m.size);have o:=hid (f.out.below m f.out.lt);clear Z m aA f aI;(try rw[ac]);(try rw[aG]);clear ac aG;go_upto_region 6 with fail;obtain⟨s,hs⟩:=ex P.heap.size
 (try rw[hs]);obtain⟨wa,n⟩:=ex (P.alloc (.cells #[.int .i64 0] 3))
 have ba:Blk wa s 3 #[.int .i64 0]:=by rw[<-n,<-hs];exact Blk.new _ _ _
 have la:Below s P wa:=by rw[<-n,<-hs];exact(Below.refl _ _).alloc (Nat.le_refl _) _
 have sa:wa.heap.size=s+1:=by rw[<-n,<-hs];simp
 obtain⟨wb,v⟩:=ex (wa.alloc (.cells #[.int .i64 9,.string ⟨#[]⟩,.bool false,.slice none 0 0,.slice (some ⟨s,0,none⟩) 1 1] 38))
 have bb:Blk wb (s+1) 38 #[.int .i64 9,.string ⟨#[]⟩,.bool false,.slice none 0 0,.slice (some ⟨s,0,none⟩) 1 1]:=by rw[<-v,<-sa];exact Blk.new _ _ _
 have lb:Below (s+1) wa wb:=by rw[<-v];exact(Below.refl _ _).alloc (by omega) _
 have sb:wb.heap.size=s+2:=by rw[<-v];simp[sa]
 obtain⟨wc,M⟩:=ex (wb.alloc (.cells #[.slice (some ⟨s+1,0,none⟩) 1 1,.int .i64 0] 24))
 have bc:Blk wc (s+2) 24 #[.slice (some ⟨s+1,0,none⟩) 1 1,.int .i64 0]:=by rw[<-M,<-sb];exact Blk.new _ _ _
 have lc:Below (s+2) wb wc:=by rw[<-M];exact(Below.refl _ _).alloc (by omega) _
 have am:Blk wc (s+1) 38 #[.int .i64 9,.string ⟨#[]⟩,.bool false,.slice none 0 0,.slice (some ⟨s,0,none⟩) 1 1]:=bb.below lc (by omega);have aC:Blk wc s 3 #[.int .i64 0]:=(ba.below lb (by omega)).below lc (by omega);have b:Below P.heap.size P wc:=by rw[hs];exact la.trans ((lb.mono (by omega)).trans (lc.mono (by omega)))
 obtain⟨vl,L⟩:=zt6 am aC;have aB:=hid L;have G:=hid (Y.out.trans (b.mono Y.out.size));have al:Hid (GAt wc wc.heap.size N K nsL):=hid ((ay.out.below b).more b.size);have q:=o.out.below b o.out.lt;have f:=hid q;have ai:=hid bc;have aK:=hid (UT.stays _ _ a.out G.out);obtain⟨q0,q1⟩:=cells2 bc;have HD:Hid (Calls prog 13 #[.agg #[.slice (some ⟨s+1,0,none⟩) 1 1,.int .i64 0]] wc fun e w'=>e=.returned (.tuple #[.int .i64 0,.bool false])/\Below wc.heap.size wc w'):=hid (by
  have Q:=zb9 (some ⟨s+1,0,none⟩) 1 vl nsLoop wc aK.out (zcg _ (by decide)) (zbx _ (by decide)) (za8 _ (by decide)) (by decide) (by decide) L;rw[zru]at Q;exact zrq (some ⟨s+1,0,none⟩) 1 1 0 0 (0,false) wc Q (fun _=>zt7 L))
 (try rw[n]);(try rw[v]);(try rw[M]);clear hs n ba la sa v bb lb sb M bc lc am aC b L q ay o Y B;go_wp2_with fail;refine HD.out.mono ?_;rintro e wd ⟨rfl,d⟩;have C:=hid (G.out.trans (d.mono G.out.size));have aD:=hid (UT.stays _ _ a.out C.out);have q:=f.out.below d f.out.lt;have j:=ai.out.below d ai.out.lt;obtain⟨r0,r1⟩:=cells2 q;have u:=hid j;have az:Hid (Calls prog 14 #[.agg #[.slice N 3 c3,.int .i64 0]] wd fun e w'=>e=.returned (.int .i64 3)/\Below wd.heap.size wd w'):=hid (by
  have Q:=zb9 N c3 K nsL wd aD.out (zcg _ (by decide)) (zbx _ (by decide)) (za8 _ (by decide)) (by decide) (by decide) ((al.out.below d).more d.size);rw[zrt]at Q;exact ztz N 3 c3 0 0 wd Q)
 have ao:Hid (GAt wd wd.heap.size (some ⟨s+1,0,none⟩) vl nsLoop):=hid ((aB.out.below d).more d.size);clear d q j f ai aB al q0 q1 HD G aK;go_upto_region 7 with fail;go_wp2_with fail;refine az.out.mono ?_;rintro e we ⟨rfl,t⟩;have y:=hid (C.out.trans (t.mono C.out.size));have an:=hid (UT.stays _ _ a.out y.out);have j:=u.out.below t u.out.lt;obtain⟨q0,q1⟩:=cells2 j;have au:Hid (ChkOk we (.agg #[.slice (some ⟨s+1,0,none⟩) 1 1,.int .i64 0]) 0):=hid (by
  have Q:=zb9 (some ⟨s+1,0,none⟩) 1 vl nsLoop we an.out (zcg _ (by decide)) (zbx _ (by decide)) (za8 _ (by decide)) (by decide) (by decide) ((ao.out.below t).more t.size);rw[zru]at Q;exact Q)
 clear t j r0 r1 u ao C aD az;go_wp2_with fail;refine(au.out we (Below.refl _ _)).mono ?_;rintro e wf ⟨rfl,ax⟩;have E:=hid (y.out.trans (ax.mono y.out.size));have aa:=zt4 wf (UT.stays _ _ a.out E.out) wf (Below.refl _ _);unfold gZero at aa;have aj:=hid aa;clear ax aa q0 q1 y an au;go_wp2_with fail;refine aj.out.mono ?_;rintro e wg ⟨rfl,av⟩;have aN:=hid (E.out.trans (av.mono E.out.size));clear av E aj;go_wp2;go_ret;exact⟨rfl,aN.out⟩
theorem zrw (A A2:Option Addr) (c c2:Nat) (root no:Int) (vs vs2:List NV) (is:List Gr.Ni) (hz:Sz is) (w:World) (h:IAt w w.heap.size A vs is) (h2:IAt w w.heap.size A2 vs2 is) (hck:no=0->ChkOk w (.agg #[.slice A is.length c,.int .i64 root]) 0):
 Calls prog 8 #[.agg #[.slice A is.length c,.int .i64 root],.int .i64 no,.agg #[.slice A2 is.length c2,.int .i64 root],.int .i64 no] w fun e w'=>e=.returned (.bool true)/\Below w.heap.size w w':=by
 have o:=hid (fun W (hW:Below w.heap.size w W)=>zgb A A2 c c2 root vs vs2 is hz W ((h.below hW).more hW.size) ((h2.below hW).more hW.size));have g:=hid hck;obtain⟨N,v⟩:=ex is.length
 rw[v]at o g ⊢;clear h h2 hz hck v;obtain⟨u,f⟩:=ex w.heap.size
 have HGB:=hid f;go_enter func8,ntmps8;go_upto_region 1 with fail;obtain⟨m,i⟩:=ex ((w.alloc (.cells #[.slice A N c,.int .i64 root] 24)).alloc (.cells #[.slice A2 N c2,.int .i64 root] 24))
 have a:Hid (Blk m u 24 #[.slice A N c,.int .i64 root]/\Blk m (u+1) 24 #[.slice A2 N c2,.int .i64 root]/\Below w.heap.size w m):=hid (by
  rw[<-i,<-f];refine⟨(Blk.new _ _ _).alloc _,?_,((Below.refl _ _).alloc (Nat.le_refl _) _).alloc (by simp) _⟩;have:=Blk.new (w.alloc (.cells #[.slice A N c,.int .i64 root] 24)) 24 #[.slice A2 N c2,.int .i64 root];rw[World.size_alloc]at this;exact this)
 (try rw[i]);(try rw[f]);clear i f;obtain⟨r,q⟩:=cells2 a.out.1;obtain⟨s,t⟩:=cells2 a.out.2.1;by_cases h0:no=0
 .have n:=hid (g.out h0);clear g;subst h0;have k:((0:Int)==0)=true:=rfl;go_wp2_with fail;refine(o.out _ a.out.2.2).mono ?_;rintro _ p ⟨rfl,b⟩;have d:Hid (Below w.heap.size w p):=hid (a.out.2.2.trans (b.mono a.out.2.2.size));have x:=a.out.1.below b a.out.1.lt;obtain⟨z,B⟩:=cells2 x;clear b x r q s t;go_wp2_with fail;refine(n.out _ d.out).mono ?_;rintro _ y ⟨rfl,j⟩;have l:Hid (Below w.heap.size w y):=hid (d.out.trans (j.mono d.out.size));clear j z B;go_wp2;go_ret;exact⟨rfl,l.out⟩
 .have k:(no==0)=false:=by simpa using h0
  have h0c:(no != 0)=true:=by rw[bne,k];rfl
  go_wp2_with fail;refine(o.out _ a.out.2.2).mono ?_;rintro _ p ⟨rfl,b⟩;have d:Hid (Below w.heap.size w p):=hid (a.out.2.2.trans (b.mono a.out.2.2.size));clear b r q s t;go_wp2;go_ret;exact⟨rfl,d.out⟩
theorem zy5 (A:Option Addr) (c:Nat) (root:Int) (vs:List NV) (is:List Gr.Ni) (hs:∀x∈is,x.text.length<=268435455/\x.keys.length<=1073741823/\x.items.length<=1073741823) (hl:is.length<=1073741823) (w:World) (hUT:UT w) (h:IAt w w.heap.size A vs is):
 ChkOk w (.agg #[.slice A is.length c,.int .i64 root]) (checkI sclX is root):=fun W a=>
 ze0 UT UT.stays sclX A c root vs is (fun x b=>by
  obtain⟨y,d,rfl⟩:=List.mem_map.1 b;have:=hs y d;simp only[Gr.Ni.nd,List.length_map];omega) (fun x b _ _ _ _ _ _=>by
  obtain⟨y,d,rfl⟩:=List.mem_map.1 b;exact zuw _ _ (hs y d).1) hl W (UT.stays _ _ hUT a) ((h.below a).more a.size)
theorem inil (w:World):IAt w w.heap.size none [] []:=by
 obtain⟨A,c,b,a⟩:=(OwnRow.nil (L:=nodeL) (w:=w) (base:=0) (E:=38)).form;injection b with e1 e2 e3
 rw[<-e1]at a;exact⟨a,rfl,fun j h=>absurd h (Nat.not_lt_zero _),fun j h=>absurd h (Nat.not_lt_zero _)⟩
theorem zy6 {is:List Gr.Ni} (h1:is.length<=maxLen) (h2:∀y∈is,y.text.length<=maxLen/\y.keys.length<=maxLen/\y.items.length<=maxLen):Sz is:=by
 unfold maxLen at h1 h2;exact⟨h1,h2⟩
theorem ck_g {ns:List Gr.Nd} {root:Nat} (hr:Gr.Refs ns) (h0:root<ns.length) (hl:ns.length<=1000) (hks:∀n∈ns,n.keys.length<=1000/\n.items.length<=1000/\n.text.length<=1000) (A:Option Addr) (c:Nat) (vs:List NV) (W:World) (hT:UT W) (hG:GAt W W.heap.size A vs ns):
 ChkOk W (.agg #[.slice A ns.length c,.int .i64 (root:Nat)]) (checkG sclX ns root):=fun d a=>
 zrp UT UT.stays sclX A c root vs ns (fun x b=>by have:=hks x b;omega) (fun x b _ _ _ _ _ _=>zuw _ _ (by have:=hks x b;omega)) (by omega) hr h0 d (UT.stays _ _ hT a) ((hG.below a).more a.size)
theorem zyp {ns:List Gr.Nd} {A:Option Addr} {vs:List NV} {W:World} {B:Nat} (h:IAt W B A vs (ns.map Gr.Nd.ni)):GAt W B A vs ns:=by
 have:=h.toG (fun x b y a=>by
  obtain⟨z,hz,rfl⟩:=List.mem_map.1 b;have a:y∈z.keys.map Int.ofNat++z.items.map Int.ofNat:=a;rw[<-List.map_append]at a;obtain⟨u,_,rfl⟩:=List.mem_map.1 a;exact Int.natCast_nonneg u)
 rwa[Gr.zlm]at this
theorem zy7 {ns:List Gr.Nd} (hl:ns.length<=1000) (hks:∀n∈ns,n.keys.length<=1000/\n.items.length<=1000/\n.text.length<=1000):Sz (ns.map Gr.Nd.ni):=
 ⟨by rw[List.length_map];omega,fun x a=>by
  obtain⟨y,b,rfl⟩:=List.mem_map.1 a;have:=hks y b;simp only[Gr.Nd.ni,List.length_map];omega⟩
theorem zu2:Sz []:=⟨by simp,fun x a=>by cases a⟩
open Gr
structure TM (w wr:World) (gc:Array Value) (v:Value) (L:List Gr.Str):Prop where
 below:Below w.heap.size w wr
 gbox:Blk wr w.heap.size 24 gc
 own:OwnRow strL wr (w.heap.size+1) 9 v L
 hd:w.heap.size+1<=wr.heap.size
section
variable {w wr w2:World} {gc:Array Value} {v v':Value} {L L':List Gr.Str}
theorem TM.later (h:TM w wr gc v L) (hb:Below wr.heap.size wr w2):TM w w2 gc v L:=
 ⟨h.below.trans (hb.mono h.below.size),h.gbox.below hb h.gbox.lt,h.own.later hb,Nat.le_trans h.hd hb.size⟩
theorem TM.alloc (h:TM w wr gc v L) (o:Obj):TM w (wr.alloc o) gc v L:=h.later ((Below.refl _ _).alloc (Nat.le_refl _) _)
theorem TM.grown (h:TM w wr gc v L) (ho:OwnRow strL w2 (w.heap.size+1) 9 v' L') (hg:wr.grownBy w2 v.ownBlock):TM w w2 gc v' L':=
 ⟨h.below.trans ((h.own.grown_below hg h.hd).mono (by omega)),zbg h.gbox h.own hg (by omega),ho,Nat.le_trans h.hd (h.own.grown_below hg h.hd).size⟩
theorem TM.none (h:TM w wr gc v L):TM w wr gc (.slice none 0 0) []:=⟨h.below,h.gbox,OwnRow.nil,h.hd⟩
end
theorem znk (A:Option Addr) (c:Nat) (root:Int) (vs:List NV) (ns:List Gr.Nd) (P:Nat->Prop) (F b:Nat) (hok:PrOk ns P F b) (hnl:ns.length<=1000) (hks:∀n∈ns,∀k∈n.keys,k<ns.length/\P k/\Tall' ns F k) (w:World) (h:GAt w w.heap.size A vs ns):
 Calls prog 20 #[.agg #[.slice A ns.length c,.int .i64 root]] w fun e w'=>e=.returned (.bool (rtwice ns F))/\Below w.heap.size w w':=by
 have H:=hid h;have an:=hid (zni A c root vs ns P F b hok hnl);have ag:=hid hok;obtain⟨gc,C⟩:∃gc:Array Value,#[.slice A ns.length c,.int .i64 root]=gc:=⟨_,rfl⟩
 have m:Hid (gc[0]? =some (.slice A ns.length c)/\gc[1]? =some (.int .i64 root)):=hid (by rw[<-C];exact⟨rfl,rfl⟩);obtain⟨w1,B⟩:=ex (w.alloc (.cells #[.slice A ns.length c,.int .i64 root] 24))
 have ao:Hid (TM w w1 gc (.slice none 0 0) []):=hid (by rw[<-B,<-C];exact⟨(Below.refl _ _).alloc (Nat.le_refl _) _,Blk.new _ _ _,OwnRow.nil,by simp⟩);clear h hok C;go_enter func20,ntmps20;go_upto_region 2 with fail;(try rw[B]);clear B;go_loopw [3] (fun s3 wr=>∃i:Nat,i<=ns.length/\s3=.int .i64 i/\Hid (TM w wr gc (.slice none 0 0) []/\∀j,j<i->∀(hj:j<ns.length),dupS (ns[j].keys.map (printF ns F))=false)) (fun s3 _=>ns.length-(intOf s3).toNat)
 case atStart=>exact⟨0,by omega,rfl,hid ⟨ao.out,fun j hj=>by omega⟩⟩
 case round=>
  obtain⟨i,hi,rfl,HI⟩:=hrel;obtain⟨wq,ac⟩:∃wq,wq=wr:=⟨_,rfl⟩
  subst ac;have g0:wq.cell? ⟨w.heap.size,0,none⟩=some (.slice A ns.length c):=by rw[HI.out.1.gbox.cell];exact m.out.1
  by_cases hlt:i<ns.length
  .have R:(i:Int)<(ns.length:Int):=by omega
   have z:ns[i]∈ns:=List.getElem_mem hlt;obtain⟨ah,G,af⟩:=ag.out.lens _ z;have Y:=hid (hks _ z);obtain⟨p,ks,ap,rfl,D⟩:=H.out.node hlt;obtain⟨ka,kn,kc⟩:=ks;obtain⟨ia,inn,ic⟩:=ap;have E:=hid (znj (f:=F) hlt);have X:Hid (dupS (ns[i].keys.map (printF ns F))=false->∀j,j<i+1->∀(hj:j<ns.length),dupS (ns[j].keys.map (printF ns F))=false):=hid (fun h j hj aq=>by
    rcases Nat.lt_or_ge j i with h1|h1
    .exact HI.out.2 j h1 aq
    .obtain rfl:j=i:=by omega
     exact h)
   obtain⟨n,hn⟩:=ex (ns[i])
   rw[hn]at D ah G Y E X;obtain rfl:kn=n.keys.length:=D.kn;have ab:Hid (∀W,Below w.heap.size w W->W.cell? {block:=(p.add (i*5)).block,off:=(p.add (i*5)).off+3}=some (.slice ka n.keys.length kc)):=hid (fun W hW=>(hW.cell (by exact D.lt)).trans D.c3);have ak:Hid (∀W,Below w.heap.size w W->RowAt intL W w.heap.size ka n.keys):=hid (fun W hW=>D.keys.below hW);have hib:i<=1000:=by omega
   clear D hn z G af;go_upto_region 6 with fail;go_loopw [4,5] (fun s4 s5 wr=>∃(k:Nat) (L:List Gr.Str) (AL:Option Addr) (cL:Nat),k<=n.keys.length/\s5=.int .i64 k/\s4=.slice AL L.length cL/\Hid (TM w wr gc (.slice AL L.length cL) L/\L=(n.keys.map (printF ns F)).take k/\((n.keys.map (printF ns F)).take k).Nodup)) (fun _ s5 _=>n.keys.length-(intOf s5).toNat)
   case atStart=>exact⟨0,[],none,0,by omega,rfl,rfl,hid ⟨HI.out.1,by simp,by simp⟩⟩
   case round=>
    obtain⟨k,L,AL,cL,hk,rfl,rfl,d⟩:=hrel;obtain⟨a,aj⟩:∃a,a=wr:=⟨_,rfl⟩
    subst aj;have g0:a.cell? ⟨w.heap.size,0,none⟩=some (.slice (some p) ns.length c):=by rw[d.out.1.gbox.cell];exact m.out.1
    have c3:=ab.out a d.out.1.below;have hkb:k<=1000:=by omega
    by_cases hlk:k<n.keys.length
    .have O:(k:Int)<(n.keys.length:Int):=by omega
     obtain⟨y,hy⟩:=ex (n.keys[k])
     obtain⟨Q,rfl,_,y0⟩:=zaf (ak.out a d.out.1.below) hlk;rw[hy]at y0;obtain⟨J,U,N⟩:=Y.out y (by rw[<-hy];exact List.getElem_mem hlk);obtain⟨t,ht⟩:=ex (printF ns F y)
     have r:Hid (k<(n.keys.map (printF ns F)).length):=hid (by simpa using hlk);have q:Hid (∀h:k<(n.keys.map (printF ns F)).length,(n.keys.map (printF ns F))[k]=t):=hid (fun h=>by rw[List.getElem_map,hy,ht]);have T:Hid (∀x:WB a.heap.size a,Calls prog 38 #[.agg #[.slice (some p) ns.length c,.int .i64 root],.int .i64 y] x.w fun e w'=>e=.returned (.string ⟨t.toArray⟩)/\Below a.heap.size a w'):=hid (fun x=>by
      have hb:=(d.out.1.later x.h).below;rw[<-ht];exact(an.out F y x.w (Nat.le_refl _) J U N ((H.out.below hb).more hb.size)).mono (fun _ _ ⟨e1,e2⟩=>⟨e1,x.h.trans (e2.mono x.h.size)⟩))
     have q0:∀x:WB a.heap.size a,x.w.cell? ⟨w.heap.size,0,none⟩=some (.slice (some p) ns.length c):=fun x=>by rw[(d.out.1.later x.h).gbox.cell];exact m.out.1
     have q1:∀x:WB a.heap.size a,x.w.cell? ⟨w.heap.size,1,none⟩=some (.int .i64 root):=fun x=>by rw[(d.out.1.later x.h).gbox.cell];exact m.out.2
     have q3:∀x:WB a.heap.size a,x.w.cell? {block:=(p.add (i*5)).block,off:=(p.add (i*5)).off+3}=some (.slice (some Q) n.keys.length kc):=fun x=>ab.out x.w (d.out.1.later x.h).below
     have qy:∀x:WB a.heap.size a,x.w.cell? (Q.add k)=some (.int .i64 (y:Int)):=fun x=>(x.h.cell (World.block_lt_of_cell? a _ y0)).trans y0
     clear hy J U N y0 ht;go_upto_region 8 with fail;refine zac a.heap.size a (by kernel_rfl) (by kernel_rfl) (Below.refl _ _) ?_
     repeat (go_big_quiet_step (((first| (with_reducible refine Calls.grow (T.out _))))))
     refine wpQuiet_nil ?_;rintro _ ⟨I,rfl⟩;obtain⟨w8,o⟩:=ex I.w
     have l:Hid (TM w w8 gc (.slice AL L.length cL) L):=hid (by rw[<-o];exact d.out.1.later I.h);(try rw[o]);clear o q0 q1 q3 qy g0 c3 T;have hLb:L.length<=1000:=by rw[d.out.2.1,List.length_take];omega
     go_upto_region 10 with fail;go_loop [7] (fun s7=>∃j:Nat,j<=L.length/\s7=.int .i64 j/\Hid (t∉L.take j)) (fun s7=>L.length-(intOf s7).toNat)
     case atStart=>exact⟨0,by omega,rfl,hid (by simp)⟩
     case round=>
      obtain⟨j,hj,rfl,HJ⟩:=hrel;by_cases hlj:j<L.length
      .have S:(j:Int)<(L.length:Int):=by omega
       obtain⟨u,V⟩:=ex (L[j])
       obtain⟨adl,rfl,_,l0⟩:=zux (zlk l.out.own) hlj;rw[V]at l0;have hjb:j<=1000:=by omega
       by_cases hut:u=t
       .have ae:((⟨u.toArray⟩:ByteArray)==⟨t.toArray⟩)=true:=by rw[zpd];exact decide_eq_true hut
        have ai:(@BEq.beq (List UInt8) _ u t)=true:=by rw[hut];exact beq_self_eq_true _
        have HF:Hid (rtwice ns F=true):=hid (E.out (zwz r.out (by
         rw[q.out,<-hut,<-V,<-d.out.2.1];exact List.getElem_mem hlj)))
        clear V hut;go_wp2;go_ret;exact⟨by rw[HF.out]<;>rfl,l.out.below⟩
       .have ae:((⟨u.toArray⟩:ByteArray)==⟨t.toArray⟩)=false:=by rw[zpd];exact decide_eq_false hut
        have ai:(@BEq.beq (List UInt8) _ u t)=false:=by rw[beq_eq_false_iff_ne];exact hut
        have HN:Hid (t∉L.take (j+1)):=hid (by
         rw[List.take_succ_eq_append_getElem hlj,V];intro hm;rcases List.mem_append.1 hm with h1|h1
         .exact HJ.out h1
         .exact hut (List.mem_singleton.1 h1).symm)
        clear V hut;go_wp2;go_round
        case rel=>exact⟨j+1,by omega,by go_num,HN⟩
        case measure=>simp[intOf];omega
      .have S:¬(j:Int)<(L.length:Int):=by omega
       have am:Hid (t∉L):=hid (by have:=HJ.out;rwa[List.take_of_length_le (by omega)]at this);have s:Hid (w.heap.size+1<=w8.heap.size):=hid l.out.hd;have K:Hid (L++[t]=(n.keys.map (printF ns F)).take (k+1)/\((n.keys.map (printF ns F)).take (k+1)).Nodup):=hid ⟨by rw[List.take_succ_eq_append_getElem r.out,q.out,<-d.out.2.1],zkb r.out d.out.2.2 (by rw[q.out,<-d.out.2.1];exact am.out)⟩;go_wp2_with (at_builtin;go_must (refine zaa _ rfl (.tmp 49) (.tmp 51) 60 9 16 rfl strT (w.heap.size+1) (.slice AL L.length cL) L rfl (l.out.own.alloc _) _ _ 1 [t] rfl (RowAt.lit1 _ _ rfl _ ?_) ?_ ?_ ?_))
       any_goals (first|rfl| (have:=s.out;omega)| (have:=s.out;simp;omega)| (rw[World.size_alloc];have:=s.out;omega))
       intro v' w5 g hg al;have M:Hid (TM w w5 gc v' (L++[t])):=hid ((l.out.alloc _).grown g hg);obtain⟨A5,c5,Z,_⟩:=g.form;obtain⟨L5,aa⟩:=ex (L++[t])
       rw[aa]at M K Z;subst Z;clear g hg al aa;go_wp2;go_roundw
       case rel=>exact⟨k+1,L5,A5,c5,by omega,by go_num,rfl,hid ⟨M.out,K.out⟩⟩
       case measure=>simp[intOf];omega
    .have O:¬(k:Int)<(n.keys.length:Int):=by omega
     have HE:Hid (TM w a gc (.slice none 0 0) []/\∀j,j<i+1->∀(hj:j<ns.length),dupS (ns[j].keys.map (printF ns F))=false):=hid ⟨d.out.1.none,X.out (zyh (k:=k) (by simp;omega) d.out.2.2)⟩;go_wp2;go_roundw
     case rel=>exact⟨i+1,by omega,by go_num,HE⟩
     case measure=>simp[intOf];omega
  .have R:¬(i:Int)<(ns.length:Int):=by omega
   have HF:Hid (rtwice ns F=false):=hid (zrk (i:=i) (by omega) HI.out.2);have HB:=hid HI.out.1.below;go_wp2;go_ret;exact⟨by rw[HF.out]<;>rfl,HB.out⟩
theorem znq (A:Option Addr) (c:Nat) (root:Int) (vs:List NV) (is:List Gr.Ni) (hl:is.length<=1000) (hks:∀n∈is,n.keys.length<=1000/\n.items.length<=1000/\n.text.length<=1000) (w:World) (h:IAt w w.heap.size A vs is):
 Calls prog 10 #[.agg #[.slice A is.length c,.int .i64 root]] w fun e w'=>e=.returned (.int .i64 (rcheck sclX is root:Nat))/\Below w.heap.size w w':=by
 have H:=hid h;obtain⟨Y,j⟩:=ex (w.alloc (.cells #[.slice A is.length c,.int .i64 root] 24))
 have b1:Blk Y w.heap.size 24 #[.slice A is.length c,.int .i64 root]:=by rw[<-j];exact Blk.new _ _ _
 have X:Hid (Below w.heap.size w Y):=hid (by rw[<-j];exact(Below.refl _ _).alloc (Nat.le_refl _) _);obtain⟨Z,g1⟩:=cells2 b1;have M:=hid b1;have v:¬(4096:Int)<(is.length:Int):=by omega
 have HW:=hid (zq8 A c root vs is (by omega) (fun n s=>by have:=hks n s;omega) Y ((h.below X.out).more X.out.size));have l:Hid (rcheck sclX is root=if rwell sclX is root=false then 3 else if rtwice (is.map Gr.Ni.nd) is.length=true then 8 else if(depth (is.map Gr.Ni.nd) root.toNat).1>32 then 5 else 0):=hid (by unfold rcheck;rw[if_neg (by omega)]);have y:=hid (fun hs:rwell sclX is root=true=>zf9 zbv hs);obtain⟨wl,U⟩:=ex (rwell sclX is root)
 rw[U]at HW l y;clear h b1 U;go_enter func10,ntmps10;go_upto_region 1 with fail;(try rw[j]);clear j;go_wp2_with fail;refine HW.out.mono ?_;rintro e w2 ⟨rfl,C⟩;have q:Hid (Below w.heap.size w w2):=hid (X.out.trans (C.mono X.out.size));have G:=M.out.below C M.out.lt;obtain⟨Z,g1⟩:=cells2 G;have B:=hid G;clear C G;cases wl with
 |false=>
  have E:Hid (rcheck sclX is root=3):=hid (by rw[l.out,if_pos rfl]);go_wp2;go_ret;exact⟨by rw[E.out]<;>rfl,q.out⟩
 |true=>
  obtain⟨r,rfl,L,t⟩:=y.out rfl;have a:=hid L;have F:Hid (∀W,Below w.heap.size w W->GAt W W.heap.size A vs (is.map Gr.Ni.nd)):=hid (fun W J=>((H.out.below J).more J.size).toG (za4 t).1);have p:Hid (∀n∈is.map Gr.Ni.nd,n.keys.length<=1000/\n.items.length<=1000/\n.text.length<=1000):=hid (fun n s=>by
   obtain⟨x,hx,rfl⟩:=List.mem_map.1 s;have:=hks x hx;simp only[Gr.Ni.nd,List.length_map];omega)
  have b:Hid (rcheck sclX is (r:Int)=if rtwice (is.map Gr.Ni.nd) is.length=true then 8 else if(depth (is.map Gr.Ni.nd) r).1>32 then 5 else 0):=hid (by rw[l.out,if_neg (by decide),Int.toNat_natCast]);clear HW l y hks L t;obtain⟨g,I⟩:=ex (is.map Gr.Ni.nd)
  have D:is.length=g.length:=by rw[<-I];simp
  rw[I]at a F p b;obtain⟨m,Q⟩:=ex is.length
  have N:Hid (∀W,Below w.heap.size w W->Calls prog 20 #[.agg #[.slice A m c,.int .i64 r]] W fun e w'=>e=.returned (.bool (rtwice g m))/\Below W.heap.size W w'):=hid (fun W J=>by
   rw[<-Q,D];refine znk A c (r:Int) vs g (fun u=>mkd (inKeys g) u=true) g.length 2000000000 ⟨a.out.refs,a.out.keep,a.out.ok,fun n s=>by have:=p.out n s;omega,fun f i hf hk hi=>a.out.plen (by omega) (fun x hx=>by have:=p.out x hx;omega) f i hf hi hk,by omega⟩ (by omega) ?_ W (F.out W J);intro n s k hk;have T:k∈allKeys g:=List.mem_flatMap.2 ⟨n,s,hk⟩;obtain⟨h1,h2⟩:=a.out.tall k T;exact⟨h1,a.out.key k T,h2⟩)
  have K:Hid (∀W,Below w.heap.size w W->Calls prog 21 #[.agg #[.slice A m c,.int .i64 r]] W fun e w'=>e=.returned (.tuple #[.int .i64 (depth g r).1,.bool (depth g r).2])/\Below W.heap.size W w'):=hid (fun W J=>by
   rw[<-Q,D];exact znp A c r vs g a.out (by omega) (fun n s=>by have:=p.out n s;omega) W (F.out W J))
  rw[Q]at Z b B;(try rw[Q]);obtain⟨d,hd⟩:=ex ((depth g r).1)
  obtain⟨dt,R⟩:=ex ((depth g r).2)
  rw[hd]at b;rw[hd,R]at K;obtain⟨tb,V⟩:=ex (rtwice g m)
  rw[V]at b N;clear I D Q hd R V hl v;go_wp2_with fail;refine(N.out w2 q.out).mono ?_;rintro e w3 ⟨rfl,z⟩;have o:Hid (Below w.heap.size w w3):=hid (q.out.trans (z.mono q.out.size));have O:=B.out.below z B.out.lt;obtain⟨k0,k1⟩:=cells2 O;clear z O Z g1;cases tb with
  |true=>
   have E:Hid (rcheck sclX is (r:Int)=8):=hid (by rw[b.out,if_pos rfl]);go_wp2;go_ret;exact⟨by rw[E.out]<;>rfl,o.out⟩
  |false=>
   go_wp2_with fail;refine(K.out w3 o.out).mono ?_;rintro e w4 ⟨rfl,S⟩;have P:Hid (Below w.heap.size w w4):=hid (o.out.trans (S.mono o.out.size));clear S k0 k1;by_cases hd32:32<d
   .have E:Hid (rcheck sclX is (r:Int)=5):=hid (by rw[b.out,if_neg (by decide),if_pos hd32]);go_wp2;go_ret;exact⟨by rw[E.out]<;>rfl,P.out⟩
   .have E:Hid (rcheck sclX is (r:Int)=0):=hid (by rw[b.out,if_neg (by decide),if_neg hd32]);go_wp2;go_ret;exact⟨by rw[E.out]<;>rfl,P.out⟩
namespace Gr
theorem zcz {sclr:Int->Str->Bool} (hs:∀k t,sclr k t=true->0<=k/\k<=8) {is:List Ni} {root:Int} (h:checkI sclr is root=0):
 ∃r:Nat,root=(r:Int)/\WellF (is.map Ni.nd) r/\is.all (rng is.length)=true/\(∀x∈is.map Ni.nd,formB sclr x=true)/\twice (is.map Ni.nd) (is.map Ni.nd).length=false/\(depth (is.map Ni.nd) r).1<=32:=by
 have b:=zie sclr hs is root;rw[h]at b;unfold rcheck at b;split at b
 .omega
 .split at b
  .omega
  .rename_i hw;rw[Bool.not_eq_false]at hw;obtain⟨r,rfl,a,g⟩:=zf9 hs hw;split at b
   .omega
   .split at b
    .omega
    .rename_i ht hd;rw[Int.toNat_natCast]at hd;refine⟨r,rfl,a,g,?_,?_,by omega⟩
     .unfold checkI at h;split at h
      .omega
      .split at h
       .omega
       .unfold checkN at h;split at h
        .omega
        .rename_i hall;rw[Classical.not_not,List.all_eq_true]at hall;intro x f;obtain⟨i,e,rfl⟩:=List.mem_iff_getElem.1 f;have:=hall i (List.mem_range.2 e);rw[Bool.and_eq_true]at this;have d:=this.2;rw[List.getD_eq_getElem?_getD,List.getElem?_eq_getElem e]at d;exact d
     .rw[zks a.ok a.refs _ (fun k c=>⟨(a.tall k c).1,(a.tall k c).2⟩)];rw[Bool.not_eq_true]at ht;rw[List.length_map];exact ht
end Gr
section
variable {kind:Int} {text:Gr.Str} {is:List Gr.Ni} {r:Nat} {dp:Int}
end
def RCkOk (w:World) (g:Value) (chk:Nat):Prop:=∀W,Below w.heap.size w W->Calls Tryz.prog 10 #[g] W fun e w'=>e=.returned (.int .i64 (chk:Nat))/\Below W.heap.size W w'
theorem zyl (A:Option Addr) (c:Nat) (root:Int) (vs:List NV) (is:List Gr.Ni) (hl:is.length<=1000) (hks:∀n∈is,n.keys.length<=1000/\n.items.length<=1000/\n.text.length<=1000) (w:World) (h:IAt w w.heap.size A vs is):RCkOk w (.agg #[.slice A is.length c,.int .i64 root]) (checkI sclX is root):=fun W a=>by
 rw[<-Gr.zie sclX zbv];exact znq A c root vs is hl hks W ((h.below a).more a.size)
structure RKx (wp wr:World) (nb:Nat) (nd:Gr.Nd) (kx ix:SV) (kl il:List Nat):Prop where
 below:Below wp.heap.size wp wr
 box:Blk wr nb 38 #[.int .i64 nd.kind,.string ⟨nd.text.toArray⟩,.bool nd.ord,kx.v,ix.v]
 ok:OwnRow intL wr wp.heap.size 3 kx.v kl
 oi:OwnRow intL wr wp.heap.size 3 ix.v il
 sep:∀g,kx.v.ownBlock=some g->ix.v.ownBlock=some g->False
theorem RKx.drew {wp wr:World} {nb:Nat} {nd:Gr.Nd} {kx ix:SV} {kl il:List Nat} (H:RKx wp wr nb nd kx ix kl il):RKx wp wr.drew nb nd kx ix kl il:=
 ⟨H.below.drew,H.box,H.ok.drew,H.oi.drew,H.sep⟩
theorem RKx.setK {wp wr:World} {nb:Nat} {nd:Gr.Nd} {kx ix:SV} {kl il:List Nat} (H:RKx wp wr nb nd kx ix kl il) (k y:Nat) (hk:k<kl.length):
 ∃g,kx.v=.slice (some ⟨g,0,none⟩) kl.length kx.c/\(∀i (hi:i<kl.length),wr.cell? ⟨g,i,none⟩=some (.int .i64 (kl[i]:Int)))/\(∀i,wr.frozen? ⟨g,i,none⟩=false)/\RKx wp (wr.setCell ⟨g,k,none⟩ (.int .i64 (y:Int))) nb nd kx ix (kl.set k y) il:=by
 obtain⟨g,j,rest,d,hcap,f,h,b⟩:=H.ok.row (by intro e;rw[e]at hk;simp at hk);have o:j=kx.c:=by unfold SV.v at d;injection d with _ _ e;exact e.symm
 subst o;have a:∀i (hi:i<kl.length),wr.cell? ⟨g,i,none⟩=some (.int .i64 (kl[i]:Int)):=fun i hi=>by
  have m:=intL.all_at kl i kl[i] (List.getElem?_eq_getElem hi) 0 _ rfl;rw[f.cell,List.getElem?_toArray,List.getElem?_append_left (by rw[intL.all_len];show i<kl.length*1;omega)];have e:i*intL.sz+0=i:=by show i*1+0=i;omega
  rw[e]at m;exact m
 have n:=zgq intL f k 0 y (.int .i64 (y:Int)) hk (by decide) rfl;have e:k*intL.sz+0=k:=by show k*1+0=k;omega
 rw[e]at n;have l:nb≠g:=fun e=>by subst e;exact Blk.ne_ (t:=38) H.box f (by decide) rfl
 refine⟨g,d,a,f.frozen,H.below.setCell (p:=⟨g,k,none⟩) h _,H.box.far (fun e=>l e) _,b _ _ (by simp) n,H.oi.setCell (fun e=>H.sep g (by rw[d];rfl) e) _,H.sep⟩
theorem RKx.setI {wp wr:World} {nb:Nat} {nd:Gr.Nd} {kx ix:SV} {kl il:List Nat} (H:RKx wp wr nb nd kx ix kl il) (k y:Nat) (hk:k<il.length):
 ∃g,ix.v=.slice (some ⟨g,0,none⟩) il.length ix.c/\(∀i (hi:i<il.length),wr.cell? ⟨g,i,none⟩=some (.int .i64 (il[i]:Int)))/\(∀i,wr.frozen? ⟨g,i,none⟩=false)/\RKx wp (wr.setCell ⟨g,k,none⟩ (.int .i64 (y:Int))) nb nd kx ix kl (il.set k y):=by
 obtain⟨g,j,rest,d,hcap,f,h,b⟩:=H.oi.row (by intro e;rw[e]at hk;simp at hk);have o:j=ix.c:=by unfold SV.v at d;injection d with _ _ e;exact e.symm
 subst o;have a:∀i (hi:i<il.length),wr.cell? ⟨g,i,none⟩=some (.int .i64 (il[i]:Int)):=fun i hi=>by
  have m:=intL.all_at il i il[i] (List.getElem?_eq_getElem hi) 0 _ rfl;rw[f.cell,List.getElem?_toArray,List.getElem?_append_left (by rw[intL.all_len];show i<il.length*1;omega)];have e:i*intL.sz+0=i:=by show i*1+0=i;omega
  rw[e]at m;exact m
 have n:=zgq intL f k 0 y (.int .i64 (y:Int)) hk (by decide) rfl;have e:k*intL.sz+0=k:=by show k*1+0=k;omega
 rw[e]at n;have l:nb≠g:=fun e=>by subst e;exact Blk.ne_ (t:=38) H.box f (by decide) rfl
 refine⟨g,d,a,f.frozen,H.below.setCell (p:=⟨g,k,none⟩) h _,H.box.far (fun e=>l e) _,H.ok.setCell (fun e=>H.sep g e (by rw[d];rfl)) _,b _ _ (by simp) n,H.sep⟩
theorem infoNodeK:(prog.info? 38).map (fun i=>(i.zero,i.size,i.bytes))=some (some (.agg #[.int .i64 0,.string ⟨#[]⟩,.bool false,.slice none 0 0,.slice none 0 0]),5,80):=by kernel_rfl
theorem zne (a:Addr) (n c i:Nat) (hi:i+1<=c) (W:World):(Instr.slice 22 (.slice (some a) n c) (some (.int .i64 (i:Int))) (some (.int .i64 ((i:Int)+1))) none).run prog W=.ok (.slice (some (a.add (i*5))) 1 (c-i)) W:=by
 have e:((i:Int)+1)=((i+1:Nat):Int):=by omega
 obtain⟨j,d,hz,f,hby⟩:=info_parts infoNodeK;have g:∀code,(Instr.sliceBound (.int .i64 ((i:Int)+1)) c code).run prog W=.ok (i+1) W:=fun code=>by
  rw[e,run_sliceBound (P:=prog) (w:=W) .i64 (i+1:Nat) c code (by omega) (by omega)];simp
 have b:∀code,(Instr.sliceBound (.int .i64 (i:Int)) (i+1) code).run prog W=.ok i W:=fun code=>by
  rw[run_sliceBound (P:=prog) (w:=W) .i64 i (i+1) code (by omega) (by omega)];simp
 simp[Instr.slice,run_underlying underlying22,Instr.sliceBounds,sizeOf,typeInfo,d,f,g,b,show c≠i from by omega]
theorem GAt.one {w:World} {B:Nat} {a:Addr} {vs:List NV} {ns:List Gr.Nd} (h:GAt w B (some a) vs ns) {i:Nat} (hi:i<ns.length):∃u,GAt w B (some (a.add (i*5))) [u] [ns[i]]:=by
 have hl:=h.len;have b:i<vs.length:=by omega
 refine⟨vs[i],?_,rfl,fun j c d=>?_,fun j c d=>?_⟩
 .have c:=RowAt.sub (L:=nodeL) h.row (k:=i) (m:=i+1) (cap:=vs.length+1) (by omega) (by omega) (by omega);rw[if_neg (by omega),List.drop_eq_getElem_cons b,show i+1-i=0+1 by omega,List.take_succ_cons,List.take_zero]at c;exact c
 .have:j=0:=by simp at c;omega
  subst this;exact h.kind i b hi
 .have:j=0:=by simp at c;omega
  subst this;exact h.nums i b hi
theorem shN0 (x:Gr.Nd):shN 0 x=x:=by unfold shN;simp
theorem zq6 (A:Option Addr) (c root:Nat) (vs:List NV) (ns:List Gr.Nd) (hr:Refs ns) (hl:ns.length<=1000) (hks:∀n∈ns,n.keys.length<=1000/\n.items.length<=1000) (hroot:root<ns.length) (hc:ns.length<=c) (w:World) (h:GAt w w.heap.size A vs ns):
 Calls prog 17 #[.agg #[.slice A ns.length c,.int .i64 root]] w (zku ns root w):=by
 have aW:=fun W=>za3 ns.length (by omega) W
 have D:=hid (zav hr hroot);have a4:=hid hr;have HG:Hid (∀W,Below w.heap.size w W->GAt W w.heap.size A vs ns):=hid (fun W hW=>h.below hW);have af:Hid (∀W,Below w.heap.size w W->Calls prog 33 #[.agg #[.slice A ns.length c,.int .i64 (root:Nat)],.int .i64 (root:Nat)] W fun e w'=>∃ob,e=.returned (.slice (some ⟨ob,0,none⟩) ns.length ns.length)/\W.heap.size<=ob/\Below W.heap.size W w'/\Blk w' ob 4 (bcells (marks ns root))):=hid (fun W hW=>zcy A c root (root:Int) vs ns hr hl hks hroot W ((h.below hW).more hW.size));have bu:=hid hks;obtain⟨m,hm⟩:=ex (marks ns root)
 have bt:=hid hm;rw[hm]at D af;have bi:(root:Int)<(ns.length:Int):=by omega
 obtain⟨n,hn⟩:=ex ns.length
 have X:=hid hn;rw[hn]at D bi hroot hl hc af aW;have HC:=hid hc;rw[hn];clear h hks hr hm hn hc;go_enter func17,ntmps17;go_upto_region 1 with fail;obtain⟨w1,aa⟩:=ex ((w.alloc (.cells #[.slice A n c,.int .i64 root] 24)).alloc (.cells #[.slice none 0 0,.int .i64 0] 24))
 obtain⟨o,G⟩:=ex w.heap.size
 have b1:Blk w1 o 24 #[.slice A n c,.int .i64 root]:=by rw[<-aa,<-G];exact(Blk.new _ _ _).alloc _
 have b2:Blk w1 (o+1) 24 #[.slice none 0 0,.int .i64 0]:=by rw[<-aa,<-G];have:=Blk.new (w.alloc (.cells #[.slice A n c,.int .i64 root] 24)) 24 #[.slice none 0 0,.int .i64 0];rwa[World.size_alloc]at this
 have l1:Below o w w1:=by rw[<-aa,<-G];exact((Below.refl _ _).alloc (Nat.le_refl _) _).alloc (by simp) _
 have aT:w1.heap.size=o+2:=by rw[<-aa,<-G];simp
 rw[G]at HG af;have aY:=hid G;have L1:=hid l1;have aA:=hid aT;have ak:=hid (And.intro b1 b2);obtain⟨q0,q1⟩:=cells2 b1;(try rw[aa]);(try rw[G]);clear aa G b1 b2 l1 aT;go_wp2_with fail;refine(af.out w1 L1.out).mono ?_;rintro e w3 ⟨mb,rfl,bg,ar,U⟩;have L3:Hid (Below o w w3):=hid (L1.out.trans (ar.mono (by have:=aA.out;omega)));have al:Hid (Blk w3 o 24 #[.slice A n c,.int .i64 root]/\Blk w3 (o+1) 24 #[.slice none 0 0,.int .i64 0]/\Blk w3 mb 4 (bcells m)):=hid ⟨ak.out.1.below ar ak.out.1.lt,ak.out.2.below ar ak.out.2.lt,U⟩;have aQ:Hid (o+2<=mb/\mb<w3.heap.size):=hid ⟨by have:=aA.out;omega,U.lt⟩;have g0:w3.cell? ⟨o,0,none⟩=some (.slice A n c):=al.out.1.cell 0;clear ar U bg q0 q1 af ak aA;go_upto_region 5 with fail;obtain⟨s,V⟩:=ex w3.heap.size
 obtain⟨w4,an⟩:=ex (w3.alloc (.cells (icells (List.replicate n 0)) 3))
 have l4:Below s w3 w4:=by rw[<-an,<-V];exact(Below.refl _ _).alloc (Nat.le_refl _) _
 have b4:Blk w4 s 3 (icells (List.replicate n 0)):=by rw[<-an,<-V];exact Blk.new _ _ _
 have q:Hid (o+2<=mb/\mb<s/\w4.heap.size=s+1):=hid ⟨aQ.out.1,by rw[<-V];exact aQ.out.2,by rw[<-an];simp[V]⟩;have L4:Hid (Below o w w4):=hid (L3.out.trans (l4.mono (by have:=q.out;omega)));have Y:Hid (Blk w4 o 24 #[.slice A n c,.int .i64 root]/\Blk w4 (o+1) 24 #[.slice none 0 0,.int .i64 0]/\Blk w4 mb 4 (bcells m)):=hid (by
  have:=q.out;exact⟨al.out.1.below l4 (by omega),al.out.2.1.below l4 (by omega),al.out.2.2.below l4 (by omega)⟩)
 have aX:=hid b4;(try rw[V]);(try rw[an]);clear an V g0 l4 b4 aQ al aW;go_loopw [5,6] (fun s5 s6 wr=>∃(j k:Nat),j<=n/\k<=j/\s6=.int .i64 j/\s5=.int .i64 k/\Hid (k=(m.take j).count true/\Below s w4 wr/\Blk wr s 3 (icells ((Gr.atL m).take j++List.replicate (n-j) 0)))) (fun _ s6 _=>n-(intOf s6).toNat)
 case atStart=>exact⟨0,0,by omega,by omega,rfl,rfl,hid ⟨rfl,Below.refl _ _,by simpa using aX.out⟩⟩
 case round=>
  obtain⟨j,k,hj,bm,rfl,rfl,HW⟩:=hrel;obtain⟨K,bx⟩:∃K,K=wr:=⟨_,rfl⟩
  subst bx;by_cases hlt:j<n
  .have R:(j:Int)<(n:Int):=by omega
   have B:j<m.length:=by rw[D.out];exact hlt
   obtain⟨b,hb⟩:=ex (m[j])
   have aC:(Gr.atL m).length=n:=by rw[Gr.zcb,D.out]
   have a3:(Gr.atL m).getD j 0=k:=by rw[Gr.zc9 B];exact HW.out.1.symm
   obtain⟨L,hL⟩:=ex ((Gr.atL m).take j++List.replicate (n-j) 0)
   have av:Hid (L.set j k=(Gr.atL m).take (j+1)++List.replicate (n-(j+1)) 0):=hid (by rw[<-hL,<-zgv _ n j aC hlt,a3]);have aU:j<L.length:=by rw[<-hL];exact zgw _ _ _ aC hlt
   rw[hL]at HW;have q0:K.cell? ⟨s,j,none⟩=some (.int .i64 ((L.getD j 0:Nat):Int)):=by rw[HW.out.2.2.cell,zab aU]
   have qf:∀i,K.frozen? ⟨s,i,none⟩=false:=HW.out.2.2.frozen;have aZ:Hid ((m.take (j+1)).count true=k+(if b=true then 1 else 0)):=hid (by
    rw[List.take_succ_eq_append_getElem B,List.count_append,hb,<-HW.out.1];cases b<;>rfl)
   have aD:Below s w4 (K.setCell ⟨s,j,none⟩ (.int .i64 k)):=HW.out.2.1.setCell (p:=⟨s,j,none⟩) (Nat.le_refl _) _;have aq:Hid (Below s w4 (K.setCell ⟨s,j,none⟩ (.int .i64 k))/\Blk (K.setCell ⟨s,j,none⟩ (.int .i64 k)) s 3 (icells ((Gr.atL m).take (j+1)++List.replicate (n-(j+1)) 0))):=hid
    ⟨aD,by rw[<-av.out,<-zam];exact HW.out.2.2.set_ j _⟩
   have z0:(K.setCell ⟨s,j,none⟩ (.int .i64 k)).cell? ⟨mb,j,none⟩=some (.bool b):=by
    rw[(Y.out.2.2.below aD (by have:=q.out;omega)).cell,zae B,List.getD_eq_getElem?_getD,List.getElem?_eq_getElem B,hb];rfl
   clear hb aC a3 hL aU B aD;cases b with
   |false=>
    have aE:Hid (k=(m.take (j+1)).count true):=hid (by rw[aZ.out];rfl);go_wp2;go_roundw
    case rel=>exact⟨j+1,k,by omega,by omega,by go_num,rfl,hid ⟨aE.out,aq.out⟩⟩
    case measure=>simp[intOf];omega
   |true=>
    have aE:Hid (k+1=(m.take (j+1)).count true):=hid (by rw[aZ.out];rfl);go_wp2;go_roundw
    case rel=>exact⟨j+1,k+1,by omega,by omega,by go_num,by go_num,hid ⟨aE.out,aq.out⟩⟩
    case measure=>simp[intOf];omega
  .have R:¬(j:Int)<(n:Int):=by omega
   have HE:Hid (Below s w4 K/\Blk K s 3 (icells (Gr.atL m))):=hid (by
    have C:=HW.out;rw[List.take_of_length_le (l:=Gr.atL m) (by rw[Gr.zcb,D.out];omega),show n-j=0 by omega,List.replicate_zero,List.append_nil]at C;exact C.2)
   obtain⟨ra,aL⟩:=ex ((Gr.atL m).getD root 0)
   have bb:=Y.out.1.below HE.out.1 (by have:=q.out;omega);have z1:K.cell? ⟨o,1,none⟩=some (.int .i64 root):=bb.cell 1;have z3:K.cell? ⟨s,root,none⟩=some (.int .i64 (ra:Int)):=by rw[HE.out.2.cell,zab (by rw[Gr.zcb,D.out];exact hroot),aL]
   have bn:=hid aL;clear aL bb HW;go_upto_region 12 with fail;obtain⟨ob,J⟩:=ex K.heap.size
   obtain⟨H,ao⟩:=ex (K.alloc (.cells #[.slice none 0 0,.int .i64 (ra:Nat)] 24))
   have l5:Below ob K H:=by rw[<-ao,<-J];exact(Below.refl _ _).alloc (Nat.le_refl _) _
   have b5:Blk H ob 24 #[.slice none 0 0,.int .i64 (ra:Nat)]:=by rw[<-ao,<-J];exact Blk.new _ _ _
   have E:Hid (s+1<=ob/\H.heap.size=ob+1):=hid ⟨by have:=HE.out.1.size;have:=q.out;omega,by rw[<-ao,<-J];simp⟩;have L5:Hid (Below o w H):=hid ((L4.out.trans (HE.out.1.mono (by have:=q.out;omega))).trans (l5.mono (by have:=q.out;have:=E.out;omega)));have au:Hid (Blk H o 24 #[.slice A n c,.int .i64 root]/\Blk H (o+1) 24 #[.slice none 0 0,.int .i64 0]/\Blk H mb 4 (bcells m)/\Blk H s 3 (icells (Gr.atL m))):=hid (by
    have C:=q.out;have h2:=E.out;exact⟨(Y.out.1.below HE.out.1 (by omega)).below l5 (by omega),(Y.out.2.1.below HE.out.1 (by omega)).below l5 (by omega),(Y.out.2.2.below HE.out.1 (by omega)).below l5 (by omega),HE.out.2.below l5 (by omega)⟩)
   have aS:Hid (KKM H H ob ra (.slice none 0 0) [] []):=hid ⟨Below.refl _ _,b5,⟨OwnRow.nil,Rows.nil _ _⟩,by have:=E.out;omega⟩;(try rw[ao]);(try rw[J]);clear ao J l5 b5 z1 z3 HE Y aX hlt R hj bm;go_loopw [8] (fun s8 wr=>∃(j:Nat) (A1:Option Addr) (n1 c1:Nat) (vs1:List NV),j<=n/\s8=.int .i64 j/\Hid (KKM H wr ob ra (.slice A1 n1 c1) vs1 (Gr.keptT ns m j))) (fun s8 _=>n-(intOf s8).toNat)
   case atStart=>exact⟨0,none,0,0,[],by omega,rfl,hid (by unfold Gr.keptT;simpa using aS.out)⟩
   case round=>
    obtain⟨j,A1,n1,c1,vs1,hj,rfl,HV⟩:=hrel;obtain⟨f,bk⟩:∃f,f=wr:=⟨_,rfl⟩
    subst bk;clear aS;by_cases hlt:j<n
    .have R:(j:Int)<(n:Int):=by omega
     have aF:Hid (∀W,Below ob H W->Below o w W):=hid (fun W hW=>L5.out.trans (hW.mono (by have:=q.out;have:=E.out;omega)));have aw:j<ns.length:=by rw[X.out];exact hlt
     have aN:ns[j]∈ns:=List.getElem_mem aw;obtain⟨aV,a6⟩:=bu.out _ aN;have ae:=a4.out _ aN;have B:j<m.length:=by rw[D.out];exact hlt
     have N:=Gr.zcv aw B;obtain⟨ad,rfl⟩:∃ad,A=some ad:=by
      obtain⟨ad,_,_,e,_⟩:=(HG.out f (aF.out f HV.out.below)).node aw;exact⟨ad,e⟩
     obtain⟨u,am⟩:=((HG.out f (aF.out f HV.out.below)).more (by have C:=(aF.out f HV.out.below).size;rw[aY.out]at C;exact C)).one aw;obtain⟨d,aM⟩:=ex (ns[j])
     obtain⟨b,hb⟩:=ex (m[j])
     rw[aM,hb]at N;rw[aM]at aV a6 ae am;have av:=hid N;have a9:Hid ((∀x∈d.keys,x<n)/\∀x∈d.items,x<n):=hid ⟨fun x hx=>by rw[<-X.out];exact ae x (List.mem_append_left _ hx),fun x hx=>by rw[<-X.out];exact ae x (List.mem_append_right _ hx)⟩;have U:Blk f mb 4 (bcells m):=au.out.2.2.1.below HV.out.below (by have:=q.out;have:=E.out;omega);have a2:m.getD j false=b:=by rw[List.getD_eq_getElem?_getD,List.getElem?_eq_getElem B,hb];rfl
     have z0:f.cell? ⟨mb,j,none⟩=some (.bool b):=by rw[U.cell,zae B,a2]
     have bd:Hid (Calls prog 34 #[.slice (some (ad.add (j*5))) 1 (c-j),.int .i64 0] f fun e w'=>∃v' vs',e=.returned v'/\Tab f.heap.size w' v' vs' [d]/\Below f.heap.size f w'):=hid (by
      have:=znd (some (ad.add (j*5))) (c-j) 0 [u] [d] (by simp) (fun y M=>by rw[List.mem_singleton.1 M];exact⟨aV,a6⟩) (fun y M x hx=>by
       rw[List.mem_singleton.1 M]at hx;have:=ae x hx;rw[X.out]at this;omega) (by omega) f am
      rw[List.map_cons,List.map_nil,shN0]at this;exact this)
     have bj:=fun W=>zne ad n c j (by have:=HC.out;omega) W
     have y0:f.cell? ⟨o,0,none⟩=some (.slice (some ad) n c):=(au.out.1.below HV.out.below (by have:=q.out;have:=E.out;omega)).cell 0;clear am aN aM hb ae N U a2 B;cases b with
     |false=>
      have bl:Hid (KKM H f ob ra (.slice A1 n1 c1) vs1 (Gr.keptT ns m (j+1))):=hid (by rw[av.out,if_neg Bool.false_ne_true];exact HV.out);go_wp2;go_roundw
      case rel=>exact⟨j+1,A1,n1,c1,vs1,by omega,by go_num,bl⟩
      case measure=>simp[intOf];omega
     |true=>
      go_wp2_with fail;refine bd.out.mono ?_;rintro e w6 ⟨v6,us,rfl,I,a1⟩;obtain⟨u0,rfl⟩:∃u0,us=[u0]:=by
       have:=I.rows.len;cases us with
       |nil=>cases this
       |cons a l=>cases l with
        |nil=>exact⟨a,rfl⟩
        |cons b l=>simp at this
      obtain⟨uk,ut,uo,⟨ka,kn,kc⟩,⟨ia,aI,ic⟩⟩:=u0;obtain⟨rfl,rfl,rfl⟩:uk=d.kind/\ut=d.text/\uo=d.ord:=I.rows.kind 0 (by simp) (by simp);obtain⟨g5,a0,rest5,az,_,ax,_,_⟩:=I.row.row (by simp);have az:v6=.slice (some ⟨g5,0,none⟩) 1 a0:=az;subst az;have aH:OwnRow intL w6 f.heap.size 3 (.slice ka kn kc) d.keys:=I.rows.own 0 false;have aK:OwnRow intL w6 f.heap.size 3 (.slice ia aI ic) d.items:=I.rows.own 0 true;obtain rfl:kn=d.keys.length:=(SV.row (x:=⟨ka,kn,kc⟩) aH).2;obtain rfl:aI=d.items.length:=(SV.row (x:=⟨ia,aI,ic⟩) aK).2;have ba:∀g,(Value.slice ka d.keys.length kc).ownBlock=some g->(Value.slice ia d.items.length ic).ownBlock=some g->False:=fun g e1 e2=>by
       have:=(I.rows.apart 0 false 0 true g e1 e2).2;cases this
      have c0:w6.cell? ⟨g5,0,none⟩=some (.int .i64 d.kind):=ax.cell 0;have c1:w6.cell? ⟨g5,1,none⟩=some (.string ⟨d.text.toArray⟩):=ax.cell 1;have c2:w6.cell? ⟨g5,2,none⟩=some (.bool d.ord):=ax.cell 2;have c3:w6.cell? ⟨g5,3,none⟩=some (.slice ka d.keys.length kc):=ax.cell 3;have c4:w6.cell? ⟨g5,4,none⟩=some (.slice ia d.items.length ic):=ax.cell 4;have H6:=hid (And.intro aH (And.intro aK (And.intro ba a1)));clear I ax aH aK ba a1 y0 bj z0 bd;go_upto_region 17 with fail;obtain⟨w7,Z⟩:=ex (w6.alloc (.cells #[.int .i64 d.kind,.string ⟨d.text.toArray⟩,.bool d.ord,.slice ka d.keys.length kc,.slice ia d.items.length ic] 38))
      obtain⟨nb,ay⟩:=ex w6.heap.size
      have bp:Hid (RKx f w7 nb d ⟨ka,d.keys.length,kc⟩ ⟨ia,d.items.length,ic⟩ d.keys d.items):=hid ⟨by rw[<-Z];exact H6.out.2.2.2.alloc H6.out.2.2.2.size _,by rw[<-Z,<-ay];exact Blk.new _ _ _,by rw[<-Z];exact H6.out.1.alloc _,by rw[<-Z];exact H6.out.2.1.alloc _,H6.out.2.2.1⟩;(try rw[Z]);(try rw[ay]);clear Z ay c0 c1 c2 c3 c4 H6;have a5:Hid (∀W,Below f.heap.size f W->∀y,y<n->W.cell? ⟨s,y,none⟩=some (.int .i64 (((Gr.atL m).getD y 0:Nat):Int))):=hid (fun W hW y M=>by
       have C:=au.out.2.2.2.below HV.out.below (by have:=E.out;omega);rw[(C.below hW C.lt).cell,zab (by rw[Gr.zcb,D.out];exact M)])
      go_loopw [10] (fun s10 wr=>∃(k:Nat),k<=d.keys.length/\s10=.int .i64 k/\Hid (RKx f wr nb d ⟨ka,d.keys.length,kc⟩ ⟨ia,d.items.length,ic⟩ ((d.keys.take k).map (fun x=>(Gr.atL m).getD x 0)++d.keys.drop k) d.items)) (fun s10 _=>d.keys.length-(intOf s10).toNat)
      case atStart=>exact⟨0,by omega,rfl,hid (by simpa using bp.out)⟩
      case round=>
       obtain⟨k,hk,rfl,HK⟩:=hrel;obtain⟨wy,aJ⟩:∃wy,wy=wr:=⟨_,rfl⟩
       subst aJ;have y3:wy.cell? ⟨nb,3,none⟩=some (.slice ka d.keys.length kc):=HK.out.box.cell 3;by_cases hlk:k<d.keys.length
       .have F:(k:Int)<(d.keys.length:Int):=by omega
        obtain⟨y,M⟩:=ex (d.keys[k])
        have aG:y<n:=by rw[<-M];exact a9.out.1 _ (List.getElem_mem hlk)
        have a8:(y:Int)<(n:Int):=by omega
        obtain⟨v,hv⟩:=ex ((Gr.atL m).getD y 0)
        have ap:((d.keys.take k).map (fun x=>(Gr.atL m).getD x 0)++d.keys.drop k).length=d.keys.length:=by simp;omega
        have ah:((d.keys.take k).map (fun x=>(Gr.atL m).getD x 0)++d.keys.drop k)[k]'(by omega)=y:=by
         rw[List.getElem_append_right (by simp;omega)];simp[<-M,Nat.min_eq_left (Nat.le_of_lt hlk)]
        obtain⟨g,O,ag,bq,Q⟩:=HK.out.setK k v (by omega);have q0:=ag k (by omega);rw[ah]at q0;rw[ap]at O;have ai:((d.keys.take k).map (fun x=>(Gr.atL m).getD x 0)++d.keys.drop k).set k v=(d.keys.take (k+1)).map (fun x=>(Gr.atL m).getD x 0)++d.keys.drop (k+1):=by
         rw[<-ze3 d.keys (fun x=>(Gr.atL m).getD x 0) k hlk,M,hv]
        rw[ai]at Q;obtain rfl:ka=some ⟨g,0,none⟩:=by injection O
        have q1:wy.cell? ⟨s,y,none⟩=some (.int .i64 (v:Int)):=by rw[<-hv];exact a5.out wy HK.out.below y aG
        have aj:=hid Q;clear O ag Q ai ah ap M hv;go_upto_region 19 with fail;go_region
        all_goals
         go_wp2_with fail;exact⟨⟨k+1,by omega,by go_num,(by first|exact aj|exact hid aj.out.drew)⟩,by simp[intOf];omega⟩
       .have F:¬(k:Int)<(d.keys.length:Int):=by omega
        have bo:Hid (RKx f wy nb d ⟨ka,d.keys.length,kc⟩ ⟨ia,d.items.length,ic⟩ (d.keys.map (fun x=>(Gr.atL m).getD x 0)) d.items):=hid (by
         have C:=HK.out;rwa[List.take_of_length_le (by omega),List.drop_eq_nil_of_le (by omega),List.append_nil]at C)
        go_upto_region 21 with fail;clear F y3 HK hk hlk;go_loopw [11] (fun s11 wr=>∃(k:Nat),k<=d.items.length/\s11=.int .i64 k/\Hid (RKx f wr nb d ⟨ka,d.keys.length,kc⟩ ⟨ia,d.items.length,ic⟩ (d.keys.map (fun x=>(Gr.atL m).getD x 0)) ((d.items.take k).map (fun x=>(Gr.atL m).getD x 0)++d.items.drop k))) (fun s11 _=>d.items.length-(intOf s11).toNat)
        case atStart=>exact⟨0,by omega,rfl,hid (by simpa using bo.out)⟩
        case round=>
         obtain⟨k,hk,rfl,HK⟩:=hrel;obtain⟨wz,aJ⟩:∃wz,wz=wr:=⟨_,rfl⟩
         subst aJ;have y3:wz.cell? ⟨nb,4,none⟩=some (.slice ia d.items.length ic):=HK.out.box.cell 4;by_cases hlk:k<d.items.length
         .have F:(k:Int)<(d.items.length:Int):=by omega
          obtain⟨y,M⟩:=ex (d.items[k])
          have aG:y<n:=by rw[<-M];exact a9.out.2 _ (List.getElem_mem hlk)
          have a8:(y:Int)<(n:Int):=by omega
          obtain⟨v,hv⟩:=ex ((Gr.atL m).getD y 0)
          have ap:((d.items.take k).map (fun x=>(Gr.atL m).getD x 0)++d.items.drop k).length=d.items.length:=by simp;omega
          have ah:((d.items.take k).map (fun x=>(Gr.atL m).getD x 0)++d.items.drop k)[k]'(by omega)=y:=by
           rw[List.getElem_append_right (by simp;omega)];simp[<-M,Nat.min_eq_left (Nat.le_of_lt hlk)]
          obtain⟨g,O,ag,bq,Q⟩:=HK.out.setI k v (by omega);have q0:=ag k (by omega);rw[ah]at q0;rw[ap]at O;have ai:((d.items.take k).map (fun x=>(Gr.atL m).getD x 0)++d.items.drop k).set k v=(d.items.take (k+1)).map (fun x=>(Gr.atL m).getD x 0)++d.items.drop (k+1):=by
           rw[<-ze3 d.items (fun x=>(Gr.atL m).getD x 0) k hlk,M,hv]
          rw[ai]at Q;obtain rfl:ia=some ⟨g,0,none⟩:=by injection O
          have q1:wz.cell? ⟨s,y,none⟩=some (.int .i64 (v:Int)):=by rw[<-hv];exact a5.out wz HK.out.below y aG
          have aj:=hid Q;clear O ag Q ai ah ap M hv;go_upto_region 23 with fail;go_region
          all_goals
           go_wp2_with fail;exact⟨⟨k+1,by omega,by go_num,(by first|exact aj|exact hid aj.out.drew)⟩,by simp[intOf];omega⟩
         .have F:¬(k:Int)<(d.items.length:Int):=by omega
          have HZ:Hid (RKx f wz nb d ⟨ka,d.keys.length,kc⟩ ⟨ia,d.items.length,ic⟩ (d.keys.map (fun x=>(Gr.atL m).getD x 0)) (d.items.map (fun x=>(Gr.atL m).getD x 0))):=hid (by
           have C:=HK.out;rwa[List.take_of_length_le (by omega),List.drop_eq_nil_of_le (by omega),List.append_nil]at C)
          go_upto_region 24 with fail;clear F y3 HK hk hlk;have r:Hid (KKM H wz ob ra (.slice A1 n1 c1) vs1 (Gr.keptT ns m j)):=hid (HV.out.later HZ.out.below);have o0:wz.cell? ⟨ob,0,none⟩=some (.slice A1 n1 c1):=r.out.box.cell 0;obtain⟨z0,z1,z2,z3,z4⟩:=cells5 HZ.out.box;have bv:Hid (vs1.length<=1000):=hid (by
           have C:=r.out.tab.rows.len;rw[Gr.zig (by rw[D.out,X.out]) (by omega)]at C;have:=List.count_le_length (a:=true) (l:=m.take j);rw[List.length_take]at this;omega)
          obtain⟨x,bc⟩:∃x:NV,x=⟨d.kind,d.text,d.ord,⟨ka,d.keys.length,kc⟩,⟨ia,d.items.length,ic⟩⟩:=⟨_,rfl⟩
          have ac:=hid bc;clear bc;go_wp2_with (at_builtin;go_must (refine zaa _ rfl (.tmp 101) (.tmp 103) 22 38 80 rfl nodeT (ob+1) (.slice A1 n1 c1) vs1 rfl (r.out.tab.row.alloc _) _ _ 1 [x] rfl (RowAt.lit1 _ _ (by rw[ac.out];rfl) _ ?_) ?_ ?_ ?_))
          any_goals (first|rfl| (have:=bv.out;have:=r.out.hd;simp;omega))
          intro v8 w8 S hg bs;obtain⟨A2,c2,a7,_⟩:=S.form;obtain⟨n2,be⟩:=ex ((vs1++[x]).length)
          rw[be]at a7;subst a7;have aR:∀t,t≠38->KeptT t wz w8:=fun t ht=>(KeptT.alloc _ _ _).trans (KeptT.grown hg (r.out.tab.row.alloc _) (Ne.symm ht))
          have aB:Below (ob+1) wz w8:=((Below.refl (ob+1) wz).alloc r.out.hd _).trans ((r.out.tab.row.alloc _).grown_below hg (by rw[World.size_alloc];have:=r.out.hd;omega));have z:=aR _ (by decide) _ _ r.out.box;have o8:w8.cell? ⟨ob,0,none⟩=some (.slice A1 n1 c1):=z.cell 0;have f8:∀i,w8.frozen? ⟨ob,i,none⟩=false:=z.frozen;have aq:Hid (KKM H (w8.setCell ⟨ob,0,none⟩ (.slice A2 n2 c2)) ob ra (.slice A2 n2 c2) (vs1++[x]) (Gr.keptT ns m (j+1))):=hid (by
           have aP:=(aR 3 (by decide)).trans (KeptT.setCell (p:=⟨ob,0,none⟩) z (by decide) (.slice A2 n2 c2));refine⟨(r.out.below.trans (aB.mono (Nat.le_succ _))).setCell (p:=⟨ob,0,none⟩) (Nat.le_refl _) _,z.set_ 0 _,⟨S.setCell (fun e=>by have:=(S.lt _ e).1;simp at this;omega) _,?_⟩,Nat.le_trans r.out.hd (by have:=aB.size;simp;omega)⟩;rw[av.out,if_pos (by trivial)];have hhd:=HV.out.hd;refine(r.out.tab.rows.kept aP).snoc x (Gr.mvN (Gr.atL m) d) (by rw[ac.out];exact⟨rfl,rfl,rfl⟩) ?_ ?_ ?_ ?_
           .rw[ac.out];exact(HZ.out.ok.kept aP).lower (by omega)
           .rw[ac.out];exact(HZ.out.oi.kept aP).lower (by omega)
           .intro g e1 e2;rw[ac.out]at e1 e2;exact HZ.out.sep g e1 e2
           .intro j' b' g e1;have C:=((HV.out.tab.rows.own j' b').lt g e1).2;rw[ac.out];exact⟨fun e2=>by have:=(HZ.out.ok.lt g e2).1;omega,fun e2=>by have:=(HZ.out.oi.lt g e2).1;omega⟩)
          clear S hg bs aR aB z be z0 z1 z2 z3 z4 o0;go_wp2;go_roundw
          case rel=>exact⟨j+1,A2,n2,c2,vs1++[x],by omega,by go_num,aq⟩
          case measure=>simp[intOf];omega
    .have R:¬(j:Int)<(n:Int):=by omega
     have T:Hid (KKM H f ob ra (.slice A1 n1 c1) vs1 (Gr.keptN ns m)):=hid (by
      have C:=HV.out;rw[show j=ns.length by rw[X.out];omega]at C;exact C)
     have J:o+1<ob:=by have:=q.out;have:=E.out;omega
     obtain⟨o0,o1⟩:=cells2 T.out.box;have z:=au.out.2.1.below T.out.below J;have aO:=hid z;obtain⟨d0,d1⟩:=cells2 z;have df:∀i,f.frozen? ⟨o+1,i,none⟩=false:=z.frozen;clear z HV;go_wp2_with fail;have bh:Blk ((f.setCell ⟨o+1,0,none⟩ (.slice A1 n1 c1)).setCell ⟨o+1,1,none⟩ (.int .i64 (ra:Nat))) (o+1) 24 #[.slice A1 n1 c1,.int .i64 (ra:Nat)]:=(aO.out.set_ 0 _).set_ 1 _;refine bodyPost_ret (v:=.agg #[.slice A1 n1 c1,.int .i64 (ra:Nat)]) (results_cell_row (P:=prog) rfl _ _ (o+1) 24 _ (0,0) _ rfl bh underlying24 rfl (by kernel_rfl)) rfl ⟨?_,?_⟩
     .rw[aY.out];exact((L5.out.trans (T.out.below.mono (by omega))).setCell (by simp) _).setCell (by simp) _
     .rw[bt.out,bn.out];obtain⟨A9,c9,br,_⟩:=T.out.tab.at_;injection br with e1 e2 e3
      subst e1;refine⟨A1,c1,vs1,by rw[<-e2],fun W' kN kI=>?_⟩;have hk:∀t,t≠24->KeptT t f ((f.setCell ⟨o+1,0,none⟩ (.slice A1 n1 c1)).setCell ⟨o+1,1,none⟩ (.int .i64 (ra:Nat))):=fun t ht=>(KeptT.setCell (p:=⟨o+1,0,none⟩) aO.out ht _).trans (KeptT.setCell (p:=⟨o+1,1,none⟩) (aO.out.set_ 0 _) ht _)
      have ht:Tab (ob+1) W' (.slice A1 n1 c1) vs1 (Gr.keptN ns m):=⟨T.out.tab.row.kept ((hk _ (by decide)).trans kN),T.out.tab.rows.kept ((hk _ (by decide)).trans kI)⟩
      obtain⟨A8,c8,bw,bf⟩:=ht.at_;injection bw with e1 e2 e3
      subst e1;exact bf
namespace Gr
theorem znr {f:Nat->List Nat} {a b:Nat} (h:Reach f a b):a=b\/∃u,b∈f u:=by
 induction h with
 |refl=>exact .inl rfl
 |step h1 _ ih=>
  rcases ih with rfl|h2
  .exact .inr ⟨_,h1⟩
  .exact .inr h2
end Gr
namespace Gr
def d0:Nd:=⟨0,[],false,[],[]⟩
def idxL (m:List Bool) (j:Nat):List Nat:=(List.range j).filter (fun i=>m.getD i false)
theorem zrr {m:List Bool} {j:Nat} (h:j<=m.length):(idxL m j).length=(m.take j).count true:=by
 induction j with
 |zero=>simp[idxL]
 |succ j ih=>
  have a:j<m.length:=by omega
  have ih:=ih (by omega);unfold idxL at ih ⊢;rw[List.range_succ,List.filter_append,List.length_append,ih,List.take_succ_eq_append_getElem a,List.count_append]
  congr 1
  simp only[List.filter_cons,List.filter_nil,List.getD_eq_getElem?_getD,List.getElem?_eq_getElem a,Option.getD_some];cases m[j]<;>rfl
theorem zi6 {ns:List Nd} {m:List Bool} (h:m.length=ns.length) {j:Nat} (hj:j<=ns.length):keptT ns m j=(idxL m j).map (fun i=>mvN (atL m) (ns.getD i d0)):=by
 induction j with
 |zero=>simp[idxL,keptT]
 |succ j ih=>
  have a:j<ns.length:=by omega
  have b:j<m.length:=by omega
  have ih:=ih (by omega);rw[zcv a b,ih];unfold idxL;rw[List.range_succ,List.filter_append,List.map_append];simp only[List.filter_cons,List.filter_nil,List.getD_eq_getElem?_getD,List.getElem?_eq_getElem b,Option.getD_some];cases hm:m[j]with
  |true=>simp[a]
  |false=>simp
theorem zu1 {m:List Bool} {n i:Nat} (hn:n<=m.length) (hi:i<n) (hm:m.getD i false=true):(idxL m n)[(m.take i).count true]? =some i:=by
 have e:∃rest,List.range n=List.range i++i::rest:=by
  obtain⟨k,rfl⟩:∃k,n=i+(k+1):=⟨n-i-1,by omega⟩
  exact⟨_,by rw[List.range_add,List.range_succ_eq_map,List.map_cons,Nat.add_zero]⟩
 obtain⟨rest,e⟩:=e;unfold idxL;rw[e,List.filter_append,List.getElem?_append_right (by have:=zrr (m:=m) (j:=i) (by omega);unfold idxL at this;omega),List.filter_cons_of_pos (p:=fun i=>m.getD i false) (a:=i) hm];have:=zrr (m:=m) (j:=i) (by omega);unfold idxL at this;rw[this,Nat.sub_self];rfl
structure KeptOf (ns:List Nd) (r:Nat) (K:List Nd) (φ α:Nat->Nat):Prop where
 phi:∀k,k<K.length->φ k<ns.length/\Reach (succ ns) r (φ k)/\α (φ k)=k/\∃x,ns[φ k]? =some x/\K[k]? =some ⟨x.kind,x.text,x.ord,x.keys.map α,x.items.map α⟩
 alp:∀i,i<ns.length->Reach (succ ns) r i->α i<K.length/\φ (α i)=i
 sub:((List.range K.length).map φ).Sublist (List.range ns.length)
theorem keptOf {ns:List Nd} {r:Nat} (hr:Refs ns) (h:r<ns.length):KeptOf ns r (keptN ns (marks ns r)) (fun k=>(idxL (marks ns r) ns.length).getD k 0) (fun x=>(atL (marks ns r)).getD x 0):=by
 obtain⟨m,v⟩:=ex (marks ns r)
 have j:=zav hr h;have p:∀x,m.getD x false=true↔Reach (succ ns) r x:=fun x=>by rw[<-v];exact zay hr h x
 rw[v]at j ⊢;have w:keptN ns m=(idxL m ns.length).map (fun i=>mvN (atL m) (ns.getD i d0)):=zi6 j (Nat.le_refl _);have d:(keptN ns m).length=(idxL m ns.length).length:=by rw[w,List.length_map]
 have l:∀i,i<ns.length->Reach (succ ns) r i->(atL m).getD i 0<(keptN ns m).length/\(idxL m ns.length).getD ((atL m).getD i 0) 0=i:=fun i g t=>by
  have f:=zu1 (m:=m) (n:=ns.length) (by omega) g ((p i).2 t);rw[zc9 (by omega),List.getD_eq_getElem?_getD,f,d];exact⟨(List.getElem?_eq_some_iff.1 f).1,rfl⟩
 have o:((List.range (keptN ns m).length).map (fun k=>(idxL m ns.length).getD k 0)).Sublist (List.range ns.length):=by
  have e:(List.range (keptN ns m).length).map (fun k=>(idxL m ns.length).getD k 0)=idxL m ns.length:=by
   apply List.ext_getElem
   .simp[d]
   .intro i f u;simp[List.getD_eq_getElem?_getD,u]
  rw[e];exact List.filter_sublist
 refine⟨fun k hk=>?_,l,o⟩;have c:k<(idxL m ns.length).length:=by omega
 obtain⟨i,g⟩:=ex ((idxL m ns.length)[k])
 have q:i∈idxL m ns.length:=by rw[<-g];exact List.getElem_mem c
 have a:=List.mem_filter.1 q;have b:i<ns.length:=List.mem_range.1 a.1;have t:Reach (succ ns) r i:=(p i).1 a.2;have e:(idxL m ns.length).getD k 0=i:=by rw[List.getD_eq_getElem?_getD,List.getElem?_eq_getElem c,g];rfl
 rw[e];refine⟨b,t,?_,ns[i],List.getElem?_eq_getElem b,?_⟩
 .have f:=zu1 (m:=m) (n:=ns.length) (by omega) b a.2;rw[<-zc9 (by omega)]at f;have s:(idxL m ns.length).Nodup:=List.Pairwise.filter _ List.nodup_range;have u:(idxL m ns.length)[k]? =some i:=by rw[List.getElem?_eq_getElem c,g]
  exact(List.getElem?_inj (List.getElem?_eq_some_iff.1 f).1 s).1 (f.trans u.symm)
 .rw[w,List.getElem?_map,List.getElem?_eq_getElem c,g,Option.map_some,List.getD_eq_getElem?_getD,List.getElem?_eq_getElem b];rfl
section
variable {ns K:List Nd} {r:Nat} {φ α:Nat->Nat}
theorem KeptOf.succ (H:KeptOf ns r K φ α) {k:Nat} (hk:k<K.length):succ K k=(succ ns (φ k)).map α:=by
 obtain⟨_,_,_,x,a,b⟩:=H.phi k hk;unfold Gr.succ;rw[a,b];simp
theorem KeptOf.nx (H:KeptOf ns r K φ α) (hr:Refs ns) {k v:Nat} (hk:k<K.length) (hv:v∈Gr.succ ns (φ k)):v<ns.length/\Reach (Gr.succ ns) r v/\α v<K.length/\φ (α v)=v:=by
 have a:=hr.succ _ v hv;have b:=(H.phi k hk).2.1.trans (.one hv);exact⟨a,b,H.alp v a b⟩
theorem KeptOf.down (H:KeptOf ns r K φ α) (hr:Refs ns) {a b:Nat} (h:Reach (Gr.succ K) a b):a<K.length->b<K.length/\Reach (Gr.succ ns) (φ a) (φ b):=by
 induction h with
 |refl=>exact fun h=>⟨h,.refl _⟩
 |step h1 _ ih=>
  intro e;rw[H.succ e]at h1;obtain⟨v,d,rfl⟩:=List.mem_map.1 h1;obtain⟨_,_,f,g⟩:=H.nx hr e d;obtain⟨i,c⟩:=ih f;rw[g]at c;exact⟨i,.step d c⟩
theorem KeptOf.up (H:KeptOf ns r K φ α) (hr:Refs ns) {a b:Nat} (h:Reach (Gr.succ ns) a b):a<ns.length->Reach (Gr.succ ns) r a->Reach (Gr.succ K) (α a) (α b):=by
 induction h with
 |refl=>exact fun _ _=>.refl _
 |step h1 _ ih=>
  intro e c;obtain⟨g,d⟩:=H.alp _ e c;have f:=hr.succ _ _ h1;refine .step ?_ (ih f (c.trans (.one h1)));rw[H.succ g,d];exact List.mem_map_of_mem h1
theorem KeptOf.iff (H:KeptOf ns r K φ α) (hr:Refs ns) {a b:Nat} (ha:a<K.length) (hb:b<K.length):Reach (Gr.succ K) a b↔Reach (Gr.succ ns) (φ a) (φ b):=by
 constructor
 .exact fun h=>(H.down hr h ha).2
 .intro h;obtain⟨c,e,d,_⟩:=H.phi a ha;have:=H.up hr h c e;rwa[d,(H.phi b hb).2.2.1]at this
theorem zns {f:Nat->List Nat} {a b:Nat} (h:Reach f a b) (he:a∈f b):∃x∈f a,Reach f x a:=by
 cases h with
 |refl=>exact⟨a,he,.refl _⟩
 |step h1 h2=>exact⟨_,h1,h2.trans (.one he)⟩
theorem KeptOf.keys (H:KeptOf ns r K φ α) (_hr:Refs ns) {q:Nat} (h:q∈allKeys K):∃u v,u<K.length/\v∈Gr.succ ns (φ u)/\v∈allKeys ns/\q=α v:=by
 obtain⟨x,f,e⟩:=List.mem_flatMap.1 h;obtain⟨u,b,rfl⟩:=List.mem_iff_getElem.1 f;obtain⟨h1,_,_,y,d,a⟩:=H.phi u b;rw[List.getElem?_eq_getElem b]at a;injection a with a
 rw[a]at e;obtain⟨v,c,rfl⟩:=List.mem_map.1 e;refine⟨u,v,b,?_,List.mem_flatMap.2 ⟨y,List.mem_of_getElem? d,c⟩,rfl⟩;unfold Gr.succ;rw[d];exact List.mem_append_left _ c
theorem KeptOf.inKeys (H:KeptOf ns r K φ α) (hr:Refs ns) (hrK:Refs K) {x:Nat} (_hx:x<K.length) (h:mkd (inKeys K) x=true):mkd (inKeys ns) (φ x)=true/\∃u v,u<K.length/\v∈Gr.succ ns (φ u)/\v∈allKeys ns/\Reach (Gr.succ ns) v (φ x):=by
 obtain⟨q,i,e⟩:=(zal hrK x).1 h;obtain⟨u,v,d,c,a,rfl⟩:=H.keys hr i;obtain⟨_,_,f,g⟩:=H.nx hr d c;have b:=(H.down hr e f).2;rw[g]at b;exact⟨(zal hr _).2 ⟨v,a,b⟩,u,v,d,c,a,b⟩
theorem zt0 {f:Nat->List Nat} {l l':List Nat} (h:l.Sublist l'):(l.flatMap f).Sublist (l'.flatMap f):=by
 induction h with
 |slnil=>exact .slnil
 |cons a _ ih=>rw[List.flatMap_cons];exact List.sublist_append_of_sublist_right ih
 |cons_cons a _ ih=>rw[List.flatMap_cons,List.flatMap_cons];exact List.Sublist.append_left ih _
theorem zga (ns:List Nd):refs ns=(List.range ns.length).flatMap (Gr.succ ns):=by
 have e:ns=(List.range ns.length).map (fun i=>ns.getD i d0):=by
  apply List.ext_getElem
  .simp
  .intro i b h2;simp[List.getD_eq_getElem?_getD,b]
 unfold refs
 conv=>lhs;rw[e]
 rw[List.flatMap_map];rw[List.flatMap_def,List.flatMap_def]
 congr 1
 apply List.map_congr_left;intro i a;have a:=List.mem_range.1 a;rw[zca a,List.getD_eq_getElem?_getD,List.getElem?_eq_getElem a];rfl
theorem zi7 {α φ:Nat->Nat} {x:Nat} (l:List Nat) (h:∀v∈l,φ (α v)=v):(l.map α).count x<=l.count (φ x):=by
 induction l with
 |nil=>simp
 |cons v l ih=>
  have ih:=ih (fun u a=>h u (List.mem_cons_of_mem _ a));rw[List.map_cons,List.count_cons,List.count_cons];by_cases e:α v=x
  .have:v=φ x:=by rw[<-e,h v List.mem_cons_self]
   rw[if_pos (by simpa using e),if_pos (by simpa using this)];omega
  .rw[if_neg (by simpa using e)];omega
theorem KeptOf.count (H:KeptOf ns r K φ α) (hr:Refs ns) (x:Nat):(refs K).count x<=(refs ns).count (φ x):=by
 have d:∀l:List Nat,(∀k∈l,k<K.length)->(l.flatMap (Gr.succ K)).count x<=((l.map φ).flatMap (Gr.succ ns)).count (φ x):=by
  intro l
  induction l with
  |nil=>intro _;simp
  |cons k l ih=>
   intro b;have a:=b k List.mem_cons_self;have ih:=ih (fun u e=>b u (List.mem_cons_of_mem _ e));rw[List.flatMap_cons,List.map_cons,List.flatMap_cons,List.count_append,List.count_append,H.succ a];have:=zi7 (α:=α) (φ:=φ) (x:=x) (Gr.succ ns (φ k)) (fun v c=>(H.nx hr a c).2.2.2);omega
 rw[zga K,zga ns];exact Nat.le_trans (d _ (fun k b=>List.mem_range.1 b)) ((zt0 H.sub).count_le _)
theorem KeptOf.wf (H:KeptOf ns r K φ α) {r0:Nat} (hw:WellF ns r0) (hrn:r<ns.length):WellF K (α r):=by
 have d:=H.alp r hrn (.refl _);have f:Refs K:=fun x h y s=>by
  obtain⟨k,g,rfl⟩:=List.mem_iff_getElem.1 h;have p:y∈Gr.succ K k:=by rw[zca g];exact s
  rw[H.succ g]at p;obtain⟨v,j,rfl⟩:=List.mem_map.1 p;exact(H.nx hw.refs g j).2.2.1
 have i:∀v,v<K.length->Reach (Gr.succ K) (α r) v:=fun v j=>by
  obtain⟨_,o,n,_⟩:=H.phi v j;have:=H.up hw.refs o hrn (.refl _);rwa[n]at this
 refine⟨d.1,f,fun x h=>?_,i,fun x h A=>?_⟩
 .obtain⟨k,g,rfl⟩:=List.mem_iff_getElem.1 h;obtain⟨_,_,_,y,n,l⟩:=H.phi k g;rw[List.getElem?_eq_getElem g]at l;injection l with l
  rw[l];obtain⟨a,b,c⟩:=hw.ok y (List.mem_of_getElem? n);exact⟨a,b,fun e=>by simpa using c e⟩
 .obtain⟨p,u,v,D,j,q,C⟩:=H.inKeys hw.refs f h A;have o:=hw.one (φ x) (H.phi x h).1 p;rw[zb4 (H.phi x h).1]at o;have n:=H.count hw.refs x;have m:x≠α r:=fun e=>by
   have E:φ x=r:=by rw[e];exact d.2
   rw[E]at C;have B:mkd (Gr.inKeys ns) v=true:=(zal hw.refs v).2 ⟨v,q,.refl _⟩;obtain⟨y,s,t⟩:=zns (C.trans (H.phi u D).2.1) j;exact zeh hw.refs hw.root hw.all hw.one (hw.refs.succ _ _ j) B s t
  rw[zb4 h,if_neg m];have l:1<=(refs K).count x:=by
   rcases znr (i x h)with e|⟨w,hw2⟩
   .exact absurd e.symm m
   .have:x∈refs K:=by
     unfold Gr.succ at hw2;cases g:K[w]? with
     |none=>rw[g]at hw2;cases hw2
     |some z=>rw[g]at hw2;exact List.mem_flatMap.2 ⟨z,List.mem_of_getElem? g,hw2⟩
    exact List.count_pos_iff.2 this
  split at o<;>omega
theorem zrs (ns:List Nd):∀(f i j:Nat),sameF ns f i j=true->sameF ns (f+1) i j=true:=by
 intro f
 induction f with
 |zero=>intro i j h;cases h
 |succ f ih=>
  intro i j h;unfold sameF at h ⊢;cases ha:ns[i]? with
  |none=>rw[ha]at h;cases h
  |some a=>
   cases hb:ns[j]? with
   |none=>rw[ha,hb]at h;cases h
   |some b=>
    rw[ha,hb]at h;simp only at h ⊢;split at h
    .cases h
    .rename_i h1;rw[if_neg h1];split at h
     .rename_i h2;rw[if_pos h2,List.all_eq_true];rw[List.all_eq_true]at h;intro x e;have:=h x e;rw[List.any_eq_true]at this ⊢;obtain⟨y,g,c⟩:=this;rw[Bool.and_eq_true]at c;exact⟨y,g,by rw[Bool.and_eq_true];exact⟨ih _ _ c.1,ih _ _ c.2⟩⟩
     .rename_i h2;rw[if_neg h2,List.all_eq_true];rw[List.all_eq_true]at h;intro k d;have:=h k d;rw[Bool.and_eq_true,Bool.or_eq_true]at this ⊢;exact⟨this.1.imp id (ih _ _),ih _ _ this.2⟩
theorem znt {ns:List Nd} {f g:Nat} (h:f<=g) (ht:twice ns f=true):twice ns g=true:=by
 have e:∀i j,sameF ns f i j=true->sameF ns g i j=true:=by
  intro i j a
  induction h with
  |refl=>exact a
  |step _ ih=>exact zrs ns _ i j ih
 have d:∀L:List Nat,twice1 ns f L=true->twice1 ns g L=true:=by
  intro L
  induction L with
  |nil=>exact id
  |cons x L ih=>
   intro a;unfold twice1 at a ⊢;rw[Bool.or_eq_true]at a ⊢;refine a.imp (fun k=>?_) ih;rw[List.any_eq_true]at k ⊢;obtain⟨y,c,k⟩:=k;exact⟨y,c,e _ _ k⟩
 unfold twice at ht ⊢;rw[List.any_eq_true]at ht ⊢;obtain⟨x,b,k⟩:=ht;exact⟨x,b,d _ k⟩
theorem KeptOf.same (H:KeptOf ns r K φ α) (hr:Refs ns) (hok:NodesOk ns):∀(f i j:Nat),i<ns.length->j<ns.length->Reach (Gr.succ ns) r i->Reach (Gr.succ ns) r j->sameF K f (α i) (α j)=true->sameF ns f i j=true:=by
 intro f
 induction f with
 |zero=>intro i j _ _ _ _ h;cases h
 |succ f ih=>
  intro i j T U o n h;have R:=H.alp i T o;have O:=H.alp j U n;obtain⟨_,_,_,a,p,B⟩:=H.phi (α i) R.1;obtain⟨_,_,_,b,t,w⟩:=H.phi (α j) O.1;rw[R.2]at p;rw[O.2]at t;have P:∀v∈a.keys++a.items,v<ns.length/\Reach (Gr.succ ns) r v:=fun v e=>by
   have c:v∈Gr.succ ns i:=by unfold Gr.succ;rw[p];exact e
   exact⟨hr.succ _ _ c,o.trans (.one c)⟩
  have N:∀v∈b.keys++b.items,v<ns.length/\Reach (Gr.succ ns) r v:=fun v e=>by
   have c:v∈Gr.succ ns j:=by unfold Gr.succ;rw[t];exact e
   exact⟨hr.succ _ _ c,n.trans (.one c)⟩
  have s:∀v∈a.keys++a.items,∀u∈b.keys++b.items,sameF K f (α v) (α u)=true->sameF ns f v u=true:=fun v e u I=>ih v u (P v e).1 (N u I).1 (P v e).2 (N u I).2
  unfold sameF at h ⊢;rw[B,w]at h;rw[p,t];simp only[List.length_map]at h ⊢;split at h
  .cases h
  .rename_i c;rw[if_neg c];split at h
   .rename_i h2;rw[if_pos h2,List.all_eq_true];rw[List.zip_map,List.all_eq_true]at h;intro x M;have g:=List.of_mem_zip M;have d:=h (α x.1,α x.2) (List.mem_map.2 ⟨x,M,rfl⟩);rw[List.zip_map,List.any_map,List.any_eq_true]at d;obtain⟨y,G,A⟩:=d;have m:=List.of_mem_zip G;rw[List.any_eq_true];refine⟨y,G,?_⟩;simp only[Function.comp,Prod.map,Bool.and_eq_true]at A ⊢;exact⟨s _ (List.mem_append_left _ g.1) _ (List.mem_append_left _ m.1) A.1,s _ (List.mem_append_right _ g.2) _ (List.mem_append_right _ m.2) A.2⟩
   .rename_i h2;rw[if_neg h2,List.all_eq_true];rw[List.all_eq_true]at h;simp only[not_or,Classical.not_not]at c;obtain⟨C,_,_,hlen⟩:=c;intro k Q;have z:=List.mem_range.1 Q;have D:k<b.items.length:=by omega
    have d:=h k Q;rw[Bool.and_eq_true,Bool.or_eq_true]at d ⊢;have q:∀(l:List Nat),k<l.length->(l.map α).getD k 0=α (l.getD k 0)/\l.getD k 0∈l:=fun l E=>by
     rw[List.getD_eq_getElem?_getD,List.getD_eq_getElem?_getD,List.getElem?_map,List.getElem?_eq_getElem E];exact⟨rfl,List.getElem_mem E⟩
    have J:=q a.items z;have F:=q b.items D;rw[J.1,F.1]at d;refine⟨?_,s _ (List.mem_append_right _ J.2) _ (List.mem_append_right _ F.2) d.2⟩;by_cases hm:a.kind=10
    .right;have ka:=(hok a (List.mem_of_getElem? p)).2.2 hm;have kb:=(hok b (List.mem_of_getElem? t)).2.2 (C▸hm);have S:=q a.keys (by omega);have L:=q b.keys (by omega);rcases d.1 with h4|h4
     .simp[hm]at h4
     .rw[S.1,L.1]at h4;exact s _ (List.mem_append_left _ S.2) _ (List.mem_append_left _ L.2) h4
    .left;simpa using hm
theorem KeptOf.twice (H:KeptOf ns r K φ α) (hr:Refs ns) (hok:NodesOk ns) (htw:Gr.twice ns ns.length=false):Gr.twice K K.length=false:=by
 rw[<-Bool.not_eq_true];intro h;have c:K.length<=ns.length:=by have:=H.sub.length_le;simpa using this
 have p:∀(L:List Nat),(∀v∈L,v<ns.length/\Reach (Gr.succ ns) r v)->twice1 K K.length (L.map α)=true->twice1 ns K.length L=true:=by
  intro L
  induction L with
  |nil=>intro _ h;cases h
  |cons x L ih=>
   intro i e;rw[List.map_cons]at e;unfold twice1 at e ⊢;rw[Bool.or_eq_true]at e ⊢;refine e.imp (fun k=>?_) (ih (fun v f=>i v (List.mem_cons_of_mem _ f)));rw[List.any_map,List.any_eq_true]at k;obtain⟨y,j,k⟩:=k;rw[List.any_eq_true];have a:=i x List.mem_cons_self;have b:=i y (List.mem_cons_of_mem _ j);exact⟨y,j,H.same hr hok _ _ _ b.1 a.1 b.2 a.2 k⟩
 have o:Gr.twice ns K.length=true:=by
  unfold Gr.twice at h ⊢;rw[List.any_eq_true]at h ⊢;obtain⟨x,m,k⟩:=h;obtain⟨q,g,rfl⟩:=List.mem_iff_getElem.1 m;obtain⟨_,_,_,y,l,d⟩:=H.phi q g;rw[List.getElem?_eq_getElem g]at d;injection d with d
  rw[d]at k;refine⟨y,List.mem_of_getElem? l,p _ (fun v f=>?_) k⟩;have n:v∈Gr.succ ns (φ q):=by unfold Gr.succ;rw[l];exact List.mem_append_left _ f
  have:=H.nx hr g n;exact⟨this.1,this.2.1⟩
 have:=znt c o;rw[htw]at this;cases this
open Classical in
theorem KeptOf.wt (H:KeptOf ns r K φ α) (hr:Refs ns) {v:Nat} (hv:v<K.length):wt (Gr.succ K) K.length v<=wt (Gr.succ ns) ns.length (φ v):=by
 unfold Gr.wt;have e:(List.range K.length).countP (fun i=>decide (Reach (Gr.succ K) v i/\Reach (Gr.succ K) i v))=((List.range K.length).map φ).countP (fun i=>decide (Reach (Gr.succ ns) (φ v) i/\Reach (Gr.succ ns) i (φ v))):=by
  rw[List.countP_map];apply List.countP_congr;intro i a;have a:=List.mem_range.1 a;simp only[Function.comp,decide_eq_true_eq];rw[H.iff hr hv a,H.iff hr a hv]
 rw[e];exact H.sub.countP_le
theorem LongR.reach {sc:Nat->List Nat} {n:Nat} {F:Nat->Nat} (hsc:∀u,∀x∈sc u,x<n) (hF:LongR sc n F) {a b:Nat} (h:Reach sc a b):a<n->F b<=F a:=by
 induction h with
 |refl=>exact fun _=>Nat.le_refl _
 | @step a x _ h1 _ ih=>
  intro c;have d:=hsc _ _ h1;refine Nat.le_trans (ih d) ?_;by_cases hc:Reach sc x a
  .have f:wt sc n x=wt sc n a:=by
    unfold wt;apply List.countP_congr;intro i _;simp only[decide_eq_true_eq];exact⟨fun h=>⟨(Reach.one h1).trans h.1,h.2.trans hc⟩,fun h=>⟨hc.trans h.1,h.2.trans (.one h1)⟩⟩
   rcases hF.att x d with e|⟨u,hu,h2,h3,y,hy,hn,e⟩
   .rw[e,f];rcases hF.att a c with e2|⟨_,_,_,_,_,_,_,e2⟩<;>omega
   .have:=hF.up a u c hu ((Reach.one h1).trans h2) (h3.trans hc) y hy (fun k=>hn (k.trans (.one h1)));rw[e,f];exact this
  .have:=hF.up a a c c (.refl _) (.refl _) x h1 hc;omega
theorem KeptOf.long (H:KeptOf ns r K φ α) (hr:Refs ns) {F G:Nat->Nat} (hF:LongR (Gr.succ ns) ns.length F) (hG:LongR (Gr.succ K) K.length G):∀k v,G v<=k->v<K.length->G v<=F (φ v):=by
 intro k
 induction k with
 |zero=>intro v h _;omega
 |succ k ih=>
  intro v h a;have b:=(H.phi v a).1;have hw:=H.wt hr a;rcases hG.att v a with e|⟨u,hu,h2,h3,x,hx,hn,e⟩
  .rcases hF.att (φ v) b with e2|⟨_,_,_,_,_,_,_,e2⟩<;>omega
  .have hp:=zkt (Gr.succ K) K.length v a;rw[H.succ hu]at hx;obtain⟨y,f,rfl⟩:=List.mem_map.1 hx;obtain⟨_,_,g,d⟩:=H.nx hr hu f;have i:=ih (α y) (by omega) g;rw[d]at i;have h9:=hF.up (φ v) (φ u) b (H.phi u hu).1 ((H.iff hr a hu).1 h2) ((H.iff hr hu a).1 h3) y f (fun c=>hn ((H.iff hr g a).2 (by rw[d];exact c)));omega
theorem zw8 (sclr:Int->Str->Bool) (x:Nd) (α:Nat->Nat):formB sclr ⟨x.kind,x.text,x.ord,x.keys.map α,x.items.map α⟩=formB sclr x:=by
 unfold formB;simp
theorem KeptOf.check (H:KeptOf ns r K φ α) {sclr:Int->Str->Bool} {r0:Nat} (hw:WellF ns r0) (hrn:r<ns.length) (hf:∀x∈ns,formB sclr x=true) (htw:Gr.twice ns ns.length=false) (hd:(depth ns r0).1<=32):checkN sclr K (α r)=0:=by
 have a:=H.wf hw hrn;unfold checkN;rw[if_neg,if_neg,H.twice hw.refs hw.ok htw,if_neg Bool.false_ne_true,if_neg]
 .obtain⟨F,f,c,_⟩:=ze7 hw.refs hw.root hw.all;obtain⟨G,g,h2,_⟩:=ze7 a.refs a.root a.all;have d:=H.long hw.refs f g _ (α r) (Nat.le_refl _) a.root;rw[(H.alp r hrn (.refl _)).2]at d;have e:=f.reach hw.refs.succ (hw.all r hrn) hw.root;omega
 .rw[Bool.not_eq_true,List.any_eq_false];intro i b;have b:=List.mem_range.1 b;by_cases hin:mkd (Gr.inKeys K) i=true
  .have:=a.one i b hin;rw[this];simp
  .rw[Bool.not_eq_true]at hin;unfold mkd at hin;rw[hin];simp
 .rw[Classical.not_not,List.all_eq_true];intro i b;have b:=List.mem_range.1 b;have c:mkd (marks K (α r)) i=true:=(zay a.refs a.root i).2 (a.all i b);unfold mkd at c;rw[c,Bool.true_and,List.getD_eq_getElem?_getD];obtain⟨_,_,_,y,d,e⟩:=H.phi i b;rw[e,Option.getD_some,zw8];exact hf y (List.mem_of_getElem? d)
end
end Gr
noncomputable def subL (is:List Gr.Ni) (root node:Int):(List Gr.Ni×Int)×Nat:=
 if checkI sclX is root≠0 then(([],0),3)else if node<0\/(is.length:Int)<=node then(([],0),2)else(((Gr.keptN (is.map Gr.Ni.nd) (marks (is.map Gr.Ni.nd) node.toNat)).map Gr.Nd.ni,(((Gr.atL (marks (is.map Gr.Ni.nd) node.toNat)).getD node.toNat 0:Nat):Int)),0)
def ResR (L:(List Gr.Ni×Int)×Nat) (w:World) (e:Ending) (w':World):Prop:=
 Below w.heap.size w w'/\∃A2 c2 vs2,e=.returned (.tuple #[.agg #[.slice A2 L.1.1.length c2,.int .i64 L.1.2],.int .i64 (L.2:Nat)])/\∀W',KeptT 38 w' W'->KeptT 3 w' W'->IAt W' W'.heap.size A2 vs2 L.1.1
theorem ResR.zero {w w':World} (no:Nat) (h:Below w.heap.size w w'):ResR (([],0),no) w (.returned (.tuple #[gZero,.int .i64 (no:Nat)])) w':=⟨h,none,0,[],rfl,fun _ _ _=>inil _⟩
theorem zln {is:List Gr.Ni} {root node:Int} (h:checkI sclX is root≠0):subL is root node=(([],0),3):=by unfold subL;rw[if_pos h]
theorem zrx {is:List Gr.Ni} {root node:Int} (h:checkI sclX is root=0) (h2:node<0\/(is.length:Int)<=node):subL is root node=(([],0),2):=by unfold subL;rw[if_neg (fun k=>k h),if_pos h2]
theorem zlo {is:List Gr.Ni} {root:Int} {k:Nat} (h:checkI sclX is root=0) (h2:k<is.length):subL is root (k:Int)=(((Gr.keptN (is.map Gr.Ni.nd) (marks (is.map Gr.Ni.nd) k)).map Gr.Nd.ni,(((Gr.atL (marks (is.map Gr.Ni.nd) k)).getD k 0:Nat):Int)),0):=by
 unfold subL;rw[if_neg (fun k=>k h),if_neg (by omega),Int.toNat_natCast]
theorem zt8 (A:Option Addr) (c:Nat) (root node:Int) (vs:List NV) (is:List Gr.Ni) (hl:is.length<=1000) (hks:∀x∈is,x.text.length<=1000/\x.keys.length<=1000/\x.items.length<=1000) (w:World) (hT:UT w) (h:IAt w w.heap.size A vs is):
 Calls prog 6 #[.agg #[.slice A is.length c,.int .i64 root],.int .i64 node] w (ResR (subL is root node) w):=by
 obtain⟨z,d⟩:=ex (checkI sclX is root)
 have u:Hid (∀W,Below w.heap.size w W->Calls prog 15 #[.agg #[.slice A is.length c,.int .i64 root]] W fun e D=>e=.returned (.int .i64 (z:Nat))/\Below W.heap.size W D):=hid (fun W C=>by
  rw[<-d];exact zy5 A c root vs is (fun y hy=>by have:=hks y hy;omega) (by omega) W (UT.stays _ _ hT C) ((h.below C).more C.size) W (Below.refl _ _))
 have H3:=hid (fun h:z≠0=>zln (node:=node) (by rw[d];exact h));have H2:=hid (fun(h:z=0) h2=>zrx (node:=node) (d.trans h) h2);have U:Hid (∀k:Nat,z=0->node=(k:Int)->k<is.length->∀W,Below w.heap.size w W->Calls prog 16 #[.agg #[.slice A is.length c,.int .i64 (k:Nat)]] W fun e D=>Below W.heap.size W D/\∃(A2:Option Addr) (n2 c2 ra:Nat) (vs2:List NV),e=.returned (.agg #[.slice A2 n2 c2,.int .i64 (ra:Nat)])/\Hid ((subL is root node).1.1.length=n2/\(subL is root node).1.2=(ra:Int)/\(subL is root node).2=0/\∀W',KeptT 38 D W'->KeptT 3 D W'->IAt W' W'.heap.size A2 vs2 (subL is root node).1.1)):=hid (fun k l P H W C=>by
  obtain⟨r,rfl,T,I,_⟩:=Gr.zcz zbv (d.trans l);have:=zsn A c k vs (is.map Gr.Ni.nd) T.refs (by simpa using hl) (fun n J=>by
   obtain⟨x,hx,rfl⟩:=List.mem_map.1 J;have:=hks x hx;simp only[Gr.Ni.nd,List.length_map];omega) (by simpa using H) W (((h.below C).more C.size).toG (za4 I).1)
  rw[List.length_map]at this;refine this.mono ?_;rintro e D ⟨hb,A2,c2,vs2,rfl,hg⟩;rw[P,zlo (d.trans l) H];exact⟨hb,A2,_,c2,_,vs2,rfl,hid ⟨by simp,rfl,rfl,fun W' Y kI=>(hg W' Y kI).toI⟩⟩)
 obtain⟨N,M⟩:=ex is.length
 obtain⟨R,Q⟩:=ex (subL is root node)
 rw[M,Q]at H2 U;rw[Q]at H3;rw[M]at u hl;rw[M,Q];clear h hks d M Q hT;go_enter func6,ntmps6;go_upto_region 1 with fail;obtain⟨K,j⟩:=ex ((w.alloc (.cells #[.slice A N c,.int .i64 root] 24)).alloc (.cells #[.slice none 0 0,.int .i64 0] 24))
 obtain⟨f,a⟩:=ex w.heap.size
 have X:Blk K f 24 #[.slice A N c,.int .i64 root]:=by rw[<-j,<-a];exact(Blk.new _ _ _).alloc _
 have b2:Blk K (f+1) 24 #[.slice none 0 0,.int .i64 0]:=by rw[<-j,<-a];have:=Blk.new (w.alloc (.cells #[.slice A N c,.int .i64 root] 24)) 24 #[.slice none 0 0,.int .i64 0];rwa[World.size_alloc]at this
 have l1:Below f w K:=by rw[<-j,<-a];exact((Below.refl _ _).alloc (Nat.le_refl _) _).alloc (by simp) _
 rw[a]at u U;have m:=hid a;have L1:=hid l1;have g:=hid (And.intro X b2);obtain⟨q0,q1⟩:=cells2 X;(try rw[j]);(try rw[a]);clear j a X b2 l1;go_wp2_with fail;refine(u.out K L1.out).mono ?_;rintro e S ⟨rfl,s⟩;have b:=hid (And.intro (g.out.1.below s g.out.1.lt) (g.out.2.below s g.out.2.lt));have E:Hid (Below f w S):=hid (L1.out.trans (s.mono (Nat.le_of_lt g.out.1.lt)));obtain⟨d0,d1⟩:=cells2 b.out.2;have df:∀i,S.frozen? ⟨f+1,i,none⟩=false:=b.out.2.frozen;have q0:S.cell? ⟨f,0,none⟩=some (.slice A N c):=b.out.1.cell 0;clear s q1 u;by_cases l:z=0
 rotate_left
 .have V:((z:Int) != 0)=true:=by rw[bne_iff_ne];omega
  have L:=hid (H3.out l);go_wp2_with fail;refine bodyPost_ret (v:=.tuple #[gZero,.int .i64 3]) (by rw[results_cell_tmp rfl];go_simp;rfl) rfl ?_;rw[L.out];refine ResR.zero 3 ?_;rw[m.out];exact(E.out.setCell (by simp) _).setCell (by simp) _
 .have V:((z:Int) != 0)=false:=by rw[l];rfl
  have HZ:=hid l;by_cases J:node<0\/(N:Int)<=node
  .have L:=hid (H2.out l J);clear l;by_cases hn1:node<0
   .go_wp2_with fail;refine bodyPost_ret (v:=.tuple #[gZero,.int .i64 2]) (by rw[results_cell_tmp rfl];go_simp;rfl) rfl ?_;rw[L.out];refine ResR.zero 2 ?_;rw[m.out];exact(E.out.setCell (by simp) _).setCell (by simp) _
   .have Z:(N:Int)<=node:=by omega
    clear J;go_wp2_with fail;refine bodyPost_ret (v:=.tuple #[gZero,.int .i64 2]) (by rw[results_cell_tmp rfl];go_simp;rfl) rfl ?_;rw[L.out];refine ResR.zero 2 ?_;rw[m.out];exact(E.out.setCell (by simp) _).setCell (by simp) _
  .obtain⟨k,rfl⟩:∃k:Nat,node=(k:Int):=⟨node.toNat,by omega⟩
   have hn1:¬(k:Int)<0:=by omega
   have Z:¬(N:Int)<=(k:Int):=by omega
   have G:=hid (U.out k l rfl (by omega) S E.out);clear l J;go_wp2_with fail;refine G.out.mono ?_;rintro e O ⟨B,A2,n2,c2,ra,vs2,rfl,o⟩;have q:=b.out.2.below B b.out.2.lt;have F:=hid q;have L3:Hid (Below f w O):=hid (E.out.trans (B.mono (Nat.le_of_lt b.out.1.lt)));clear d0 d1 df q0 B G;obtain⟨d0,d1⟩:=cells2 q;have df:∀i,O.frozen? ⟨f+1,i,none⟩=false:=q.frozen;clear q;go_wp2_with fail;refine bodyPost_ret (v:=.tuple #[.agg #[.slice A2 n2 c2,.int .i64 ra],.int .i64 0]) (by rw[results_cell_tmp rfl];go_simp) rfl ⟨?_,A2,c2,vs2,?_,fun W' Y kI=>?_⟩
   .rw[m.out];exact(L3.out.setCell (by simp) _).setCell (by simp) _
   .rw[o.out.1,o.out.2.1,o.out.2.2.1];rfl
   .have P:∀t,t≠24->KeptT t O ((O.setCell ⟨f+1,0,none⟩ (.slice A2 n2 c2)).setCell ⟨f+1,1,none⟩ (.int .i64 (ra:Nat))):=fun t ht=>(KeptT.setCell (p:=⟨f+1,0,none⟩) F.out ht _).trans (KeptT.setCell (p:=⟨f+1,1,none⟩) (F.out.set_ 0 _) ht _)
    exact o.out.2.2.2 W' ((P _ (by decide)).trans Y) ((P _ (by decide)).trans kI)
theorem zt9 (A:Option Addr) (c:Nat) (root node:Int) (vs:List NV) (is:List Gr.Ni) (hl:is.length<=1000) (hks:∀x∈is,x.text.length<=1000/\x.keys.length<=1000/\x.items.length<=1000) (hc:is.length<=c) (w:World) (h:IAt w w.heap.size A vs is):
 Calls prog 7 #[.agg #[.slice A is.length c,.int .i64 root],.int .i64 node] w (ResR (subL is root node) w):=by
 obtain⟨z,d⟩:=ex (checkI sclX is root)
 have u:Hid (∀W,Below w.heap.size w W->Calls prog 10 #[.agg #[.slice A is.length c,.int .i64 root]] W fun e C=>e=.returned (.int .i64 (z:Nat))/\Below W.heap.size W C):=hid (fun W F=>by
  rw[<-d];exact zyl A c root vs is hl (fun y hy=>by have:=hks y hy;omega) W ((h.below F).more F.size) W (Below.refl _ _))
 have H3:=hid (fun h:z≠0=>zln (node:=node) (by rw[d];exact h));have H2:=hid (fun(h:z=0) h2=>zrx (node:=node) (d.trans h) h2);have U:Hid (∀k:Nat,z=0->node=(k:Int)->k<is.length->∀W,Below w.heap.size w W->Calls prog 17 #[.agg #[.slice A is.length c,.int .i64 (k:Nat)]] W fun e C=>Below W.heap.size W C/\∃(A2:Option Addr) (n2 c2 ra:Nat) (vs2:List NV),e=.returned (.agg #[.slice A2 n2 c2,.int .i64 (ra:Nat)])/\Hid ((subL is root node).1.1.length=n2/\(subL is root node).1.2=(ra:Int)/\(subL is root node).2=0/\∀W',KeptT 38 C W'->KeptT 3 C W'->IAt W' W'.heap.size A2 vs2 (subL is root node).1.1)):=hid (fun k l P H W F=>by
  obtain⟨r,rfl,T,I,_⟩:=Gr.zcz zbv (d.trans l);have:=zq6 A c k vs (is.map Gr.Ni.nd) T.refs (by simpa using hl) (fun n J=>by
   obtain⟨x,hx,rfl⟩:=List.mem_map.1 J;have:=hks x hx;simp only[Gr.Ni.nd,List.length_map];omega) (by simpa using H) (by simpa using hc) W (((h.below F).more F.size).toG (za4 I).1)
  rw[List.length_map]at this;refine this.mono ?_;rintro e C ⟨hb,A2,c2,vs2,rfl,hg⟩;rw[P,zlo (d.trans l) H];exact⟨hb,A2,_,c2,_,vs2,rfl,hid ⟨by simp,rfl,rfl,fun W' Y kI=>(hg W' Y kI).toI⟩⟩)
 obtain⟨N,M⟩:=ex is.length
 obtain⟨R,Q⟩:=ex (subL is root node)
 rw[M,Q]at H2 U;rw[Q]at H3;rw[M]at u hl;rw[M,Q];clear h hks d M Q hc;go_enter func7,ntmps7;go_upto_region 1 with fail;obtain⟨K,j⟩:=ex ((w.alloc (.cells #[.slice A N c,.int .i64 root] 24)).alloc (.cells #[.slice none 0 0,.int .i64 0] 24))
 obtain⟨f,a⟩:=ex w.heap.size
 have X:Blk K f 24 #[.slice A N c,.int .i64 root]:=by rw[<-j,<-a];exact(Blk.new _ _ _).alloc _
 have b2:Blk K (f+1) 24 #[.slice none 0 0,.int .i64 0]:=by rw[<-j,<-a];have:=Blk.new (w.alloc (.cells #[.slice A N c,.int .i64 root] 24)) 24 #[.slice none 0 0,.int .i64 0];rwa[World.size_alloc]at this
 have l1:Below f w K:=by rw[<-j,<-a];exact((Below.refl _ _).alloc (Nat.le_refl _) _).alloc (by simp) _
 rw[a]at u U;have m:=hid a;have L1:=hid l1;have g:=hid (And.intro X b2);obtain⟨q0,q1⟩:=cells2 X;(try rw[j]);(try rw[a]);clear j a X b2 l1;go_wp2_with fail;refine(u.out K L1.out).mono ?_;rintro e S ⟨rfl,s⟩;have b:=hid (And.intro (g.out.1.below s g.out.1.lt) (g.out.2.below s g.out.2.lt));have D:Hid (Below f w S):=hid (L1.out.trans (s.mono (Nat.le_of_lt g.out.1.lt)));obtain⟨d0,d1⟩:=cells2 b.out.2;have df:∀i,S.frozen? ⟨f+1,i,none⟩=false:=b.out.2.frozen;have q0:S.cell? ⟨f,0,none⟩=some (.slice A N c):=b.out.1.cell 0;clear s q1 u;by_cases l:z=0
 rotate_left
 .have V:((z:Int) != 0)=true:=by rw[bne_iff_ne];omega
  have L:=hid (H3.out l);go_wp2_with fail;refine bodyPost_ret (v:=.tuple #[gZero,.int .i64 3]) (by rw[results_cell_tmp rfl];go_simp;rfl) rfl ?_;rw[L.out];refine ResR.zero 3 ?_;rw[m.out];exact(D.out.setCell (by simp) _).setCell (by simp) _
 .have V:((z:Int) != 0)=false:=by rw[l];rfl
  have HZ:=hid l;by_cases J:node<0\/(N:Int)<=node
  .have L:=hid (H2.out l J);clear l;by_cases hn1:node<0
   .go_wp2_with fail;refine bodyPost_ret (v:=.tuple #[gZero,.int .i64 2]) (by rw[results_cell_tmp rfl];go_simp;rfl) rfl ?_;rw[L.out];refine ResR.zero 2 ?_;rw[m.out];exact(D.out.setCell (by simp) _).setCell (by simp) _
   .have Z:(N:Int)<=node:=by omega
    clear J;go_wp2_with fail;refine bodyPost_ret (v:=.tuple #[gZero,.int .i64 2]) (by rw[results_cell_tmp rfl];go_simp;rfl) rfl ?_;rw[L.out];refine ResR.zero 2 ?_;rw[m.out];exact(D.out.setCell (by simp) _).setCell (by simp) _
  .obtain⟨k,rfl⟩:∃k:Nat,node=(k:Int):=⟨node.toNat,by omega⟩
   have hn1:¬(k:Int)<0:=by omega
   have Z:¬(N:Int)<=(k:Int):=by omega
   have G:=hid (U.out k l rfl (by omega) S D.out);clear l J;go_wp2_with fail;refine G.out.mono ?_;rintro e O ⟨B,A2,n2,c2,ra,vs2,rfl,o⟩;have q:=b.out.2.below B b.out.2.lt;have E:=hid q;have L3:Hid (Below f w O):=hid (D.out.trans (B.mono (Nat.le_of_lt b.out.1.lt)));clear d0 d1 df q0 B G;obtain⟨d0,d1⟩:=cells2 q;have df:∀i,O.frozen? ⟨f+1,i,none⟩=false:=q.frozen;clear q;go_wp2_with fail;refine bodyPost_ret (v:=.tuple #[.agg #[.slice A2 n2 c2,.int .i64 ra],.int .i64 0]) (by rw[results_cell_tmp rfl];go_simp) rfl ⟨?_,A2,c2,vs2,?_,fun W' Y kI=>?_⟩
   .rw[m.out];exact(L3.out.setCell (by simp) _).setCell (by simp) _
   .rw[o.out.1,o.out.2.1,o.out.2.2.1];rfl
   .have P:∀t,t≠24->KeptT t O ((O.setCell ⟨f+1,0,none⟩ (.slice A2 n2 c2)).setCell ⟨f+1,1,none⟩ (.int .i64 (ra:Nat))):=fun t ht=>(KeptT.setCell (p:=⟨f+1,0,none⟩) E.out ht _).trans (KeptT.setCell (p:=⟨f+1,1,none⟩) (E.out.set_ 0 _) ht _)
    exact o.out.2.2.2 W' ((P _ (by decide)).trans Y) ((P _ (by decide)).trans kI)
namespace Gr
theorem zlp (n i:Nat) (h:i<n):(atL (List.replicate n true)).getD i 0=i:=by
 rw[zc9 (by simpa using h),List.take_replicate,Nat.min_eq_left (Nat.le_of_lt h),List.count_replicate];simp
theorem zua {ns:List Nd} {r:Nat} (h:WellF ns r):keptN ns (marks ns r)=ns/\(atL (marks ns r)).getD r 0=r:=by
 have k:marks ns r=List.replicate ns.length true:=by
  apply List.ext_getElem
  .rw[zav h.refs h.root,List.length_replicate]
  .intro i g b;rw[List.length_replicate]at b;have:=(zay h.refs h.root i).2 (h.all i b);unfold mkd at this;rw[List.getD_eq_getElem?_getD,List.getElem?_eq_getElem g]at this;simpa using this
 rw[k];refine⟨?_,zlp _ _ h.root⟩;have c:∀x∈ns,mvN (atL (List.replicate ns.length true)) x=x:=fun x f=>by
  unfold mvN;have e:∀l:List Nat,(∀y∈l,y<ns.length)->l.map (fun y=>(atL (List.replicate ns.length true)).getD y 0)=l:=fun l j=>by
   conv=>rhs;rw[<-List.map_id l]
   exact List.map_congr_left (fun y a=>zlp _ _ (j y a))
  rw[e _ (fun y a=>h.refs x f y (List.mem_append_left _ a)),e _ (fun y a=>h.refs x f y (List.mem_append_right _ a))]
 unfold keptN;rw[zi6 (by simp) (Nat.le_refl _)];have d:idxL (List.replicate ns.length true) ns.length=List.range ns.length:=by
  unfold idxL;rw[List.filter_eq_self];intro i d;simp[List.getD_eq_getElem?_getD,List.mem_range.1 d]
 rw[d];apply List.ext_getElem
 .simp
 .intro i g b;rw[List.getElem_map,List.getElem_range,List.getD_eq_getElem?_getD,List.getElem?_eq_getElem b];exact c _ (List.getElem_mem b)
theorem zyq {is:List Ni} (h:∀x∈is,∀y∈x.keys++x.items,0<=y):(is.map Ni.nd).map Nd.ni=is:=by
 rw[List.map_map]
 conv=>rhs;rw[<-List.map_id is]
 apply List.map_congr_left;intro x c;have b:∀l:List Int,(∀y∈l,0<=y)->(l.map Int.toNat).map Int.ofNat=l:=fun l f=>by
  rw[List.map_map]
  conv=>rhs;rw[<-List.map_id l]
  exact List.map_congr_left (fun y a=>Int.toNat_of_nonneg (f y a))
 have e:=b x.keys (fun y a=>h x c y (List.mem_append_left _ a));have d:=b x.items (fun y a=>h x c y (List.mem_append_right _ a));cases x;simp only[Function.comp,Ni.nd,Nd.ni,id]at e d ⊢;rw[e,d]
end Gr
theorem zxd {is:List Gr.Ni} {root node:Int} (hl:is.length<=100) (hks:∀x∈is,x.text.length<=1000/\x.keys.length<=1000/\x.items.length<=1000):
 Sz (subL is root node).1.1/\((subL is root node).2=0->∀A2 c2 vs2 W,UT W->IAt W W.heap.size A2 vs2 (subL is root node).1.1->ChkOk W (.agg #[.slice A2 (subL is root node).1.1.length c2,.int .i64 (subL is root node).1.2]) 0):=by
 by_cases h0:checkI sclX is root=0
 .by_cases hn:node<0\/(is.length:Int)<=node
  .rw[zrx h0 hn];exact⟨zu2,fun h=>absurd h (by decide)⟩
  .obtain⟨k,rfl⟩:∃k:Nat,node=(k:Int):=⟨node.toNat,by omega⟩
   rw[zlo h0 (by omega)];obtain⟨r,rfl,c,_,i,g,m⟩:=Gr.zcz zbv h0;have d:k<(is.map Gr.Ni.nd).length:=by rw[List.length_map];omega
   have f:=Gr.keptOf c.refs d;have e:=f.wf c d;have j:=f.check c d i g m;obtain⟨K,l⟩:=ex (Gr.keptN (is.map Gr.Ni.nd) (marks (is.map Gr.Ni.nd) k))
   have b:K.length<=1000:=by
    have:=f.sub.length_le;rw[l]at this;simp at this;omega
   have a:∀n∈K,n.keys.length<=1000/\n.items.length<=1000/\n.text.length<=1000:=by
    rw[<-l];refine Gr.zo5 (P:=fun n=>n.keys.length<=1000/\n.items.length<=1000/\n.text.length<=1000) (fun x o=>?_);obtain⟨y,q,rfl⟩:=List.mem_map.1 o;have:=hks y q;simp only[Gr.mvN,Gr.Ni.nd,List.length_map];omega
   try simp only at e j
   rw[l]at e j ⊢;refine⟨zy7 b a,fun _ A2 c2 vs2 W s p=>?_⟩;have:=ck_g e.refs e.root b a A2 c2 vs2 W s (zyp p);rw[show checkG sclX K ((Gr.atL (marks (is.map Gr.Ni.nd) k)).getD k 0)=0 from by unfold checkG;rw[if_neg (by omega)];exact j]at this;rw[List.length_map];exact this
 .rw[zln h0];exact⟨zu2,fun h=>absurd h (by decide)⟩
theorem zry (A:Option Addr) (c:Nat) (root:Int) (vs:List NV) (is:List Gr.Ni) (node:Int) (hz:Sz is) (hc:is.length<=c) (w:World) (hUT:UT w) (h:IAt w w.heap.size A vs is):
 Calls prog 3 #[.agg #[.slice A is.length c,.int .i64 root],.int .i64 node] w fun e w'=>e=.returned (.bool true)/\Below w.heap.size w w':=by
 obtain⟨w1,ad⟩:=ex (w.alloc (.cells #[.slice A is.length c,.int .i64 root] 24))
 have b1:Blk w1 w.heap.size 24 #[.slice A is.length c,.int .i64 root]:=by rw[<-ad];exact Blk.new _ _ _
 have l1:Below w.heap.size w w1:=by rw[<-ad];exact(Below.refl _ _).alloc (Nat.le_refl _) _
 have L1:=hid l1;have aH:=hid b1;have HT:Hid (∀W,Below w.heap.size w W->UT W):=hid (fun W t=>UT.stays _ _ hUT t);have HI:Hid (∀W,Below w.heap.size w W->IAt W W.heap.size A vs is):=hid (fun W t=>(h.below t).more t.size);have ao:Hid (∀W,Below w.heap.size w W->Calls prog 5 #[] W fun e w'=>e=.returned (.bool true)/\Below W.heap.size W w'):=hid (fun W t=>zrv W (UT.stays _ _ hUT t));have HF:=hid (zw9 A c root vs is hz w1 ((h.below l1).more l1.size));obtain⟨s,C⟩:=cells2 b1;have ah:=hid (fun hf:Gr.few is=true=>zw0 hf);have aq:=hid (fun hf:Gr.few is=true=>zw1 hf);have aN:=hid (And.intro hc hz);obtain⟨aV,ae⟩:=ex (Gr.few is)
 rw[ae]at HF ah aq;clear ae h hz hUT b1 l1 hc;go_enter func3,ntmps3;go_upto_region 1 with fail;(try rw[ad]);clear ad;go_wp2_with fail;refine HF.out.mono ?_;rintro e w2 ⟨rfl,ar⟩;have L2:Hid (Below w.heap.size w w2):=hid (L1.out.trans (ar.mono L1.out.size));have af:Hid (Blk w2 w.heap.size 24 #[.slice A is.length c,.int .i64 root]):=hid (aH.out.below ar aH.out.lt);clear ar s C HF;cases aV with
 |false=>
  go_wp2_with fail;refine(ao.out w2 L2.out).mono ?_;rintro e w3 ⟨rfl,u⟩;have L3:Hid (Below w.heap.size w w3):=hid (L2.out.trans (u.mono L2.out.size));clear u;go_wp2;go_ret;exact⟨rfl,L3.out⟩
 |true=>
  have hl40:=ah.out rfl;have aP:=hid (aq.out rfl);have aj:Hid (∀x∈is,x.text.length<=1000/\x.keys.length<=1000/\x.items.length<=1000):=hid (fun x hx=>by have:=aP.out x hx;omega);have HP:Hid (∀(q:Int) (L:List Gr.Ni) (R:Int) (no:Nat),subL is root q=((L,R),no)->∀W,Below w.heap.size w W->Calls prog 6 #[.agg #[.slice A is.length c,.int .i64 root],.int .i64 q] W fun e w'=>Below W.heap.size W w'/\∃A2 c2 vs2,e=.returned (.tuple #[.agg #[.slice A2 L.length c2,.int .i64 R],.int .i64 (no:Nat)])/\Hid (∀W',Below w'.heap.size w' W'->IAt W' W'.heap.size A2 vs2 L)):=hid (fun q L R no he W t=>by
   have:=zt8 A c root q vs is (by omega) aj.out W (HT.out W t) (HI.out W t);rw[he]at this;refine this.mono ?_;rintro e w' ⟨hb,A2,c2,vs2,rfl,hi⟩;exact⟨hb,A2,c2,vs2,rfl,hid (fun W' g=>hi W' (KeptT.later g) (KeptT.later g))⟩)
  have HR:Hid (∀(q:Int) (L:List Gr.Ni) (R:Int) (no:Nat),subL is root q=((L,R),no)->∀W,Below w.heap.size w W->Calls prog 7 #[.agg #[.slice A is.length c,.int .i64 root],.int .i64 q] W fun e w'=>Below W.heap.size W w'/\∃A2 c2 vs2,e=.returned (.tuple #[.agg #[.slice A2 L.length c2,.int .i64 R],.int .i64 (no:Nat)])/\Hid (∀W',Below w'.heap.size w' W'->IAt W' W'.heap.size A2 vs2 L)):=hid (fun q L R no he W t=>by
   have:=zt9 A c root q vs is (by omega) aj.out aN.out.1 W (HI.out W t);rw[he]at this;refine this.mono ?_;rintro e w' ⟨hb,A2,c2,vs2,rfl,hi⟩;exact⟨hb,A2,c2,vs2,rfl,hid (fun W' g=>hi W' (KeptT.later g) (KeptT.later g))⟩)
  have Z:Hid (∀W,Below w.heap.size w W->Calls prog 10 #[.agg #[.slice A is.length c,.int .i64 root]] W fun e w'=>e=.returned (.int .i64 (checkI sclX is root:Nat))/\Below W.heap.size W w'):=hid (fun W t=>zyl A c root vs is (by omega) (fun y hy=>by have:=aP.out y hy;omega) W (HI.out W t) W (Below.refl _ _));have ak:=zxd (is:=is) (root:=root) (node:=node) (by omega) aj.out;obtain⟨L,R,no,hs⟩:∃L R no,subL is root node=((L,R),no):=⟨_,_,_,rfl⟩
  rw[hs]at ak;have aJ:=hid ak;have HS:=hid hs;obtain⟨ck,z⟩:=ex (checkI sclX is root)
  have HCQ:=hid z;rw[z]at Z;obtain⟨b,T,f2,aA,aD,G⟩:∃(b:List Gr.Ni) (T:Int) (f2:Nat),subL is root root=((b,T),f2)/\(f2=0↔ck=0)/\(f2=0->b=is/\T=root):=by
   by_cases h0:ck=0
   .obtain⟨r,rfl,aM,ax,_⟩:=Gr.zcz zbv (z.trans h0);have aW:r<is.length:=by have:=aM.root;rwa[List.length_map]at this
    obtain⟨k1,k2⟩:=Gr.zua aM;refine⟨_,_,0,by rw[zlo (z.trans h0) aW,k1,k2],by simp[h0],fun _=>⟨Gr.zyq (za4 ax).1,rfl⟩⟩
   .exact⟨[],0,3,zln (by rw[z];exact h0),by simp[h0],fun h=>absurd h (by decide)⟩
  have aS:=hid aA;have ap:=hid (And.intro aD G);clear hs ak z aA aD G ah aq;obtain⟨N,hN⟩:=ex L.length
  obtain⟨N2,E⟩:=ex b.length
  have aa:=hid (And.intro hN E);obtain⟨s,C⟩:=cells2 af.out;have a:=HP.out node L R no HS.out w2 L2.out;rw[hN]at a;have av:=hid a;clear a hN E;go_wp2_with fail;refine av.out.mono ?_;rintro e w3 ⟨u,A2,c2,vs2,rfl,az⟩;have L3:Hid (Below w.heap.size w w3):=hid (L2.out.trans (u.mono L2.out.size));have aL:Hid (Blk w3 w.heap.size 24 #[.slice A is.length c,.int .i64 root]):=hid (af.out.below u af.out.lt);clear u s C av;go_upto_region 4 with fail;obtain⟨gb,B⟩:=ex w3.heap.size
  obtain⟨w4,ab⟩:=ex (w3.alloc (.cells #[.slice A2 N c2,.int .i64 R] 24))
  have l4:Below gb w3 w4:=by rw[<-ab,<-B];exact(Below.refl _ _).alloc (Nat.le_refl _) _
  have b4:Blk w4 gb 24 #[.slice A2 N c2,.int .i64 R]:=by rw[<-ab,<-B];exact Blk.new _ _ _
  have aK:w.heap.size<gb:=by rw[<-B];exact aL.out.lt
  have L4:Hid (Below w.heap.size w w4):=hid (L3.out.trans (l4.mono (by omega)));have K:Hid (Blk w4 gb 24 #[.slice A2 N c2,.int .i64 R]/\Blk w4 w.heap.size 24 #[.slice A is.length c,.int .i64 root]):=hid ⟨b4,aL.out.below l4 aK⟩;have ay:Hid (∀W',Below w4.heap.size w4 W'->IAt W' W'.heap.size A2 vs2 L):=hid (fun W' g=>az.out W' (by rw[B];exact l4.trans (g.mono (by have:=b4.lt;omega))));obtain⟨s,C⟩:=cells2 K.out.2;(try rw[ab]);(try rw[B]);clear ab B l4 b4 aK az;have a:=HR.out node L R no HS.out w4 L4.out;rw[aa.out.1]at a;have aC:=hid a;clear a;go_wp2_with fail;refine aC.out.mono ?_;rintro e w5 ⟨v,Q,c3,O,rfl,aE⟩;have L5:Hid (Below w.heap.size w w5):=hid (L4.out.trans (v.mono L4.out.size));have J:Hid (Blk w5 gb 24 #[.slice A2 N c2,.int .i64 R]/\Blk w5 w.heap.size 24 #[.slice A is.length c,.int .i64 root]):=hid ⟨K.out.1.below v K.out.1.lt,K.out.2.below v K.out.2.lt⟩;have aI:Hid (∀W',Below w5.heap.size w5 W'->IAt W' W'.heap.size A2 vs2 L/\IAt W' W'.heap.size Q O L):=hid (fun W' g=>⟨ay.out W' (v.trans (g.mono v.size)),aE.out W' g⟩);clear v s C aC ay aE;go_upto_region 5 with fail;obtain⟨gc,j⟩:=ex w5.heap.size
  obtain⟨w6,U⟩:=ex (w5.alloc (.cells #[.slice Q N c3,.int .i64 R] 24))
  have l6:Below gc w5 w6:=by rw[<-U,<-j];exact(Below.refl _ _).alloc (Nat.le_refl _) _
  have b6:Blk w6 gc 24 #[.slice Q N c3,.int .i64 R]:=by rw[<-U,<-j];exact Blk.new _ _ _
  have L6:Hid (Below w.heap.size w w6):=hid (L5.out.trans (l6.mono (by rw[<-j];exact L5.out.size)));have k:Hid (Blk w6 gb 24 #[.slice A2 N c2,.int .i64 R]/\Blk w6 w.heap.size 24 #[.slice A is.length c,.int .i64 root]/\Blk w6 gc 24 #[.slice Q N c3,.int .i64 R]):=hid ⟨J.out.1.below l6 (by rw[<-j];exact J.out.1.lt),J.out.2.below l6 (by rw[<-j];exact J.out.2.lt),b6⟩;have ag:Hid (∀W',Below w6.heap.size w6 W'->IAt W' W'.heap.size A2 vs2 L/\IAt W' W'.heap.size Q O L):=hid (fun W' g=>aI.out W' (by rw[j];exact l6.trans (g.mono (by have:=b6.lt;omega))));obtain⟨s,C⟩:=cells2 k.out.2.1;(try rw[U]);(try rw[j]);clear U j l6 b6 aI J;have a:=HP.out root b T f2 aS.out w6 L6.out;rw[aa.out.2]at a;have aF:=hid a;clear a;go_wp2_with fail;refine aF.out.mono ?_;rintro e Y ⟨f,A4,c4,ac,rfl,aw⟩;have L7:Hid (Below w.heap.size w Y):=hid (L6.out.trans (f.mono L6.out.size));have o:Hid (Blk Y gb 24 #[.slice A2 N c2,.int .i64 R]/\Blk Y w.heap.size 24 #[.slice A is.length c,.int .i64 root]/\Blk Y gc 24 #[.slice Q N c3,.int .i64 R]):=hid ⟨k.out.1.below f k.out.1.lt,k.out.2.1.below f k.out.2.1.lt,k.out.2.2.below f k.out.2.2.lt⟩;have aO:Hid (∀W',Below Y.heap.size Y W'->IAt W' W'.heap.size A2 vs2 L/\IAt W' W'.heap.size Q O L/\IAt W' W'.heap.size A4 ac b):=hid (fun W' g=>⟨(ag.out W' (f.trans (g.mono f.size))).1,(ag.out W' (f.trans (g.mono f.size))).2,aw.out W' g⟩);clear f s C aF ag aw k;go_upto_region 6 with fail;obtain⟨gd,d⟩:=ex Y.heap.size
  obtain⟨n,V⟩:=ex (Y.alloc (.cells #[.slice A4 N2 c4,.int .i64 T] 24))
  have l8:Below gd Y n:=by rw[<-V,<-d];exact(Below.refl _ _).alloc (Nat.le_refl _) _
  have b8:Blk n gd 24 #[.slice A4 N2 c4,.int .i64 T]:=by rw[<-V,<-d];exact Blk.new _ _ _
  have L8:Hid (Below w.heap.size w n):=hid (L7.out.trans (l8.mono (by rw[<-d];exact L7.out.size)));have m:Hid (Blk n gb 24 #[.slice A2 N c2,.int .i64 R]/\Blk n w.heap.size 24 #[.slice A is.length c,.int .i64 root]/\Blk n gc 24 #[.slice Q N c3,.int .i64 R]/\Blk n gd 24 #[.slice A4 N2 c4,.int .i64 T]):=hid ⟨o.out.1.below l8 (by rw[<-d];exact o.out.1.lt),o.out.2.1.below l8 (by rw[<-d];exact o.out.2.1.lt),o.out.2.2.below l8 (by rw[<-d];exact o.out.2.2.lt),b8⟩;have F:Hid (∀W',Below n.heap.size n W'->IAt W' W'.heap.size A2 vs2 L/\IAt W' W'.heap.size Q O L/\IAt W' W'.heap.size A4 ac b):=hid (fun W' g=>aO.out W' (by rw[d];exact l8.trans (g.mono (by have:=b8.lt;omega))));obtain⟨r0,r1⟩:=cells2 m.out.1;obtain⟨r2,r3⟩:=cells2 m.out.2.2.1;have an:=zrw A2 Q c2 c3 R (no:Nat) vs2 O L aJ.out.1 n (F.out n (Below.refl _ _)).1 (F.out n (Below.refl _ _)).2.1 (fun h=>aJ.out.2 (by omega) A2 c2 vs2 n (HT.out n L8.out) (F.out n (Below.refl _ _)).1);rw[aa.out.1]at an;have aB:=hid an;(try rw[V]);(try rw[d]);clear V d l8 b8 aO o an;go_wp2_with fail;refine aB.out.mono ?_;rintro e X ⟨rfl,D⟩;have L9:Hid (Below w.heap.size w X):=hid (L8.out.trans (D.mono L8.out.size));have S:Hid (Blk X w.heap.size 24 #[.slice A is.length c,.int .i64 root]/\Blk X gd 24 #[.slice A4 N2 c4,.int .i64 T]):=hid ⟨m.out.2.1.below D m.out.2.1.lt,m.out.2.2.2.below D m.out.2.2.2.lt⟩;have aU:Hid (IAt X X.heap.size A4 ac b):=hid (F.out X D).2.2;clear D r0 r1 r2 r3 aB m F;obtain⟨s,C⟩:=cells2 S.out.1;by_cases h0:f2=0
  .have H:ck=0:=ap.out.1.1 h0;obtain⟨aY,aT⟩:=ap.out.2 h0;subst h0;subst H;subst aY;subst aT;have E:b.length=N2:=aa.out.2;have M:=zgb A4 A c4 c T ac vs b aN.out.2 X aU.out (HI.out X L9.out);rw[E]at M s Z;have aR:=hid M;have aX:(((0:Nat):Int) != 0)=false:=rfl;have aQ:(((0:Nat):Int)==0)=true:=rfl;have htt:(true==true)=true:=rfl;obtain⟨r4,r5⟩:=cells2 S.out.2;clear M;go_wp2_with fail;refine aR.out.mono ?_;rintro e aG ⟨rfl,P⟩;have au:Hid (Below w.heap.size w aG):=hid (L9.out.trans (P.mono L9.out.size));have ai:=S.out.1.below P S.out.1.lt;rw[E]at ai;clear s C r4 r5 P;obtain⟨s,C⟩:=cells2 ai;clear ai;go_wp2_with fail;refine(Z.out aG au.out).mono ?_;rintro e I ⟨rfl,l⟩;have p:Hid (Below w.heap.size w I):=hid (au.out.trans (l.mono au.out.size));clear l s C;go_wp2_with fail;refine(ao.out I p.out).mono ?_;rintro e am ⟨rfl,i⟩;have al:Hid (Below w.heap.size w am):=hid (p.out.trans (i.mono p.out.size));clear i;go_wp2;go_ret;exact⟨rfl,al.out⟩
  .have H:ck≠0:=fun h=>h0 (ap.out.1.2 h)
   have aX:((f2:Int) != 0)=true:=by rw[bne_iff_ne];omega
   have aQ:((f2:Int)==0)=false:=by rw[beq_eq_false_iff_ne];omega
   have h02:((ck:Int)==0)=false:=by rw[beq_eq_false_iff_ne];omega
   have hff:(false==false)=true:=rfl;clear h0 H;go_wp2_with fail;refine(Z.out X L9.out).mono ?_;rintro e I ⟨rfl,l⟩;have p:Hid (Below w.heap.size w I):=hid (L9.out.trans (l.mono L9.out.size));clear l s C;go_wp2_with fail;refine(ao.out I p.out).mono ?_;rintro e am ⟨rfl,i⟩;have al:Hid (Below w.heap.size w am):=hid (p.out.trans (i.mono p.out.size));clear i;go_wp2;go_ret;exact⟨rfl,al.out⟩
open Go.RowKit Go.WideShapes Go.ChangeShapes Go.Deep
theorem zr1 {α:Type} {Q:Nat->α->Prop} {n:Nat} (h:∀i,i<n->∃x,Q i x):∃l:List α,l.length=n/\∀i (hi:i<l.length),Q i l[i]:=by
 induction n with
 |zero=>exact⟨[],rfl,fun i h=>by simp at h⟩
 |succ n ih=>
  obtain⟨l,a,hl⟩:=ih (fun i hi=>h i (by omega));obtain⟨x,hx⟩:=h n (by omega);refine⟨l++[x],by simp[a],fun i hi=>?_⟩;by_cases hil:i<l.length
  .grind
  .grind
theorem row_of {α:Type} (L:Lay α) {w:World} {a:Addr} {l:List α} (h:∀i (hi:i<l.length) j u,(L.enc l[i])[j]? =some u->w.cell? (a.add (i*L.sz+j))=some u):RowAt L w w.heap.size (some a) l:=by
 have e:∀j u,(L.all l)[j]? =some u->w.cell? (a.add j)=some u:=by
  intro j u c;have o:=L.pos;have g:j<l.length*L.sz:=by have:=(List.getElem?_eq_some_iff.1 c).1;rwa[L.all_len]at this
  have k:j /L.sz<l.length:=Nat.div_lt_of_lt_mul (by rw[Nat.mul_comm];exact g);have q:j%L.sz<L.sz:=Nat.mod_lt _ o;have s:=L.len l[j /L.sz];obtain⟨f,b⟩:∃f,(L.enc l[j /L.sz])[j%L.sz]? =some f:=⟨_,List.getElem?_eq_getElem (l:=L.enc l[j /L.sz]) (i:=j%L.sz) (by rw[s];exact q)⟩
  have n:=L.all_at l (j /L.sz) l[j /L.sz] (List.getElem?_eq_getElem k) (j%L.sz) f b;have m:j /L.sz*L.sz+j%L.sz=j:=by rw[Nat.mul_comm];exact Nat.div_add_mod j L.sz
  rw[m]at n;rw[n]at c;injection c with c
  subst c;have:=h _ k _ _ b;rwa[m]at this
 refine⟨L.all_len l,fun t=>⟨a,rfl,?_,e⟩⟩;have y:0<(L.all l).length:=by rw[L.all_len];exact Nat.mul_pos t L.pos
 have:=World.block_lt_of_cell? w _ (e 0 _ (List.getElem?_eq_getElem y));rwa[zbe]at this
section
variable {H:Type} {enc:TypeId×Value->H} {W:World} {r:Reach} {b0 base fuel:Nat} {sp:Nat->Bool} {hd:Bool} {v:Value} {d:DataW H} {p:List MemPlace} {cs:List Value} {x:DataW H×List MemPlace}
theorem zja (h:DataW.trod enc prog W base sp hd fuel 36 cs=some x):
 ∃(A:Option Addr) (c:Nat) (l:List Int),cs=[.slice A l.length c]/\RowAt intI W W.heap.size A l/\l.length<=maxLen:=by
 rcases open_slice1 underlying36 (by kernel_rfl) h with⟨k,y⟩|⟨a,f,o,m,n,V,D,Pl,rfl,hb,hl,hm,q,rfl,y⟩
 .exact⟨none,0,[],k,RowAt.nil,by simp⟩
 .have hml:f<=m:=by rw[q];split<;>omega
  obtain⟨l,s,b⟩:=zr1 (Q:=fun i (x:Int)=>W.cell? (a.add i)=some (.int .i64 x)) (n:=f) (fun i t=>by
   obtain⟨w,z⟩:=y i (by omega);obtain⟨n,e,_⟩:=DataW.trod_int underlying3 z;injection e with e
   exact⟨n,by rw[w,e]⟩)
  subst s;refine⟨some a,o,l,rfl,row_of intI (fun i t j u g=>?_),by omega⟩;have B:j=0:=by
   have:=(List.getElem?_eq_some_iff.1 g).1;have w:(intI.enc l[i]).length=1:=rfl;omega
  subst B;have g:some (Value.int .i64 l[i])=some u:=g;rw[<-g,<-b i t];show W.cell? (a.add (i*1+0))=_;rw[Nat.mul_one,Nat.add_zero]
theorem znx (h:DataW.trod enc prog W base sp hd fuel 22 cs=some x):
 ∃(A:Option Addr) (c:Nat) (vs:List NV) (is:List Gr.Ni),cs=[.slice A is.length c]/\IAt W W.heap.size A vs is/\is.length<=maxLen/\∀y∈is,y.text.length<=maxLen/\y.keys.length<=maxLen/\y.items.length<=maxLen:=by
 have U:prog.cellsOf 38=5:=by kernel_rfl
 have Y:prog.cellsOf 3=1:=by kernel_rfl
 have F:prog.cellsOf 9=1:=by kernel_rfl
 have R:prog.cellsOf 4=1:=by kernel_rfl
 have G:prog.cellsOf 36=1:=by kernel_rfl
 obtain⟨C,w⟩:∃C:Array Field,prog.underlying 38=some (.struct C)/\C.map (fun f=>(f.type,f.offset))=#[(3,0),(9,1),(4,2),(36,3),(36,4)]:=⟨_,underlying38,by kernel_rfl⟩
 obtain⟨w,N⟩:=w;have q:∀(i:Nat) (t:TypeId) (o:Nat),(#[(3,0),(9,1),(4,2),(36,3),(36,4)]:Array (TypeId×Nat))[i]? =some (t,o)->∃f:Field,C[i]? =some f/\f.type=t/\f.offset=o:=by
  grind
 rcases open_slice underlying22 h with⟨S,hx⟩|⟨a,E,O,m,n,D,Pl,rfl,hb,hl,hm,P,rfl,hx⟩
 .exact⟨none,0,[],[],S,⟨RowAt.nil,rfl,fun j h=>by simp at h,fun j h=>by simp at h⟩,by simp,by simp⟩
 .have hml:E<=m:=by rw[P];split<;>omega
  obtain⟨l,aa,e⟩:=zr1 (n:=E) (Q:=fun i (x:NV×Gr.Ni)=>(∀j u,(nodeL.enc x.1)[j]? =some u->W.cell? (a.add (i*5+j))=some u)/\(x.1.kind=x.2.kind/\x.1.text=x.2.text/\x.1.ord=x.2.ord)/\
   (RowAt intI W W.heap.size x.1.k.a x.2.keys/\x.1.k.n=x.2.keys.length/\RowAt intI W W.heap.size x.1.i.a x.2.items/\x.1.i.n=x.2.items.length)/\x.2.text.length<=maxLen/\x.2.keys.length<=maxLen/\x.2.items.length<=maxLen) (fun i I=>by
   obtain⟨Z,M,X⟩:=hx i (by omega);rw[U]at M;obtain⟨_,J,K⟩:=World.cells?_some M;obtain⟨xs,n',_,_,_,hxl,L⟩:=DataW.trod_struct w X;have hsz:C.size=5:=by have:=congrArg Array.size N;simpa using this
   obtain⟨f0,g0,t0,o0⟩:=q 0 _ _ rfl;obtain⟨f1,g1,t1,o1⟩:=q 1 _ _ rfl;obtain⟨f2,g2,t2,o2⟩:=q 2 _ _ rfl;obtain⟨f3,g3,t3,o3⟩:=q 3 _ _ rfl;obtain⟨f4,g4,t4,o4⟩:=q 4 _ _ rfl;have e0:=L 0 f0 g0;have e1:=L 1 f1 g1;have e2:=L 2 f2 g2;have e3:=L 3 f3 g3;have e4:=L 4 f4 g4;rw[t0,o0,Y,List.getElem?_eq_getElem (by omega)]at e0;rw[t1,o1,F,List.getElem?_eq_getElem (by omega)]at e1;rw[t2,o2,R,List.getElem?_eq_getElem (by omega)]at e2;rw[t3,o3,G,List.getElem?_eq_getElem (by omega)]at e3;rw[t4,o4,G,List.getElem?_eq_getElem (by omega)]at e4;obtain⟨k,k1,_⟩:=DataW.trod_int underlying3 e0;obtain⟨s,s1,_,s3⟩:=DataW.trod_string underlying9 e1;obtain⟨b,b1,_⟩:=DataW.trod_bool underlying4 e2;obtain⟨A3,c3,l3,r3,q3,z3⟩:=zja e3;obtain⟨A4,c4,l4,r4,q4,z4⟩:=zja e4
   match Z,J with
   | [v0,v1,v2,v3,v4],_=>
    simp at k1 s1 b1 r3 r4;subst k1 s1 b1 r3 r4;have hs:s=⟨(s.data.toList).toArray⟩:=by apply ByteArray.ext;simp
    have T:s.data.toList.length<=maxLen:=by simpa using s3
    refine⟨(⟨k,s.data.toList,b,⟨A3,l3.length,c3⟩,⟨A4,l4.length,c4⟩⟩,⟨k,s.data.toList,b,l3,l4⟩),?_,⟨rfl,rfl,rfl⟩,⟨q3,rfl,q4,rfl⟩,T,z3,z4⟩;intro j u g;have hat':=fun j hj=>K j hj
    have hj:j<5:=by
     have:=(List.getElem?_eq_some_iff.1 g).1;exact this
    have B:=K j (by omega);rw[zft]at B;have V:j=0\/j=1\/j=2\/j=3\/j=4:=by omega
    rcases V with rfl|rfl|rfl|rfl|rfl
    .exact B.trans g
    .have g:some (Value.string ⟨(s.data.toList).toArray⟩)=some u:=g;rw[<-hs]at g;exact B.trans g
    .exact B.trans g
    .exact B.trans g
    .exact B.trans g)
  subst aa;refine⟨some a,O,l.map (·.1),l.map (·.2),by simp,⟨row_of nodeL (fun i I j u g=>?_),by simp,fun j M X=>?_,fun j M X=>?_⟩,by simp;omega,fun y hy=>?_⟩
  .simp only[List.length_map]at I;rw[List.getElem_map]at g;exact(e i I).1 j u g
  .grind
  .grind
  .obtain⟨z,hz,rfl⟩:=List.mem_map.1 hy;obtain⟨i,I,rfl⟩:=List.mem_iff_getElem.1 hz;exact(e i I).2.2.2
theorem zny (h:DataW.trod enc prog W base sp hd fuel 24 cs=some x):
 ∃(A:Option Addr) (c:Nat) (root:Int) (vs:List NV) (is:List Gr.Ni),cs=[.slice A is.length c,.int .i64 root]/\IAt W W.heap.size A vs is/\is.length<=maxLen/\∀y∈is,y.text.length<=maxLen/\y.keys.length<=maxLen/\y.items.length<=maxLen:=by
 have m:prog.cellsOf 3=1:=by kernel_rfl
 have l:prog.cellsOf 22=1:=by kernel_rfl
 have n:prog.cellsOf 24=2:=by kernel_rfl
 obtain⟨e,b⟩:∃e:Array Field,prog.underlying 24=some (.struct e)/\e.map (fun f=>(f.type,f.offset))=#[(22,0),(3,1)]:=⟨_,underlying24,by kernel_rfl⟩
 obtain⟨b,j⟩:=b;have g:∀(i:Nat) (t:TypeId) (o:Nat),(#[(22,0),(3,1)]:Array (TypeId×Nat))[i]? =some (t,o)->∃f:Field,e[i]? =some f/\f.type=t/\f.offset=o:=by
  grind
 obtain⟨xs,n',_,_,a,hxl,q⟩:=DataW.trod_struct b h;have hsz:e.size=2:=by have:=congrArg Array.size j;simpa using this
 obtain⟨D,w,C,G⟩:=g 0 _ _ rfl;obtain⟨B,E,F,z⟩:=g 1 _ _ rfl;have u:=q 0 D w;have s:=q 1 B E;rw[C,G,l,List.getElem?_eq_getElem (by omega)]at u;rw[F,z,m,List.getElem?_eq_getElem (by omega)]at s;rw[n]at a;obtain⟨A,c,vs,is,r0,q0,z0,z1⟩:=znx u;obtain⟨k,k1,_⟩:=DataW.trod_int underlying3 s
 match cs,a with
 | [v0,v1],_=>
  grind
theorem znz (hv:Value.okWide prog W r b0 24 v) (h:DataW.Trod enc prog W base sp hd 24 v d p):
 ∃(A:Option Addr) (c:Nat) (root:Int) (vs:List NV) (is:List Gr.Ni),v=.agg #[.slice A is.length c,.int .i64 root]/\IAt W W.heap.size A vs is/\is.length<=maxLen/\∀y∈is,y.text.length<=maxLen/\y.keys.length<=maxLen/\y.items.length<=maxLen:=by
 obtain⟨b,a⟩:∃b:Array Field,prog.underlying 24=some (.struct b):=⟨_,underlying24⟩
 obtain⟨cs,rfl,_⟩:=okWide_struct a hv;obtain⟨fuel,f⟩:=h;obtain⟨A,c,root,vs,is,e,q⟩:=zny f;refine⟨A,c,root,vs,is,?_,q⟩;simp only[Value.cells]at e;have:cs=#[.slice A is.length c,.int .i64 root]:=by apply Array.ext';simpa using e
 rw[this]
end
section
variable {H:Type} {enc:TypeId×Value->H} {W:World} {base:Nat} {sp:Nat->Bool} {hd:Bool} {d:DataW H} {p:List MemPlace}
theorem zr2 {A:Option Addr} {n c:Nat} {root:Int} (h:DataW.Trod enc prog W base sp hd 24 (.agg #[.slice A n c,.int .i64 root]) d p):n<=c:=by
 obtain⟨fuel,h⟩:=h;have s:prog.cellsOf 3=1:=by kernel_rfl
 have q:prog.cellsOf 22=1:=by kernel_rfl
 have u:prog.cellsOf 24=2:=by kernel_rfl
 obtain⟨g,e⟩:∃g:Array Field,prog.underlying 24=some (.struct g)/\g.map (fun f=>(f.type,f.offset))=#[(22,0),(3,1)]:=⟨_,underlying24,by kernel_rfl⟩
 obtain⟨e,r⟩:=e;have j:∀(i:Nat) (t:TypeId) (o:Nat),(#[(22,0),(3,1)]:Array (TypeId×Nat))[i]? =some (t,o)->∃f:Field,g[i]? =some f/\f.type=t/\f.offset=o:=by
  grind
 obtain⟨xs,n',_,_,l,hxl,w⟩:=DataW.trod_struct e h;have hsz:g.size=2:=by have:=congrArg Array.size r;simpa using this
 obtain⟨F,y,z,I⟩:=j 0 _ _ rfl;obtain⟨C,J,G,B⟩:=j 1 _ _ rfl;have v:=w 0 F y;have E:=w 1 C J;rw[z,I,q,List.getElem?_eq_getElem (by omega)]at v;rw[G,B,s,List.getElem?_eq_getElem (by omega)]at E;rw[u]at l;rcases open_slice underlying22 v with⟨b,_⟩|⟨a,len,cap,m,k,D,Pl,b,hb,x,_⟩
 .simp[Value.cells]at b;obtain⟨_,rfl,rfl⟩:=b;exact Nat.le_refl _
 .simp[Value.cells]at b;obtain⟨_,rfl,rfl⟩:=b;exact x
end
end Go.Proofs.YtpgmfihonmoliaaGreatDoor
