import Derived.Test.YtpjmhafmeieloabGreatDoorZ14
namespace Go.Proofs.YtpjmhafmeieloabGreatDoor
open Gr
open _root_.Go.Proofs.Tryz
open _root_.Go.Lib (hid)
set_option maxRecDepth 100000
set_option maxHeartbeats 16000000
namespace Gr
def shN (d:Nat) (x:Nd):Nd:=⟨x.kind,x.text,x.ord,x.keys.map (· +d),x.items.map (· +d)⟩
end Gr
open Go.RowKit
theorem zd5 {w:World} {B g n:Nat} {l:List Nat} (h:Blk w g 3 (icells l)) (hB:B<=g) (hn:l.length=n) (hm:n<=maxLen):OwnRow intL w B 3 (.slice (some ⟨g,0,none⟩) n n) l:=by
 subst hn;refine⟨intL.all_len l,.inr ⟨g,l.length,icells l,rfl,hB,h,Nat.le_refl _,hm,by simp[icells,intL],?_⟩⟩;rw[<-zlg,List.take_of_length_le (by rw[intL.all_len];exact Nat.le_refl _)]
structure ShBox (w wx:World) (nb:Nat) (n:Gr.Nd) (d g1 g2:Nat):Prop where
 box:Blk wx nb 40 #[.int .i64 n.kind,.string ⟨n.text.toArray⟩,.bool n.ord,.slice (some ⟨g1,0,none⟩) n.keys.length n.keys.length,.slice (some ⟨g2,0,none⟩) n.items.length n.items.length]
 b1:Blk wx g1 3 (icells (n.keys.map (· +d)))
 b2:Blk wx g2 3 (icells (n.items.map (· +d)))
 lo1:w.heap.size<=g1
 lo2:w.heap.size<=g2
 ne_:g1≠g2
 below:Below w.heap.size w wx
def ztv (B:Nat) (r:Int) (ms:List Gr.Nd) (w:World) (e:Ending) (w':World):Prop:=∃v' vs',e=.returned (.tuple #[v',.int .i64 r])/\Tab B w' v' vs' ms/\Below B w w'/\∀t,t≠40->KeptT t w w'
theorem zcr (B:Nat) (A:Option Addr) (c root:Nat) (us:List NV) (gs:List Gr.Nd) (v:Value) (vs:List NV) (ns:List Gr.Nd) (hgl:gs.length<=1073741823) (hnl:ns.length+gs.length<=1073741823) (hks:NH gs) (hrb:Refs gs) (hroot:root<gs.length) (w:World) (h:GAt w B A us gs) (hv:Tab B w v vs ns) (hB:B<=w.heap.size):
 Calls prog 15 #[v,.agg #[.slice A gs.length c,.int .i64 root]] w (ztv B ((root:Int)+(ns.length:Int)) (ns++gs.map (shN ns.length)) w):=by
 obtain⟨A0,c0,rfl,aK⟩:=hv.at_;obtain⟨d,hd⟩:=ex ns.length
 have HD:=hid hd;obtain⟨q,L⟩:=ex (w.alloc (.cells #[.slice A gs.length c,.int .i64 root] 27))
 have l1:Below w.heap.size w q:=by rw[<-L];exact(Below.refl _ _).alloc (Nat.le_refl _) _
 have b1:Blk q w.heap.size 27 #[.slice A gs.length c,.int .i64 root]:=by rw[<-L];exact Blk.new _ _ _
 obtain⟨gb,Q⟩:=ex w.heap.size
 have aM:Hid (B<=q.heap.size):=hid (Nat.le_trans hB l1.size);have aC:Hid (Below B w q):=hid (l1.mono hB);have al:=hid (hv.later l1);have T:=hid (h.below (l1.mono hB));have hdl:d+gs.length<=1073741823:=by omega
 rw[Q]at b1;rw[hd]at al;have aR:=hid b1;have aO:Hid (∀t,KeptT t w q):=hid (fun t=>KeptT.later l1);have g0:q.cell? ⟨gb,0,none⟩=some (.slice A gs.length c):=b1.cell 0;clear hv aK l1 b1 h hB;go_enter func15,ntmps15;go_upto_region 1 with fail;(try rw[L]);(try rw[Q]);(try rw[hd]);clear L Q hd;go_upto_region 3 with fail;clear g0;go_loopw [0,14] (fun s0 s14 wr=>∃(j:Nat) (A1:Option Addr) (c1:Nat) (vs1:List NV),j<=gs.length/\s14=.int .i64 j/\s0=.slice A1 (d+j) c1/\Hid (Tab B wr (.slice A1 (d+j) c1) vs1 (ns++(gs.take j).map (shN d))/\Below B q wr/\(∀t,t≠40->KeptT t q wr)/\q.heap.size<=wr.heap.size)) (fun _ s14 _=>gs.length-(intOf s14).toNat)
 case atStart=>exact⟨0,A0,c0,vs,by omega,rfl,rfl,hid ⟨by simpa using al.out,Below.refl _ _,fun t _=>KeptT.refl _ _,Nat.le_refl _⟩⟩
 case round=>
  obtain⟨j,A1,c1,vs1,hj,rfl,rfl,G⟩:=hrel;obtain⟨a,aD⟩:∃a,a=wr:=⟨_,rfl⟩
  subst aD;by_cases hlt:j<gs.length
  .have ap:(j:Int)<(gs.length:Int):=by omega
   obtain⟨ad,ks,is,rfl,C⟩:=(T.out.below G.out.2.1).node hlt;obtain⟨R,kn,kc⟩:=ks;obtain⟨Y,aI,ic⟩:=is;have Z:gs[j]∈gs:=List.getElem_mem hlt;obtain⟨ao,an,aN⟩:=hks _ Z;have K:=hrb _ Z;obtain⟨n,hn⟩:=ex (gs[j])
   have aA:Hid ((gs.take (j+1)).map (shN d)=(gs.take j).map (shN d)++[shN d n]):=hid (by rw[List.take_succ_eq_append_getElem hlt,List.map_append,hn];rfl);rw[hn]at C ao an aN K;obtain rfl:kn=n.keys.length:=C.kn;obtain rfl:aI=n.items.length:=C.inn;have x0:=C.c0;have x1:=C.c1;have x2:=C.c2;have x3:=C.c3;have x4:=C.c4;have aw:Hid (RowAt intL a B R n.keys/\RowAt intL a B Y n.items):=hid ⟨C.keys,C.items⟩;have b:Hid (B<=a.heap.size):=hid (Nat.le_trans aM.out G.out.2.2.2);have au:Hid ((∀x∈n.keys,x<=1152921504606846976)/\(∀x∈n.items,x<=1152921504606846976)):=hid ⟨fun x hx=>by have:=K x (List.mem_append_left _ hx);omega,fun x hx=>by have:=K x (List.mem_append_right _ hx);omega⟩;clear C Z hn K;go_upto_region 5 with fail;obtain⟨f,u⟩:=ex (a.alloc (.cells #[.int .i64 n.kind,.string ⟨n.text.toArray⟩,.bool n.ord,.slice R n.keys.length kc,.slice Y n.items.length ic] 40))
   obtain⟨l,o⟩:=ex a.heap.size
   have y:Blk f l 40 #[.int .i64 n.kind,.string ⟨n.text.toArray⟩,.bool n.ord,.slice R n.keys.length kc,.slice Y n.items.length ic]:=by rw[<-u,<-o];exact Blk.new _ _ _
   have l5:Below l a f:=by rw[<-u,<-o];exact(Below.refl _ _).alloc (Nat.le_refl _) _
   have ai:f.heap.size=l+1:=by rw[<-u,<-o];simp
   rw[u];(try rw[o]);have X:=hid l5;have ax:=hid y;have k:Hid (f.heap.size=l+1/\a.heap.size=l):=hid ⟨ai,o⟩;have y3:f.cell? ⟨l,3,none⟩=some (.slice R n.keys.length kc):=y.cell 3;have y4:f.cell? ⟨l,4,none⟩=some (.slice Y n.items.length ic):=y.cell 4;have yf:∀i,f.frozen? ⟨l,i,none⟩=false:=y.frozen;have HY:Hid (∀W,Below f.heap.size f W->W.cell? ⟨l,3,none⟩=some (.slice R n.keys.length kc)/\W.cell? ⟨l,4,none⟩=some (.slice Y n.items.length ic)/\∀i,W.frozen? ⟨l,i,none⟩=false):=hid (fun W s=>⟨(y.below s y.lt).cell 3,(y.below s y.lt).cell 4,(y.below s y.lt).frozen⟩);clear u o y l5 ai x0 x1 x2 x3 x4;have aE:Hid (∀W,Below f.heap.size f W->Calls prog 30 #[.slice R n.keys.length kc,.int .i64 d] W fun e H=>Below f.heap.size f H/\Below W.heap.size W H/\∃g,g=W.heap.size/\e=.returned (.slice (some ⟨g,0,none⟩) n.keys.length n.keys.length)/\Blk H g 3 (icells (n.keys.map (· +d)))):=hid (fun W s=>by
    have hb:Below B a W:=(X.out.mono (by have:=k.out;have:=b.out;omega)).trans (s.mono (by have:=k.out;have:=b.out;omega));refine(zfm R kc d n.keys ao au.out.1 (by omega) W B (by have:=hb.size;have:=b.out;omega) (aw.out.1.below hb)).mono ?_;rintro e H ⟨rfl,h1,h2⟩;exact⟨s.trans (h1.mono s.size),h1,_,rfl,rfl,h2⟩)
   have aH:Hid (∀W,Below f.heap.size f W->Calls prog 30 #[.slice Y n.items.length ic,.int .i64 d] W fun e H=>Below f.heap.size f H/\Below W.heap.size W H/\∃g,g=W.heap.size/\e=.returned (.slice (some ⟨g,0,none⟩) n.items.length n.items.length)/\Blk H g 3 (icells (n.items.map (· +d)))):=hid (fun W s=>by
    have hb:Below B a W:=(X.out.mono (by have:=k.out;have:=b.out;omega)).trans (s.mono (by have:=k.out;have:=b.out;omega));refine(zfm Y ic d n.items an au.out.2 (by omega) W B (by have:=hb.size;have:=b.out;omega) (aw.out.2.below hb)).mono ?_;rintro e H ⟨rfl,h1,h2⟩;exact⟨s.trans (h1.mono s.size),h1,_,rfl,rfl,h2⟩)
   go_cut [8] (fun s8 wx=>s8=.pointer (some ⟨l,0,none⟩)/\∃g1 g2 wy,wy=wx/\Hid (ShBox a wy l n d g1 g2))
   case first=>
    go_region_with ((first
     | (go_at_call 30;(with_reducible refine(aE.out _ ?_).mono ?_);(first|assumption|exact Below.refl _ _|exact(Below.refl _ _).drew|exact Below.drew (by assumption));rintro e1 aQ ⟨aL,hc1,g1,ae,rfl,r⟩;obtain⟨q13,q14,q1f⟩:=HY.out aQ aL;have T:=hid ae;clear ae)
     | (go_at_call 30;(with_reducible refine(aH.out _ ?_).mono ?_);(first|assumption|exact Below.refl _ _|exact(Below.refl _ _).drew|exact Below.drew (by assumption));rintro e2 az ⟨ab,aG,g2,av,rfl,af⟩;obtain⟨q23,q24,q2f⟩:=HY.out az ab;have aF:=hid av;clear av)))
    all_goals
     go_wp2;go_meet;have e1:g1=l+1:=by have:=T.out;have h2:=k.out;rw[show f.drew.heap.size=f.heap.size from rfl]at this;omega
     have e2:g1<g2:=by have:=aF.out;have:=r.lt;omega
     refine⟨rfl,g1,g2,_,rfl,hid ⟨((ax.out.below ab ax.out.lt).set_ 3 _).set_ 4 _,((r.below aG r.lt).far (by simp;omega) _).far (by simp;omega) _,(af.far (by simp;omega) _).far (by simp;omega) _,by have:=k.out;omega,by have:=k.out;omega,by omega,?_⟩⟩;have hw:a.heap.size=l:=k.out.2;rw[hw];exact((X.out.trans (ab.mono (by have:=k.out;omega))).setCell (by simp) _).setCell (by simp) _
   case rest=>
    obtain⟨rfl,g1,g2,M,rfl,I⟩:=hcut;obtain⟨z0,z1,z2,z3,z4⟩:=cells5 I.out.box;have aa:Below a.heap.size a M:=I.out.below;have V:=hid (G.out.1.later aa);have ak:a.heap.size<M.heap.size:=by have:=I.out.b2.lt;have:=I.out.lo2;omega
    obtain⟨x,am⟩:∃x:NV,x=⟨n.kind,n.text,n.ord,⟨some ⟨g1,0,none⟩,n.keys.length,n.keys.length⟩,⟨some ⟨g2,0,none⟩,n.items.length,n.items.length⟩⟩:=⟨_,rfl⟩
    have z:=V.out.row;have aj:vs1.length=d+j:=by
     have:=V.out.rows.len;rw[this,List.length_append,List.length_map,List.length_take,HD.out];omega
    have m:Hid (OwnRow nodeL M B 40 (.slice A1 (d+j) c1) vs1):=hid z;have aq:=hid aj;have D:Hid (B<=M.heap.size):=hid (by have:=b.out;omega);have p:=hid am;have ac:=hid aa;have aJ:=hid ak;clear z aj am aa ak y3 y4 yf;go_wp2_with (at_builtin;go_must (refine zaa _ rfl (.tmp 28) (.tmp 30) 25 40 80 rfl nodeT B (.slice A1 (d+j) c1) vs1 rfl (m.out.alloc _) _ _ 1 [x] rfl (RowAt.lit1 _ _ (by rw[p.out];rfl) _ ?_) ?_ ?_ ?_))
    any_goals (first|rfl| (have:=aq.out;have:=D.out;simp;omega))
    intro v' O E hg aB;obtain⟨A2,c2,ar,_⟩:=E.form;have ay:(vs1++[x]).length=d+(j+1):=by rw[List.length_append,aq.out];rfl
    rw[ay]at ar;subst ar;have J:KeptT 3 M O:=(KeptT.alloc _ _ _).trans (KeptT.grown hg (m.out.alloc _) (by decide));have ah:∀t,t≠40->KeptT t M O:=fun t N=>(KeptT.alloc _ _ _).trans (KeptT.grown hg (m.out.alloc _) (Ne.symm N))
    have S:Below B M O:=((Below.refl B M).alloc D.out _).trans ((m.out.alloc _).grown_below hg (by rw[World.size_alloc];have:=D.out;omega));have ag:a.heap.size<=g1/\a.heap.size<=g2:=⟨I.out.lo1,I.out.lo2⟩
    have P:Tab B O (.slice A2 (d+(j+1)) c2) (vs1++[x]) (ns++(gs.take (j+1)).map (shN d)):=by
     rw[aA.out,<-List.append_assoc];refine⟨E,(V.out.rows.kept J).snoc x (shN d n) (by rw[p.out];exact⟨rfl,rfl,rfl⟩) ?_ ?_ ?_ ?_⟩
     .rw[p.out];exact zd5 (J _ _ I.out.b1) (by have:=b.out;omega) (by simp[shN]) (by simp only[maxLen];omega)
     .rw[p.out];exact zd5 (J _ _ I.out.b2) (by have:=b.out;omega) (by simp[shN]) (by simp only[maxLen];omega)
     .intro g e1 e2;rw[p.out]at e1 e2;simp[SV.v,Value.ownBlock]at e1 e2;have:=I.out.ne_;omega
     .intro j' b' g e1;have:=((G.out.1.rows.own j' b').lt g e1).2;rw[p.out];constructor<;>(intro e2;simp[SV.v,Value.ownBlock]at e2;omega)
    have aP:Hid (Tab B O (.slice A2 (d+(j+1)) c2) (vs1++[x]) (ns++(gs.take (j+1)).map (shN d))/\Below B q O/\(∀t,t≠40->KeptT t q O)/\q.heap.size<=O.heap.size):=hid ⟨P,(G.out.2.1.trans (ac.out.mono b.out)).trans S,fun t N=>((G.out.2.2.1 t N).trans (KeptT.later ac.out)).trans (ah t N),by have:=G.out.2.2.2;have:=aJ.out;have:=S.size;omega⟩;clear E hg aB ay J ah S P ag z0 z1 z2 z3 z4;go_wp2;go_roundw
    case rel=>exact⟨j+1,A2,c2,vs1++[x],by omega,by go_num,rfl,aP⟩
    case measure=>simp[intOf];omega
  .have ap:¬(j:Int)<(gs.length:Int):=by omega
   have U:j=gs.length:=by omega
   have F:Hid (Tab B a (.slice A1 (d+j) c1) vs1 (ns++gs.map (shN d))/\Below B w a/\∀t,t≠40->KeptT t w a):=hid ⟨by
    have:=G.out.1;rwa[U,List.take_length,<-U]at this,aC.out.trans G.out.2.1,fun t N=>(aO.out t).trans (G.out.2.2.1 t N)⟩
   clear U;have g1:a.cell? ⟨gb,1,none⟩=some (.int .i64 root):=(G.out.2.2.1 _ (by decide) _ _ aR.out).cell 1;have hdd:d<=1073741823:=by omega
   have hrr:root<=1073741823:=by omega
   go_upto_region 8 with fail;go_quiet (fail);go_wp2;go_ret2;rw[HD.out];exact⟨_,vs1,rfl,F.out.1.later (below_drewN (Below.refl _ _) _),below_drewN F.out.2.1 _,fun t N=>(F.out.2.2 t N).trans (KeptT.drewN _ _ _)⟩
namespace Gr
def Nd.ni (x:Nd):Ni:=⟨x.kind,x.text,x.ord,x.keys.map Int.ofNat,x.items.map Int.ofNat⟩
theorem zy0 (x:Nd):x.ni.nd=x:=by
 cases x;simp[Nd.ni,Ni.nd,Function.comp_def]
theorem zi4 (ns:List Nd):(ns.map Nd.ni).map Ni.nd=ns:=by
 rw[List.map_map]
 conv=>rhs;rw[<-List.map_id ns]
 exact List.map_congr_left (fun x _=>zy0 x)
theorem zrf (ns:List Nd) (root:Nat) (hr:Refs ns) (hroot:root<ns.length):indB (ns.map Nd.ni) (root:Int)=true:=by
 unfold indB inR;simp only[List.length_map,Bool.and_eq_true,decide_eq_true_eq];refine⟨⟨by omega,by omega⟩,?_⟩;rw[List.all_map,List.all_eq_true];intro x a;show rng ns.length x.ni=true;unfold rng;rw[show x.ni.keys++x.ni.items=(x.keys++x.items).map Int.ofNat from by simp[Nd.ni],List.all_map,List.all_eq_true];intro y b;have:=hr x a y b;simp[inR];omega
end Gr
open Go.RowKit
theorem zw5 (l:List Nat):intI.all (l.map Int.ofNat)=intL.all l:=by
 induction l with
 |nil=>rfl
 |cons x l ih=>
  have b:intI.all (Int.ofNat x::l.map Int.ofNat)=intI.enc (Int.ofNat x)++intI.all (l.map Int.ofNat):=rfl;have a:intL.all (x::l)=intL.enc x++intL.all l:=rfl;rw[List.map_cons,b,a,ih];rfl
theorem zfn {w:World} {B:Nat} {A:Option Addr} {l:List Nat} (h:RowAt intL w B A l):RowAt intI w B A (l.map Int.ofNat):=by
 unfold RowAt at h ⊢;rw[zw5,List.length_map];exact h
theorem GAt.toI {w:World} {B:Nat} {A:Option Addr} {vs:List NV} {ns:List Gr.Nd} (h:GAt w B A vs ns):IAt w B A vs (ns.map Gr.Nd.ni):=by
 refine⟨h.row,by simp[h.len],fun j f e=>?_,fun j f e=>?_⟩
 .rw[List.length_map]at e;rw[List.getElem_map];exact h.kind j f e
 .rw[List.length_map]at e;rw[List.getElem_map];obtain⟨a,b,c,d⟩:=h.nums j f e;exact⟨zfn a,by rw[b];simp[Gr.Nd.ni],zfn c,by rw[d];simp[Gr.Nd.ni]⟩
def checkG (sclr:Int->Gr.Str->Bool) (ns:List Gr.Nd) (root:Nat):Nat:=if ns.length>4096 then 7 else checkN sclr ns root
theorem zrg (T:World->Prop) (hT:Stays T) (sclr:Int->Gr.Str->Bool) (A:Option Addr) (c root:Nat) (vs:List NV) (ns:List Gr.Nd) (hks:NH ns) (hsc:ScalsOk T sclr ns) (hl:ns.length<=1073741823) (hr:Refs ns) (hroot:root<ns.length) (w:World) (hTw:T w) (h:GAt w w.heap.size A vs ns):
 Calls prog 13 #[.agg #[.slice A ns.length c,.int .i64 root]] w fun e w'=>e=.returned (.int .i64 (checkG sclr ns root:Nat))/\Below w.heap.size w w':=by
 have:=ze6 T hT sclr A c (root:Int) vs (ns.map Gr.Nd.ni) (by rw[zi4];exact hks) (by rw[zi4];exact hsc) (by simpa using hl) w hTw h.toI;rw[List.length_map]at this;have e:checkI sclr (ns.map Gr.Nd.ni) (root:Int)=checkG sclr ns root:=by
  unfold checkI checkG;rw[List.length_map,zi4,zrf ns root hr hroot];by_cases h1:ns.length>4096
  .rw[if_pos h1,if_pos h1]
  .rw[if_neg h1,if_neg h1,if_neg (by simp;intro e;rw[e]at hroot;simp at hroot),Int.toNat_natCast]
 rw[e]at this;exact this
def ChkOk (w:World) (g:Value) (chk:Nat):Prop:=∀W,Below w.heap.size w W->Calls prog 13 #[g] W fun e w'=>e=.returned (.int .i64 (chk:Nat))/\Below W.heap.size W w'
theorem ChkOk.later {w w':World} {g:Value} {chk:Nat} (h:ChkOk w g chk) (hb:Below w.heap.size w w'):ChkOk w' g chk:=fun W a=>h W (hb.trans (a.mono hb.size))
def gZero:Value:=.agg #[.slice none 0 0,.int .i64 0]
theorem zfo (A:Option Addr) (n c:Nat) (root:Int) (chk:Nat) (w:World) (h:ChkOk w (.agg #[.slice A n c,.int .i64 root]) chk):
 Calls prog 16 #[.agg #[.slice A n c,.int .i64 root]] w fun e w'=>e=.returned (.tuple #[if chk=0 then .agg #[.slice A n c,.int .i64 root]else gZero,.int .i64 (chk:Nat)])/\Below w.heap.size w w':=by
 have C:=hid h;clear h;go_enter func16,ntmps16;go_upto_region 1 with fail;obtain⟨o,b⟩:=ex ((w.alloc (.cells #[.slice A n c,.int .i64 root] 27)).alloc (.cells #[.slice none 0 0,.int .i64 0] 27))
 obtain⟨m,a⟩:=ex w.heap.size
 have t:Blk o m 27 #[.slice A n c,.int .i64 root]:=by rw[<-b,<-a];exact(Blk.new _ _ _).alloc _
 have y:Blk o (m+1) 27 #[.slice none 0 0,.int .i64 0]:=by rw[<-b,<-a];have:=Blk.new (w.alloc (.cells #[.slice A n c,.int .i64 root] 27)) 27 #[.slice none 0 0,.int .i64 0];rwa[World.size_alloc]at this
 have r:Below m w o:=by rw[<-b,<-a];exact((Below.refl _ _).alloc (Nat.le_refl _) _).alloc (by simp) _
 have u:=hid r;have p:=hid a;have s:Hid (ChkOk o (.agg #[.slice A n c,.int .i64 root]) chk):=hid (C.out.later (by rw[a];exact r));have g:=hid t;have l:=hid y;obtain⟨B,z⟩:=cells2 t;(try rw[b]);(try rw[a]);clear b a t y r;go_wp2_with fail;refine(s.out o (Below.refl _ _)).mono ?_;rintro e x ⟨rfl,f⟩;have k:=g.out.below f g.out.lt;have d:=l.out.below f l.out.lt;have q:Hid (Below m w x):=hid (u.out.trans (f.mono (by have:=g.out.lt;omega)));obtain⟨k0,k1⟩:=cells2 k;obtain⟨d0,d1⟩:=cells2 d;have df:∀i,x.frozen? ⟨m+1,i,none⟩=false:=d.frozen;have j:=hid d;clear f k d B z;by_cases h0:chk=0
 .subst h0;go_wp2_with fail;have e0:=((j.out.set_ 0 (.slice A n c)).set_ 1 (.int .i64 root)).cell 0;have e1:=((j.out.set_ 0 (.slice A n c)).set_ 1 (.int .i64 root)).cell 1;refine bodyPost_ret (v:=.tuple #[.agg #[.slice A n c,.int .i64 root],.int .i64 0]) (by rw[results_cell_tmp rfl];go_simp) rfl ⟨rfl,?_⟩;rw[p.out];exact(q.out.setCell (by simp) _).setCell (by simp) _
 .have h0I:((chk:Int)==0)=false:=by rw[beq_eq_false_iff_ne];omega
  go_wp2_with fail;refine bodyPost_ret (v:=.tuple #[gZero,.int .i64 chk]) (by rw[results_cell_tmp rfl];go_simp;rfl) rfl ⟨by first|rfl|rw[if_neg h0],?_⟩;rw[p.out];exact(q.out.setCell (by simp) _).setCell (by simp) _
theorem ztw (A:Option Addr) (n c:Nat) (root:Int) (chk:Nat) (w:World) (h:ChkOk w (.agg #[.slice A n c,.int .i64 root]) chk):
 Calls prog 12 #[.agg #[.slice A n c,.int .i64 root]] w fun e w'=>e=.returned (.int .i64 (if chk=0 then(n:Int)else 0))/\Below w.heap.size w w':=by
 obtain⟨j,a⟩:=ex (w.alloc (.cells #[.slice A n c,.int .i64 root] 27))
 have m:Below w.heap.size w j:=by rw[<-a];exact(Below.refl _ _).alloc (Nat.le_refl _) _
 have k:Hid (ChkOk j (.agg #[.slice A n c,.int .i64 root]) chk):=hid (h.later m);have g:=hid m;clear h m;go_enter func12,ntmps12;go_upto_region 1 with fail;have l:Blk j w.heap.size 27 #[.slice A n c,.int .i64 root]:=by rw[<-a];exact Blk.new _ _ _
 obtain⟨q,p⟩:=cells2 l;have d:=hid l;(try rw[a]);clear a l;go_wp2_with fail;refine(k.out j (Below.refl _ _)).mono ?_;rintro e o ⟨rfl,b⟩;have i:Hid (Below w.heap.size w o):=hid (g.out.trans (b.mono g.out.size));have f:=d.out.below b d.out.lt;have k0:o.cell? ⟨w.heap.size,0,none⟩=some (.slice A n c):=f.cell 0;clear b f q p;by_cases h0:chk=0
 .subst h0;go_wp2;go_ret;exact⟨rfl,i.out⟩
 .have h0I:((chk:Int)==0)=false:=by rw[beq_eq_false_iff_ne];omega
  go_wp2;go_ret;exact⟨by first|rfl| (rw[if_neg h0];rfl),i.out⟩
def DepOk (w:World) (g:Value) (p:Int×Bool):Prop:=∀W,Below w.heap.size w W->Calls prog 23 #[g] W fun e w'=>e=.returned (.tuple #[.int .i64 p.1,.bool p.2])/\Below W.heap.size W w'
theorem zrh (A:Option Addr) (n c:Nat) (root:Int) (chk:Nat) (p:Int×Bool) (w:World) (h:ChkOk w (.agg #[.slice A n c,.int .i64 root]) chk) (hd:chk=0->DepOk w (.agg #[.slice A n c,.int .i64 root]) p):
 Calls prog 11 #[.agg #[.slice A n c,.int .i64 root]] w fun e w'=>e=.returned (.tuple #[.int .i64 (if chk=0 then p.1 else 0),.bool (if chk=0 then p.2 else false)])/\Below w.heap.size w w':=by
 obtain⟨l,a⟩:=ex (w.alloc (.cells #[.slice A n c,.int .i64 root] 27))
 have o:Below w.heap.size w l:=by rw[<-a];exact(Below.refl _ _).alloc (Nat.le_refl _) _
 have q:Hid (ChkOk l (.agg #[.slice A n c,.int .i64 root]) chk):=hid (h.later o);have k:=hid o;have u:=hid hd;clear h o hd;go_enter func11,ntmps11;go_upto_region 1 with fail;have r:Blk l w.heap.size 27 #[.slice A n c,.int .i64 root]:=by rw[<-a];exact Blk.new _ _ _
 obtain⟨y,x⟩:=cells2 r;have g:=hid r;(try rw[a]);clear a r;go_wp2_with fail;refine(q.out l (Below.refl _ _)).mono ?_;rintro e t ⟨rfl,d⟩;have i:Below w.heap.size w t:=k.out.trans (d.mono k.out.size);have b:=hid i;have f:=g.out.below d g.out.lt;obtain⟨k0,k1⟩:=cells2 f;clear d f y x i;by_cases h0:chk=0
 .have m:=hid (u.out h0 t b.out);subst h0;go_wp2_with fail;refine m.out.mono ?_;rintro e v ⟨rfl,j⟩;have s:Hid (Below w.heap.size w v):=hid (b.out.trans (j.mono b.out.size));clear j;go_wp2;go_ret2;exact⟨rfl,s.out⟩
 .have h0I:((chk:Int)==0)=false:=by rw[beq_eq_false_iff_ne];omega
  go_wp2;go_ret2;exact⟨by first|rfl| (rw[if_neg h0,if_neg h0];rfl),b.out⟩
def zw6 (w:World) (kind:Int) (text:Gr.Str) (r:Bool) (e:Ending) (w':World):Prop:=
 Below w.heap.size w w'/\(r=false->e=.returned (.tuple #[gZero,.int .i64 3]))/\(r=true->∃g,w.heap.size<=g/\e=.returned (.tuple #[.agg #[.slice (some ⟨g,0,none⟩) 1 1,.int .i64 0],.int .i64 0])/\Blk w' g 40 #[.int .i64 kind,.string ⟨text.toArray⟩,.bool false,.slice none 0 0,.slice none 0 0])
theorem zd6 (T:World->Prop) (hT:Stays T) (kind:Int) (text:Gr.Str) (r:Bool) (hk:0<=kind) (hk8:kind<=8) (hs:ScalOk T kind text r) (w:World) (hTw:T w):
 Calls prog 9 #[.int .i64 kind,.string ⟨text.toArray⟩] w (zw6 w kind text r):=by
 have c1:¬kind<0:=by omega
 have c2:¬(8:Int)<kind:=by omega
 obtain⟨t,c⟩:=ex (w.alloc (.cells #[.slice none 0 0,.int .i64 0] 27))
 obtain⟨f,b⟩:=ex w.heap.size
 have s:Below f w t:=by rw[<-c,<-b];exact(Below.refl _ _).alloc (Nat.le_refl _) _
 have A:Blk t f 27 #[.slice none 0 0,.int .i64 0]:=by rw[<-c,<-b];exact Blk.new _ _ _
 have C:=hid (hs t (hT _ _ hTw (by rw[b];exact s)));have u:=hid s;have k:=hid A;have g:=hid b;clear hs hTw s A;go_enter func9,ntmps9;go_upto_region 1 with fail;(try rw[c]);(try rw[b]);clear c b;go_wp2_with fail;refine C.out.mono ?_;rintro e d ⟨rfl,j⟩;have a:=k.out.below j k.out.lt;have n:Hid (Below f w d):=hid (u.out.trans (j.mono (by have:=k.out.lt;omega)));have x:=hid a;have df:∀i,d.frozen? ⟨f,i,none⟩=false:=a.frozen;have df2:∀o i,(d.alloc o).frozen? ⟨f,i,none⟩=false:=fun o=>(a.alloc o).frozen
 obtain⟨d0,d1⟩:=cells2 a;have d2:∀o,(d.alloc o).cell? ⟨f,0,none⟩=some (.slice none 0 0):=fun o=>(a.alloc o).cell 0
 have d3:∀o,(d.alloc o).cell? ⟨f,1,none⟩=some (.int .i64 0):=fun o=>(a.alloc o).cell 1
 have y:Hid (f<d.heap.size):=hid a.lt;clear j a;cases r with
 |false=>
  go_wp2_with fail;refine bodyPost_ret (v:=.tuple #[gZero,.int .i64 3]) (by rw[results_cell_tmp rfl];go_simp;rfl) rfl ⟨?_,fun _=>rfl,fun h=>nomatch h⟩;rw[g.out];exact(n.out.setCell (by simp) _).setCell (by simp) _
 |true=>
  go_wp2_with fail;obtain⟨o,B⟩:=ex (Obj.cells #[Value.int IntKind.i64 kind,Value.string {data:=List.toArray text},Value.bool false,Value.slice none 0 0,Value.slice none 0 0] 40)
  rw[B];obtain⟨q,p⟩:=ex d.heap.size
  rw[p];have l:=((x.out.alloc o).set_ 0 (.slice (some ⟨q,0,none⟩) 1 1)).set_ 1 (.int .i64 0);have e0:=l.cell 0;have e1:=l.cell 1;have m:=n.out;have HSZ2:=y.out;have z:Blk (d.alloc o) q 40 #[.int .i64 kind,.string ⟨text.toArray⟩,.bool false,.slice none 0 0,.slice none 0 0]:=by rw[<-p,<-B];exact Blk.new _ _ _
  refine bodyPost_ret (v:=.tuple #[.agg #[.slice (some ⟨q,0,none⟩) 1 1,.int .i64 0],.int .i64 0]) ?_ rfl (And.intro ?_ (And.intro (fun h=>nomatch h) (fun _=>⟨q,?_,rfl,?_⟩)))
  .rw[results_cell_tmp rfl];go_simp
  .rw[g.out];exact((m.alloc (by omega) o).setCell (by simp) _).setCell (by simp) _
  .rw[g.out];omega
  .exact(z.far (by simp;omega) _).far (by simp;omega) _
open Go.RowKit
theorem Tab.push {B:Nat} {w1 w2:World} {g n cap k:Nat} {x:NV} {vl:List NV} {m:Gr.Nd} {nl:List Gr.Nd} {v:Value} (h:Tab B w1 (.slice (some ⟨g,0,none⟩) n cap) (x::vl) (m::nl))
 (hown:OwnRow intL w2 B 3 v (m.items++[k])) (hg:w1.grownBy w2 x.i.v.ownBlock) (hat:v.ownBlock=x.i.v.ownBlock\/v.ownBlock=some w1.heap.size):
 ∃i:SV,v=i.v/\Tab B (w2.setCell ⟨g,4,none⟩ v) (.slice (some ⟨g,0,none⟩) n cap) ({x with i:=i}::vl) ({m with items:=m.items++[k]}::nl)/\(∀t,t≠40->t≠3->KeptT t w1 (w2.setCell ⟨g,4,none⟩ v))/\(B<=w1.heap.size->Below B w1 (w2.setCell ⟨g,4,none⟩ v)):=by
 obtain⟨A,c,u,_⟩:=hown.form;have C:ints (x::vl) 0 true=x.i:=rfl;have E:intsOf (m::nl) 0 true=m.items:=rfl;have j:=h.rows.own 0 true;rw[C,E]at j;have l:KeptT 40 w1 w2:=KeptT.grown hg j (by decide);obtain⟨z,f,rest,hv',hcap,w,q,b⟩:=h.row.row (by simp);obtain⟨rfl,rfl,rfl⟩:g=z/\n=(x::vl).length/\cap=f:=by
  grind
 have d:=l _ _ w;have r:=zng d 0 (by simp) ⟨A,(m.items++[k]).length,c⟩;have a:v=(⟨A,(m.items++[k]).length,c⟩:SV).v:=u;rw[<-a,Nat.zero_mul,Nat.zero_add]at r;have o:KeptT 3 w2 (w2.setCell ⟨g,4,none⟩ v):=KeptT.setCell (p:=⟨g,4,none⟩) d (by decide) v;refine⟨⟨A,(m.items++[k]).length,c⟩,a,⟨b _ _ (by simp) r,?_⟩,?_,?_⟩
 .have s:=h.rows.grow (w':=w2) 0 true {x with i:=⟨A,(m.items++[k]).length,c⟩} {m with items:=m.items++[k]} (by simp) ⟨rfl,rfl,rfl⟩ ⟨rfl,rfl,rfl⟩ rfl rfl (by rw[if_pos rfl,if_pos rfl,<-a];exact hown) hg (by rw[if_pos rfl,<-a];exact hat);exact s.kept o
 .intro t F y;exact(KeptT.grown hg j (fun e=>y e.symm)).trans (KeptT.setCell (p:=⟨g,4,none⟩) d F v)
 .intro D;exact(j.grown_below hg D).setCell q v
theorem Tab.one {B:Nat} {w:World} {g:Nat} {kind:Int} {text:Gr.Str} {ord:Bool} (h:Blk w g 40 #[.int .i64 kind,.string ⟨text.toArray⟩,.bool ord,.slice none 0 0,.slice none 0 0]) (hB:B<=g):
 Tab B w (.slice (some ⟨g,0,none⟩) 1 1) [⟨kind,text,ord,SV.nil,SV.nil⟩] [⟨kind,text,ord,[],[]⟩]:=by
 have a:=(Rows.nil B w).snoc ⟨kind,text,ord,SV.nil,SV.nil⟩ ⟨kind,text,ord,[],[]⟩ ⟨rfl,rfl,rfl⟩ OwnRow.nil OwnRow.nil (fun g h=>by simp[SV.nil,SV.v,Value.ownBlock]at h) (fun j b g h=>by simp[ints,SV.nil,SV.v,Value.ownBlock]at h);refine⟨⟨nodeL.all_len _,.inr ⟨g,1,_,rfl,hB,h,Nat.le_refl _,by decide,rfl,rfl⟩⟩,a⟩
structure GArg where
 a:Option Addr
 c:Nat
 root:Int
 vs:List NV
 is:List Gr.Ni
def GArg.v (x:GArg):Value:=.agg #[.slice x.a x.is.length x.c,.int .i64 x.root]
def argL:Lay GArg:={enc:=fun x=>[.slice x.a x.is.length x.c,.int .i64 x.root],sz:=2,len:=fun _=>rfl,one:=fun x u hu=>by simp at hu;rcases hu with rfl|rfl<;>rfl,pos:=by omega}
theorem zgf {w:World} {B:Nat} {A:Option Addr} {l:List GArg} {k:Nat} (h:RowAt argL w B A l) (hk:k<l.length):∃ad,A=some ad/\ad.block<B/\w.cell? (ad.add (k*2))=some (.slice l[k].a l[k].is.length l[k].c)/\
 w.cell? {block:=(ad.add (k*2)).block,off:=(ad.add (k*2)).off+1}=some (.int .i64 l[k].root):=by
 obtain⟨ad,b,d,f,e⟩:=h.get hk;exact⟨ad,b,d,f _ rfl,e 1 _ (by omega) rfl⟩
structure GsAt (w:World) (B:Nat) (A:Option Addr) (l:List GArg):Prop where
 row:RowAt argL w B A l
 each:∀x∈l,IAt w B x.a x.vs x.is
theorem GsAt.below {w w':World} {B:Nat} {A:Option Addr} {l:List GArg} (h:GsAt w B A l) (hb:Below B w w'):GsAt w' B A l:=⟨h.row.below hb,fun x a=>(h.each x a).below hb⟩
theorem GsAt.more {w:World} {B B':Nat} {A:Option Addr} {l:List GArg} (h:GsAt w B A l) (hB:B<=B'):GsAt w B' A l:=⟨h.row.more hB,fun x a=>(h.each x a).more hB⟩
namespace Gr
def push0 (k:Nat):List Nd->List Nd
 | []=>[]
 |m::l=>{m with items:=m.items++[k]}::l
def lstep (ns:List Nd) (g:List Ni×Int):List Nd:=push0 (g.2.toNat+ns.length) (ns++(g.1.map Ni.nd).map (shN ns.length))
def listN (gs:List (List Ni×Int)):List Nd:=gs.foldl lstep [⟨9,[],false,[],[]⟩]
end Gr
def GArg.p (x:GArg):List Gr.Ni×Int:=(x.is,x.root)
def GArg.chk (sclr:Int->Gr.Str->Bool) (x:GArg):Nat:=checkI sclr x.is x.root
theorem zuz {sclr:Int->Gr.Str->Bool} {x:GArg} (h:x.chk sclr=0):x.is.length<=4096/\0<x.is.length/\indB x.is x.root=true:=by
 unfold GArg.chk checkI at h;by_cases h1:x.is.length>4096
 .rw[if_pos h1]at h;cases h
 .grind
theorem zu0 {is:List Gr.Ni} {root:Int} (h:indB is root=true):∃r:Nat,root=(r:Int)/\r<is.length/\(∀x∈is,∀y∈x.keys++x.items,0<=y)/\Refs (is.map Gr.Ni.nd):=by
 unfold indB at h;rw[Bool.and_eq_true]at h;have a:=h.1;simp only[inR,Bool.and_eq_true,decide_eq_true_eq]at a;refine⟨root.toNat,by omega,by omega,?_,?_⟩
 .exact(zbl h.2).1
 .exact(zbl h.2).2
def ztx (sclr:Int->Gr.Str->Bool) (l:List GArg) (w:World) (e:Ending) (w':World):Prop:=
 Below w.heap.size w w'/\(l.any (fun x=>x.chk sclr != 0)=true->e=.returned (.tuple #[gZero,.int .i64 3]))/\(l.any (fun x=>x.chk sclr != 0)=false->
  (checkG sclr (listN (l.map GArg.p)) 0≠0->e=.returned (.tuple #[gZero,.int .i64 (checkG sclr (listN (l.map GArg.p)) 0:Nat)]))/\
  (checkG sclr (listN (l.map GArg.p)) 0=0->∃A c vs,e=.returned (.tuple #[.agg #[.slice A (listN (l.map GArg.p)).length c,.int .i64 0],.int .i64 0])/\GAt w' w'.heap.size A vs (listN (l.map GArg.p))))
def ArgsOk (sclr:Int->Gr.Str->Bool) (w:World) (l:List GArg):Prop:=∀x∈l,ChkOk w x.v (x.chk sclr)
theorem zbw {α:Type} (f:α->Bool) (l:List α) (k:Nat) (hk:k<l.length) (h:f l[k]=true):l.any f=true:=List.any_eq_true.2 ⟨_,List.getElem_mem hk,h⟩
theorem zty (T:World->Prop) (hT:Stays T) (sclr:Int->Gr.Str->Bool) (A:Option Addr) (c:Nat) (l:List GArg) (hl:l.length<=100000) (hks:∀x∈l,NH (x.is.map Gr.Ni.nd)) (hsc:∀x∈l,ScalsOk T sclr (x.is.map Gr.Ni.nd)) (w:World) (hTw:T w) (h:GsAt w w.heap.size A l) (hck:ArgsOk sclr w l)
 (hck2:l.any (fun x=>x.chk sclr != 0)=false->∀W A c vs,T W->GAt W W.heap.size A vs (listN (l.map GArg.p))->ChkOk W (.agg #[.slice A (listN (l.map GArg.p)).length c,.int .i64 0]) (checkG sclr (listN (l.map GArg.p)) 0)):
 Calls prog 10 #[.slice A l.length c] w (ztx sclr l w):=by
 obtain⟨w1,aj⟩:=ex (w.alloc (.cells #[.slice none 0 0,.int .i64 0] 27))
 obtain⟨d,u⟩:=ex w.heap.size
 have an:w1.heap.size=d+1:=by rw[<-aj,<-u];simp
 have l1:Below d w w1:=by rw[<-aj,<-u];exact(Below.refl _ _).alloc (Nat.le_refl _) _
 have b1:Blk w1 d 27 #[.slice none 0 0,.int .i64 0]:=by rw[<-aj,<-u];exact Blk.new _ _ _
 obtain⟨E,am⟩:=ex (w1.alloc (.cells #[.int .i64 9,.string ⟨#[]⟩,.bool false,.slice none 0 0,.slice none 0 0] 40))
 have l2:Below (d+1) w1 E:=by rw[<-am];exact(Below.refl _ _).alloc (by omega) _
 have b2:Blk E (d+1) 40 #[.int .i64 9,.string ⟨(([]:Gr.Str)).toArray⟩,.bool false,.slice none 0 0,.slice none 0 0]:=by rw[<-am,<-an];exact Blk.new _ _ _
 have bl:=Tab.one (B:=d+1) b2 (Nat.le_refl _);have aq:Below d w E:=l1.trans (l2.mono (by omega));have bw:=hid bl;have bj:=hid aq;have aW:Hid (GsAt E d A l):=hid (by have:=h.below (by rw[u];exact aq);rwa[u]at this);have bm:Hid (ArgsOk sclr E l):=hid (fun x Q=>(hck x Q).later (by rw[u];exact aq));have F:Hid (Blk E d 27 #[.slice none 0 0,.int .i64 0]):=hid (b1.below l2 (by omega));have bu:Hid (∀W,Below d w W->T W):=hid (fun W hW=>hT _ _ hTw (by rw[u];exact hW));have av:Hid (E.heap.size=d+2):=hid (by rw[<-am];simp[an]);have aF:=hid u;have bE:=hid hks;have HSC:=hid hsc;have bt:=hid hck2;clear hTw h hck hck2 hks hsc l1 l2 b1 b2 bl aq;go_enter func10,ntmps10;go_upto_region 1 with fail;(try rw[aj]);(try rw[u]);go_upto_region 2 with fail;(try rw[am]);(try rw[an]);clear aj u am an;go_upto_region 3 with fail;go_loopw [14] (fun s14 wr=>∃(j:Nat),j<=l.length/\s14=.int .i64 j/\Hid ((l.take j).any (fun x=>x.chk sclr != 0)=false/\Below E.heap.size E wr)) (fun s14 _=>l.length-(intOf s14).toNat)
 case atStart=>exact⟨0,by omega,rfl,hid ⟨rfl,Below.refl _ _⟩⟩
 case round=>
  obtain⟨j,hj,rfl,HW⟩:=hrel;obtain⟨wq,bo⟩:∃wq,wq=wr:=⟨_,rfl⟩
  subst bo;have aK:=F.out.below HW.out.2 F.out.lt;have af:=hid aK;by_cases hlt:j<l.length
  .have L:(j:Int)<(l.length:Int):=by omega
   obtain⟨ad,rfl,bi,a0,a1⟩:=zgf (aW.out.below (HW.out.2.mono (by have:=av.out;omega))).row hlt;obtain⟨x,Q⟩:=ex (l[j])
   have P:x∈l:=by rw[<-Q];exact List.getElem_mem hlt
   have aQ:Hid ((l.take (j+1)).any (fun x=>x.chk sclr != 0)=((l.take j).any (fun x=>x.chk sclr != 0) || x.chk sclr != 0)):=hid (by rw[List.take_succ_eq_append_getElem hlt,List.any_append,Q];simp);have aA:Hid (x.chk sclr≠0->l.any (fun x=>x.chk sclr != 0)=true):=hid (fun h=>zbw _ l j hlt (by rw[Q];simpa using h));rw[Q]at a0 a1;obtain⟨ck,hck⟩:=ex (x.chk sclr)
   have bx:Hid (ChkOk wq (.agg #[.slice x.a x.is.length x.c,.int .i64 x.root]) ck):=hid (by rw[<-hck];exact(bm.out x P).later HW.out.2);rw[hck]at aQ aA;clear Q hck aK;obtain⟨Z,z⟩:=ex (wq.alloc (.cells #[.slice x.a x.is.length x.c,.int .i64 x.root] 27))
   obtain⟨nb,f⟩:=ex wq.heap.size
   have l6:Below nb wq Z:=by rw[<-z,<-f];exact(Below.refl _ _).alloc (Nat.le_refl _) _
   have b6:Blk Z nb 27 #[.slice x.a x.is.length x.c,.int .i64 x.root]:=by rw[<-z,<-f];exact Blk.new _ _ _
   obtain⟨c0,G⟩:=cells2 b6;have aw:E.heap.size<=nb:=by rw[<-f];exact HW.out.2.size
   have aa:Hid (Below E.heap.size E Z):=hid (HW.out.2.trans (l6.mono aw));have bD:Hid (ChkOk Z (.agg #[.slice x.a x.is.length x.c,.int .i64 x.root]) ck):=hid (bx.out.later (by rw[f];exact l6));have HB6:Hid (Blk Z d 27 #[.slice none 0 0,.int .i64 0]):=hid (F.out.below aa.out F.out.lt);clear l6 b6 aw;go_upto_region 5 with fail;(try rw[z]);(try rw[f]);clear z f a0 a1;go_wp2_with fail;refine(bD.out Z (Below.refl _ _)).mono ?_;rintro e R ⟨rfl,y⟩;have aC:=aa.out.size;have X:=aa.out.trans (y.mono aC);have ag:=hid X;have C:=F.out.below X F.out.lt;have S:=hid C;obtain⟨d0,d1⟩:=cells2 C;have df:∀i,R.frozen? ⟨d,i,none⟩=false:=C.frozen;clear y X C aC c0 G;by_cases h0:ck=0
   .subst h0;go_wp2;go_roundw
    case rel=>exact⟨j+1,by omega,by go_num,hid ⟨by rw[aQ.out,HW.out.1];rfl,ag.out⟩⟩
    case measure=>simp[intOf];omega
   .have bC:((ck:Int)==0)=false:=by rw[beq_eq_false_iff_ne];omega
    have bA:=hid (aA.out h0);go_wp2_with fail;refine bodyPost_ret (v:=.tuple #[gZero,.int .i64 3]) (by rw[results_cell_tmp rfl];go_simp;rfl) rfl (And.intro ?_ (And.intro (fun _=>rfl) (fun M=>?_)))
    .rw[aF.out];exact((bj.out.trans (ag.out.mono (by have:=av.out;omega))).setCell (by simp) _).setCell (by simp) _
    .rw[bA.out]at M;cases M
  .have L:¬(j:Int)<(l.length:Int):=by omega
   have N:Hid (l.any (fun x=>x.chk sclr != 0)=false):=hid (by have:=HW.out.1;rwa[List.take_of_length_le (by omega)]at this);have aN:Hid (Tab (d+1) wq (.slice (some ⟨d+1,0,none⟩) 1 1) [⟨9,[],false,SV.nil,SV.nil⟩] [⟨9,[],false,[],[]⟩]/\Below (d+1) E wq):=hid ⟨bw.out.later HW.out.2,HW.out.2.mono (by have:=av.out;omega)⟩;clear aK HW af;go_upto_region 9 with fail;go_loopw [4,25] (fun s4 s25 wr=>∃(j:Nat) (A1:Option Addr) (n1 G:Nat) (vs1:List NV),j<=l.length/\s25=.int .i64 j/\s4=.slice A1 n1 G/\Hid (Tab (d+1) wr (.slice A1 n1 G) vs1 (listN ((l.take j).map GArg.p))/\Below (d+1) E wr/\(listN ((l.take j).map GArg.p)).length<=1+j*4096/\0<(listN ((l.take j).map GArg.p)).length/\∀m,(listN ((l.take j).map GArg.p)).head?=some m->m.items.length<=j)) (fun _ s25 _=>l.length-(intOf s25).toNat)
   case atStart=>exact⟨0,_,_,_,_,by omega,rfl,rfl,hid ⟨aN.out.1,aN.out.2,by simp[listN],by simp[listN],by simp[listN]⟩⟩
   case round=>
    clear hlt L hj;clear aN;obtain⟨j,A1,n1,G,vs1,hj,rfl,rfl,K⟩:=hrel;obtain⟨wp,bp⟩:∃wp,wp=wr:=⟨_,rfl⟩
    subst bp;have bc:Below d w wp:=bj.out.trans (K.out.2.1.mono (by omega));have aX:=hid bc;have af:=hid (F.out.below K.out.2.1 (by omega));clear bc;by_cases hlt:j<l.length
    .have L:(j:Int)<(l.length:Int):=by omega
     have a2:=hid (aW.out.below (K.out.2.1.mono (by omega)));obtain⟨ad,rfl,bi,a0,a1⟩:=zgf a2.out.row hlt;obtain⟨x,Q⟩:=ex (l[j])
     have P:x∈l:=by rw[<-Q];exact List.getElem_mem hlt
     rw[Q]at a0 a1;have az:x.chk sclr=0:=by
      have:=N.out;rw[List.any_eq_false]at this;have:=this x P;simpa using this
     obtain⟨bq,bz,a3⟩:=zuz az;obtain⟨r,hr,bn,ba,aE⟩:=zu0 a3;rw[hr]at a1;obtain⟨o,s⟩:=ex (listN ((l.take j).map GArg.p))
     obtain⟨gs,al⟩:=ex (x.is.map Gr.Ni.nd)
     have aZ:x.is.length=gs.length:=by rw[<-al];simp
     have ab:Hid (listN ((l.take (j+1)).map GArg.p)=push0 (r+o.length) (o++gs.map (shN o.length))):=hid (by
      rw[List.take_succ_eq_append_getElem hlt,Q,List.map_append];unfold listN at s ⊢;rw[List.foldl_append,s];show lstep o x.p=_;unfold lstep GArg.p;rw[al,hr,Int.toNat_natCast])
     have ai:=(a2.out.each x P).toG ba;rw[al]at ai aE;have aL:=bE.out x P;rw[al]at aL;rw[s]at K;rw[aZ]at a0;have aU:=K.out.2.2.1;have bg:=K.out.2.2.2.1;have bH:=hid K.out.2.2.2.2;obtain⟨Z,z⟩:=ex (wp.alloc (.cells #[.slice x.a gs.length x.c,.int .i64 r] 27))
     obtain⟨nb,f⟩:=ex wp.heap.size
     have l6:Below nb wp Z:=by rw[<-z,<-f];exact(Below.refl _ _).alloc (Nat.le_refl _) _
     have b6:Blk Z nb 27 #[.slice x.a gs.length x.c,.int .i64 r]:=by rw[<-z,<-f];exact Blk.new _ _ _
     obtain⟨z0,z1⟩:=cells2 b6;have bf:d+2<=nb:=by rw[<-f];have:=av.out;have:=K.out.2.1.size;omega
     have bd:=zcr (d+1) x.a x.c r x.vs gs (.slice A1 n1 G) vs1 o (by omega) (by omega) aL aE (by omega) Z ((ai.below (l6.mono (by omega))).more (by omega)) (K.out.1.later (by rw[f];exact l6)) (by have:=b6.lt;omega);have bs:=hid bd;have aa:=hid (l6.mono (show d+1<=nb by omega));have O:Hid (o.length<=1+j*4096/\gs.length<=4096/\0<o.length/\d+2<=Z.heap.size):=hid ⟨aU,by omega,bg,by have:=b6.lt;omega⟩;clear l6 b6 bd ai aL aE bq bz a3 bn ba az aZ al s Q P hr bf aU bg;go_upto_region 12 with fail;(try rw[z]);(try rw[f]);clear z f a0 a1;go_wp2_with fail;refine bs.out.mono ?_;rintro e R ⟨v7,ap,rfl,I,y,_⟩;have ah:ap≠[]:=by
      intro e;have:=I.rows.len;rw[e]at this;have:=O.out.2.2.1;simp at *;omega
     obtain⟨g,bh,rest,a8,ac,V,bb,_⟩:=I.row.row ah;obtain⟨nn,ar⟩:=ex ap.length
     rw[ar]at a8 ac;subst a8;obtain⟨J,vl,rfl⟩:∃J vl,ap=J::vl:=by cases ap with
      |nil=>exact absurd rfl ah
      |cons a b=>exact⟨a,b,rfl⟩
     have D:=I.rows.len;obtain⟨m,nl,ak⟩:∃m nl,o++gs.map (shN o.length)=m::nl:=by
      cases h:o++gs.map (shN o.length)with
      |nil=>rw[h]at D;cases D
      |cons a b=>exact⟨a,b,rfl⟩
     have hnn0:0<nn:=by rw[<-ar];simp
     have hnn0I:(0:Int)<(nn:Int):=by omega
     have HNN:Hid (nn=o.length+gs.length):=hid (by rw[<-ar,D];simp);rw[ak]at I;have aM:=hid ak;have ao:=hid I;have bk:=hid V;have HBG:=hid bb;have au:=hid y;have HCAP:=hid ac;have k4:R.cell? ⟨g,4,none⟩=some (.slice J.i.a J.i.n J.i.c):=V.cell 4;have aS:OwnRow intL R (d+1) 3 (.slice J.i.a J.i.n J.i.c) m.items:=I.rows.own 0 true;have aY:=hid aS;have aB:Hid (m.items.length<=j):=hid (bH.out m (by
      have h2:=aM.out;cases s:o with
      |nil=>have:=O.out.2.2.1;rw[s]at this;simp at this
      |cons a b=>rw[s]at h2;simp at h2;simp[h2.1]))
     obtain⟨k,hk⟩:=ex (r+o.length)
     have a5:(r:Int)+(o.length:Int)=(k:Int):=by omega
     rw[hk]at ab;rw[a5];clear I V bb y ak D ah aS ac ar hk a5 z0 z1;go_upto_region 13 with fail;go_wp2_with (at_builtin;go_must (refine zaa _ rfl (.tmp 39) (.tmp 41) 38 3 8 rfl intT (d+1) (.slice J.i.a J.i.n J.i.c) m.items rfl (aY.out.alloc _) _ _ 1 [k] rfl (RowAt.lit1 _ _ rfl _ ?_) ?_ ?_ ?_))
     any_goals (first|rfl| (have:=aB.out;have:=au.out.size;have:=O.out.2.2.2;simp;omega))
     intro v8 w8 ae hg aR;obtain⟨A8,c8,aT,_⟩:=ae.form;obtain⟨q,hq⟩:=ex ((m.items++[k]).length)
     rw[hq]at aT;subst aT;clear hq;obtain⟨i,hi,aI,bB,aO⟩:=(ao.out.later ((Below.refl R.heap.size R).alloc (Nat.le_refl _) _)).push ae hg (by rw[World.size_alloc];exact aR);have a4:KeptT 40 R w8:=(KeptT.alloc _ _ _).trans (KeptT.grown hg (aY.out.alloc _) (by decide));have aG:=a4 _ _ bk.out;have k40:w8.cell? ⟨g,4,none⟩=some (.slice J.i.a J.i.n J.i.c):=aG.cell 4;have k4f:∀i,w8.frozen? ⟨g,i,none⟩=false:=aG.frozen;obtain⟨w9,aJ⟩:=ex (w8.setCell ⟨g,4,none⟩ (.slice A8 q c8))
     rw[aJ]at aI aO;have aD:=aO (by rw[World.size_alloc];have:=au.out.size;have:=O.out.2.2.2;omega);have ax:Below (d+1) E w9:=((((K.out.2.1.trans aa.out).trans au.out).alloc (by have:=au.out.size;have:=O.out.2.2.2;omega) _).trans aD)
     have bG:Hid (Tab (d+1) w9 (.slice (some ⟨g,0,none⟩) nn bh) ({J with i:=i}::vl) (listN ((l.take (j+1)).map GArg.p))/\Below (d+1) E w9/\(listN ((l.take (j+1)).map GArg.p)).length<=1+(j+1)*4096/\0<(listN ((l.take (j+1)).map GArg.p)).length/\∀m,(listN ((l.take (j+1)).map GArg.p)).head?=some m->m.items.length<=j+1):=hid (by
      rw[ab.out,aM.out];have ak:=congrArg List.length aM.out;simp only[List.length_append,List.length_map,List.length_cons]at ak;have h1:=O.out;refine⟨aI,ax,?_,?_,?_⟩
      .simp only[push0,List.length_cons];omega
      .simp[push0]
      .intro m' a9;simp[push0]at a9;subst a9;simp;exact aB.out)
     clear ae hg aR hi aI bB aO a4 aG aD ax k4;go_wp2_with fail;(try rw[aJ]);(try clear aJ);go_roundw
     case rel=>exact⟨j+1,some ⟨g,0,none⟩,nn,bh,_,by omega,by go_num,rfl,bG⟩
     case measure=>simp[intOf];omega
    .have L:¬(j:Int)<(l.length:Int):=by omega
     have bv:j=l.length:=by omega
     have a6:l.take j=l:=List.take_of_length_le (by omega);rw[a6]at K;obtain⟨o,s⟩:=ex (listN (l.map GArg.p))
     rw[s]at K;obtain⟨A9,c9,aP,Y⟩:=K.out.1.at_;injection aP with e1 e2 e3
     subst e1 e2 e3;obtain⟨ck,hck⟩:=ex (checkG sclr o 0)
     have a7:=hid (bt.out N.out);rw[s,hck]at a7;have H:Hid (listN (l.map GArg.p)=o/\checkG sclr o 0=ck):=hid ⟨s,hck⟩;have aV:ChkOk wp (.agg #[.slice A1 o.length G,.int .i64 0]) ck:=a7.out wp A1 G vs1 (bu.out wp aX.out) Y;have aH:=zfo A1 o.length G 0 ck wp aV;unfold gZero at aH;have bF:=hid aH;have HG9:=hid Y;clear bv a6 s hck aV aH Y;go_upto_region 15 with fail;go_wp2_with fail;refine bF.out.mono ?_;rintro e R ⟨rfl,y⟩;have C:=af.out.below y af.out.lt;have ay:=aX.out.trans (y.mono (by have:=af.out.lt;omega));have ag:=hid ay;have S:=hid C;have ao:=hid (K.out.1.later y);obtain⟨d0,d1⟩:=cells2 C;have df:∀i,R.frozen? ⟨d,i,none⟩=false:=C.frozen;clear y C ay;by_cases h0:ck=0
     .subst h0;go_wp2_with fail;have be:∀t,t≠27->KeptT t R ((R.setCell ⟨d,0,none⟩ (.slice A1 o.length G)).setCell ⟨d,1,none⟩ (.int .i64 0)):=fun t ht=>(KeptT.setCell (p:=⟨d,0,none⟩) S.out ht _).trans (KeptT.setCell (p:=⟨d,1,none⟩) (S.out.set_ 0 _) ht _)
      have U:=(S.out.set_ 0 (.slice A1 o.length G)).set_ 1 (.int .i64 0);have e0:=U.cell 0;have e1:=U.cell 1;have br:Tab (d+1) ((R.setCell ⟨d,0,none⟩ (.slice A1 o.length G)).setCell ⟨d,1,none⟩ (.int .i64 0)) (.slice A1 o.length G) vs1 o:=⟨ao.out.row.kept (be _ (by decide)),ao.out.rows.kept (be _ (by decide))⟩
      obtain⟨A9,c9,aP,Y⟩:=br.at_;injection aP with f1 f2 f3
      subst f1 f3;refine bodyPost_ret (v:=.tuple #[.agg #[.slice A1 o.length G,.int .i64 0],.int .i64 0]) (by rw[results_cell_tmp rfl];go_simp) rfl (And.intro ?_ (And.intro (fun M=>?_) (fun _=>And.intro (fun M=>?_) (fun _=>?_))))
      .rw[aF.out];exact(ag.out.setCell (by simp) _).setCell (by simp) _
      .rw[N.out]at M;cases M
      .rw[H.out.1,H.out.2]at M;exact absurd rfl M
      .rw[H.out.1];exact⟨A1,G,vs1,rfl,Y⟩
     .have bC:((ck:Int)==0)=false:=by rw[beq_eq_false_iff_ne];omega
      go_wp2_with fail;have U:=(S.out.set_ 0 (.slice none 0 0)).set_ 1 (.int .i64 0);have e0:=U.cell 0;have e1:=U.cell 1;refine bodyPost_ret (v:=.tuple #[gZero,.int .i64 ck]) (by rw[results_cell_tmp rfl];go_simp;rfl) rfl (And.intro ?_ (And.intro (fun M=>?_) (fun _=>And.intro (fun _=>?_) (fun M=>?_))))
      .rw[aF.out];exact(ag.out.setCell (by simp) _).setCell (by simp) _
      .rw[N.out]at M;cases M
      .rw[H.out.1,H.out.2]
      .rw[H.out.1,H.out.2]at M;exact absurd M h0
def sclU (kind:Int) (text:Gr.Str):Bool:=if kind=0 then text.isEmpty else if kind=2 then intB text else if kind=5 then utfB text else false
def KU (ns:List Gr.Nd):Prop:=∀x∈ns,x.kind=0\/x.kind=2\/x.kind=5\/x.kind=9\/x.kind=10\/x.kind=11
theorem scalsU (ns:List Gr.Nd) (hk:KU ns) (hn:NH ns):ScalsOk UT sclU ns:=by
 intro x c e a b _ _ _;have d:=(hn x c).2.2;rcases hk x c with h|h|h|h|h|h
 .rw[h];exact zir x.text
 .rw[h];exact zen x.text d
 .rw[h];exact zff x.text d
 .exact absurd h e
 .exact absurd h a
 .exact absurd h b
def nOne:Gr.Nd:=⟨2,[49],false,[],[]⟩
def nA:Gr.Nd:=⟨5,[97],false,[],[]⟩
def nsL:List Gr.Nd:=[⟨9,[],false,[],[1,2]⟩,nOne,nA]
def nsLoop:List Gr.Nd:=[⟨9,[],false,[],[0]⟩]
theorem zrk:checkG sclU nsL 0=0:=by decide+kernel
theorem zrl:checkG sclU nsLoop 0=0:=by decide+kernel
theorem znl:depth nsLoop 0=(0,false):=by decide+kernel
theorem zw7:intB [49]=true:=by decide+kernel
theorem zw8:intB [48,49]=false:=by decide+kernel
theorem zy1:utfB [97]=true:=by decide+kernel
theorem zw9:listN [([nOne.ni],0),([nA.ni],0)]=nsL:=by rfl
theorem ztz:checkI sclU [nOne.ni] 0=0:=by decide+kernel
theorem zyj:checkI sclU [nA.ni] 0=0:=by decide+kernel
theorem zcf (ns:List Gr.Nd) (h:(ns.all fun n=>decide (n.keys.length<=1000/\n.items.length<=1000/\n.text.length<=1000))=true):NH ns:=by
 intro n a;have:=List.all_eq_true.1 h n a;simp at this;omega
theorem za5 (ns:List Gr.Nd) (h:(ns.all fun n=>(n.keys++n.items).all fun r=>decide (r<ns.length))=true):Refs ns:=by
 intro n b r a;have:=List.all_eq_true.1 (List.all_eq_true.1 h n b) r a;simpa using this
theorem zby (ns:List Gr.Nd) (h:(ns.all fun n=>n.kind==0 || n.kind==2 || n.kind==5 || n.kind==9 || n.kind==10 || n.kind==11)=true):KU ns:=by
 intro n a;have:=List.all_eq_true.1 h n a;simp at this;omega
theorem zb9 (A:Option Addr) (c:Nat) (vs:List NV) (ns:List Gr.Nd) (w:World) (hUT:UT w) (h1:NH ns) (h2:KU ns) (h3:Refs ns) (h4:0<ns.length) (h5:ns.length<=1073741823) (h:GAt w w.heap.size A vs ns):ChkOk w (.agg #[.slice A ns.length c,.int .i64 0]) (checkG sclU ns 0):=
 fun W a=>zrg UT UT.stays sclU A c 0 vs ns h1 (scalsU ns h2 h1) h5 h3 h4 W (UT.stays _ _ hUT a) ((h.below a).more a.size)
theorem zt0 (w:World) (hUT:UT w):ChkOk w gZero 3:=by
 intro W d;have:=ze6 UT UT.stays sclU none 0 0 [] [] (by simp[NH]) (by simp[ScalsOk]) (by simp) W (UT.stays _ _ hUT d) ⟨?_,rfl,fun j h=>by simp at h,fun j h=>by simp at h⟩
 .exact this
 .exact(OwnRow.nil (L:=nodeL) (w:=W) (base:=0) (E:=40)).form.elim (fun A h=>by obtain⟨c,b,a⟩:=h;injection b with e1;subst e1;exact a)
theorem zhh {w:World} {g:Nat} {kind:Int} {text:Gr.Str} (h:Blk w g 40 #[.int .i64 kind,.string ⟨text.toArray⟩,.bool false,.slice none 0 0,.slice none 0 0]):GAt w w.heap.size (some ⟨g,0,none⟩) [⟨kind,text,false,SV.nil,SV.nil⟩] [⟨kind,text,false,[],[]⟩]:=by
 obtain⟨A,c,b,a⟩:=(Tab.one (B:=0) h (Nat.zero_le _)).at_;injection b with e1 e2 e3
 subst e1;exact a
def argOf (g:Nat) (kind:Int) (text:Gr.Str):GArg:=⟨some ⟨g,0,none⟩,1,0,[⟨kind,text,false,SV.nil,SV.nil⟩],[(⟨kind,text,false,[],[]⟩:Gr.Nd).ni]⟩
open Go.RowKit
theorem zt1 (A:Option Addr) (c g1 g2:Nat) (w:World) (hUT:UT w) (h1:Blk w g1 40 #[.int .i64 2,.string ⟨([49]:Gr.Str).toArray⟩,.bool false,.slice none 0 0,.slice none 0 0]) (h2:Blk w g2 40 #[.int .i64 5,.string ⟨([97]:Gr.Str).toArray⟩,.bool false,.slice none 0 0,.slice none 0 0])
 (hrow:RowAt argL w w.heap.size A [argOf g1 2 [49],argOf g2 5 [97]]):
 Calls Tryz.prog 10 #[.slice A 2 c] w fun e w'=>Below w.heap.size w w'/\∃A3 c3 vs,e=.returned (.tuple #[.agg #[.slice A3 3 c3,.int .i64 0],.int .i64 0])/\GAt w' w'.heap.size A3 vs nsL:=by
 have m:GArg.chk sclU (argOf g1 2 [49])=0:=ztz;have l:GArg.chk sclU (argOf g2 5 [97])=0:=zyj;have f:NH [nOne]:=zcf _ (by decide);have d:NH [nA]:=zcf _ (by decide);have s:=(zhh h1).toI;have r:=(zhh h2).toI;have b:listN ([argOf g1 2 [49],argOf g2 5 [97]].map GArg.p)=nsL:=zw9;have j:NH nsL:=zcf _ (by decide);have g:[argOf g1 2 [49],argOf g2 5 [97]].any (fun x=>x.chk sclU != 0)=false:=by simp[m,l]
 have h:=zty UT UT.stays sclU A c [argOf g1 2 [49],argOf g2 5 [97]] (by simp)
  (by
    intro x a;simp at a;rcases a with rfl|rfl
    .exact f
    .exact d)
  (by
    intro x a;simp at a;rcases a with rfl|rfl
    .exact scalsU [nOne] (zby _ (by decide)) f
    .exact scalsU [nA] (zby _ (by decide)) d)
  w hUT ⟨hrow,by intro x a;simp at a;exact a.elim (fun e=>e▸s) (fun e=>e▸r)⟩
  (by
    intro x a;simp at a;rcases a with rfl|rfl
    .rw[m];exact zb9 _ _ _ [nOne] w hUT f (zby _ (by decide)) (za5 _ (by decide)) (by decide) (by decide) (zhh h1)
    .rw[l];exact zb9 _ _ _ [nA] w hUT d (zby _ (by decide)) (za5 _ (by decide)) (by decide) (by decide) (zhh h2))
  (by
    intro _ W A c vs q k;rw[b]at k ⊢;exact zb9 _ _ _ nsL W q j (zby _ (by decide)) (za5 _ (by decide)) (by decide) (by decide) k)
 refine h.mono ?_;rintro e w' ⟨n,_,o⟩;refine⟨n,?_⟩;have i:=(o g).2;rw[b]at i;exact i zrk
namespace Gr
structure Bfs (sc:Nat->List Nat) (n a:Nat) (m:List Bool) (L:List Nat) (i:Nat) (P:List Nat):Prop where
 ml:m.length=n
 lt:∀x∈L,x<n
 nd:L.Nodup
 mem:∀x,mkd m x=true↔x∈L
 frm:a∈L
 re:∀x∈L,Reach sc a x
 done:∀j,j<i->∀x,L[j]? =some x->∀y∈sc x,mkd m y=true
 part:∀y∈P,mkd m y=true
section
variable {sc:Nat->List Nat} {n a i:Nat} {m:List Bool} {L P:List Nat}
theorem Bfs.start (h:a<n):Bfs sc n a ((List.replicate n false).set a true) [a] 0 [] where
 ml:=by simp
 lt x hx:=by rw[List.mem_singleton.1 hx];exact h
 nd:=by simp
 mem x:=by
  rw[zki (by simpa using h),zfy];by_cases e:x=a
  .simp[e]
  .simp[e]
 frm:=by simp
 re x hx:=by rw[List.mem_singleton.1 hx];exact .refl a
 done j hj:=by omega
 part y hy:=by cases hy
theorem Bfs.old (h:Bfs sc n a m L i P) {y:Nat} (hy:mkd m y=true):Bfs sc n a m L i (P++[y]):=
 ⟨h.ml,h.lt,h.nd,h.mem,h.frm,h.re,h.done,fun z hz=>by
  rcases List.mem_append.1 hz with hz|hz
  .exact h.part z hz
  .rw[List.mem_singleton.1 hz];exact hy⟩
theorem Bfs.new (h:Bfs sc n a m L i P) {u y:Nat} (hi:L[i]? =some u) (hys:y∈sc u) (hyn:y<n) (hy:mkd m y=false):Bfs sc n a (m.set y true) (L++[y]) i (P++[y]):=by
 have c:=fun x=>zki (m:=m) (a:=y) (by rw[h.ml];exact hyn) x
 have b:∀x,mkd m x=true->mkd (m.set y true) x=true:=fun x hx=>by rw[c];split<;>simp_all
 have hil:i<L.length:=by
  grind
 refine⟨by simp[h.ml],?_,?_,?_,List.mem_append_left _ h.frm,?_,?_,?_⟩
 .intro x hx;rcases List.mem_append.1 hx with hx|hx
  .exact h.lt x hx
  .grind
 .rw[List.nodup_append];refine⟨h.nd,by simp,?_⟩;intro x hx z hz e;rw[List.mem_singleton.1 hz]at e;subst e;rw[(h.mem x).2 hx]at hy;cases hy
 .intro x;rw[c,List.mem_append];by_cases e:x=y
  .simp[e]
  .rw[if_neg e,h.mem];simp[e]
 .intro x hx;rcases List.mem_append.1 hx with hx|hx
  .exact h.re x hx
  .rw[List.mem_singleton.1 hx];exact(h.re u (List.mem_of_getElem? hi)).trans (.one hys)
 .intro j d x hx z hz;rw[List.getElem?_append_left (by omega)]at hx;exact b z (h.done j d x hx z hz)
 .intro z hz;rcases List.mem_append.1 hz with hz|hz
  .exact b z (h.part z hz)
  .grind
theorem Bfs.next (h:Bfs sc n a m L i P) {u:Nat} (hi:L[i]? =some u) (hP:P=sc u):Bfs sc n a m L (i+1) []:=
 ⟨h.ml,h.lt,h.nd,h.mem,h.frm,h.re,fun j hj x b y c=>by
  rcases Nat.lt_or_ge j i with h1|h1
  .exact h.done j h1 x b y c
  .obtain rfl:j=i:=by omega
   rw[hi]at b;injection b with b
   subst b;exact h.part y (hP▸c),fun y c=>by cases c⟩
theorem Bfs.len_le (h:Bfs sc n a m L i P):L.length<=n:=by
 rw[<-zdr n L h.nd h.lt];have:=List.countP_le_length (p:=fun i=>decide (i∈L)) (l:=List.range n);simpa using this
theorem Bfs.last (h:Bfs sc n a m L i P) (hi:L.length<=i) (x:Nat):mkd m x=true↔Reach sc a x:=by
 constructor
 .intro d;exact h.re x ((h.mem x).1 d)
 .intro b;refine b.closed (p:=fun x=>mkd m x=true) ?_ ((h.mem a).2 h.frm);intro u f v c;obtain⟨j,e,rfl⟩:=List.getElem_of_mem ((h.mem u).1 f);exact h.done j (by omega) _ (List.getElem?_eq_getElem e) v c
end
section
variable {ns:List Nd} {root a:Nat}
theorem zq0 {l m:List Bool} (hl:l.length=m.length) (h:∀x,mkd l x=true↔mkd m x=true):l=m:=by
 apply List.ext_getElem hl;intro i b c;have:=h i;unfold mkd at this;simp only[List.getD_eq_getElem?_getD,List.getElem?_eq_getElem b,List.getElem?_eq_getElem c,Option.getD_some]at this;cases e1:l[i]<;>cases e2:m[i]<;>simp_all
theorem zbe (h:Refs ns) (hr:root<ns.length):(marks ns root).length=ns.length:=
 (zbp h.succ ns.length (List.replicate ns.length false) root (by simp) hr (zds _)).len
theorem zgb (h:Refs ns):(inKeys ns).length=ns.length:=by
 have c:∀k∈allKeys ns,k<ns.length:=by
  intro k c;obtain⟨y,d,b⟩:=List.mem_flatMap.1 c;exact h y d k (List.mem_append_left _ b)
 exact(zes (zbp h.succ ns.length) (allKeys ns) (List.replicate ns.length false) c (by simp) (zds _)).len
theorem Bfs.marks {i:Nat} {m:List Bool} {L P:List Nat} (h:Refs ns) (ha:a<ns.length) (hb:Bfs (succ ns) ns.length a m L i P) (hi:L.length<=i):m=Gr.marks ns a:=
 zq0 (by rw[hb.ml,zbe h ha]) (fun x=>by rw[hb.last hi,zbb h ha])
def orM (o m:List Bool):List Bool:=List.zipWith (·|| ·) o m
theorem zq1 {o m:List Bool} (h:o.length=m.length):(orM o m).length=o.length:=by simp[orM,h]
theorem zuy {o m:List Bool} (h:o.length=m.length) (x:Nat):mkd (orM o m) x=(mkd o x || mkd m x):=by
 unfold mkd orM;simp only[List.getD_eq_getElem?_getD,List.getElem?_zipWith];rcases Nat.lt_or_ge x o.length with h1|h1
 .grind
 .grind
theorem zi1 (h:Refs ns):∀(K:List Nat) (o:List Bool),(∀k∈K,k<ns.length)->o.length=ns.length->
 (K.foldl (fun o k=>orM o (Gr.marks ns k)) o).length=ns.length/\∀x,mkd (K.foldl (fun o k=>orM o (Gr.marks ns k)) o) x=true↔mkd o x=true\/∃k∈K,Reach (succ ns) k x:=by
 intro K
 induction K with
 |nil=>intro o _ b;exact⟨b,fun x=>by simp⟩
 |cons k K ih=>
  intro o c b;have d:=c k (.head _);have e:=zbe h d;obtain⟨j,f⟩:=ih (orM o (Gr.marks ns k)) (fun z g=>c z (.tail _ g)) (by rw[zq1 (by omega),b]);refine⟨j,fun x=>?_⟩;rw[List.foldl_cons,f,zuy (by omega),Bool.or_eq_true,zbb h d];constructor
  .grind
  .grind
theorem zj7 (h:Refs ns):(allKeys ns).foldl (fun o k=>orM o (Gr.marks ns k)) (List.replicate ns.length false)=Gr.inKeys ns:=by
 have c:∀k∈allKeys ns,k<ns.length:=by
  intro k c;obtain⟨y,e,b⟩:=List.mem_flatMap.1 c;exact h y e k (List.mem_append_left _ b)
 obtain⟨d,f⟩:=zi1 h (allKeys ns) (List.replicate ns.length false) c (by simp);refine zq0 (by rw[d,zgb h]) (fun x=>?_);rw[f,zau h,zfy];simp
end
end Gr
namespace Gr
def wtN (ns:List Nd) (i:Nat):Nat:=(ns[i]?.map (fun x=>x.text.length+30)).getD 0
def plen (ns:List Nd) (f:Nat) (L:List Nat):Nat:=(L.map (fun i=>(printF ns f i).length)).sum
def wtS (ns:List Nd) (L:List Nat):Nat:=(L.map (wtN ns)).sum
def kids (ns:List Nd) (L:List Nat):List Nat:=L.flatMap (succ ns)
theorem zle {l m:List Nat} (h:l.Perm m):l.sum=m.sum:=by
 grind
theorem zgd (n:Nat) (L:List Nat) (hd:L.Nodup) (hL:∀x∈L,x<n):∃R,(L++R).Perm (List.range n):=by
 refine⟨(List.range n).filter (fun x=>decide (x∉L)),?_⟩;refine(zfh (List.range n) _ List.nodup_range (fun x hx=>?_) ?_).symm
 .grind
 .rw[List.length_append,<-List.countP_eq_length_filter,<-zdr n L hd hL];rw[List.length_eq_countP_add_countP (l:=List.range n) (p:=fun i=>decide (i∈L))];apply Nat.le_of_eq
  congr 1
  exact List.countP_congr (fun x _=>by simp)
theorem zye (ns:List Nd) (L:List Nat) (hd:L.Nodup) (hL:∀x∈L,x<ns.length):wtS ns L<=wtS ns (List.range ns.length):=by
 obtain⟨R,a⟩:=zgd ns.length L hd hL;unfold wtS;rw[<-zle (a.map (wtN ns)),List.map_append,List.sum_append];omega
theorem zq3 (ns:List Nd):kids ns (List.range ns.length)=refs ns:=by
 unfold kids refs;rw[List.flatMap_def,List.flatMap_def]
 congr 1
 apply List.ext_getElem
 .simp
 .intro i a h2;simp only[List.length_map,List.length_range]at a;simp[zdb a]
theorem zm9 (ns:List Nd) (L:List Nat) (hd:L.Nodup) (hL:∀x∈L,x<ns.length) (y:Nat):(kids ns L).count y<=(refs ns).count y:=by
 obtain⟨R,a⟩:=zgd ns.length L hd hL;rw[<-zq3];have:=(a.flatMap_right (succ ns)).count_eq y;unfold kids;rw[<-this,List.flatMap_append,List.count_append];omega
theorem dec_len (n:Nat) (h:n<=999999999):(Lib.decDigits n).length<=9:=by
 have:=zo1 9 n (by omega) (by omega);have a:=congrArg List.length this;rw[List.length_append,List.length_replicate,za2]at a;omega
section
variable {ns:List Nd}
theorem zhg (l:List Str):l.flatten.length=(l.map List.length).sum:=by
 grind
theorem zq4 (f:Nat) (x:Nd) (hk:x.kind=10->x.keys.length=x.items.length):(entS ns f x).flatten.length<=plen ns f (x.keys++x.items):=by
 have e:(entS ns f x).flatten.length=(ents ns f x).flatten.length:=by
  rw[zhg,zhg];unfold entS;split
  .exact zle ((za4 _).map _)
  .rfl
 rw[e,zhg];unfold ents plen;rw[List.map_map,List.map_append,List.sum_append];have c:∀l:List Nat,(List.range l.length).map (fun k=>(printF ns f (l.getD k 0)).length)=l.map (fun i=>(printF ns f i).length):=by
  intro l;apply List.ext_getElem
  .simp
  .grind
 have b:∀(l:List Nat) (p q:Nat->Nat),(l.map (fun k=>p k+q k)).sum=(l.map p).sum+(l.map q).sum:=by
  intro l p q
  induction l with
  |nil=>rfl
  |cons a l ih=>simp only[List.map_cons,List.sum_cons,ih];omega
 by_cases h10:x.kind=10
 .have d:=hk h10;have:(List.length ∘ fun k=>(if x.kind=10 then printF ns f (x.keys.getD k 0)else[])++printF ns f (x.items.getD k 0))=fun k=>(printF ns f (x.keys.getD k 0)).length+(printF ns f (x.items.getD k 0)).length:=by
   funext k;simp[h10]
  rw[this,b,c,<-d,c];exact Nat.le_refl _
 .have:(List.length ∘ fun k=>(if x.kind=10 then printF ns f (x.keys.getD k 0)else[])++printF ns f (x.items.getD k 0))=fun k=>(printF ns f (x.items.getD k 0)).length:=by
   funext k;simp[h10]
  rw[this,c];omega
theorem zna (hok:NodesOk ns) (hb:∀x∈ns,x.text.length<=999999999/\x.items.length<=999999999) (f i:Nat) (hi:i<ns.length):(printF ns (f+1) i).length<=wtN ns i+plen ns f (succ ns i):=by
 have a:ns[i]∈ns:=List.getElem_mem hi;have h1:=zq4 (ns:=ns) f ns[i] (hok _ a).2.2;have d1:=dec_len _ (hb _ a).1;have d2:=dec_len _ (hb _ a).2;rw[zam (List.getElem?_eq_getElem hi),zdb hi];unfold wtN;rw[List.getElem?_eq_getElem hi];simp only[Option.map_some,Option.getD_some,List.length_cons,List.length_append];have:(if ns[i].ord=true then[33]else([]:Str)).length<=1:=by split<;>simp
 omega
theorem zq5 (f:Nat) (L:List Nat):plen ns f (kids ns L)=(L.map (fun i=>plen ns f (succ ns i))).sum:=by
 induction L with
 |nil=>rfl
 |cons a L ih=>
  unfold kids plen at ih ⊢;simp only[List.flatMap_cons,List.map_append,List.sum_append,List.map_cons,List.sum_cons,ih]
theorem znb (hok:NodesOk ns) (hb:∀x∈ns,x.text.length<=999999999/\x.items.length<=999999999) (f:Nat):∀L:List Nat,(∀x∈L,x<ns.length)->plen ns (f+1) L<=wtS ns L+plen ns f (kids ns L):=by
 intro L b;rw[zq5];unfold plen wtS
 induction L with
 |nil=>simp
 |cons a L ih=>
  have c:=ih (fun x e=>b x (.tail _ e));have d:=zna hok hb f a (b a (.head _));unfold plen at d c;simp only[List.map_cons,List.sum_cons];omega
theorem zwy (hr:Refs ns) (hok:NodesOk ns) (hb:∀x∈ns,x.text.length<=999999999/\x.items.length<=999999999) {K:Nat->Prop} (hK:∀u,K u->∀v∈succ ns u,K v) (hone:∀x,K x->(refs ns).count x<=1):∀(f:Nat) (L:List Nat),L.Nodup->(∀x∈L,x<ns.length/\K x)->plen ns f L<=f*wtS ns (List.range ns.length):=by
 intro f
 induction f with
 |zero=>
  intro L _ _;unfold plen;have:(L.map (fun i=>(printF ns 0 i).length)).sum=0:=by
   induction L with
   |nil=>rfl
   |cons a L ih=>
    rw[List.map_cons,List.sum_cons];have k:(printF ns 0 a).length=0:=rfl;rw[k,Nat.zero_add];apply ih
    .grind
    .grind
  rw[this];omega
 |succ f ih=>
  intro L j h;have b:∀x∈L,x<ns.length:=fun x e=>(h x e).1
  have h1:=znb hok hb f L b;have h2:=zye ns L j b;have c:∀x∈kids ns L,x<ns.length/\K x:=by
   intro x e;obtain⟨u,l,d⟩:=List.mem_flatMap.1 e;exact⟨hr.succ u x d,hK u (h u l).2 x d⟩
  have g:(kids ns L).Nodup:=by
   rw[List.nodup_iff_count];intro y;by_cases hy:y∈kids ns L
   .exact Nat.le_trans (zm9 ns L j b y) (hone y (c y hy).2)
   .grind
  have h3:=ih (kids ns L) g c;rw[Nat.succ_mul];omega
theorem zq6 (hr:Refs ns) (hok:NodesOk ns) (hb:∀x∈ns,x.text.length<=999999999/\x.items.length<=999999999) {K:Nat->Prop} (hK:∀u,K u->∀v∈succ ns u,K v) (hone:∀x,K x->(refs ns).count x<=1) (f i:Nat) (hi:i<ns.length) (hKi:K i):(printF ns f i).length<=f*wtS ns (List.range ns.length):=by
 have:=zwy hr hok hb hK hone f [i] (by simp) (fun x a=>by rw[List.mem_singleton.1 a];exact⟨hi,hKi⟩);unfold plen at this;simpa using this
end
end Gr
namespace Gr
theorem zwz {l:List Str} {k:Nat} (h:k<l.length) (hm:l[k]∈l.take k):dupS l=true:=by
 rw[<-Bool.not_eq_false];intro c;have f:=(zd1 l).1 c;obtain⟨j,d,a⟩:=List.mem_iff_getElem.1 hm;rw[List.length_take]at d;rw[List.getElem_take]at a;have h2:j<k:=by omega
 exact absurd a (fun e=>absurd ((List.getElem_inj f).1 e) (by omega))
theorem zj8 {l:List Str} {k:Nat} (h:k<l.length) (hn:(l.take k).Nodup) (hm:l[k]∉l.take k):(l.take (k+1)).Nodup:=by
 rw[List.take_succ_eq_append_getElem h,List.nodup_append];refine⟨hn,by simp,fun a d b c=>?_⟩;rw[List.mem_singleton]at c;subst c;exact fun e=>hm (e▸d)
theorem zyf {l:List Str} {k:Nat} (h:l.length<=k) (hn:(l.take k).Nodup):dupS l=false:=by
 rw[List.take_of_length_le h]at hn;exact(zd1 l).2 hn
theorem znc {ns:List Nd} {f i:Nat} (h:i<ns.length) (hd:dupS (ns[i].keys.map (printF ns f))=true):rtwice ns f=true:=by
 unfold rtwice;rw[List.any_eq_true];exact⟨_,List.getElem_mem h,hd⟩
theorem zq7 {ns:List Nd} {f i:Nat} (h:ns.length<=i) (ha:∀j,j<i->∀(hj:j<ns.length),dupS (ns[j].keys.map (printF ns f))=false):rtwice ns f=false:=by
 unfold rtwice;rw[List.any_eq_false];intro x a;obtain⟨j,hj,rfl⟩:=List.mem_iff_getElem.1 a;rw[ha j (by omega) hj];decide
def mt (ns:List Nd) (v i:Nat):Bool:=mkd (marks ns v) i && mkd (marks ns i) v
def lwt (ns:List Nd) (v k:Nat):Nat:=(List.range k).countP (mt ns v)
theorem ztr (ns:List Nd) (v k:Nat):lwt ns v (k+1)=lwt ns v k+(if mt ns v k=true then 1 else 0):=by
 unfold lwt;rw[List.range_succ,List.countP_append,List.countP_singleton]
theorem zyg (ns:List Nd) (v k:Nat):lwt ns v k<=k:=by
 unfold lwt;exact Nat.le_trans List.countP_le_length (by simp)
def seen (ns:List Nd) (v k:Nat) (P:List Nat) (x:Nat):Prop:=(∃u,u<k/\mt ns v u=true/\x∈succ ns u/\mkd (marks ns x) v=false)\/(x∈P/\mkd (marks ns x) v=false)
structure LBest (ns:List Nd) (F:Nat->Nat) (v k:Nat) (P:List Nat) (b:Nat):Prop where
 ge:∀x,seen ns v k P x->F x<=b
 at_:b=0\/∃x,seen ns v k P x/\b=F x
section
variable {ns:List Nd} {F:Nat->Nat} {v k b:Nat} {P:List Nat}
theorem LBest.start:LBest ns F v 0 [] 0:=⟨by
 rintro x (⟨u,hu,_⟩|⟨h,_⟩)
 .omega
 .simp at h,.inl rfl⟩
theorem LBest.skip (h:LBest ns F v k [] b) (hm:mt ns v k=false):LBest ns F v (k+1) [] b:=by
 have e:∀x,seen ns v (k+1) [] x↔seen ns v k [] x:=by
  intro x;unfold seen;constructor
  .grind
  .grind
 exact⟨fun x a=>h.ge x ((e x).1 a),h.at_.imp id (fun⟨x,h1,h2⟩=>⟨x,(e x).2 h1,h2⟩)⟩
theorem LBest.next (h:LBest ns F v k P b) (hm:mt ns v k=true) (hP:P=succ ns k):LBest ns F v (k+1) [] b:=by
 have e:∀x,seen ns v (k+1) [] x↔seen ns v k P x:=by
  intro x;unfold seen;constructor
  .grind
  .grind
 exact⟨fun x a=>h.ge x ((e x).1 a),h.at_.imp id (fun⟨x,h1,h2⟩=>⟨x,(e x).2 h1,h2⟩)⟩
theorem LBest.old (h:LBest ns F v k P b) {y:Nat} (hy:mkd (marks ns y) v=true):LBest ns F v k (P++[y]) b:=by
 have e:∀x,seen ns v k (P++[y]) x↔seen ns v k P x:=by
  intro x;unfold seen;constructor
  .grind
  .grind
 exact⟨fun x a=>h.ge x ((e x).1 a),h.at_.imp id (fun⟨x,h1,h2⟩=>⟨x,(e x).2 h1,h2⟩)⟩
theorem LBest.new (h:LBest ns F v k P b) {y:Nat} (hy:mkd (marks ns y) v=false):LBest ns F v k (P++[y]) (max b (F y)):=by
 have e:∀x,seen ns v k (P++[y]) x↔seen ns v k P x\/x=y:=by
  intro x;unfold seen;constructor
  .grind
  .grind
 refine⟨fun x a=>?_,?_⟩
 .rcases(e x).1 a with h1|rfl
  .exact Nat.le_trans (h.ge x h1) (Nat.le_max_left _ _)
  .exact Nat.le_max_right _ _
 .rcases Nat.le_total b (F y)with h1|h1
  .grind
  .rw[Nat.max_eq_left h1];exact h.at_.imp id (fun⟨x,h2,h3⟩=>⟨x,(e x).2 (.inl h2),h3⟩)
theorem zlf (hr:Refs ns) (hv:v<ns.length) {i:Nat} (hi:i<ns.length):mt ns v i=true↔Reach (succ ns) v i/\Reach (succ ns) i v:=by
 unfold mt;rw[Bool.and_eq_true,zbb hr hv,zbb hr hi]
theorem zq8 (hr:Refs ns) {x:Nat} (hx:x<ns.length):mkd (marks ns x) v=false↔¬Reach (succ ns) x v:=by
 rw[<-zbb hr hx,Bool.not_eq_true]
open Classical in
theorem zyh (hr:Refs ns) (hv:v<ns.length):lwt ns v ns.length=wt (succ ns) ns.length v:=by
 unfold lwt wt;apply List.countP_congr;intro i a;rw[zlf hr hv (List.mem_range.1 a),decide_eq_true_eq]
theorem LBest.last (hr:Refs ns) (hv:v<ns.length) (hF:LongR (succ ns) ns.length F) (h:LBest ns F v ns.length [] b):lwt ns v ns.length+b=F v:=by
 rw[zyh hr hv];have c:∀x,seen ns v ns.length [] x->wt (succ ns) ns.length v+F x<=F v:=by
  rintro x (⟨u,hu,h1,h2,h3⟩|⟨h1,_⟩)
  .have a:=(zlf hr hv hu).1 h1;exact hF.up v u hv hu a.1 a.2 x h2 ((zq8 hr (hr.succ u x h2)).1 h3)
  .simp at h1
 have hle:wt (succ ns) ns.length v+b<=F v:=by
  rcases h.at_ with h1|⟨x,h1,rfl⟩
  .subst h1;rcases hF.att v hv with h2|⟨u,_,_,_,x,_,_,h2⟩
   .omega
   .omega
  .exact c x h1
 rcases hF.att v hv with h2|⟨u,hu,h3,a,x,hx,hn,h2⟩
 .omega
 .have:=h.ge x (.inl ⟨u,hu,(zlf hr hv hu).2 ⟨h3,a⟩,hx,(zq8 hr (hr.succ u x hx)).2 hn⟩);omega
theorem LongR.lt (hF:LongR (succ ns) ns.length F) (hr:Refs ns) (hv:v<ns.length) {u x:Nat} (hu:u<ns.length) (hm:mt ns v u=true) (hx:x∈succ ns u) (hn:mkd (marks ns x) v=false):F x<F v:=by
 have a:=(zlf hr hv hu).1 hm;have:=hF.up v u hv hu a.1 a.2 x hx ((zq8 hr (hr.succ u x hx)).1 hn);have:=zqv (succ ns) ns.length v hv;omega
theorem LongR.pos (hF:LongR (succ ns) ns.length F) (hv:v<ns.length):0<F v:=by
 have:=zqv (succ ns) ns.length v hv;rcases hF.att v hv with h2|⟨_,_,_,_,_,_,_,h2⟩<;>omega
end
def rtree (ns:List Nd):Bool:=(List.range ns.length).all (fun u=>((ns[u]?.map Nd.items).getD []).all (fun x=>!(mkd (marks ns x) u)))
theorem zq9 {ns:List Nd} (hr:Refs ns):rtree ns=true↔∀(u:Nat) (hu:u<ns.length),∀x∈ns[u].items,¬Reach (succ ns) x u:=by
 unfold rtree;rw[List.all_eq_true];constructor
 .intro h u hu x a;have:=h u (List.mem_range.2 hu);rw[List.getElem?_eq_getElem hu,List.all_eq_true]at this;have:=this x a;rw[Bool.not_eq_true']at this;exact(zq8 hr (hr _ (List.getElem_mem hu) x (List.mem_append_right _ a))).1 this
 .intro h u hu;have hu:=List.mem_range.1 hu;rw[List.getElem?_eq_getElem hu,List.all_eq_true];intro x a;rw[Bool.not_eq_true'];exact(zq8 hr (hr _ (List.getElem_mem hu) x (List.mem_append_right _ a))).2 (h u hu x a)
structure WellF (ns:List Nd) (r:Nat):Prop where
 root:r<ns.length
 refs:Refs ns
 ok:NodesOk ns
 all:∀v,v<ns.length->Reach (succ ns) r v
 one:∀x,x<ns.length->mkd (inKeys ns) x=true->(counts ns r).getD x 0=1
theorem zge {sclr:Int->Str->Bool} (hs:∀k t,sclr k t=true->0<=k/\k<=8) {is:List Ni} {root:Int} (h:rwell sclr is root=true):∃r:Nat,root=(r:Int)/\WellF (is.map Ni.nd) r/\is.all (rng is.length)=true:=by
 unfold rwell at h;split at h
 .cases h
 .rename_i h2;split at h
  .cases h
  .rename_i h3;rw[Bool.not_eq_false]at h3;have a:inR is.length root=true:=by
    grind
   have c:is.all (rng is.length)=true:=List.all_eq_true.2 (fun x g=>zfi (List.all_eq_true.1 h3 x g));obtain⟨_,e⟩:=zbl c;have d:(is.map Ni.nd).length=is.length:=by simp
   unfold inR at a;rw[Bool.and_eq_true,decide_eq_true_eq,decide_eq_true_eq]at a;have j:root.toNat<(is.map Ni.nd).length:=by rw[d];omega
   have f:∀i,i<(is.map Ni.nd).length->rnode (is.map Ni.nd) root.toNat i=true:=fun i m=>List.all_eq_true.1 h i (List.mem_range.2 (by rw[d]at m;exact m))
   refine⟨root.toNat,by omega,⟨j,e,?_,?_,?_⟩,c⟩
   .intro x g;obtain⟨y,n,rfl⟩:=List.mem_map.1 g;have:=List.all_eq_true.1 h3 y n;rw[zhf sclr is.length y (List.all_eq_true.1 c y n)]at this;exact zi0 hs this
   .intro v o;have:=f v o;unfold rnode at this;rw[Bool.and_eq_true]at this;exact(zbb e j v).1 this.1
   .intro x g l;have:=f x g;unfold rnode at this;rw[Bool.and_eq_true,l,Bool.true_and,Bool.not_eq_true']at this;simpa using this.2
section
variable {ns:List Nd} {r:Nat}
theorem WellF.tall (h:WellF ns r):∀k∈allKeys ns,k<ns.length/\Tall' ns ns.length k:=fun k c=>by
 obtain⟨a,b⟩:=ze5 h.refs h.root h.all h.one k c;exact⟨a,zqx ns _ _ b⟩
theorem WellF.keep (h:WellF ns r):∀u,mkd (inKeys ns) u=true->∀v∈succ ns u,mkd (inKeys ns) v=true:=by
 intro u e v c;obtain⟨k,a,d⟩:=(zau h.refs u).1 e;exact(zau h.refs v).2 ⟨k,a,d.trans (.one c)⟩
theorem WellF.key (h:WellF ns r):∀k∈allKeys ns,mkd (inKeys ns) k=true:=fun k a=>(zau h.refs k).2 ⟨k,a,.refl _⟩
theorem WellF.count (h:WellF ns r):∀x,mkd (inKeys ns) x=true->(Gr.refs ns).count x<=1:=by
 intro x e;by_cases hxl:x<ns.length
 .have:=h.one x hxl e;rw[zcv hxl]at this;split at this<;>omega
 .have:¬x∈Gr.refs ns:=by
   intro d;obtain⟨n,a,c⟩:=List.mem_flatMap.1 d;exact hxl (h.refs n a x c)
  rw[List.count_eq_zero.2 this];omega
theorem zyi {ns:List Nd} (b:Nat) (hb:∀x∈ns,x.text.length+30<=b):∀k,k<=ns.length->wtS ns (List.range k)<=k*b:=by
 intro k
 induction k with
 |zero=>intro _;simp[wtS]
 |succ k ih=>
  intro hk;have h1:=ih (by omega);have h2:=hb _ (List.getElem_mem (show k<ns.length by omega));have e:wtS ns (List.range (k+1))=wtS ns (List.range k)+wtN ns k:=by unfold wtS;rw[List.range_succ];simp
  have a:wtN ns k=ns[k].text.length+30:=by unfold wtN;rw[List.getElem?_eq_getElem (by omega)];rfl
  rw[e,a,Nat.succ_mul];omega
theorem WellF.plen (h:WellF ns r) (hn:ns.length<=1000) (hb:∀x∈ns,x.text.length<=1000/\x.items.length<=1000) (f i:Nat) (hf:f<=ns.length) (hi:i<ns.length) (hk:mkd (inKeys ns) i=true):(printF ns f i).length<=2000000000:=by
 have h1:=zq6 h.refs h.ok (fun x a=>⟨by have:=hb x a;omega,by have:=hb x a;omega⟩) h.keep h.count f i hi hk;have c:=zyi 1030 (fun x a=>by have:=hb x a;omega) ns.length (Nat.le_refl _);have h3:f*wtS ns (List.range ns.length)<=1000*(1000*1030):=Nat.mul_le_mul (by omega) (Nat.le_trans c (Nat.mul_le_mul hn (Nat.le_refl _)));omega
theorem WellF.depth (h:WellF ns r):∃F:Nat->Nat,LongR (succ ns) ns.length F/\(Gr.depth ns r).1=(F r:Int)-1/\(Gr.depth ns r).2=rtree ns:=by
 obtain⟨F,a,c,d⟩:=zqw h.refs h.root h.all;refine⟨F,a,c,?_⟩;rw[Bool.eq_iff_iff,d,zq9 h.refs,zm7 h.refs h.root h.all h.one]
end
def few (is:List Ni):Bool:=
 decide (is.length<=40) && (is.all (fun n=>decide (n.text.length<=100/\n.keys.length<=80/\n.items.length<=80)) && (decide ((is.map (fun n=>n.keys.length+n.items.length)).sum<=240) && decide ((is.map (fun n=>n.text.length)).sum<=300)))
theorem zw0 {is:List Ni} (h:few is=true):is.length<=40:=by
 unfold few at h;rw[Bool.and_eq_true,decide_eq_true_eq]at h;exact h.1
theorem zw1 {is:List Ni} (h:few is=true):∀n∈is,n.text.length<=100/\n.keys.length<=80/\n.items.length<=80:=by
 unfold few at h;rw[Bool.and_eq_true,Bool.and_eq_true]at h;intro n a;exact of_decide_eq_true (List.all_eq_true.1 h.2.1 n a)
def fsum (is:List Ni) (k:Nat):Nat:=((is.take k).map (fun n=>n.keys.length+n.items.length)).sum
def fbyt (is:List Ni) (k:Nat):Nat:=((is.take k).map (fun n=>n.text.length)).sum
theorem zra {is:List Ni} {k:Nat} (h:k<is.length):fsum is (k+1)=fsum is k+(is[k].keys.length+is[k].items.length):=by
 unfold fsum;rw[List.take_succ_eq_append_getElem h,List.map_append,List.sum_append];rfl
theorem zrb {is:List Ni} {k:Nat} (h:k<is.length):fbyt is (k+1)=fbyt is k+is[k].text.length:=by
 unfold fbyt;rw[List.take_succ_eq_append_getElem h,List.map_append,List.sum_append];rfl
theorem zw2 {is:List Ni} (h:¬is.length<=40):few is=false:=by
 unfold few;rw[decide_eq_false h];rfl
theorem zw3 {is:List Ni} {k:Nat} (h:k<is.length) (hn:¬(is[k].text.length<=100/\is[k].keys.length<=80/\is[k].items.length<=80)):few is=false:=by
 unfold few;have:is.all (fun n=>decide (n.text.length<=100/\n.keys.length<=80/\n.items.length<=80))=false:=by
  grind
 rw[this];simp
theorem zw4 {is:List Ni} {k:Nat} (h:is.length<=k) (h1:is.length<=40) (h2:∀j,j<k->∀(hj:j<is.length),is[j].text.length<=100/\is[j].keys.length<=80/\is[j].items.length<=80):few is=(decide (fsum is k<=240) && decide (fbyt is k<=300)):=by
 unfold few fsum fbyt;rw[List.take_of_length_le h,decide_eq_true h1,Bool.true_and];have:is.all (fun n=>decide (n.text.length<=100/\n.keys.length<=80/\n.items.length<=80))=true:=by
  rw[List.all_eq_true];intro x a;obtain⟨j,hj,rfl⟩:=List.mem_iff_getElem.1 a;exact decide_eq_true (h2 j (by omega) hj)
 rw[this,Bool.true_and]
end Gr
open Go.RowKit Go.WideShapes Go.ChangeShapes Go.Deep
theorem zkd {α:Type} {Q:Nat->α->Prop} {n:Nat} (h:∀i,i<n->∃x,Q i x):∃l:List α,l.length=n/\∀i (hi:i<l.length),Q i l[i]:=by
 induction n with
 |zero=>exact⟨[],rfl,fun i h=>by simp at h⟩
 |succ n ih=>
  obtain⟨l,a,hl⟩:=ih (fun i hi=>h i (by omega));obtain⟨x,hx⟩:=h n (by omega);refine⟨l++[x],by simp[a],fun i hi=>?_⟩;by_cases hil:i<l.length
  .grind
  .grind
theorem row_of {α:Type} (L:Lay α) {w:World} {a:Addr} {l:List α} (h:∀i (hi:i<l.length) j u,(L.enc l[i])[j]? =some u->w.cell? (a.add (i*L.sz+j))=some u):RowAt L w w.heap.size (some a) l:=by
 have e:∀j u,(L.all l)[j]? =some u->w.cell? (a.add j)=some u:=by
  intro j u c;have o:=L.pos;have g:j<l.length*L.sz:=by have:=(List.getElem?_eq_some_iff.1 c).1;rwa[L.all_len]at this
  have m:j /L.sz<l.length:=Nat.div_lt_of_lt_mul (by rw[Nat.mul_comm];exact g);have q:j%L.sz<L.sz:=Nat.mod_lt _ o;have y:=L.len l[j /L.sz];obtain⟨f,b⟩:∃f,(L.enc l[j /L.sz])[j%L.sz]? =some f:=⟨_,List.getElem?_eq_getElem (l:=L.enc l[j /L.sz]) (i:=j%L.sz) (by rw[y];exact q)⟩
  have n:=L.all_at l (j /L.sz) l[j /L.sz] (List.getElem?_eq_getElem m) (j%L.sz) f b;have k:j /L.sz*L.sz+j%L.sz=j:=by rw[Nat.mul_comm];exact Nat.div_add_mod j L.sz
  rw[k]at n;rw[n]at c;injection c with c
  subst c;have:=h _ m _ _ b;rwa[k]at this
 refine⟨L.all_len l,fun t=>⟨a,rfl,?_,e⟩⟩;have s:0<(L.all l).length:=by rw[L.all_len];exact Nat.mul_pos t L.pos
 have:=World.block_lt_of_cell? w _ (e 0 _ (List.getElem?_eq_getElem s));rwa[zap]at this
section
variable {H:Type} {enc:TypeId×Value->H} {W:World} {r:Reach} {b0 base fuel:Nat} {sp:Nat->Bool} {hd:Bool} {v:Value} {d:DataW H} {p:List MemPlace} {cs:List Value} {x:DataW H×List MemPlace}
theorem zjb (h:DataW.trod enc prog W base sp hd fuel 38 cs=some x):
 ∃(A:Option Addr) (c:Nat) (l:List Int),cs=[.slice A l.length c]/\RowAt intI W W.heap.size A l/\l.length<=maxLen:=by
 rcases open_slice1 underlying38 (by kernel_rfl) h with⟨k,t⟩|⟨a,f,o,m,n,V,D,Pl,rfl,hb,hl,hm,s,rfl,t⟩
 .exact⟨none,0,[],k,RowAt.nil,by simp⟩
 .have hml:f<=m:=by rw[s];split<;>omega
  obtain⟨l,q,b⟩:=zkd (Q:=fun i (x:Int)=>W.cell? (a.add i)=some (.int .i64 x)) (n:=f) (fun i w=>by
   obtain⟨y,B⟩:=t i (by omega);obtain⟨n,e,_⟩:=DataW.trod_int underlying3 B;injection e with e
   exact⟨n,by rw[y,e]⟩)
  subst q;refine⟨some a,o,l,rfl,row_of intI (fun i w j u g=>?_),by omega⟩;have z:j=0:=by
   have:=(List.getElem?_eq_some_iff.1 g).1;have y:(intI.enc l[i]).length=1:=rfl;omega
  subst z;have g:some (Value.int .i64 l[i])=some u:=g;rw[<-g,<-b i w];show W.cell? (a.add (i*1+0))=_;rw[Nat.mul_one,Nat.add_zero]
theorem znw (h:DataW.trod enc prog W base sp hd fuel 25 cs=some x):
 ∃(A:Option Addr) (c:Nat) (vs:List NV) (is:List Gr.Ni),cs=[.slice A is.length c]/\IAt W W.heap.size A vs is/\is.length<=maxLen/\∀y∈is,y.text.length<=maxLen/\y.keys.length<=maxLen/\y.items.length<=maxLen:=by
 have aa:prog.cellsOf 40=5:=by kernel_rfl
 have Y:prog.cellsOf 3=1:=by kernel_rfl
 have I:prog.cellsOf 9=1:=by kernel_rfl
 have V:prog.cellsOf 4=1:=by kernel_rfl
 have E:prog.cellsOf 38=1:=by kernel_rfl
 obtain⟨J,w⟩:∃J:Array Field,prog.underlying 40=some (.struct J)/\J.map (fun f=>(f.type,f.offset))=#[(3,0),(9,1),(4,2),(38,3),(38,4)]:=⟨_,underlying40,by kernel_rfl⟩
 obtain⟨w,R⟩:=w;have q:∀(i:Nat) (t:TypeId) (o:Nat),(#[(3,0),(9,1),(4,2),(38,3),(38,4)]:Array (TypeId×Nat))[i]? =some (t,o)->∃f:Field,J[i]? =some f/\f.type=t/\f.offset=o:=by
  grind
 rcases open_slice underlying25 h with⟨O,hx⟩|⟨a,L,X,m,n,D,Pl,rfl,hb,hl,hm,Z,rfl,hx⟩
 .exact⟨none,0,[],[],O,⟨RowAt.nil,rfl,fun j h=>by simp at h,fun j h=>by simp at h⟩,by simp,by simp⟩
 .have hml:L<=m:=by rw[Z];split<;>omega
  obtain⟨l,T,e⟩:=zkd (n:=L) (Q:=fun i (x:NV×Gr.Ni)=>(∀j u,(nodeL.enc x.1)[j]? =some u->W.cell? (a.add (i*5+j))=some u)/\(x.1.kind=x.2.kind/\x.1.text=x.2.text/\x.1.ord=x.2.ord)/\
   (RowAt intI W W.heap.size x.1.k.a x.2.keys/\x.1.k.n=x.2.keys.length/\RowAt intI W W.heap.size x.1.i.a x.2.items/\x.1.i.n=x.2.items.length)/\x.2.text.length<=maxLen/\x.2.keys.length<=maxLen/\x.2.items.length<=maxLen) (fun i G=>by
   obtain⟨P,M,S⟩:=hx i (by omega);rw[aa]at M;obtain⟨_,K,C⟩:=World.cells?_some M;obtain⟨xs,n',_,_,_,hxl,F⟩:=DataW.trod_struct w S;have hsz:J.size=5:=by have:=congrArg Array.size R;simpa using this
   obtain⟨f0,g0,t0,o0⟩:=q 0 _ _ rfl;obtain⟨f1,g1,t1,o1⟩:=q 1 _ _ rfl;obtain⟨f2,g2,t2,o2⟩:=q 2 _ _ rfl;obtain⟨f3,g3,t3,o3⟩:=q 3 _ _ rfl;obtain⟨f4,g4,t4,o4⟩:=q 4 _ _ rfl;have e0:=F 0 f0 g0;have e1:=F 1 f1 g1;have e2:=F 2 f2 g2;have e3:=F 3 f3 g3;have e4:=F 4 f4 g4;rw[t0,o0,Y,List.getElem?_eq_getElem (by omega)]at e0;rw[t1,o1,I,List.getElem?_eq_getElem (by omega)]at e1;rw[t2,o2,V,List.getElem?_eq_getElem (by omega)]at e2;rw[t3,o3,E,List.getElem?_eq_getElem (by omega)]at e3;rw[t4,o4,E,List.getElem?_eq_getElem (by omega)]at e4;obtain⟨k,k1,_⟩:=DataW.trod_int underlying3 e0;obtain⟨s,s1,_,s3⟩:=DataW.trod_string underlying9 e1;obtain⟨b,b1,_⟩:=DataW.trod_bool underlying4 e2;obtain⟨A3,c3,l3,r3,q3,z3⟩:=zjb e3;obtain⟨A4,c4,l4,r4,q4,z4⟩:=zjb e4
   match P,K with
   | [v0,v1,v2,v3,v4],_=>
    simp at k1 s1 b1 r3 r4;subst k1 s1 b1 r3 r4;have hs:s=⟨(s.data.toList).toArray⟩:=by apply ByteArray.ext;simp
    have U:s.data.toList.length<=maxLen:=by simpa using s3
    refine⟨(⟨k,s.data.toList,b,⟨A3,l3.length,c3⟩,⟨A4,l4.length,c4⟩⟩,⟨k,s.data.toList,b,l3,l4⟩),?_,⟨rfl,rfl,rfl⟩,⟨q3,rfl,q4,rfl⟩,U,z3,z4⟩;intro j u g;have hat':=fun j hj=>C j hj
    have hj:j<5:=by
     have:=(List.getElem?_eq_some_iff.1 g).1;exact this
    have B:=C j (by omega);rw[zdo]at B;have N:j=0\/j=1\/j=2\/j=3\/j=4:=by omega
    rcases N with rfl|rfl|rfl|rfl|rfl
    .exact B.trans g
    .have g:some (Value.string ⟨(s.data.toList).toArray⟩)=some u:=g;rw[<-hs]at g;exact B.trans g
    .exact B.trans g
    .exact B.trans g
    .exact B.trans g)
  subst T;refine⟨some a,X,l.map (·.1),l.map (·.2),by simp,⟨row_of nodeL (fun i G j u g=>?_),by simp,fun j M S=>?_,fun j M S=>?_⟩,by simp;omega,fun y hy=>?_⟩
  .simp only[List.length_map]at G;rw[List.getElem_map]at g;exact(e i G).1 j u g
  .grind
  .grind
  .obtain⟨z,hz,rfl⟩:=List.mem_map.1 hy;obtain⟨i,G,rfl⟩:=List.mem_iff_getElem.1 hz;exact(e i G).2.2.2
theorem znx (h:DataW.trod enc prog W base sp hd fuel 27 cs=some x):
 ∃(A:Option Addr) (c:Nat) (root:Int) (vs:List NV) (is:List Gr.Ni),cs=[.slice A is.length c,.int .i64 root]/\IAt W W.heap.size A vs is/\is.length<=maxLen/\∀y∈is,y.text.length<=maxLen/\y.keys.length<=maxLen/\y.items.length<=maxLen:=by
 have m:prog.cellsOf 3=1:=by kernel_rfl
 have l:prog.cellsOf 25=1:=by kernel_rfl
 have j:prog.cellsOf 27=2:=by kernel_rfl
 obtain⟨e,b⟩:∃e:Array Field,prog.underlying 27=some (.struct e)/\e.map (fun f=>(f.type,f.offset))=#[(25,0),(3,1)]:=⟨_,underlying27,by kernel_rfl⟩
 obtain⟨b,n⟩:=b;have g:∀(i:Nat) (t:TypeId) (o:Nat),(#[(25,0),(3,1)]:Array (TypeId×Nat))[i]? =some (t,o)->∃f:Field,e[i]? =some f/\f.type=t/\f.offset=o:=by
  grind
 obtain⟨xs,n',_,_,a,hxl,q⟩:=DataW.trod_struct b h;have hsz:e.size=2:=by have:=congrArg Array.size n;simpa using this
 obtain⟨E,D,B,w⟩:=g 0 _ _ rfl;obtain⟨G,C,F,z⟩:=g 1 _ _ rfl;have u:=q 0 E D;have s:=q 1 G C;rw[B,w,l,List.getElem?_eq_getElem (by omega)]at u;rw[F,z,m,List.getElem?_eq_getElem (by omega)]at s;rw[j]at a;obtain⟨A,c,vs,is,r0,q0,z0,z1⟩:=znw u;obtain⟨k,k1,_⟩:=DataW.trod_int underlying3 s
 match cs,a with
 | [v0,v1],_=>
  grind
end
end Go.Proofs.YtpjmhafmeieloabGreatDoor
