import Derived.Test.YtpjmhafmeieloaaGreatDoorGrTag
import Derived.Test.YtpjmhafmeieloaaGreatDoorZ22
import Derived.Test.YtpjmhafmeieloaaGreatDoorGrRShift
namespace Go.Proofs.YtpjmhafmeieloaaGreatDoor
open Gr
open _root_.Go.Proofs.Tryz
open _root_.Go.Lib (hid)
set_option maxRecDepth 100000
set_option maxHeartbeats 16000000
open Go.RowKit
theorem zug {kind:Int} {text:Gr.Str} {is:List Gr.Ni} {r:Nat} {dp:Int} (h0:0<=kind/\kind<=11/\kind≠10) (ht:text.length<=1000) (hz:formB sclX ⟨kind,text,false,[],[r+1]⟩=true) (hl:is.length<=100) (hks:∀x∈is,x.text.length<=1000/\x.keys.length<=1000/\x.items.length<=1000) (hc:checkI sclX is (r:Int)=0) (hd:(depth (is.map Gr.Ni.nd) r).1=dp)
 (A2:Option Addr) (c2:Nat) (vs2:List NV) (W:World) (hG:GAt W W.heap.size A2 vs2 (Gr.over kind text (is.map Gr.Ni.nd) r)):RCkOk W (.agg #[.slice A2 (is.length+1) c2,.int .i64 0]) (if dp=32 then 5 else 0):=by
 obtain⟨e,hr',c,_⟩:=Gr.zcc za5 hc;obtain rfl:r=e:=by omega
 have a:(Gr.over kind text (is.map Gr.Ni.nd) r).length=is.length+1:=by rw[Gr.zau,List.length_map]
 have b:=WellF.over (kind:=kind) (text:=text) c h0;have d:=zkj kind text is r ht hks;have:=zzc b.refs b.root (by omega) d A2 c2 vs2 W hG;rw[a,(zkk h0 ht hz hl hks hc hd).1]at this;exact this
theorem Rows.nums {B:Nat} {w:World} {vs:List NV} {ns:List Gr.Nd} (h:Rows B w vs ns) (j:Nat) (h1:j<vs.length) (h2:j<ns.length):RowAt intL w w.heap.size vs[j].k.a ns[j].keys/\vs[j].k.n=ns[j].keys.length/\RowAt intL w w.heap.size vs[j].i.a ns[j].items/\vs[j].i.n=ns[j].items.length:=by
 have c:=h.own j false;have b:=h.own j true;unfold ints intsOf at c b;rw[List.getElem?_eq_getElem h1,List.getElem?_eq_getElem h2]at c b;exact⟨(SV.row c).1,(SV.row c).2,(SV.row b).1,(SV.row b).2⟩
def tagV (kind:Int) (s:Gr.Str) (h:Nat):NV:=⟨kind,s,false,SV.nil,⟨some ⟨h,0,none⟩,1,1⟩⟩
structure TagM (w4 W:World) (B h g:Nat) (kind:Int) (s:Gr.Str) (k:Nat) (A1:Option Addr) (c1:Nat) (vs1:List NV) (ms:List Gr.Nd):Prop where
 b18:Blk W h 3 #[.int .i64 (k:Int)]
 b20:Blk W g 36 #[.int .i64 kind,.string ⟨s.toArray⟩,.bool false,.slice none 0 0,.slice (some ⟨h,0,none⟩) 1 1]
 tab:Tab B W (.slice A1 vs1.length c1) vs1 ms
 hb:Below w4.heap.size w4 W
 hg:w4.heap.size<=g
section
variable {w4 W w2:World} {B h g k c1:Nat} {kind:Int} {s:Gr.Str} {A1:Option Addr} {vs1:List NV} {ms:List Gr.Nd}
theorem TagM.own (H:TagM w4 W B h g kind s k A1 c1 vs1 ms):OwnRow nodeL W w4.heap.size 36 (.slice (some ⟨g,0,none⟩) 1 1) [tagV kind s h]:=
 ⟨nodeL.all_len _,.inr ⟨g,1,_,rfl,H.hg,H.b20,Nat.le_refl _,by decide,rfl,rfl⟩⟩
theorem TagM.arg (H:TagM w4 W B h g kind s k A1 c1 vs1 ms):RowAt nodeL W W.heap.size A1 vs1:=by
 obtain⟨A,c,a,b⟩:=H.tab.row.form;injection a with e1 e2 e3
 rw[e1];exact b
theorem TagM.out (H:TagM w4 W B h g kind s k A1 c1 vs1 ms) {v2:Value} (hown2:OwnRow nodeL w2 w4.heap.size 36 v2 ([tagV kind s h]++vs1)) (hg2:W.grownBy w2 (Value.slice (some ⟨g,0,none⟩) 1 1).ownBlock):
 ∃A2 c2,v2=.slice A2 (ms.length+1) c2/\Below w4.heap.size w4 w2/\∀W',KeptT 36 w2 W'->KeptT 3 w2 W'->GAt W' W'.heap.size A2 (tagV kind s h::vs1) (⟨kind,s,false,[],[k]⟩::ms):=by
 have e:KeptT 3 W w2:=KeptT.grown hg2 H.own (by decide);have f:=H.tab.rows.len;obtain⟨A2,c2,i,_⟩:=hown2.form;refine⟨A2,c2,by rw[i];simp[f],H.hb.trans (H.own.grown_below hg2 H.hb.size),fun W' p d=>?_⟩;obtain⟨m,c3,a,q⟩:=(hown2.kept p).form;obtain rfl:A2=m:=by rw[i]at a;injection a
 refine⟨q,by simp[f],fun j b c=>?_,fun j b c=>?_⟩
 .cases j with
  |zero=>exact⟨rfl,rfl,rfl⟩
  |succ j=>exact H.tab.rows.kind j (Nat.lt_of_succ_lt_succ b) (Nat.lt_of_succ_lt_succ c)
 .cases j with
  |zero=>
   have o:OwnRow intL W' 0 3 (.slice (some ⟨h,0,none⟩) 1 1) [k]:=zb6 (n:=1) (l:=[k]) (d _ _ (e _ _ H.b18)) (Nat.zero_le _) rfl (by decide);exact⟨(SV.row (x:=SV.nil) (B:=0) OwnRow.nil).1,rfl,(SV.row (x:=⟨some ⟨h,0,none⟩,1,1⟩) o).1,rfl⟩
  |succ j=>exact((H.tab.rows.kept e).kept d).nums j (Nat.lt_of_succ_lt_succ b) (Nat.lt_of_succ_lt_succ c)
abbrev tagC (kind:Int) (s:Gr.Str) (h:Nat):Array Value:=#[.int .i64 kind,.string ⟨s.toArray⟩,.bool false,.slice none 0 0,.slice (some ⟨h,0,none⟩) 1 1]
abbrev tagO (kind:Int) (s:Gr.Str) (h:Nat):Obj:=.cells (tagC kind s h) 36
abbrev tagI (k:Nat):Obj:=.cells #[.int .i64 (k:Int)] 3
theorem tagM1 (hb:Below w4.heap.size w4 W) (hd:Below ((w4.alloc (tagI k)).alloc (tagO kind s w4.heap.size)).drew.heap.size ((w4.alloc (tagI k)).alloc (tagO kind s w4.heap.size)).drew W) (ht:Tab B W (.slice A1 vs1.length c1) vs1 ms):TagM w4 W B w4.heap.size (w4.heap.size+1) kind s k A1 c1 vs1 ms:=by
 have b:Blk ((w4.alloc (tagI k)).alloc (tagO kind s w4.heap.size)).drew w4.heap.size 3 #[.int .i64 (k:Int)]:=(Blk.new w4 _ _).alloc _;have a:Blk ((w4.alloc (tagI k)).alloc (tagO kind s w4.heap.size)).drew (w4.heap.size+1) 36 (tagC kind s w4.heap.size):=by have:=Blk.new (w4.alloc (tagI k)) 36 (tagC kind s w4.heap.size);rwa[World.size_alloc]at this
 exact⟨b.below hd b.lt,a.below hd a.lt,ht,hb,by omega⟩
theorem tagM2 (hb:Below w4.heap.size w4 W) (hd:Below (w4.alloc (tagI k)).drew.heap.size (w4.alloc (tagI k)).drew W) (ht:Tab B W (.slice A1 vs1.length c1) vs1 ms):TagM w4 (W.alloc (tagO kind s w4.heap.size)) B w4.heap.size W.heap.size kind s k A1 c1 vs1 ms:=by
 have a:Blk (w4.alloc (tagI k)).drew w4.heap.size 3 #[.int .i64 (k:Int)]:=Blk.new w4 _ _;exact⟨(a.below hd a.lt).alloc _,Blk.new _ _ _,ht.later ((Below.refl _ _).alloc (Nat.le_refl _) _),hb.alloc hb.size _,hb.size⟩
theorem tagM3 (hb:Below w4.heap.size w4 W) (ht:Tab B W (.slice A1 vs1.length c1) vs1 ms):TagM w4 ((W.alloc (tagI k)).alloc (tagO kind s W.heap.size)) B W.heap.size (W.heap.size+1) kind s k A1 c1 vs1 ms:=by
 have c:Blk (W.alloc (tagI k)) W.heap.size 3 #[.int .i64 (k:Int)]:=Blk.new W _ _;have b:Blk ((W.alloc (tagI k)).alloc (tagO kind s W.heap.size)) (W.heap.size+1) 36 (tagC kind s W.heap.size):=by have:=Blk.new (W.alloc (tagI k)) 36 (tagC kind s W.heap.size);rwa[World.size_alloc]at this
 have a:Below W.heap.size W ((W.alloc (tagI k)).alloc (tagO kind s W.heap.size)):=((Below.refl _ _).alloc (Nat.le_refl _) _).alloc (by simp) _;exact⟨c.alloc _,b,ht.later a,hb.trans (a.mono hb.size),by have:=hb.size;omega⟩
end
theorem zuh (s:Gr.Str) (hs:s.length<=100) (A:Option Addr) (c:Nat) (root:Int) (vs:List NV) (is:List Gr.Ni) (hl:is.length<=100) (hks:∀x∈is,x.text.length<=1000/\x.keys.length<=1000/\x.items.length<=1000) (w:World) (h:IAt w w.heap.size A vs is):
 Calls prog 7 #[.string ⟨s.toArray⟩,.agg #[.slice A is.length c,.int .i64 root]] w (zkl s is root w):=by
 obtain⟨w1,C⟩:=ex (w.alloc (.cells #[.slice A is.length c,.int .i64 root] 24))
 obtain⟨w2,q⟩:=ex (w1.alloc (.cells #[.slice none 0 0,.int .i64 0] 24))
 have l1:Below w.heap.size w w1:=by rw[<-C];exact(Below.refl _ _).alloc (Nat.le_refl _) _
 have s1:w1.heap.size=w.heap.size+1:=by rw[<-C];simp
 have b1:Blk w1 w.heap.size 24 #[.slice A is.length c,.int .i64 root]:=by rw[<-C];exact Blk.new _ _ _
 have l2:Below w.heap.size w w2:=by rw[<-q];exact l1.alloc l1.size _
 have bg:Blk w2 w.heap.size 24 #[.slice A is.length c,.int .i64 root]:=by rw[<-q];exact b1.alloc _
 have br:Blk w2 (w.heap.size+1) 24 #[.slice none 0 0,.int .i64 0]:=by rw[<-q,<-s1];exact Blk.new _ _ _
 have s2:w2.heap.size=w.heap.size+2:=by rw[<-q];simp[s1]
 have ab:=hid l2;have R:=hid bg;have S:=hid br;have u:=hid s2;have HI:Hid (∀W,Below w.heap.size w W->IAt W W.heap.size A vs is):=hid (fun W m=>(h.below m).more m.size);have P:=hid (zi9 s (by omega) w2);have T:=hid (zzb A c root vs is (by omega) (fun y hy=>by have:=hks y hy;omega) w2 ((h.below l2).more l2.size));have HZ:=hid (fun hc:checkI sclX is root=0=>Gr.zcc za5 hc);have ad:=hid hks;obtain⟨g0,g1⟩:=cells2 bg;obtain⟨d0,d1⟩:=cells2 br;have df:∀i,w2.frozen? ⟨w.heap.size+1,i,none⟩=false:=br.frozen;obtain⟨nb,Z⟩:=ex (nameB s)
 have D:=hid Z;rw[Z]at P;obtain⟨ck,O⟩:=ex (checkI sclX is root)
 have Y:=hid O;rw[O]at T HZ;clear h l1 b1 l2 bg br Z O hks;go_enter func7,ntmps7;go_upto_region 1 with fail;(try rw[C]);(try rw[q]);(try rw[s1]);clear C q s1 s2;go_wp2_with fail;refine P.out.mono ?_;rintro e w3 ⟨rfl,rfl⟩;cases nb with
 |false=>
  go_wp2_with fail;refine bodyPost_ret (v:=.tuple #[gZero,.int .i64 1]) (by rw[results_cell_tmp rfl];go_simp;rfl) rfl ⟨?_,fun _=>rfl,fun h=>?_,fun h=>?_⟩
  .exact(ab.out.setCell (by simp) _).setCell (by simp) _
  .rw[D.out]at h;cases h
  .rw[D.out]at h;cases h
 |true=>
  go_wp2_with fail;refine(T.out _ (Below.refl _ _)).mono ?_;rintro e w4 ⟨rfl,z⟩;have J:=ab.out.trans (z.mono (by have:=u.out;omega));have I:=hid J;have G:=S.out.below z S.out.lt;have o:=hid G;have aa:=R.out.below z R.out.lt;have HS4:Hid (w.heap.size+2<=w4.heap.size):=hid (by have:=u.out;have:=z.size;omega);clear d0 d1 df g0 g1;obtain⟨g0,g1⟩:=cells2 aa;obtain⟨d0,d1⟩:=cells2 G;have df:∀i,w4.frozen? ⟨w.heap.size+1,i,none⟩=false:=G.frozen;have L:=hid aa;clear z J G aa S R ab u;by_cases h0:ck=0
  rotate_left
  .have h0I:((ck:Int)==0)=false:=by rw[beq_eq_false_iff_ne];omega
   go_wp2_with fail;refine bodyPost_ret (v:=.tuple #[gZero,.int .i64 3]) (by rw[results_cell_tmp rfl];go_simp;rfl) rfl ⟨?_,fun h=>?_,fun _ _=>rfl,fun _ h=>?_⟩
   .exact(I.out.setCell (by simp) _).setCell (by simp) _
   .rw[D.out]at h;cases h
   .rw[Y.out]at h;exact absurd h h0
  .subst h0;obtain⟨r,rfl,X,M,au,av,ao⟩:=HZ.out rfl;obtain⟨dp,V⟩:=ex ((depth (is.map Gr.Ni.nd) r).1)
   have am:=hid V;have ak:=HI.out w4 I.out;have K:=ak.toG (za8 M).1;have ai:=hid K;have hr9:r<1000000:=by have:=X.root;rw[List.length_map]at this;omega
   obtain⟨k,hk⟩:=ex (r+1)
   have hrI:(r:Int)+1=(k:Int):=by omega
   have hwk:IntKind.i64.wrap (k:Int)=(k:Int):=IntWalk.i64_in _ (by omega);obtain⟨ms,F⟩:=ex ((is.map Gr.Ni.nd).map (shN 1))
   have H:Hid (ms.length=is.length):=hid (by rw[<-F];simp);have aj:Hid (Gr.over 11 s (is.map Gr.Ni.nd) r=⟨11,s,false,[],[k]⟩::ms):=hid (by unfold Gr.over;rw[F,hk]);obtain⟨cz,l⟩:=ex (if dp=32 then 5 else 0:Nat)
   have al:=hid l;have aq:Hid (∀(A2:Option Addr) (c2:Nat) (vs2:List NV) (W:World),Below w4.heap.size w4 W->GAt W W.heap.size A2 vs2 (⟨11,s,false,[],[k]⟩::ms)->Calls prog 19 #[.agg #[.slice A2 (is.length+1) c2,.int .i64 0]] W fun e E=>Below w4.heap.size w4 E/\Below W.heap.size W E/\∃A4 n4 c4,e=.returned (.tuple #[.agg #[.slice A4 n4 c4,.int .i64 0],.int .i64 (cz:Nat)])/\Hid ((cz=0->A4=A2/\n4=is.length+1/\c4=c2)/\(cz≠0->A4=none/\n4=0/\c4=0))):=hid (fun A2 c2 vs2 W m hG=>by
    rw[<-aj.out]at hG;have:=zug (kind:=11) (text:=s) (r:=r) (by decide) (by omega) (by simp[formB,D.out]) hl ad.out Y.out V A2 c2 vs2 W hG;rw[l]at this;refine(zuf _ _ _ _ W this).mono ?_;rintro e E ⟨hb,h⟩;exact⟨m.trans (hb.mono m.size),hb,h⟩)
   have HS:Hid (∀W,Below w4.heap.size w4 W->W.cell? ⟨w.heap.size,0,none⟩=some (.slice A is.length c)/\W.cell? ⟨w.heap.size,1,none⟩=some (.int .i64 r)/\W.cell? ⟨w.heap.size+1,0,none⟩=some (.slice none 0 0)/\W.cell? ⟨w.heap.size+1,1,none⟩=some (.int .i64 0)/\W.frozen? ⟨w.heap.size+1,0,none⟩=false/\W.frozen? ⟨w.heap.size+1,1,none⟩=false):=hid (fun W m=>by
    have h1:=L.out.below m L.out.lt;have h2:=o.out.below m o.out.lt;exact⟨h1.cell 0,h1.cell 1,h2.cell 0,h2.cell 1,h2.frozen _,h2.frozen _⟩)
   have ar:Hid (∀W,Below w4.heap.size w4 W->Calls prog 20 #[.slice A is.length c,.int .i64 1] W fun e E=>Below w4.heap.size w4 E/\Below W.heap.size W E/\∃A1 c1 vs',e=.returned (.slice A1 vs'.length c1)/\Hid (vs'.length=is.length)/\Tab W.heap.size E (.slice A1 vs'.length c1) vs' ms):=hid (fun W m=>by
    have ap:(is.map Gr.Ni.nd).length=is.length:=by simp
    have:=zny A c 1 vs (is.map Gr.Ni.nd) (by omega) (fun n hn=>by
     obtain⟨x,hx,rfl⟩:=List.mem_map.1 hn;have:=ad.out x hx;simp only[Gr.Ni.nd,List.length_map];omega) (fun n hn x hx=>by have:=X.refs n hn x hx;omega) (by omega) W ((ai.out.below m).more m.size)
    rw[ap,F]at this;refine this.mono ?_;rintro e E ⟨v',vs',rfl,N,hb⟩;obtain⟨A1,c1,rfl,_⟩:=N.at_;rw[<-N.rows.len]at N ⊢;exact⟨m.trans (hb.mono m.size),hb,A1,c1,vs',rfl,hid (by rw[N.rows.len];exact H.out),N⟩)
   clear hk F l X M au av ao V ak K T HZ P;have u:Hid (∀W,Below w4.heap.size w4 W->W.cell? ⟨w.heap.size,0,none⟩=some (.slice A is.length c)/\W.cell? ⟨w.heap.size,1,none⟩=some (.int .i64 r)):=hid (fun W m=>⟨(HS.out W m).1,(HS.out W m).2.1⟩);obtain⟨p0,p1⟩:=u.out w4 (Below.refl _ _);clear g0 g1 d0 d1 df;go_upto_region 5 with fail;go_region_held3 (fun E=>E.cell? ⟨w.heap.size,0,none⟩=some (.slice A is.length c)/\E.cell? ⟨w.heap.size,1,none⟩=some (.int .i64 r))
    (first|exact u.out _ (by(first|assumption|exact Below.refl _ _|exact(Below.refl _ _).drew|exact((Below.refl _ _).alloc (Nat.le_refl _) _).drew|exact(((Below.refl _ _).alloc (Nat.le_refl _) _).alloc (by simp) _).drew|exact Below.drew (by assumption)|exact Below.alloc (by assumption) (Below.size (by assumption)) _|exact Below.alloc (Below.alloc (by assumption) (Below.size (by assumption)) _) (by have:=hb1.size;simp;omega) _))|go_keep) (first
    | (go_at_call 20;(with_reducible refine(ar.out _ ?_).mono ?_);(first|assumption|exact Below.refl _ _|exact(Below.refl _ _).drew|exact((Below.refl _ _).alloc (Nat.le_refl _) _).drew|exact(((Below.refl _ _).alloc (Nat.le_refl _) _).alloc (by simp) _).drew|exact Below.drew (by assumption)|exact Below.alloc (by assumption) (Below.size (by assumption)) _|exact Below.alloc (Below.alloc (by assumption) (Below.size (by assumption)) _) (by have:=hb1.size;simp;omega) _);rintro e1 U ⟨hb1,j,A1,c1,vs1,rfl,Q,b⟩)
    | (go_at_call 19;(with_reducible refine(aq.out _ _ _ _ hb2 (hgt _ (KeptT.refl _ _) (KeptT.refl _ _))).mono ?_);rintro e2 af ⟨ac,an,A4,n4,c4,rfl,ag⟩;obtain⟨_,_,q2,q3,q4,q5⟩:=HS.out af ac)
    | (refine zai _ rfl (.tmp 20) (.tmp 23) 22 36 80 rfl nodeT w4.heap.size (.slice (some ⟨w4.heap.size+1,0,none⟩) 1 1) [tagV 11 s w4.heap.size] rfl (tagM1 hb1 j b).own _ _ c1 vs1 rfl (tagM1 hb1 j b).arg (by have:=Q.out;simp;omega) (tagM1 hb1 j b).hb.size ?_;intro v2 w2 a f _;obtain⟨A2,c2,d,hb2,hgt⟩:=(tagM1 hb1 j b).out a f;rw[H.out]at d;subst d;clear a f)
    | (refine zai _ rfl (.tmp 20) (.tmp 23) 22 36 80 rfl nodeT w4.heap.size (.slice (some ⟨U.heap.size,0,none⟩) 1 1) [tagV 11 s w4.heap.size] rfl (tagM2 hb1 j b).own _ _ c1 vs1 rfl (tagM2 hb1 j b).arg (by have:=Q.out;simp;omega) (tagM2 hb1 j b).hb.size ?_;intro v2 w2 a f _;obtain⟨A2,c2,d,hb2,hgt⟩:=(tagM2 hb1 j b).out a f;rw[H.out]at d;subst d;clear a f)
    | (refine zai _ rfl (.tmp 20) (.tmp 23) 22 36 80 rfl nodeT w4.heap.size (.slice (some ⟨U.heap.size+1,0,none⟩) 1 1) [tagV 11 s U.heap.size] rfl (tagM3 (k:=k) hb1 b).own _ _ c1 vs1 rfl (tagM3 (k:=k) hb1 b).arg (by have:=Q.out;simp;omega) (tagM3 (k:=k) hb1 b).hb.size ?_;intro v2 w2 a f _;obtain⟨A2,c2,d,hb2,hgt⟩:=(tagM3 (k:=k) hb1 b).out a f;rw[H.out]at d;subst d;clear a f))
   all_goals
    go_wp2_with fail;have ah:=o.out.below ac o.out.lt;refine bodyPost_ret (v:=.tuple #[.agg #[.slice A4 n4 c4,.int .i64 0],.int .i64 cz]) (by rw[results_cell_tmp rfl];go_simp) rfl ⟨((I.out.trans (ac.mono I.out.size)).setCell (by simp) _).setCell (by simp) _,fun h=>?_,fun _ h=>absurd Y.out h,fun _ _=>?_⟩
    .rw[D.out]at h;cases h
    have l:=al.out;rw[Int.toNat_natCast,am.out];by_cases h0:dp=32
    .rw[if_pos h0]at l;subst l;obtain⟨rfl,rfl,rfl⟩:=ag.out.2 (by decide);exact⟨fun _=>rfl,fun h=>absurd h0 h⟩
    .rw[if_neg h0]at l;subst l;obtain⟨rfl,rfl,rfl⟩:=ag.out.1 rfl;have ae:∀t,t≠24->KeptT t w2 ((af.setCell ⟨w.heap.size+1,0,none⟩ (.slice A4 (is.length+1) c4)).setCell ⟨w.heap.size+1,1,none⟩ (.int .i64 0)):=fun t N=>(KeptT.later an).trans ((KeptT.setCell (p:=⟨w.heap.size+1,0,none⟩) ah N _).trans (KeptT.setCell (p:=⟨w.heap.size+1,1,none⟩) (ah.set_ 0 _) N _))
     have hG:=hgt _ (ae _ (by decide)) (ae _ (by decide));rw[<-aj.out]at hG;exact⟨fun h=>absurd h h0,fun _=>⟨A4,c4,_,rfl,hG⟩⟩
noncomputable def tagL (s:Gr.Str) (is:List Gr.Ni) (root:Int):List Gr.Ni×Int:=
 if nameB s=false then([],1)else if checkI sclX is root≠0 then([],3)else if(depth (is.map Gr.Ni.nd) root.toNat).1=32 then([],5)else((Gr.over 11 s (is.map Gr.Ni.nd) root.toNat).map Gr.Nd.ni,0)
theorem zr2 {s:Gr.Str} {is:List Gr.Ni} {root:Int} {w w':World} {e:Ending} (h:zkl s is root w e w'):
 Below w.heap.size w w'/\∃A2 c2 vs2,e=.returned (.tuple #[.agg #[.slice A2 (tagL s is root).1.length c2,.int .i64 0],.int .i64 (tagL s is root).2])/\IAt w' w'.heap.size A2 vs2 (tagL s is root).1:=by
 obtain⟨d,b,g,a⟩:=h;refine⟨d,?_⟩;unfold tagL;by_cases hn:nameB s=false
 .rw[if_pos hn];exact⟨none,0,[],b hn,inil _⟩
 .rw[if_neg hn];rw[Bool.not_eq_false]at hn;by_cases hc:checkI sclX is root=0
  .rw[if_neg (fun h=>h hc)];by_cases hd:(depth (is.map Gr.Ni.nd) root.toNat).1=32
   .rw[if_pos hd];exact⟨none,0,[],(a hn hc).1 hd,inil _⟩
   .rw[if_neg hd];obtain⟨A2,c2,vs2,c,f⟩:=(a hn hc).2 hd;exact⟨A2,c2,vs2,by rw[c];simp[Gr.zau],f.toI⟩
  .rw[if_pos hc];exact⟨none,0,[],g hn hc,inil _⟩
theorem zxh {s:Gr.Str} {is:List Gr.Ni} {root:Int} (hs:s.length<=100) (hl:is.length<=100) (hks:∀x∈is,x.text.length<=1000/\x.keys.length<=1000/\x.items.length<=1000):
 Sz (tagL s is root).1/\((tagL s is root).2=0->∀A2 c2 vs2 W,UT W->IAt W W.heap.size A2 vs2 (tagL s is root).1->ChkOk W (.agg #[.slice A2 (tagL s is root).1.length c2,.int .i64 0]) 0):=by
 have c:=zys;unfold tagL;by_cases hn:nameB s=false
 .rw[if_pos hn];exact⟨c,fun h=>absurd h (by decide)⟩
 .rw[if_neg hn];rw[Bool.not_eq_false]at hn;by_cases hc:checkI sclX is root=0
  .rw[if_neg (fun h=>h hc)];by_cases hd:(depth (is.map Gr.Ni.nd) root.toNat).1=32
   .rw[if_pos hd];exact⟨c,fun h=>absurd h (by decide)⟩
   .rw[if_neg hd];obtain⟨r,rfl,_⟩:=Gr.zcc za5 hc;rw[Int.toNat_natCast]at hd ⊢;have e:=zkj 11 s is r (by omega) hks;have b:(Gr.over 11 s (is.map Gr.Ni.nd) r).length=is.length+1:=by rw[Gr.zau,List.length_map]
    have a:=(zkk (kind:=11) (text:=s) (r:=r) (by decide) (by omega) (by simp[formB,hn]) hl hks hc rfl).2.1;rw[if_neg hd]at a;refine⟨zza (by omega) e,fun _ A2 c2 vs2 W d f=>?_⟩;rw[List.length_map,b];exact a A2 c2 vs2 W d (zyr f)
  .rw[if_pos hc];exact⟨c,fun h=>absurd h (by decide)⟩
theorem zr3 (s:Gr.Str) (A:Option Addr) (c:Nat) (root:Int) (vs:List NV) (is:List Gr.Ni) (hsl:s.length<=9223372036854775807) (hz:Sz is) (w:World) (hUT:UT w) (h:IAt w w.heap.size A vs is):
 Calls prog 3 #[.string ⟨s.toArray⟩,.agg #[.slice A is.length c,.int .i64 root]] w fun e w'=>e=.returned (.bool true)/\Below w.heap.size w w':=by
 obtain⟨w1,l⟩:=ex (w.alloc (.cells #[.slice A is.length c,.int .i64 root] 24))
 have b1:Blk w1 w.heap.size 24 #[.slice A is.length c,.int .i64 root]:=by rw[<-l];exact Blk.new _ _ _
 have l1:Below w.heap.size w w1:=by rw[<-l];exact(Below.refl _ _).alloc (Nat.le_refl _) _
 have L1:=hid l1;have af:=hid b1;have HT:Hid (∀W,Below w.heap.size w W->UT W):=hid (fun W g=>UT.stays _ _ hUT g);have HI:Hid (∀W,Below w.heap.size w W->IAt W W.heap.size A vs is):=hid (fun W g=>(h.below g).more g.size);have H:Hid (∀W,Below w.heap.size w W->Calls prog 5 #[] W fun e w'=>e=.returned (.bool true)/\Below W.heap.size W w'):=hid (fun W g=>zrz W (UT.stays _ _ hUT g));have HF:=hid (zv3 A c root vs is hz w1 ((h.below l1).more l1.size));obtain⟨K,M⟩:=cells2 b1;have B:=hid (fun hf:Gr.few is=true=>zvt hf);have u:=hid (fun hf:Gr.few is=true=>zvu hf);obtain⟨ac,r⟩:=ex (Gr.few is)
 rw[r]at HF B u;clear r h hz hUT b1 l1;go_enter func3,ntmps3;go_upto_region 1 with fail;(try rw[l]);clear l;go_wp2_with fail;refine HF.out.mono ?_;rintro e w2 ⟨rfl,v⟩;have m:Hid (Below w.heap.size w w2):=hid (L1.out.trans (v.mono L1.out.size));have E:Hid (Blk w2 w.heap.size 24 #[.slice A is.length c,.int .i64 root]):=hid (af.out.below v af.out.lt);clear v K M HF;by_cases hq:ac=true/\s.length<=100
 rotate_left
 .cases ac with
  |false=>
   go_wp2_with fail;refine(H.out w2 m.out).mono ?_;rintro e q ⟨rfl,a⟩;have P:Hid (Below w.heap.size w q):=hid (m.out.trans (a.mono m.out.size));clear a;go_wp2;go_ret;exact⟨rfl,P.out⟩
  |true=>
   have hgt:(100:Int)<(s.length:Int):=by have:¬s.length<=100:=fun h=>hq ⟨rfl,h⟩;omega
   go_wp2_with fail;refine(H.out w2 m.out).mono ?_;rintro e q ⟨rfl,a⟩;have P:Hid (Below w.heap.size w q):=hid (m.out.trans (a.mono m.out.size));clear a;go_wp2;go_ret;exact⟨rfl,P.out⟩
 .obtain⟨rfl,G⟩:=hq;have hl40:=B.out rfl;have t:=hid (u.out rfl);obtain⟨L,hL⟩:=ex ((tagL s is root).1)
  obtain⟨no,p⟩:=ex ((tagL s is root).2)
  have D:=zxh (root:=root) (is:=is) G (by omega) (fun x hx=>by have:=t.out x hx;omega);rw[hL,p]at D;have V:=hid D;have HP:Hid (∀W,Below w.heap.size w W->Calls prog 6 #[.string ⟨s.toArray⟩,.agg #[.slice A is.length c,.int .i64 root]] W fun e w'=>Below W.heap.size W w'/\∃A2 c2 vs2,e=.returned (.tuple #[.agg #[.slice A2 L.length c2,.int .i64 0],.int .i64 no])/\IAt w' w'.heap.size A2 vs2 L):=hid (fun W g=>by
   have:=zud s G A c root vs is (by omega) (fun x hx=>by have:=t.out x hx;omega) W (HT.out W g) (HI.out W g);exact this.mono (fun e w' hp=>by have:=zr2 hp;rwa[hL,p]at this))
  have HR:Hid (∀W,Below w.heap.size w W->Calls prog 7 #[.string ⟨s.toArray⟩,.agg #[.slice A is.length c,.int .i64 root]] W fun e w'=>Below W.heap.size W w'/\∃A2 c2 vs2,e=.returned (.tuple #[.agg #[.slice A2 L.length c2,.int .i64 0],.int .i64 no])/\IAt w' w'.heap.size A2 vs2 L):=hid (fun W g=>by
   have:=zuh s G A c root vs is (by omega) (fun x hx=>by have:=t.out x hx;omega) W (HI.out W g);exact this.mono (fun e w' hp=>by have:=zr2 hp;rwa[hL,p]at this))
  clear hL p D B u;obtain⟨N,hN⟩:=ex L.length
  obtain⟨K,M⟩:=cells2 E.out;have hle:¬(100:Int)<(s.length:Int):=by omega
  have I:=hid (HP.out w2 m.out);go_wp2_with fail;refine I.out.mono ?_;rintro e q ⟨a,A2,c2,vs2,rfl,aa⟩;rw[hN]at HP HR I;have P:Hid (Below w.heap.size w q):=hid (m.out.trans (a.mono m.out.size));have C:Hid (Blk q w.heap.size 24 #[.slice A is.length c,.int .i64 root]):=hid (E.out.below a E.out.lt);have Q:=hid aa;have ag:=hid hN;clear a K M I aa;rw[hN];clear hN;obtain⟨gb,d⟩:=ex q.heap.size
  obtain⟨K,M⟩:=cells2 C.out;go_upto_region 4 with fail;obtain⟨O,n⟩:=ex (q.alloc (.cells #[.slice A2 N c2,.int .i64 0] 24))
  have l4:Below gb q O:=by rw[<-n,<-d];exact(Below.refl _ _).alloc (Nat.le_refl _) _
  have b4:Blk O gb 24 #[.slice A2 N c2,.int .i64 0]:=by rw[<-n,<-d];exact Blk.new _ _ _
  have U:w.heap.size<=gb:=by rw[<-d];exact P.out.size
  have L4:Hid (Below w.heap.size w O):=hid (P.out.trans (l4.mono U));have z:=hid b4;have ad:IAt O O.heap.size A2 vs2 L:=by have:=Q.out.below (by rw[d];exact l4);exact this.more (by rw[d];have:=b4.lt;omega)
  have ab:=hid ad;obtain⟨K,M⟩:=cells2 (C.out.below (by rw[d];exact l4) C.out.lt);(try rw[n]);clear n d l4 b4 ad U Q;have T:=hid (HR.out O L4.out);go_wp2_with fail;refine T.out.mono ?_;rintro e k ⟨f,A3,c3,F,rfl,X⟩;have L5:Hid (Below w.heap.size w k):=hid (L4.out.trans (f.mono L4.out.size));have ae:Hid (Blk k gb 24 #[.slice A2 N c2,.int .i64 0]):=hid (z.out.below f z.out.lt);have Z:Hid (IAt k k.heap.size A2 vs2 L/\IAt k k.heap.size A3 F L):=hid ⟨(ab.out.below f).more f.size,X⟩;clear f K M T X ab z;go_upto_region 5 with fail;obtain⟨gc,b⟩:=ex k.heap.size
  obtain⟨i,o⟩:=ex (k.alloc (.cells #[.slice A3 N c3,.int .i64 0] 24))
  have J:Below gc k i:=by rw[<-o,<-b];exact(Below.refl _ _).alloc (Nat.le_refl _) _
  have b6:Blk i gc 24 #[.slice A3 N c3,.int .i64 0]:=by rw[<-o,<-b];exact Blk.new _ _ _
  have L6:Hid (Below w.heap.size w i):=hid (L5.out.trans (J.mono (by rw[<-b];exact L5.out.size)));obtain⟨r0,r1⟩:=cells2 (ae.out.below (by rw[b];exact J) ae.out.lt);obtain⟨r2,r3⟩:=cells2 b6;have j:IAt i i.heap.size A2 vs2 L/\IAt i i.heap.size A3 F L:=by
   have hs:=J.size;exact⟨(Z.out.1.below (by rw[b];exact J)).more hs,(Z.out.2.below (by rw[b];exact J)).more hs⟩
  have y:=zr0 A2 A3 c2 c3 0 no vs2 F L V.out.1 i j.1 j.2 (fun h=>V.out.2 h A2 c2 vs2 i (HT.out i L6.out) j.1);rw[ag.out]at y;have R:=hid y;(try rw[b]);(try rw[o]);clear o b J b6 j y;go_wp2_with fail;refine R.out.mono ?_;rintro e w7 ⟨rfl,S⟩;have L7:Hid (Below w.heap.size w w7):=hid (L6.out.trans (S.mono L6.out.size));clear S r0 r1 r2 r3 R;go_wp2_with fail;refine(H.out w7 L7.out).mono ?_;rintro e w8 ⟨rfl,Y⟩;have L8:Hid (Below w.heap.size w w8):=hid (L7.out.trans (Y.mono L7.out.size));clear Y;go_wp2;go_ret;exact⟨rfl,L8.out⟩
end Go.Proofs.YtpjmhafmeieloaaGreatDoor
