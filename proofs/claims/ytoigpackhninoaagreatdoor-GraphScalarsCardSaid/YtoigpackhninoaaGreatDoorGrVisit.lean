import Derived.Test.YtoigpackhninoaaGreatDoorGrVisitT
namespace Go.Proofs.YtoigpackhninoaaGreatDoor
open Gr
open _root_.Go.Proofs.Tryz
open _root_.Go.Lib (hid)
set_option maxRecDepth 100000
set_option maxHeartbeats 16000000
open Go.RowKit
section
variable {y:TL} {B D:Nat} {A:Option Addr} {c:Nat} {root:Int} {vs:List NV} {ns:List Gr.Nd}
theorem zjm (hr:Refs ns) (hl:ns.length<=1073741823) (hks:∀n∈ns,n.keys.length<=1073741823/\n.items.length<=1073741823):
 ∀(f:Nat) (s:Gr.TS) (v:Nat) (G:Nat->Prop) (w:World) (sv zv:Value),TAt y B D A c root vs ns w s sv zv->Gr.Inv (Gr.succ ns) ns.length G s->v<ns.length->s.ix v=0->(∀g,G g->Gr.Reach (Gr.succ ns) g v)->unv ns.length s<=f->
 Calls prog 85 (y.args (.int .i64 v)) w (TPost y B D A c root vs ns w sv zv (tvisit (Gr.succ ns) f s v)):=by
 intro f
 induction f with
 |zero=>
  intro s v G w sv zv h hI hv hv0 hg hu;have:=zdm hI hv hv0;omega
 |succ f ih=>
  intro s v G w sv zv h hI hv hv0 hg hu;have hvI:(v:Int)<(ns.length:Int):=by omega
  have hnx:s.next<=1073741823:=by have:=hI.bn;omega
  have hsl:s.stk.length<=1073741823:=by have:=hI.bz;omega
  have IH:=hid ih;have HGU:Hid ((∀g,G g->Gr.Reach (Gr.succ ns) g v)/\unv ns.length s<=f+1):=hid ⟨hg,hu⟩;have HI:=hid hI;have HOK:=hid h.ok;have h1:=h.alloc (.cells #[.int .i64 v] 3);have hA1:ABox y D (w.alloc (.cells #[.int .i64 v] 3)) sv zv w.heap.size v:=⟨Blk.new _ _ _,h.hd,fun e=>by have:=(h.stk.lt _ e).2;omega,fun e=>by have:=(h.siz.lt _ e).2;omega⟩
  have hF1:TF y sv zv w (w.alloc (.cells #[.int .i64 v] 3)) sv zv:=(TF.refl _ _ _ _).alloc _;have H:=hid h;clear ih hI hg hu h;unfold TL.args;go_enter func85,ntmps85;obtain⟨w1,hw1⟩:=ex (w.alloc (.cells #[.int .i64 v] 3))
  rw[hw1]at h1 hA1 hF1;obtain⟨bA,hbA⟩:=ex w.heap.size
  have n0:w1.cell? ⟨y.bN,0,none⟩=some (.int .i64 (s.next:Int)):=h1.bN.cell 0;have nf:∀i,w1.frozen? ⟨y.bN,i,none⟩=false:=h1.bN.frozen;have hw:IntKind.i64.wrap ((s.next:Int)+1)=(s.next:Int)+1:=IntWalk.i64_in _ (by omega);go_upto_region 1 with fail;(try rw[hw1]);rw[hbA]at hA1;(try rw[hbA]);clear hw1 hbA;go_upto_region 2 with fail;obtain⟨w2,hw2⟩:=ex (w1.setCell ⟨y.bN,0,none⟩ (.int .i64 ((s.next:Int)+1)))
  have f12:TF y sv zv w1 w2 sv zv:=by rw[<-hw2];exact(TF.refl _ _ _ _).set y.bN 0 (.inl rfl) _
  have h2:TAt y B D A c root vs ns w2 {s with next:=s.next+1} sv zv:=by rw[<-hw2];exact h1.setN (s.next+1)
  have hA2:=hA1.kept HOK.out f12;have HF2:=hid (hF1.trans f12);rw[hw2];have i0:w2.cell? ⟨y.bI,0,none⟩=some (.slice (some ⟨y.rI,0,none⟩) ns.length ns.length):=h2.xI.cell 0;have l0:w2.cell? ⟨y.bL,0,none⟩=some (.slice (some ⟨y.rL,0,none⟩) ns.length ns.length):=h2.xL.cell 0;have a0:w2.cell? ⟨bA,0,none⟩=some (.int .i64 (v:Int)):=hA2.b.cell 0;have n1:w2.cell? ⟨y.bN,0,none⟩=some (.int .i64 ((s.next:Int)+1)):=h2.bN.cell 0;have rf:∀i,w2.frozen? ⟨y.rI,i,none⟩=false:=h2.rI.frozen;have lf:∀i,w2.frozen? ⟨y.rL,i,none⟩=false:=h2.rL.frozen;have xv:w2.cell? ⟨y.rI,v,none⟩=some (.int .i64 0):=by
   rw[h2.rI.cell,zad (by show v<s.idx.length;rw[HI.out.li];exact hv)];show some (Value.int .i64 ((s.ix v:Nat):Int))=_;rw[hv0];rfl
  have yv:w2.cell? ⟨y.rL,v,none⟩=some (.int .i64 ((s.lw v:Nat):Int)):=by
   rw[h2.rL.cell,zad (by show v<s.low.length;rw[HI.out.ll];exact hv)];rfl
  have q1:y.bN≠y.rI:=HOK.out.nI;have q2:y.bN≠y.rL:=HOK.out.nL;have q3:y.rI≠y.rL:=HOK.out.iL;have q4:y.rL≠y.rI:=HOK.out.iL.symm;have q5:y.bL≠y.rI:=h2.xL.ne_ h2.rI (by decide);have q6:y.bL≠y.rL:=h2.xL.ne_ h2.rL (by decide);have q7:y.bI≠y.rI:=h2.xI.ne_ h2.rI (by decide);have q8:y.bI≠y.rL:=h2.xI.ne_ h2.rL (by decide);have q9:bA≠y.rI:=by have:=hA2.hi;have:=HOK.out.dI;omega
  have q10:bA≠y.rL:=by have:=hA2.hi;have:=HOK.out.dL;omega
  have H2:=hid h2;have HA2:=hid hA2;clear h1 hA1 hF1 n0 nf hw hw2 f12 h2 hA2;go_cut [24] (fun _ wx=>TAt y B D A c root vs ns wx {s with next:=s.next+1,idx:=s.idx.set v (s.next+1),low:=s.low.set v (s.next+1)} sv zv/\TF y sv zv w wx sv zv/\ABox y D wx sv zv bA v)
  case first=>
   go_region
   all_goals
    go_wp2;go_meet;exact⟨((H2.out.setI v (s.next+1)).setL v (s.next+1)).drew,((HF2.out.set y.rI v (by simp) _).set y.rL v (by simp) _).drew,
     HA2.out.kept HOK.out (((TF.refl _ _ _ _).set y.rI v (by simp) _).set y.rL v (by simp) _).drew⟩
  case rest=>
   obtain⟨hT,hF,hA⟩:=hcut;clear i0 l0 a0 n1 rf lf xv yv q1 q2 q3 q4 q5 q6 q7 q8 q9 q10 H2 HA2 HF2;obtain⟨As,cs,hsv,_⟩:=hT.stk.form;have s0:wc.cell? ⟨y.bS,0,none⟩=some (.slice As s.stk.length cs):=by rw[hT.bS.cell 0];show some sv=_;rw[hsv]
   have a0:wc.cell? ⟨bA,0,none⟩=some (.int .i64 (v:Int)):=hA.b.cell 0;have e0:=World.new_ne wc _ s0;have HO:Hid (OwnRow intL wc D 3 (.slice As s.stk.length cs) s.stk):=hid (by have:=hT.stk;rw[hsv]at this;exact this);have HSV:=hid hsv;have HT:=hid hT;have HF:=hid hF;have HA:=hid hA;have hDw:=hT.hd;clear hsv hT hF hA;go_upto_region 3 with fail;go_cut [28] (fun _ wx=>∃sv2,TAt y B D A c root vs ns wx {s with next:=s.next+1,idx:=s.idx.set v (s.next+1),low:=s.low.set v (s.next+1),stk:=s.stk++[v]} sv2 zv/\TF y sv zv w wx sv2 zv/\ABox y D wx sv2 zv bA v)
   case first=>
    go_wp2_with (at_builtin;go_must (refine zac _ rfl (.tmp 28) (.tmp 30) 33 3 8 rfl intT D (.slice As s.stk.length cs) s.stk rfl (HO.out.alloc _) _ _ 1 [v] rfl (RowAt.lit1 _ _ rfl _ ?_) ?_ ?_ ?_))
    any_goals (first|rfl|omega| (simp;omega)| (rw[World.size_alloc];omega))
    intro v' w3 hown hg hat;have hTa:=HT.out.alloc (.cells #[.int .i64 v] 3);rw[<-HSV.out]at hg hat;have hb3:Blk w3 y.bS 33 _:=hTa.bS.grown hg (fun e=>zbk hTa.stk hTa.bS (by decide) e.symm);have pc3:w3.cell? ⟨y.bS,0,none⟩=some sv:=hb3.cell 0;have pf3:∀i,w3.frozen? ⟨y.bS,i,none⟩=false:=hb3.frozen;obtain⟨g3,cap3,hv3,_⟩:=hown.shape (by simp);obtain⟨n3,hn3⟩:=ex ((s.stk++[v]).length)
    rw[hn3]at hv3;subst hv3;have HTA:=hid hTa;have HOW:=hid hown;have HG:=hid hg;have HAT:=hid hat;clear hTa hown hg hat hb3 hn3;go_wp2;go_meet;have f1:=(TF.refl y sv zv wc).alloc (.cells #[.int .i64 v] 3);have hat2:(Value.slice (some ⟨g3,0,none⟩) n3 cap3).ownBlock=sv.ownBlock\/(Value.slice (some ⟨g3,0,none⟩) n3 cap3).ownBlock=some (wc.alloc (.cells #[.int .i64 v] 3)).heap.size:=by rw[World.size_alloc];exact HAT.out
    have f2:=f1.trans (TF.grownS HTA.out HG.out hat2);exact⟨_,HTA.out.grownS HOW.out HG.out hat2,HF.out.trans f2,HA.out.kept HOK.out f2⟩
   case rest=>
    obtain⟨sv1,hT,hF,hA⟩:=hcut;rename_i hK0;apply hK0;exact zjl hr hl hks HI.out hv hv0 HGU.out.1 HGU.out.2 IH.out w _ sv zv sv1 bA hT hF hA
end
end Go.Proofs.YtoigpackhninoaaGreatDoor
