import Derived.Test.YtoigpackhninoaaGreatDoorZ30
namespace Go.Proofs.YtoigpackhninoaaGreatDoor
open Gr
open _root_.Go.Proofs.Tryz
open _root_.Go.Lib (hid)
set_option maxRecDepth 100000
set_option maxHeartbeats 16000000
open Go.RowKit
theorem zkm (A:Option Addr) (c:Nat) (root:Int) (vs:List NV) (is:List Gr.Ni) (hz:Sz is) (w:World) (hUT:UT w) (h:IAt w w.heap.size A vs is):
 Calls prog 3 #[.agg #[.slice A is.length c,.int .i64 root]] w fun e w'=>e=.returned (.bool true)/\Below w.heap.size w w':=by
 obtain⟨w1,hw1⟩:=ex (w.alloc (.cells #[.slice A is.length c,.int .i64 root] 24))
 have b1:Blk w1 w.heap.size 24 #[.slice A is.length c,.int .i64 root]:=by rw[<-hw1];exact Blk.new _ _ _
 have l1:Below w.heap.size w w1:=by rw[<-hw1];exact(Below.refl _ _).alloc (Nat.le_refl _) _
 have L1:=hid l1;have hT1:UT w1:=UT.stays _ _ hUT l1;have h1:IAt w1 w1.heap.size A vs is:=(h.below l1).more l1.size;have HF:Hid (∀x:WB w1.heap.size w1,Calls prog 12 #[.agg #[.slice A is.length c,.int .i64 root]] x.w fun e w'=>e=.returned (.bool (Gr.few is))/\Below w1.heap.size w1 w'):=hid (fun x=>
  (zpn A c root vs is hz x.w ((h1.below x.h).more x.h.size)).mono (fun _ _ ⟨e1,e2⟩=>⟨e1,x.h.trans (e2.mono x.h.size)⟩))
 have HA:Hid (∀x:WB w1.heap.size w1,Calls prog 13 #[] x.w fun e w'=>e=.returned (.bool true)/\Below w1.heap.size w1 w'):=hid (fun x=>
  (zjc x.w (UT.stays _ _ hT1 x.h)).mono (fun _ _ ⟨e1,e2⟩=>⟨e1,x.h.trans (e2.mono x.h.size)⟩))
 have HC:Hid (Gr.few is=true->∀x:WB w1.heap.size w1,Calls prog 14 #[.agg #[.slice A is.length c,.int .i64 root]] x.w fun e w'=>e=.returned (.int .i64 (checkI sclX is root:Nat))/\Below w1.heap.size w1 w'):=hid (fun hf x=>by
  have hl:=zjt hf;have ha:=zju hf;exact(zw4 A c root vs is (fun y hy=>by have:=ha y hy;omega) (by omega) w1 hT1 h1 x.w x.h).mono (fun _ _ ⟨e1,e2⟩=>⟨e1,x.h.trans (e2.mono x.h.size)⟩))
 have HR:Hid (Gr.few is=true->∀x:WB w1.heap.size w1,Calls prog 15 #[.agg #[.slice A is.length c,.int .i64 root]] x.w fun e w'=>e=.returned (.int .i64 (checkI sclX is root:Nat))/\Below w1.heap.size w1 w'):=hid (fun hf x=>by
  have hl:=zjt hf;have ha:=zju hf;have:=zgj A c root vs is (by omega) (fun y hy=>by have:=ha y hy;omega) x.w ((h1.below x.h).more x.h.size);rw[zfc sclX zb9]at this;exact this.mono (fun _ _ ⟨e1,e2⟩=>⟨e1,x.h.trans (e2.mono x.h.size)⟩))
 have q0:∀x:WB w1.heap.size w1,x.w.cell? ⟨w.heap.size,0,none⟩=some (.slice A is.length c):=fun x=>(b1.below x.h b1.lt).cell 0
 have q1:∀x:WB w1.heap.size w1,x.w.cell? ⟨w.heap.size,1,none⟩=some (.int .i64 root):=fun x=>(b1.below x.h b1.lt).cell 1
 obtain⟨few,hfew⟩:=ex (Gr.few is)
 rw[hfew]at HF HC HR;obtain⟨ck,hck⟩:=ex (checkI sclX is root)
 rw[hck]at HC HR;obtain⟨n,hn⟩:=ex is.length
 rw[hn]at HF HC HR q0 hw1 ⊢;clear hfew hck hn h h1 hz hUT hT1 b1 l1;cases few with
 |false=>
  clear HC HR;go_enter func3,ntmps3;go_upto_region 1 with fail;(try rw[hw1]);clear hw1;refine zaa w1.heap.size w1 (by kernel_rfl) (by kernel_rfl) (Below.refl _ _) ?_
  repeat (go_big_quiet_step (((first| (with_reducible refine Calls.grow (HF.out _))| (with_reducible refine Calls.grow (HA.out _))))))
  refine wpQuiet_nil ?_;rintro _ ⟨wz,rfl⟩;go_wp2;go_ret;exact⟨rfl,L1.out.trans (wz.h.mono L1.out.size)⟩
 |true=>
  have HCC:=hid (HC.out rfl);have HRR:=hid (HR.out rfl);have hbq:((ck:Int)==(ck:Int))=true:=beq_self_eq_true _;clear HC HR;go_enter func3,ntmps3;go_upto_region 1 with fail;(try rw[hw1]);clear hw1;refine zaa w1.heap.size w1 (by kernel_rfl) (by kernel_rfl) (Below.refl _ _) ?_
  repeat (go_big_quiet_step (((first| (with_reducible refine Calls.grow (HF.out _))| (with_reducible refine Calls.grow (HA.out _))| (with_reducible refine Calls.grow (HCC.out _))| (with_reducible refine Calls.grow (HRR.out _))))))
  refine wpQuiet_nil ?_;rintro _ ⟨wz,rfl⟩;go_wp2;go_ret;exact⟨rfl,L1.out.trans (wz.h.mono L1.out.size)⟩
end Go.Proofs.YtoigpackhninoaaGreatDoor
