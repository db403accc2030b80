import Derived.Shelf.Strings.Trim
import Derived.Shelf.Small.Utf8
import Derived.Shelf.Small.Wraps
import Derived.Shelf.Strconv.Itoa3
import Derived.Shelf.Strconv.ErrVarAll
import Derived.Shelf.Pu.ParseUintPublic10
import Derived.Shelf.Strings.Shaped
import Derived.Shelf.Strings.Runes
import Derived.Shelf.Strings.AsciiSet
import Derived.Shelf.Strings.Repeat
import Derived.Shelf.Unicode.DecodeAny
import Derived.Shelf.Strings.BuilderCap
import Derived.Test.YtoigpackhninoaaGreatDoorZ01
import Derived.Lib.TrailingZeros
namespace Go.Proofs
open _root_.Go.Proofs.Tryz
set_option maxRecDepth 100000
set_option maxHeartbeats 16000000
open Go.Shelf
theorem fx {α:Type _} {a:Option α} {b c:α} (h:a=some b) (e:b=c):a=some c:=h.trans (congrArg some e)
def Tryz.lays162_ren:Go.Shelf.Ren:=⟨fun| 162=>161| 232=>185| 227=>186| 234=>187| 236=>188| 228=>205| 271=>206| 151=>207| 120=>217| 197=>91| 152=>218| 260=>123| 137=>107| 119=>222| 224=>193| 225=>192| 217=>140| 266=>165|n=>n,fun| 9=>9| 4=>4| 3=>3| 5=>5| 117=>219| 116=>218| 0=>0| 124=>222| 21=>21| 105=>131| 46=>194| 119=>193| 139=>197| 138=>196|n=>n,fun| 3=>1| 4=>2|n=>n⟩
theorem Tryz.lays162:Go.Proofs.Lays.n162 prog lays162_ren:=by repeat' (first|kernel_rfl| (intro w;kernel_rfl)|constructor|decide)
open Go.RowKit in
theorem Tryz.strings_TrimRight_one (s:ByteArray) (c:UInt8) (hc:c.toNat<128) (w:World) (hs:s.size<=9223372036854775807):
 Calls prog 161 #[.string s,.string ⟨#[c]⟩] w fun e w'=>e=.returned (.string ⟨(Lib.trimRightB s.data.toList c).toArray⟩)/\w'=w:=Any.strings_TrimRight_one lays162 s c hc w hs
def Tryz.lays137_ren:Go.Shelf.Ren:=⟨fun| 137=>107| 217=>140| 266=>165|n=>n,fun| 9=>9| 5=>5| 3=>3|n=>n,fun|n=>n⟩
theorem Tryz.lays137:Go.Proofs.Lays.n137 prog lays137_ren:=by repeat' (first|kernel_rfl| (intro w;kernel_rfl)|constructor|decide)
open Go.RowKit in
theorem Tryz.strings_IndexByte (s:ByteArray) (c:Int) (w:World):
 Calls prog 107 #[.string s,.int .u8 c] w fun e w'=>e=.returned (.int .i64 (Lib.indexByte s.data.toList c.toNat.toUInt8))/\w'=w:=Any.strings_IndexByte lays137 s c w
def Tryz.lays103_ren:Go.Shelf.Ren:=⟨fun| 103=>114| 210=>146| 206=>171|n=>n,fun| 9=>9| 4=>4| 24=>158| 3=>3|n=>n,fun|n=>n⟩
theorem Tryz.lays103:Go.Proofs.Lays.n103 prog lays103_ren:=by repeat' (first|kernel_rfl| (intro w;kernel_rfl)|constructor|decide)
open Go.RowKit in
theorem Tryz.strings_CutPrefix (s p:ByteArray) (w:World):
 Calls prog 114 #[.string s,.string p] w fun e w'=>e=.returned (.tuple #[.string ⟨(Lib.trimPrefix s.data.toList p.data.toList).toArray⟩,.bool (Lib.hasPrefix s.data.toList p.data.toList)])/\w'=w:=Any.strings_CutPrefix lays103 s p w
def Tryz.lays129_ren:Go.Shelf.Ren:=⟨fun| 129=>150|n=>n,fun| 53=>72| 3=>3| 4=>4| 46=>194| 5=>5| 9=>9|n=>n,fun|n=>n⟩
theorem Tryz.lays129:Go.Proofs.Lays.n129 prog lays129_ren:=by repeat' (first|kernel_rfl| (intro w;kernel_rfl)|constructor|decide)
theorem Tryz.bits_Len64 (x:Int) (w:World) (h0:0<=x) (h1:x<=18446744073709551615):
 Calls prog 150 #[.int .u64 x] w fun e w'=>e=.returned (.int .i64 (Lib.bitLen x.toNat))/\w'=w:=Any.bits_Len64 lays129 x w h0 h1
def Tryz.lays283_ren:Go.Shelf.Ren:=⟨fun| 283=>195|n=>n,fun| 3=>3| 9=>9| 4=>4|n=>n,fun|n=>n⟩
theorem Tryz.lays283:Go.Proofs.Lays.n283 prog lays283_ren:=by repeat' (first|kernel_rfl| (intro w;kernel_rfl)|constructor|decide)
open Go.Lib in
theorem Tryz.internal_strconv_small (i:Nat) (h:i<100) (w:World):
 Calls prog 195 #[.int .i64 i] w fun e w'=>e=.returned (.string ⟨(Lib.decDigits i).toArray⟩)/\w'=w:=Any.internal_strconv_small lays283 i h w
def Tryz.laysM284_ren:Go.Shelf.Ren:=⟨fun| 284=>196| 129=>150| 317=>209| 318=>210|n=>n,fun| 53=>72| 3=>3| 212=>249| 0=>0| 4=>4| 46=>194| 5=>5| 9=>9|n=>n,fun| 17=>7|n=>n⟩
theorem Tryz.laysM284:Go.Proofs.LaysM.n284 prog laysM284_ren:=by repeat' (first|kernel_rfl| (intro w;kernel_rfl)|constructor|decide)
open Go.Lib in
theorem Tryz.internal_strconv_numDigits (u:Nat) (h1:1<=u) (h2:u<18446744073709551616) (w:World) (htab:Lib.TabIs prog w "internal/strconv.uint64pow10" .u64 Lib.pow10Tab):
 Calls prog 196 #[.int .u64 u] w fun e w'=>e=.returned (.int .i64 (Lib.nDigits u))/\w'=w:=Any.internal_strconv_numDigits laysM284 u h1 h2 w htab
def Tryz.lays285_ren:Go.Shelf.Ren:=⟨fun| 285=>197|n=>n,fun| 37=>119| 53=>72| 3=>3| 4=>4| 51=>245| 9=>9| 5=>5| 0=>0|n=>n,fun|n=>n⟩
theorem Tryz.lays285:Go.Proofs.Lays.n285 prog lays285_ren:=by repeat' (first|kernel_rfl| (intro w;kernel_rfl)|constructor|decide)
open Go.RowKit Go.Sort Go.Lib in
theorem Tryz.internal_strconv_formatBase10 (blk off cap:Nat) (u:Nat) (d:Array UInt8) (w:World) (hH:Holds (fun(b:UInt8)=>Value.int .u8 (b.toNat:Int)) w blk off d) (hu:u<10 ^ d.size) (hu64:u<18446744073709551616) (hsz:d.size<4611686018427387904):
 Calls prog 197 #[.slice (some ⟨blk,off,none⟩) d.size cap,.int .u64 u] w fun e w'=>
  e=.returned (.tuple #[])/\∃(n v':Nat) (dk:Array UInt8),w'=(putRow (fun(b:UInt8)=>Value.int .u8 (b.toNat:Int)) w blk off dk).drewN n/\FmtInv d.size u 0 v' dk:=Any.internal_strconv_formatBase10 lays285 blk off cap u d w hH hu hu64 hsz
def Tryz.laysM171_ren:Go.Shelf.Ren:=⟨fun| 171=>145| 243=>174| 246=>191| 283=>195| 284=>196| 285=>197| 286=>198| 129=>150| 317=>209| 318=>210| 319=>211| 320=>212| 337=>219| 338=>181|n=>n,fun| 3=>3| 9=>9| 2=>2| 4=>4| 171=>229| 0=>0| 53=>72| 37=>119| 5=>5| 173=>231| 212=>249| 51=>245| 20=>20| 213=>250| 46=>194| 232=>261| 233=>228|n=>n,fun| 17=>7| 18=>8| 19=>6|n=>n⟩
theorem Tryz.laysM171:Go.Proofs.LaysM.n171 prog laysM171_ren:=by repeat' (first|kernel_rfl| (intro w;kernel_rfl)|constructor|decide)
open Go.RowKit Go.Sort Go.Lib in
theorem Tryz.strconv_Itoa (n:Int) (h0:-9223372036854775808<=n) (h1:n<=9223372036854775807) (w:World) (htab:Lib.TabIs prog w "internal/strconv.uint64pow10" .u64 Lib.pow10Tab):
 Calls prog 145 #[.int .i64 n] w fun e w'=>e=.returned (.string ⟨(Lib.itoa n).toArray⟩)/\∃k os,w'=grow (w.drewN k) os:=Any.strconv_Itoa laysM171 n h0 h1 w htab
def Tryz.laysC172_ren:Go.Shelf.Ren:=⟨fun| 172=>108| 244=>141| 245=>142| 247=>166| 279=>167| 280=>168| 281=>169| 282=>170| 287=>149| 316=>189| 171=>145| 205=>190| 321=>176| 322=>177| 243=>174| 246=>191| 283=>195| 284=>196| 285=>197| 286=>198| 129=>150| 317=>209| 318=>210| 319=>211| 320=>212| 337=>219| 338=>181|n=>n,fun| 9=>9| 3=>3| 75=>150| 76=>151| 4=>4| 5=>5| 167=>202| 37=>119| 0=>0| 85=>203| 2=>2| 168=>205| 53=>72| 175=>164| 46=>194| 210=>225| 127=>241| 145=>244| 143=>242| 21=>21| 171=>229| 173=>231| 212=>249| 51=>245| 20=>20| 213=>250| 232=>261| 233=>228| 80=>157|n=>n,fun| 15=>4| 16=>5| 17=>7| 18=>8| 19=>6|n=>n⟩
theorem Tryz.laysC172:Go.Proofs.LaysC.n172 prog laysC172_ren:=by repeat' (first|kernel_rfl| (intro w;kernel_rfl)|constructor|decide)
def Tryz.badI:Lib.NumEnd Int:=Lib.atoiAll []
def Tryz.badN:Lib.NumEnd Nat:=Lib.parseUintB 64 []
open Go.RowKit in
theorem Tryz.strconv_Atoi_ok (s:ByteArray) (hmax:s.size<=9223372036854775806) (v:Int) (h:Lib.atoiAll s.data.toList=.ok v) (w:World):
 Calls prog 108 #[.string s] w fun e w'=>e=.returned (.tuple #[.int .i64 v,.nilIface])/\(w'=w\/∃t,w'=Lib.bytesWorld w 5 t):=Any.strconv_Atoi_ok laysC172 s hmax v h w
open Go.RowKit in
theorem Tryz.strconv_Atoi_syntax (s:ByteArray) (hlim:s.size<=281474976710656) (h:Lib.atoiAll s.data.toList=badI) (ev:Value) (w:World) (hv:w.cell? ⟨4,0,none⟩=some ev) (hev:ev=.nilIface\/∃te pe,ev=.iface te pe):
 Calls prog 108 #[.string s] w fun e w'=>∃N,e=.returned (.tuple #[.int .i64 (0),.iface 205 (.pointer (some ⟨N,0,none⟩))])/\w.heap.size<=N/\w'.heap[N]? =some (.cells #[.string ⟨#[65,116,111,105]⟩,.string s,ev] 225 (0,0))/\Below w.heap.size w w':=Any.strconv_Atoi_syntax laysC172 s hlim h ev w hv hev
open Go.RowKit in
theorem Tryz.strconv_Atoi_range (s:ByteArray) (hlim:s.size<=281474976710656) (h:Lib.atoiAll s.data.toList=.range) (ev:Value) (w:World) (hv:w.cell? ⟨5,0,none⟩=some ev) (hev:ev=.nilIface\/∃te pe,ev=.iface te pe):
 Calls prog 108 #[.string s] w fun e w'=>∃N,e=.returned (.tuple #[.int .i64 (Lib.atoiSat s.data.toList),.iface 205 (.pointer (some ⟨N,0,none⟩))])/\w.heap.size<=N/\w'.heap[N]? =some (.cells #[.string ⟨#[65,116,111,105]⟩,.string s,ev] 225 (0,0))/\Below w.heap.size w w':=Any.strconv_Atoi_range laysC172 s hlim h ev w hv hev
def Tryz.laysPu14_ren:Go.Shelf.Ren:=⟨fun| 14=>118| 16=>149| 17=>142| 19=>176| 20=>177| 21=>167| 22=>168| 23=>169| 24=>170| 25=>189| 27=>145| 26=>190| 28=>174| 29=>191| 30=>195| 31=>196| 32=>197| 33=>198| 35=>150| 34=>209| 36=>210| 37=>211| 38=>212| 39=>219| 40=>181|n=>n,fun| 9=>9| 3=>3| 22=>72| 24=>150| 25=>164| 4=>4| 34=>202| 5=>5| 36=>194| 37=>119| 0=>0| 39=>205| 21=>21| 44=>225| 47=>241| 50=>244| 48=>242| 2=>2| 52=>229| 55=>231| 59=>249| 60=>245| 20=>20| 61=>250| 65=>261| 66=>228| 67=>157|n=>n,fun| 0=>4| 1=>5| 2=>7| 3=>8| 4=>6|n=>n⟩
theorem Tryz.laysPu14:Go.Proofs.LaysPu.n14 prog laysPu14_ren:=by repeat' (first|kernel_rfl| (intro w;kernel_rfl)|constructor|decide)
open Go.RowKit in
theorem Tryz.strconv_ParseUint_10_at64_ok (s:ByteArray) (hmax:s.size<=9223372036854775806) (u:Nat) (h:Lib.parseUintB 64 s.data.toList=.ok u) (w:World):
 Calls prog 118 #[.string s,.int .i64 10,.int .i64 64] w fun e w'=>e=.returned (.tuple #[.int .u64 u,.nilIface])/\(w'=w\/w'=Lib.bytesWorld w 5 s):=Any.strconv_ParseUint_10_at64_ok laysPu14 s hmax u h w
open Go.RowKit in
theorem Tryz.strconv_ParseUint_10_at64_syntax (s:ByteArray) (hlim:s.size<=281474976710656) (h:Lib.parseUintB 64 s.data.toList=badN) (ev:Value) (w:World) (hv:w.cell? ⟨4,0,none⟩=some ev) (hev:ev=.nilIface\/∃te pe,ev=.iface te pe):
 Calls prog 118 #[.string s,.int .i64 10,.int .i64 64] w fun e w'=>∃N,e=.returned (.tuple #[.int .u64 0,.iface 205 (.pointer (some ⟨N,0,none⟩))])/\w.heap.size<=N/\w'.heap[N]? =some (.cells #[.string ⟨#[80,97,114,115,101,85,105,110,116]⟩,.string s,ev] 225 (0,0))/\Below w.heap.size w w':=Any.strconv_ParseUint_10_at64_syntax laysPu14 s hlim h ev w hv hev
open Go.RowKit in
theorem Tryz.strconv_ParseUint_10_at64_range (s:ByteArray) (hlim:s.size<=281474976710656) (h:Lib.parseUintB 64 s.data.toList=.range) (ev:Value) (w:World) (hv:w.cell? ⟨5,0,none⟩=some ev) (hev:ev=.nilIface\/∃te pe,ev=.iface te pe):
 Calls prog 118 #[.string s,.int .i64 10,.int .i64 64] w fun e w'=>∃N,e=.returned (.tuple #[.int .u64 18446744073709551615,.iface 205 (.pointer (some ⟨N,0,none⟩))])/\w.heap.size<=N/\w'.heap[N]? =some (.cells #[.string ⟨#[80,97,114,115,101,85,105,110,116]⟩,.string s,ev] 225 (0,0))/\Below w.heap.size w w':=Any.strconv_ParseUint_10_at64_range laysPu14 s hlim h ev w hv hev
def Tryz.lays101_ren:Go.Shelf.Ren:=⟨fun| 101=>109| 208=>143| 206=>171|n=>n,fun| 9=>9| 4=>4| 3=>3|n=>n,fun|n=>n⟩
theorem Tryz.lays101:Go.Proofs.Lays.n101 prog lays101_ren:=by repeat' (first|kernel_rfl| (intro w;kernel_rfl)|constructor|decide)
open Go.RowKit Go.Lib in
theorem Tryz.strings_TrimPrefix (s p:ByteArray) (w:World):
 Calls prog 109 #[.string s,.string p] w fun e w'=>e=.returned (.string ⟨(Lib.trimPrefix s.data.toList p.data.toList).toArray⟩)/\w'=w:=Any.strings_TrimPrefix lays101 s p w
def Tryz.lays105_ren:Go.Shelf.Ren:=⟨fun| 105=>184| 212=>199| 99=>200| 165=>201| 166=>202| 170=>203| 169=>204| 263=>213| 264=>214| 206=>171| 240=>215| 241=>216| 276=>220| 277=>221|n=>n,fun| 9=>9| 3=>3| 4=>4| 20=>20| 0=>0| 46=>194| 109=>233| 5=>5| 72=>237| 76=>151| 51=>245| 146=>246| 53=>72| 148=>253| 70=>235| 37=>119| 75=>150| 127=>241| 164=>257| 80=>157|n=>n,fun|n=>n⟩
theorem Tryz.lays105:Go.Proofs.Lays.n105 prog lays105_ren:=by repeat' (first|kernel_rfl| (intro w;kernel_rfl)|constructor|decide)
theorem Tryz.Builder_Extra_105:Builder.Extra prog lays105_ren:=by repeat' (first|kernel_rfl| (intro w;kernel_rfl)|constructor|decide)
open Go.RowKit Go.Lib in
theorem Tryz.strings_Repeat (s:ByteArray) (c:Nat) (w:World) (hc:c<=9223372036854775807) (hlen:s.size*c<=140737488355328):
 Calls prog 184 #[.string s,.int .i64 c] w fun e w'=>e=.returned (.string ⟨(Lib.repeatL s.data.toList c).toArray⟩)/\Below w.heap.size w w':=Any.strings_Repeat lays105 Builder_Extra_105 s c w hc hlen
def Tryz.lays197_ren:Go.Shelf.Ren:=⟨fun| 197=>91| 260=>123|n=>n,fun| 9=>9| 21=>21| 3=>3| 4=>4| 5=>5| 105=>131| 119=>193| 0=>0| 46=>194| 139=>197| 138=>196|n=>n,fun| 3=>1| 4=>2|n=>n⟩
theorem Tryz.lays197:Go.Proofs.Lays.n197 prog lays197_ren:=by repeat' (first|kernel_rfl| (intro w;kernel_rfl)|constructor|decide)
open Go.RowKit Go.Lib in
theorem Tryz.utf8_DecodeRuneInString (s:ByteArray) (w:World) (hT:Lib.Utf8Tabs 1 2 w):
 Calls prog 91 #[.string s] w fun e w'=>e=.returned (.tuple #[.int .i32 (Lib.decodeGo s).1,.int .i64 (Lib.decodeGo s).2])/\Below w.heap.size w w':=Any.utf8_DecodeRuneInString lays197 s w hT
end Go.Proofs
namespace Go.Proofs.YtoigpackhninoaaGreatDoor
open _root_.Go.Proofs.Tryz
open _root_.Go.Lib (hid)
set_option maxRecDepth 100000
set_option maxHeartbeats 16000000
namespace Utf
abbrev Str:=List UInt8
def dec (r:Str):Nat×Nat:=
 let b (k:Nat):Nat:=(r.getD k 0).toNat;let cont (k:Nat):Bool:=k<r.length && b k /64==2
 if b 0<0x80 then(b 0,1)
 else if b 0 /32==6 && cont 1 then
  let c:=(b 0%32)*64+b 1%64
  if c>=0x80 then(c,2)else(65533,1)
 else if b 0 /16==14 && cont 1 && cont 2 then
  let c:=(b 0%16)*4096+(b 1%64)*64+b 2%64
  if c>=0x800 && Utf8.valid c then(c,3)else(65533,1)
 else if b 0 /8==30 && cont 1 && cont 2 && cont 3 then
  let c:=(b 0%8)*262144+(b 1%64)*4096+(b 2%64)*64+b 3%64
  if c>=0x10000 && Utf8.valid c then(c,4)else(65533,1)
 else(65533,1)
theorem zr6 (s:Str) (j:Nat):((⟨s.toArray⟩:ByteArray).get! j)=s.getD j 0:=by
 show(s.toArray)[j]! =_;rw[List.getElem!_toArray,List.getElem!_eq_getElem?_getD,List.getD_eq_getElem?_getD];rfl
theorem zu9 (s:Str) (i:Nat):Utf8.decode ⟨s.toArray⟩ i=dec (s.drop i):=by
 have b:∀k,(⟨s.toArray⟩:ByteArray).get! (i+k)=(s.drop i).getD k 0:=by
  intro k;rw[zr6,List.getD_eq_getElem?_getD,List.getD_eq_getElem?_getD,List.getElem?_drop]
 have a:(⟨s.toArray⟩:ByteArray).size=s.length:=by simp[ByteArray.size]
 have c:∀k,decide (i+k<(⟨s.toArray⟩:ByteArray).size)=decide (k<(s.drop i).length):=by
  intro k;rw[a,List.length_drop,decide_eq_decide];omega
 unfold Utf8.decode dec;simp only[b,c,Utf8.runeError]
def badU:Nat->Str->Nat->Option Nat
 | 0,_,_=>none
 |n+1,r,i=>match r with
  | []=>none
  |_::_=>if(dec r).1=65533/\(dec r).2=1 then some i else badU n (r.drop (dec r).2) (i+(dec r).2)
def bad (s:Str):Option Nat:=badU s.length s 0
theorem zhs (r:Str):1<=(dec r).2/\(dec r).2<=4:=by
 unfold dec;simp only
 repeat' split
 all_goals (constructor<;>simp)
theorem dec_len (r:Str) (h:r≠[]):(dec r).2<=r.length:=by
 have h0:0<r.length:=List.length_pos_iff.2 h;unfold dec;simp only
 repeat' split
 all_goals (simp_all<;>omega)
theorem zok (n m:Nat) (r:Str) (i:Nat) (hn:r.length<=n) (hm:r.length<=m):badU n r i=badU m r i:=by
 induction n generalizing m r i with
 |zero=>
  have:r=[]:=List.eq_nil_of_length_eq_zero (by omega);subst this;cases m<;>rfl
 |succ n ih=>
  cases r with
  |nil=>cases m<;>rfl
  |cons c q=>
   cases m with
   |zero=>simp at hm
   |succ m=>
    have hw:=zhs (c::q);unfold badU;simp only;split
    ·rfl
    ·exact ih m _ _ (by simp at hn ⊢;omega) (by simp at hm ⊢;omega)
theorem zys (r:Str):r≠[]->(dec r).2<=r.length:=fun h=>dec_len r h
def badR (r:Str) (i:Nat):Option Nat:=badU r.length r i
theorem zxa (r:Str) (i d n:Nat) (hr:r≠[]) (h:dec r=(d,n)):badR r i=if d=65533/\n=1 then some i else badR (r.drop n) (i+n):=by
 cases r with
 |nil=>exact absurd rfl hr
 |cons c q=>
  unfold badR;show badU (q.length+1) (c::q) i=_;rw[show badU (q.length+1) (c::q) i=if(dec (c::q)).1=65533/\(dec (c::q)).2=1 then some i else badU q.length ((c::q).drop (dec (c::q)).2) (i+(dec (c::q)).2)from rfl,h];split
  ·rfl
  ·have a:=(zhs (c::q)).1;rw[h]at a;have a:1<=n:=a;refine zok _ _ _ _ ?_ (Nat.le_refl _);rw[List.length_drop,List.length_cons];omega
end Utf
open Go.RowKit
theorem zgj (s:Utf.Str) (a:Nat):(⟨s.toArray⟩:ByteArray).extract a s.length=⟨(s.drop a).toArray⟩:=by
 rw[zas,List.take_of_length_le (by simp)]
def ckVal (o:Option Nat):Value:=match o with
 |some i=>.tuple #[.int .i64 (i:Nat),.int .i64 11]
 |none=>.tuple #[.int .i64 (-1),.int .i64 0]
theorem zds {B:Nat} {w w':World} (h:Lib.Utf8Tabs 1 2 w) (hb:Below B w w') (hB:3<=B):Lib.Utf8Tabs 1 2 w':=
 ⟨fun c b=>(hb.cell (by simp;omega)).trans (h.1 c b),fun i a=>⟨(hb.cell (by simp;omega)).trans (h.2 i a).1,(hb.cell (by simp;omega)).trans (h.2 i a).2⟩⟩
theorem zew (s:Utf.Str) (pos d n:Nat) (h:pos<s.length) (hd:Utf.dec (s.drop pos)=(d,n)) (W:World) (hT:Lib.Utf8Tabs 1 2 W):
 Calls prog 91 #[.string ((⟨s.toArray⟩:ByteArray).extract pos s.length)] W fun e w'=>e=.returned (.tuple #[.int .i32 d,.int .i64 n])/\Below W.heap.size W w':=by
 have b:(⟨s.toArray⟩:ByteArray).extract pos s.length=⟨(s.drop pos).toArray⟩:=by
  rw[zgj]
 rw[b];refine(utf8_DecodeRuneInString _ W hT).mono ?_;rintro e w' ⟨rfl,c⟩;have a:Lib.decodeGo ⟨(s.drop pos).toArray⟩=(d,n):=by
  unfold Lib.decodeGo;rw[if_neg (by simp[ByteArray.size];omega),Utf.zu9,List.drop_zero,hd]
 rw[a];exact⟨rfl,c⟩
theorem zgk (s:Utf.Str) (hs:s.length<=1073741823) (w:World) (hT:Lib.Utf8Tabs 1 2 w) (hw:3<=w.heap.size) (v:Value) (hv:ckVal (Utf.bad s)=v):
 Calls prog 72 #[.string ⟨s.toArray⟩] w fun e w'=>e=.returned v/\Below w.heap.size w w':=by
 have H:=hid hv;have I:=hid hT;clear hv hT;go_enter func72,ntmps72;go_wp2_with fail;go_loopw [10] (fun x wr=>∃pos:Nat,pos<=s.length/\wr.heap[w.heap.size]? =some (.stringIter ⟨s.toArray⟩ pos)/\Below w.heap.size w wr/\Hid (Utf.bad s=Utf.badR (s.drop pos) pos)) (fun _ wr=>s.length-wr.iterPos w.heap.size)
 case atStart=>exact⟨0,by omega,World.iter_heap w _ 0,(Below.refl _ _).alloc (Nat.le_refl _) _,hid rfl⟩
 case round=>
  obtain⟨pos,hp,i,D,C⟩:=hrel;have HK:=hid i;have F:=hid D;by_cases hlt:pos<s.length
  ·obtain⟨d,n,A⟩:∃d n,Utf.dec (s.drop pos)=(d,n):=⟨_,_,rfl⟩
   have m:s.drop pos≠[]:=by intro e;have:=congrArg List.length e;simp at this;omega
   have p:=Utf.zhs (s.drop pos);have o:=Utf.zys (s.drop pos) m;rw[A]at p o;have a:=Utf.zxa (s.drop pos) pos d n m A;rw[List.drop_drop]at a;have hn1:1<=n:=p.1;have q:pos+n<=s.length:=by have:n<=(s.drop pos).length:=o;simp at this;omega
   have t:∀ty,(Instr.next (.pointer (some ⟨w.heap.size,0,none⟩)) true ty).run prog wr=.ok (.tuple #[.bool true,.int .i64 pos,.int .i32 d]) (wr.iterAt w.heap.size ⟨s.toArray⟩ (pos+n)):=by
    intro ty;rw[Lib.run_next_any_at wr w.heap.size ⟨s.toArray⟩ pos ty i (by simp[ByteArray.size];omega),Utf.zu9,A]
   obtain⟨E,f⟩:=ex (wr.iterAt w.heap.size ⟨s.toArray⟩ (pos+n))
   have g:E.heap[w.heap.size]? =some (.stringIter ⟨s.toArray⟩ (pos+n)):=by rw[<-f];exact Lib.iterAt_heap wr _ _ pos _ i
   have r:Below w.heap.size w E:=by rw[<-f];exact Lib.below_iterAt D (Nat.le_refl _) _ _
   rw[f]at t;have h:=hid g;have b:=hid r;have k:=hid a;have L:=hid A;have G:w.heap.size<E.heap.size:=(Array.getElem?_eq_some_iff.1 g).1;have hpI:(pos:Int)<=(s.length:Int):=by omega
   have u:Hid (wr.iterPos w.heap.size=pos):=hid (iterPos_of i);clear f g r a A p o m i D;by_cases h65:d=65533
   ·have K:(d:Int)=65533:=by omega
    have z:Hid (Utf.dec (s.drop pos)=(65533,n)):=hid (by rw[L.out,h65]);by_cases hn:n=1
    ·have j:Hid (ckVal (some pos)=v):=hid (by rw[<-H.out,C.out,k.out,if_pos ⟨h65,hn⟩]);have J:(n:Int)=1:=by omega
     clear h65 hn;go_wp2_with fail;refine(zew s pos 65533 n hlt z.out _ (zds I.out b.out hw)).mono ?_;rintro e B ⟨rfl,c⟩;have l:Hid (Below w.heap.size w B):=hid (b.out.trans (c.mono b.out.size));clear c;go_wp2_with fail;(try refine bodyPost_ret (v:=.tuple #[.int .i64 pos,.int .i64 11]) (by simp[results,results72,go_sem]) rfl ?_);exact⟨by rw[<-j.out];rfl,l.out⟩
    ·have j:Hid (Utf.bad s=Utf.badR (s.drop (pos+n)) (pos+n)):=hid (by rw[C.out,k.out,if_neg (by simp[hn])]);have J:¬((n:Int)=1):=by omega
     have k2b:((n:Int)==1)=false:=by simpa using J
     clear h65 hn;go_wp2_with fail;refine(zew s pos 65533 n hlt z.out _ (zds I.out b.out hw)).mono ?_;rintro e B ⟨rfl,c⟩;have l:Hid (Below w.heap.size w B):=hid (b.out.trans (c.mono b.out.size));have y:Hid (B.heap[w.heap.size]? =some (.stringIter ⟨s.toArray⟩ (pos+n))):=hid ((c.block _ G).trans h.out);clear c;go_wp2;go_roundw
     case rel=>exact⟨pos+n,q,y.out,l.out,j⟩
     case measure=>rw[iterPos_of y.out,u.out];omega
   ·have K:¬((d:Int)=65533):=by omega
    have k1b:((d:Int)==65533)=false:=by simpa using K
    have j:Hid (Utf.bad s=Utf.badR (s.drop (pos+n)) (pos+n)):=hid (by rw[C.out,k.out,if_neg (by simp[h65])]);go_wp2;go_roundw
    case rel=>exact⟨pos+n,q,h.out,b.out,j⟩
    case measure=>rw[iterPos_of h.out,u.out];omega
  ·have t:∀ty,(Instr.next (.pointer (some ⟨w.heap.size,0,none⟩)) true ty).run prog wr=.ok (.tuple #[.bool false]) wr:=fun ty=>Lib.run_next_end_at wr w.heap.size ⟨s.toArray⟩ pos ty i (by simp[ByteArray.size];omega)
   have j:Hid (ckVal none=v):=hid (by rw[<-H.out,C.out,List.drop_eq_nil_of_le (by omega)];rfl);clear i D;go_wp2_with fail;(try refine bodyPost_ret (v:=.tuple #[.int .i64 (-1),.int .i64 0]) (by simp[results,results72,go_sem]) rfl ?_);exact⟨by rw[<-j.out];rfl,F.out⟩
open Go.RowKit
theorem zt9 (s:Gr.Str) (k:Nat) (i:Int) (hi:i=k) (h:k<=s.length) (W:World):(Instr.slice 9 (.string ⟨s.toArray⟩) none (some (.int .i64 i)) none).run prog W=.ok (.string ⟨(s.take k).toArray⟩) W:=by
 subst hi;rw[run_slice_string_h (P:=prog) W 9 ⟨s.toArray⟩ underlying9 .i64 k (by omega) (by simp[ByteArray.size];omega)]
 congr 2
 apply ByteArray.ext;simp
theorem zxb (s:Gr.Str) (k:Nat) (i:Int) (hi:i=k) (h:k<=s.length) (W:World):(Instr.slice 9 (.string ⟨s.toArray⟩) (some (.int .i64 i)) none none).run prog W=.ok (.string ⟨(s.drop k).toArray⟩) W:=by
 subst hi;rw[run_slice_string_l (P:=prog) W 9 ⟨s.toArray⟩ underlying9 .i64 k (by omega) (by simp[ByteArray.size];omega)]
 congr 2
 apply ByteArray.ext;simp[ByteArray.size];rw[List.take_of_length_le (by simp)]
theorem zva (a b:Gr.Str):(⟨a.toArray⟩:ByteArray)++⟨b.toArray⟩=⟨(a++b).toArray⟩:=by
 apply ByteArray.ext;simp
theorem zac (a b:Gr.Str) (h:a.length+b.length<=9223372036854775807) (W:World):(Op.stringOp .add ⟨a.toArray⟩ ⟨b.toArray⟩).run prog W=.ok (.string ⟨(a++b).toArray⟩) W:=by
 rw[run_string_add_sum (P:=prog) (w:=W) ⟨a.toArray⟩ ⟨b.toArray⟩ (by simpa[ByteArray.size]using h),zva]
theorem zol (a b:Gr.Str):((⟨a.toArray⟩:ByteArray)==⟨b.toArray⟩)=decide (a=b):=by
 show(a.toArray==b.toArray)=_;rw[Bool.eq_iff_iff];simp
def tl:Nat->Code->Code
 | 0,c=>c
 |n+1,.seq _ b=>tl n b
 |_+1,c=>c
namespace Flt
open Ieee
theorem b52:Ieee.double.binade=4503599627370496:=by decide
theorem sgnW:Ieee.double.signWeight=9223372036854775808:=by decide
theorem infR:Ieee.double.infRung=9218868437227405312:=by decide
theorem leastP:Ieee.double.leastPlace=-1074:=by decide
theorem fracB:Ieee.double.fractionBits=52:=rfl
theorem cut0 (neg:Bool) (n:Nat):Toward.even.cut neg n 0=n:=by
 have h:(1:Nat) <<<min 0 (n.log2+2)=1:=by rw[Nat.zero_min];rfl
 unfold Toward.cut;rw[h];simp[Nat.mod_one]
theorem zof (neg:Bool) (K d:Nat) (hK:0<K):Toward.even.cut neg (K*2 ^ d) d=K:=by
 have a:0<2 ^ d:=Nat.two_pow_pos d;have hl:d<=(K*2 ^ d).log2:=(Nat.le_log2 (by have:=Nat.mul_pos hK a;omega)).2 (Nat.le_mul_of_pos_left _ hK);have h:(1:Nat) <<<min d ((K*2 ^ d).log2+2)=2 ^ d:=by rw[Nat.min_eq_left (by omega),Nat.shiftLeft_eq,Nat.one_mul]
 unfold Toward.cut;rw[h];simp[Nat.mul_div_cancel _ a,Nat.mul_mod_left]
theorem zu6 (M:Nat) (p last:Int) (hM:M≠0) (hlast:max (p+(M.log2:Int)-52) (-1074)=last) (h:last<=p):Ieee.double.nearest false M p=min ((last+1074).toNat*4503599627370496+M*2 ^ (p-last).toNat) 9218868437227405312:=by
 unfold Format.nearest;rw[if_neg hM,leastP,b52,infR,fracB];simp only[Format.word,Bool.false_eq_true,if_false];rw[show((52:Nat):Int)=52 from rfl,hlast,show(last-p).toNat=0 from by omega,cut0,Nat.shiftLeft_eq,show last- -1074=last+1074 from by omega]
theorem zhr (M K:Nat) (p last:Int) (hM:M≠0) (hlast:max (p+(M.log2:Int)-52) (-1074)=last) (h:p<=last) (hK:M=K*2 ^ (last-p).toNat):Ieee.double.nearest false M p=min ((last+1074).toNat*4503599627370496+K) 9218868437227405312:=by
 unfold Format.nearest;rw[if_neg hM,leastP,b52,infR,fracB];simp only[Format.word,Bool.false_eq_true,if_false];rw[show((52:Nat):Int)=52 from rfl,hlast,show(p-last).toNat=0 from by omega,show last- -1074=last+1074 from by omega,Nat.shiftLeft_eq,Nat.pow_zero,Nat.mul_one,hK,zof];rcases Nat.eq_zero_or_pos K with h0|h0
 ·grind
 ·exact h0
theorem zi9 (m L:Nat) (h1:2 ^ L<=m) (h2:m<2 ^ (L+1)):m.log2=L:=by
 have c:m≠0:=by have:=Nat.two_pow_pos L;omega
 have a:=(Nat.le_log2 c).2 h1;have b:=(Nat.log2_lt c).2 h2;omega
def lastP (L:Nat) (e:Int):Int:=max (e+L-52) (-1074)
def sig (m L:Nat) (e:Int):Nat:=m*2 ^ (e-lastP L e).toNat
def fw (m L:Nat) (e:Int):Nat:=(lastP L e+1074).toNat*4503599627370496+sig m L e
structure Fits (m L:Nat) (e:Int):Prop where
 odd:m%2=1
 lo:2 ^ L<=m
 hi:m<2 ^ (L+1)
 len:L+1<=53
 e0:-1074<=e
 e1:e+L+1<=1024
section
variable {m L:Nat} {e:Int}
theorem Fits.last_le (h:Fits m L e):lastP L e<=e:=by have:=h.len;have:=h.e0;unfold lastP;omega
theorem zev (a:Nat) (h:a<=53):2 ^ a<=9007199254740992:=Nat.pow_le_pow_right (n:=2) (by omega) h
theorem Fits.sig_bd (h:Fits m L e):0<sig m L e/\sig m L e<9007199254740992/\(4503599627370496<=sig m L e\/lastP L e=-1074)/\lastP L e<=971/\-1074<=lastP L e:=by
 have h1:=h.len;have h2:=h.e0;have h3:=h.e1;have c:=h.lo;have b:=h.hi;have h0:=h.last_le;have hd:L+(e-lastP L e).toNat<=52:=by unfold lastP;omega
 have d:0<m:=by have:=Nat.two_pow_pos L;omega
 refine⟨Nat.mul_pos d (Nat.two_pow_pos _),?_,?_,by unfold lastP;omega,by unfold lastP;omega⟩
 ·have:sig m L e<2 ^ (L+1)*2 ^ (e-lastP L e).toNat:=Nat.mul_lt_mul_of_pos_right b (Nat.two_pow_pos _);rw[<-Nat.pow_add]at this;exact Nat.lt_of_lt_of_le this (zev _ (by omega))
 ·by_cases hc:e+L-52< -1074
  ·right;unfold lastP;omega
  ·left;have a:L+(e-lastP L e).toNat=52:=by unfold lastP;omega
   have:2 ^ L*2 ^ (e-lastP L e).toNat<=sig m L e:=Nat.mul_le_mul_right _ c;rw[<-Nat.pow_add,a]at this;exact this
theorem Fits.fw_lt (h:Fits m L e):0<fw m L e/\fw m L e<9218868437227405312:=by
 obtain⟨a,b,c,d,f⟩:=h.sig_bd;unfold fw;omega
theorem Fits.read (h:Fits m L e):Ieee.double.read (fw m L e)=.number false (sig m L e) (lastP L e):=by
 obtain⟨a,b,c,d,f⟩:=h.sig_bd;obtain⟨n,l⟩:=h.fw_lt;obtain⟨k,g⟩:∃k:Nat,lastP L e=-1074+k:=⟨(lastP L e+1074).toNat,by omega⟩
 have i:fw m L e=k*4503599627370496+sig m L e:=by unfold fw;rw[g,show(-1074+(k:Int)+1074).toNat=k from by omega]
 unfold Format.read;rw[sgnW,b52,infR,leastP];have j:fw m L e /9223372036854775808=0:=Nat.div_eq_of_lt (by omega);have o:fw m L e%9223372036854775808=fw m L e:=Nat.mod_eq_of_lt (by omega);rw[j,o];simp only[Nat.zero_mod];rw[g,i];rw[i]at n l;by_cases hn:k*4503599627370496+sig m L e<4503599627370496
 ·grind
 ·grind
theorem Fits.ofNat (h:Fits m L e):floatOfInt .f64 (m:Int)=(L+1022)*4503599627370496+m*2 ^ (52-L):=by
 have h1:=h.len;have f:=h.lo;have a:=h.hi;have g:m≠0:=by have:=Nat.two_pow_pos L;omega
 have c:=zi9 m L f a;unfold floatOfInt FloatKind.nearest FloatKind.encode FloatKind.format;simp only[Format.write];rw[show decide ((m:Int)<0)=false from by simp,Int.natAbs_natCast,zu6 m 0 ((L:Int)-52) g (by rw[c];omega) (by omega)];have b:((L:Int)-52+1074).toNat=L+1022:=by omega
 have d:(0-((L:Int)-52)).toNat=52-L:=by omega
 rw[b,d];have:m*2 ^ (52-L)<9007199254740992:=by
  have:m*2 ^ (52-L)<2 ^ (L+1)*2 ^ (52-L):=Nat.mul_lt_mul_of_pos_right a (Nat.two_pow_pos _);rw[<-Nat.pow_add,show L+1+(52-L)=53 from by omega]at this;exact this
 omega
theorem Fits.full (h:Fits m L e):4503599627370496<=m*2 ^ (52-L)/\m*2 ^ (52-L)<9007199254740992:=by
 have h1:=h.len;have b:=h.lo;have a:=h.hi;constructor
 ·have:2 ^ L*2 ^ (52-L)<=m*2 ^ (52-L):=Nat.mul_le_mul_right _ b;rw[<-Nat.pow_add,show L+(52-L)=52 from by omega]at this;exact this
 ·have:m*2 ^ (52-L)<2 ^ (L+1)*2 ^ (52-L):=Nat.mul_lt_mul_of_pos_right a (Nat.two_pow_pos _);rw[<-Nat.pow_add,show L+1+(52-L)=53 from by omega]at this;exact this
theorem zde (k s:Nat) (hk:1<=k) (hk2:k<=2046) (hs:4503599627370496<=s) (hs2:s<9007199254740992):Ieee.double.read (k*4503599627370496+(s-4503599627370496))=.number false s ((k:Int)-1075):=by
 unfold Format.read;rw[sgnW,b52,infR,leastP];have a:(k*4503599627370496+(s-4503599627370496)) /9223372036854775808=0:=Nat.div_eq_of_lt (by omega);have b:(k*4503599627370496+(s-4503599627370496))%9223372036854775808=k*4503599627370496+(s-4503599627370496):=Nat.mod_eq_of_lt (by omega);have d:(k*4503599627370496+(s-4503599627370496))%4503599627370496=s-4503599627370496:=by omega
 have c:(k*4503599627370496+(s-4503599627370496)) /4503599627370496=k:=by omega
 simp only[a,b,d,c,Nat.zero_mod];rw[if_neg (by omega),if_pos (by omega),show 4503599627370496+(s-4503599627370496)=s from by omega,show -1074+((k-1:Nat):Int)=(k:Int)-1075 from by omega];rfl
theorem Fits.mul_one (h:Fits m L e) (hn:-1022<=e+L):Ieee.double.mul 4607182418800017408 ((e+L+1023).toNat*4503599627370496+(m*2 ^ (52-L)-4503599627370496))=some (fw m L e):=by
 obtain⟨j,i⟩:=h.full;have h1:=h.len;have h2:=h.e0;have h3:=h.e1;obtain⟨g0,c⟩:=h.fw_lt;have d:=zde 1023 4503599627370496 (by omega) (by omega) (by omega) (by omega);rw[show 1023*4503599627370496+(4503599627370496-4503599627370496)=4607182418800017408 from rfl]at d;have f:=zde (e+L+1023).toNat (m*2 ^ (52-L)) (by omega) (by omega) j i;unfold Format.mul;rw[d,f];simp only[Datum.product,Option.map_some,Format.write,Bool.false_xor];generalize hS:m*2 ^ (52-L)=S at *;have g:(4503599627370496*S).log2=104:=zi9 _ _ (by omega) (by omega);have a:lastP L e=e+L-52:=by unfold lastP;omega
 have b:sig m L e=S:=by unfold sig;rw[a,show(e-(e+↑L-52)).toNat=52-L from by omega,hS]
 rw[zhr (4503599627370496*S) S _ (e+L-52) (by omega) (by rw[g];omega) (by omega) (by rw[show(e+(L:Int)-52-(((1023:Nat):Int)-1075+(((e+L+1023).toNat:Int)-1075))).toNat=52 from by omega,Nat.mul_comm])];unfold fw at c ⊢;rw[a,b]at c ⊢;refine congrArg some ?_;exact Nat.min_eq_left (by omega)
theorem Fits.mul_small (h:Fits m L e) (hn:e+L< -1022):Ieee.double.mul 4368491638549381120 ((e+L+1076).toNat*4503599627370496+(m*2 ^ (52-L)-4503599627370496))=some (fw m L e):=by
 obtain⟨k,j⟩:=h.full;have h1:=h.len;have h2:=h.e0;have h3:=h.e1;obtain⟨g0,c⟩:=h.fw_lt;have d:=zde 970 4503599627370496 (by omega) (by omega) (by omega) (by omega);rw[show 970*4503599627370496+(4503599627370496-4503599627370496)=4368491638549381120 from rfl]at d;have g:=zde (e+L+1076).toNat (m*2 ^ (52-L)) (by omega) (by omega) k j;unfold Format.mul;rw[d,g];simp only[Datum.product,Option.map_some,Format.write,Bool.false_xor];have a:lastP L e=-1074:=by unfold lastP;omega
 obtain⟨q,hq⟩:∃q:Nat,e=-1074+q:=⟨(e+1074).toNat,by omega⟩
 have b:sig m L e=m*2 ^ q:=by unfold sig;rw[a,show(e- -1074).toNat=q from by omega]
 have f:4503599627370496*(m*2 ^ (52-L))=m*2 ^ q*2 ^ (104-L-q):=by
  rw[show(4503599627370496:Nat)=2 ^ 52 from by decide,<-Nat.mul_assoc,Nat.mul_comm (2 ^ 52) m,Nat.mul_assoc,<-Nat.pow_add,Nat.mul_assoc,<-Nat.pow_add,show 52+(52-L)=q+(104-L-q)from by omega]
 have i:(4503599627370496*(m*2 ^ (52-L))).log2=104:=zi9 _ _ (by omega) (by omega);rw[zhr _ (m*2 ^ q) (((970:Nat):Int)-1075+(((e+L+1076).toNat:Int)-1075)) (-1074) (by omega) (by rw[i];omega) (by omega) (by rw[f,show((-1074:Int)-(((970:Nat):Int)-1075+(((e+L+1076).toNat:Int)-1075))).toNat=104-L-q from by omega])];unfold fw at c ⊢;rw[a,b]at c ⊢;refine congrArg some ?_;exact Nat.min_eq_left (by omega)
theorem Fits.order_self (h:Fits m L e):Ieee.double.order (fw m L e) (fw m L e)=some .eq:=by
 unfold Format.order;rw[h.read];simp[Datum.order]
theorem Fits.order_zero (h:Fits m L e):Ieee.double.order (fw m L e) 0=some .gt:=by
 obtain⟨a,b,c,d,f⟩:=h.sig_bd;unfold Format.order;have g:Ieee.double.read 0=.number false 0 (-1074):=by decide
 rw[h.read,g];simp only[Datum.order,signed,Bool.false_eq_true,if_false,Nat.zero_shiftLeft];rw[show min (lastP L e) (-1074)=-1074 from by omega,Nat.shiftLeft_eq];have:0<sig m L e*2 ^ (lastP L e- -1074).toNat:=Nat.mul_pos a (Nat.two_pow_pos _);generalize sig m L e*2 ^ (lastP L e- -1074).toNat=N at this;simp only[compare,compareOfLessAndEq];rw[if_neg (by omega),if_neg (by omega)]
theorem Fits.order_max (h:Fits m L e):Ieee.double.order (fw m L e) 9218868437227405311=some .lt\/Ieee.double.order (fw m L e) 9218868437227405311=some .eq:=by
 obtain⟨a,b,c,d,f⟩:=h.sig_bd;unfold Format.order;have g:Ieee.double.read 9218868437227405311=.number false 9007199254740991 971:=by decide
 rw[h.read,g];simp only[Datum.order,signed,Bool.false_eq_true,if_false];rw[show min (lastP L e) 971=lastP L e from by omega,show(lastP L e-lastP L e).toNat=0 from by omega,Nat.shiftLeft_zero,Nat.shiftLeft_eq];have:sig m L e<=9007199254740991*2 ^ (971-lastP L e).toNat:=Nat.le_trans (by omega) (Nat.le_mul_of_pos_right 9007199254740991 (Nat.two_pow_pos _));generalize 9007199254740991*2 ^ (971-lastP L e).toNat=N at this;simp only[compare,compareOfLessAndEq];by_cases h:(sig m L e:Int)<(N:Int)
 ·rw[if_pos h];exact .inl rfl
 ·grind
theorem Fits.fields (h:Fits m L e):∃z:Nat,z<=52/\sig m L e=m*2 ^ z/\e=lastP L e+z/\
 ((fw m L e /4503599627370496=0/\fw m L e%4503599627370496=m*2 ^ z/\e=-1074+z)\/(∃k:Nat,fw m L e /4503599627370496=k+1/\k+1<=2046/\fw m L e%4503599627370496+4503599627370496=m*2 ^ z/\e=(k:Int)-1074+z)):=by
 obtain⟨a,b,c,d,f⟩:=h.sig_bd;have h1:=h.len;have h2:=h.e0;have h3:=h.e1;have h0:=h.last_le;refine⟨(e-lastP L e).toNat,by unfold lastP;omega,rfl,by omega,?_⟩;obtain⟨k,i⟩:∃k:Nat,lastP L e=-1074+k:=⟨(lastP L e+1074).toNat,by omega⟩
 have j:fw m L e=k*4503599627370496+sig m L e:=by unfold fw;rw[i,show(-1074+(k:Int)+1074).toNat=k from by omega]
 have g:m*2 ^ (e-lastP L e).toNat=sig m L e:=rfl;rw[g,j];by_cases hn:sig m L e<4503599627370496
 ·omega
 ·grind
theorem zw8 (m z:Nat) (hm:m%2=1) (hz:m*2 ^ z<18446744073709551616):Lib.ctz 64 (m*2 ^ z)=z:=by
 have b:0<m*2 ^ z:=Nat.mul_pos (by omega) (Nat.two_pow_pos _);obtain⟨q,a,_⟩:=Lib.ctzFrom_spec 64 (m*2 ^ z) b hz;unfold Lib.ctz;rw[if_neg (by omega)];generalize Lib.ctzFrom 64 (m*2 ^ z)=c at a;rcases Nat.lt_trichotomy c z with h|h|h
 ·obtain⟨d,rfl⟩:∃d,z=c+(d+1):=⟨z-c-1,by omega⟩
  rw[Nat.pow_add,Nat.mul_left_comm]at a;have:=Nat.eq_of_mul_eq_mul_left (Nat.two_pow_pos c) a;rw[Nat.pow_succ,<-Nat.mul_assoc]at this;omega
 ·exact h
 ·obtain⟨d,rfl⟩:∃d,c=z+(d+1):=⟨c-z-1,by omega⟩
  rw[Nat.pow_add,Nat.mul_assoc,Nat.mul_comm m]at a;have:=Nat.eq_of_mul_eq_mul_left (Nat.two_pow_pos z) a;rw[Nat.pow_succ,Nat.mul_assoc,Nat.mul_left_comm]at this;omega
end
end Flt
theorem zbp (a b:Nat) (ha:a<18446744073709551616) (hb:b<18446744073709551616):
 bits .andNot .u64 (a:Int) (b:Int)=((a &&& (18446744073709551615-b):Nat):Int):=by
 have hx:a &&& (18446744073709551615-b)<2 ^ 64:=Nat.and_lt_two_pow _ (by omega);have d:(BitVec.ofInt 64 (a:Int)).toNat=a:=by
  grind
 have c:(BitVec.ofInt 64 (b:Int)).toNat=b:=by
  grind
 show IntKind.u64.wrap ((BitVec.ofInt 64 (a:Int) &&& ~~~ BitVec.ofInt 64 (b:Int)).toNat:Int)=_;rw[BitVec.toNat_and,BitVec.toNat_not,d,c,IntKind.wrap_u64];rw[show 2 ^ 64-1-b=18446744073709551615-b from by omega];omega
theorem zeh (a n:Nat):a &&& (2 ^ n-1)=a%2 ^ n:=Nat.and_two_pow_sub_one_eq_mod a n
theorem zu7 (a n:Nat) (h:a<2 ^ n):a &&& 2 ^ n=0:=by
 apply Nat.eq_of_testBit_eq;intro i;rw[Nat.testBit_and,Nat.testBit_two_pow,Nat.zero_testBit];by_cases hi:n=i
 ·subst hi;rw[Nat.testBit_lt_two_pow h];rfl
 ·simp[hi]
theorem zw9 (f k n:Nat) (h:f<2 ^ n):f ||| (k*2 ^ n)=f+k*2 ^ n:=by
 rw[Nat.or_comm,Nat.mul_comm,<-Nat.two_pow_add_eq_or_of_lt h,Nat.add_comm]
theorem zja (a:Nat) (h:a<9223372036854775808):bits .andNot .u64 (a:Int) 9223372036854775808=(a:Int):=by
 have:=zbp a 9223372036854775808 (by omega) (by omega);rw[show(18446744073709551615-9223372036854775808:Nat)=2 ^ 63-1 from by decide,zeh,Nat.mod_eq_of_lt (by omega)]at this;exact this
theorem zr4 (a:Nat) (h:a<18446744073709551616):bits .and .u64 (a:Int) 4503599627370495=((a%4503599627370496:Nat):Int):=by
 have:=bits_and_u64_nat a 4503599627370495 h (by omega);rw[show(4503599627370495:Nat)=2 ^ 52-1 from by decide,zeh]at this;exact this
theorem zlt (a:Nat) (h:a<9223372036854775808):bits .andNot .u64 (a:Int) 9218868437227405312=((a%4503599627370496:Nat):Int):=by
 have:=zbp a 9218868437227405312 (by omega) (by omega);rw[show(18446744073709551615-9218868437227405312:Nat)=(2 ^ 52-1) ||| 2 ^ 63 from by decide,Nat.and_or_distrib_left,zeh,zu7 a 63 (by omega),Nat.or_zero]at this;exact this
theorem zog (f k:Nat) (h:f<4503599627370496) (hk:k<4096):bits .or .u64 (f:Int) ((k*4503599627370496:Nat):Int)=((k*4503599627370496+f:Nat):Int):=by
 have:=bits_or_u64_nat f (k*4503599627370496) (by omega) (by omega);rw[show f |||k*4503599627370496=f+k*4503599627370496 from zw9 f k 52 h,Nat.add_comm]at this;exact this
theorem or_one (f:Nat) (h:f<4503599627370496):bits .or .u64 (f:Int) 4503599627370496=((f+4503599627370496:Nat):Int):=by
 have:=zog f 1 h (by omega);rw[Nat.one_mul,Nat.add_comm]at this;exact this
theorem zu8 (k:Nat) (h:k<2048):bits .and .i64 (k:Int) 2047=(k:Int):=by
 have b:(BitVec.ofInt 64 (k:Int)).toNat=k:=by
  grind
 have a:(BitVec.ofInt 64 (2047:Int)).toNat=2047:=by decide
 show IntKind.i64.wrap ((BitVec.ofInt 64 (k:Int) &&& BitVec.ofInt 64 2047).toNat:Int)=_;rw[BitVec.toNat_and,b,a,show(2047:Nat)=2 ^ 11-1 from by decide,zeh,Nat.mod_eq_of_lt (by omega)];simp[IntKind.wrap,IntKind.signed,IntKind.bits];omega
end Go.Proofs.YtoigpackhninoaaGreatDoor
