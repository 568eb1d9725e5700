import Derived.Test.YtknaalohaagcdaaGreatDoorG01
import Derived.Test.YtknaalohaagcdaaGreatDoorG06
import Derived.Test.YtknaalohaagcdaaGreatDoorG11
import Derived.Shelf.Utf8.AppendRune
import Derived.Shelf.Utf8.AppendRunePlain
import Derived.Shelf.Strconv.Itoa0
import Derived.Shelf.Strconv.Itoa1
import Derived.Shelf.LaysM
import Derived.Shelf.Strconv.Itoa2
import Derived.Shelf.Strings.LastIndex
import Derived.Shelf.Strconv.AppendUint10
import Derived.Shelf.Spec.DecodeRune
import Derived.Shelf.Spec.SlicesGrow
import Derived.Test.YtknaalohaagcdaaGreatDoorProg
import Derived.Deep.RegionHeld3
set_option maxHeartbeats 400000000
set_option maxRecDepth 100000
namespace Go.Proofs
open Go.Shelf
def Tryz.lays283_ren:Go.Shelf.Ren:=⟨fun|283=>178|n=>n,fun|3=>3|9=>9|4=>4|n=>n,fun|n=>n⟩
theorem Tryz.lays283:Go.Proofs.Lays.n283 Tryz.prog Tryz.lays283_ren:={
 mixed:=by kernel_rfl
 f283:=Tryz.func178.trans (congrArg some (by kernel_rfl))
 t3:=Tryz.underlying3
 a3:=Tryz.isAgg3
 z3:=Tryz.sizeOf3
 v3:=Tryz.zeroValue3
 t4:=Tryz.underlying4
 a4:=Tryz.isAgg4
 z4:=Tryz.sizeOf4
 v4:=Tryz.zeroValue4
 t9:=Tryz.underlying9
 a9:=Tryz.isAgg9
 z9:=Tryz.sizeOf9
 v9:=Tryz.zeroValue9 }
open Go.Lib in
theorem Tryz.internal_strconv_small (i:Nat) (h:i<100) (w:World):
  Calls Tryz.prog 178 #[.int .i64 i] w fun e w'=>e=.returned (.string ⟨(Lib.decDigits i).toArray⟩)∧w'=w:=Any.internal_strconv_small Tryz.lays283 i h w
def Tryz.laysM284_ren:Go.Shelf.Ren:=⟨fun|284=>179|129=>183|317=>182|318=>184|n=>n,fun|53=>68|3=>3|212=>254|0=>0|4=>4|46=>111|5=>5|9=>9|n=>n,fun|17=>15|n=>n⟩
theorem Tryz.laysM284:Go.Proofs.LaysM.n284 Tryz.prog Tryz.laysM284_ren:={
 mixed:=by kernel_rfl
 f129:=Tryz.func183.trans (congrArg some (by kernel_rfl))
 f284:=Tryz.func179.trans (congrArg some (by kernel_rfl))
 f317:=Tryz.func182.trans (congrArg some (by kernel_rfl))
 f318:=Tryz.func184.trans (congrArg some (by kernel_rfl))
 t0:=Tryz.underlying0
 a0:=Tryz.isAgg0
 z0:=Tryz.sizeOf0
 v0:=Tryz.zeroValue0
 t3:=Tryz.underlying3
 a3:=Tryz.isAgg3
 z3:=Tryz.sizeOf3
 v3:=Tryz.zeroValue3
 t4:=Tryz.underlying4
 a4:=Tryz.isAgg4
 z4:=Tryz.sizeOf4
 v4:=Tryz.zeroValue4
 t5:=Tryz.underlying5
 a5:=Tryz.isAgg5
 z5:=Tryz.sizeOf5
 v5:=Tryz.zeroValue5
 t9:=Tryz.underlying9
 a9:=Tryz.isAgg9
 z9:=Tryz.sizeOf9
 v9:=Tryz.zeroValue9
 t46:=Tryz.underlying111
 a46:=Tryz.isAgg111
 z46:=Tryz.sizeOf111
 v46:=Tryz.zeroValue111
 t53:=Tryz.underlying68
 a53:=Tryz.isAgg68
 z53:=Tryz.sizeOf68
 v53:=Tryz.zeroValue68
 t212:=Tryz.underlying254
 a212:=Tryz.isAgg254
 z212:=Tryz.sizeOf254
 v212:=Tryz.zeroValue254
 g17:=by kernel_rfl
 i0:=by kernel_rfl
 i3:=by kernel_rfl
 i4:=by kernel_rfl
 i5:=by kernel_rfl
 i9:=by kernel_rfl
 i46:=by kernel_rfl
 i53:=by kernel_rfl
 i212:=by kernel_rfl
 m17:=by kernel_rfl }
open Go.Lib in
theorem Tryz.internal_strconv_numDigits (u:Nat) (h1:1≤u) (h2:u<18446744073709551616) (w:World) (htab:Lib.TabIs Tryz.prog w "internal/strconv.uint64pow10" .u64 Lib.pow10Tab):
  Calls Tryz.prog 179 #[.int .u64 u] w fun e w'=>e=.returned (.int .i64 (Lib.nDigits u))∧w'=w:=Any.internal_strconv_numDigits Tryz.laysM284 u h1 h2 w htab
def Tryz.lays285_ren:Go.Shelf.Ren:=⟨fun|285=>180|n=>n,fun|37=>47|53=>68|3=>3|4=>4|51=>239|9=>9|5=>5|0=>0|n=>n,fun|n=>n⟩
theorem Tryz.lays285:Go.Proofs.Lays.n285 Tryz.prog Tryz.lays285_ren:={
 mixed:=by kernel_rfl
 f285:=Tryz.func180.trans (congrArg some (by kernel_rfl))
 t0:=Tryz.underlying0
 a0:=Tryz.isAgg0
 z0:=Tryz.sizeOf0
 v0:=Tryz.zeroValue0
 t3:=Tryz.underlying3
 a3:=Tryz.isAgg3
 z3:=Tryz.sizeOf3
 v3:=Tryz.zeroValue3
 t4:=Tryz.underlying4
 a4:=Tryz.isAgg4
 z4:=Tryz.sizeOf4
 v4:=Tryz.zeroValue4
 t5:=Tryz.underlying5
 a5:=Tryz.isAgg5
 z5:=Tryz.sizeOf5
 v5:=Tryz.zeroValue5
 t9:=Tryz.underlying9
 a9:=Tryz.isAgg9
 z9:=Tryz.sizeOf9
 v9:=Tryz.zeroValue9
 t37:=Tryz.underlying47
 a37:=Tryz.isAgg47
 z37:=Tryz.sizeOf47
 v37:=Tryz.zeroValue47
 t51:=Tryz.underlying239
 a51:=Tryz.isAgg239
 z51:=Tryz.sizeOf239
 v51:=Tryz.zeroValue239
 t53:=Tryz.underlying68
 a53:=Tryz.isAgg68
 z53:=Tryz.sizeOf68
 v53:=Tryz.zeroValue68 }
open Go.RowKit Go.Sort Go.Lib in
theorem Tryz.internal_strconv_formatBase10 (blk off cap:Nat) (u:Nat) (d:Array UInt8) (w:World) (hH:Holds (fun (b:UInt8)=>Value.int .u8 (b.toNat:Int)) w blk off d) (hu:u<10 ^ d.size) (hu64:u<18446744073709551616) (hsz:d.size<4611686018427387904):
  Calls Tryz.prog 180 #[.slice (some ⟨blk,off,none⟩) d.size cap,.int .u64 u] w fun e w'=>
   e=.returned (.tuple #[])∧∃ (n v':Nat) (dk:Array UInt8),w'=(putRow (fun (b:UInt8)=>Value.int .u8 (b.toNat:Int)) w blk off dk).drewN n∧FmtInv d.size u 0 v' dk:=Any.internal_strconv_formatBase10 Tryz.lays285 blk off cap u d w hH hu hu64 hsz
def Tryz.lays7n32_ren:Go.Shelf.Ren:=⟨fun|32=>142|49=>164|n=>n,fun|30=>47|21=>21|3=>3|0=>0|5=>5|4=>4|33=>202|66=>240|25=>111|69=>243|68=>242|n=>n,fun|2=>12|3=>13|n=>n⟩
theorem Tryz.lays7n32:Go.Proofs.Lays7.n32 Tryz.prog Tryz.lays7n32_ren:={
 mixed:=by kernel_rfl
 f32:=Tryz.func142.trans (congrArg some (by kernel_rfl))
 f49:=Tryz.func164.trans (congrArg some (by kernel_rfl))
 t0:=Tryz.underlying0
 a0:=Tryz.isAgg0
 z0:=Tryz.sizeOf0
 v0:=Tryz.zeroValue0
 i0:=by kernel_rfl
 t3:=Tryz.underlying3
 a3:=Tryz.isAgg3
 z3:=Tryz.sizeOf3
 v3:=Tryz.zeroValue3
 i3:=by kernel_rfl
 t4:=Tryz.underlying4
 a4:=Tryz.isAgg4
 z4:=Tryz.sizeOf4
 v4:=Tryz.zeroValue4
 i4:=by kernel_rfl
 t5:=Tryz.underlying5
 a5:=Tryz.isAgg5
 z5:=Tryz.sizeOf5
 v5:=Tryz.zeroValue5
 i5:=by kernel_rfl
 t21:=Tryz.underlying21
 a21:=Tryz.isAgg21
 z21:=Tryz.sizeOf21
 v21:=Tryz.zeroValue21
 i21:=by kernel_rfl
 t25:=Tryz.underlying111
 a25:=Tryz.isAgg111
 z25:=Tryz.sizeOf111
 v25:=Tryz.zeroValue111
 i25:=by kernel_rfl
 t30:=Tryz.underlying47
 a30:=Tryz.isAgg47
 z30:=Tryz.sizeOf47
 v30:=Tryz.zeroValue47
 i30:=by kernel_rfl
 t33:=Tryz.underlying202
 a33:=Tryz.isAgg202
 z33:=Tryz.sizeOf202
 v33:=Tryz.zeroValue202
 i33:=by kernel_rfl
 t66:=Tryz.underlying240
 a66:=Tryz.isAgg240
 z66:=Tryz.sizeOf240
 t68:=Tryz.underlying242
 a68:=Tryz.isAgg242
 z68:=Tryz.sizeOf242
 v68:=Tryz.zeroValue242
 i68:=by kernel_rfl
 t69:=Tryz.underlying243
 a69:=Tryz.isAgg243
 z69:=Tryz.sizeOf243
 v69:=Tryz.zeroValue243
 i69:=by kernel_rfl
 g2:=by kernel_rfl
 g3:=by kernel_rfl }
open Go.RowKit Go.Lib in
theorem Tryz.utf8_DecodeRune (s:ByteArray) (b off cap:Nat) (w:World) (hT:Lib.Utf8Tabs 12 13 w)
  (hp:∀ j,j<s.size→w.cell? ⟨b,off+j,none⟩=some (.int .u8 (s.get! j).toNat)):
  Calls Tryz.prog 142 #[.slice (some ⟨b,off,none⟩) s.size cap] w fun e w'=>e=.returned (.tuple #[.int .i32 (Lib.decodeGo s).1,.int .i64 (Lib.decodeGo s).2])∧Below w.heap.size w w':=Any7.utf8_DecodeRune Tryz.lays7n32 s b off cap w hT hp
def Tryz.lays8n4_ren:Go.Shelf.Ren:=⟨fun|4=>172|n=>n,fun|22=>47|25=>5|3=>3|4=>4|9=>9|20=>20|0=>0|n=>n,fun|n=>n⟩
theorem Tryz.lays8n4:Go.Proofs.Lays8.n4 Tryz.prog Tryz.lays8n4_ren:={
 mixed:=by kernel_rfl
 f4:=⟨Tryz.f172.name,by decide,Tryz.func172.trans (congrArg some (by kernel_rfl))⟩
 t0:=Tryz.underlying0
 a0:=Tryz.isAgg0
 z0:=Tryz.sizeOf0
 v0:=Tryz.zeroValue0
 t3:=Tryz.underlying3
 a3:=Tryz.isAgg3
 z3:=Tryz.sizeOf3
 v3:=Tryz.zeroValue3
 t4:=Tryz.underlying4
 a4:=Tryz.isAgg4
 z4:=Tryz.sizeOf4
 v4:=Tryz.zeroValue4
 t9:=Tryz.underlying9
 a9:=Tryz.isAgg9
 z9:=Tryz.sizeOf9
 v9:=Tryz.zeroValue9
 t20:=Tryz.underlying20
 a20:=Tryz.isAgg20
 z20:=Tryz.sizeOf20
 v20:=Tryz.zeroValue20
 t22:=Tryz.underlying47
 a22:=Tryz.isAgg47
 z22:=Tryz.sizeOf47
 v22:=Tryz.zeroValue47 }
open Go.RowKit in
theorem Tryz.slices_Grow_room (base:Option Addr) (l c n:Nat) (w:World) (hlc:l≤c) (hc63:c≤9223372036854775807) (hn63:n≤9223372036854775807) (hroom:l+n≤c):
  Calls Tryz.prog 172 #[.slice base l c,.int .i64 n] w fun e w'=>e=.returned (.slice base l c)∧w'=w:=Any8.slices_Grow_room Tryz.lays8n4 base l c n w hlc hc63 hn63 hroom
open Go.RowKit in
theorem Tryz.slices_Grow_grow (i0:TypeInfo) (z:Value) (hi0:Tryz.prog.info? 5=some i0) (hz0:i0.zero=some z) (hs0:0<i0.size)
  (base:Option Addr) (l c n:Nat) (cs:List Value) (w:World) (hlc:l≤c) (hroom:c<l+n) (hbig:(l+n) * i0.bytes≤140737488355328) (h63:l+n≤4611686018427387904)
  (hcl:cs.length=c * i0.size) (hnil:base=none→c=0) (hcs:∀ a,base=some a→∀ j v,cs[j]? = some v→w.cell? (a.add j)=some v):
  Calls Tryz.prog 172 #[.slice base l c,.int .i64 n] w fun e w'=>
   e=.returned (.slice (some ⟨w.heap.size,0,none⟩) l (grownCap w (l+n) c 5))∧
   w'=w.drew.alloc (.cells (cs.toArray++Builtin.zeroCells z.cells (l+n-c)++Builtin.zeroCells z.cells (grownCap w (l+n) c 5-(l+n))) 5):=Any8.slices_Grow_grow Tryz.lays8n4 i0 z hi0 hz0 hs0 base l c n cs w hlc hroom hbig h63 hcl hnil hcs
end Go.Proofs
namespace Go.Proofs.YtknaalohaagcdaaGreatDoor.Own
open Go.RowKit JG
theorem chainN_on(l m:Int)(r:List (Int × Int))(b:Int)(t:List Int):chainN ((l,m)::r) (b::t)=if l≤b∧b≤m then (chainN r t).map (·+1) else none:=by
 by_cases h:l≤b∧b≤m
 ·rw [chainN_yes (by rw [needs_cons,if_pos h]),if_pos h]
  rfl
 ·rw [chainN_no (by rw [needs_cons,if_neg h]; simp),if_neg h]
theorem chainN_out(l m:Int)(r:List (Int × Int)):chainN ((l,m)::r) []=none:=chainN_no (by simp [needs])
theorem chainN_all(t:List Int):chainN [] t=some 0:=rfl
def DR(xs:List Int)(r:Int)(k:Nat):Prop:=
 (xs.headD 0<128∧r=xs.headD 0∧k=1)∨(¬ xs.headD 0<128∧runeO xs=some k∧2≤k)∨(¬ xs.headD 0<128∧runeO xs=none∧r=65533∧k=1)
def Agrees(o:Option Nat)(d:Nat × Nat):Prop:=match o with|some k=>d.2=k∧2≤k|none=>d=(65533,1)
theorem agree1(a b c d:Nat)(ha:128≤a)(h0:a≤255):Agrees (runeO [(a:Int)]) (Lib.decodeN 1 a b c d):=by
 unfold runeO Lib.decodeN
 simp only [List.headD_cons,List.tail_cons,chainN_out,Option.map_none]
 repeat' split
 all_goals first|(unfold Agrees; simp; done)|omega
theorem agree2(a b c d:Nat)(ha:128≤a)(h0:a≤255)(h1:b≤255):Agrees (runeO [(a:Int),(b:Int)]) (Lib.decodeN 2 a b c d):=by
 unfold runeO Lib.decodeN
 simp only [List.headD_cons,List.tail_cons,chainN_on,chainN_out,chainN_all,Option.map_none]
 repeat' split
 all_goals first|(unfold Agrees; simp; done)|(exfalso; omega)|(unfold Agrees; simp; omega)
theorem agree3(a b c d:Nat)(ha:128≤a)(h0:a≤255)(h1:b≤255)(h2:c≤255):Agrees (runeO [(a:Int),(b:Int),(c:Int)]) (Lib.decodeN 3 a b c d):=by
 unfold runeO Lib.decodeN
 simp only [List.headD_cons,List.tail_cons,chainN_on,chainN_out,chainN_all,Option.map_none]
 repeat' (first|(exfalso; omega)|split)
 all_goals first|(unfold Agrees; simp; done)|(exfalso; omega)|(unfold Agrees; simp; omega)
theorem agree4(n a b c d:Nat)(t:List Int)(hn:4≤n)(ha:128≤a)(h0:a≤255)(h1:b≤255)(h2:c≤255)(h3:d≤255):Agrees (runeO ((a:Int)::(b:Int)::(c:Int)::(d:Int)::t)) (Lib.decodeN n a b c d):=by
 unfold runeO Lib.decodeN
 simp only [List.headD_cons,List.tail_cons,chainN_on,chainN_all]
 repeat' (first|(exfalso; omega)|split)
 all_goals first|(unfold Agrees; simp; done)|(exfalso; omega)|(unfold Agrees; simp; omega)
theorem extract_get(s:ByteArray)(p j:Nat)(h:p+j<s.size):((s.extract p s.size).get! j).toNat=(s[p+j]'h).toNat:=by
 have hj:j<(s.extract p s.size).data.size:=by
  have:(s.extract p s.size).size=s.size-p:=by simp
  show j<(s.extract p s.size).size
  omega
 have e:(s.extract p s.size).get! j=s[p+j]'h:=by
  show (s.extract p s.size).data[j]! = s.data[p+j]'h
  exact (getElem!_pos (s.extract p s.size).data j hj).trans (by simp [ByteArray.data_extract])
 rw [e]
theorem decode_DR(s:ByteArray)(p:Nat)(hp:p<s.size):DR ((bytes s).drop p) ((Lib.decodeGo (s.extract p s.size)).1:Nat) (Lib.decodeGo (s.extract p s.size)).2:=by
 have hsz:(s.extract p s.size).size=s.size-p:=by simp
 have hd:Lib.decodeGo (s.extract p s.size)=Lib.decodeN (s.size-p) ((s.extract p s.size).get! 0).toNat ((s.extract p s.size).get! 1).toNat ((s.extract p s.size).get! 2).toNat ((s.extract p s.size).get! 3).toNat:=by
  unfold Lib.decodeGo
  rw [if_neg (by omega),Lib.decode_at,hsz]
  rfl
 have b0:((s.extract p s.size).get! 0).toNat=s[p].toNat:=extract_get s p 0 (by omega)
 have hl:=s[p].toNat_lt
 have e0:=bytes_drop hp
 have fin:∀ (d:Nat × Nat),Agrees (runeO ((bytes s).drop p)) d→¬ (s[p].toNat:Int)<128→DR ((bytes s).drop p) (d.1:Nat) d.2:=by
  intro d ha hn
  have hh:((bytes s).drop p).headD 0=(s[p].toNat:Int):=by rw [e0]; rfl
  unfold DR
  rw [hh]
  cases hr:runeO ((bytes s).drop p) with
  |none=>
   rw [hr] at ha
   have:d=(65533,1):=ha
   subst this
   exact .inr (.inr ⟨hn,rfl,rfl,rfl⟩)
  |some k=>
   rw [hr] at ha
   have:d.2=k∧2≤k:=ha
   exact .inr (.inl ⟨hn,by rw [this.1],by omega⟩)
 by_cases ha:(s[p].toNat:Int)<128
 ·left
  rw [hd,b0]
  unfold Lib.decodeN
  rw [if_pos (by omega)]
  exact ⟨by rw [e0]; exact ha,by rw [e0]; rfl,rfl⟩
 ·refine fin _ ?_ ha
  rw [hd,b0,e0]
  by_cases h1:p+1<s.size
  ·have b1:=extract_get s p 1 h1
   have hl1:=s[p+1].toNat_lt
   rw [bytes_drop h1,b1]
   by_cases h2:p+1+1<s.size
   ·have b2:=extract_get s p 2 h2
    have hl2:=s[p+1+1].toNat_lt
    rw [bytes_drop h2,b2]
    by_cases h3:p+1+1+1<s.size
    ·have b3:=extract_get s p 3 h3
     have hl3:=s[p+1+1+1].toNat_lt
     rw [bytes_drop h3,b3]
     exact agree4 _ _ _ _ _ _ (by omega) (by omega) (by omega) (by omega) (by omega) (by omega)
    ·rw [bytes_end (by omega),show s.size-p=3 by omega]
     exact agree3 _ _ _ _ (by omega) (by omega) (by omega) (by omega)
   ·rw [bytes_end (by omega),show s.size-p=2 by omega]
    exact agree2 _ _ _ _ (by omega) (by omega) (by omega)
  ·rw [bytes_end (by omega),show s.size-p=1 by omega]
   exact agree1 _ _ _ _ (by omega) (by omega)
theorem decode142(B p cap:Nat)(s:ByteArray)(w:World)(hT:Lib.Utf8Tabs 12 13 w)(hp:p<s.size)(hB:Bf w B s):
  Calls Tryz.prog 142 #[.slice (some ⟨B,p,none⟩) (s.size-p) cap] w fun e w'=>∃ (r:Int) (k:Nat),e=.returned (.tuple #[.int .i32 r,.int .i64 k])∧DR ((bytes s).drop p) r k∧Below w.heap.size w w':=by
 have hsz:(s.extract p s.size).size=s.size-p:=by simp
 have C:=Tryz.utf8_DecodeRune (s.extract p s.size) B p cap w hT (fun j hj=>by rw [extract_get s p j (by omega)]; exact hB (p+j) (by omega))
 rw [hsz] at C
 exact C.mono fun e w' ⟨h1,h2⟩=>⟨_,_,h1,decode_DR s p hp,h2⟩
structure Fr(S:Nat→Prop)(w w':World):Prop where
 os:w'.os=w.os
 tape:w'.tape=w.tape
 output:w'.output=w.output
 size:w.heap.size≤w'.heap.size
 block:∀ i,i<w.heap.size→¬ S i→w'.heap[i]? = w.heap[i]?
theorem Fr.refl(S:Nat→Prop)(w:World):Fr S w w:=⟨rfl,rfl,rfl,Nat.le_refl _,fun _ _ _=>rfl⟩
theorem Fr.trans{S:Nat→Prop}{a b c:World}(h:Fr S a b)(k:Fr S b c):Fr S a c:=
 ⟨k.os.trans h.os,k.tape.trans h.tape,k.output.trans h.output,Nat.le_trans h.size k.size,fun i hi hn=>(k.block i (Nat.lt_of_lt_of_le hi h.size) hn).trans (h.block i hi hn)⟩
theorem Fr.of_gb{S:Nat→Prop}{a b:World}{row:Option Nat}(h:a.grownBy b row)(hs:∀ k,row=some k→k<a.heap.size→S k):Fr S a b:=
 ⟨h.os,h.tape,h.output,h.size,fun i hi hn=>h.block i hi (fun e=>hn (hs i e.symm hi))⟩
theorem Fr.mono{S T:Nat→Prop}{a b:World}(h:Fr S a b)(hs:∀ i,i<a.heap.size→S i→T i):Fr T a b:=
 ⟨h.os,h.tape,h.output,h.size,fun i hi hn=>h.block i hi (fun e=>hn (hs i hi e))⟩
theorem Fr.drewN{S:Nat→Prop}{a b:World}(h:Fr S a b)(n:Nat):Fr S a (b.drewN n):=⟨h.os,h.tape,h.output,h.size,h.block⟩
theorem Nd.facts2{w:World}{m:Nat}{k:Int}{tx:ByteArray}{ns ks:Value}(h:Nd w m k tx ns ks):
  w.cell? ⟨m,2,none⟩=some ns∧w.cell? ⟨m,3,none⟩=some ks∧w.frozen? ⟨m,2,none⟩=false∧w.frozen? ⟨m,3,none⟩=false:=by
 unfold Nd at h
 refine ⟨cell_of_row _ _ 2 _ _ (0,0) h,cell_of_row _ _ 3 _ _ (0,0) h,?_,?_⟩<;>(unfold World.frozen?; simp only [h]; simp)
theorem Nd.setNames{w:World}{m:Nat}{k:Int}{tx:ByteArray}{ns ks:Value}(h:Nd w m k tx ns ks)(v:Value):Nd (w.setCell ⟨m,2,none⟩ v) m k tx v ks:=by
 unfold Nd at *
 rw [heap_setCell_same _ _ _ _ _ _ h]
 rfl
theorem Nd.setKids{w:World}{m:Nat}{k:Int}{tx:ByteArray}{ns ks:Value}(h:Nd w m k tx ns ks)(v:Value):Nd (w.setCell ⟨m,3,none⟩ v) m k tx ns v:=by
 unfold Nd at *
 rw [heap_setCell_same _ _ _ _ _ _ h]
 rfl
theorem Nd.block{w w':World}{m:Nat}{k:Int}{tx:ByteArray}{ns ks:Value}(h:Nd w m k tx ns ks)(e:w'.heap[m]? = w.heap[m]?):Nd w' m k tx ns ks:=by
 unfold Nd at *
 rw [e]
 exact h
theorem R.block{w w':World}{g:Nat}{s:ByteArray}{p:Nat}{tw lo:Bool}{fa:Int}{op:Bool}(h:R w g s p tw lo fa op)(e:w'.heap[g]? = w.heap[g]?):R w' g s p tw lo fa op:=⟨by rw [e]; exact h.1,h.2⟩
theorem Nd.lt{w:World}{m:Nat}{k:Int}{tx:ByteArray}{ns ks:Value}(h:Nd w m k tx ns ks):m<w.heap.size:=(Array.getElem?_eq_some_iff.1 h).1
theorem R.lt{w:World}{g:Nat}{s:ByteArray}{p:Nat}{tw lo:Bool}{fa:Int}{op:Bool}(h:R w g s p tw lo fa op):g<w.heap.size:=(Array.getElem?_eq_some_iff.1 h.1).1
theorem info9:(Tryz.prog.info? 9).map (fun i=>(i.zero,i.size,i.bytes))=some (some (.string ⟨#[]⟩),1,16):=by kernel_rfl
theorem own_block{w w':World}{base:Nat}{e:TypeId}{size:Nat}{v:Value}{n:Nat}{xs:List Value}(h:w.ownsRow base e size v n xs)(hk:∀ k,v.ownBlock=some k→w'.heap[k]? = w.heap[k]?):w'.ownsRow base e size v n xs:=by
 refine ⟨h.1,?_⟩
 rcases h.2 with h0|⟨g,cap,cur,rfl,hb,hg,h1⟩
 ·exact .inl h0
 ·exact .inr ⟨g,cap,cur,rfl,hb,by rw [hk g rfl]; exact hg,h1⟩
def chkT(tw:Bool):List (List Int)→Bool × Bool:=if tw then noChk else chkS decq
def plainB(c:Int):Bool:=decide (c<128)&&decide (32≤c)&&(c != 92)&&(c != 34)
theorem noEsc157(c:Int)(w:World):Calls Tryz.prog 157 #[.int .u8 c] w fun e w'=>e=.returned (.bool (plainB c))∧w'=w:=by
 unfold plainB
 by_cases h1:c<128
 ·have t1:decide (c<128)=true:=by simpa using h1
  by_cases h2:32≤c
  ·have t2:decide (32≤c)=true:=by simpa using h2
   by_cases h3:c=92
   ·subst h3
    go_enter Tryz.func157,Tryz.ntmps157
    go_wp2_with fail
    go_ret
    exact ⟨rfl,rfl⟩
   ·have t3:(c==92)=false:=by simpa using h3
    rw [t1,t2]
    go_enter Tryz.func157,Tryz.ntmps157
    go_wp2_with fail
    go_ret
    exact ⟨by simp,rfl⟩
  ·have t2:decide (32≤c)=false:=by simpa using h2
   rw [t1,t2]
   go_enter Tryz.func157,Tryz.ntmps157
   go_wp2_with fail
   go_ret
   exact ⟨rfl,rfl⟩
 ·have t1:decide (c<128)=false:=by simpa using h1
  rw [t1]
  go_enter Tryz.func157,Tryz.ntmps157
  go_wp2_with fail
  go_ret
  exact ⟨rfl,rfl⟩
theorem surr161(c:Int)(w:World):Calls Tryz.prog 161 #[.int .i32 c] w fun e w'=>e=.returned (.bool (decide (55296≤c)&&decide (c<57344)))∧w'=w:=by
 by_cases h1:55296≤c
 ·have t1:decide (55296≤c)=true:=by simpa using h1
  rw [t1]
  go_enter Tryz.func161,Tryz.ntmps161
  go_wp2_with fail
  go_ret
  exact ⟨rfl,rfl⟩
 ·have t1:decide (55296≤c)=false:=by simpa using h1
  rw [t1]
  go_enter Tryz.func161,Tryz.ntmps161
  go_wp2_with fail
  go_ret
  exact ⟨rfl,rfl⟩
def pairO(a b:Int):Int:=if 55296≤a∧a<56320∧56320≤b∧b<57344 then 65536+(a-55296) * 1024+(b-56320) else 65533
theorem or_pair(x y:Int)(hx:0≤x)(hx2:x<1024)(hy:0≤y)(hy2:y<1024):bits .or .i32 (x * 1024) y=x * 1024+y:=by
 obtain ⟨a,rfl⟩:=Int.eq_ofNat_of_zero_le hx
 obtain ⟨b,rfl⟩:=Int.eq_ofNat_of_zero_le hy
 have h:=bits_join .i32 31 (by decide) wraps_i32 10 ((a:Int) * 1024) (b:Int) (by omega) (by omega) (by omega) (by omega) (by omega) (by omega)
 rw [h]
theorem pair162(a b:Int)(w:World):Calls Tryz.prog 162 #[.int .i32 a,.int .i32 b] w fun e w'=>e=.returned (.int .i32 (pairO a b))∧w'=w:=by
 unfold pairO
 by_cases h1:55296≤a
 ·have t1:decide (55296≤a)=true:=by simpa using h1
  by_cases h2:a<56320
  ·have t2:decide (a<56320)=true:=by simpa using h2
   by_cases h3:56320≤b
   ·have t3:decide (56320≤b)=true:=by simpa using h3
    by_cases h4:b<57344
    ·have t4:decide (b<57344)=true:=by simpa using h4
     rw [if_pos ⟨h1,h2,h3,h4⟩]
     have ho:=or_pair (a-55296) (b-56320) (by omega) (by omega) (by omega) (by omega)
     go_enter Tryz.func162,Tryz.ntmps162
     go_wp2_with fail
     go_ret
     exact ⟨by simp; omega,rfl⟩
    ·have t4:decide (b<57344)=false:=by simpa using h4
     rw [if_neg (fun h=>h4 h.2.2.2)]
     go_enter Tryz.func162,Tryz.ntmps162
     go_wp2_with fail
     go_ret
     exact ⟨rfl,rfl⟩
   ·have t3:decide (56320≤b)=false:=by simpa using h3
    rw [if_neg (fun h=>h3 h.2.2.1)]
    go_enter Tryz.func162,Tryz.ntmps162
    go_wp2_with fail
    go_ret
    exact ⟨rfl,rfl⟩
  ·have t2:decide (a<56320)=false:=by simpa using h2
   rw [if_neg (fun h=>h2 h.2.1)]
   go_enter Tryz.func162,Tryz.ntmps162
   go_wp2_with fail
   go_ret
   exact ⟨rfl,rfl⟩
 ·have t1:decide (55296≤a)=false:=by simpa using h1
  rw [if_neg (fun h=>h1 h.1)]
  go_enter Tryz.func162,Tryz.ntmps162
  go_wp2_with fail
  go_ret
  exact ⟨rfl,rfl⟩
theorem Bf.at{w:World}{B:Nat}{s:ByteArray}(h:Bf w B s)(q j:Nat)(hj:q+j<s.size):w.cell? ⟨B,q+j,none⟩=some (.int .u8 (s[q+j].toNat:Int)):=h (q+j) hj
def hexR(v:Int):Int × Bool:=if v<0 then (0,false) else (v,true)
theorem hex160(B q cap:Nat)(s:ByteArray)(w:World)(hq:q+4≤s.size)(hB:Bf w B s):
  Calls Tryz.prog 160 #[.slice (some ⟨B,q,none⟩) 4 cap] w fun e w'=>e=.returned (.tuple #[.int .u16 (hexR (hex4 ((bytes s).drop q))).1,.bool (hexR (hex4 ((bytes s).drop q))).2])∧w'=w:=by
 rw [← hx_four (by rw [List.length_drop,bytes_len]; omega)]
 obtain ⟨r,HR⟩:∃ r,Hid (r=hexR (hx 4 0 ((bytes s).drop q))):=⟨_,Hq rfl⟩
 rw [← HR.out]
 have HB:=Hq hB
 clear hB
 go_enter Tryz.func160,Tryz.ntmps160
 go_wp2_with fail
 go_loopg [2,9] 4 (fun gk v2 v9 wr=>∃ (j:Nat) (a:Int),v9=.int .i64 j∧v2=.int .u16 a∧j≤4∧0≤a∧a<65536∧Hid (a<16 ^ j)∧Hid (gk=4-j)∧Hid (hx 4 0 ((bytes s).drop q)=hx (4-j) a ((bytes s).drop (q+j)))∧wr=w)
 case atStart=>exact ⟨0,0,rfl,rfl,by omega,by omega,by omega,Hq (by decide),Hq rfl,Hq rfl,rfl⟩
 case round=>
  obtain ⟨j,a,rfl,rfl,hj,ha0,ha1,HA,HG,HE,rfl⟩:=hrel
  by_cases hlt:j<4
  ·have hqj:q+j<s.size:=by omega
   have t4:decide ((j:Int)<4)=true:=by simp; omega
   have i0:(0:Int)≤(j:Int):=Int.natCast_nonneg _
   have i1:(j:Int)<4:=by omega
   have hc:=HB.out (q+j) hqj
   have hch:=headD_byte s (q+j)
   have hdj:=bytes_drop hqj
   rw [hdj] at hch
   have hch:0≤(s[q+j].toNat:Int)∧(s[q+j].toNat:Int)≤255:=hch
   have e1:hx (4-j) a ((bytes s).drop (q+j))=if hexv (s[q+j].toNat:Int)<0 then -1 else hx (4-(j+1)) (16 * a+hexv (s[q+j].toNat:Int)) ((bytes s).drop (q+(j+1))):=by
    rw [hdj,show 4-j=(4-(j+1))+1 by omega]
    rfl
   have hl:=hexv_lt (s[q+j].toNat:Int)
   generalize hcc:(s[q+j].toNat:Int)=c at hc hch e1 hl
   have h16:a<4096:=by
    have:=HA.out
    have h3:(16:Int) ^ j≤16 ^ 3:=by
     rcases (show j=0∨j=1∨j=2∨j=3 by omega) with rfl|rfl|rfl|rfl<;>decide
    omega
   have hA2:∀ h:Int,0≤h→h≤15→16 * a+h<16 ^ (j+1):=fun h h0 h1=>by
    have:=HA.out
    rw [Int.pow_succ]
    omega
   have HA2:=Hq hA2
   clear hA2 hdj hcc
   have fin:∀ h:Int,hexv c=h→¬ h<0→hx 4 0 ((bytes s).drop q)=hx (4-(j+1)) (16 * a+h) ((bytes s).drop (q+(j+1))):=fun h hh h0=>by rw [HE.out,e1,hh,if_neg h0]
   have FIN:=Hq fin
   clear fin
   by_cases a1:48≤c∧c≤57
   ·have hv:hexv c=c-48:=by unfold hexv; rw [if_pos a1]
    have u1:decide (48≤c)=true:=by simp; omega
    have u2:decide (c≤57)=true:=by simp; omega
    have HV:=Hq (And.intro hv a1)
    clear e1 hv hl
    have z1:(c-48) % 256=c-48:=by omega
    have z2:(a * 16+(c-48)) % 65536=a * 16+(c-48):=by omega
    have z3:(a * 16) % 65536=a * 16:=by omega
    go_wp2_with fail
    go_roundg (4-(j+1))
    case measure=>have:=HG.out; omega
    case rel=>exact ⟨j+1,16 * a+(c-48),by go_num,by congr 1; omega,by omega,by omega,by omega,Hq (HA2.out _ (by omega) (by omega)),Hq rfl,Hq (FIN.out _ HV.out.1 (by omega)),rfl⟩
   ·by_cases a2:97≤c∧c≤102
    ·skip
     have hv:hexv c=c-87:=by unfold hexv; rw [if_neg a1,if_pos a2]
     have u0:decide (48≤c)=true:=by simp; omega
     have u1:decide (c≤57)=false:=by simp; omega
     have u2:decide (97≤c)=true:=by simp; omega
     have u3:decide (c≤102)=true:=by simp; omega
     have HV:=Hq hv
     have z0:(10+c) % 256=10+c:=by omega
     have z1:(10+c-97) % 256=10+c-97:=by omega
     have z2:(a * 16+(10+c-97)) % 65536=a * 16+(10+c-97):=by omega
     have z3:(a * 16) % 65536=a * 16:=by omega
     clear e1 hv hl
     go_wp2_with fail
     go_roundg (4-(j+1))
     case measure=>have:=HG.out; omega
     case rel=>exact ⟨j+1,16 * a+(c-87),by go_num,by congr 1; omega,by omega,by omega,by omega,Hq (HA2.out _ (by omega) (by omega)),Hq rfl,Hq (FIN.out _ HV.out (by omega)),rfl⟩
    ·by_cases a3:65≤c∧c≤70
     ·skip
      have hv:hexv c=c-55:=by unfold hexv; rw [if_neg a1,if_neg a2,if_pos a3]
      have u0:decide (48≤c)=true:=by simp; omega
      have u1:decide (c≤57)=false:=by simp; omega
      have u2:decide (97≤c)=false:=by simp; omega
      have u3:decide (65≤c)=true:=by simp; omega
      have u4:decide (c≤70)=true:=by simp; omega
      have HV:=Hq hv
      have z0:(10+c) % 256=10+c:=by omega
      have z1:(10+c-65) % 256=10+c-65:=by omega
      have z2:(a * 16+(10+c-65)) % 65536=a * 16+(10+c-65):=by omega
      have z3:(a * 16) % 65536=a * 16:=by omega
      clear e1 hv hl
      go_wp2_with fail
      go_roundg (4-(j+1))
      case measure=>have:=HG.out; omega
      case rel=>exact ⟨j+1,16 * a+(c-55),by go_num,by congr 1; omega,by omega,by omega,by omega,Hq (HA2.out _ (by omega) (by omega)),Hq rfl,Hq (FIN.out _ HV.out (by omega)),rfl⟩
     ·have hv:hexv c = -1:=by unfold hexv; rw [if_neg a1,if_neg a2,if_neg a3]
      have E:=Hq (show r=(0,false) by rw [HR.out,HE.out,e1,hv,if_pos (by decide)]; rfl)
      clear hv
      by_cases b1:c<48
      ·skip
       have u0:decide (48≤c)=false:=by simp; omega
       have u1:decide (97≤c)=false:=by simp; omega
       have u2:decide (65≤c)=false:=by simp; omega
       clear e1 hl
       go_wp2_with fail
       go_ret2
       rw [E.out]
       exact ⟨rfl,rfl⟩
      by_cases b2:c<65
      ·skip
       have u0:decide (48≤c)=true:=by simp; omega
       have u1:decide (c≤57)=false:=by simp; omega
       have u2:decide (97≤c)=false:=by simp; omega
       have u3:decide (65≤c)=false:=by simp; omega
       clear e1 hl
       go_wp2_with fail
       go_ret2
       rw [E.out]
       exact ⟨rfl,rfl⟩
      by_cases b3:c<97
      ·skip
       have u0:decide (48≤c)=true:=by simp; omega
       have u1:decide (c≤57)=false:=by simp; omega
       have u2:decide (97≤c)=false:=by simp; omega
       have u3:decide (65≤c)=true:=by simp; omega
       have u4:decide (c≤70)=false:=by simp; omega
       clear e1 hl
       go_wp2_with fail
       go_ret2
       rw [E.out]
       exact ⟨rfl,rfl⟩
      ·skip
       have u0:decide (48≤c)=true:=by simp; omega
       have u1:decide (c≤57)=false:=by simp; omega
       have u2:decide (97≤c)=true:=by simp; omega
       have u3:decide (c≤102)=false:=by simp; omega
       have u4:decide (65≤c)=true:=by simp; omega
       have u5:decide (c≤70)=false:=by simp; omega
       clear e1 hl
       go_wp2_with fail
       go_ret2
       rw [E.out]
       exact ⟨rfl,rfl⟩
  ·obtain rfl:j=4:=by omega
   have E:=Hq (show r=(a,true) by
    have e:hx 4 0 ((bytes s).drop q)=a:=HE.out
    rw [HR.out,e]
    unfold hexR
    rw [if_neg (by omega)])
   go_wp2_with fail
   go_ret2
   rw [E.out]
   exact ⟨rfl,rfl⟩
end Go.Proofs.YtknaalohaagcdaaGreatDoor.Own
