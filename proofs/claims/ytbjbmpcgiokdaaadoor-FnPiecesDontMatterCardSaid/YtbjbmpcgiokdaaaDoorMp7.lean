/-
  Texts of this proof,merged: WBu,Know,WPz,WUp3,WLaw7,Frame,FrameD,FrameI,FrameG,FrameW.
-/
import Derived.Test.YtbjbmpcgiokdaaaDoorMp6
import Derived.Test.YtbjbmpcgiokdaaaDoorMp5
import Derived.Test.YtbjbmpcgiokdaaaDoorMp1
import Derived.Test.YtbjbmpcgiokdaaaDoorMp2
import Derived.Test.YtbjbmpcgiokdaaaDoorRows
import Derived.WalkKit
import Derived.ProofKit
import Derived.LaidLaws
import Derived.ChangeSlices
import Derived.Deep.DeepHandedRow
import Derived.OpenShut
import Derived.Carry
import Derived.Test.YtbjbmpcgiokdaaaDoorCards
import Derived.Test.YtbjbmpcgiokdaaaDoorTie
import Derived.Deep.DeepWitnessRowRef
set_option linter.unusedVariables false
set_option linter.unusedSimpArgs false
namespace Go.Eng
open Go Go.Proofs
set_option maxRecDepth 100000

set_option maxHeartbeats 1000000
theorem smRead (b : Nat) (w : World) : (method (Tryd.prog.types.size + Made.depth) 85 (.pointer (some ⟨b,0,none⟩)) "Read").run Tryd.prog w = .ok (110,.pointer (some ⟨b,0,none⟩)) w := by
  obtain ⟨d,hd⟩ := depthS
  rw [hd]
  simp [method,Tryd.typeInfo85,Tryd.t85,Tryd.runUnderlying85,follow,receiverAt,Place.get]
/-- What a bufio.Reader over a source holds: bytes of its buffer,and what is left of the source. -/
def BufAt (data : List UInt8) (db o rb bb sb : Nat) (sv : Value) (l : List UInt8) (g1 g2 g3 : Frag) : Prop :=
  ∃ bs r w lb lr dv rest calls,bs.length = 4096 ∧ r ≤ w ∧ w ≤ 4096 ∧ l = (bs.take w).drop r ++ rest ∧ SrcSh data db o dv rest ∧ calls + rest.length ≤ 65536 ∧ one lb = true ∧ one lr = true ∧ g1 = ⟨rb,0,[.slice (some ⟨bb,0,none⟩) 4096 4096,.iface 85 (.pointer (some ⟨sb,0,none⟩)),.int .i64 ((r : Nat) : Int),.int .i64 ((w : Nat) : Int),.nilIface,lb,lr]⟩ ∧ g2 = ⟨bb,0,bytesV (bs)⟩ ∧ g3 = ⟨sb,0,[dv,sv,.int .i64 ((calls : Nat) : Int)]⟩

theorem bufErr_spec {K : Known} {ea : Fin 5 → Addr} (rb bb sb r w : Nat) (lb lr : Value) (e : Er) : Fn Tryd.prog K 116 #[.pointer (some ⟨rb,0,none⟩)] ([⟨rb,0,[.slice (some ⟨bb,0,none⟩) 4096 4096,.iface 85 (.pointer (some ⟨sb,0,none⟩)),.int .i64 ((r : Nat) : Int),.int .i64 ((w : Nat) : Int),Er.val ea e,lb,lr]⟩]) (fun v L => v = Er.val ea e ∧ L = [⟨rb,0,[.slice (some ⟨bb,0,none⟩) 4096 4096,.iface 85 (.pointer (some ⟨sb,0,none⟩)),.int .i64 ((r : Nat) : Int),.int .i64 ((w : Nat) : Int),.nilIface,lb,lr]⟩]) := by
 refine Fn.intro (args := [.pointer (some ⟨rb,0,none⟩)]) (RR := Ret1 2 _) Tryd.func116 rfl rfl Tryd.ntmps116 (res1 Tryd.results116) ?_
 refine C.reenv (env2 := [(0,.pointer (some ⟨rb,0,none⟩))]) rfl ?_
 refine C.sr ?_
 refine E.pure (S.assign (v := Er.val ea .none) rfl) rfl ?_
 refine E.kp [(0,_),(2,_)] rfl ?_
 refine C.sr ?_
 refine E.pure (S.move rfl) rfl ?_
 refine E.pure (S.nilPtr rfl) rfl ?_
 refine E.pure (S.field rfl fa161_4) rfl ?_
 refine E.still (S.load 0 (k := 4) rfl rfl rfl Tryd.isAgg59) rfl ?_
 refine E.pure (S.assign rfl) rfl ?_
 refine E.kp [(0,_),(2,_),(3,_)] rfl ?_
 refine C.sr ?_
 refine E.pure (S.move rfl) rfl ?_
 refine E.pure (S.nilPtr rfl) rfl ?_
 refine E.pure (S.field rfl fa161_4) rfl ?_
 refine E.loud0 (X.store 0 (k := 4) rfl rfl rfl rfl rfl Tryd.sizeOf59) ?_; rintro _ _ ⟨rfl,rfl⟩; refine E.relist (L2 := [_]) rfl ?_
 refine E.kp [(0,_),(2,_),(3,_)] rfl ?_
 refine C.sr ?_
 refine E.pure (S.move rfl) rfl ?_
 refine E.pure (S.assign rfl) rfl ?_
 refine E.kp [(0,_),(2,_),(3,_)] rfl ?_
 refine C.ret ?_
 exact ⟨_,rfl,rfl,rfl⟩
theorem bytes_get2 {l : List UInt8} {i : Nat} (h : i < l.length) : (bytesV l)[i]? = some (.int .u8 ((l[i].toNat : Nat) : Int)) := by
  unfold bytesV; rw [List.getElem?_map,List.getElem?_eq_getElem h]; rfl
theorem buf_tk {bs rest : List UInt8} {k : Nat} : bytesV (rest.take k) ++ (bytesV bs).drop k = bytesV (rest.take k ++ bs.drop k) := by rw [bytesV_append,bytesV_drop]
theorem rdErr_ne {l : List UInt8} (h : l ≠ []) : rdErr l = .none := by cases l with | nil => exact absurd rfl h | cons _ _ => rfl
theorem rdErr_none {l : List UInt8} (h : rdErr l = .none) : l ≠ [] := by rintro rfl; cases h

theorem bufFill_spec {K : Known} {ea : Fin 5 → Addr} (hs : Sents K ea) (data : List UInt8) (db o : Nat) (hp : data = [] ∨ KB K db o data) (rb bb sb : Nat) (sv : Value) (hsz : SzA K sv) (rest : List UInt8) (dv : Value) (calls : Nat) (hd : SrcSh data db o dv rest) (hcl : calls + rest.length ≤ 65536) (bs : List UInt8) (hbs : bs.length = 4096) (r : Nat) (hr : r ≤ 4096) (lb lr : Value) : Fn Tryd.prog K 114 #[.pointer (some ⟨rb,0,none⟩)] ([⟨rb,0,[.slice (some ⟨bb,0,none⟩) 4096 4096,.iface 85 (.pointer (some ⟨sb,0,none⟩)),.int .i64 ((r : Nat) : Int),.int .i64 ((r : Nat) : Int),.nilIface,lb,lr]⟩,⟨bb,0,bytesV (bs)⟩,⟨sb,0,[dv,sv,.int .i64 ((calls : Nat) : Int)]⟩]) (fun v L => ∃ k dv2 calls2,(rest ≠ [] → 0 < k) ∧ k ≤ 4096 ∧ k ≤ rest.length ∧ SrcSh data db o dv2 (rest.drop k) ∧ calls2 + (rest.drop k).length ≤ calls + rest.length ∧ v = .tuple #[] ∧ L = [⟨rb,0,[.slice (some ⟨bb,0,none⟩) 4096 4096,.iface 85 (.pointer (some ⟨sb,0,none⟩)),.int .i64 ((0 : Nat) : Int),.int .i64 ((k : Nat) : Int),Er.val ea (rdErr rest),lb,lr]⟩,⟨bb,0,bytesV (rest.take k ++ bs.drop k)⟩,⟨sb,0,[dv2,sv,.int .i64 ((calls2 : Nat) : Int)]⟩]) := by
 refine Fn.intro (args := [.pointer (some ⟨rb,0,none⟩)]) (RR := Ret0 _) Tryd.func114 rfl rfl Tryd.ntmps114 (res0 Tryd.results114) ?_
 refine C.reenv (env2 := [(0,.pointer (some ⟨rb,0,none⟩))]) rfl ?_
 refine C.cut (M := fun ee ll => keeps ee [0] = some [(0,.pointer (some ⟨rb,0,none⟩))] ∧ ll = [⟨rb,0,[.slice (some ⟨bb,0,none⟩) 4096 4096,.iface 85 (.pointer (some ⟨sb,0,none⟩)),.int .i64 ((0 : Nat) : Int),.int .i64 ((0 : Nat) : Int),.nilIface,lb,lr]⟩,⟨bb,0,bytesV (bs)⟩,⟨sb,0,[dv,sv,.int .i64 ((calls : Nat) : Int)]⟩]) ?_ ?_
 ·
  refine C.sr ?_
  refine E.pure (S.move rfl) rfl ?_
  refine E.pure (S.nilPtr rfl) rfl ?_
  refine E.pure (S.field rfl fa161_2) rfl ?_
  refine E.still (S.load 0 (k := 2) rfl rfl rfl Tryd.isAgg3) rfl ?_
  refine E.pure (S.gt (b := ((0 : Nat) : Int)) rfl rfl) rfl ?_
  refine E.kp [(0,_),(9,_)] rfl ?_
  refine C.ifp rfl (fun h9 => ?_) (fun h9 => ?_)
  ·
   refine C.seq ?_
   refine C.draw [0,1,2,4,0,16,32,64,0,256,512,1024,0,4096,8192,16384,34944,65544] (.pure 0 131056 (.pure 1 131057 (.pure 2 131059 (.pure 4 65295 (.pure 5 65311 (.pure 6 65343 (.pure 8 61695 (.pure 9 61951 (.pure 10 62463 (.pure 12 4095 (.pure 13 8191 (.pure 14 16383 (.seg [(3,131063),(7,65407),(11,63487),(15,32767),(16,65535)] (.alt 17 .done .stop)))))))))))))) mixed (by decide +kernel) ?_
   refine D.pure rfl (S.move rfl) rfl ?_
   refine D.pure rfl (S.nilPtr rfl) rfl ?_
   refine D.pure rfl (S.field rfl fa161_0) rfl ?_
   refine D.pure rfl (S.move rfl) rfl ?_
   refine D.pure rfl (S.nilPtr rfl) rfl ?_
   refine D.pure rfl (S.field rfl fa161_0) rfl ?_
   refine D.pure rfl (S.move rfl) rfl ?_
   refine D.pure rfl (S.nilPtr rfl) rfl ?_
   refine D.pure rfl (S.field rfl fa161_2) rfl ?_
   refine D.pure rfl (S.move rfl) rfl ?_
   refine D.pure rfl (S.nilPtr rfl) rfl ?_
   refine D.pure rfl (S.field rfl fa161_3) rfl ?_
   refine D.seg (by decide) ?_
   refine W.still rfl (S.load 0 (k := 0) rfl rfl rfl Tryd.isAgg22) rfl ?_
   refine W.still rfl (S.load 0 (k := 0) rfl rfl rfl Tryd.isAgg22) rfl ?_
   refine W.still rfl (S.load 0 (k := 2) rfl rfl rfl Tryd.isAgg3) rfl ?_
   refine W.still rfl (S.load 0 (k := 3) rfl rfl rfl Tryd.isAgg3) rfl ?_
   refine W.pure rfl (S.slLH rfl rfl rfl (by omega) (by omega) Tryd.underlying22 Tryd.sizeOf5) rfl ?_
   refine W.reslot (v := .slice (some ⟨bb,part 0 r 4096 1,none⟩) 0 (4096 - r)) (slice_to rfl (Nat.sub_self r) rfl) ?_
   refine W.nil ?_
   refine D.one ?_
   refine O.loud1 rfl (X.copyB 1 (l := []) rfl rfl rfl rfl (.inl rfl) (by rw [bytesV_length,hbs]; exact Nat.le_refl _)) rfl ?_; rintro _ _ ⟨rfl,rfl⟩; refine D.relist (L2 := [_,_,_]) rfl ?_
   refine D.kp [(0,_),(9,_)] rfl ?_
   refine C.seq ?_
   refine C.draw [0,1,2,4,0,16,32,64,136,511,1023,1535] (.pure 0 240 (.pure 1 241 (.pure 2 243 (.pure 4 15 (.pure 5 31 (.pure 6 63 (.seg [(3,247),(7,127),(8,255),(9,511),(10,1023)] (.alt 11 .done .stop)))))))) mixed (by decide +kernel) ?_
   refine D.pure rfl (S.move rfl) rfl ?_
   refine D.pure rfl (S.nilPtr rfl) rfl ?_
   refine D.pure rfl (S.field rfl fa161_3) rfl ?_
   refine D.pure rfl (S.move rfl) rfl ?_
   refine D.pure rfl (S.nilPtr rfl) rfl ?_
   refine D.pure rfl (S.field rfl fa161_2) rfl ?_
   refine D.seg (by decide) ?_
   refine W.still rfl (S.load 0 (k := 3) rfl rfl rfl Tryd.isAgg3) rfl ?_
   refine W.still rfl (S.load 0 (k := 2) rfl rfl rfl Tryd.isAgg3) rfl ?_
   refine W.pure rfl (S.sub rfl rfl (N.sub64 (by omega) (by omega))) rfl ?_
   refine W.reslot (v := .int .i64 ((0 : Nat) : Int)) (congrArg (fun y : Nat => Value.int .i64 (y : Int)) (by omega)) ?_
   refine W.pure rfl (S.nilPtr rfl) rfl ?_
   refine W.pure rfl (S.field rfl fa161_3) rfl ?_
   refine W.nil ?_
   refine D.one ?_
   refine O.loud0 rfl (X.store 0 (k := 3) rfl rfl rfl rfl rfl Tryd.sizeOf3) ?_; rintro _ _ ⟨rfl,rfl⟩; refine D.relist (L2 := [_,_,_]) rfl ?_
   refine D.kp [(0,_),(9,_)] rfl ?_
   refine C.region ?_
   refine E.pure (S.move rfl) rfl ?_
   refine E.pure (S.nilPtr rfl) rfl ?_
   refine E.pure (S.field rfl fa161_2) rfl ?_
   refine E.loud0 (X.store 0 (k := 2) rfl rfl rfl rfl rfl Tryd.sizeOf3) ?_; rintro _ _ ⟨rfl,rfl⟩; refine E.relist (L2 := [_,_,_]) rfl ?_
   refine E.kp [(0,_),(9,_)] rfl ?_
   exact ⟨rfl,rfl⟩
  refine C.skip ?_
  first | exact ⟨rfl,rfl⟩ | exact ⟨rfl,(by rw [show r = 0 by omega])⟩
 rintro _ _ ⟨hq4,rfl⟩
 refine C.weaken _ hq4 ?_
 refine C.seq ?_
 refine C.seq ?_
 refine C.draw [0,1,2,4,0,16,32,64,128,264] (.pure 0 496 (.pure 1 497 (.pure 2 499 (.pure 4 15 (.pure 5 31 (.pure 6 63 (.seg [(3,503),(7,127),(8,255),(9,511)] .done))))))) mixed (by decide +kernel) ?_
 refine D.pure rfl (S.move rfl) rfl ?_
 refine D.pure rfl (S.nilPtr rfl) rfl ?_
 refine D.pure rfl (S.field rfl fa161_3) rfl ?_
 refine D.pure rfl (S.move rfl) rfl ?_
 refine D.pure rfl (S.nilPtr rfl) rfl ?_
 refine D.pure rfl (S.field rfl fa161_0) rfl ?_
 refine D.seg (by decide) ?_
 refine W.still rfl (S.load 0 (k := 3) rfl rfl rfl Tryd.isAgg3) rfl ?_
 refine W.still rfl (S.load 0 (k := 0) rfl rfl rfl Tryd.isAgg22) rfl ?_
 refine W.pure rfl (S.lenSl rfl Tryd.underlying22) rfl ?_
 refine W.pure rfl (S.ge rfl rfl) rfl ?_
 refine W.reslot (v := .bool false) (congrArg Value.bool (by decide)) ?_
 refine W.nil ?_
 refine D.kp [(0,_),(51,_)] rfl ?_
 refine C.no rfl (rfl) ?_
 refine C.skip ?_
 refine C.seq ?_
 refine C.sr ?_
 refine E.pure (S.assign rfl) rfl ?_
 refine E.kp [(0,_),(2,_),(51,_)] rfl ?_
 refine C.block ?_
 refine C.loop (fun mm ee ll => keeps ee [0,2] = some [(0,.pointer (some ⟨rb,0,none⟩)),(2,.int .i64 ((100 : Nat) : Int))] ∧ ll = [⟨rb,0,[.slice (some ⟨bb,0,none⟩) 4096 4096,.iface 85 (.pointer (some ⟨sb,0,none⟩)),.int .i64 ((0 : Nat) : Int),.int .i64 ((0 : Nat) : Int),.nilIface,lb,lr]⟩,⟨bb,0,bytesV (bs)⟩,⟨sb,0,[dv,sv,.int .i64 ((calls : Nat) : Int)]⟩] ∧ mm = 0) (_) ⟨rfl,rfl,rfl⟩ ?_
 rintro m0 _ _ ⟨hk0,rfl,hm0⟩
 refine C.weaken _ hk0 ?_
 refine C.seq ?_
 refine C.sr ?_
 refine E.pure (S.move rfl) rfl ?_
 refine E.pure (S.gt (b := ((0 : Nat) : Int)) rfl rfl) rfl ?_
 refine E.kp [(0,_),(2,_),(54,_)] rfl ?_
 refine C.ifp rfl (fun h54 => ?_) (fun h54 => ?_)
 ·
  refine C.skip ?_
  refine C.seq ?_
  refine C.block ?_
  refine C.seq ?_
  refine C.draw [0,1,2,4,0,16,32,64,0,256,512,1024,2176,8,8200,20480,32768,65536,65536,262143,1048575] (.pure 0 8176 (.pure 1 8177 (.pure 2 8179 (.pure 4 28431 (.pure 5 28447 (.pure 6 28479 (.pure 8 24831 (.pure 9 25087 (.pure 10 25599 (.seg [(3,8183),(7,28543),(11,26623),(12,28671),(13,8191),(14,16383)] (.alt 15 (.pure 16 65535 (.pure 17 393215 (.pure 18 786431 (.pure 19 524287 (.pure 20 1048575 .done))))) .stop))))))))))) mixed (by decide +kernel) ?_
  refine D.pure rfl (S.move rfl) rfl ?_
  refine D.pure rfl (S.nilPtr rfl) rfl ?_
  refine D.pure rfl (S.field rfl fa161_1) rfl ?_
  refine D.pure rfl (S.move rfl) rfl ?_
  refine D.pure rfl (S.nilPtr rfl) rfl ?_
  refine D.pure rfl (S.field rfl fa161_0) rfl ?_
  refine D.pure rfl (S.move rfl) rfl ?_
  refine D.pure rfl (S.nilPtr rfl) rfl ?_
  refine D.pure rfl (S.field rfl fa161_3) rfl ?_
  refine D.seg (by decide) ?_
  refine W.still rfl (S.load 0 (k := 1) rfl rfl rfl Tryd.isAgg97) rfl ?_
  refine W.still rfl (S.load 0 (k := 0) rfl rfl rfl Tryd.isAgg22) rfl ?_
  refine W.still rfl (S.load 0 (k := 3) rfl rfl rfl Tryd.isAgg3) rfl ?_
  refine W.pure rfl (S.slL rfl rfl (by omega) Tryd.underlying22 Tryd.sizeOf5) rfl ?_
  refine W.reslot (v := .slice (some ⟨bb,0,none⟩) (4096) (4096)) (slice_to (by simp [part]) rfl rfl) ?_
  first | refine W.pure rfl (S.nilPtr rfl) rfl ?_ | refine W.pure rfl (S.nilIface rfl) rfl ?_ | refine W.pure rfl (S.nilFunc rfl) rfl ?_
  refine W.pure rfl (S.move rfl) rfl ?_
  refine W.nil ?_
  refine D.one ?_
  refine O.loud1 rfl (OpX.pick [2,1] (F := [_]) rfl (X.invoke rfl rfl (smRead sb) Tryd.call110 (source_spec hs sb hsz calls (by omega) bb 0 4096 4096 (bytesV bs) (by rw [bytesV_length,hbs]) (by decide) data db o hp rest (by omega) hd))) rfl ?_; rintro _ _ ⟨_,⟨k,dv2,calls2,hk1,hk2,hk3,hd2,hcl2,rfl,rfl⟩,rfl⟩; refine D.relist (L2 := [_,_,_]) rfl ?_
  refine D.perml [2,1,0] rfl ?_
  refine D.relist (L2 := [_,_,_]) rfl ?_
  refine D.pure rfl (S.move rfl) rfl ?_
  refine D.pure rfl (S.extract rfl rfl) rfl ?_
  refine D.pure rfl (S.extract rfl rfl) rfl ?_
  refine D.pure rfl (S.assign rfl) rfl ?_
  refine D.pure rfl (S.assign rfl) rfl ?_
  refine D.kp [(0,_),(2,_),(3,_),(4,_),(54,_)] rfl ?_
  refine C.seq ?_
  refine C.sr ?_
  refine E.pure (S.move rfl) rfl ?_
  refine E.pure (S.lt (b := ((0 : Nat) : Int)) rfl rfl) rfl ?_
  refine E.kp [(0,_),(2,_),(3,_),(4,_),(54,_),(77,_)] rfl ?_
  refine C.ifp rfl (fun h77 => ?_) (fun h77 => ?_)
  ·
   exfalso
   omega
  refine C.skip ?_
  refine C.sr ?_
  refine E.pure (S.move rfl) rfl ?_
  refine E.pure (S.nilPtr rfl) rfl ?_
  refine E.pure (S.field rfl fa161_3) rfl ?_
  refine E.still (S.load 0 (k := 3) rfl rfl rfl Tryd.isAgg3) rfl ?_
  refine E.pure (S.move rfl) rfl ?_
  refine E.pure (S.add rfl rfl (N.add64 (by omega))) rfl ?_
  refine E.reslot (v := .int .i64 ((k : Nat) : Int)) (congrArg (fun y : Nat => Value.int .i64 (y : Int)) (by omega)) ?_
  refine E.pure (S.nilPtr rfl) rfl ?_
  refine E.pure (S.field rfl fa161_3) rfl ?_
  refine E.loud0 (X.store 0 (k := 3) rfl rfl rfl rfl rfl Tryd.sizeOf3) ?_; rintro _ _ ⟨rfl,rfl⟩; refine E.relist (L2 := [_,_,_]) rfl ?_
  refine E.kp [(0,_),(2,_),(3,_),(4,_),(54,_),(77,_)] rfl ?_
  refine C.seq ?_
  refine C.sr ?_
  refine E.pure (S.move rfl) rfl ?_
  refine E.still (S.neErNil rfl) rfl ?_
  refine E.kp [(0,_),(2,_),(3,_),(4,_),(54,_),(77,_),(88,_)] rfl ?_
  first | refine C.ifp rfl (fun h88 => ?_) (fun h88 => ?_) | refine C.ifNone rfl (fun h88 => ?_) (fun h88 => ?_) | refine C.ifSome rfl (fun h88 => ?_) (fun h88 => ?_) | refine C.ifSe rfl (fun h88 => ?_) (fun h88 => ?_) | refine C.ifNotSe rfl (fun h88 => ?_) (fun h88 => ?_) | refine C.cond rfl (fun h88 => ?_) (fun h88 => ?_)
  ·
   refine C.sr ?_
   refine E.pure (S.move rfl) rfl ?_
   refine E.pure (S.move rfl) rfl ?_
   refine E.pure (S.nilPtr rfl) rfl ?_
   refine E.pure (S.field rfl fa161_4) rfl ?_
   refine E.loud0 (X.store 0 (k := 4) rfl rfl rfl (one_er _) rfl Tryd.sizeOf59) ?_; rintro _ _ ⟨rfl,rfl⟩; refine E.relist (L2 := [_,_,_]) rfl ?_
   refine E.kp [(0,_),(2,_),(3,_),(4,_),(54,_),(77,_),(88,_)] rfl ?_
   refine C.ret ?_
   refine ⟨k,dv2,calls2,hk1,hk2,hk3,hd2,hcl2,rfl,?_⟩
   rw [buf_tk]; rfl
  refine C.skip ?_
  refine C.sr ?_
  refine E.pure (S.move rfl) rfl ?_
  refine E.pure (S.gt (b := ((0 : Nat) : Int)) rfl rfl) rfl ?_
  refine E.kp [(0,_),(2,_),(3,_),(4,_),(54,_),(77,_),(88,_),(94,_)] rfl ?_
  refine C.ifp rfl (fun h94 => ?_) (fun h94 => ?_)
  ·
   refine C.ret ?_
   refine ⟨k,dv2,calls2,hk1,hk2,hk3,hd2,hcl2,rfl,?_⟩
   rw [buf_tk]; rw [h88]; rfl
  exfalso
  have := hk1 (rdErr_none h88)
  omega
 exfalso
 omega
/-- How far a ReadByte is: whether the buffer is to be filled. -/
def rbM (r w : Nat) (e : Er) : Nat := if r = w ∧ e = .none then 1 else 0

theorem take_drop_nil {bs : List UInt8} {r : Nat} : (bs.take r).drop r = [] := List.drop_eq_nil_of_le (by rw [List.length_take]; omega)
theorem bufGet {bs : List UInt8} {r w : Nat} (hbs : bs.length = 4096) (h : r < w) (hw : w ≤ 4096) (rest : List UInt8) : ∃ (hr : r < bs.length),(bs.take w).drop r ++ rest = bs[r]::((bs.take w).drop (r + 1) ++ rest) := by
  refine ⟨by omega,?_⟩
  have h1 : r < (bs.take w).length := by rw [List.length_take]; omega
  rw [List.drop_eq_getElem_cons h1,List.getElem_take]; rfl
theorem fill_buf {bs rest : List UInt8} {k : Nat} (hk : k ≤ rest.length) : ((rest.take k ++ bs.drop k).take k).drop 0 ++ rest.drop k = rest := by
  rw [List.drop_zero,List.take_append_of_le_length (by rw [List.length_take]; omega),List.take_take,Nat.min_self,List.take_append_drop]

theorem bufByte_walk {K : Known} {ea : Fin 5 → Addr} (hs : Sents K ea) (data : List UInt8) (db o : Nat) (hp : data = [] ∨ KB K db o data) (rb bb sb : Nat) (sv : Value) (hsz : SzA K sv) (l : List UInt8) (bs : List UInt8) (r w : Nat) (lb lr : Value) (dv : Value) (rest : List UInt8) (calls : Nat) (hbs : bs.length = 4096) (hrw : r ≤ w) (hw : w ≤ 4096) (hl : l = (bs.take w).drop r ++ rest) (hd : SrcSh data db o dv rest) (hcl : calls + rest.length ≤ 65536) (hone : one lb = true) : Fn Tryd.prog K 113 #[.pointer (some ⟨rb,0,none⟩)] ([⟨rb,0,[.slice (some ⟨bb,0,none⟩) 4096 4096,.iface 85 (.pointer (some ⟨sb,0,none⟩)),.int .i64 ((r : Nat) : Int),.int .i64 ((w : Nat) : Int),.nilIface,lb,lr]⟩,⟨bb,0,bytesV (bs)⟩,⟨sb,0,[dv,sv,.int .i64 ((calls : Nat) : Int)]⟩]) (fun v L => ∃ h1 h2 h3,BufAt data db o rb bb sb sv (l.drop 1) h1 h2 h3 ∧ v = .tuple #[.int .u8 ((rdByte l : Nat) : Int),Er.val ea (rdErr l)] ∧ L = [h1,h2,h3]) := by
 refine Fn.intro (args := [.pointer (some ⟨rb,0,none⟩)]) (RR := Ret2 2 3 _) Tryd.func113 rfl rfl Tryd.ntmps113 (res2 Tryd.results113) ?_
 refine C.reenv (env2 := [(0,.pointer (some ⟨rb,0,none⟩))]) rfl ?_
 refine C.sr ?_
 refine E.pure (S.assign rfl) rfl ?_
 refine E.pure (S.assign (v := Er.val ea .none) rfl) rfl ?_
 refine E.kp [(0,_),(2,_),(3,_)] rfl ?_
 refine C.sr ?_
 refine E.pure (S.move rfl) rfl ?_
 refine E.pure (S.nilPtr rfl) rfl ?_
 refine E.pure (S.field rfl fa161_6) rfl ?_
 refine E.loud0 (X.store 0 (k := 6) rfl rfl rfl rfl rfl Tryd.sizeOf3) ?_; rintro _ _ ⟨rfl,rfl⟩; refine E.relist (L2 := [_,_,_]) rfl ?_
 refine E.kp [(0,_),(2,_),(3,_)] rfl ?_
 refine C.seq ?_
 refine C.block ?_
 refine C.loop (fun mm ee ll => ∃ (bs : List UInt8),∃ (r : Nat),∃ (w : Nat),∃ (e : Er),∃ (rest : List UInt8),∃ (dv : Value),∃ (calls : Nat),keeps ee [0] = some [(0,.pointer (some ⟨rb,0,none⟩))] ∧ ll = [⟨rb,0,[.slice (some ⟨bb,0,none⟩) 4096 4096,.iface 85 (.pointer (some ⟨sb,0,none⟩)),.int .i64 ((r : Nat) : Int),.int .i64 ((w : Nat) : Int),Er.val ea e,lb,.int .i64 (-1)]⟩,⟨bb,0,bytesV (bs)⟩,⟨sb,0,[dv,sv,.int .i64 ((calls : Nat) : Int)]⟩] ∧ (bs.length = 4096) ∧ (r ≤ w) ∧ (w ≤ 4096) ∧ (l = (bs.take w).drop r ++ rest) ∧ (SrcSh data db o dv rest) ∧ (calls + rest.length ≤ 65536) ∧ (e = .none ∨ (e = .eof ∧ r = w ∧ rest = [])) ∧ mm = rbM r w e) (_) ⟨bs,r,w,.none,rest,dv,calls,rfl,rfl,hbs,hrw,hw,hl,hd,hcl,.inl rfl,rfl⟩ ?_
 rintro m0 _ _ ⟨bs,r,w,e,rest,dv,calls,hk0,rfl,hbs,hrw,hw,hl,hd,hcl,he,hm0⟩
 refine C.weaken _ hk0 ?_
 refine C.seq ?_
 refine C.seq ?_
 refine C.draw [0,1,2,4,0,16,32,64,136] (.pure 0 240 (.pure 1 241 (.pure 2 243 (.pure 4 15 (.pure 5 31 (.pure 6 63 (.seg [(3,247),(7,127),(8,255)] .done))))))) mixed (by decide +kernel) ?_
 refine D.pure rfl (S.move rfl) rfl ?_
 refine D.pure rfl (S.nilPtr rfl) rfl ?_
 refine D.pure rfl (S.field rfl fa161_2) rfl ?_
 refine D.pure rfl (S.move rfl) rfl ?_
 refine D.pure rfl (S.nilPtr rfl) rfl ?_
 refine D.pure rfl (S.field rfl fa161_3) rfl ?_
 refine D.seg (by decide) ?_
 refine W.still rfl (S.load 0 (k := 2) rfl rfl rfl Tryd.isAgg3) rfl ?_
 refine W.still rfl (S.load 0 (k := 3) rfl rfl rfl Tryd.isAgg3) rfl ?_
 refine W.pure rfl (S.eq rfl rfl) rfl ?_
 refine W.nil ?_
 refine D.kp [(0,_),(16,_)] rfl ?_
 refine C.ifp rfl (fun h16 => ?_) (fun h16 => ?_)
 ·
  have hrw2 : r = w := by omega
  subst hrw2
  refine C.skip ?_
  refine C.block ?_
  refine C.seq ?_
  refine C.sr ?_
  refine E.pure (S.move rfl) rfl ?_
  refine E.pure (S.nilPtr rfl) rfl ?_
  refine E.pure (S.field rfl fa161_4) rfl ?_
  refine E.still (S.load 0 (k := 4) rfl rfl rfl Tryd.isAgg59) rfl ?_
  refine E.still (S.neErNil rfl) rfl ?_
  refine E.kp [(0,_),(16,_),(21,_)] rfl ?_
  first | refine C.ifp rfl (fun h21 => ?_) (fun h21 => ?_) | refine C.ifNone rfl (fun h21 => ?_) (fun h21 => ?_) | refine C.ifSome rfl (fun h21 => ?_) (fun h21 => ?_) | refine C.ifSe rfl (fun h21 => ?_) (fun h21 => ?_) | refine C.ifNotSe rfl (fun h21 => ?_) (fun h21 => ?_) | refine C.cond rfl (fun h21 => ?_) (fun h21 => ?_)
  ·
   refine C.sr ?_
   refine E.pure (S.move rfl) rfl ?_
   refine E.loud1 (OpX.pick [0] (F := [_,_]) rfl (X.call rfl Tryd.call116 (bufErr_spec rb bb sb _ _ _ _ e))) rfl ?_; rintro _ _ ⟨_,⟨rfl,rfl⟩,rfl⟩; refine E.relist (L2 := [_,_,_]) rfl ?_
   refine E.pure (S.assign rfl) rfl ?_
   refine E.pure (S.assign rfl) rfl ?_
   refine E.kp [(0,_),(2,_),(3,_),(16,_),(21,_)] rfl ?_
   refine C.ret ?_
   obtain ⟨rfl,_,rfl⟩ := he.resolve_left h21
   rw [take_drop_nil,List.nil_append] at hl
   subst hl
   exact ⟨_,_,rfl,rfl,_,_,_,⟨bs,r,r,lb,.int .i64 (-1),dv,[],calls,hbs,hrw,hw,by rw [take_drop_nil]; rfl,hd,hcl,hone,rfl,rfl,rfl,rfl⟩,rfl,rfl⟩
  subst h21
  rw [take_drop_nil,List.nil_append] at hl
  refine C.skip ?_
  refine C.region ?_
  refine E.pure (S.move rfl) rfl ?_
  refine E.loud1 (OpX.pick [0,0,0] (F := []) rfl (X.call rfl Tryd.call114 (bufFill_spec hs data db o hp rb bb sb sv hsz rest dv calls hd hcl bs hbs r hw lb (.int .i64 (-1))))) rfl ?_; rintro _ _ ⟨_,⟨k,dv2,calls2,hk1,hk2,hk3,hd2,hcl2,rfl,rfl⟩,rfl⟩; refine E.relist (L2 := [_,_,_]) rfl ?_
  refine E.kp [(0,_),(16,_),(21,_)] rfl ?_
  have hfe : rdErr rest = .none ∨ (rdErr rest = .eof ∧ 0 = k ∧ rest.drop k = []) := by
    by_cases h0 : rest = []
    · subst h0; right; exact ⟨rfl,by have : k ≤ 0 := hk3; omega,List.drop_nil⟩
    · exact .inl (rdErr_ne h0)
  have hfm : ¬ (0 = k ∧ rdErr rest = .none) := fun h => by have := hk1 (rdErr_none h.2); omega
  refine ⟨_,?_,_,0,k,rdErr rest,rest.drop k,dv2,calls2,rfl,rfl,by rw [List.length_append,List.length_take,List.length_drop]; omega,Nat.zero_le _,hk2,by rw [fill_buf hk3]; exact hl,hd2,by omega,hfe,rfl⟩; (rw [hm0,rbM,rbM,if_neg hfm,if_pos ⟨rfl,rfl⟩]; exact Nat.zero_lt_one)
 have hrw2 : r < w := by omega
 obtain ⟨hgr,hge⟩ := bufGet hbs hrw2 hw rest
 have he0 : e = .none := he.resolve_right fun h => by omega
 subst he0
 have hb8 := bs[r].toNat_lt
 refine C.exit rfl ?_
 refine C.seq ?_
 refine C.draw [0,1,2,4,0,16,32,64,136,256,1023] (.pure 0 240 (.pure 1 241 (.pure 2 243 (.pure 4 15 (.pure 5 31 (.pure 6 63 (.seg [(3,247),(7,127),(8,255),(9,511),(10,1023)] .done))))))) mixed (by decide +kernel) ?_
 refine D.pure rfl (S.move rfl) rfl ?_
 refine D.pure rfl (S.nilPtr rfl) rfl ?_
 refine D.pure rfl (S.field rfl fa161_0) rfl ?_
 refine D.pure rfl (S.move rfl) rfl ?_
 refine D.pure rfl (S.nilPtr rfl) rfl ?_
 refine D.pure rfl (S.field rfl fa161_2) rfl ?_
 refine D.seg (by decide) ?_
 refine W.still rfl (S.load 0 (k := 0) rfl rfl rfl Tryd.isAgg22) rfl ?_
 refine W.still rfl (S.load 0 (k := 2) rfl rfl rfl Tryd.isAgg3) rfl ?_
 refine W.pure rfl (S.ixSl rfl rfl (by omega) Tryd.underlying22 Tryd.sizeOf5) rfl ?_
 refine W.still rfl (S.load 1 (k := r * 1) rfl rfl (by rw [Nat.mul_one]; exact bytes_get2 hgr) Tryd.isAgg5) rfl ?_
 refine W.pure rfl (S.assign rfl) rfl ?_
 refine W.nil ?_
 refine D.kp [(0,_),(4,_),(16,_)] rfl ?_
 refine C.sr ?_
 refine E.pure (S.move rfl) rfl ?_
 refine E.pure (S.nilPtr rfl) rfl ?_
 refine E.pure (S.field rfl fa161_2) rfl ?_
 refine E.still (S.load 0 (k := 2) rfl rfl rfl Tryd.isAgg3) rfl ?_
 refine E.pure (S.add (b := ((1 : Nat) : Int)) rfl rfl (N.add64 (by omega))) rfl ?_
 refine E.pure (S.nilPtr rfl) rfl ?_
 refine E.pure (S.field rfl fa161_2) rfl ?_
 refine E.loud0 (X.store 0 (k := 2) rfl rfl rfl rfl rfl Tryd.sizeOf3) ?_; rintro _ _ ⟨rfl,rfl⟩; refine E.relist (L2 := [_,_,_]) rfl ?_
 refine E.kp [(0,_),(4,_),(16,_)] rfl ?_
 refine C.sr ?_
 refine E.pure (S.move rfl) rfl ?_
 refine E.pure (S.move rfl) rfl ?_
 refine E.pure (S.conv rfl Tryd.underlying5 Tryd.underlying3 (N.i64n (by omega))) rfl ?_
 refine E.pure (S.nilPtr rfl) rfl ?_
 refine E.pure (S.field rfl fa161_5) rfl ?_
 refine E.loud0 (X.store 0 (k := 5) rfl rfl rfl rfl rfl Tryd.sizeOf3) ?_; rintro _ _ ⟨rfl,rfl⟩; refine E.relist (L2 := [_,_,_]) rfl ?_
 refine E.kp [(0,_),(4,_),(16,_)] rfl ?_
 refine C.sr ?_
 refine E.pure (S.move rfl) rfl ?_
 refine E.pure (S.assign rfl) rfl ?_
 refine E.pure (S.assign (v := Er.val ea .none) rfl) rfl ?_
 refine E.kp [(0,_),(2,_),(3,_),(4,_),(16,_)] rfl ?_
 refine C.ret ?_
 exact ⟨_,_,rfl,rfl,_,_,_,⟨bs,r + 1,w,_,.int .i64 (-1),dv,rest,calls,hbs,by omega,hw,by rw [hl,hge]; rfl,hd,hcl,rfl,rfl,rfl,rfl,rfl⟩,by rw [hl,hge]; rfl,rfl⟩
theorem buf_reads {K : Known} {L : Frags} {bb r w i : Nat} {bs : List UInt8} (hbs : bs.length = 4096) (h : r < w) (hw : w ≤ 4096) (hL : L[i]? = some ⟨bb,0,bytesV bs⟩) : Reads K L bb (part 0 r 4096 1) (bytesV ((bs.take w).drop r)) := by
  have h1 := Reads.frag (H0 := K) hL (k := r) (vs := bytesV ((bs.take w).drop r)) (by rw [bytesV_drop,bytesV_take,List.drop_take]; congr 1; rw [List.length_take,List.length_drop,bytesV_length]; omega)
  rw [part,if_neg (by omega),Nat.mul_one]
  exact h1
theorem bufRead_walk {K : Known} {ea : Fin 5 → Addr} (hs : Sents K ea) (data : List UInt8) (db o : Nat) (hp : data = [] ∨ KB K db o data) (rb bb sb : Nat) (sv : Value) (hsz : SzA K sv) (l : List UInt8) (bs : List UInt8) (r w : Nat) (lb lr : Value) (dv : Value) (rest : List UInt8) (calls : Nat) (hbs : bs.length = 4096) (hrw : r ≤ w) (hw : w ≤ 4096) (hl : l = (bs.take w).drop r ++ rest) (hd : SrcSh data db o dv rest) (hcl : calls + rest.length ≤ 65536) (hone : one lb = true) (hone2 : one lr = true) (tb to m mc : Nat) (cs : List Value) (hm : m = cs.length) (hm0 : 0 < m) (hml : m ≤ 4611686018427387904) (e0 : Er) (he0 : e0 = .none) : Fn Tryd.prog K 112 #[.pointer (some ⟨rb,0,none⟩),.slice (some ⟨tb,to,none⟩) (m) (mc)] ([⟨rb,0,[.slice (some ⟨bb,0,none⟩) 4096 4096,.iface 85 (.pointer (some ⟨sb,0,none⟩)),.int .i64 ((r : Nat) : Int),.int .i64 ((w : Nat) : Int),Er.val ea e0,lb,lr]⟩,⟨bb,0,bytesV (bs)⟩,⟨sb,0,[dv,sv,.int .i64 ((calls : Nat) : Int)]⟩,⟨tb,to,cs⟩]) (fun v L => ∃ k h1 h2 h3,BufAt data db o rb bb sb sv (l.drop k) h1 h2 h3 ∧ k ≤ m ∧ k ≤ l.length ∧ (l ≠ [] → 0 < k) ∧ v = .tuple #[.int .i64 (k : Int),Er.val ea (rdErr l)] ∧ L = [h1,h2,h3,⟨tb,to,bytesV (l.take k) ++ cs.drop k⟩]) := by
 refine Fn.intro (args := [.pointer (some ⟨rb,0,none⟩),.slice (some ⟨tb,to,none⟩) (m) (mc)]) (RR := Ret2 4 5 _) Tryd.func112 rfl rfl Tryd.ntmps112 (res2 Tryd.results112) ?_
 refine C.reenv (env2 := [(0,.pointer (some ⟨rb,0,none⟩)),(1,.slice (some ⟨tb,to,none⟩) (m) (mc))]) rfl ?_
 refine C.sr ?_
 refine E.pure (S.assign rfl) rfl ?_
 refine E.pure (S.assign (v := Er.val ea .none) rfl) rfl ?_
 refine E.kp [(0,_),(1,_),(4,_),(5,_)] rfl ?_
 refine C.sr ?_
 refine E.pure (S.move rfl) rfl ?_
 refine E.pure (S.lenSl rfl Tryd.underlying22) rfl ?_
 refine E.pure (S.assign rfl) rfl ?_
 refine E.kp [(0,_),(1,_),(4,_),(5,_)] rfl ?_
 refine C.seq ?_
 refine C.sr ?_
 refine E.pure (S.move rfl) rfl ?_
 refine E.pure (S.eq (b := ((0 : Nat) : Int)) rfl rfl) rfl ?_
 refine E.reslot (v := .bool false) (congrArg Value.bool (decide_eq_false (by omega))) ?_
 refine E.kp [(0,_),(1,_),(4,_),(5,_),(9,_)] rfl ?_
 refine C.no rfl (rfl) ?_
 refine C.skip ?_
 refine C.cut (M := fun ee ll => ∃ (bs : List UInt8),∃ (r : Nat),∃ (w : Nat),∃ (dv : Value),∃ (rest : List UInt8),∃ (calls : Nat),keeps ee [0,1] = some [(0,.pointer (some ⟨rb,0,none⟩)),(1,.slice (some ⟨tb,to,none⟩) (m) (mc))] ∧ ll = [⟨rb,0,[.slice (some ⟨bb,0,none⟩) 4096 4096,.iface 85 (.pointer (some ⟨sb,0,none⟩)),.int .i64 ((r : Nat) : Int),.int .i64 ((w : Nat) : Int),.nilIface,lb,lr]⟩,⟨bb,0,bytesV (bs)⟩,⟨sb,0,[dv,sv,.int .i64 ((calls : Nat) : Int)]⟩,⟨tb,to,cs⟩] ∧ (bs.length = 4096) ∧ (r < w) ∧ (w ≤ 4096) ∧ (l = (bs.take w).drop r ++ rest) ∧ (SrcSh data db o dv rest) ∧ (calls + rest.length ≤ 65536)) ?_ ?_
 ·
  refine C.seq ?_
  refine C.draw [0,1,2,4,0,16,32,64,136] (.pure 0 240 (.pure 1 241 (.pure 2 243 (.pure 4 15 (.pure 5 31 (.pure 6 63 (.seg [(3,247),(7,127),(8,255)] .done))))))) mixed (by decide +kernel) ?_
  refine D.pure rfl (S.move rfl) rfl ?_
  refine D.pure rfl (S.nilPtr rfl) rfl ?_
  refine D.pure rfl (S.field rfl fa161_2) rfl ?_
  refine D.pure rfl (S.move rfl) rfl ?_
  refine D.pure rfl (S.nilPtr rfl) rfl ?_
  refine D.pure rfl (S.field rfl fa161_3) rfl ?_
  refine D.seg (by decide) ?_
  refine W.still rfl (S.load 0 (k := 2) rfl rfl rfl Tryd.isAgg3) rfl ?_
  refine W.still rfl (S.load 0 (k := 3) rfl rfl rfl Tryd.isAgg3) rfl ?_
  refine W.pure rfl (S.eq rfl rfl) rfl ?_
  refine W.nil ?_
  refine D.kp [(0,_),(1,_),(4,_),(5,_),(9,_),(23,_)] rfl ?_
  refine C.ifp rfl (fun h23 => ?_) (fun h23 => ?_)
  ·
   have hrw2 : r = w := by omega
   subst hrw2
   refine C.seq ?_
   refine C.sr ?_
   refine E.pure (S.move rfl) rfl ?_
   refine E.pure (S.nilPtr rfl) rfl ?_
   refine E.pure (S.field rfl fa161_4) rfl ?_
   refine E.still (S.load 0 (k := 4) rfl rfl rfl Tryd.isAgg59) rfl ?_
   refine E.still (S.neErNil rfl) rfl ?_
   refine E.kp [(0,_),(1,_),(4,_),(5,_),(9,_),(23,_),(28,_)] rfl ?_
   first | refine C.ifp rfl (fun h28 => ?_) (fun h28 => ?_) | refine C.ifNone rfl (fun h28 => ?_) (fun h28 => ?_) | refine C.ifSome rfl (fun h28 => ?_) (fun h28 => ?_) | refine C.ifSe rfl (fun h28 => ?_) (fun h28 => ?_) | refine C.ifNotSe rfl (fun h28 => ?_) (fun h28 => ?_) | refine C.cond rfl (fun h28 => ?_) (fun h28 => ?_)
   ·
    exact absurd he0 h28
   subst he0
   refine C.skip ?_
   refine C.seq ?_
   refine C.sr ?_
   refine E.pure (S.move rfl) rfl ?_
   refine E.pure (S.lenSl rfl Tryd.underlying22) rfl ?_
   refine E.pure (S.move rfl) rfl ?_
   refine E.pure (S.nilPtr rfl) rfl ?_
   refine E.pure (S.field rfl fa161_0) rfl ?_
   refine E.still (S.load 0 (k := 0) rfl rfl rfl Tryd.isAgg22) rfl ?_
   refine E.pure (S.lenSl rfl Tryd.underlying22) rfl ?_
   refine E.pure (S.ge rfl rfl) rfl ?_
   refine E.kp [(0,_),(1,_),(4,_),(5,_),(9,_),(23,_),(28,_),(38,_)] rfl ?_
   refine C.ifp rfl (fun h38 => ?_) (fun h38 => ?_)
   ·
    refine C.sr ?_
    refine E.pure (S.move rfl) rfl ?_
    refine E.pure (S.move rfl) rfl ?_
    refine E.pure (S.nilPtr rfl) rfl ?_
    refine E.pure (S.field rfl fa161_1) rfl ?_
    refine E.still (S.load 0 (k := 1) rfl rfl rfl Tryd.isAgg97) rfl ?_
    refine E.pure (S.move rfl) rfl ?_
    refine E.loud1 (OpX.pick [2,2] (F := [_,_]) rfl (X.invoke rfl rfl (smRead sb) Tryd.call110 (source_spec hs sb hsz calls (by omega) tb to m mc cs hm hm0 data db o hp rest (by omega) hd))) rfl ?_; rintro _ _ ⟨_,⟨k,dv2,calls2,hk1,hk2,hk3,hd2,hcl2,rfl,rfl⟩,rfl⟩; refine E.relist (L2 := [_,_,_,_]) rfl ?_
    refine E.perml [2,2,0,0] rfl ?_
    refine E.relist (L2 := [_,_,_,_]) rfl ?_
    refine E.pure (S.move rfl) rfl ?_
    refine E.pure (S.extract rfl rfl) rfl ?_
    refine E.pure (S.extract rfl rfl) rfl ?_
    refine E.pure (S.assign rfl) rfl ?_
    refine E.pure (S.nilPtr rfl) rfl ?_
    refine E.pure (S.field rfl fa161_4) rfl ?_
    refine E.loud0 (X.store 0 (k := 4) rfl rfl rfl (one_er _) rfl Tryd.sizeOf59) ?_; rintro _ _ ⟨rfl,rfl⟩; refine E.relist (L2 := [_,_,_,_]) rfl ?_
    refine E.kp [(0,_),(1,_),(4,_),(5,_),(9,_),(23,_),(28,_),(38,_)] rfl ?_
    refine C.seq ?_
    refine C.sr ?_
    refine E.pure (S.move rfl) rfl ?_
    refine E.pure (S.lt (b := ((0 : Nat) : Int)) rfl rfl) rfl ?_
    refine E.kp [(0,_),(1,_),(4,_),(5,_),(9,_),(23,_),(28,_),(38,_),(52,_)] rfl ?_
    refine C.ifp rfl (fun h52 => ?_) (fun h52 => ?_)
    ·
     exfalso
     omega
    refine C.skip ?_
    refine C.seq ?_
    refine C.sr ?_
    refine E.pure (S.move rfl) rfl ?_
    refine E.pure (S.gt (b := ((0 : Nat) : Int)) rfl rfl) rfl ?_
    refine E.kp [(0,_),(1,_),(4,_),(5,_),(9,_),(23,_),(28,_),(38,_),(52,_),(55,_)] rfl ?_
    refine C.ifp rfl (fun h55 => ?_) (fun h55 => ?_)
    ·
     refine C.sr ?_
     refine E.pure (S.move rfl) rfl ?_
     refine E.pure (S.move rfl) rfl ?_
     refine E.pure (S.move rfl) rfl ?_
     refine E.pure (S.sub (b := ((1 : Nat) : Int)) rfl rfl (N.sub64 (by omega) (by omega))) rfl ?_
     refine E.reslot (v := .int .i64 ((k - 1 : Nat) : Int)) (congrArg (fun y : Nat => Value.int .i64 (y : Int)) (by omega)) ?_
     refine E.pure (S.ixSl rfl rfl (by omega) Tryd.underlying22 Tryd.sizeOf5) rfl ?_
     refine E.still (S.load 3 (k := (k - 1) * 1) rfl rfl (by rw [Nat.mul_one,List.getElem?_append_left (by rw [bytesV_length,List.length_take]; omega)]; exact bytes_get2 (by rw [List.length_take]; omega)) Tryd.isAgg5) rfl ?_
     have hb9 := ((rest.take k)[k - 1]'(by rw [List.length_take]; omega)).toNat_lt
     refine E.pure (S.conv rfl Tryd.underlying5 Tryd.underlying3 (N.i64n (by omega))) rfl ?_
     refine E.pure (S.nilPtr rfl) rfl ?_
     refine E.pure (S.field rfl fa161_5) rfl ?_
     refine E.loud0 (X.store 0 (k := 5) rfl rfl rfl rfl rfl Tryd.sizeOf3) ?_; rintro _ _ ⟨rfl,rfl⟩; refine E.relist (L2 := [_,_,_,_]) rfl ?_
     refine E.kp [(0,_),(1,_),(4,_),(5,_),(9,_),(23,_),(28,_),(38,_),(52,_),(55,_)] rfl ?_
     refine C.region ?_
     refine E.pure (S.move rfl) rfl ?_
     refine E.pure (S.nilPtr rfl) rfl ?_
     refine E.pure (S.field rfl fa161_6) rfl ?_
     refine E.loud0 (X.store 0 (k := 6) rfl rfl rfl rfl rfl Tryd.sizeOf3) ?_; rintro _ _ ⟨rfl,rfl⟩; refine E.relist (L2 := [_,_,_,_]) rfl ?_
     refine E.kp [(0,_),(1,_),(4,_),(5,_),(9,_),(23,_),(28,_),(38,_),(52,_),(55,_)] rfl ?_
     refine C.sr ?_
     refine E.pure (S.move rfl) rfl ?_
     refine E.pure (S.move rfl) rfl ?_
     refine E.loud1 (OpX.pick [0] (F := [_,_,_]) rfl (X.call rfl Tryd.call116 (bufErr_spec (ea := ea) rb bb sb _ _ _ _ (rdErr rest)))) rfl ?_; rintro _ _ ⟨_,⟨rfl,rfl⟩,rfl⟩; refine E.relist (L2 := [_,_,_,_]) rfl ?_
     refine E.pure (S.assign rfl) rfl ?_
     refine E.pure (S.assign rfl) rfl ?_
     refine E.kp [(0,_),(1,_),(4,_),(5,_),(9,_),(23,_),(28,_),(38,_),(52,_),(55,_)] rfl ?_
     refine C.ret ?_
     rw [take_drop_nil,List.nil_append] at hl
     refine ⟨_,_,rfl,rfl,k,_,_,_,⟨bs,r,r,_,_,dv2,rest.drop k,calls2,hbs,hrw,hw,by rw [hl,take_drop_nil]; rfl,hd2,by omega,?_,?_,rfl,rfl,rfl⟩,hk2,by rw [hl]; exact hk3,by rw [hl]; exact hk1,by first | (rw [hl]; done) | (rw [hl]; rfl),by first | (rw [hl]; done) | (rw [hl]; rfl)⟩
     · rfl
     · rfl
    refine C.skip ?_
    refine C.sr ?_
    refine E.pure (S.move rfl) rfl ?_
    refine E.pure (S.move rfl) rfl ?_
    refine E.loud1 (OpX.pick [0] (F := [_,_,_]) rfl (X.call rfl Tryd.call116 (bufErr_spec (ea := ea) rb bb sb _ _ _ _ (rdErr rest)))) rfl ?_; rintro _ _ ⟨_,⟨rfl,rfl⟩,rfl⟩; refine E.relist (L2 := [_,_,_,_]) rfl ?_
    refine E.pure (S.assign rfl) rfl ?_
    refine E.pure (S.assign rfl) rfl ?_
    refine E.kp [(0,_),(1,_),(4,_),(5,_),(9,_),(23,_),(28,_),(38,_),(52,_),(55,_)] rfl ?_
    refine C.ret ?_
    rw [take_drop_nil,List.nil_append] at hl
    refine ⟨_,_,rfl,rfl,k,_,_,_,⟨bs,r,r,_,_,dv2,rest.drop k,calls2,hbs,hrw,hw,by rw [hl,take_drop_nil]; rfl,hd2,by omega,?_,?_,rfl,rfl,rfl⟩,hk2,by rw [hl]; exact hk3,by rw [hl]; exact hk1,by first | (rw [hl]; done) | (rw [hl]; rfl),by first | (rw [hl]; done) | (rw [hl]; rfl)⟩
    · first | rfl | assumption
    · first | rfl | assumption
   refine C.skip ?_
   refine C.sr ?_
   refine E.pure (S.move rfl) rfl ?_
   refine E.pure (S.nilPtr rfl) rfl ?_
   refine E.pure (S.field rfl fa161_2) rfl ?_
   refine E.loud0 (X.store 0 (k := 2) rfl rfl rfl rfl rfl Tryd.sizeOf3) ?_; rintro _ _ ⟨rfl,rfl⟩; refine E.relist (L2 := [_,_,_,_]) rfl ?_
   refine E.kp [(0,_),(1,_),(4,_),(5,_),(9,_),(23,_),(28,_),(38,_)] rfl ?_
   refine C.sr ?_
   refine E.pure (S.move rfl) rfl ?_
   refine E.pure (S.nilPtr rfl) rfl ?_
   refine E.pure (S.field rfl fa161_3) rfl ?_
   refine E.loud0 (X.store 0 (k := 3) rfl rfl rfl rfl rfl Tryd.sizeOf3) ?_; rintro _ _ ⟨rfl,rfl⟩; refine E.relist (L2 := [_,_,_,_]) rfl ?_
   refine E.kp [(0,_),(1,_),(4,_),(5,_),(9,_),(23,_),(28,_),(38,_)] rfl ?_
   refine C.relist (L2 := [⟨rb,0,[.slice (some ⟨bb,0,none⟩) 4096 4096,.iface 85 (.pointer (some ⟨sb,0,none⟩)),.int .i64 ((0 : Nat) : Int),.int .i64 ((0 : Nat) : Int),.nilIface,lb,lr]⟩,_,_,_]) rfl ?_
   refine C.seq ?_
   refine C.draw [0,0,2,4,8,0,32,64,128,16,528,1280,2048,4096,4096,16382,65535,131071,196607] (.pure 0 65534 (.pure 1 481 (.pure 2 483 (.pure 3 487 (.pure 5 1567 (.pure 6 1599 (.pure 7 1663 (.seg [(4,495),(8,1791),(9,511),(10,1023)] (.alt 11 (.pure 12 4095 (.pure 13 24575 (.pure 14 49151 (.pure 15 32767 (.pure 16 65535 (.pure 17 131071 (.alt 18 .done .stop))))))) .stop))))))))) mixed (by decide +kernel) ?_
   refine D.pure rfl (S.move rfl) rfl ?_
   refine D.pure rfl (S.move rfl) rfl ?_
   refine D.pure rfl (S.nilPtr rfl) rfl ?_
   refine D.pure rfl (S.field rfl fa161_1) rfl ?_
   refine D.pure rfl (S.move rfl) rfl ?_
   refine D.pure rfl (S.nilPtr rfl) rfl ?_
   refine D.pure rfl (S.field rfl fa161_0) rfl ?_
   refine D.seg (by decide) ?_
   refine W.still rfl (S.load 0 (k := 1) rfl rfl rfl Tryd.isAgg97) rfl ?_
   refine W.still rfl (S.load 0 (k := 0) rfl rfl rfl Tryd.isAgg22) rfl ?_
   first | refine W.pure rfl (S.nilPtr rfl) rfl ?_ | refine W.pure rfl (S.nilIface rfl) rfl ?_ | refine W.pure rfl (S.nilFunc rfl) rfl ?_
   refine W.pure rfl (S.move rfl) rfl ?_
   refine W.nil ?_
   refine D.one ?_
   refine O.loud1 rfl (OpX.pick [2,1] (F := [_,_]) rfl (X.invoke rfl rfl (smRead sb) Tryd.call110 (source_spec hs sb hsz calls (by omega) bb 0 4096 4096 (bytesV bs) (by rw [bytesV_length,hbs]) (by decide) data db o hp rest (by omega) hd))) rfl ?_; rintro _ _ ⟨_,⟨k,dv2,calls2,hk1,hk2,hk3,hd2,hcl2,rfl,rfl⟩,rfl⟩; refine D.relist (L2 := [_,_,_,_]) rfl ?_
   refine D.perml [2,1,0,0] rfl ?_
   refine D.relist (L2 := [_,_,_,_]) rfl ?_
   refine D.pure rfl (S.move rfl) rfl ?_
   refine D.pure rfl (S.extract rfl rfl) rfl ?_
   refine D.pure rfl (S.extract rfl rfl) rfl ?_
   refine D.pure rfl (S.assign rfl) rfl ?_
   refine D.pure rfl (S.nilPtr rfl) rfl ?_
   refine D.pure rfl (S.field rfl fa161_4) rfl ?_
   refine D.one ?_
   refine O.loud0 rfl (X.store 0 (k := 4) rfl rfl rfl (one_er _) rfl Tryd.sizeOf59) ?_; rintro _ _ ⟨rfl,rfl⟩; refine D.relist (L2 := [_,_,_,_]) rfl ?_
   refine D.kp [(0,_),(1,_),(4,_),(5,_),(9,_),(23,_),(28,_),(38,_)] rfl ?_
   refine C.seq ?_
   refine C.sr ?_
   refine E.pure (S.move rfl) rfl ?_
   refine E.pure (S.lt (b := ((0 : Nat) : Int)) rfl rfl) rfl ?_
   refine E.kp [(0,_),(1,_),(4,_),(5,_),(9,_),(23,_),(28,_),(38,_),(95,_)] rfl ?_
   refine C.ifp rfl (fun h95 => ?_) (fun h95 => ?_)
   ·
    exfalso
    omega
   refine C.skip ?_
   refine C.seq ?_
   refine C.sr ?_
   refine E.pure (S.move rfl) rfl ?_
   refine E.pure (S.eq (b := ((0 : Nat) : Int)) rfl rfl) rfl ?_
   refine E.kp [(0,_),(1,_),(4,_),(5,_),(9,_),(23,_),(28,_),(38,_),(95,_),(98,_)] rfl ?_
   refine C.ifp rfl (fun h98 => ?_) (fun h98 => ?_)
   ·
    refine C.sr ?_
    refine E.pure (S.move rfl) rfl ?_
    refine E.loud1 (OpX.pick [0] (F := [_,_,_]) rfl (X.call rfl Tryd.call116 (bufErr_spec (ea := ea) rb bb sb _ _ _ _ (rdErr rest)))) rfl ?_; rintro _ _ ⟨_,⟨rfl,rfl⟩,rfl⟩; refine E.relist (L2 := [_,_,_,_]) rfl ?_
    refine E.pure (S.assign rfl) rfl ?_
    refine E.pure (S.assign rfl) rfl ?_
    refine E.kp [(0,_),(1,_),(4,_),(5,_),(9,_),(23,_),(28,_),(38,_),(95,_),(98,_)] rfl ?_
    refine C.ret ?_
    have hk0 : k = 0 := by omega
    have hr0 : rest = [] := by
      by_cases h0 : rest = []
      · exact h0
      · have := hk1 h0; omega
    subst hr0
    rw [take_drop_nil,List.nil_append] at hl
    subst hl
    subst hk0
    exact ⟨_,_,rfl,rfl,0,_,_,_,⟨_,0,0,lb,lr,dv2,[],calls2,hbs,Nat.le_refl _,Nat.zero_le _,rfl,hd2,by simp at hcl hcl2 ⊢; omega,hone,hone2,rfl,rfl,rfl⟩,Nat.zero_le _,Nat.zero_le _,fun h => absurd rfl h,rfl,rfl⟩
   rw [take_drop_nil,List.nil_append] at hl
   have hre : rdErr rest = .none := rdErr_ne fun h => by subst h; have : k ≤ 0 := hk3; omega
   refine C.skip ?_
   refine C.region ?_
   refine E.pure (S.move rfl) rfl ?_
   refine E.pure (S.nilPtr rfl) rfl ?_
   refine E.pure (S.field rfl fa161_3) rfl ?_
   refine E.still (S.load 0 (k := 3) rfl rfl rfl Tryd.isAgg3) rfl ?_
   refine E.pure (S.move rfl) rfl ?_
   refine E.pure (S.add rfl rfl (N.add64 (by omega))) rfl ?_
   refine E.reslot (v := .int .i64 ((k : Nat) : Int)) (congrArg (fun y : Nat => Value.int .i64 (y : Int)) (by omega)) ?_
   refine E.pure (S.nilPtr rfl) rfl ?_
   refine E.pure (S.field rfl fa161_3) rfl ?_
   refine E.loud0 (X.store 0 (k := 3) rfl rfl rfl rfl rfl Tryd.sizeOf3) ?_; rintro _ _ ⟨rfl,rfl⟩; refine E.relist (L2 := [_,_,_,_]) rfl ?_
   refine E.kp [(0,_),(1,_),(4,_),(5,_),(9,_),(23,_),(28,_),(38,_),(95,_),(98,_)] rfl ?_
   exact ⟨_,0,k,dv2,rest.drop k,calls2,rfl,(by first | (rw [buf_tk,hre]; done) | (rw [buf_tk,hre]; rfl)),by rw [List.length_append,List.length_take,List.length_drop]; omega,by omega,hk2,by rw [fill_buf hk3]; exact hl,hd2,by omega⟩
  subst he0
  have hrw2 : r < w := by omega
  refine C.skip ?_
  first | exact ⟨_,0,k,dv2,rest.drop k,calls2,rfl,(by first | (rw [buf_tk,hre]; done) | (rw [buf_tk,hre]; rfl)),by rw [List.length_append,List.length_take,List.length_drop]; omega,by omega,hk2,by rw [fill_buf hk3]; exact hl,hd2,by omega⟩ | exact ⟨bs,r,w,dv,rest,calls,rfl,rfl,hbs,by omega,hw,hl,hd,hcl⟩
 rintro _ _ ⟨bs,r,w,dv,rest,calls,hq25,rfl,hbs,hrw,hw,hl,hd,hcl⟩
 refine C.weaken _ hq25 ?_
 refine C.seq ?_
 refine C.draw [0,0,2,4,8,0,32,64,128,0,512,1024,2048,4368,8193,32767] (.pure 0 16382 (.pure 1 8161 (.pure 2 8163 (.pure 3 8167 (.pure 5 7711 (.pure 6 7743 (.pure 7 7807 (.pure 9 511 (.pure 10 1023 (.pure 11 2047 (.seg [(4,8175),(8,7935),(12,4095),(13,8191)] (.alt 14 (.pure 15 32767 .done) .stop)))))))))))) mixed (by decide +kernel) ?_
 refine D.pure rfl (S.move rfl) rfl ?_
 refine D.pure rfl (S.move rfl) rfl ?_
 refine D.pure rfl (S.nilPtr rfl) rfl ?_
 refine D.pure rfl (S.field rfl fa161_0) rfl ?_
 refine D.pure rfl (S.move rfl) rfl ?_
 refine D.pure rfl (S.nilPtr rfl) rfl ?_
 refine D.pure rfl (S.field rfl fa161_2) rfl ?_
 refine D.pure rfl (S.move rfl) rfl ?_
 refine D.pure rfl (S.nilPtr rfl) rfl ?_
 refine D.pure rfl (S.field rfl fa161_3) rfl ?_
 refine D.seg (by decide) ?_
 refine W.still rfl (S.load 0 (k := 0) rfl rfl rfl Tryd.isAgg22) rfl ?_
 refine W.still rfl (S.load 0 (k := 2) rfl rfl rfl Tryd.isAgg3) rfl ?_
 refine W.still rfl (S.load 0 (k := 3) rfl rfl rfl Tryd.isAgg3) rfl ?_
 refine W.pure rfl (S.slLH rfl rfl rfl (by omega) (by omega) Tryd.underlying22 Tryd.sizeOf5) rfl ?_
 refine W.reslot (v := .slice (some ⟨bb,part 0 r 4096 1,none⟩) ((bs.take w).drop r).length (4096 - r)) (slice_to rfl (by rw [List.length_drop,List.length_take]; omega) rfl) ?_
 refine W.nil ?_
 refine D.one ?_
 refine O.loud1 rfl (X.copyB 3 (l := (bs.take w).drop r) rfl rfl rfl rfl (.inr ⟨bb,_,rfl,buf_reads (i := 1) hbs hrw hw rfl⟩) (by omega)) rfl ?_; rintro _ _ ⟨rfl,rfl⟩; refine D.relist (L2 := [_,_,_,_]) rfl ?_
 obtain ⟨k,hk⟩ : ∃ k,k = Nat.min ((bs.take w).drop r).length m := ⟨_,rfl⟩
 have hbl : ((bs.take w).drop r).length = w - r := by rw [List.length_drop,List.length_take]; omega
 have hk0 : 0 < k := by rw [hk,hbl]; exact Nat.lt_min.2 ⟨by omega,hm0⟩
 have hk2 : k ≤ w - r := by rw [hk,hbl]; exact Nat.min_le_left _ _
 have hk3 : k ≤ m := by rw [hk]; exact Nat.min_le_right _ _
 have htk : ((bs.take w).drop r).take m = ((bs.take w).drop r).take k := by
   rw [hk]
   rcases Nat.le_total ((bs.take w).drop r).length m with h1 | h1
   · rw [show Nat.min ((bs.take w).drop r).length m = ((bs.take w).drop r).length from Nat.min_eq_left h1,List.take_length,List.take_of_length_le h1]
   · rw [show Nat.min ((bs.take w).drop r).length m = m from Nat.min_eq_right h1]
 refine D.reslot (v := .int .i64 ((k : Nat) : Int)) (by rw [hk]) ?_
 refine D.relist (L2 := [_,_,_,⟨tb,to,bytesV (((bs.take w).drop r).take k) ++ cs.drop k⟩]) (by first | (rw [htk,← hk]; done) | (rw [htk,← hk]; rfl)) ?_
 refine D.pure rfl (S.assign rfl) rfl ?_
 refine D.kp [(0,_),(1,_),(4,_)] rfl ?_
 refine C.sr ?_
 refine E.pure (S.move rfl) rfl ?_
 refine E.pure (S.nilPtr rfl) rfl ?_
 refine E.pure (S.field rfl fa161_2) rfl ?_
 refine E.still (S.load 0 (k := 2) rfl rfl rfl Tryd.isAgg3) rfl ?_
 refine E.pure (S.move rfl) rfl ?_
 refine E.pure (S.add rfl rfl (N.add64 (by omega))) rfl ?_
 refine E.pure (S.nilPtr rfl) rfl ?_
 refine E.pure (S.field rfl fa161_2) rfl ?_
 refine E.loud0 (X.store 0 (k := 2) rfl rfl rfl rfl rfl Tryd.sizeOf3) ?_; rintro _ _ ⟨rfl,rfl⟩; refine E.relist (L2 := [_,_,_,_]) rfl ?_
 refine E.kp [(0,_),(1,_),(4,_)] rfl ?_
 refine C.seq ?_
 refine C.draw [0,0,2,4,8,0,32,64,128,256,528,1024,2048,8191,16383,24575] (.pure 0 8190 (.pure 1 993 (.pure 2 995 (.pure 3 999 (.pure 5 31 (.pure 6 63 (.pure 7 127 (.seg [(4,1007),(8,255),(9,511),(10,1023),(11,2047),(12,4095),(13,8191),(14,16383)] (.alt 15 .done .stop))))))))) mixed (by decide +kernel) ?_
 refine D.pure rfl (S.move rfl) rfl ?_
 refine D.pure rfl (S.move rfl) rfl ?_
 refine D.pure rfl (S.nilPtr rfl) rfl ?_
 refine D.pure rfl (S.field rfl fa161_0) rfl ?_
 refine D.pure rfl (S.move rfl) rfl ?_
 refine D.pure rfl (S.nilPtr rfl) rfl ?_
 refine D.pure rfl (S.field rfl fa161_2) rfl ?_
 refine D.seg (by decide) ?_
 refine W.still rfl (S.load 0 (k := 0) rfl rfl rfl Tryd.isAgg22) rfl ?_
 refine W.still rfl (S.load 0 (k := 2) rfl rfl rfl Tryd.isAgg3) rfl ?_
 refine W.pure rfl (S.sub (b := ((1 : Nat) : Int)) rfl rfl (N.sub64 (by omega) (by omega))) rfl ?_
 refine W.reslot (v := .int .i64 ((r + k - 1 : Nat) : Int)) (congrArg (fun y : Nat => Value.int .i64 (y : Int)) (by omega)) ?_
 refine W.pure rfl (S.ixSl rfl rfl (by omega) Tryd.underlying22 Tryd.sizeOf5) rfl ?_
 refine W.still rfl (S.load 1 (k := (r + k - 1) * 1) rfl rfl (by rw [Nat.mul_one]; exact bytes_get2 (by omega)) Tryd.isAgg5) rfl ?_
 have hb9 := (bs[r + k - 1]'(by omega)).toNat_lt
 refine W.pure rfl (S.conv rfl Tryd.underlying5 Tryd.underlying3 (N.i64n (by omega))) rfl ?_
 refine W.pure rfl (S.nilPtr rfl) rfl ?_
 refine W.pure rfl (S.field rfl fa161_5) rfl ?_
 refine W.nil ?_
 refine D.one ?_
 refine O.loud0 rfl (X.store 0 (k := 5) rfl rfl rfl rfl rfl Tryd.sizeOf3) ?_; rintro _ _ ⟨rfl,rfl⟩; refine D.relist (L2 := [_,_,_,_]) rfl ?_
 refine D.kp [(0,_),(1,_),(4,_)] rfl ?_
 refine C.sr ?_
 refine E.pure (S.move rfl) rfl ?_
 refine E.pure (S.nilPtr rfl) rfl ?_
 refine E.pure (S.field rfl fa161_6) rfl ?_
 refine E.loud0 (X.store 0 (k := 6) rfl rfl rfl rfl rfl Tryd.sizeOf3) ?_; rintro _ _ ⟨rfl,rfl⟩; refine E.relist (L2 := [_,_,_,_]) rfl ?_
 refine E.kp [(0,_),(1,_),(4,_)] rfl ?_
 refine C.sr ?_
 refine E.pure (S.move rfl) rfl ?_
 refine E.pure (S.assign rfl) rfl ?_
 refine E.pure (S.assign (v := Er.val ea .none) rfl) rfl ?_
 refine E.kp [(0,_),(1,_),(4,_),(5,_)] rfl ?_
 refine C.ret ?_
 have hkl : k ≤ l.length := by rw [hl,List.length_append,List.length_drop,List.length_take]; omega
 refine ⟨_,_,rfl,rfl,k,_,_,_,⟨bs,r + k,w,.int .i64 (((bs[r + k - 1]'(by omega)).toNat : Nat) : Int),.int .i64 (-1),dv,rest,calls,hbs,by omega,hw,?_,hd,hcl,?_,?_,rfl,rfl,rfl⟩,by omega,hkl,fun _ => hk0,?_,?_⟩
 · rw [hl,List.drop_append_of_le_length (by rw [List.length_drop,List.length_take]; omega),List.drop_drop]
 · rfl
 · rfl
 · rw [rdErr_ne (fun h => by rw [h] at hkl; have : k ≤ 0 := hkl; omega)]
 · rw [hl,List.take_append_of_le_length (by rw [List.length_drop,List.length_take]; omega)]; rfl
end Go.Eng
namespace Go.Eng
open Go
set_option maxRecDepth 100000

theorem out_mono {P : Program} {K : Known} {w : World} {L0 L : Frags} {R R' : Value → Frags → Prop} (key : ∀ {v : Value} {w' : World},(∃ L',R v L' ∧ To K w L0 w' L') → ∃ L',R' v L' ∧ To K w L w' L') : ∀ {r : Result Next},Out P K w L0 R r → Out P K w L R' r
  | .ok (.value _) _,h => key h
  | .ok .skip _,h => key h
  | .ok (.enter _ _) _,h => Calls.mono h (by rintro e w'' ⟨v,L',rfl,r,t⟩; obtain ⟨L2,h1,h2⟩ := key ⟨L',r,t⟩; exact ⟨v,L2,rfl,h1,h2⟩)
/-- An operation that is given no memory makes new one. -/
theorem OpX.fresh {P : Program} {K : Known} {n : Nat} {op : Op} {ty : TypeId} {env : Env} {L : Frags} {R : Value → Frags → Prop} (h : OpX P K n op ty env [] R) :
    OpX P K n op ty env L fun v L' => ∃ L1,R v L1 ∧ L' = L1 ++ L ∧ ∀ f ∈ L1,∀ g ∈ L,f.b ≠ g.b := by
  intro a w hf hw
  refine out_mono (fun {v w'} => ?_) (h a w hf (Agree.drop (L := []) (F := L) hw))
  rintro ⟨L1,r,t⟩
  have t2 := To.frame (L := []) (F := L) hw t
  refine ⟨L1 ++ L,⟨L1,r,rfl,fun f hf g hg => ?_⟩,t2⟩
  have h1 := (hw.ok g hg).lt
  rcases t.foot f hf with h2 | ⟨⟨x,hx,_⟩,_⟩
  · omega
  · cases hx

def Apart (A L : Frags) : Prop := ∀ f ∈ A,∀ g ∈ L,f.b ≠ g.b
/-- What A holds is known. -/
def Holds (K : Known) (A : Frags) : Prop := ∀ f ∈ A,∀ j v,f.cs[j]? = some v → cellAt K f.b (f.o + j) = some v

/-- A call for which fragments that it does not write are known memory. -/
theorem Fn.knowA {P : Program} {K : Known} {f : FuncId} {args : Array Value} {A L : Frags} {R : Known → Value → Frags → Prop} (hd : Apart A L)
    (h : ∀ K2 : Known,(∀ b o,K b = some o → K2 b = some o) → Holds K2 A → Fn P K2 f args L (R K2)) :
    Fn P K f args (A ++ L) fun r L' => ∃ K2 L1,(∀ b o,K b = some o → K2 b = some o) ∧ R K2 r L1 ∧ L' = A ++ L1 ∧ Apart A L1 := by
  intro w hw
  let K2 : Known := fun b => match K b with
    | some o => some o
    | none => if ∃ f ∈ A,f.b = b then w.heap[b]? else none
  have hK1 : ∀ b o,K b = some o → K2 b = some o := fun b o hb => by simp only [K2,hb]
  have hK2 : K2.sits w.heap := fun b o hb => by
    simp only [K2] at hb
    split at hb
    · rename_i o' ho
      simp only [Option.some.injEq] at hb
      subst hb
      exact hw.base b _ ho
    · split at hb
      · exact hb
      · cases hb
  have hA : ∀ f ∈ A,K2 f.b = w.heap[f.b]? := fun f hf => by
    have hn := hw.up f (List.mem_append_left _ hf)
    simp only [K2,hn]
    rw [if_pos ⟨f,hf,rfl⟩]
  have hA2 : ∀ f ∈ A,∃ o,K2 f.b = some o := fun f hf => by
    obtain ⟨c,t,fr,hb,_⟩ := (hw.ok f (List.mem_append_left _ hf)).row
    exact ⟨_,(hA f hf).trans hb⟩
  have hL : ∀ g ∈ L,K2 g.b = none := fun g hg => by
    have hn := hw.up g (List.mem_append_right _ hg)
    simp only [K2,hn]
    rw [if_neg (fun ⟨f,hf,e⟩ => hd f hf g hg e)]
  have hold : Holds K2 A := fun f hf j v hj => by
    obtain ⟨c,t,fr,hb,hv,_⟩ := (hw.ok f (List.mem_append_left _ hf)).row
    have hl := (List.getElem?_eq_some_iff.1 hj).1
    unfold cellAt
    rw [hA f hf,hb]
    simp only
    rw [hv j hl,← hj,List.getElem?_eq_getElem hl]
  have hw2 : Agree K2 L w.heap := ⟨hK2,hL,fun g hg => hw.ok g (List.mem_append_right _ hg),(List.pairwise_append.1 hw.dis).2.1⟩
  refine Calls.mono (h K2 hK1 hold w hw2) ?_
  rintro e w' ⟨v,L1,rfl,r,t⟩
  have hd2 : Apart A L1 := fun f hf g hg e => by
    obtain ⟨o,ho⟩ := hA2 f hf
    have := t.st.up g hg
    rw [← e,ho] at this
    cases this
  have hKn : ∀ b,K2 b = none → K b = none := fun b hb => by
    cases hk : K b with
    | none => rfl
    | some o => rw [hK1 b o hk] at hb; cases hb
  have hsame : ∀ f ∈ A,w'.heap[f.b]? = w.heap[f.b]? := fun f hf => by
    obtain ⟨o,ho⟩ := hA2 f hf
    rw [t.st.base _ _ ho,← hA f hf,ho]
  refine ⟨v,A ++ L1,rfl,⟨K2,L1,hK1,r,rfl,hd2⟩,⟨⟨fun b o hb => t.st.base b o (hK1 b o hb),fun g hg => ?_,fun g hg => ?_,?_⟩,t.size,fun b hb hn => t.old b hb fun g hg => hn g (List.mem_append_right _ hg),fun b c ty fr hb => ?_,fun g hg => ?_,t.os,t.tape,t.output⟩⟩
  · rcases List.mem_append.1 hg with h1 | h1
    · exact hw.up g (List.mem_append_left _ h1)
    · exact hKn _ (t.st.up g h1)
  · rcases List.mem_append.1 hg with h1 | h1
    · obtain ⟨c,ty,fr,hb,h2⟩ := (hw.ok g (List.mem_append_left _ h1)).row
      exact ⟨c,ty,fr,(hsame g h1).trans hb,h2⟩
    · exact t.st.ok g h1
  · refine List.pairwise_append.2 ⟨(List.pairwise_append.1 hw.dis).1,t.st.dis,fun f hf g hg b j h1 h2 => hd2 f hf g hg (h1.1.trans h2.1.symm)⟩
  · obtain ⟨c',h1,h2,h3⟩ := t.cells b c ty fr hb
    exact ⟨c',h1,h2,fun j hj => h3 j fun ⟨g,hg,hh⟩ => hj ⟨g,List.mem_append_right _ hg,hh⟩⟩
  · rcases List.mem_append.1 hg with h1 | h1
    · exact .inr ⟨⟨g,List.mem_append_left _ h1,rfl⟩,fun j hj => ⟨g,List.mem_append_left _ h1,hj⟩⟩
    · rcases t.foot g h1 with h2 | ⟨⟨x,hx,e⟩,h3⟩
      · exact .inl h2
      · exact .inr ⟨⟨x,List.mem_append_right _ hx,e⟩,fun j hj => by obtain ⟨y,hy,hh⟩ := h3 j hj; exact ⟨y,List.mem_append_right _ hy,hh⟩⟩
end Go.Eng
namespace Go.Eng
open Go Go.Proofs
set_option maxRecDepth 100000

set_option maxHeartbeats 1000000
theorem ufRead (b : Nat) (w : World) : (method (Tryd.prog.types.size + Made.depth) 112 (.pointer (some ⟨b,0,none⟩)) "Read").run Tryd.prog w = .ok (112,.pointer (some ⟨b,0,none⟩)) w := by
  obtain ⟨d,hd⟩ := depthS
  rw [hd]
  simp [method,Tryd.typeInfo112,Tryd.t112,Tryd.runUnderlying112,follow,receiverAt,Place.get]
theorem ufReadN (b : Nat) (w : World) : (nilAhead (Tryd.prog.types.size + Made.depth) 112 (.pointer (some ⟨b,0,none⟩)) "Read").run Tryd.prog w = .ok (some false) w := by
  obtain ⟨d,hd⟩ := depthS
  rw [hd]
  simp [nilAhead,Tryd.typeInfo112,Tryd.t112,followBlind]
theorem ufByte (b : Nat) (w : World) : (method (Tryd.prog.types.size + Made.depth) 112 (.pointer (some ⟨b,0,none⟩)) "ReadByte").run Tryd.prog w = .ok (113,.pointer (some ⟨b,0,none⟩)) w := by
  obtain ⟨d,hd⟩ := depthS
  rw [hd]
  simp [method,Tryd.typeInfo112,Tryd.t112,Tryd.runUnderlying112,follow,receiverAt,Place.get]
theorem ufByteN (b : Nat) (w : World) : (nilAhead (Tryd.prog.types.size + Made.depth) 112 (.pointer (some ⟨b,0,none⟩)) "ReadByte").run Tryd.prog w = .ok (some false) w := by
  obtain ⟨d,hd⟩ := depthS
  rw [hd]
  simp [nilAhead,Tryd.typeInfo112,Tryd.t112,followBlind]

theorem ufBoth0 : (Tryd.prog.info? 112).map (fun i => (lacking #[("Read",89),("ReadByte",139)] i.methods).isEmpty) = some true := by kernel_rfl
theorem ufBoth (want : Array (String × TypeId)) (h : Tryd.prog.underlying 71 = some (.interface want)) : (Tryd.prog.info? 112).map (fun i => (lacking want i.methods).isEmpty) = some true := by
  have h2 := (Tryd.underlying71).symm.trans h
  simp only [Option.some.injEq,TypeDesc.interface.injEq] at h2
  rw [← h2]
  exact ufBoth0
theorem smLacks0 : (Tryd.prog.info? 85).map (fun i => (lacking #[("Read",89),("ReadByte",139)] i.methods).isEmpty) = some false := by kernel_rfl
theorem smLacks (want : Array (String × TypeId)) (h : Tryd.prog.underlying 71 = some (.interface want)) : (Tryd.prog.info? 85).map (fun i => (lacking want i.methods).isEmpty) = some false := by
  have h2 := (Tryd.underlying71).symm.trans h
  simp only [Option.some.injEq,TypeDesc.interface.injEq] at h2
  rw [← h2]
  exact smLacks0
theorem frZero : (Tryd.prog.info? 71).map (·.zero) = some (some .nilIface) := by kernel_rfl
/-- A bufio.Reader over a source,as a source. -/
def bufSrc (K : Known) (ea : Fin 5 → Addr) (hs : Sents K ea) (data : List UInt8) (db o : Nat) (hp : data = [] ∨ KB K db o data) (rb bb sb : Nat) (sv : Value) (hsz : SzA K sv) : Src K ea where
  t := 112
  v := .pointer (some ⟨rb,0,none⟩)
  rd := 112
  rb := 113
  At := BufAt data db o rb bb sb sv
  mRead := ufRead rb
  mByte := ufByte rb
  nRead := ufReadN rb
  nByte := ufByteN rb
  both := ufBoth
  cRead := Tryd.call112
  cByte := Tryd.call113
  read := fun l g1 g2 g3 tb to m mc cs hA h0 hm hml => by
    obtain ⟨bs,r,w,lb,lr,dv,rest,calls,h1,h2,h3,h4,h5,h6,h7,h8,rfl,rfl,rfl⟩ := hA
    exact bufRead_walk hs data db o hp rb bb sb sv hsz l bs r w lb lr dv rest calls h1 h2 h3 h4 h5 h6 h7 h8 tb to m mc cs hm h0 hml .none rfl
  byte := fun l g1 g2 g3 hA => by
    obtain ⟨bs,r,w,lb,lr,dv,rest,calls,h1,h2,h3,h4,h5,h6,h7,h8,rfl,rfl,rfl⟩ := hA
    exact bufByte_walk hs data db o hp rb bb sb sv hsz l bs r w lb lr dv rest calls h1 h2 h3 h4 h5 h6 h7
theorem HeadSt.congr {K K2 : Known} {ea : Fin 5 → Addr} {s1 : Src K ea} {s2 : Src K2 ea} (ht : s1.t = s2.t) (hv : s1.v = s2.v) (hA : s1.At = s2.At) {dt : List UInt8} {fb p q nb : Nat} {x1 x2 x3 Af : Frag} (h : HeadSt s1 dt fb p q nb x1 x2 x3 Af) : HeadSt s2 dt fb p q nb x1 x2 x3 Af := by
  obtain ⟨h1,b,ro,h2,h3⟩ := h
  exact ⟨hA ▸ h1,b,ro,h2,by rw [h3,ht,hv]⟩
theorem DecSt.congr {K K2 : Known} {ea : Fin 5 → Addr} {s1 : Src K ea} {s2 : Src K2 ea} (ht : s1.t = s2.t) (hv : s1.v = s2.v) (hA : s1.At = s2.At) {dt : List UInt8} {fb hb : Nat} {R : ResR} {gv : Nat} {pend : List UInt8} {m : Nat} {x1 x2 x3 Af Tf Wf Hf : Frag} {TL : Frags} (h : DecSt s1 dt fb hb R gv pend m x1 x2 x3 Af Tf Wf Hf TL) :
    DecSt s2 dt fb hb R gv pend m x1 x2 x3 Af Tf Wf Hf TL := by
  rcases h with ⟨p,h0,⟨q,nb,out,trv,h,wr,rd,full,ss,fin,hl,hd,cl,cd,hh,hr⟩,hT⟩ | ⟨h0,t,last,hl,hd,⟨p,q,nb,out,trv,h,wr,rd,full,ss,cl,cd,hh,hr⟩,hT⟩ | ⟨h0,q,⟨out,trv,h,wr,rd,full,ss,last,hl,hd,cl,cd,hh,hr⟩,hT⟩ | ⟨h0,⟨out,e,er,trv,h,wr,rd,full,hE,⟨a,b,c,hA0⟩,hr⟩,hT⟩
  · exact .inl ⟨p,h0,⟨q,nb,out,trv,h,wr,rd,full,ss,fin,hl,hd,cl,cd,hh.congr ht hv hA,hr⟩,hT⟩
  · exact .inr (.inl ⟨h0,t,last,hl,hd,⟨p,q,nb,out,trv,h,wr,rd,full,ss,cl,cd,hh.congr ht hv hA,hr⟩,hT⟩)
  · exact .inr (.inr (.inl ⟨h0,q,⟨out,trv,h,wr,rd,full,ss,last,hl,hd,cl,cd,hh.congr ht hv hA,hr⟩,hT⟩))
  · refine .inr (.inr (.inr ⟨h0,⟨out,e,er,trv,h,wr,rd,full,?_,⟨a,b,c,by rw [hA0,ht,hv]⟩,hr⟩,hT⟩))
    rcases hE with ⟨q,e1,e2,e3,e4⟩ | ⟨e1,e2,l,e3⟩
    · exact .inl ⟨q,e1,e2,e3,hA ▸ e4⟩
    · exact .inr ⟨e1,e2,l,hA ▸ e3⟩
/-- What is said of a source says the same of another one that holds its bytes in the same way. -/
theorem ZAt.congr {K K2 : Known} {ea : Fin 5 → Addr} {s1 : Src K ea} {s2 : Src K2 ea} (ht : s1.t = s2.t) (hv : s1.v = s2.v) (hA : s1.At = s2.At) {zb : Nat} {h : Hd} {ms : Bool} {rest : List UInt8} {L : Frags} (hZ : ZAt s1 zb h ms rest L) : ZAt s2 zb h ms rest L := by
  obtain ⟨f1,f2,f3,bs,xa,xn,X,fb,DN,h1,h2,h3,⟨Af,Tf,Wf,Hf,TL,h4,h5⟩,rfl⟩ := hZ
  refine ⟨f1,f2,f3,bs,xa,xn,X,fb,DN,hA ▸ h1,h2,h3,⟨Af,Tf,Wf,Hf,TL,h4,fun dt x1 x2 x3 hx => ?_⟩,by rw [ht,hv]⟩
  obtain ⟨hb,hD⟩ := h5 dt x1 x2 x3 (hA ▸ hx)
  exact ⟨hb,hD.congr ht hv hA⟩

theorem bufReset_walk {K : Known} (rb bb sb : Nat) (zs : List Value) (hz : zs.length = 7) : Fn Tryd.prog K 69 #[.pointer (some ⟨rb,0,none⟩),.slice (some ⟨bb,0,none⟩) 4096 4096,.iface 85 (.pointer (some ⟨sb,0,none⟩))] ([⟨rb,0,zs⟩]) (fun r L => r = .tuple #[] ∧ L = [⟨rb,0,[.slice (some ⟨bb,0,none⟩) 4096 4096,.iface 85 (.pointer (some ⟨sb,0,none⟩)),.int .i64 0,.int .i64 0,.nilIface,.int .i64 (-1),.int .i64 (-1)]⟩]) := by
 refine Fn.intro (args := [.pointer (some ⟨rb,0,none⟩),.slice (some ⟨bb,0,none⟩) 4096 4096,.iface 85 (.pointer (some ⟨sb,0,none⟩))]) (RR := Ret0 _) Tryd.func69 rfl rfl Tryd.ntmps69 (res0 Tryd.results69) ?_
 refine C.reenv (env2 := [(0,.pointer (some ⟨rb,0,none⟩)),(1,.slice (some ⟨bb,0,none⟩) 4096 4096),(2,.iface 85 (.pointer (some ⟨sb,0,none⟩)))]) rfl ?_
 refine C.region ?_
 refine E.pure (S.move rfl) rfl ?_
 refine E.pure (S.move rfl) rfl ?_
 refine E.pure (S.move rfl) rfl ?_
 refine E.pure (S.buildV (v := .agg #[.slice (some ⟨bb,0,none⟩) 4096 4096,.iface 85 (.pointer (some ⟨sb,0,none⟩)),.int .i64 0,.int .i64 0,.nilIface,.int .i64 (-1),.int .i64 (-1)]) [(0,.slice (some ⟨bb,0,none⟩) 4096 4096),(1,.iface 85 (.pointer (some ⟨sb,0,none⟩))),(5,.int .i64 (-1)),(6,.int .i64 (-1))] rfl (fun w => by simp [Instr.build,Instr.fill,Value.cells,Tryd.zeroValue161])) rfl ?_
 refine E.pure (S.nilPtr rfl) rfl ?_
 refine E.loud0 (X.storeA 0 (k := 0) rfl rfl rfl rfl rfl (by rw [Nat.ble_eq,hz]; exact Nat.le_refl _) Tryd.sizeOf161 rfl) ?_
 rintro _ _ ⟨rfl,rfl⟩
 refine E.relist (L2 := [⟨rb,0,[.slice (some ⟨bb,0,none⟩) 4096 4096,.iface 85 (.pointer (some ⟨sb,0,none⟩)),.int .i64 0,.int .i64 0,.nilIface,.int .i64 (-1),.int .i64 (-1)]⟩]) (congrArg (fun x => [(⟨rb,0,x⟩ : Frag)]) (by rw [List.take_zero,List.nil_append,List.drop_eq_nil_of_le (by rw [hz]; exact Nat.le_refl _),List.append_nil])) ?_
 refine E.kp [] rfl ?_
 exact ⟨rfl,rfl⟩
theorem bufNewSize_walk {K : Known} (sb : Nat) : Fn Tryd.prog K 60 #[.iface 85 (.pointer (some ⟨sb,0,none⟩)),.int .i64 ((4096 : Nat) : Int)] ([]) (fun r L => ∃ rb bb,r = .pointer (some ⟨rb,0,none⟩) ∧ L = [⟨rb,0,[.slice (some ⟨bb,0,none⟩) 4096 4096,.iface 85 (.pointer (some ⟨sb,0,none⟩)),.int .i64 0,.int .i64 0,.nilIface,.int .i64 (-1),.int .i64 (-1)]⟩,⟨bb,0,bytesV (List.replicate 4096 0)⟩]) := by
 refine Fn.intro (args := [.iface 85 (.pointer (some ⟨sb,0,none⟩)),.int .i64 ((4096 : Nat) : Int)]) (RR := Ret1 4 _) Tryd.func60 rfl rfl Tryd.ntmps60 (res1 Tryd.results60) ?_
 refine C.reenv (env2 := [(0,.iface 85 (.pointer (some ⟨sb,0,none⟩))),(1,.int .i64 ((4096 : Nat) : Int))]) rfl ?_
 refine C.sr ?_
 refine E.pure (S.assign rfl) rfl ?_
 refine E.kp [(0,_),(1,_),(4,_)] rfl ?_
 refine C.sr ?_
 refine E.pure (S.move rfl) rfl ?_
 refine E.pure (S.assertOther rfl Tryd.underlying112 rfl rfl Tryd.zeroValue112) rfl ?_
 refine E.pure (S.move rfl) rfl ?_
 refine E.pure (S.extract rfl rfl) rfl ?_
 refine E.pure (S.extract rfl rfl) rfl ?_
 refine E.pure (S.assign rfl) rfl ?_
 refine E.pure (S.assign rfl) rfl ?_
 refine E.kp [(0,_),(1,_),(4,_),(5,_),(6,_)] rfl ?_
 refine C.seq ?_
 refine C.sr ?_
 refine E.pure (S.move rfl) rfl ?_
 refine E.pure (S.move rfl) rfl ?_
 refine E.guardNo 14 false rfl rfl rfl rfl ?_
 refine E.guardNo 14 false rfl rfl rfl rfl ?_
 refine E.guardNo 14 false rfl rfl rfl rfl ?_
 refine E.guardNo 14 false rfl rfl rfl rfl ?_
 refine E.guardNo 14 false rfl rfl rfl rfl ?_
 refine E.guardNo 14 false rfl rfl rfl rfl ?_
 refine E.guardNo 14 false rfl rfl rfl rfl ?_
 refine E.pure (S.pickF rfl rfl) rfl ?_
 refine E.kp [(0,_),(1,_),(4,_),(5,_),(6,_),(22,_)] rfl ?_
 refine C.no rfl (rfl) ?_
 refine C.skip ?_
 refine C.sr ?_
 refine E.loud1 (X.alloc Tryd.zeroValue161) rfl ?_; rintro _ _ ⟨b24,rfl,rfl⟩; refine E.relist (L2 := [_]) rfl ?_
 refine E.pure (S.assign rfl) rfl ?_
 refine E.kp [(0,_),(1,_),(4,_),(5,_),(6,_),(7,_),(22,_)] rfl ?_
 refine C.sr ?_
 refine E.pure (S.move rfl) rfl ?_
 refine E.pure (S.move rfl) rfl ?_
 refine E.pure (S.max2 rfl rfl) rfl ?_
 refine E.reslot (v := .int .i64 ((4096 : Nat) : Int)) rfl ?_
 refine E.loud1 (X.make (l := 4096) (c := 4096) (bytes := 1) Tryd.underlying22 infoB (z := .int .u8 0) rfl rfl rfl rfl rfl rfl (Nat.le_refl _) (by decide) (by decide)) rfl ?_; rintro _ _ ⟨bb,rfl,rfl⟩; refine E.relist (L2 := [_,_]) rfl ?_
 refine E.pure (S.move rfl) rfl ?_
 refine E.loud1 (OpX.pick [1] (F := [_]) rfl (X.call rfl Tryd.call69 (bufReset_walk b24 bb sb _ (by kernel_rfl)))) rfl ?_; rintro _ _ ⟨_,⟨rfl,rfl⟩,rfl⟩; refine E.relist (L2 := [_,_]) rfl ?_
 refine E.kp [(0,_),(1,_),(4,_),(5,_),(6,_),(7,_),(22,_)] rfl ?_
 refine C.sr ?_
 refine E.pure (S.move rfl) rfl ?_
 refine E.pure (S.assign rfl) rfl ?_
 refine E.kp [(0,_),(1,_),(4,_),(5,_),(6,_),(7,_),(22,_)] rfl ?_
 refine C.ret ?_
 refine ⟨_,rfl,b24,bb,rfl,?_⟩
 rw [show bytesV (List.replicate 4096 0) = List.replicate 4096 (.int .u8 0) by unfold bytesV; rw [List.map_replicate]; rfl]
theorem bufNew_spec {K : Known} (sb : Nat) : Fn Tryd.prog K 49 #[.iface 85 (.pointer (some ⟨sb,0,none⟩))] ([]) (fun r L => ∃ rb bb,r = .pointer (some ⟨rb,0,none⟩) ∧ L = [⟨rb,0,[.slice (some ⟨bb,0,none⟩) 4096 4096,.iface 85 (.pointer (some ⟨sb,0,none⟩)),.int .i64 0,.int .i64 0,.nilIface,.int .i64 (-1),.int .i64 (-1)]⟩,⟨bb,0,bytesV (List.replicate 4096 0)⟩]) := by
 refine Fn.intro (args := [.iface 85 (.pointer (some ⟨sb,0,none⟩))]) (RR := Ret1 2 _) Tryd.func49 rfl rfl Tryd.ntmps49 (res1 Tryd.results49) ?_
 refine C.reenv (env2 := [(0,.iface 85 (.pointer (some ⟨sb,0,none⟩)))]) rfl ?_
 refine C.sr ?_
 refine E.pure (S.assign rfl) rfl ?_
 refine E.kp [(0,_),(2,_)] rfl ?_
 refine C.sr ?_
 refine E.pure (S.move rfl) rfl ?_
 refine E.loud1 (OpX.pick [] (F := []) rfl (X.call rfl Tryd.call60 (bufNewSize_walk sb))) rfl ?_; rintro _ _ ⟨_,⟨rb,bb,rfl,rfl⟩,rfl⟩; refine E.relist (L2 := [_,_]) rfl ?_
 refine E.pure (S.assign rfl) rfl ?_
 refine E.kp [(2,_)] rfl ?_
 refine C.ret ?_
 exact ⟨_,rfl,rb,bb,rfl,rfl⟩
theorem resetP_walk {K : Known} {ea : Fin 5 → Addr} (hs : Sents K ea) (data : List UInt8) (db o : Nat) (hp : data = [] ∨ KB K db o data) (sb : Nat) (sv : Value) (hsz : SzA K sv) (dv : Value) (hd : SrcSh data db o dv data) (hl : data.length ≤ 65536) (zb : Nat) : Fn Tryd.prog K 38 #[.pointer (some ⟨zb,0,none⟩),.iface 85 (.pointer (some ⟨sb,0,none⟩))] ([⟨sb,0,[dv,sv,.int .i64 ((0 : Nat) : Int)]⟩,⟨zb,0,[.string ⟨#[]⟩,.slice none 0 0,.int .u64 0,.int .i64 0,.string ⟨#[]⟩,.int .u8 0,.nilIface,.nilIface,.int .u32 0,.int .u32 0]⟩,⟨zb,10,buf0⟩,⟨zb,522,[.nilIface,.bool false]⟩]) (fun r L => r = Er.val ea (readHead data).1 ∧ ∃ rb bb,((readHead data).1 ≠ .none ∨ ((readHead data).1 = .none ∧ ZAt (bufSrc K ea hs data db o hp rb bb sb sv hsz) zb (readHead data).2.2 true (readHead data).2.1 L))) := by
 refine Fn.intro (args := [.pointer (some ⟨zb,0,none⟩),.iface 85 (.pointer (some ⟨sb,0,none⟩))]) (RR := Ret1 4 _) Tryd.func38 rfl rfl Tryd.ntmps38 (res1 Tryd.results38) ?_
 refine C.reenv (env2 := [(0,.pointer (some ⟨zb,0,none⟩)),(1,.iface 85 (.pointer (some ⟨sb,0,none⟩)))]) rfl ?_
 refine C.sr ?_
 refine E.pure (S.assign (v := Er.val ea .none) rfl) rfl ?_
 refine E.kp [(0,_),(1,_),(4,_)] rfl ?_
 refine C.sr ?_
 refine E.pure (S.move rfl) rfl ?_
 refine E.pure (S.move rfl) rfl ?_
 refine E.pure (S.nilPtr rfl) rfl ?_
 refine E.pure (S.field rfl fa76_2) rfl ?_
 refine E.still (S.load 1 (k := 7) rfl rfl rfl Tryd.isAgg73) rfl ?_
 refine E.pure (S.buildV [(2,.nilIface),(7,.bool true)] rfl (zipBuild .nilIface rfl)) rfl ?_
 refine E.pure (S.nilPtr rfl) rfl ?_
 refine E.perml [1,1,1,0] (A := [_,_,_,_]) (F := []) rfl ?_
 refine E.same (zipSame zb [⟨sb,0,[dv,sv,.int .i64 ((0 : Nat) : Int)]⟩] [.string ⟨#[]⟩,.slice none 0 0,.int .u64 0,.int .i64 0,.string ⟨#[]⟩,.int .u8 0,.nilIface,.nilIface,.int .u32 0,.int .u32 0] buf0 [.nilIface,.bool false] rfl buf0_length).symm ?_
 refine E.relist (L2 := [⟨zb,0,_⟩,_]) rfl ?_
 refine E.loud0 (X.storeA 0 (k := 0) rfl rfl rfl (zip_one .nilIface rfl) (zip_len .nilIface) (by rw [Nat.ble_eq]; simp [buf0_length]) Tryd.sizeOf76 rfl) ?_
 rintro _ _ ⟨rfl,rfl⟩
 refine E.relist (L2 := ⟨zb,0,zip10 .nilIface .nilIface ++ (buf0 ++ zipEnd .nilIface true)⟩::[⟨sb,0,[dv,sv,.int .i64 ((0 : Nat) : Int)]⟩]) (zipStore2 zb [] _ _ (by simp [buf0_length]) .nilIface) ?_
 refine E.kp [(0,_),(1,_),(4,_)] rfl ?_
 refine C.same (zipSame zb [⟨sb,0,[dv,sv,.int .i64 ((0 : Nat) : Int)]⟩] (zip10 .nilIface .nilIface) buf0 (zipEnd .nilIface true) rfl buf0_length) ?_
 refine C.perml [3,0,0,0] (A := [_,_,_,_]) (F := []) rfl ?_
 refine C.relist (L2 := [⟨sb,0,[dv,sv,.int .i64 ((0 : Nat) : Int)]⟩,⟨zb,0,[.string ⟨#[]⟩,.slice none 0 0,.int .u64 0,.int .i64 0,.string ⟨#[]⟩,.int .u8 0,.nilIface,.nilIface,.int .u32 0,.int .u32 0]⟩,⟨zb,10,buf0⟩,⟨zb,522,[.nilIface,.bool true]⟩]) rfl ?_
 refine C.seq ?_
 refine C.sr ?_
 refine E.pure (S.move rfl) rfl ?_
 refine E.pure (S.assertLacks rfl Tryd.underlying71 (smLacks _ Tryd.underlying71) frZero) rfl ?_
 refine E.pure (S.move rfl) rfl ?_
 refine E.pure (S.extract rfl rfl) rfl ?_
 refine E.pure (S.extract rfl rfl) rfl ?_
 refine E.pure (S.assign rfl) rfl ?_
 refine E.pure (S.assign rfl) rfl ?_
 refine E.kp [(0,_),(1,_),(4,_),(5,_),(6,_)] rfl ?_
 refine C.sr ?_
 refine E.pure (S.move rfl) rfl ?_
 refine E.kp [(0,_),(1,_),(4,_),(5,_),(6,_),(19,_)] rfl ?_
 refine C.no rfl (rfl) ?_
 refine C.region ?_
 refine E.pure (S.move rfl) rfl ?_
 refine E.pure (S.move rfl) rfl ?_
 refine E.loud1 (OpX.pick [] (F := [_,_,_,_]) rfl (X.call rfl Tryd.call49 (bufNew_spec sb))) rfl ?_; rintro _ _ ⟨_,⟨rb,bb,rfl,rfl⟩,rfl⟩; refine E.relist (L2 := [_,_,_,_,_,_]) rfl ?_
 refine E.pure (S.mkIface rfl conc112) rfl ?_
 refine E.pure (S.nilPtr rfl) rfl ?_
 refine E.pure (S.field rfl fa76_1) rfl ?_
 refine E.loud0 (X.store 3 (k := 6) rfl rfl rfl rfl rfl Tryd.sizeOf71) ?_; rintro _ _ ⟨rfl,rfl⟩; refine E.relist (L2 := [_,_,_,_,_,_]) rfl ?_
 refine E.kp [(0,_),(1,_),(4,_),(5,_),(6,_),(19,_)] rfl ?_
 refine C.seq ?_
 have hA : (bufSrc K ea hs data db o hp rb bb sb sv hsz).At data ⟨rb,0,[.slice (some ⟨bb,0,none⟩) 4096 4096,.iface 85 (.pointer (some ⟨sb,0,none⟩)),.int .i64 ((0 : Nat) : Int),.int .i64 ((0 : Nat) : Int),.nilIface,.int .i64 (-1),.int .i64 (-1)]⟩ ⟨bb,0,bytesV (List.replicate 4096 0)⟩ ⟨sb,0,[dv,sv,.int .i64 ((0 : Nat) : Int)]⟩ := ⟨List.replicate 4096 0,0,0,_,_,dv,data,0,List.length_replicate,Nat.le_refl _,Nat.zero_le _,rfl,hd,by omega,rfl,rfl,rfl,rfl,rfl⟩
 refine C.relist (L2 := [_,_,_,_,_,_] ++ []) rfl ?_
 refine C.region ?_
 refine E.pure (S.move rfl) rfl ?_
 refine E.pure (S.move rfl) rfl ?_
 refine E.pure (S.move rfl) rfl ?_
 refine E.loud1 (X.call rfl Tryd.call48 (readHeader_in hs (bufSrc K ea hs data db o hp rb bb sb sv hsz) data _ _ _ zb 0 _ _ _ _ _ _ (.int .u32 0) .nilIface buf0 [] (.inl ⟨rfl,rfl⟩) hA buf0_length (by decide) [_])) rfl ?_
 rintro _ _ ⟨hs6,f1,f2,f3,d2,bs2,h6,h7,rfl,hF,hb2,hd2,⟨hne,rfl⟩ | ⟨hno,xa,xn,xf,fb,DN,hX,rfl,rfl,hDN,rfl⟩⟩
 ·
  refine E.relist (L2 := (_::_::_::_::_::_::_)) rfl ?_
  obtain ⟨a0,a1,a2,a3,a4,a5,rfl⟩ := six h6
  refine E.pure (S.move rfl) rfl ?_
  refine E.pure (S.extract rfl rfl) rfl ?_
  refine E.pure (S.extract rfl rfl) rfl ?_
  refine E.pure (S.nilPtr rfl) rfl ?_
  refine E.pure (S.field rfl fa76_0) rfl ?_
  refine E.loud0 (X.storeA 3 (k := 0) rfl rfl rfl h7 rfl rfl Tryd.sizeOf69 rfl) ?_; rintro _ _ ⟨rfl,rfl⟩; refine E.relist (L2 := (_::_::_::_::_::_::_)) rfl ?_
  refine E.pure (S.nilPtr rfl) rfl ?_
  refine E.pure (S.field rfl fa76_6) rfl ?_
  refine E.loud0 (X.store 5 (k := 0) rfl rfl rfl (one_er _) rfl Tryd.sizeOf59) ?_; rintro _ _ ⟨rfl,rfl⟩; refine E.relist (L2 := (_::_::_::_::_::_::_)) rfl ?_
  refine E.kp [(0,_),(1,_),(4,_),(5,_),(6,_),(19,_)] rfl ?_
  refine C.sr ?_
  refine E.pure (S.move rfl) rfl ?_
  refine E.pure (S.nilPtr rfl) rfl ?_
  refine E.pure (S.field rfl fa76_6) rfl ?_
  refine E.still (S.load 5 (k := 0) rfl rfl rfl Tryd.isAgg59) rfl ?_
  refine E.pure (S.assign rfl) rfl ?_
  refine E.kp [(0,_),(1,_),(4,_),(5,_),(6,_),(19,_)] rfl ?_
  refine C.ret ?_
  exact ⟨_,rfl,rfl,rb,bb,.inl hne⟩
 refine E.relist (L2 := (_::_::_::_::_::_::_::_)) rfl ?_
 refine E.pure (S.move rfl) rfl ?_
 refine E.pure (S.extract rfl rfl) rfl ?_
 refine E.pure (S.extract rfl rfl) rfl ?_
 refine E.pure (S.nilPtr rfl) rfl ?_
 refine E.pure (S.field rfl fa76_0) rfl ?_
 refine E.loud0 (X.storeA 3 (k := 0) rfl rfl rfl rfl rfl rfl Tryd.sizeOf69 rfl) ?_; rintro _ _ ⟨rfl,rfl⟩; refine E.relist (L2 := (_::_::_::_::_::_::_::_)) rfl ?_
 refine E.pure (S.nilPtr rfl) rfl ?_
 refine E.pure (S.field rfl fa76_6) rfl ?_
 refine E.loud0 (X.store 5 (k := 0) rfl rfl rfl (one_er _) rfl Tryd.sizeOf59) ?_; rintro _ _ ⟨rfl,rfl⟩; refine E.relist (L2 := (_::_::_::_::_::_::_::_)) rfl ?_
 refine E.kp [(0,_),(1,_),(4,_),(5,_),(6,_),(19,_)] rfl ?_
 refine C.sr ?_
 refine E.pure (S.move rfl) rfl ?_
 refine E.pure (S.nilPtr rfl) rfl ?_
 refine E.pure (S.field rfl fa76_6) rfl ?_
 refine E.still (S.load 5 (k := 0) rfl rfl rfl Tryd.isAgg59) rfl ?_
 refine E.pure (S.assign rfl) rfl ?_
 refine E.kp [(0,_),(1,_),(4,_),(5,_),(6,_),(19,_)] rfl ?_
 refine C.ret ?_
 refine ⟨_,rfl,rfl,rb,bb,.inr ⟨hno,f1,f2,f3,bs2,xa,xn,xf,fb,DN,hF,hb2,hX,hDN,?_⟩⟩
 rw [← hno]
 rfl
theorem newReaderP_walk {K : Known} {ea : Fin 5 → Addr} (hs : Sents K ea) (data : List UInt8) (db o : Nat) (hp : data = [] ∨ KB K db o data) (sb : Nat) (sv : Value) (hsz : SzA K sv) (dv : Value) (hd : SrcSh data db o dv data) (hl : data.length ≤ 65536) : Fn Tryd.prog K 25 #[.iface 85 (.pointer (some ⟨sb,0,none⟩))] ([⟨sb,0,[dv,sv,.int .i64 ((0 : Nat) : Int)]⟩]) (fun r L => ((readHead data).1 ≠ .none ∧ r = .tuple #[.pointer none,Er.val ea (readHead data).1]) ∨ ((readHead data).1 = .none ∧ ∃ zb rb bb,r = .tuple #[.pointer (some ⟨zb,0,none⟩),Er.val ea (readHead data).1] ∧ ZAt (bufSrc K ea hs data db o hp rb bb sb sv hsz) zb (readHead data).2.2 true (readHead data).2.1 L)) := by
 refine Fn.intro (args := [.iface 85 (.pointer (some ⟨sb,0,none⟩))]) (RR := Ret2 2 3 _) Tryd.func25 rfl rfl Tryd.ntmps25 (res2 Tryd.results25) ?_
 refine C.reenv (env2 := [(0,.iface 85 (.pointer (some ⟨sb,0,none⟩)))]) rfl ?_
 refine C.sr ?_
 refine E.pure (S.assign rfl) rfl ?_
 refine E.pure (S.assign (v := Er.val ea .none) rfl) rfl ?_
 refine E.kp [(0,_),(2,_),(3,_)] rfl ?_
 refine C.sr ?_
 refine E.loud1 (X.alloc Tryd.zeroValue76) rfl ?_; rintro _ _ ⟨b6,rfl,rfl⟩; refine E.relist (L2 := [_,_]) rfl ?_
 refine E.relist (L2 := [⟨b6,0,zip10 .nilIface .nilIface ++ (buf0 ++ zipEnd .nilIface false)⟩,⟨sb,0,[dv,sv,.int .i64 ((0 : Nat) : Int)]⟩]) (by rw [zipZero]) ?_
 refine E.same (zipSame b6 [⟨sb,0,[dv,sv,.int .i64 ((0 : Nat) : Int)]⟩] _ _ _ rfl buf0_length) ?_
 refine E.perml [3,0,0,0] (A := [_,_,_,_]) (F := []) rfl ?_
 refine E.relist (L2 := [⟨sb,0,[dv,sv,.int .i64 ((0 : Nat) : Int)]⟩,⟨b6,0,[.string ⟨#[]⟩,.slice none 0 0,.int .u64 0,.int .i64 0,.string ⟨#[]⟩,.int .u8 0,.nilIface,.nilIface,.int .u32 0,.int .u32 0]⟩,⟨b6,10,buf0⟩,⟨b6,522,[.nilIface,.bool false]⟩]) rfl ?_
 refine E.pure (S.assign rfl) rfl ?_
 refine E.kp [(0,_),(2,_),(3,_),(4,_)] rfl ?_
 refine C.seq ?_
 refine C.sr ?_
 refine E.pure (S.move rfl) rfl ?_
 refine E.pure (S.move rfl) rfl ?_
 refine E.loud1 (X.call rfl Tryd.call38 (resetP_walk hs data db o hp sb sv hsz dv hd hl b6)) rfl ?_
 rintro _ L2 ⟨rfl,rb,bb,hE⟩
 refine E.pure (S.assign rfl) rfl ?_
 refine E.kp [(2,_),(3,_),(4,_),(5,_)] rfl ?_
 refine C.sr ?_
 refine E.pure (S.move rfl) rfl ?_
 refine E.still (S.neErNil rfl) rfl ?_
 refine E.kp [(2,_),(3,_),(4,_),(5,_),(11,_)] rfl ?_
 first | refine C.ifp rfl (fun h11 => ?_) (fun h11 => ?_) | refine C.ifNone rfl (fun h11 => ?_) (fun h11 => ?_) | refine C.ifSome rfl (fun h11 => ?_) (fun h11 => ?_) | refine C.ifSe rfl (fun h11 => ?_) (fun h11 => ?_) | refine C.ifNotSe rfl (fun h11 => ?_) (fun h11 => ?_) | refine C.cond rfl (fun h11 => ?_) (fun h11 => ?_)
 ·
  refine C.sr ?_
  refine E.pure (S.move rfl) rfl ?_
  refine E.pure (S.assign rfl) rfl ?_
  refine E.pure (S.assign rfl) rfl ?_
  refine E.kp [(2,_),(3,_),(4,_),(5,_),(11,_)] rfl ?_
  refine C.ret ?_
  exact ⟨_,_,rfl,rfl,.inl ⟨h11,rfl⟩⟩
 have hE2 := hE.resolve_left (fun h => h h11)
 refine C.skip ?_
 refine C.sr ?_
 refine E.pure (S.move rfl) rfl ?_
 refine E.pure (S.assign rfl) rfl ?_
 refine E.pure (S.assign (v := Er.val ea .none) rfl) rfl ?_
 refine E.kp [(2,_),(3,_),(4,_),(5,_),(11,_)] rfl ?_
 refine C.ret ?_
 refine ⟨_,_,rfl,rfl,.inr ⟨h11,b6,rb,bb,?_,hE2.2⟩⟩
 rw [h11]
end Go.Eng
namespace Go.Eng
open Go Go.Proofs
set_option maxRecDepth 100000

set_option maxHeartbeats 1000000
theorem infoI : Tryd.prog.info? 3 = some Tryd.t3 := by kernel_rfl
theorem SzA.vals {K : Known} {a : Option Addr} {n c : Nat} (h : SzA K (.slice a n c)) : ∃ ys : List Value,ys.length = n ∧ ys.all one = true ∧ (∀ j,j < n → ∃ v : Int,ys[j]? = some (.int .i64 v)) ∧ ∀ L,n = 0 ∨ ∃ b o,a = some ⟨b,o,none⟩ ∧ Reads K L b o ys := by
  obtain ⟨a',n',c',e,_,h⟩ := h
  cases e
  rcases h with h0 | ⟨b,o,rfl,hv⟩
  · subst h0
    exact ⟨[],rfl,rfl,fun j hj => absurd hj (Nat.not_lt_zero _),fun _ => .inl rfl⟩
  · have hg : ∀ j,j < n → ((List.range n).map fun j => (cellAt K b (o + j * 1)).getD undef)[j]? = cellAt K b (o + j * 1) := fun j hj => by
      obtain ⟨v,hc⟩ := hv j hj
      rw [List.getElem?_map,List.getElem?_range hj]; simp only [Option.map_some,hc,Option.getD_some]
    refine ⟨(List.range n).map fun j => (cellAt K b (o + j * 1)).getD undef,by simp,?_,fun j hj => ?_,fun L => .inr ⟨b,o,rfl,Reads.known fun j u hj => ?_⟩⟩
    · rw [List.all_eq_true]
      intro x hx
      obtain ⟨j,hj,rfl⟩ := List.mem_map.1 hx
      obtain ⟨v,hc⟩ := hv j (List.mem_range.1 hj)
      rw [hc]; rfl
    · obtain ⟨v,hc⟩ := hv j hj
      exact ⟨v,(hg j hj).trans hc⟩
    · have hl := (List.getElem?_eq_some_iff.1 hj).1
      rw [List.length_map,List.length_range] at hl
      rw [hg j hl,Nat.mul_one] at hj
      exact hj
theorem sl_ints {v : Value} {n : Nat} {ys : List Value} {Lf : Frags} (h : Sl 1 v (0 + n) ([] ++ ys) Lf) (hn : n ≤ 9223372036854775807) (hy : ∀ j,j < n → ∃ v : Int,ys[j]? = some (.int .i64 v)) : ∃ a c,v = .slice a n c ∧ ∀ K2,Holds K2 Lf → SzA K2 (.slice a n c) := by
  rw [Nat.zero_add,List.nil_append] at h
  rcases h.2 with ⟨rfl,rfl,rfl⟩ | ⟨b,o,c,cs,rfl,rfl,h3,h4,h5,h6⟩
  · exact ⟨none,0,rfl,fun _ _ => SzA.nil _⟩
  · refine ⟨_,_,rfl,fun K2 hK => ⟨_,n,c,rfl,hn,.inr ⟨b,o,rfl,fun j hj => ?_⟩⟩⟩
    obtain ⟨v,hv⟩ := hy j hj
    refine ⟨v,?_⟩
    rw [Nat.mul_one]
    refine hK _ (.head _) j _ ?_
    rw [← h6,List.getElem?_take] at hv
    split at hv
    · exact hv
    · cases hv
theorem clone_src {data : List UInt8} {a : Option Addr} {c : Nat} {GL : Frags} (h : CloneG data a c GL) : ∃ db o,SrcSh data db o (.slice a data.length c) data ∧ ∀ K2,Holds K2 GL → data = [] ∨ KB K2 db o data := by
  obtain ⟨hc,⟨rfl,rfl⟩ | ⟨db,o,cs,rfl,rfl⟩⟩ := h
  · exact ⟨0,0,⟨0,a,c,rfl,rfl,.inl rfl⟩,fun _ _ => .inl rfl⟩
  · refine ⟨db,o,⟨0,_,c,rfl,rfl,.inr ⟨rfl,hc⟩⟩,fun K2 hK => .inr fun j hj => hK _ (.head _) j _ ?_⟩
    simp only
    rw [List.getElem?_append_left (by rw [bytesV_length]; exact hj)]
    exact bytes_get2 hj
theorem Holds.left {K : Known} {A B : Frags} (h : Holds K (A ++ B)) : Holds K A := fun f hf => h f (List.mem_append_left _ hf)
theorem Holds.right {K : Known} {A B : Frags} (h : Holds K (A ++ B)) : Holds K B := fun f hf => h f (List.mem_append_right _ hf)
theorem newP_in {K : Known} {ea : Fin 5 → Addr} (hs : Sents K ea) (data : List UInt8) (db o sb : Nat) (sv dv : Value) (hd : SrcSh data db o dv data) (hl : data.length ≤ 65536) (Af : Frags) (hp : ∀ K2,Holds K2 Af → data = [] ∨ KB K2 db o data) (hsz : ∀ K2,Holds K2 Af → SzA K2 sv) (B : Frag) (hap : Apart Af [⟨sb,0,[dv,sv,.int .i64 ((0 : Nat) : Int)]⟩]) :
    Fn Tryd.prog K 25 #[.iface 85 (.pointer (some ⟨sb,0,none⟩))] ([⟨sb,0,[dv,sv,.int .i64 ((0 : Nat) : Int)]⟩,B] ++ Af) fun r L => ((readHead data).1 ≠ .none ∧ r = .tuple #[.pointer none,Er.val ea (readHead data).1] ∧ ∃ TT,L = [B] ++ TT) ∨
      ((readHead data).1 = .none ∧ ∃ zb rb bb LZ,r = .tuple #[.pointer (some ⟨zb,0,none⟩),Er.val ea (readHead data).1] ∧ Apart Af LZ ∧ (∃ (K2 : Known) (hs2 : Sents K2 ea) (hp2 : data = [] ∨ KB K2 db o data) (hz2 : SzA K2 sv),ZAt (bufSrc K2 ea hs2 data db o hp2 rb bb sb sv hz2) zb (readHead data).2.2 true (readHead data).2.1 LZ) ∧ L = [B] ++ (Af ++ LZ)) := by
  have pm : ([⟨sb,0,[dv,sv,.int .i64 ((0 : Nat) : Int)]⟩,B] ++ Af).Perm ((Af ++ [⟨sb,0,[dv,sv,.int .i64 ((0 : Nat) : Int)]⟩]) ++ [B]) := by
    refine (List.perm_append_comm (l₁ := [⟨sb,0,[dv,sv,.int .i64 ((0 : Nat) : Int)]⟩,B])).trans ?_
    rw [List.append_assoc]; exact .refl _
  have key := Fn.knowA (P := Tryd.prog) (K := K) (f := 25) (args := #[.iface 85 (.pointer (some ⟨sb,0,none⟩))]) (A := Af) (L := [⟨sb,0,[dv,sv,.int .i64 ((0 : Nat) : Int)]⟩]) (R := fun K2 r L => ((readHead data).1 ≠ .none ∧ r = .tuple #[.pointer none,Er.val ea (readHead data).1]) ∨
      ((readHead data).1 = .none ∧ ∃ zb rb bb,r = .tuple #[.pointer (some ⟨zb,0,none⟩),Er.val ea (readHead data).1] ∧ ∃ (hs2 : Sents K2 ea) (hp2 : data = [] ∨ KB K2 db o data) (hz2 : SzA K2 sv),ZAt (bufSrc K2 ea hs2 data db o hp2 rb bb sb sv hz2) zb (readHead data).2.2 true (readHead data).2.1 L)) hap
    fun K2 hK hA => Fn.mono (newReaderP_walk (hs.mono hK) data db o (hp K2 hA) sb sv (hsz K2 hA) dv hd hl) fun r L h => h.imp id fun ⟨h1,zb,rb,bb,h2,h3⟩ => ⟨h1,zb,rb,bb,h2,hs.mono hK,hp K2 hA,hsz K2 hA,h3⟩
  refine Fn.sameR (Fn.perm pm (Fn.frame (F := [B]) key)) ?_
  rintro r L ⟨L1,⟨K2,L2,hK,hR,rfl,hap2⟩,rfl⟩
  refine ⟨[B] ++ (Af ++ L2),Same.perm List.perm_append_comm,?_⟩
  rcases hR with ⟨h1,h2⟩ | ⟨h1,zb,rb,bb,h2,hs2,hp2,hz2,h3⟩
  · exact .inl ⟨h1,h2,_,rfl⟩
  · exact .inr ⟨h1,zb,rb,bb,L2,h2,hap2,⟨K2,hs2,hp2,hz2,h3⟩,rfl⟩
theorem restP_in {K : Known} {ea : Fin 5 → Addr} (hs : Sents K ea) (hc : Codes K) {data : List UInt8} {db o rb bb sb zb : Nat} {sv zv : Value} {h : Hd} (hm : h.mod < 4294967296) {ms : Bool} {rest : List UInt8} (hzv : SzA K zv) (hlen : (gzR ms rest).1.length ≤ 70368744177664) {Af LZ : Frags} (hp : ∀ K2,Holds K2 Af → data = [] ∨ KB K2 db o data) (hsz : ∀ K2,Holds K2 Af → SzA K2 sv)
    (hZ : ∃ (K2 : Known) (hs2 : Sents K2 ea) (hp2 : data = [] ∨ KB K2 db o data) (hz2 : SzA K2 sv),ZAt (bufSrc K2 ea hs2 data db o hp2 rb bb sb sv hz2) zb h ms rest LZ) (hap : Apart Af LZ) (B : Frag) :
    Fn Tryd.prog K 35 #[.pointer (some ⟨zb,0,none⟩),zv] ([B] ++ (Af ++ LZ)) fun r L => ∃ a1 k1 a2 k2 GL TT,r = unV (0,h,(gzR ms rest).1,(gzR ms rest).2.1) (.slice a1 (h.extra.getD []).length k1) (.slice a2 (gzR ms rest).1.length k2) ∧ UnpV (0,h,(gzR ms rest).1,(gzR ms rest).2.1) r GL ∧ L = [B] ++ (GL ++ TT) := by
  obtain ⟨K2,hs2,hp2,hz2,hZ⟩ := hZ
  have hzm : ∀ {K3 : Known},(∀ b o,K b = some o → K3 b = some o) → SzA K3 zv := fun hK => by
    obtain ⟨a,n,c,e,h1,h2⟩ := hzv
    exact ⟨a,n,c,e,h1,h2.imp id fun ⟨b,o,e,h⟩ => ⟨b,o,e,fun j hj => (h j hj).imp fun v hv => cellAt_mono hK hv⟩⟩
  have key := Fn.knowA (P := Tryd.prog) (K := K) (f := 35) (args := #[.pointer (some ⟨zb,0,none⟩),zv]) (A := Af) (L := LZ) (R := fun _ r L => ∃ a1 k1 a2 k2 GL TT,r = unV (0,h,(gzR ms rest).1,(gzR ms rest).2.1) (.slice a1 (h.extra.getD []).length k1) (.slice a2 (gzR ms rest).1.length k2) ∧ UnpV (0,h,(gzR ms rest).1,(gzR ms rest).2.1) r GL ∧ L = GL ++ TT) hap
    fun K3 hK hA => Fn.mono (rest_in (hs.mono hK) (hc.mono hK) (src := bufSrc K3 ea (hs.mono hK) data db o (hp K3 hA) rb bb sb sv (hsz K3 hA)) hm (hzm hK) hlen (ZAt.congr (s1 := bufSrc K2 ea hs2 data db o hp2 rb bb sb sv hz2) (s2 := bufSrc K3 ea (hs.mono hK) data db o (hp K3 hA) rb bb sb sv (hsz K3 hA)) rfl rfl rfl hZ) []) fun r L ⟨a1,k1,a2,k2,GL,TT,h1,h2,_,h4⟩ => ⟨a1,k1,a2,k2,GL,TT,h1,h2,h4⟩
  refine Fn.sameR (Fn.perm (List.perm_append_comm (l₁ := [B])) (Fn.frame (F := [B]) key)) ?_
  rintro r L ⟨L1,⟨K3,L2,hK,⟨a1,k1,a2,k2,GL,TT,h1,h2,rfl⟩,rfl,hap2⟩,rfl⟩
  refine ⟨[B] ++ (GL ++ (TT ++ Af)),?_,a1,k1,a2,k2,GL,_,h1,h2,rfl⟩
  refine (Same.perm List.perm_append_comm).trans (Same.appendL [B] (Same.perm ?_))
  rw [← List.append_assoc GL]
  exact List.perm_append_comm
theorem pmP (B : Frag) (GL Lp : Frags) : (Lp ++ ([B] ++ GL)).Perm ([B] ++ (GL ++ Lp)) := by
  rw [← List.append_assoc [B]]
  exact List.perm_append_comm

theorem unpack3_walk {K : Known} {ea : Fin 5 → Addr} (hs : Sents K ea) (hc : Codes K) (v : Value) (data : List UInt8) (hv : BA K v data) (hl : data.length ≤ 65536) (a3 : Option Addr) (n3 c3 : Nat) (hps : SzA K (.slice a3 n3 c3)) (hn3 : n3 ≤ 2147483647) (sv : Value) (hsz : SzA K sv) : Fn Tryd.prog K 18 #[v,.slice a3 n3 c3,sv] ([]) (fun r L => ∃ L2 J,Same L (L2 ++ J) ∧ UnpV (unpOf data) r L2) := by
 refine Fn.intro (args := [v,.slice a3 n3 c3,sv]) (RR := RetC 6 8  _) Tryd.func18 rfl rfl Tryd.ntmps18 (resC Tryd.results18 Tryd.isAgg43 Tryd.sizeOf43) ?_
 refine C.reenv (env2 := [(0,v),(1,.slice a3 n3 c3),(2,sv)]) rfl ?_
 refine C.sr ?_
 refine E.loud1 (X.alloc Tryd.zeroValue43) rfl ?_; rintro _ _ ⟨b6,rfl,rfl⟩; refine E.relist (L2 := [_]) rfl ?_
 refine E.relist (L2 := [⟨b6,0,[.int .i64 0,.string ⟨#[]⟩,.string ⟨#[]⟩,.slice none 0 0,.int .i64 0,.int .u8 0,.slice none 0 0,.int .i64 0]⟩]) (by kernel_rfl) ?_
 refine E.kp [(0,_),(1,_),(2,_),(6,_)] rfl ?_
 refine C.sr ?_
 refine E.pure (S.move rfl) rfl ?_
 refine E.loud1 (X.call rfl Tryd.call24 (clone_in hv hl [_])) rfl ?_; rintro _ _ ⟨a,c,GL,rfl,hCl,rfl⟩; refine E.relist (L2 := (_::_)) rfl ?_
 refine E.pure (S.move rfl) rfl ?_
 obtain ⟨ys,hy1,hyo,hyi,hyr⟩ := hps.vals
 refine E.loud1 (X.append (bytes := 8) (s := 1) (m := 0) (xs := []) (ys := ys) (Lf := []) (z := .int .i64 0) Tryd.underlying39 infoI rfl rfl rfl rfl (by decide) rfl rfl (Sl.nil 1) (by rw [hy1,Nat.mul_one]) (hyr _) hyo (by omega) (by omega)) rfl ?_
 rintro pv _ ⟨Lp,hSp,rfl⟩
 obtain ⟨pa,pc,rfl,hpk⟩ := sl_ints hSp (by omega) hyi
 refine E.same (Same.perm (pmP _ GL Lp)) ?_
 refine E.relist (L2 := [_] ++ (GL ++ Lp)) rfl ?_
 obtain ⟨db,o,hsh,hpd⟩ := clone_src hCl
 refine E.pure (S.buildV (v := .agg #[.slice a data.length c,.slice pa n3 pc,.int .i64 0]) [(0,.slice a data.length c),(1,.slice pa n3 pc)] rfl (fun w => by simp [Instr.build,Instr.fill,Value.cells,Tryd.zeroValue87])) rfl ?_
 refine E.loud1 (OpX.fresh (X.box rfl)) rfl ?_
 rintro _ _ ⟨L9,⟨sb,rfl,rfl⟩,rfl,hap⟩
 refine E.relist (L2 := [⟨sb,0,[.slice a data.length c,.slice pa n3 pc,.int .i64 ((0 : Nat) : Int)]⟩,⟨b6,0,[.int .i64 0,.string ⟨#[]⟩,.string ⟨#[]⟩,.slice none 0 0,.int .i64 0,.int .u8 0,.slice none 0 0,.int .i64 0]⟩] ++ (GL ++ Lp)) rfl ?_
 have hap2 : Apart (GL ++ Lp) [⟨sb,0,[.slice a data.length c,.slice pa n3 pc,.int .i64 ((0 : Nat) : Int)]⟩] := fun f hf g hg e => hap g hg f (List.mem_append_right [_] hf) e.symm
 refine E.pure (S.mkIface rfl conc85) rfl ?_
 refine E.loud1 (X.call rfl Tryd.call25 (newP_in hs data db o sb _ _ hsh hl (GL ++ Lp) (fun K2 h => hpd K2 h.left) (fun K2 h => hpk K2 h.right) _ hap2)) rfl ?_
 rintro _ _ (⟨hne,rfl,T9,rfl⟩ | ⟨hno,zb,rb,bb,LZ,rfl,hapZ,hZ,rfl⟩)
 ·
  refine E.relist (L2 := (_::_)) rfl ?_
  refine E.pure (S.move rfl) rfl ?_
  refine E.pure (S.extract rfl rfl) rfl ?_
  refine E.pure (S.extract rfl rfl) rfl ?_
  refine E.pure (S.assign rfl) rfl ?_
  refine E.pure (S.assign rfl) rfl ?_
  refine E.kp [(2,_),(6,_),(7,_),(8,_)] rfl ?_
  refine C.seq ?_
  refine C.sr ?_
  refine E.pure (S.move rfl) rfl ?_
  refine E.still (S.neErNil rfl) rfl ?_
  refine E.kp [(2,_),(6,_),(7,_),(8,_),(21,_)] rfl ?_
  first | refine C.ifp rfl (fun h21 => ?_) (fun h21 => ?_) | refine C.ifNone rfl (fun h21 => ?_) (fun h21 => ?_) | refine C.ifSome rfl (fun h21 => ?_) (fun h21 => ?_) | refine C.ifSe rfl (fun h21 => ?_) (fun h21 => ?_) | refine C.ifNotSe rfl (fun h21 => ?_) (fun h21 => ?_) | refine C.cond rfl (fun h21 => ?_) (fun h21 => ?_)
  ·
   refine C.sr ?_
   refine E.pure (S.move rfl) rfl ?_
   refine E.loud1 (OpX.pick [] (F := (_::_)) rfl (X.call rfl Tryd.call27 (kind_spec hs _))) rfl ?_; rintro _ _ ⟨_,⟨rfl,rfl⟩,rfl⟩; refine E.relist (L2 := (_::_)) rfl ?_
   refine E.pure (S.buildV (v := .agg #[.int .i64 ((kindOf (readHead data).1 : Nat) : Int),.string ⟨#[]⟩,.string ⟨#[]⟩,.slice none 0 0,.int .i64 0,.int .u8 0,.slice none 0 0,.int .i64 0]) [(0,.int .i64 ((kindOf (readHead data).1 : Nat) : Int))] rfl (fun w => by simp [Instr.build,Instr.fill,Value.cells,Tryd.zeroValue43])) rfl ?_
   refine E.loud0 (X.storeA 0 (k := 0) rfl rfl rfl rfl rfl rfl Tryd.sizeOf43 rfl) ?_; rintro _ _ ⟨rfl,rfl⟩; refine E.relist (L2 := (_::_)) rfl ?_
   refine E.kp [(2,_),(6,_),(7,_),(8,_),(21,_)] rfl ?_
   refine C.ret ?_
   refine ⟨_,⟨_,_,0,rfl,rfl,rfl⟩,[],_,Same.refl _,?_⟩
   rw [unpOf,if_pos hne]
   exact ⟨.slice none 0 0,.slice none 0 0,rfl,RdV.nil,RdV.nil⟩
  exact absurd h21 hne
 refine E.relist (L2 := (_::_)) rfl ?_
 refine E.pure (S.move rfl) rfl ?_
 refine E.pure (S.extract rfl rfl) rfl ?_
 refine E.pure (S.extract rfl rfl) rfl ?_
 refine E.pure (S.assign rfl) rfl ?_
 refine E.pure (S.assign rfl) rfl ?_
 refine E.kp [(2,_),(6,_),(7,_),(8,_)] rfl ?_
 refine C.seq ?_
 refine C.sr ?_
 refine E.pure (S.move rfl) rfl ?_
 refine E.still (S.neErNil rfl) rfl ?_
 refine E.kp [(2,_),(6,_),(7,_),(8,_),(21,_)] rfl ?_
 first | refine C.ifp rfl (fun h21 => ?_) (fun h21 => ?_) | refine C.ifNone rfl (fun h21 => ?_) (fun h21 => ?_) | refine C.ifSome rfl (fun h21 => ?_) (fun h21 => ?_) | refine C.ifSe rfl (fun h21 => ?_) (fun h21 => ?_) | refine C.ifNotSe rfl (fun h21 => ?_) (fun h21 => ?_) | refine C.cond rfl (fun h21 => ?_) (fun h21 => ?_)
 ·
  exact absurd hno h21
 refine C.skip ?_
 refine C.sr ?_
 refine E.pure (S.move rfl) rfl ?_
 refine E.pure (S.move rfl) rfl ?_
 refine E.loud1 (X.call rfl Tryd.call35 (restP_in hs hc (readHead_mod _) hsz (Nat.le_trans (gzR_len _ _ (by have := readHead_le data; omega)) (by decide)) (fun K2 h => hpd K2 h.left) (fun K2 h => hpk K2 h.right) hZ hapZ _)) rfl ?_; rintro _ _ ⟨a1,k1,a2,k2,GL2,TT,rfl,hU,rfl⟩; refine E.relist (L2 := (_::_)) rfl ?_
 refine E.loud0 (X.storeA 0 (k := 0) rfl rfl rfl rfl rfl rfl Tryd.sizeOf43 rfl) ?_; rintro _ _ ⟨rfl,rfl⟩; refine E.relist (L2 := (_::_)) rfl ?_
 refine E.kp [(6,_),(7,_),(8,_),(21,_)] rfl ?_
 refine C.ret ?_
 refine ⟨_,⟨_,_,0,rfl,rfl,rfl⟩,GL2,_::TT,Same.perm (List.perm_middle (l₁ := GL2) (l₂ := TT)).symm,?_⟩
 rw [unpOf,if_neg (fun hh => hh hno)]
 exact hU
theorem unpack3_spec {K : Known} {ea : Fin 5 → Addr} (hs : Sents K ea) (hc : Codes K) {v : Value} {data : List UInt8} (hv : BA K v data) (hl : data.length ≤ 65536) {a3 : Option Addr} {n3 c3 : Nat} (hps : SzA K (.slice a3 n3 c3)) (hn3 : n3 ≤ 2147483647) {sv : Value} (hsz : SzA K sv) (G : Frags) :
    Fn Tryd.prog K 18 #[v,.slice a3 n3 c3,sv] G fun r L => ∃ GL,UnpV (unpOf data) r GL ∧ L = G ++ GL := by
  refine Fn.lose (Fn.frame (L := []) (F := G) (unpack3_walk hs hc v data hv hl a3 n3 c3 hps hn3 sv hsz)) ?_
  rintro r L ⟨L1,⟨L2,J,hS,hU⟩,rfl⟩
  refine ⟨G ++ L2,J,?_,L2,hU,rfl⟩
  have := Same.appendL G hS
  rw [← List.append_assoc] at this
  exact (Same.perm List.perm_append_comm).trans this

end Go.Eng
namespace Go.Eng
open Go Go.Proofs
set_option maxRecDepth 100000

theorem law7 {K : Known} {ea : Fin 5 → Addr} (hs : Sents K ea) (hc : Codes K) (d1 : List UInt8) (a1 : Option Addr) (c1 : Nat) (hv1 : BA K (.slice a1 d1.length c1) d1) (a2 : Option Addr) (n2 c2 : Nat) (hps : SzA K (.slice a2 n2 c2)) (a3 : Option Addr) (n3 c3 : Nat) (hsz : SzA K (.slice a3 n3 c3)) : Fn Tryd.prog K 7 #[.slice a1 d1.length c1,.slice a2 n2 c2,.slice a3 n3 c3] ([]) (fun r L => r = .bool true) := by
 refine Fn.intro (args := [.slice a1 d1.length c1,.slice a2 n2 c2,.slice a3 n3 c3]) (RR := Ret1 6 _) Tryd.func7 rfl rfl Tryd.ntmps7 (res1 Tryd.results7) ?_
 refine C.reenv (env2 := [(0,.slice a1 d1.length c1),(1,.slice a2 n2 c2),(2,.slice a3 n3 c3)]) rfl ?_
 refine C.sr ?_
 refine E.pure (S.assign rfl) rfl ?_
 refine E.kp [(0,_),(1,_),(2,_),(6,_)] rfl ?_
 refine C.seq ?_
 refine C.sr ?_
 refine E.pure (S.move rfl) rfl ?_
 refine E.pure (S.lenSl rfl Tryd.underlying22) rfl ?_
 refine E.pure (S.gt (b := ((2147483647 : Nat) : Int)) rfl rfl) rfl ?_
 refine E.pure (S.move rfl) rfl ?_
 refine E.fork (fun g10 => ?_) (fun g10 => ?_)
 ·
  refine E.guardNo 10 true rfl rfl rfl rfl ?_
  refine E.guardNo 10 true rfl rfl rfl rfl ?_
  refine E.guardNo 10 true rfl rfl rfl rfl ?_
  refine E.pure (S.pickT rfl rfl) rfl ?_
  refine E.pure (S.move rfl) rfl ?_
  refine E.guardNo 15 true rfl rfl rfl rfl ?_
  refine E.guardNo 15 true rfl rfl rfl rfl ?_
  refine E.guardNo 15 true rfl rfl rfl rfl ?_
  refine E.pure (S.pickT rfl rfl) rfl ?_
  refine E.kp [(0,_),(1,_),(2,_),(6,_),(19,_)] rfl ?_
  refine C.yes rfl (rfl) ?_
  refine C.sr ?_
  refine E.pure (S.assign rfl) rfl ?_
  refine E.kp [(0,_),(1,_),(2,_),(6,_),(19,_)] rfl ?_
  refine C.ret ?_
  exact ⟨_,rfl,rfl⟩
 refine E.wanted 10 rfl rfl ?_
 refine E.pure (S.move rfl) rfl ?_
 refine E.wanted 10 rfl rfl ?_
 refine E.pure (S.lenSl rfl Tryd.underlying39) rfl ?_
 refine E.wanted 10 rfl rfl ?_
 refine E.pure (S.gt (b := ((2147483647 : Nat) : Int)) rfl rfl) rfl ?_
 refine E.pure (S.pickF rfl rfl) rfl ?_
 refine E.pure (S.move rfl) rfl ?_
 refine E.fork (fun g15 => ?_) (fun g15 => ?_)
 ·
  refine E.guardNo 15 true rfl rfl rfl rfl ?_
  refine E.guardNo 15 true rfl rfl rfl rfl ?_
  refine E.guardNo 15 true rfl rfl rfl rfl ?_
  refine E.pure (S.pickT rfl rfl) rfl ?_
  refine E.kp [(0,_),(1,_),(2,_),(6,_),(19,_)] rfl ?_
  refine C.yes rfl (rfl) ?_
  refine C.sr ?_
  refine E.pure (S.assign rfl) rfl ?_
  refine E.kp [(0,_),(1,_),(2,_),(6,_),(19,_)] rfl ?_
  refine C.ret ?_
  exact ⟨_,rfl,rfl⟩
 refine E.wanted 15 rfl rfl ?_
 refine E.pure (S.move rfl) rfl ?_
 refine E.wanted 15 rfl rfl ?_
 refine E.pure (S.lenSl rfl Tryd.underlying39) rfl ?_
 refine E.wanted 15 rfl rfl ?_
 refine E.pure (S.gt (b := ((2147483647 : Nat) : Int)) rfl rfl) rfl ?_
 refine E.pure (S.pickF rfl rfl) rfl ?_
 refine E.kp [(0,_),(1,_),(2,_),(6,_),(19,_)] rfl ?_
 refine C.ifp rfl (fun h19 => ?_) (fun h19 => ?_)
 ·
  refine C.sr ?_
  refine E.pure (S.assign rfl) rfl ?_
  refine E.kp [(0,_),(1,_),(2,_),(6,_),(19,_)] rfl ?_
  refine C.ret ?_
  exact ⟨_,rfl,rfl⟩
 refine C.skip ?_
 refine C.seq ?_
 refine C.sr ?_
 refine E.pure (S.move rfl) rfl ?_
 refine E.pure (S.lenSl rfl Tryd.underlying22) rfl ?_
 refine E.pure (S.gt (b := ((65536 : Nat) : Int)) rfl rfl) rfl ?_
 refine E.kp [(0,_),(1,_),(2,_),(6,_),(19,_),(22,_)] rfl ?_
 refine C.ifp rfl (fun h22 => ?_) (fun h22 => ?_)
 ·
  refine C.sr ?_
  refine E.loud1 (X.call rfl Tryd.call15 (wakes_spec hs hc _)) rfl ?_; rintro _ _ ⟨rfl,rfl⟩; refine E.relist (L2 := []) rfl ?_
  refine E.pure (S.assign rfl) rfl ?_
  refine E.kp [(0,_),(1,_),(2,_),(6,_),(19,_),(22,_)] rfl ?_
  refine C.ret ?_
  exact ⟨_,rfl,rfl⟩
 refine C.skip ?_
 refine C.sr ?_
 refine E.pure (S.move rfl) rfl ?_
 refine E.pure (S.move rfl) rfl ?_
 refine E.pure (S.move rfl) rfl ?_
 refine E.loud1 (X.call rfl Tryd.call18 (unpack3_spec hs hc hv1 (by omega) hps (by omega) hsz [])) rfl ?_; rintro _ _ ⟨GA,hGA,rfl⟩; refine E.relist (L2 := (_)) rfl ?_
 refine E.pure (S.move rfl) rfl ?_
 refine E.loud1 (X.call rfl Tryd.call17 (unpack_spec hs hc hv1 (by omega) (SzA.nil _) _)) rfl ?_; rintro _ _ ⟨GB,hGB,rfl⟩; refine E.relist (L2 := (_)) rfl ?_
 refine E.loud1 (X.call rfl Tryd.call16 (alike_spec hGA hGB (fun f hf => by simp [hf]) (fun f hf => by simp [hf]))) rfl ?_; rintro _ _ ⟨rfl,rfl⟩; refine E.relist (L2 := (_)) rfl ?_
 refine E.pure (S.move rfl) rfl ?_
 refine E.wanted 31 rfl rfl ?_
 refine E.loud1 (X.call rfl Tryd.call15 (wakes_spec hs hc _)) rfl ?_; rintro _ _ ⟨rfl,rfl⟩; refine E.relist (L2 := (_)) rfl ?_
 refine E.pure (S.pickT rfl rfl) rfl ?_
 refine E.pure (S.assign rfl) rfl ?_
 refine E.kp [(0,_),(1,_),(2,_),(6,_),(19,_),(22,_)] rfl ?_
 refine C.ret ?_
 exact ⟨_,rfl,rfl⟩
end Go.Eng
namespace Go.Eng
open Go Go.Proofs Go.ChangeShapes Go.WideShapes Go.RowKit
set_option maxRecDepth 100000

theorem starName : "*" ++ "errors.errorString" = "*errors.errorString" := by decide
theorem errRow (u : TypeId) (h : Tryd.prog.typeName? 3 u = some "*errors.errorString") : u = 179 :=
  typeName_ptr_named (nm := "errors.errorString") (by rw [starName]; kernel_rfl) (by kernel_rfl) (by decide) u (by rw [starName]; exact h)
theorem cellsErr : Tryd.prog.cellsOf 200 = 1 := by kernel_rfl
theorem cellsStr : Tryd.prog.cellsOf 9 = 1 := by kernel_rfl
theorem cellsU8 : Tryd.prog.cellsOf 5 = 1 := by kernel_rfl

abbrev laidErr (text : List UInt8) : DataW Unit := .iface "*errors.errorString" (.ptr (.agg [.lit (.string text)]))

theorem cell_heap {W : World} {b o : Nat} {v : Value} (h : W.cell? ⟨b,o,none⟩ = some v) : cellAt (fun b => W.heap[b]?) b o = some v := by
  unfold World.cell? at h
  unfold cellAt
  dsimp only at h ⊢
  split at h
  · rename_i c t fr hb
    rw [hb]; simpa using h
  · cases h

/-- One laid error. -/
theorem laid_err {W : World} {n : String} {text : List UInt8} {r : List (String × DataW Unit)} {ps : List MemPlace} {g : Nat} (hg : Tryd.prog.globalNamed n = some g) (ht : (Tryd.prog.globals[g]?).map (·.type) = some 59)
    (h : DataW.LaidVars Tryd.prog W ((n,laidErr text)::r) ps)
    (hrows : ∀ b off,MemPlace.cell b off ∈ ps → (∃ c t,W.heap[b]? = some (.cells c t (0,0))) ∧ ∀ u v,W.cell? ⟨b,off,none⟩ = some (.iface u v) → Value.okWide Tryd.prog W .any 0 u v) :
    ∃ a q,cellAt (fun b => W.heap[b]?) g 0 = some (.iface 179 (.pointer (some a))) ∧ DataW.LaidVars Tryd.prog W r q ∧ ps = MemPlace.cell g 0::(MemPlace.row a 1 ++ q) := by
  obtain ⟨g',t,cs,fuel,p,q,hg',ht',hv,hd,hr,rfl⟩ := h
  obtain rfl := Option.some.inj (hg.symm.trans hg')
  obtain rfl := Option.some.inj (ht.symm.trans ht')
  obtain ⟨l⟩ := cs
  obtain ⟨a,s,rfl,hc,hs,hz,rfl⟩ := errorString_of_trod Tryd.underlying59 errRow Tryd.underlying179 Tryd.underlying200 rfl rfl Tryd.underlying9 cellsErr cellsStr hd (fun u v e => by
    subst e
    exact (hrows g 0 (by simp [MemPlace.row])).2 u v (by simpa using World.var?_cell hg hv 0))
  refine ⟨a,q,?_,hr,by simp [MemPlace.row]⟩
  exact cell_heap (by simpa using World.var?_cell hg hv 0)

/-- An argument of bytes. -/
theorem arg_bytes {H : Type} {enc : TypeId × Value → H} {W : World} {base : Nat} {v1 : Value} {d1 : DataW H} {p1 : List MemPlace} (hval : Value.okWide Tryd.prog W .any base 22 v1)
    (h1 : DataW.Trod enc Tryd.prog W 0 (fun _ => true) true 22 v1 d1 p1) :
    v1 = .slice none 0 0 ∨ (∃ a c,v1 = .slice (some a) 0 c) ∨ ∃ pb po cap,∃ l : List UInt8,v1 = .slice (some ⟨pb,po,none⟩) l.length cap ∧ l.length ≤ cap ∧ KB (fun b => W.heap[b]?) pb po l := by
  obtain ⟨a1,len,cap,rfl⟩ := okWide_slice Tryd.underlying22 hval
  obtain ⟨fuel,hf⟩ := h1
  rcases open_ints Tryd.underlying22 Tryd.underlying5 cellsU8 hf with ⟨hcs,hx⟩ | ⟨a,len',cap',zs,hcs,_,hl,hm,hz,hx,hcell,hwz⟩
  · simp [Value.cells] at hcs
    obtain ⟨rfl,rfl,rfl⟩ := hcs
    exact .inl rfl
  · simp [Value.cells] at hcs
    obtain ⟨rfl,rfl,rfl⟩ := hcs
    simp only [if_true] at hz
    by_cases h0 : len = 0
    · subst h0; exact .inr (.inl ⟨_,_,rfl⟩)
    · right; right
      obtain ⟨ab,ao,spot⟩ := a
      have hspot : spot = none := by simpa [Addr.add] using World.cell?_spot (hcell 0 (by omega))
      subst hspot
      have hlen : ((zs.take len).map fun n => UInt8.ofNat n.toNat).length = len := by simp; omega
      refine ⟨ab,ao,cap,(zs.take len).map fun n => UInt8.ofNat n.toNat,by rw [hlen],by rw [hlen]; exact hl,fun j hj => ?_⟩
      rw [hlen] at hj
      have hcj := hcell j (by omega)
      rw [Addr.add_lit] at hcj
      have hb := range_u8 hwz j
      have e : zs.getD j 0 = zs[j]'(by omega) := by simp [List.getD,List.getElem?_eq_getElem (show j < zs.length by omega)]
      rw [e] at hcj
      rw [← List.getD_eq_getElem?_getD,e] at hb
      have hv : (u8 (((zs.take len).map fun n => UInt8.ofNat n.toNat)[j]'(by rw [hlen]; exact hj))) = .int .u8 zs[j] := by
        have e3 : ((zs.take len).map fun n => UInt8.ofNat n.toNat)[j]'(by rw [hlen]; exact hj) = UInt8.ofNat (zs[j]'(by omega)).toNat := by simp
        have e4 : ((UInt8.ofNat (zs[j]'(by omega)).toNat).toNat : Int) = zs[j]'(by omega) := by rw [UInt8.toNat_ofNat']; omega
        show Value.int .u8 _ = _
        rw [e3,e4]
      rw [hv]
      exact cell_heap hcj
end Go.Eng
namespace Go.Eng
open Go Go.Proofs Go.Proofs.YtbjbmpcgiokdaaaDoor Go.ChangeShapes Go.WideShapes Go.RowKit
set_option maxRecDepth 100000

theorem gn0 : Tryd.prog.globalNamed "io.ErrShortBuffer" = some 4 := by kernel_rfl
theorem gn1 : Tryd.prog.globalNamed "io.EOF" = some 0 := by kernel_rfl
theorem gn2 : Tryd.prog.globalNamed "io.ErrUnexpectedEOF" = some 3 := by kernel_rfl
theorem gn4 : Tryd.prog.globalNamed "gzipfiles/pub/gogzip.ErrChecksum" = some 2 := by kernel_rfl
theorem gn5 : Tryd.prog.globalNamed "gzipfiles/pub/gogzip.ErrHeader" = some 1 := by kernel_rfl
theorem gt0 : (Tryd.prog.globals[4]?).map (·.type) = some 59 := by kernel_rfl
theorem gt1 : (Tryd.prog.globals[0]?).map (·.type) = some 59 := by kernel_rfl
theorem gt2 : (Tryd.prog.globals[3]?).map (·.type) = some 59 := by kernel_rfl
theorem gt4 : (Tryd.prog.globals[2]?).map (·.type) = some 59 := by kernel_rfl
theorem gt5 : (Tryd.prog.globals[1]?).map (·.type) = some 59 := by kernel_rfl

theorem laid_skip {W : World} {n : String} {d : DataW Unit} {r : List (String × DataW Unit)} {ps : List MemPlace} (h : DataW.LaidVars Tryd.prog W ((n,d)::r) ps) : ∃ p q,DataW.LaidVars Tryd.prog W r q ∧ ps = p ++ q := by
  obtain ⟨g,t,cs,fuel,p,q,_,_,_,_,hr,rfl⟩ := h
  exact ⟨_,q,hr,rfl⟩

def eaOf (a0 a1 a2 a3 a4 : Addr) (k : Fin 5) : Addr := match k with
  | 0 => a0
  | 1 => a1
  | 2 => a2
  | 3 => a3
  | 4 => a4

theorem laid_sents {W : World} (h : laidMetH Tryd.prog Rows.fnHeaderTakesItsBytesRow.laid W) : ∃ ea,Sents (fun b => W.heap[b]?) ea := by
  have h' : laidMet Tryd.prog [("io.ErrShortBuffer",Rows.laid_io_ErrShortBuffer),("io.EOF",Rows.laid_io_EOF),("io.ErrUnexpectedEOF",Rows.laid_io_ErrUnexpectedEOF),("gzipfiles/pub/flate.codeOrder",Rows.laid_gzipfiles_pub_flate_codeOrder),("gzipfiles/pub/gogzip.ErrChecksum",Rows.laid_gzipfiles_pub_gogzip_ErrChecksum),("gzipfiles/pub/gogzip.ErrHeader",Rows.laid_gzipfiles_pub_gogzip_ErrHeader)] W := h
  obtain ⟨ps,w0,hnd,hrows⟩ := h'
  obtain ⟨a0,q0,c0,w1,rfl⟩ := laid_err gn0 gt0 w0 hrows
  obtain ⟨a1,q1,c1,w2,rfl⟩ := laid_err gn1 gt1 w1 fun b off hb => hrows b off (by simp [hb])
  obtain ⟨a2,q2,c2,w3,rfl⟩ := laid_err gn2 gt2 w2 fun b off hb => hrows b off (by simp [hb])
  obtain ⟨p3,q3,w4,rfl⟩ := laid_skip w3
  obtain ⟨a4,q4,c4,w5,rfl⟩ := laid_err gn4 gt4 w4 fun b off hb => hrows b off (by simp [hb])
  obtain ⟨a5,q5,c5,w6,rfl⟩ := laid_err gn5 gt5 w5 fun b off hb => hrows b off (by simp [hb])
  have k0 := (hrows a0.block a0.off (by simp [MemPlace.row])).1
  have k1 := (hrows a1.block a1.off (by simp [MemPlace.row])).1
  have k2 := (hrows a2.block a2.off (by simp [MemPlace.row])).1
  have k4 := (hrows a4.block a4.off (by simp [MemPlace.row])).1
  have k5 := (hrows a5.block a5.off (by simp [MemPlace.row])).1
  have n15 : a1 ≠ a5 := by rintro rfl; simp [MemPlace.row,List.nodup_append] at hnd
  have n14 : a1 ≠ a4 := by rintro rfl; simp [MemPlace.row,List.nodup_append] at hnd
  have n12 : a1 ≠ a2 := by rintro rfl; simp [MemPlace.row,List.nodup_append] at hnd
  have n10 : a0 ≠ a1 := by rintro rfl; simp [MemPlace.row,List.nodup_append] at hnd
  have n54 : a4 ≠ a5 := by rintro rfl; simp [MemPlace.row,List.nodup_append] at hnd
  have n52 : a2 ≠ a5 := by rintro rfl; simp [MemPlace.row,List.nodup_append] at hnd
  have n50 : a0 ≠ a5 := by rintro rfl; simp [MemPlace.row,List.nodup_append] at hnd
  have n42 : a2 ≠ a4 := by rintro rfl; simp [MemPlace.row,List.nodup_append] at hnd
  have n40 : a0 ≠ a4 := by rintro rfl; simp [MemPlace.row,List.nodup_append] at hnd
  have n20 : a0 ≠ a2 := by rintro rfl; simp [MemPlace.row,List.nodup_append] at hnd
  refine ⟨eaOf a1 a5 a4 a2 a0,fun k => ?_,fun j k e => ?_,c1,c5,c4,c2,c0⟩
  · match k with
    | 0 => exact k1
    | 1 => exact k5
    | 2 => exact k4
    | 3 => exact k2
    | 4 => exact k0
  · match j,k,e with
    | 0,0,_ => rfl
    | 1,1,_ => rfl
    | 2,2,_ => rfl
    | 3,3,_ => rfl
    | 4,4,_ => rfl
    | 0,1,e => exact absurd e n15
    | 0,2,e => exact absurd e n14
    | 0,3,e => exact absurd e n12
    | 0,4,e => exact absurd (Eq.symm e) n10
    | 1,0,e => exact absurd (Eq.symm e) n15
    | 1,2,e => exact absurd (Eq.symm e) n54
    | 1,3,e => exact absurd (Eq.symm e) n52
    | 1,4,e => exact absurd (Eq.symm e) n50
    | 2,0,e => exact absurd (Eq.symm e) n14
    | 2,1,e => exact absurd e n54
    | 2,3,e => exact absurd (Eq.symm e) n42
    | 2,4,e => exact absurd (Eq.symm e) n40
    | 3,0,e => exact absurd (Eq.symm e) n12
    | 3,1,e => exact absurd e n52
    | 3,2,e => exact absurd e n42
    | 3,4,e => exact absurd (Eq.symm e) n20
    | 4,0,e => exact absurd e n10
    | 4,1,e => exact absurd e n50
    | 4,2,e => exact absurd e n40
    | 4,3,e => exact absurd e n20
end Go.Eng
namespace Go.Eng
open Go Go.Proofs Go.Proofs.YtbjbmpcgiokdaaaDoor Go.ChangeShapes Go.WideShapes Go.RowKit
set_option maxRecDepth 100000

theorem codes_laid {W : World} {d : List (DataW Unit)} {r : List (String × DataW Unit)} {ps : List MemPlace} (hd : d = ordL.map fun n => .lit (.int .i64 (n : Int))) (h : DataW.LaidVars Tryd.prog W (("gzipfiles/pub/flate.codeOrder",.agg d)::r) ps) : Codes (fun b => W.heap[b]?) := by
  subst hd
  obtain ⟨g,t,cs,fuel,p,q,hg,ht,hv,hd,_,_⟩ := h
  obtain rfl := Option.some.inj ((show Tryd.prog.globalNamed "gzipfiles/pub/flate.codeOrder" = some 5 by kernel_rfl).symm.trans hg)
  obtain rfl := Option.some.inj ((show (Tryd.prog.globals[5]?).map (·.type) = some 156 by kernel_rfl).symm.trans ht)
  obtain ⟨xs,m,_,ex,_,hl,hel⟩ := DataW.trod_array Tryd.underlying156 hd
  have c1 : Tryd.prog.cellsOf 3 = 1 := by kernel_rfl
  refine ⟨fun i hi => ?_⟩
  have hE := hel i hi
  rw [c1,Nat.mul_one,List.getElem?_eq_getElem (by omega)] at hE
  obtain ⟨z,e1,e2,_⟩ := DataW.trod_int Tryd.underlying3 hE
  have hlen : ordL.length = 19 := rfl
  have e3 : (xs.map (·.1)) = ordL.map fun n => .lit (.int .i64 (n : Int)) := (DataW.agg.inj (Prod.mk.inj ex).1).symm
  have e4 : (xs.map (·.1))[i]? = (ordL.map fun (n : Nat) => (DataW.lit (.int .i64 (n : Int)) : DataW Unit))[i]? := by rw [e3]
  rw [List.getElem?_map,List.getElem?_map,List.getElem?_eq_getElem (by omega : i < xs.length),List.getElem?_eq_getElem (by omega : i < ordL.length),e2] at e4
  have hz : z = ((ordL.getD i 0 : Nat) : Int) := by
    simp only [Option.map_some,Option.some.injEq,DataW.lit.injEq,Lit.int.injEq,true_and] at e4
    rw [e4,List.getD,List.getElem?_eq_getElem (by omega : i < ordL.length)]; rfl
  have hc : W.cell? ⟨5,i,none⟩ = some (.int .i64 z) := by
    rw [World.var?_cell hg hv i]
    have : cs.toList[i]? = some (.int .i64 z) := by
      have h0 : ((cs.toList.drop i).take 1)[0]? = some (.int .i64 z) := by rw [e1]; rfl
      simpa using h0
    simpa using this
  rw [← hz,Nat.zero_add,Nat.mul_one]
  exact cell_heap hc

theorem laid_codes {W : World} (h : laidMetH Tryd.prog Rows.fnHeaderTakesItsBytesRow.laid W) : Codes (fun b => W.heap[b]?) := by
  have h' : laidMet Tryd.prog [("io.ErrShortBuffer",Rows.laid_io_ErrShortBuffer),("io.EOF",Rows.laid_io_EOF),("io.ErrUnexpectedEOF",Rows.laid_io_ErrUnexpectedEOF),("gzipfiles/pub/flate.codeOrder",Rows.laid_gzipfiles_pub_flate_codeOrder),("gzipfiles/pub/gogzip.ErrChecksum",Rows.laid_gzipfiles_pub_gogzip_ErrChecksum),("gzipfiles/pub/gogzip.ErrHeader",Rows.laid_gzipfiles_pub_gogzip_ErrHeader)] W := h
  obtain ⟨ps,w0,hnd,hrows⟩ := h'
  obtain ⟨p1,q1,w1,rfl⟩ := laid_skip w0
  obtain ⟨p2,q2,w2,rfl⟩ := laid_skip w1
  obtain ⟨p3,q3,w3,rfl⟩ := laid_skip w2
  exact codes_laid rfl w3

/-- An argument of bytes,in one. -/
theorem arg_ba {H : Type} {enc : TypeId × Value → H} {W : World} {base : Nat} {v1 : Value} {d1 : DataW H} {p1 : List MemPlace} (hval : Value.okWide Tryd.prog W .any base 22 v1)
    (h1 : DataW.Trod enc Tryd.prog W 0 (fun _ => true) true 22 v1 d1 p1) : ∃ l a c,v1 = .slice a l.length c ∧ BA (fun b => W.heap[b]?) (.slice a l.length c) l := by
  rcases arg_bytes hval h1 with rfl | ⟨a,c,rfl⟩ | ⟨pb,po,cap,l,rfl,hcap,hp⟩
  · exact ⟨[],none,0,rfl,.inl ⟨rfl,rfl⟩⟩
  · exact ⟨[],some a,c,rfl,.inr (.inl ⟨a,c,rfl,rfl⟩)⟩
  · exact ⟨l,_,_,rfl,.inr (.inr ⟨pb,po,cap,rfl,hcap,hp⟩)⟩

/-- An argument of ints. -/
theorem arg_ints {H : Type} {enc : TypeId × Value → H} {W : World} {base : Nat} {v1 : Value} {d1 : DataW H} {p1 : List MemPlace} (hval : Value.okWide Tryd.prog W .any base 39 v1)
    (h1 : DataW.Trod enc Tryd.prog W 0 (fun _ => true) true 39 v1 d1 p1) : ∃ a n c,v1 = .slice a n c ∧ SzA (fun b => W.heap[b]?) (.slice a n c) := by
  obtain ⟨a1,len,cap,rfl⟩ := okWide_slice Tryd.underlying39 hval
  obtain ⟨fuel,hf⟩ := h1
  have c1 : Tryd.prog.cellsOf 3 = 1 := by kernel_rfl
  rcases open_ints Tryd.underlying39 Tryd.underlying3 c1 hf with ⟨hcs,hx⟩ | ⟨a,len',cap',zs,hcs,_,hl,hm,hz,hx,hcell,hwz⟩
  · simp [Value.cells] at hcs
    obtain ⟨rfl,rfl,rfl⟩ := hcs
    exact ⟨_,_,_,rfl,none,0,0,rfl,by decide,.inl rfl⟩
  · simp [Value.cells] at hcs
    obtain ⟨rfl,rfl,rfl⟩ := hcs
    simp only [if_true] at hz
    have hmx : maxLen ≤ 9223372036854775807 := by decide
    by_cases h0 : len = 0
    · exact ⟨_,_,_,rfl,some a,len,cap,rfl,by omega,.inl h0⟩
    · obtain ⟨ab,ao,spot⟩ := a
      have hspot : spot = none := by simpa [Addr.add] using World.cell?_spot (hcell 0 (by omega))
      subst hspot
      refine ⟨_,_,_,rfl,_,len,cap,rfl,by omega,.inr ⟨ab,ao,rfl,fun j hj => ?_⟩⟩
      have hcj := hcell j (by omega)
      rw [Addr.add_lit] at hcj
      rw [Nat.mul_one]
      exact ⟨_,cell_heap hcj⟩
end Go.Eng
namespace Go.Eng
open Go Go.Proofs Go.ChangeShapes Go.WideShapes Go.RowKit
set_option maxRecDepth 100000

theorem To.below {K : Known} {w w' : World} {L' : Frags} (h : To K w [] w' L') : Below w.heap.size w w' :=
  ⟨h.os,h.tape,h.output,h.size,fun k hk => h.old k hk fun f hf => by cases hf⟩

theorem agree_all (w : World) : Agree (fun b => w.heap[b]?) [] w.heap :=
  ⟨fun _ _ h => h,(fun f hf => by cases hf),(fun f hf => by cases hf),List.Pairwise.nil⟩

section
variable {H : Type} {enc : TypeId × Value → H} {P : Program} {W W' : World}

theorem trodAll_stays (hl : laidOutB P = true) {sp : Nat → Bool} : ∀ {ts : List TypeId} {vs : List Value} {ds : List (DataW H)} {ps : List MemPlace},(∀ t ∈ ts,P.readableRec t = true ∧ t < P.types.size) →
    DataW.TrodAll enc P W 0 (fun _ => true) true ts vs ds ps → (∀ p ∈ ps,W.sameAt W' p) → (∀ p ∈ ps,sp p.block = true) → DataW.TrodAll enc P W' 0 sp true ts vs ds ps
  | [],[],[],_,_,h,_,_ => h
  | t::ts,v::vs,d::ds,_,ht,⟨p,q,h1,h2,e⟩,hs,hp => by
    subst e
    exact ⟨p,q,WideElems.Trod_stays hl (ht t (by simp)).1 (ht t (by simp)).2 h1 (fun x hx => hs x (by simp [hx])) (fun x hx => hp x (by simp [hx])),
      trodAll_stays hl (fun t h => ht t (by simp [h])) h2 (fun x hx => hs x (by simp [hx])) (fun x hx => hp x (by simp [hx])),rfl⟩

theorem post_true {f : Func} {s : ChangeSpec} {args : Array Value} {ds gs : List (DataW H)} {before : List MemPlace} {bt : TypeId} (hl : laidOutB P = true)
    (hts : ∀ t ∈ f.params.toList,P.readableRec t = true ∧ t < P.types.size) (hbool : P.underlying bt = some .bool) (hres : f.resultTypes = #[bt]) (hsv : s.vars = [])
    (hfn : s.fn H (ds ++ gs) = { results := [.lit (.bool true)],args := ds,vars := [] }) (hW : DataW.Whole enc P f.params.toList s.vars false W args.toList ds gs before) (hb : Below W.heap.size W W') :
    s.post enc P f false true false false W args (.bool true) W' := by
  have hW' := hW
  obtain ⟨p,q,hA,hV,rfl,hfz,hnd⟩ := hW
  rw [hsv] at hV
  obtain ⟨rfl,rfl⟩ := trodVars_none hV
  have hlt : ∀ x ∈ p,x.block < W.heap.size := fun x hx => by simpa using hW'.lt x (by simp [hx])
  refine ⟨ds,[],p ++ [],[],p,[],hW',?_,?_,?_,hb.frame _,fun h => by cases h⟩
  · rw [hres,hfn]
    exact trodAll_cons_mk (shut_bool hbool _) trodAll_mk0
  · rw [hfn]
    exact trodAll_stays hl hts hA (fun x hx => hb.same (hlt x hx)) (fun x hx => by simpa using hlt x hx)
  · rw [hfn,hsv]
    exact rfl
end
end Go.Eng
namespace Go.Eng
open Go Go.Proofs Go.Proofs.YtbjbmpcgiokdaaaDoor Go.ChangeShapes Go.WideShapes Go.RowKit
set_option maxRecDepth 100000

theorem ownD : ownKnob Tryd.prog.godebug = none := by kernel_rfl
theorem laidOutD : laidOutB Tryd.prog = true := by kernel_rfl

def errS (l : List UInt8) : Obj := .cells #[.string ⟨l.toArray⟩] 200

noncomputable def lowD : Nat := (World.holding Tryd.prog default ⟨#[],#[],[]⟩).heap.size

def layErr (g : Nat) (b : Nat) (H : Array Obj) : Array Obj := H.modify g fun
  | .cells _ t frozen => .cells #[.iface 179 (.pointer (some ⟨b,0,none⟩))] t frozen
  | o => o
def layInts (g : Nat) (l : List Int) (H : Array Obj) : Array Obj := H.modify g fun
  | .cells _ t frozen => .cells (l.map fun n => Value.int .i64 n).toArray t frozen
  | o => o

noncomputable def laidWorldD (os : Os) : World :=
  let w0 := World.holding Tryd.prog os ⟨#[errS [115,104,111,114,116,32,98,117,102,102,101,114],errS [69,79,70],errS [117,110,101,120,112,101,99,116,101,100,32,69,79,70],
    errS [103,122,105,112,58,32,105,110,118,97,108,105,100,32,99,104,101,99,107,115,117,109],errS [103,122,105,112,58,32,105,110,118,97,108,105,100,32,104,101,97,100,101,114]],#[],[]⟩
  { w0 with heap := layErr 4 lowD (layErr 0 (lowD + 1) (layErr 3 (lowD + 2) (layErr 2 (lowD + 3) (layErr 1 (lowD + 4)
    (layInts 5 [16,17,18,0,8,7,9,6,10,5,11,4,12,3,13,2,14,1,15] w0.heap))))) }

theorem laid_metD (os : Os) (args : Array Value) : laidMet Tryd.prog Rows.fnHeaderTakesItsBytesRow.laid ((laidWorldD os).forCall (fun _ _ => 0) ⟨#[],args,[]⟩).memory :=
  laidMet_of_run' 8 (by kernel_rfl) (by kernel_rfl)
end Go.Eng
