/-
  Texts of this proof, merged: WRf8, WLaw6, Mem, Prm, WMb, WLaw10, Frame, FrameA, FrameZ, FrameG, FrameV.
-/
import Derived.Test.YtbjbmpcgiokdaaaGreatDoorFo6
import Derived.Test.YtbjbmpcgiokdaaaGreatDoorFo1
import Derived.Test.YtbjbmpcgiokdaaaGreatDoorFo2
import Derived.Test.YtbjbmpcgiokdaaaGreatDoorRows
import Derived.WalkKit
import Derived.ProofKit
import Derived.LaidLaws
import Derived.ChangeSlices
import Derived.Deep.DeepHandedRow
import Derived.OpenShut
import Derived.Carry
import Derived.Test.YtbjbmpcgiokdaaaGreatDoorCards
import Derived.Test.YtbjbmpcgiokdaaaGreatDoorTie
import Derived.Deep.DeepWitnessRowRef
set_option linter.unusedVariables false
set_option linter.unusedSimpArgs false
namespace Go.Eng
open Go Go.Proofs
set_option maxRecDepth 100000
theorem start_spec3 {K : Known} (pb po cap : Nat) (b : List UInt8) (hp : KB K pb po b) (hl : b.length ≤ 4294967296) (hcap : b.length ≤ cap) : Fn Tryz.prog K 29 #[.slice (some ⟨pb,po,none⟩) (b.length) (cap)] []
    (fun r L => ∃ xa xn xc g,RdV (.slice xa xn xc) ((As b).1.extra.getD []) [g] ∧ L = [g] ∧ r = .tuple #[.agg #[.string (As b).1.name,.string (As b).1.comment,.slice xa xn xc,.int .i64 (((As b).1.mod : Nat) : Int),.int .u8 (((As b).1.os : Nat) : Int)],.int .i64 (((As b).2.1 : Nat) : Int),.int .i64 (((As b).2.2.1 : Nat) : Int),.int .i64 (((As b).2.2.2 : Nat) : Int)]) := by
  refine Fn.lose (start_spec pb po cap b hp hl hcap) ?_
  rintro r L ⟨xa,xn,xc,g,h1,h2,rfl⟩
  obtain ⟨A',B',rfl⟩ := List.append_of_mem h2
  refine ⟨[g],A' ++ B',Same.perm List.perm_middle,xa,xn,xc,g,?_,rfl,rfl⟩
  cases he : (As b).1.extra with
  | none =>
    rw [he] at h1
    have h' : Value.slice xa xn xc = .slice none 0 0 := h1
    rw [h']; exact (RdV.nil).mono fun f hf => by cases hf
  | some d =>
    rw [he] at h1
    rcases h1 with ⟨rfl,h'⟩ | ⟨b2,o,c',cs,h',rfl,_⟩
    · rw [h']; exact (RdV.nil).mono fun f hf => by cases hf
    · rw [h']
      exact ⟨_,_,rfl,fun K L hL => .inr ⟨b2,o,rfl,Reads.mem (k:=0) (hL _ (.head _)) (by rw [List.drop_zero]; exact List.take_left' rfl)⟩⟩
theorem update_db {K : Known} (poly sum : Nat) (ba : Option Addr) (cap : Nat) (l : List UInt8) (hpoly : poly < 4294967296) (hsum : sum < 4294967296) (hD : DB K ba l) (hl : l.length ≤ 9223372036854775806) : Fn Tryz.prog K 45 #[.int .u32 ((poly : Nat) : Int),.int .u32 ((sum : Nat) : Int),.slice ba l.length cap] ([]) (fun v L => v = u32 (crcOn poly sum l) ∧ L = []) := by
 refine Fn.intro (args:=[.int .u32 ((poly : Nat) : Int),.int .u32 ((sum : Nat) : Int),.slice ba l.length cap]) (RR:=Ret1 6 _) Tryz.func45 rfl rfl Tryz.ntmps45 (res1 Tryz.results45) ?_
 refine Bl (env2:=[(0,.int .u32 ((poly : Nat) : Int)),(1,.int .u32 ((sum : Nat) : Int)),(2,.slice ba l.length cap)]) rfl<|Cr<|Ea rfl rfl<|Ek4 0 1 2 6 rfl<|Cr<|Em rfl rfl<|Aa (S.not32 rfl (by omega)) rfl<|Ea rfl rfl<|Ek4 0 2 6 7 rfl<|Ap<|Cr<|Em rfl rfl ?_
 refine Aa (Bk rfl Tu25) rfl<|Em rfl rfl<|Ek6 0 6 7 12 13 14 rfl<|Ax<|Bx (fun mm ee ll => ∃ (i : Nat),∃ (c : Nat),keeps ee [0,7,12,13,14] = some [(0,.int .u32 ((poly : Nat) : Int)),(7,.int .u32 ((c : Nat) : Int)),(12,.slice ba l.length cap),(13,.int .i64 ((l.length : Nat) : Int)),(14,.int .i64 ((i : Nat) : Int))] ∧ ll = [] ∧ (i ≤ l.length) ∧ (c = (nats (l.take i)).foldl (step poly) (not32 sum)) ∧ (c < 4294967296) ∧ mm = l.length - i) (_) ⟨0,_,rfl,rfl,by omega,rfl,not32_lt hsum,rfl⟩ ?_
 rintro m0 _ _ ⟨i,c,hk0,rfl,hi,hc,hb,hm0⟩
 refine Ba _ hk0<|Cr<|Aa (Dk rfl rfl) rfl<|Ek6 0 7 12 13 14 15 rfl<|Ap<|Be rfl (fun h15 => ?_) (fun h15 => ?_)
 ·have hi2 : i < l.length := by omega
  have hv := l[i].toNat_lt
  have hc2 := (fold_take (poly:=poly) (c0:=not32 sum) hi2).trans (by rw [← hc])
  obtain ⟨pb,po,rfl,hp⟩ := hD.resolve_left (fun h => by subst h; exact absurd hi2 (by simp))
  refine Ar<|Ap<|Ax<|Cr<|Aa (Bw rfl rfl (by omega) Tu25 Tz5) rfl<|Ah (Bd rfl (hp.at hi2) Ta5) rfl<|Ea rfl rfl<|Ek7 0 7 9 12 13 14 15 rfl<|Al<|Em rfl rfl<|Em rfl rfl<|Em rfl rfl ?_
  refine Aa (Bv rfl Tu5 Tu69 (N.in_u32 (by omega))) rfl<|Aa (S.xor rfl rfl (N.xor_u32 (by omega) (by omega))) rfl ?_
  refine Ak (OpX.pick [] (F:=[]) rfl (Au rfl Tryz.call64 (divide_spec poly (c ^^^ l[i].toNat) hpoly (xor32 hb (by omega))))) rfl ?_; rintro _ _ ⟨_,⟨rfl,rfl⟩,rfl⟩; refine Ab (L2:=[]) rfl ?_
  refine Ea rfl rfl<|Ek7 0 7 9 12 13 14 15 rfl<|Al<|Aa (Bh (b:=((1 : Nat) : Int)) rfl rfl (N.add64 (by omega))) rfl<|Em rfl rfl<|Ek7 0 7 9 12 13 14 15 rfl ?_
  refine ⟨_,?_,i + 1,_,rfl,rfl,by omega,hc2.symm,step_lt hpoly hb l[i].toNat_lt,rfl⟩; omega
 have hi2 : i = l.length := by omega
 subst hi2
 rw [fold_take_all] at hc
 refine Bu rfl<|Cr<|Em rfl rfl<|Aa (S.not32 rfl (by omega)) rfl<|Ea rfl rfl<|Ek7 0 6 7 12 13 14 15 rfl<|Av ?_
 exact ⟨_,rfl,by rw [hc]; rfl,rfl⟩
theorem check_db {K : Known} (ba : Option Addr) (cap : Nat) (l : List UInt8) (hD : DB K ba l) (hl : l.length ≤ 9223372036854775806) : Fn Tryz.prog K 28 #[.slice ba l.length cap] ([]) (fun v L => v = u32 (crcOn IEEE 0 l) ∧ L = []) := by
 refine Fn.intro (args:=[.slice ba l.length cap]) (RR:=Ret1 2 _) Tryz.func28 rfl rfl Tryz.ntmps28 (res1 Tryz.results28) ?_
 refine Bl (env2:=[(0,.slice ba l.length cap)]) rfl<|Cr<|Ea rfl rfl<|Ek2 0 2 rfl<|Cr<|Em rfl rfl ?_
 refine Ak (OpX.pick [] (F:=[]) rfl (Au rfl Tryz.call45 (update_db IEEE 0 ba cap l (by decide) (by decide) hD hl))) rfl ?_; rintro _ _ ⟨_,⟨rfl,rfl⟩,rfl⟩; refine Ab (L2:=[]) rfl ?_
 refine Ea rfl rfl<|Ek1 2 rfl<|Av ?_
 exact ⟨_,rfl,rfl,rfl⟩
theorem Sl.cap {s m c : Nat} {a : Option Addr} {xs : List Value} {Lf : Frags} (h : Sl s (.slice a m c) m xs Lf) : m ≤ c := by
  rcases h.2 with ⟨e,h0,_⟩ | ⟨b,o,c2,cs,e,_,_,h1,_⟩
  · omega
  · injection e with _ _ e3; omega
theorem RB.db {K : Known} {L : Frags} {a : Option Addr} {l : List UInt8} (h : RB K L a l) {w : World} (hw : Agree K L w.heap) : DB (fun b => w.heap[b]?) a l := by
  rcases h with h | ⟨b,o,h1,h2⟩
  · exact .inl h
  · exact .inr ⟨b,o,h1,h2.kb hw⟩
theorem check_fr {K : Known} {L : Frags} (a : Option Addr) (c : Nat) (l : List UInt8) (h : RB K L a l) (hl : l.length ≤ 9223372036854775806) : Fn Tryz.prog K 28 #[.slice a l.length c] L (fun v L' => v = u32 (crcOn IEEE 0 l) ∧ L' = L) :=
  Fn.stillR fun w hw => Fn.mono (check_db a c l (h.db hw) hl) fun v L h => h.1
theorem RdV.same {a : Option Addr} {n c : Nat} {l : List UInt8} {G : Frags} (h : RdV (.slice a n c) l G) : n = l.length ∧ ∀ (K : Known) (L : Frags),(∀ f ∈ G,f ∈ L) → RB K L a l := by
  obtain ⟨a2,c2,e,h⟩ := h
  injection e with e1 e2 e3
  subst e1
  exact ⟨e2,h⟩
def MemV (n : Nat) (m : PM) (cs : List Value) (G : Frags) : Prop := ∃ xa xn xc oa oc,cs = [.string m.hd.name,.string m.hd.comment,.slice xa xn xc,.int .i64 ((m.hd.mod : Nat) : Int),.int .u8 ((m.hd.os : Nat) : Int),.slice oa m.data.length oc,.int .i64 ((n - m.left : Nat) : Int)] ∧ RdV (.slice xa xn xc) (m.hd.extra.getD []) G ∧ RdV (.slice oa m.data.length oc) m.data G
def MemsV (n : Nat) : List PM → List Value → Frags → Prop
  | [],cs,_ => cs = []
  | m::r,cs,G => ∃ c1 c2,cs = c1 ++ c2 ∧ MemV n m c1 G ∧ MemsV n r c2 G
theorem MemV.mono {n : Nat} {m : PM} {cs : List Value} {G G2 : Frags} (h : MemV n m cs G) (hs : ∀ f ∈ G,f ∈ G2) : MemV n m cs G2 := by
  obtain ⟨xa,xn,xc,oa,oc,h1,h2,h3⟩ := h
  exact ⟨xa,xn,xc,oa,oc,h1,h2.mono hs,h3.mono hs⟩
theorem MemsV.mono {n : Nat} : ∀ {ms : List PM} {cs : List Value} {G G2 : Frags},MemsV n ms cs G → (∀ f ∈ G,f ∈ G2) → MemsV n ms cs G2
  | [],cs,G,G2,h,_ => h
  | m::r,cs,G,G2,⟨c1,c2,h1,h2,h3⟩,hs => ⟨c1,c2,h1,h2.mono hs,h3.mono hs⟩
theorem MemsV.snoc {n : Nat} : ∀ {ms : List PM} {cs c : List Value} {G : Frags} {m : PM},MemsV n ms cs G → MemV n m c G → MemsV n (ms ++ [m]) (cs ++ c) G
  | [],cs,c,G,m,h,h2 => by
    have e : cs = [] := h
    subst e
    exact ⟨c,[],by simp,h2,rfl⟩
  | a::r,cs,c,G,m,⟨c1,c2,h1,h2,h3⟩,h4 => ⟨c1,c2 ++ c,by rw [h1,List.append_assoc],h2,MemsV.snoc h3 h4⟩
def FirstH (ms : List PM) (behind : Bool) (h2 hd : Hd) : Prop := (∃ m r,ms = m::r ∧ hd = m.hd) ∨ (ms = [] ∧ behind = true ∧ hd = h2)
def ParseR (dt : List UInt8) (r : Value) (L : Frags) : Prop :=
  ∃ what why opened behind hd h2 ms d2 l2 data xa xn xc da dc ma mc ya yn yc oa oc,r = .agg #[.int .i64 ((what : Nat) : Int),.int .i64 ((why : Nat) : Int),.bool opened,.string hd.name,.string hd.comment,.slice xa xn xc,.int .i64 ((hd.mod : Nat) : Int),.int .u8 ((hd.os : Nat) : Int),.slice da data.length dc,.slice ma ms.length mc,.bool behind,
      .string h2.name,.string h2.comment,.slice ya yn yc,.int .i64 ((h2.mod : Nat) : Int),.int .u8 ((h2.os : Nat) : Int),.slice oa d2.length oc,.int .i64 0] ∧
    RdV (.slice xa xn xc) (hd.extra.getD []) L ∧ RdV (.slice da data.length dc) data L ∧ RdV (.slice ya yn yc) (h2.extra.getD []) L ∧ RdV (.slice oa d2.length oc) d2 L ∧
    (∃ cs,MemsV dt.length ms cs L ∧ (ms = [] ∨ ∃ mb mo,ma = some ⟨mb,mo,none⟩ ∧ ∀ (K : Known) (L2 : Frags),(∀ f ∈ L,f ∈ L2) → Reads K L2 mb mo cs)) ∧
    data.length ≤ dc ∧ d2.length ≤ oc ∧ data = allD ms ++ d2 ∧ Chain dt ms l2 ∧ EndP l2 what why behind h2 d2 ∧ ((opened = false ∧ ms = [] ∧ behind = false ∧ what ≠ 0) ∨ (opened = true ∧ FirstH ms behind h2 hd)) ∧ (why = 1 → dt = []) ∧ (dt = [] → opened = false)
theorem infoM : Tryz.prog.info? 43 = some Tryz.t43 := by kernel_rfl
theorem app_mid {A B C : Frags} : (A ++ (B ++ C)).Perm (B ++ (A ++ C)) := by
  rw [← List.append_assoc,← List.append_assoc]
  exact List.perm_append_comm.append_right C
theorem app_deep {A B C D E : Frags} : (A ++ (B ++ (C ++ (D ++ E)))).Perm (C ++ (A ++ (B ++ (D ++ E)))) := (List.Perm.append_left A app_mid).trans app_mid
theorem app_back {b g f z : Frag} {A B C : Frags} : ([b,g,f,z] ++ (A ++ (B ++ C))).Perm (([f,z] ++ (A ++ (B ++ (g::C)))) ++ [b]) := by
  have h1 : ([b,g,f,z] ++ (A ++ (B ++ C))).Perm ([b] ++ ([f,z] ++ ([g] ++ (A ++ (B ++ C))))) := List.Perm.cons b (List.perm_append_comm (l₁:=[g]) (l₂:=[f,z]) |>.append_right _)
  have h2 : ([g] ++ (A ++ (B ++ C))).Perm (A ++ (B ++ ([g] ++ C))) := app_mid.trans (List.Perm.append_left A app_mid)
  refine h1.trans ?_
  refine (List.Perm.append_left [b] (List.Perm.append_left [f,z] h2)).trans ?_
  exact List.perm_append_comm
theorem Gx {v : Value} {k : Nat} {cs : List Value} {Lf : Frags} (h : Sl 7 v k cs Lf) : ∃ a c,v = .slice a k c ∧ (k = 0 ∨ ∃ b o,a = some ⟨b,o,none⟩ ∧ ∀ (K : Known) (L : Frags),(∀ f ∈ Lf,f ∈ L) → Reads K L b o cs) := by
  rcases h.2 with ⟨rfl,h2,rfl⟩ | ⟨b,o,c,ds,rfl,rfl,h3,h4,h5,h6⟩
  · exact ⟨_,_,by rw [h2],.inl h2⟩
  · exact ⟨_,_,rfl,.inr ⟨b,o,rfl,fun K L hL => Reads.mem (k:=0) (hL _ (.head _)) (by rw [List.drop_zero,h.1]; exact h6)⟩⟩
theorem app_lm {y a b c d : Frag} {Ld Lo Lm G : Frags} : ([y,a,b,c,d] ++ (Ld ++ (Lo ++ (Lm ++ G)))).Perm (Lm ++ ([y,a,b,c,d] ++ (Ld ++ (Lo ++ G)))) := by
  have h1 : (Lo ++ (Lm ++ G)).Perm (Lm ++ (Lo ++ G)) := app_mid
  have h2 : (Ld ++ (Lo ++ (Lm ++ G))).Perm (Lm ++ (Ld ++ (Lo ++ G))) := (List.Perm.append_left Ld h1).trans app_mid
  exact (List.Perm.append_left [y,a,b,c,d] h2).trans app_mid
theorem app_lm2 {y a b c d : Frag} {Ld Lo Lm G : Frags} : (Lm ++ ([y,a,b,c,d] ++ (Ld ++ (Lo ++ G)))).Perm (([a,b,c,d] ++ (Ld ++ (Lm ++ (Lo ++ G)))) ++ [y]) := by
  have h1 : (Lm ++ ([y] ++ ([a,b,c,d] ++ (Ld ++ (Lo ++ G))))).Perm ([y] ++ (Lm ++ ([a,b,c,d] ++ (Ld ++ (Lo ++ G))))) := app_mid
  refine h1.trans (List.perm_append_comm.trans ?_)
  refine List.Perm.append_right [y] ?_
  exact app_mid.trans (List.Perm.append_left _ app_mid)
theorem arr7 (f : Nat → Value) (u0 u1 u2 u3 u4 u5 u6 : Value) : (((((((((Array.range 7).map f).setIfInBounds 0 u0).setIfInBounds 1 u1).setIfInBounds 2 u2).setIfInBounds 3 u3).setIfInBounds 4 u4).setIfInBounds 5 u5).setIfInBounds 6 u6) = #[u0,u1,u2,u3,u4,u5,u6] := by
  rw [show Array.range 7 = #[0,1,2,3,4,5,6] by decide]; simp
theorem memRun (s1 s2 : ByteArray) (xa oa : Option Addr) (xn xc on oc : Nat) (m o e : Int) (w : World) : (Instr.buildSlice 41 1 [(0,.agg #[.string s1,.string s2,.slice xa xn xc,.int .i64 m,.int .u8 o,.slice oa on oc,.int .i64 e])].toArray).run Tryz.prog w =
   .ok (.slice (some ⟨w.heap.size,0,none⟩) 1 1) (w.alloc (.cells [Value.string s1,.string s2,.slice xa xn xc,.int .i64 m,.int .u8 o,.slice oa on oc,.int .i64 e].toArray 43)) := by
  simp [Instr.buildSlice,Instr.fill,Value.cells,newRow,Tryz.runUnderlying41,Tryz.typeInfo43]
  rw [arr7]
set_option maxHeartbeats 2000000
theorem parse_spec {K : Known} (ba : Option Addr) (bc : Nat) (dt : List UInt8) (hD : DB K ba dt) (hl : dt.length ≤ 65536) (hcap : dt.length ≤ bc) (hS : SpT K) : Fn Tryz.prog K 14 #[.slice ba dt.length bc] ([]) (ParseR dt) := by
 refine Fn.intro (args:=[.slice ba dt.length bc]) (RR:=RetC 2 18  _) Tryz.func14 rfl rfl Tryz.ntmps14 (resC Tryz.results14 Ta45 Tz45) ?_
 refine Bl (env2:=[(0,.slice ba dt.length bc)]) rfl<|Cr ?_
 refine Ak (Dy Tryz.zeroValue45) rfl ?_; rintro _ _ ⟨b2,rfl,rfl⟩; refine Ab (L2:=[_]) rfl ?_
 refine Ab (L2:=[⟨b2,0,[.int .i64 0,.int .i64 0,.bool false,.string ⟨#[]⟩,.string ⟨#[]⟩,.slice none 0 0,.int .i64 0,.int .u8 0,.slice none 0 0,.slice none 0 0,.bool false,.string ⟨#[]⟩,.string ⟨#[]⟩,.slice none 0 0,.int .i64 0,.int .u8 0,.slice none 0 0,.int .i64 0]⟩]) (by kernel_rfl)<|Ek2 0 2 rfl<|Cr<|Aa (Eu (v:=.agg #[.int .i64 0,.int .i64 0,.bool false,.string ⟨#[]⟩,.string ⟨#[]⟩,.slice none 0 0,.int .i64 0,.int .u8 0,.slice none 0 0,.slice none 0 0,.bool false,.string ⟨#[]⟩,.string ⟨#[]⟩,.slice none 0 0,.int .i64 0,.int .u8 0,.slice none 0 0,.int .i64 0]) [] rfl (fun w => by simp [Instr.build,Instr.fill,Value.cells,Tryz.zeroValue45])) rfl ?_
 refine Ak (Dy Tryz.zeroValue45) rfl ?_; rintro _ _ ⟨b3,rfl,rfl⟩; refine Ab (L2:=[_,_]) rfl ?_
 refine Ab (L2:=[⟨b3,0,[.int .i64 0,.int .i64 0,.bool false,.string ⟨#[]⟩,.string ⟨#[]⟩,.slice none 0 0,.int .i64 0,.int .u8 0,.slice none 0 0,.slice none 0 0,.bool false,.string ⟨#[]⟩,.string ⟨#[]⟩,.slice none 0 0,.int .i64 0,.int .u8 0,.slice none 0 0,.int .i64 0]⟩,⟨b2,0,[.int .i64 0,.int .i64 0,.bool false,.string ⟨#[]⟩,.string ⟨#[]⟩,.slice none 0 0,.int .i64 0,.int .u8 0,.slice none 0 0,.slice none 0 0,.bool false,.string ⟨#[]⟩,.string ⟨#[]⟩,.slice none 0 0,.int .i64 0,.int .u8 0,.slice none 0 0,.int .i64 0]⟩]) (by kernel_rfl) ?_
 refine Ao (Bi 0 (k:=0) rfl rfl rfl rfl rfl rfl Tz45 rfl) ?_; rintro _ _ ⟨rfl,rfl⟩; refine Ab (L2:=[_,_]) rfl ?_
 refine Ab (L2:=[⟨b3,0,[.int .i64 0,.int .i64 0,.bool false,.string ⟨#[]⟩,.string ⟨#[]⟩,.slice none 0 0,.int .i64 0,.int .u8 0,.slice none 0 0,.slice none 0 0,.bool false,.string ⟨#[]⟩,.string ⟨#[]⟩,.slice none 0 0,.int .i64 0,.int .u8 0,.slice none 0 0,.int .i64 0]⟩,⟨b2,0,[.int .i64 0,.int .i64 0,.bool false,.string ⟨#[]⟩,.string ⟨#[]⟩,.slice none 0 0,.int .i64 0,.int .u8 0,.slice none 0 0,.slice none 0 0,.bool false,.string ⟨#[]⟩,.string ⟨#[]⟩,.slice none 0 0,.int .i64 0,.int .u8 0,.slice none 0 0,.int .i64 0]⟩]) rfl<|Ek3 0 2 3 rfl<|Cr<|Ea rfl rfl<|Ek4 0 2 3 4 rfl<|Ax<|Bx (fun mm ee ll => ∃ (at_ : Nat),∃ (opened : Bool),∃ (hd : Hd),∃ (xa : Option Addr),∃ (xn : Nat),∃ (xc : Nat),∃ (da : Option Addr),∃ (dc : Nat),∃ (ma : Option Addr),∃ (mc : Nat),∃ (ms : List PM),∃ (mcs : List Value),∃ (data : List UInt8),∃ (Ld : Frags),∃ (Lm : Frags),∃ (G : Frags),keeps ee [0,2,3,4] = some [(0,.slice ba dt.length bc),(2,.pointer (some ⟨b2,0,none⟩)),(3,.pointer (some ⟨b3,0,none⟩)),(4,.int .i64 ((at_ : Nat) : Int))] ∧ ll = [⟨b3,0,[.int .i64 0,.int .i64 0,.bool opened,.string hd.name,.string hd.comment,.slice xa xn xc,.int .i64 ((hd.mod : Nat) : Int),.int .u8 ((hd.os : Nat) : Int),.slice da data.length dc,.slice ma ms.length mc,.bool false,.string ⟨#[]⟩,.string ⟨#[]⟩,.slice none 0 0,.int .i64 0,.int .u8 0,.slice none 0 0,.int .i64 0]⟩,⟨b2,0,[.int .i64 0,.int .i64 0,.bool false,.string ⟨#[]⟩,.string ⟨#[]⟩,.slice none 0 0,.int .i64 0,.int .u8 0,.slice none 0 0,.slice none 0 0,.bool false,.string ⟨#[]⟩,.string ⟨#[]⟩,.slice none 0 0,.int .i64 0,.int .u8 0,.slice none 0 0,.int .i64 0]⟩] ++ (Ld ++ (Lm ++ G)) ∧ (Chain dt ms (dt.drop at_)) ∧ (at_ ≤ dt.length) ∧ ((at_ = 0 ∧ opened = false ∧ ms = []) ∨ (0 < at_ ∧ opened = true ∧ ∃ m r,ms = m::r ∧ hd = m.hd)) ∧ (RdV (.slice xa xn xc) (hd.extra.getD []) G) ∧ (Sl 1 (.slice da data.length dc) data.length (bytesV data) Ld) ∧ (data = allD ms) ∧ (data.length ≤ 157286400 * at_) ∧ (Sl 7 (.slice ma ms.length mc) ms.length mcs Lm) ∧ (MemsV dt.length ms mcs G) ∧ (ms.length ≤ at_) ∧ mm = dt.length - at_) (_) ⟨0,false,noHd,none,0,0,none,0,none,0,[],[],[],[],[],[],rfl,rfl,rfl,by omega,.inl ⟨rfl,rfl,rfl⟩,RdV.nil,Sl.nil 1,rfl,by simp,Sl.nil 7,rfl,by simp,rfl⟩ ?_
 rintro m0 _ _ ⟨at_,opened,hd,xa,xn,xc,da,dc,ma,mc,ms,mcs,data,Ld,Lm,G,hk0,rfl,hch,hat,hop,hex,hsd,hda,hdl,hsm,hmv,hml,hm0⟩
 refine Ba _ hk0<|Ax<|Ap<|Cr<|Em rfl rfl<|Aa (Bk rfl Tu25) rfl<|Aa (Dx (b:=((0 : Nat) : Int)) rfl rfl) rfl<|Ek5 0 2 3 4 13 rfl<|Be rfl (fun h13 => ?_) (fun h13 => ?_)
 ·refine Cr<|Aa (Ae rfl fa45_0) rfl ?_
  refine Ao (Aq 0 (k:=0) rfl rfl rfl rfl rfl Tz3) ?_; rintro _ _ ⟨rfl,rfl⟩; refine Ab (L2:=(_::_::_)) rfl ?_
  refine Aa (Ae rfl fa45_1) rfl ?_
  refine Ao (Aq 0 (k:=1) rfl rfl rfl rfl rfl Tz3) ?_; rintro _ _ ⟨rfl,rfl⟩; refine Ab (L2:=(_::_::_)) rfl ?_
  refine Ek5 0 2 3 4 13 rfl<|Cr<|Ah (Bn 0 (k:=0) rfl rfl rfl rfl Ta45 Tz45) rfl ?_
  refine Ao (Bi 1 (k:=0) rfl rfl rfl rfl rfl rfl Tz45 rfl) ?_; rintro _ _ ⟨rfl,rfl⟩; refine Ab (L2:=(_::_::_)) rfl ?_
  refine Ek5 0 2 3 4 13 rfl<|Av ?_
  have h00 : dt = [] := List.eq_nil_of_length_eq_zero (by omega)
  have hl0 : (dt.drop at_) = [] := by rw [h00]; exact List.drop_nil
  have hop1 := hop.resolve_right (fun h => by omega)
  obtain ⟨ma2,mc2,hme,hmr⟩ := Gx hsm
  obtain ⟨rfl,rfl⟩ : ma2 = ma ∧ mc2 = mc := by injection hme with h1 h2 h3; exact ⟨h1.symm,h3.symm⟩
  refine ⟨_,⟨_,_,1,rfl,rfl,rfl⟩,1,1,opened,false,hd,noHd,ms,[],(dt.drop at_),data,_,_,_,_,_,_,_,_,_,_,_,_,rfl,hex.mono ?_,(sl_rd hsd).mono ?_,(RdV.nil).mono (fun f hf => by cases hf),(RdV.nil).mono (fun f hf => by cases hf),⟨mcs,hmv.mono ?_,hmr.imp (fun h => List.eq_nil_of_length_eq_zero h) (fun ⟨mb,mo,e,hr⟩ => ⟨mb,mo,e,fun K L2 hL => hr K L2 fun f hf => hL f (by simp [hf])⟩)⟩,hsd.cap,Nat.zero_le _,?_,hch,?_,?_,?_,?_⟩
  · intro f hf; first | (simp [hf]; done) | (rcases List.mem_cons.1 hf with h | h; (subst h; simp); (first | (simp [h]; done) | (cases h)))
  · intro f hf; first | (simp [hf]; done) | (rcases List.mem_cons.1 hf with h | h; (subst h; simp); (first | (simp [h]; done) | (cases h)))
  · intro f hf; first | (simp [hf]; done) | (rcases List.mem_cons.1 hf with h | h; (subst h; simp); (first | (simp [h]; done) | (cases h)))
  · rw [hda,List.append_nil]
  · exact .inl ⟨rfl,rfl,hl0,.inr ⟨rfl,rfl⟩⟩
  · exact .inl ⟨hop1.2.1,hop1.2.2,rfl,by decide⟩
  · exact fun _ => h00
  · intro _; exact hop1.2.1
 have hlt : 0 < dt.length := by omega
 obtain ⟨pb,po,rfl,hKB⟩ := hD.resolve_left (fun h => by rw [h] at hlt; simp at hlt)
 refine Ar<|Ap<|Cr<|Em rfl rfl<|Em rfl rfl<|Aa (Bk rfl Tu25) rfl<|Aa (Dx rfl rfl) rfl<|Ek6 0 2 3 4 13 20 rfl<|Be rfl (fun h20 => ?_) (fun h20 => ?_)
 ·refine Cr<|Ah (Bn 0 (k:=0) rfl rfl rfl rfl Ta45 Tz45) rfl ?_
  refine Ao (Bi 1 (k:=0) rfl rfl rfl rfl rfl rfl Tz45 rfl) ?_; rintro _ _ ⟨rfl,rfl⟩; refine Ab (L2:=(_::_::_)) rfl ?_
  refine Ek6 0 2 3 4 13 20 rfl<|Av ?_
  have hl0 : (dt.drop at_) = [] := List.drop_eq_nil_of_le (by omega)
  have hop1 := hop.resolve_left (fun h => by omega)
  obtain ⟨ma2,mc2,hme,hmr⟩ := Gx hsm
  obtain ⟨rfl,rfl⟩ : ma2 = ma ∧ mc2 = mc := by injection hme with h1 h2 h3; exact ⟨h1.symm,h3.symm⟩
  refine ⟨_,⟨_,_,1,rfl,rfl,rfl⟩,0,0,opened,false,hd,noHd,ms,[],(dt.drop at_),data,_,_,_,_,_,_,_,_,_,_,_,_,rfl,hex.mono ?_,(sl_rd hsd).mono ?_,(RdV.nil).mono (fun f hf => by cases hf),(RdV.nil).mono (fun f hf => by cases hf),⟨mcs,hmv.mono ?_,hmr.imp (fun h => List.eq_nil_of_length_eq_zero h) (fun ⟨mb,mo,e,hr⟩ => ⟨mb,mo,e,fun K L2 hL => hr K L2 fun f hf => hL f (by simp [hf])⟩)⟩,hsd.cap,Nat.zero_le _,?_,hch,?_,?_,?_,?_⟩
  · intro f hf; first | (simp [hf]; done) | (rcases List.mem_cons.1 hf with h | h; (subst h; simp); (first | (simp [h]; done) | (cases h)))
  · intro f hf; first | (simp [hf]; done) | (rcases List.mem_cons.1 hf with h | h; (subst h; simp); (first | (simp [h]; done) | (cases h)))
  · intro f hf; first | (simp [hf]; done) | (rcases List.mem_cons.1 hf with h | h; (subst h; simp); (first | (simp [h]; done) | (cases h)))
  · rw [hda,List.append_nil]
  · exact .inl ⟨rfl,rfl,hl0,.inl ⟨rfl,rfl⟩⟩
  · exact .inr ⟨hop1.2.1,.inl hop1.2.2⟩
  · intro h; omega
  · intro h0; first | rfl | (exfalso; rw [h0] at hlt; simp at hlt) | (rw [h0] at hat; simp at hat; rcases hop with h | h; exact h.2.1; omega)
 have hlne : (dt.drop at_) ≠ [] := fun h => by have := congrArg List.length h; rw [List.length_drop] at this; simp at this; omega
 refine Ar<|Cr<|Em rfl rfl<|Em rfl rfl<|Aa (S.slL rfl rfl (by omega) Tu25 Tz5) rfl<|Am (v:=.slice (some ⟨pb,part po (at_) bc 1,none⟩) ((dt.drop at_).length) (bc - (at_))) (Bo rfl (by rw [List.length_drop]) rfl) ?_
 refine Ak (OpX.pick [] (F:=(_::_::_)) rfl (Au rfl Tryz.call29 (start_spec3 pb (part po at_ bc 1) (bc - at_) (dt.drop at_) (kb_drop hKB hcap at_) (by rw [List.length_drop]; omega) (by rw [List.length_drop]; omega)))) rfl ?_; rintro _ _ ⟨_,⟨ya,yn,yc,g,hyx,rfl,rfl⟩,rfl⟩; refine Ab (L2:=(_::_::_::_)) rfl ?_
 refine Em rfl rfl<|Aa (Bb rfl rfl) rfl<|Aa (Bb rfl rfl) rfl<|Aa (Bb rfl rfl) rfl<|Aa (Bb rfl rfl) rfl ?_
 refine Ak (Dy Tryz.zeroValue32) rfl ?_; rintro _ _ ⟨b5,rfl,rfl⟩; refine Ab (L2:=(_::_::_::_::_)) rfl ?_
 refine Ab (L2:=⟨b5,0,[.string ⟨#[]⟩,.string ⟨#[]⟩,.slice none 0 0,.int .i64 0,.int .u8 0]⟩::g::⟨b3,0,[.int .i64 0,.int .i64 0,.bool opened,.string hd.name,.string hd.comment,.slice xa xn xc,.int .i64 ((hd.mod : Nat) : Int),.int .u8 ((hd.os : Nat) : Int),.slice da data.length dc,.slice ma ms.length mc,.bool false,.string ⟨#[]⟩,.string ⟨#[]⟩,.slice none 0 0,.int .i64 0,.int .u8 0,.slice none 0 0,.int .i64 0]⟩::⟨b2,0,[.int .i64 0,.int .i64 0,.bool false,.string ⟨#[]⟩,.string ⟨#[]⟩,.slice none 0 0,.int .i64 0,.int .u8 0,.slice none 0 0,.slice none 0 0,.bool false,.string ⟨#[]⟩,.string ⟨#[]⟩,.slice none 0 0,.int .i64 0,.int .u8 0,.slice none 0 0,.int .i64 0]⟩::(Ld ++ (Lm ++ G))) (by kernel_rfl) ?_
 refine Ao (Bi 0 (k:=0) rfl rfl rfl rfl rfl rfl Tz32 rfl) ?_; rintro _ _ ⟨rfl,rfl⟩; refine Ab (L2:=(_::_::_::_::_)) rfl ?_
 refine Ea rfl rfl<|Ea rfl rfl<|Ea rfl rfl<|Ek10 0 2 3 4 5 6 7 8 13 20 rfl<|Ap<|Cr<|Em rfl rfl<|Aa (Fq (b:=((0 : Nat) : Int)) rfl rfl) rfl<|Ek11 0 2 3 4 5 6 7 8 13 20 32 rfl<|Be rfl (fun h32 => ?_) (fun h32 => ?_)
 ·refine Cr<|Em rfl rfl<|Em rfl rfl<|Aa (Ae rfl fa45_0) rfl ?_
  refine Ao (Aq 2 (k:=0) rfl rfl rfl rfl rfl Tz3) ?_; rintro _ _ ⟨rfl,rfl⟩; refine Ab (L2:=(_::_::_::_::_)) rfl ?_
  refine Aa (Ae rfl fa45_1) rfl ?_
  refine Ao (Aq 2 (k:=1) rfl rfl rfl rfl rfl Tz3) ?_; rintro _ _ ⟨rfl,rfl⟩; refine Ab (L2:=(_::_::_::_::_)) rfl ?_
  refine Ek11 0 2 3 4 5 6 7 8 13 20 32 rfl<|Cr<|Ah (Bn 2 (k:=0) rfl rfl rfl rfl Ta45 Tz45) rfl ?_
  refine Ao (Bi 3 (k:=0) rfl rfl rfl rfl rfl rfl Tz45 rfl) ?_; rintro _ _ ⟨rfl,rfl⟩; refine Ab (L2:=(_::_::_::_::_)) rfl ?_
  refine Ek11 0 2 3 4 5 6 7 8 13 20 32 rfl<|Av ?_
  obtain ⟨ma2,mc2,hme,hmr⟩ := Gx hsm
  obtain ⟨rfl,rfl⟩ : ma2 = ma ∧ mc2 = mc := by injection hme with h1 h2 h3; exact ⟨h1.symm,h3.symm⟩
  refine ⟨_,⟨_,_,3,rfl,rfl,rfl⟩,(As (dt.drop at_)).2.2.1,(As (dt.drop at_)).2.2.2,opened,false,hd,noHd,ms,[],(dt.drop at_),data,_,_,_,_,_,_,_,_,_,_,_,_,rfl,hex.mono ?_,(sl_rd hsd).mono ?_,(RdV.nil).mono (fun f hf => by cases hf),(RdV.nil).mono (fun f hf => by cases hf),⟨mcs,hmv.mono ?_,hmr.imp (fun h => List.eq_nil_of_length_eq_zero h) (fun ⟨mb,mo,e,hr⟩ => ⟨mb,mo,e,fun K L2 hL => hr K L2 fun f hf => hL f (by simp [hf])⟩)⟩,hsd.cap,Nat.zero_le _,?_,hch,?_,?_,?_,?_⟩
  · intro f hf; first | (simp [hf]; done) | (rcases List.mem_cons.1 hf with h | h; (subst h; simp); (first | (simp [h]; done) | (cases h)))
  · intro f hf; first | (simp [hf]; done) | (rcases List.mem_cons.1 hf with h | h; (subst h; simp); (first | (simp [h]; done) | (cases h)))
  · intro f hf; first | (simp [hf]; done) | (rcases List.mem_cons.1 hf with h | h; (subst h; simp); (first | (simp [h]; done) | (cases h)))
  · rw [hda,List.append_nil]
  · exact end_head hlne (by omega) _
  · exact hop.imp (fun h => ⟨h.2.1,h.2.2,rfl,by omega⟩) (fun h => ⟨h.2.1,.inl h.2.2⟩)
  · intro h; have := sp_why (dt.drop at_); omega
  · intro h0; first | rfl | (exfalso; rw [h0] at hlt; simp at hlt) | (rw [h0] at hat; simp at hat; rcases hop with h | h; exact h.2.1; omega)
 have hhd := sp_good (l:=(dt.drop at_)) (by omega)
 have hn1 := hhd.2.2.1
 rw [List.length_drop] at hn1
 refine Ar<|Eg (M:=fun ee ll => ∃ (hd2 : Hd),∃ (x3 : Option Addr),∃ (xn3 : Nat),∃ (xc3 : Nat),keeps ee [0,2,3,4,5,6] = some [(0,.slice (some ⟨pb,po,none⟩) dt.length bc),(2,.pointer (some ⟨b2,0,none⟩)),(3,.pointer (some ⟨b3,0,none⟩)),(4,.int .i64 ((at_ : Nat) : Int)),(5,.pointer (some ⟨b5,0,none⟩)),(6,.int .i64 (((As (dt.drop at_)).2.1 : Nat) : Int))] ∧ ll = [⟨b5,0,[.string (As (dt.drop at_)).1.name,.string (As (dt.drop at_)).1.comment,.slice ya yn yc,.int .i64 (((As (dt.drop at_)).1.mod : Nat) : Int),.int .u8 (((As (dt.drop at_)).1.os : Nat) : Int)]⟩,g,⟨b3,0,[.int .i64 0,.int .i64 0,.bool true,.string hd2.name,.string hd2.comment,.slice x3 xn3 xc3,.int .i64 ((hd2.mod : Nat) : Int),.int .u8 ((hd2.os : Nat) : Int),.slice da data.length dc,.slice ma ms.length mc,.bool false,.string ⟨#[]⟩,.string ⟨#[]⟩,.slice none 0 0,.int .i64 0,.int .u8 0,.slice none 0 0,.int .i64 0]⟩,⟨b2,0,[.int .i64 0,.int .i64 0,.bool false,.string ⟨#[]⟩,.string ⟨#[]⟩,.slice none 0 0,.int .i64 0,.int .u8 0,.slice none 0 0,.slice none 0 0,.bool false,.string ⟨#[]⟩,.string ⟨#[]⟩,.slice none 0 0,.int .i64 0,.int .u8 0,.slice none 0 0,.int .i64 0]⟩] ++ (Ld ++ (Lm ++ G)) ∧ (RdV (.slice x3 xn3 xc3) (hd2.extra.getD []) (g::G)) ∧ (FirstH ms true (As (dt.drop at_)).1 hd2)) ?_ ?_
 ·refine Cr<|Em rfl rfl<|Aa (Dx (b:=((0 : Nat) : Int)) rfl rfl) rfl<|Ek12 0 2 3 4 5 6 7 8 13 20 32 39 rfl<|Be rfl (fun h39 => ?_) (fun h39 => ?_)
  ·refine Br [0,0,2,7,15] (.pure 1 1 (.alt 0 (.alt 2 (.pure 3 7 (.alt 4 .done .stop)) .stop) (.alt 2 (.seg [(0,6),(3,7)] (.alt 4 .done .stop)) .stop))) mixed (by decide +kernel)<|Ai rfl (Ae rfl fa45_2) rfl<|Hr ?_ ⟨?_,trivial⟩
   ·refine Fc rfl (Bn 0 (k:=0) rfl rfl rfl rfl Ta32 Tz32) rfl<|Da ?_
    refine Bz rfl (Aq 2 (k:=2) rfl rfl rfl rfl rfl Tz4) ?_; rintro _ _ ⟨rfl,rfl⟩; refine Bf (L2:=(_::_::_::_::_)) rfl ?_
    refine Ai rfl (Ae rfl fa45_3) rfl<|Da ?_
    refine Bz rfl (Bi 2 (k:=3) rfl rfl rfl rfl rfl rfl Tz32 rfl) ?_; rintro _ _ ⟨rfl,rfl⟩; refine Bf (L2:=(_::_::_::_::_)) rfl ?_
    refine Dk12 0 2 3 4 5 6 7 8 13 20 32 39 rfl ?_
    exact ⟨(As (dt.drop at_)).1,ya,yn,yc,rfl,rfl,hyx.mono (fun f hf => by simp at hf; simp [hf]),.inr ⟨(hop.resolve_right (fun h => by omega)).2.2,rfl,rfl⟩⟩
   refine Bz rfl (Aq 2 (k:=2) rfl rfl rfl rfl rfl Tz4) ?_; rintro _ _ ⟨rfl,rfl⟩; refine Bf (L2:=(_::_::_::_::_)) rfl ?_
   refine Dc (by decide)<|Az rfl (Bn 0 (k:=0) rfl rfl rfl rfl Ta32 Tz32) rfl<|Bg rfl (Ae rfl fa45_3) rfl<|Db<|Da ?_
   refine Bz rfl (Bi 2 (k:=3) rfl rfl rfl rfl rfl rfl Tz32 rfl) ?_; rintro _ _ ⟨rfl,rfl⟩; refine Bf (L2:=(_::_::_::_::_)) rfl ?_
   refine Dk12 0 2 3 4 5 6 7 8 13 20 32 39 rfl ?_
   exact ⟨(As (dt.drop at_)).1,ya,yn,yc,rfl,rfl,hyx.mono (fun f hf => by simp at hf; simp [hf]),.inr ⟨(hop.resolve_right (fun h => by omega)).2.2,rfl,rfl⟩⟩
  refine Ar ?_
  exact ⟨hd,xa,xn,xc,rfl,(by rw [(hop.resolve_left (fun h => by omega)).2.1]; rfl),hex.mono (fun f hf => .tail _ hf),.inl (hop.resolve_left (fun h => by omega)).2.2⟩
 rintro _ _ ⟨hd2,x3,xn3,xc3,hq14,rfl,hx3,hfirst⟩
 refine Ba _ hq14<|Cr<|Em rfl rfl<|Em rfl rfl<|Aa (Bh rfl rfl (N.add64 (by omega))) rfl<|Ea rfl rfl<|Ek6 0 2 3 4 5 6 rfl<|Cr<|Em rfl rfl<|Em rfl rfl<|Aa (S.slL rfl rfl (by omega) Tu25 Tz5) rfl ?_
 refine Am (v:=.slice (some ⟨pb,part po (at_ + (As (dt.drop at_)).2.1) bc 1,none⟩) (((dt.drop at_).drop (As (dt.drop at_)).2.1).length) (bc - (at_ + (As (dt.drop at_)).2.1))) (Bo rfl (by rw [List.length_drop,List.length_drop]; omega) rfl) ?_
 refine Ak (OpX.pick [] (F:=[_,_,_,_] ++ (Ld ++ (Lm ++ G))) rfl (Au rfl Tryz.call30 (inflate_spec (some ⟨pb,part po (at_ + (As (dt.drop at_)).2.1) bc 1,none⟩) (bc - (at_ + (As (dt.drop at_)).2.1)) ((dt.drop at_).drop (As (dt.drop at_)).2.1) (.inr ⟨_,_,rfl,by rw [List.drop_drop]; exact kb_drop hKB hcap (at_ + (As (dt.drop at_)).2.1)⟩) (by rw [List.length_drop,List.length_drop]; omega) (by rw [List.length_drop,List.length_drop]; omega) hS))) rfl ?_
 rintro _ _ ⟨Lo,⟨oa,oc,out,nn,what,rfl,hso,hlo,hnn,hI⟩,rfl⟩
 obtain ⟨_,hor⟩ := (sl_rd hso).same
 rw [List.length_drop,List.length_drop] at hlo hnn
 refine Eb (Same.perm app_mid)<|Ab (L2:=_::_::_::_::(Lo ++ (Ld ++ (Lm ++ G)))) rfl<|Em rfl rfl<|Aa (Bb rfl rfl) rfl<|Aa (Bb rfl rfl) rfl<|Aa (Bb rfl rfl) rfl<|Ea rfl rfl<|Ea rfl rfl<|Ea rfl rfl<|Ek8 0 2 3 4 5 6 7 9 rfl<|Cr<|Aa (Ae rfl fa45_4) rfl ?_
 refine Ah (An 2 (k:=8) rfl rfl rfl Ta25) rfl<|Em rfl rfl<|Ab (L2:=[_,_,_,_] ++ (Lo ++ (Ld ++ (Lm ++ G)))) rfl<|Eb (Same.perm app_deep)<|Ak (Gv (L:=[_,_,_,_] ++ (Lo ++ (Lm ++ G))) (xs:=data) (ys:=out) (Lf:=Ld) rfl rfl hsd rfl (hor K _ (fun f hf => by simp [hf])) (by omega)) rfl ?_
 rintro v2 _ ⟨Ld2,hsd2,rfl⟩
 refine Eb (L2:=[_,_,_,_] ++ (Ld2 ++ (Lo ++ (Lm ++ G)))) (Same.perm app_mid)<|Ab (L2:=_::_::_::_::(Ld2 ++ (Lo ++ (Lm ++ G)))) rfl ?_
 obtain ⟨da2,dc2,rfl⟩ := hsd2.form
 refine Aa (Ae rfl fa45_4) rfl ?_
 refine Ao (Aq 2 (k:=8) rfl rfl rfl rfl rfl Tz25) ?_; rintro _ _ ⟨rfl,rfl⟩; refine Ab (L2:=(_::_::_::_::_)) rfl ?_
 refine Ek8 0 2 3 4 5 6 7 9 rfl<|Eg (M:=fun ee ll => keeps ee [0,2,3,4,5,6,7,9] = some [(0,.slice (some ⟨pb,po,none⟩) dt.length bc),(2,.pointer (some ⟨b2,0,none⟩)),(3,.pointer (some ⟨b3,0,none⟩)),(4,.int .i64 ((at_ + (As (dt.drop at_)).2.1 : Nat) : Int)),(5,.pointer (some ⟨b5,0,none⟩)),(6,.int .i64 ((nn : Nat) : Int)),(7,.int .i64 ((what : Nat) : Int)),(9,.slice oa out.length oc)] ∧ ll = [⟨b5,0,[.string (As (dt.drop at_)).1.name,.string (As (dt.drop at_)).1.comment,.slice ya yn yc,.int .i64 (((As (dt.drop at_)).1.mod : Nat) : Int),.int .u8 (((As (dt.drop at_)).1.os : Nat) : Int)]⟩,g,⟨b3,0,[.int .i64 0,.int .i64 0,.bool true,.string hd2.name,.string hd2.comment,.slice x3 xn3 xc3,.int .i64 ((hd2.mod : Nat) : Int),.int .u8 ((hd2.os : Nat) : Int),.slice da2 (data ++ out).length dc2,.slice ma ms.length mc,.bool true,.string (As (dt.drop at_)).1.name,.string (As (dt.drop at_)).1.comment,.slice ya yn yc,.int .i64 (((As (dt.drop at_)).1.mod : Nat) : Int),.int .u8 (((As (dt.drop at_)).1.os : Nat) : Int),.slice oa out.length oc,.int .i64 0]⟩,⟨b2,0,[.int .i64 0,.int .i64 0,.bool false,.string ⟨#[]⟩,.string ⟨#[]⟩,.slice none 0 0,.int .i64 0,.int .u8 0,.slice none 0 0,.slice none 0 0,.bool false,.string ⟨#[]⟩,.string ⟨#[]⟩,.slice none 0 0,.int .i64 0,.int .u8 0,.slice none 0 0,.int .i64 0]⟩] ++ (Ld2 ++ (Lo ++ (Lm ++ G)))) ?_ ?_
 ·refine Br [0,0,3,0,8,31,63] (.pure 1 25 (.pure 3 7 (.alt 0 (.pure 2 27 (.alt 4 (.pure 5 31 (.alt 6 .done .stop)) .stop)) (.alt 4 (.seg [(0,26),(2,27),(5,31)] (.alt 6 .done .stop)) .stop)))) mixed (by decide +kernel)<|Dm rfl rfl rfl<|Ai rfl (Ae rfl fa45_6) rfl<|Hr ?_ ⟨?_,trivial⟩
  ·refine Fc rfl (Bn 0 (k:=0) rfl rfl rfl rfl Ta32 Tz32) rfl<|Ai rfl (Eu (v:=.agg #[.string (As (dt.drop at_)).1.name,.string (As (dt.drop at_)).1.comment,.slice ya yn yc,.int .i64 (((As (dt.drop at_)).1.mod : Nat) : Int),.int .u8 (((As (dt.drop at_)).1.os : Nat) : Int),.slice oa out.length oc,.int .i64 0]) [(0,.agg #[.string (As (dt.drop at_)).1.name,.string (As (dt.drop at_)).1.comment,.slice ya yn yc,.int .i64 (((As (dt.drop at_)).1.mod : Nat) : Int),.int .u8 (((As (dt.drop at_)).1.os : Nat) : Int)]),(1,.slice oa out.length oc),(2,.int .i64 0)] rfl (fun w => by simp [Instr.build,Instr.fill,Value.cells,Tryz.zeroValue43])) rfl<|Da ?_
   refine Bz rfl (Aq 2 (k:=10) rfl rfl rfl rfl rfl Tz4) ?_; rintro _ _ ⟨rfl,rfl⟩; refine Bf (L2:=(_::_::_::_::_)) rfl ?_
   refine Ai rfl (Ae rfl fa45_7) rfl<|Da ?_
   refine Bz rfl (Bi 2 (k:=11) rfl rfl rfl rfl rfl rfl Tz43 rfl) ?_; rintro _ _ ⟨rfl,rfl⟩; refine Bf (L2:=(_::_::_::_::_)) rfl ?_
   refine Dk8 0 2 3 4 5 6 7 9 rfl ?_
   exact ⟨rfl,rfl⟩
  refine Bz rfl (Aq 2 (k:=10) rfl rfl rfl rfl rfl Tz4) ?_; rintro _ _ ⟨rfl,rfl⟩; refine Bf (L2:=(_::_::_::_::_)) rfl ?_
  refine Dc (by decide)<|Az rfl (Bn 0 (k:=0) rfl rfl rfl rfl Ta32 Tz32) rfl<|Bg rfl (Eu (v:=.agg #[.string (As (dt.drop at_)).1.name,.string (As (dt.drop at_)).1.comment,.slice ya yn yc,.int .i64 (((As (dt.drop at_)).1.mod : Nat) : Int),.int .u8 (((As (dt.drop at_)).1.os : Nat) : Int),.slice oa out.length oc,.int .i64 0]) [(0,.agg #[.string (As (dt.drop at_)).1.name,.string (As (dt.drop at_)).1.comment,.slice ya yn yc,.int .i64 (((As (dt.drop at_)).1.mod : Nat) : Int),.int .u8 (((As (dt.drop at_)).1.os : Nat) : Int)]),(1,.slice oa out.length oc),(2,.int .i64 0)] rfl (fun w => by simp [Instr.build,Instr.fill,Value.cells,Tryz.zeroValue43])) rfl<|Bg rfl (Ae rfl fa45_7) rfl<|Db<|Da ?_
  refine Bz rfl (Bi 2 (k:=11) rfl rfl rfl rfl rfl rfl Tz43 rfl) ?_; rintro _ _ ⟨rfl,rfl⟩; refine Bf (L2:=(_::_::_::_::_)) rfl ?_
  refine Dk8 0 2 3 4 5 6 7 9 rfl ?_
  exact ⟨rfl,rfl⟩
 rintro _ _ ⟨hq18,rfl⟩
 refine Ba _ hq18<|Ap<|Cr<|Em rfl rfl<|Aa (Fq (b:=((0 : Nat) : Int)) rfl rfl) rfl<|Ek9 0 2 3 4 5 6 7 9 65 rfl<|Be rfl (fun h65 => ?_) (fun h65 => ?_)
 ·refine Cr<|Em rfl rfl<|Aa (Ae rfl fa45_0) rfl ?_
  refine Ao (Aq 2 (k:=0) rfl rfl rfl rfl rfl Tz3) ?_; rintro _ _ ⟨rfl,rfl⟩; refine Ab (L2:=(_::_::_::_::_)) rfl ?_
  refine Ek9 0 2 3 4 5 6 7 9 65 rfl<|Cr<|Ah (Bn 2 (k:=0) rfl rfl rfl rfl Ta45 Tz45) rfl ?_
  refine Ao (Bi 3 (k:=0) rfl rfl rfl rfl rfl rfl Tz45 rfl) ?_; rintro _ _ ⟨rfl,rfl⟩; refine Ab (L2:=(_::_::_::_::_)) rfl ?_
  refine Ek9 0 2 3 4 5 6 7 9 65 rfl<|Av ?_
  rcases hI with ⟨rfl,_⟩ | ⟨rfl,hb⟩ | rfl
  · exact absurd rfl h65
  ·obtain ⟨ma2,mc2,hme,hmr⟩ := Gx hsm
   obtain ⟨rfl,rfl⟩ : ma2 = ma ∧ mc2 = mc := by injection hme with h1 h2 h3; exact ⟨h1.symm,h3.symm⟩
   refine ⟨_,⟨_,_,3,rfl,rfl,rfl⟩,1,0,true,true,hd2,(As (dt.drop at_)).1,ms,out,(dt.drop at_),data ++ out,_,_,_,_,_,_,_,_,_,_,_,_,rfl,hx3.mono ?_,(sl_rd hsd2).mono ?_,(hyx.mono (fun f hf => by first | (simp [hf]; done) | (rcases List.mem_cons.1 hf with h | h; (subst h; simp); (first | (simp [h]; done) | (cases h))))),((sl_rd hso).mono (fun f hf => by simp [hf])),⟨mcs,hmv.mono ?_,hmr.imp (fun h => List.eq_nil_of_length_eq_zero h) (fun ⟨mb,mo,e,hr⟩ => ⟨mb,mo,e,fun K L2 hL => hr K L2 fun f hf => hL f (by simp [hf])⟩)⟩,hsd2.cap,hso.cap,?_,hch,?_,?_,?_,?_⟩
   · intro f hf; first | (simp [hf]; done) | (rcases List.mem_cons.1 hf with h | h; (subst h; simp); (first | (simp [h]; done) | (cases h)))
   · intro f hf; first | (simp [hf]; done) | (rcases List.mem_cons.1 hf with h | h; (subst h; simp); (first | (simp [h]; done) | (cases h)))
   · intro f hf; first | (simp [hf]; done) | (rcases List.mem_cons.1 hf with h | h; (subst h; simp); (first | (simp [h]; done) | (cases h)))
   · rw [hda]
   · exact .inr (.inr ⟨rfl,by decide,hhd.1,hhd.2.2.2.symm,fun _ => ⟨rfl,.inl ⟨rfl,by rw [hhd.2.1]; exact gz_bad hb⟩⟩⟩)
   · exact .inr ⟨rfl,hfirst⟩
   · intro h; omega
   · intro h0; first | rfl | (exfalso; rw [h0] at hlt; simp at hlt) | (rw [h0] at hat; simp at hat; rcases hop with h | h; exact h.2.1; omega)
  ·obtain ⟨ma2,mc2,hme,hmr⟩ := Gx hsm
   obtain ⟨rfl,rfl⟩ : ma2 = ma ∧ mc2 = mc := by injection hme with h1 h2 h3; exact ⟨h1.symm,h3.symm⟩
   refine ⟨_,⟨_,_,3,rfl,rfl,rfl⟩,2,0,true,true,hd2,(As (dt.drop at_)).1,ms,out,(dt.drop at_),data ++ out,_,_,_,_,_,_,_,_,_,_,_,_,rfl,hx3.mono ?_,(sl_rd hsd2).mono ?_,(hyx.mono (fun f hf => by first | (simp [hf]; done) | (rcases List.mem_cons.1 hf with h | h; (subst h; simp); (first | (simp [h]; done) | (cases h))))),((sl_rd hso).mono (fun f hf => by simp [hf])),⟨mcs,hmv.mono ?_,hmr.imp (fun h => List.eq_nil_of_length_eq_zero h) (fun ⟨mb,mo,e,hr⟩ => ⟨mb,mo,e,fun K L2 hL => hr K L2 fun f hf => hL f (by simp [hf])⟩)⟩,hsd2.cap,hso.cap,?_,hch,?_,?_,?_,?_⟩
   · intro f hf; first | (simp [hf]; done) | (rcases List.mem_cons.1 hf with h | h; (subst h; simp); (first | (simp [h]; done) | (cases h)))
   · intro f hf; first | (simp [hf]; done) | (rcases List.mem_cons.1 hf with h | h; (subst h; simp); (first | (simp [h]; done) | (cases h)))
   · intro f hf; first | (simp [hf]; done) | (rcases List.mem_cons.1 hf with h | h; (subst h; simp); (first | (simp [h]; done) | (cases h)))
   · rw [hda]
   · exact .inr (.inr ⟨rfl,by decide,hhd.1,hhd.2.2.2.symm,fun h => absurd rfl h⟩)
   · exact .inr ⟨rfl,hfirst⟩
   · intro h; omega
   · intro h0; first | rfl | (exfalso; rw [h0] at hlt; simp at hlt) | (rw [h0] at hat; simp at hat; rcases hop with h | h; exact h.2.1; omega)
 obtain ⟨rfl,hrun⟩ := hI.resolve_right (fun h => by rcases h with ⟨rfl,_⟩ | rfl <;> exact absurd h65 (by decide))
 refine Ar<|Cr<|Em rfl rfl<|Em rfl rfl<|Aa (Bh rfl rfl (N.add64 (by omega))) rfl<|Ea rfl rfl<|Ek9 0 2 3 4 5 6 7 9 65 rfl<|Ap<|Cr<|Em rfl rfl<|Aa (Bk rfl Tu25) rfl<|Em rfl rfl ?_
 refine Aa (Du rfl rfl (N.sub64 (by omega) (by omega))) rfl<|Aa (Dk (b:=((8 : Nat) : Int)) rfl rfl) rfl<|Ek10 0 2 3 4 5 6 7 9 65 76 rfl<|Be rfl (fun h76 => ?_) (fun h76 => ?_)
 ·refine Cr<|Aa (Ae rfl fa45_0) rfl ?_
  refine Ao (Aq 2 (k:=0) rfl rfl rfl rfl rfl Tz3) ?_; rintro _ _ ⟨rfl,rfl⟩; refine Ab (L2:=(_::_::_::_::_)) rfl ?_
  refine Ek10 0 2 3 4 5 6 7 9 65 76 rfl<|Cr<|Ah (Bn 2 (k:=0) rfl rfl rfl rfl Ta45 Tz45) rfl ?_
  refine Ao (Bi 3 (k:=0) rfl rfl rfl rfl rfl rfl Tz45 rfl) ?_; rintro _ _ ⟨rfl,rfl⟩; refine Ab (L2:=(_::_::_::_::_)) rfl ?_
  refine Ek10 0 2 3 4 5 6 7 9 65 76 rfl<|Av ?_
  have hgz := gz_short hrun (by rw [List.length_drop,List.length_drop,List.length_drop]; omega)
  obtain ⟨ma2,mc2,hme,hmr⟩ := Gx hsm
  obtain ⟨rfl,rfl⟩ : ma2 = ma ∧ mc2 = mc := by injection hme with h1 h2 h3; exact ⟨h1.symm,h3.symm⟩
  refine ⟨_,⟨_,_,3,rfl,rfl,rfl⟩,1,0,true,true,hd2,(As (dt.drop at_)).1,ms,out,(dt.drop at_),data ++ out,_,_,_,_,_,_,_,_,_,_,_,_,rfl,hx3.mono ?_,(sl_rd hsd2).mono ?_,(hyx.mono (fun f hf => by first | (simp [hf]; done) | (rcases List.mem_cons.1 hf with h | h; (subst h; simp); (first | (simp [h]; done) | (cases h))))),((sl_rd hso).mono (fun f hf => by simp [hf])),⟨mcs,hmv.mono ?_,hmr.imp (fun h => List.eq_nil_of_length_eq_zero h) (fun ⟨mb,mo,e,hr⟩ => ⟨mb,mo,e,fun K L2 hL => hr K L2 fun f hf => hL f (by simp [hf])⟩)⟩,hsd2.cap,hso.cap,?_,hch,?_,?_,?_,?_⟩
  · intro f hf; first | (simp [hf]; done) | (rcases List.mem_cons.1 hf with h | h; (subst h; simp); (first | (simp [h]; done) | (cases h)))
  · intro f hf; first | (simp [hf]; done) | (rcases List.mem_cons.1 hf with h | h; (subst h; simp); (first | (simp [h]; done) | (cases h)))
  · intro f hf; first | (simp [hf]; done) | (rcases List.mem_cons.1 hf with h | h; (subst h; simp); (first | (simp [h]; done) | (cases h)))
  · rw [hda]
  · exact .inr (.inr ⟨rfl,by decide,hhd.1,hhd.2.2.2.symm,fun _ => ⟨rfl,.inl ⟨rfl,by rw [hhd.2.1]; exact hgz.1,by rw [hhd.2.1,hgz.2]; exact List.prefix_refl _⟩⟩⟩)
  · exact .inr ⟨rfl,hfirst⟩
  · intro h; omega
  · intro h0; first | rfl | (exfalso; rw [h0] at hlt; simp at hlt) | (rw [h0] at hat; simp at hat; rcases hop with h | h; exact h.2.1; omega)
 have hdd : ((dt.drop at_).drop (As (dt.drop at_)).2.1).drop nn = (dt.drop (at_ + (As (dt.drop at_)).2.1 + nn)) := by rw [List.drop_drop,List.drop_drop,Nat.add_assoc]
 have hl8 : 8 ≤ (dt.drop (at_ + (As (dt.drop at_)).2.1 + nn)).length := by rw [List.length_drop]; omega
 have h8n : ¬ (((dt.drop at_).drop (As (dt.drop at_)).2.1).drop nn).length < 8 := by rw [hdd]; omega
 have hlt0 := le32_little (l:=(dt.drop (at_ + (As (dt.drop at_)).2.1 + nn))) (by omega)
 have hlt4 := le32_little (l:=dt.drop (at_ + (As (dt.drop at_)).2.1 + nn + 4)) (by rw [List.length_drop]; omega)
 have hck := Gr (by decide : IEEE < 4294967296) (by decide : 0 < 4294967296) out
 have hfits : fits out (((dt.drop at_).drop (As (dt.drop at_)).2.1).drop nn) ↔ (Fi ((dt.drop (at_ + (As (dt.drop at_)).2.1 + nn)).take 4) = crcOn IEEE 0 out ∧ Fi ((dt.drop (at_ + (As (dt.drop at_)).2.1 + nn + 4)).take 4) = out.length % 4294967296) := by
   rw [hdd,hlt0,hlt4,fits,le32at,le32at]
   simp only [List.getD_eq_getElem?_getD,List.getElem?_drop]
   try simp only [Nat.add_assoc,Nat.zero_add,Nat.reduceAdd]
 refine Ar<|Ap<|Cr<|Em rfl rfl<|Em rfl rfl<|Em rfl rfl<|Aa (Bh (b:=((4 : Nat) : Int)) rfl rfl (N.add64 (by omega))) rfl<|Aa (Ey rfl rfl rfl (by omega) (by omega) Tu25 Tz5) rfl ?_
 refine Am (v:=.slice (some ⟨pb,part po (at_ + (As (dt.drop at_)).2.1 + nn) bc 1,none⟩) (((dt.drop (at_ + (As (dt.drop at_)).2.1 + nn)).take 4).length) (bc - (at_ + (As (dt.drop at_)).2.1 + nn))) (Bo rfl (by rw [List.length_take,List.length_drop]; omega) rfl) ?_
 refine Ak (OpX.pick [] (F:=(_::_::_::_::_)) rfl (Au rfl Tryz.call31 (Ep pb (part po (at_ + (As (dt.drop at_)).2.1 + nn) bc 1) (bc - (at_ + (As (dt.drop at_)).2.1 + nn)) ((dt.drop (at_ + (As (dt.drop at_)).2.1 + nn)).take 4) (kb_part hKB hcap (at_ + (As (dt.drop at_)).2.1 + nn) 4) (by rw [List.length_take]; omega)))) rfl ?_; rintro _ _ ⟨_,⟨rfl,rfl⟩,rfl⟩; refine Ab (L2:=(_::_::_::_::_)) rfl ?_
 refine Em rfl rfl ?_
 refine Ak (Au rfl Tryz.call28 (check_fr oa oc out (hor K _ (fun f hf => by simp [hf])) (by omega))) rfl ?_; rintro _ _ ⟨rfl,rfl⟩; refine Ab (L2:=(_::_::_::_::_)) rfl ?_
 refine Aa (Bv rfl Tu69 Tu2 (N.i64n (by omega))) rfl<|Aa (Fq rfl rfl) rfl<|Em rfl rfl<|Ec (fun g89 => ?_) (fun g89 => ?_)
 ·have hnf : ¬ fits out (((dt.drop at_).drop (As (dt.drop at_)).2.1).drop nn) := fun h => by have := hfits.1 h; omega
  refine Ag 89 true rfl rfl rfl rfl<|Ag 89 true rfl rfl rfl rfl<|Ag 89 true rfl rfl rfl rfl<|Ag 89 true rfl rfl rfl rfl<|Ag 89 true rfl rfl rfl rfl<|Ag 89 true rfl rfl rfl rfl<|Ag 89 true rfl rfl rfl rfl<|Ag 89 true rfl rfl rfl rfl<|Ag 89 true rfl rfl rfl rfl<|Ag 89 true rfl rfl rfl rfl<|Ag 89 true rfl rfl rfl rfl<|Ag 89 true rfl rfl rfl rfl ?_
  refine Aa (By rfl rfl) rfl<|Ek11 0 2 3 4 5 6 7 9 65 76 102 rfl<|Ft rfl (rfl)<|Cr<|Aa (Ae rfl fa45_0) rfl ?_
  refine Ao (Aq 2 (k:=0) rfl rfl rfl rfl rfl Tz3) ?_; rintro _ _ ⟨rfl,rfl⟩; refine Ab (L2:=(_::_::_::_::_)) rfl ?_
  refine Aa (Ae rfl fa45_1) rfl ?_
  refine Ao (Aq 2 (k:=1) rfl rfl rfl rfl rfl Tz3) ?_; rintro _ _ ⟨rfl,rfl⟩; refine Ab (L2:=(_::_::_::_::_)) rfl ?_
  refine Ek11 0 2 3 4 5 6 7 9 65 76 102 rfl<|Cr<|Ah (Bn 2 (k:=0) rfl rfl rfl rfl Ta45 Tz45) rfl ?_
  refine Ao (Bi 3 (k:=0) rfl rfl rfl rfl rfl rfl Tz45 rfl) ?_; rintro _ _ ⟨rfl,rfl⟩; refine Ab (L2:=(_::_::_::_::_)) rfl ?_
  refine Ek11 0 2 3 4 5 6 7 9 65 76 102 rfl<|Av ?_
  have hgz := gz_sum hrun h8n hnf
  obtain ⟨ma2,mc2,hme,hmr⟩ := Gx hsm
  obtain ⟨rfl,rfl⟩ : ma2 = ma ∧ mc2 = mc := by injection hme with h1 h2 h3; exact ⟨h1.symm,h3.symm⟩
  refine ⟨_,⟨_,_,3,rfl,rfl,rfl⟩,1,3,true,true,hd2,(As (dt.drop at_)).1,ms,out,(dt.drop at_),data ++ out,_,_,_,_,_,_,_,_,_,_,_,_,rfl,hx3.mono ?_,(sl_rd hsd2).mono ?_,(hyx.mono (fun f hf => by first | (simp [hf]; done) | (rcases List.mem_cons.1 hf with h | h; (subst h; simp); (first | (simp [h]; done) | (cases h))))),((sl_rd hso).mono (fun f hf => by simp [hf])),⟨mcs,hmv.mono ?_,hmr.imp (fun h => List.eq_nil_of_length_eq_zero h) (fun ⟨mb,mo,e,hr⟩ => ⟨mb,mo,e,fun K L2 hL => hr K L2 fun f hf => hL f (by simp [hf])⟩)⟩,hsd2.cap,hso.cap,?_,hch,?_,?_,?_,?_⟩
  · intro f hf; first | (simp [hf]; done) | (rcases List.mem_cons.1 hf with h | h; (subst h; simp); (first | (simp [h]; done) | (cases h)))
  · intro f hf; first | (simp [hf]; done) | (rcases List.mem_cons.1 hf with h | h; (subst h; simp); (first | (simp [h]; done) | (cases h)))
  · intro f hf; first | (simp [hf]; done) | (rcases List.mem_cons.1 hf with h | h; (subst h; simp); (first | (simp [h]; done) | (cases h)))
  · rw [hda]
  · exact .inr (.inr ⟨rfl,by decide,hhd.1,hhd.2.2.2.symm,fun _ => ⟨rfl,.inr ⟨rfl,by rw [hhd.2.1]; exact hgz.1,by rw [hhd.2.1]; exact hgz.2⟩⟩⟩)
  · exact .inr ⟨rfl,hfirst⟩
  · intro h; omega
  · intro h0; first | rfl | (exfalso; rw [h0] at hlt; simp at hlt) | (rw [h0] at hat; simp at hat; rcases hop with h | h; exact h.2.1; omega)
 refine Aj 89 rfl rfl<|Em rfl rfl<|Aj 89 rfl rfl<|Em rfl rfl<|Aj 89 rfl rfl<|Aa (Bh (b:=((4 : Nat) : Int)) rfl rfl (N.add64 (by omega))) rfl<|Aj 89 rfl rfl<|Em rfl rfl<|Aj 89 rfl rfl<|Aa (Bh (b:=((8 : Nat) : Int)) rfl rfl (N.add64 (by omega))) rfl<|Aj 89 rfl rfl<|Aa (Ey rfl rfl rfl (by omega) (by omega) Tu25 Tz5) rfl ?_
 refine Am (v:=.slice (some ⟨pb,part po (at_ + (As (dt.drop at_)).2.1 + nn + 4) bc 1,none⟩) (((dt.drop (at_ + (As (dt.drop at_)).2.1 + nn + 4)).take 4).length) (bc - (at_ + (As (dt.drop at_)).2.1 + nn + 4))) (Bo rfl (by rw [List.length_take,List.length_drop]; omega) rfl) ?_
 refine Aj 89 rfl rfl ?_
 refine Ak (OpX.pick [] (F:=(_::_::_::_::_)) rfl (Au rfl Tryz.call31 (Ep pb (part po (at_ + (As (dt.drop at_)).2.1 + nn + 4) bc 1) (bc - (at_ + (As (dt.drop at_)).2.1 + nn + 4)) ((dt.drop (at_ + (As (dt.drop at_)).2.1 + nn + 4)).take 4) (kb_part hKB hcap (at_ + (As (dt.drop at_)).2.1 + nn + 4) 4) (by rw [List.length_take]; omega)))) rfl ?_; rintro _ _ ⟨_,⟨rfl,rfl⟩,rfl⟩; refine Ab (L2:=(_::_::_::_::_)) rfl ?_
 refine Aj 89 rfl rfl<|Em rfl rfl<|Aj 89 rfl rfl<|Aa (Bk rfl Tu25) rfl<|Aj 89 rfl rfl<|Aa (Bv rfl Tu3 Tu69 (N.in_u32 (by omega))) rfl<|Aj 89 rfl rfl<|Aa (Bv rfl Tu69 Tu2 (N.i64n (by omega))) rfl<|Aj 89 rfl rfl<|Aa (Fq rfl rfl) rfl<|Aa (Bs rfl rfl) rfl<|Ek11 0 2 3 4 5 6 7 9 65 76 102 rfl ?_
 refine Be rfl (fun h102 => ?_) (fun h102 => ?_)
 ·have hnf : ¬ fits out (((dt.drop at_).drop (As (dt.drop at_)).2.1).drop nn) := fun h => by have := hfits.1 h; omega
  refine Cr<|Aa (Ae rfl fa45_0) rfl ?_
  refine Ao (Aq 2 (k:=0) rfl rfl rfl rfl rfl Tz3) ?_; rintro _ _ ⟨rfl,rfl⟩; refine Ab (L2:=(_::_::_::_::_)) rfl ?_
  refine Aa (Ae rfl fa45_1) rfl ?_
  refine Ao (Aq 2 (k:=1) rfl rfl rfl rfl rfl Tz3) ?_; rintro _ _ ⟨rfl,rfl⟩; refine Ab (L2:=(_::_::_::_::_)) rfl ?_
  refine Ek11 0 2 3 4 5 6 7 9 65 76 102 rfl<|Cr<|Ah (Bn 2 (k:=0) rfl rfl rfl rfl Ta45 Tz45) rfl ?_
  refine Ao (Bi 3 (k:=0) rfl rfl rfl rfl rfl rfl Tz45 rfl) ?_; rintro _ _ ⟨rfl,rfl⟩; refine Ab (L2:=(_::_::_::_::_)) rfl ?_
  refine Ek11 0 2 3 4 5 6 7 9 65 76 102 rfl<|Av ?_
  have hgz := gz_sum hrun h8n hnf
  obtain ⟨ma2,mc2,hme,hmr⟩ := Gx hsm
  obtain ⟨rfl,rfl⟩ : ma2 = ma ∧ mc2 = mc := by injection hme with h1 h2 h3; exact ⟨h1.symm,h3.symm⟩
  refine ⟨_,⟨_,_,3,rfl,rfl,rfl⟩,1,3,true,true,hd2,(As (dt.drop at_)).1,ms,out,(dt.drop at_),data ++ out,_,_,_,_,_,_,_,_,_,_,_,_,rfl,hx3.mono ?_,(sl_rd hsd2).mono ?_,(hyx.mono (fun f hf => by first | (simp [hf]; done) | (rcases List.mem_cons.1 hf with h | h; (subst h; simp); (first | (simp [h]; done) | (cases h))))),((sl_rd hso).mono (fun f hf => by simp [hf])),⟨mcs,hmv.mono ?_,hmr.imp (fun h => List.eq_nil_of_length_eq_zero h) (fun ⟨mb,mo,e,hr⟩ => ⟨mb,mo,e,fun K L2 hL => hr K L2 fun f hf => hL f (by simp [hf])⟩)⟩,hsd2.cap,hso.cap,?_,hch,?_,?_,?_,?_⟩
  · intro f hf; first | (simp [hf]; done) | (rcases List.mem_cons.1 hf with h | h; (subst h; simp); (first | (simp [h]; done) | (cases h)))
  · intro f hf; first | (simp [hf]; done) | (rcases List.mem_cons.1 hf with h | h; (subst h; simp); (first | (simp [h]; done) | (cases h)))
  · intro f hf; first | (simp [hf]; done) | (rcases List.mem_cons.1 hf with h | h; (subst h; simp); (first | (simp [h]; done) | (cases h)))
  · rw [hda]
  · exact .inr (.inr ⟨rfl,by decide,hhd.1,hhd.2.2.2.symm,fun _ => ⟨rfl,.inr ⟨rfl,by rw [hhd.2.1]; exact hgz.1,by rw [hhd.2.1]; exact hgz.2⟩⟩⟩)
  · exact .inr ⟨rfl,hfirst⟩
  · intro h; omega
  · intro h0; first | rfl | (exfalso; rw [h0] at hlt; simp at hlt) | (rw [h0] at hat; simp at hat; rcases hop with h | h; exact h.2.1; omega)
 have hfi : fits out (((dt.drop at_).drop (As (dt.drop at_)).2.1).drop nn) := hfits.2 ⟨by omega,by omega⟩
 have hmr := mem_of_run hhd.1 (by rw [hhd.2.1]; exact hrun) (by rw [hhd.2.1]; exact h8n) (by rw [hhd.2.1]; exact hfi)
 have hch3 := hch.snoc hmr
 have hch4 : Chain dt (ms ++ [⟨(As (dt.drop at_)).1,out,dt.length - (at_ + (As (dt.drop at_)).2.1 + nn + 8)⟩]) (dt.drop (at_ + (As (dt.drop at_)).2.1 + nn + 8)) := by
   rw [hhd.2.2.2,hhd.2.1,hdd,List.drop_drop,List.length_drop] at hch3
   exact hch3
 have hmv4 : MemsV dt.length (ms ++ [⟨(As (dt.drop at_)).1,out,dt.length - (at_ + (As (dt.drop at_)).2.1 + nn + 8)⟩]) (mcs ++ [.string (As (dt.drop at_)).1.name,.string (As (dt.drop at_)).1.comment,.slice ya yn yc,.int .i64 (((As (dt.drop at_)).1.mod : Nat) : Int),.int .u8 (((As (dt.drop at_)).1.os : Nat) : Int),.slice oa out.length oc,.int .i64 ((at_ + (As (dt.drop at_)).2.1 + nn + 8 : Nat) : Int)]) (g::(Lo ++ G)) := (hmv.mono (fun f hf => by simp [hf])).snoc ⟨ya,yn,yc,oa,oc,by simp only; rw [show dt.length - (dt.length - (at_ + (As (dt.drop at_)).2.1 + nn + 8)) = at_ + (As (dt.drop at_)).2.1 + nn + 8 by omega],hyx.mono (fun f hf => by simp at hf; simp [hf]),(sl_rd hso).mono (fun f hf => by simp [hf])⟩
 have hfst : ∃ m r,ms ++ [⟨(As (dt.drop at_)).1,out,dt.length - (at_ + (As (dt.drop at_)).2.1 + nn + 8)⟩] = m::r ∧ hd2 = m.hd := by
   rcases hfirst with ⟨m,r,h1,h2⟩ | ⟨h1,_,h2⟩
   · exact ⟨m,_,by rw [h1]; rfl,h2⟩
   · exact ⟨_,[],by rw [h1]; rfl,h2⟩
 refine Ar<|Cr<|Em rfl rfl<|Aa (Bh (b:=((8 : Nat) : Int)) rfl rfl (N.add64 (by omega))) rfl<|Ea rfl rfl<|Ek11 0 2 3 4 5 6 7 9 65 76 102 rfl<|Cr<|Aa (Ae rfl fa45_5) rfl<|Ah (An 2 (k:=9) rfl rfl rfl Tryz.isAgg41) rfl<|Ah (Bn 0 (k:=0) rfl rfl rfl rfl Ta32 Tz32) rfl<|Em rfl rfl<|Em rfl rfl ?_
 refine Aa (Eu (v:=.agg #[.string (As (dt.drop at_)).1.name,.string (As (dt.drop at_)).1.comment,.slice ya yn yc,.int .i64 (((As (dt.drop at_)).1.mod : Nat) : Int),.int .u8 (((As (dt.drop at_)).1.os : Nat) : Int),.slice oa out.length oc,.int .i64 ((at_ + (As (dt.drop at_)).2.1 + nn + 8 : Nat) : Int)]) [(0,.agg #[.string (As (dt.drop at_)).1.name,.string (As (dt.drop at_)).1.comment,.slice ya yn yc,.int .i64 (((As (dt.drop at_)).1.mod : Nat) : Int),.int .u8 (((As (dt.drop at_)).1.os : Nat) : Int)]),(1,.slice oa out.length oc),(2,.int .i64 ((at_ + (As (dt.drop at_)).2.1 + nn + 8 : Nat) : Int))] rfl (fun w => by simp [Instr.build,Instr.fill,Value.cells,Tryz.zeroValue43])) rfl<|Ak (Dd (vs:=[.string (As (dt.drop at_)).1.name,.string (As (dt.drop at_)).1.comment,.slice ya yn yc,.int .i64 (((As (dt.drop at_)).1.mod : Nat) : Int),.int .u8 (((As (dt.drop at_)).1.os : Nat) : Int),.slice oa out.length oc,.int .i64 ((at_ + (As (dt.drop at_)).2.1 + nn + 8 : Nat) : Int)]) (e:=43) [(0,.agg #[.string (As (dt.drop at_)).1.name,.string (As (dt.drop at_)).1.comment,.slice ya yn yc,.int .i64 (((As (dt.drop at_)).1.mod : Nat) : Int),.int .u8 (((As (dt.drop at_)).1.os : Nat) : Int),.slice oa out.length oc,.int .i64 ((at_ + (As (dt.drop at_)).2.1 + nn + 8 : Nat) : Int)])] rfl (memRun _ _ _ _ _ _ _ _ _ _ _)) rfl ?_
 rintro _ _ ⟨yb,rfl,rfl⟩
 refine Ab (L2:=[⟨yb,0,_⟩,_,_,_,_] ++ (Ld2 ++ (Lo ++ (Lm ++ G)))) rfl<|Eb (L2:=Lm ++ ([⟨yb,0,_⟩,_,_,_,_] ++ (Ld2 ++ (Lo ++ G)))) (Same.perm app_lm)<|Ak (X.append (P:=Tryz.prog) (s:=7) (bytes:=104) (t:=41) (xs:=mcs) (ys:=[.string (As (dt.drop at_)).1.name,.string (As (dt.drop at_)).1.comment,.slice ya yn yc,.int .i64 (((As (dt.drop at_)).1.mod : Nat) : Int),.int .u8 (((As (dt.drop at_)).1.os : Nat) : Int),.slice oa out.length oc,.int .i64 ((at_ + (As (dt.drop at_)).2.1 + nn + 8 : Nat) : Int)]) (Lf:=Lm) Tu41 infoM rfl rfl rfl rfl (by decide) rfl rfl hsm rfl (.inr ⟨yb,0,rfl,Reads.mem (k:=0) (List.mem_append_right _ (.head _)) rfl⟩) rfl (by omega) (by omega)) rfl ?_
 rintro v4 _ ⟨Lm3,hsm3,rfl⟩
 refine Fw (A:=[_,_,_,_] ++ (Ld2 ++ (Lm3 ++ (Lo ++ G)))) (F:=[_]) (Same.perm app_lm2) ?_
 obtain ⟨ma3,mc3,rfl⟩ := hsm3.form
 refine Aa (Ae rfl fa45_5) rfl ?_
 refine Ao (Aq 2 (k:=9) rfl rfl rfl rfl rfl Tryz.sizeOf41) ?_; rintro _ _ ⟨rfl,rfl⟩; refine Ab (L2:=(_::_::_::_::_)) rfl ?_
 refine Ek11 0 2 3 4 5 6 7 9 65 76 102 rfl<|Al<|Aa (Eu (v:=.agg #[.string ⟨#[]⟩,.string ⟨#[]⟩,.slice none 0 0,.int .i64 0,.int .u8 0,.slice none 0 0,.int .i64 0]) [] rfl (fun w => by simp [Instr.build,Instr.fill,Value.cells,Tryz.zeroValue43])) rfl<|Aa (Ae rfl fa45_6) rfl ?_
 refine Ao (Aq 2 (k:=10) rfl rfl rfl rfl rfl Tz4) ?_; rintro _ _ ⟨rfl,rfl⟩; refine Ab (L2:=(_::_::_::_::_)) rfl ?_
 refine Aa (Ae rfl fa45_7) rfl ?_
 refine Ao (Bi 2 (k:=11) rfl rfl rfl rfl rfl rfl Tz43 rfl) ?_; rintro _ _ ⟨rfl,rfl⟩; refine Ab (L2:=(_::_::_::_::_)) rfl ?_
 refine Fw (A:=[_,_] ++ (Ld2 ++ (Lm3 ++ (g::(Lo ++ G))))) (F:=[_]) (Same.perm app_back)<|Ab (L2:=_::_::(Ld2 ++ (Lm3 ++ (g::(Lo ++ G))))) rfl<|Ek11 0 2 3 4 5 6 7 9 65 76 102 rfl ?_
 refine ⟨_,?_,at_ + (As (dt.drop at_)).2.1 + nn + 8,true,hd2,x3,xn3,xc3,da2,dc2,ma3,mc3,ms ++ [⟨(As (dt.drop at_)).1,out,dt.length - (at_ + (As (dt.drop at_)).2.1 + nn + 8)⟩],mcs ++ [.string (As (dt.drop at_)).1.name,.string (As (dt.drop at_)).1.comment,.slice ya yn yc,.int .i64 (((As (dt.drop at_)).1.mod : Nat) : Int),.int .u8 (((As (dt.drop at_)).1.os : Nat) : Int),.slice oa out.length oc,.int .i64 ((at_ + (As (dt.drop at_)).2.1 + nn + 8 : Nat) : Int)],data ++ out,Ld2,Lm3,g::(Lo ++ G),rfl,(by rw [@List.length_append _ ms]; rfl),hch4,by omega,.inr ⟨by omega,rfl,hfst⟩,hx3.mono (fun f hf => by rcases List.mem_cons.1 hf with h | h; exact h ▸ .head _; exact .tail _ (List.mem_append_right _ h)),hsd2,(by rw [allD_snoc,hda]),(by rw [List.length_append]; omega),(by rw [List.length_append]; exact hsm3),hmv4,(by rw [List.length_append,List.length_singleton]; omega),rfl⟩; omega
def Gc (kind why : Nat) : Prop := (why = 1 → kind = 1) ∧ (why = 2 → kind = 2) ∧ (why = 3 → kind = 3) ∧ (why ≠ 1 → why ≠ 2 → why ≠ 3 → kind ≠ 0 ∧ kind ≠ 1)
theorem slH_any (a : Option Addr) (l c hi : Nat) (h2 : hi ≤ c) : ∃ a3,(∀ b o,a = some ⟨b,o,none⟩ → a3 = a) ∧ ∀ {n : Nat} {env : Env} {ty : TypeId} {x z : Operand} {k' : IntKind},ev? env x = some (.slice a l c) → ev? env z = some (.int k' (hi : Int)) → OpP Tryz.prog n (.slice 25 x none (some z) none) ty env (.slice a3 hi c) := by
  refine ⟨if c = 0 then a else a.map (·.add (0 * 1)),?_,?_⟩
  · rintro b o rfl
    split
    · rfl
    · simp [Addr.add]
  · intro n env ty x z k' hx hz ac w hf
    simp only [exop,execOp,hf.eval hx,Option.map_some,Option.map_none,hf.eval hz]
    have he : Tryz.prog.elem 25 = 5 := by simp [Program.elem,Tu25]
    have ht' : Tryz.prog.underlying 25 = some (.slice (Tryz.prog.elem 25)) := by rw [he]; exact Tu25
    rw [show (do pure (Next.value (← Instr.sliceAt 25 (.slice a l c) none (some (.int k' (hi : Int))) none)) : Sem Next).run Tryz.prog w = _ from by
      rw [Sem.run_bind,run_sliceAt_slice (P:=Tryz.prog) w 25 _ _ _ _ ht',run_slice_h (P:=Tryz.prog) w 25 a l c ht' k' hi (by omega) (by omega)]]
    simp [he,Tz5,sliced]
theorem RB.pre {K : Known} {L : Frags} {a a3 : Option Addr} {l1 l2 : List UInt8} (h : RB K L a l1) (ha : ∀ b o,a = some ⟨b,o,none⟩ → a3 = a) (hp : l2 <+: l1) : RB K L a3 l2 := by
  rcases h with h | ⟨b,o,e,h⟩
  · subst h; exact .inl (List.prefix_nil.1 hp)
  · refine .inr ⟨b,o,by rw [ha b o e,e],?_⟩
    have := h.take l2.length
    rwa [← bytesV_take,← List.prefix_iff_eq_take.1 hp] at this
theorem fault_spec {K : Known} (kind why : Nat) : Fn Tryz.prog K 15 #[.int .i64 ((kind : Nat) : Int),.int .i64 ((why : Nat) : Int)] ([]) (fun r L => (∃ ok,r = .bool ok ∧ (ok = true ↔ Gc kind why)) ∧ L = []) := by
 refine Fn.intro (args:=[.int .i64 ((kind : Nat) : Int),.int .i64 ((why : Nat) : Int)]) (RR:=Ret1 4 _) Tryz.func15 rfl rfl Tryz.ntmps15 (res1 Tryz.results15) ?_
 refine Bl (env2:=[(0,.int .i64 ((kind : Nat) : Int)),(1,.int .i64 ((why : Nat) : Int))]) rfl<|Cr<|Ea rfl rfl<|Ek3 0 1 4 rfl<|Ap<|Cr<|Em rfl rfl<|Ek3 0 4 5 rfl<|Ax<|Cr<|Aa (Dx (b:=((1 : Nat) : Int)) rfl rfl) rfl<|Ea rfl rfl ?_
 refine Ek4 0 4 5 6 rfl<|Be rfl (fun h6 => ?_) (fun h6 => ?_)
 ·refine Cr<|Em rfl rfl<|Aa (Dx (b:=((1 : Nat) : Int)) rfl rfl) rfl<|Ea rfl rfl<|Ek4 0 4 5 6 rfl<|Av ?_
  refine ⟨_,rfl,⟨_,rfl,?_⟩,rfl⟩
  unfold Gc
  constructor
  · intro h
    have := of_decide_eq_true h; omega
  · intro h
    exact decide_eq_true (by omega)
 refine Cr<|Aa (Dx (b:=((2 : Nat) : Int)) rfl rfl) rfl<|Ea rfl rfl<|Ek5 0 4 5 6 10 rfl<|Be rfl (fun h10 => ?_) (fun h10 => ?_)
 ·refine Cr<|Em rfl rfl<|Aa (Dx (b:=((2 : Nat) : Int)) rfl rfl) rfl<|Ea rfl rfl<|Ek5 0 4 5 6 10 rfl<|Av ?_
  refine ⟨_,rfl,⟨_,rfl,?_⟩,rfl⟩
  unfold Gc
  constructor
  · intro h
    have := of_decide_eq_true h; omega
  · intro h
    exact decide_eq_true (by omega)
 refine Cr<|Aa (Dx (b:=((3 : Nat) : Int)) rfl rfl) rfl<|Ea rfl rfl<|Ek6 0 4 5 6 10 14 rfl<|Be rfl (fun h14 => ?_) (fun h14 => ?_)
 ·refine Cr<|Em rfl rfl<|Aa (Dx (b:=((3 : Nat) : Int)) rfl rfl) rfl<|Ea rfl rfl<|Ek6 0 4 5 6 10 14 rfl<|Av ?_
  refine ⟨_,rfl,⟨_,rfl,?_⟩,rfl⟩
  unfold Gc
  constructor
  · intro h
    have := of_decide_eq_true h; omega
  · intro h
    exact decide_eq_true (by omega)
 refine Ar<|Cr<|Em rfl rfl<|Aa (Fq (b:=((0 : Nat) : Int)) rfl rfl) rfl<|Em rfl rfl<|Ec (fun g20 => ?_) (fun g20 => ?_)
 ·refine Aj 20 rfl rfl<|Em rfl rfl<|Aj 20 rfl rfl<|Aa (Fq (b:=((1 : Nat) : Int)) rfl rfl) rfl<|Aa (By rfl rfl) rfl<|Ea rfl rfl<|Ek6 0 4 5 6 10 14 rfl<|Av ?_
  refine ⟨_,rfl,⟨_,rfl,?_⟩,rfl⟩
  unfold Gc
  constructor
  · intro h
    have := of_decide_eq_true h; omega
  · intro h
    exact decide_eq_true (by omega)
 refine Ag 20 false rfl rfl rfl rfl<|Ag 20 false rfl rfl rfl rfl<|Aa (Bs rfl rfl) rfl<|Ea rfl rfl<|Ek6 0 4 5 6 10 14 rfl<|Av ?_
 refine ⟨_,rfl,⟨_,rfl,?_⟩,rfl⟩
 unfold Gc
 constructor
 · intro h
   exfalso; cases h; done
 · intro h
   exfalso; omega
theorem hasPrefix_walk {K : Known} (a1 a2 : Option Addr) (c1 c2 : Nat) (l1 l2 : List UInt8) (h1 : RB K [] a1 l1) (h2 : RB K [] a2 l2) (hc : l1.length ≤ c1) (hp : l2 <+: l1) : Fn Tryz.prog K 16 #[.slice a1 l1.length c1,.slice a2 l2.length c2] ([]) (fun v _ => v = .bool true) := by
 refine Fn.intro (args:=[.slice a1 l1.length c1,.slice a2 l2.length c2]) (RR:=Ret1 4 _) Tryz.func16 rfl rfl Tryz.ntmps16 (res1 Tryz.results16) ?_
 refine Bl (env2:=[(0,.slice a1 l1.length c1),(1,.slice a2 l2.length c2)]) rfl<|Cr<|Ea rfl rfl<|Ek3 0 1 4 rfl<|Cr ?_
 have hle := hp.length_le
 obtain ⟨a3,ha3,hop3⟩ := slH_any a1 l1.length c1 l2.length (by omega)
 refine Em rfl rfl<|Aa (Bk rfl Tu25) rfl<|Em rfl rfl<|Aa (Bk rfl Tu25) rfl<|Aa (S.ge rfl rfl) rfl<|Am (v:=.bool true) (congrArg Value.bool (decide_eq_true (by omega)))<|Em rfl rfl<|Aj 10 rfl rfl<|Em rfl rfl<|Aj 10 rfl rfl<|Em rfl rfl<|Aj 10 rfl rfl ?_
 refine Aa (Bk rfl Tu25) rfl<|Aj 10 rfl rfl<|Aa (hop3 rfl rfl) rfl<|Aj 10 rfl rfl<|Em rfl rfl<|Aj 10 rfl rfl ?_
 refine Ak (Au rfl Tryz.call13 (bytesEqual_spec a3 a2 c1 c2 l2 l2 (h1.pre ha3 hp) h2)) rfl ?_; rintro _ _ ⟨rfl,rfl⟩; refine Ab (L2:=[]) rfl ?_
 refine Am (v:=.bool true) (congrArg Value.bool (decide_eq_true rfl))<|Aa (By rfl rfl) rfl<|Ea rfl rfl<|Ek1 4 rfl<|Av ?_
 exact ⟨_,rfl,rfl⟩
theorem hasPrefix_spec {K : Known} {L : Frags} (a1 a2 : Option Addr) (c1 c2 : Nat) (l1 l2 : List UInt8) (h1 : RB K L a1 l1) (h2 : RB K L a2 l2) (hc : l1.length ≤ c1) (hp : l2 <+: l1) :
    Fn Tryz.prog K 16 #[.slice a1 l1.length c1,.slice a2 l2.length c2] L (fun v L' => v = .bool true ∧ L' = L) :=
  Fn.stillR fun w hw => hasPrefix_walk a1 a2 c1 c2 l1 l2 (h1.still hw) (h2.still hw) hc hp
theorem BA.db {K : Known} {a : Option Addr} {c : Nat} {l : List UInt8} (h : BA K (.slice a l.length c) l) : DB K a l ∧ l.length ≤ c := by
  rcases h with ⟨e,rfl⟩ | ⟨a2,c2,e,rfl⟩ | ⟨pb,po,cap,e,hc,hk⟩
  · exact ⟨.inl rfl,Nat.zero_le _⟩
  · exact ⟨.inl rfl,Nat.zero_le _⟩
  · injection e with e1 e2 e3
    exact ⟨.inr ⟨pb,po,e1,hk⟩,by omega⟩
theorem kind_ne {e : Er} (h : e ≠ .none) : kindOf e ≠ 0 := by
  cases e with
  | none => exact absurd rfl h
  | se k => unfold kindOf; simp only; split; · simp
            split; · simp
            split <;> simp
  | corrupt off => simp [kindOf]
  | internal s => simp [kindOf]
theorem fault5 : Gc 5 0 := by unfold Gc; omega
theorem fault3 : Gc 3 3 := by unfold Gc; omega
set_option maxHeartbeats 1000000
def MemL : List UInt8 → List (UnpR × Nat) → Prop
  | _,[] => False
  | l,(u,n)::r =>
    ((Ac l).1 ≠ .none ∧ u = (kindOf (Ac l).1,noHd,[],0) ∧ r = []) ∨
    ((Ac l).1 = .none ∧ u = (0,(Ac l).2.2,(gzR false (Ac l).2.1).1,(gzR false (Ac l).2.1).2.1) ∧
      (((gzR false (Ac l).2.1).2.1 ≠ 1 ∧ r = []) ∨ ((gzR false (Ac l).2.1).2.1 = 1 ∧ n = (gzR false (Ac l).2.1).2.2.length ∧ MemL (gzR false (Ac l).2.1).2.2 r)))
theorem memL_bad {l : List UInt8} {n : Nat} (h : (Ac l).1 ≠ .none) : MemL l [((kindOf (Ac l).1,noHd,[],0),n)] := by unfold MemL; exact .inl ⟨h,rfl,rfl⟩
theorem memL_last {l : List UInt8} {n : Nat} (h : (Ac l).1 = .none) (hk : (gzR false (Ac l).2.1).2.1 ≠ 1) : MemL l [((0,(Ac l).2.2,(gzR false (Ac l).2.1).1,(gzR false (Ac l).2.1).2.1),n)] := by
  unfold MemL; exact .inr ⟨h,rfl,.inl ⟨hk,rfl⟩⟩
theorem memL_next {l : List UInt8} {r : List (UnpR × Nat)} (h : (Ac l).1 = .none) (hk : (gzR false (Ac l).2.1).2.1 = 1) (hr : MemL (gzR false (Ac l).2.1).2.2 r) :
    MemL l (((0,(Ac l).2.2,(gzR false (Ac l).2.1).1,(gzR false (Ac l).2.1).2.1),(gzR false (Ac l).2.1).2.2.length)::r) := by
  rw [MemL]; exact .inr ⟨h,rfl,.inr ⟨hk,rfl,hr⟩⟩
def mu (m : PM) : UnpR × Nat := ((0,m.hd,m.data,1),m.left)
theorem memL_chain : ∀ {ms : List PM} {l l2 : List UInt8} {us : List (UnpR × Nat)},Chain l ms l2 → MemL l us → ∃ us2,us = ms.map mu ++ us2 ∧ MemL l2 us2
  | [],l,l2,us,h,hm => by
    have e : l = l2 := h
    subst e
    exact ⟨us,rfl,hm⟩
  | m::r,l,l2,[],_,hm => hm.elim
  | m::r,l,l2,(u,n)::us,⟨rest,⟨h1,h2,h3⟩,h4,h5⟩,hm => by
    rcases hm with ⟨hb,_⟩ | ⟨_,hu,⟨hb,_⟩ | ⟨_,hn,hm⟩⟩
    · exact absurd h1 hb
    · rw [h3] at hb; exact absurd rfl hb
    · rw [h3] at hu hn hm
      obtain ⟨us2,e,h6⟩ := memL_chain h5 hm
      refine ⟨us2,?_,h6⟩
      rw [e,hu,hn,List.map_cons,mu,h2,h4]
      rfl
theorem gz_rest_lt {D : List UInt8} (h : (gzR false D).2.1 = 1) : (gzR false D).2.2.length + 8 ≤ D.length := by
  rcases gzR_cases D with ⟨q,a1,a2,a3,a4⟩ | ⟨a1,_⟩
  · rw [a4 false,gzT_one a1 a2 a3 rfl]
    simp only [List.length_drop] at a2 ⊢
    omega
  · rcases a1 with a1 | a1 <;> rw [h] at a1 <;> cases a1
theorem memL_end {l : List UInt8} {us : List (UnpR × Nat)} {what why : Nat} {behind : Bool} {h2 : Hd} {d2 : List UInt8} (hm : MemL l us) (he : EndP l what why behind h2 d2) (hw : what ≠ 2) :
    ∃ u n,us = [(u,n)] ∧ (what = 0 → u.1 = 1) ∧ (behind = false → Gc u.1 why ∨ (why = 0 ∧ u.1 = 1)) ∧ (behind = true → what ≠ 0 ∧ u.1 = 0 ∧ u.2.1 = h2 ∧ Gc u.2.2.2 why ∧ u.2.2.1 <+: d2) := by
  match us,hm with
  | (u,n)::r,hm =>
    rcases he with ⟨rfl,rfl,rfl,h⟩ | ⟨rfl,rfl,hl,h0,h⟩ | ⟨rfl,h0,a1,a2,h⟩
    · have hk : (Ac []).1 ≠ .none := by decide
      rcases hm with ⟨_,rfl,rfl⟩ | ⟨hb,_⟩
      · have h1 : kindOf (Ac []).1 = 1 := by decide
        have h3 : Gc 1 why ∨ (why = 0 ∧ (1 : Nat) = 1) := by unfold Gc; omega
        exact ⟨_,_,rfl,fun _ => h1,fun _ => (congrArg (fun k => Gc k why ∨ (why = 0 ∧ k = 1)) h1).mpr h3,fun h => by cases h⟩
      · exact absurd hb hk
    · obtain ⟨_,b1,b2,b3⟩ := h hw
      rcases hm with ⟨_,rfl,rfl⟩ | ⟨hb,_⟩
      · refine ⟨_,_,rfl,fun h => absurd h h0,fun _ => ?_,fun h => by cases h⟩
        have hk := kind_ne b2
        rcases b1 with rfl | rfl
        · by_cases hk1 : kindOf (Ac l).1 = 1
          · exact .inr ⟨rfl,hk1⟩
          · left; unfold Gc; simp only; omega
        · left
          have : kindOf (Ac l).1 = 2 := by rw [b3 rfl]; rfl
          unfold Gc; simp only; omega
      · exact absurd hb b2
    · obtain ⟨_,b⟩ := h hw
      rcases hm with ⟨hb,_⟩ | ⟨_,rfl,hr⟩
      · exact absurd a1 hb
      · have hne : (gzR false (Ac l).2.1).2.1 ≠ 1 := by
          rcases b with ⟨_,c1,_⟩ | ⟨_,c1,_⟩ <;> omega
        obtain rfl : r = [] := by
          rcases hr with ⟨_,h⟩ | ⟨h,_⟩
          · exact h
          · exact absurd h hne
        refine ⟨_,_,rfl,fun h => absurd h h0,fun h => (by cases h),fun _ => ⟨h0,rfl,a2.symm,?_⟩⟩
        rcases b with ⟨rfl,c1,c2⟩ | ⟨rfl,c1,c2⟩
        · exact ⟨by rw [c1]; exact fault5,c2⟩
        · exact ⟨by rw [c1]; exact fault3,by rw [c2]; exact List.prefix_refl _⟩
def UnV (u : UnpR) (cs : List Value) (G : Frags) : Prop := ∃ xa xc oa oc,cs = [.int .i64 ((u.1 : Nat) : Int),.string u.2.1.name,.string u.2.1.comment,.slice xa (u.2.1.extra.getD []).length xc,.int .i64 ((u.2.1.mod : Nat) : Int),.int .u8 ((u.2.1.os : Nat) : Int),.slice oa u.2.2.1.length oc,.int .i64 ((u.2.2.2 : Nat) : Int)] ∧
  RdV (.slice xa (u.2.1.extra.getD []).length xc) (u.2.1.extra.getD []) G ∧ RdV (.slice oa u.2.2.1.length oc) u.2.2.1 G
def UnsV : List (UnpR × Nat) → List Value → Frags → Prop
  | [],cs,_ => cs = []
  | u::r,cs,G => ∃ c1 c2,cs = c1 ++ c2 ∧ UnV u.1 c1 G ∧ UnsV r c2 G
theorem UnV.mono {u : UnpR} {cs : List Value} {G G2 : Frags} (h : UnV u cs G) (hs : ∀ f ∈ G,f ∈ G2) : UnV u cs G2 := by
  obtain ⟨xa,xc,oa,oc,h1,h2,h3⟩ := h
  exact ⟨xa,xc,oa,oc,h1,h2.mono hs,h3.mono hs⟩
theorem UnsV.mono : ∀ {us : List (UnpR × Nat)} {cs : List Value} {G G2 : Frags},UnsV us cs G → (∀ f ∈ G,f ∈ G2) → UnsV us cs G2
  | [],cs,G,G2,h,_ => h
  | m::r,cs,G,G2,⟨c1,c2,h1,h2,h3⟩,hs => ⟨c1,c2,h1,h2.mono hs,h3.mono hs⟩
theorem UnsV.snoc : ∀ {us : List (UnpR × Nat)} {cs c : List Value} {G : Frags} {u : UnpR × Nat},UnsV us cs G → UnV u.1 c G → UnsV (us ++ [u]) (cs ++ c) G
  | [],cs,c,G,m,h,h2 => by
    have e : cs = [] := h
    subst e
    exact ⟨c,[],by simp,h2,rfl⟩
  | a::r,cs,c,G,m,⟨c1,c2,h1,h2,h3⟩,h4 => ⟨c1,c2 ++ c,by rw [h1,List.append_assoc],h2,UnsV.snoc h3 h4⟩
theorem UnV.len {u : UnpR} {cs : List Value} {G : Frags} (h : UnV u cs G) : cs.length = 8 := by
  obtain ⟨_,_,_,_,rfl,_⟩ := h; rfl
theorem UnsV.get : ∀ {us : List (UnpR × Nat)} {cs : List Value} {G : Frags} {i : Nat} {u : UnpR × Nat},UnsV us cs G → us[i]? = some u → ∃ c,UnV u.1 c G ∧ (cs.drop (i * 8)).take 8 = c
  | [],cs,G,i,u,_,hi => by simp at hi
  | a::r,cs,G,0,u,⟨c1,c2,h1,h2,h3⟩,hi => by
    simp only [List.getElem?_cons_zero,Option.some.injEq] at hi
    subst hi
    refine ⟨c1,h2,?_⟩
    rw [h1,Nat.zero_mul,List.drop_zero,List.take_left' h2.len]
  | a::r,cs,G,i + 1,u,⟨c1,c2,h1,h2,h3⟩,hi => by
    rw [List.getElem?_cons_succ] at hi
    obtain ⟨c,h4,h5⟩ := UnsV.get h3 hi
    refine ⟨c,h4,?_⟩
    rw [h1,Nat.add_mul,Nat.one_mul,Nat.add_comm (i * 8) 8,← List.drop_drop,List.drop_left' h2.len,h5]
theorem MemV.len {n : Nat} {m : PM} {cs : List Value} {G : Frags} (h : MemV n m cs G) : cs.length = 7 := by
  obtain ⟨_,_,_,_,_,rfl,_⟩ := h; rfl
theorem MemsV.get {n : Nat} : ∀ {ms : List PM} {cs : List Value} {G : Frags} {i : Nat} {m : PM},MemsV n ms cs G → ms[i]? = some m → ∃ c,MemV n m c G ∧ (cs.drop (i * 7)).take 7 = c
  | [],cs,G,i,u,_,hi => by simp at hi
  | a::r,cs,G,0,u,⟨c1,c2,h1,h2,h3⟩,hi => by
    simp only [List.getElem?_cons_zero,Option.some.injEq] at hi
    subst hi
    refine ⟨c1,h2,?_⟩
    rw [h1,Nat.zero_mul,List.drop_zero,List.take_left' h2.len]
  | a::r,cs,G,i + 1,u,⟨c1,c2,h1,h2,h3⟩,hi => by
    rw [List.getElem?_cons_succ] at hi
    obtain ⟨c,h4,h5⟩ := MemsV.get h3 hi
    refine ⟨c,h4,?_⟩
    rw [h1,Nat.add_mul,Nat.one_mul,Nat.add_comm (i * 7) 7,← List.drop_drop,List.drop_left' h2.len,h5]
open Go
noncomputable instance fragBEq : BEq Frag := ⟨fun a b => @decide (a = b) (Classical.propDecidable _)⟩
instance fragLawful : LawfulBEq Frag where
  eq_of_beq h := by simpa [BEq.beq] using h
  rfl := by simp [BEq.beq]
theorem permF {L L2 : Frags} (h : ∀ x,L.count x = L2.count x) : L.Perm L2 := List.perm_iff_count.2 h
set_option maxHeartbeats 1000000
theorem len_mem {K : Known} {ea : Fin 5 → Addr} (hs : Sents K ea) {rb c : Nat} {a : Option Addr} {data l : List UInt8} {f1 f2 f3 : Frag} (hF : (Hh K ea hs rb a c data).At l f1 f2 f3) {L : Frags} (hm : f1 ∈ L) : Fn Tryz.prog K 32 #[.pointer (some ⟨rb,0,none⟩)] L fun r L' => r = .int .i64 ((l.length : Nat) : Int) ∧ L' = L := by
  obtain ⟨i,rfl,rfl,hi,hd,hc,hg,rfl⟩ := hF
  obtain ⟨A,B,rfl⟩ := List.append_of_mem hm
  refine Fn.sameR (Fn.perm List.perm_middle (Fn.frame (L:=[_]) (F:=A ++ B) (readerLen_spec rb data i hd a c hi))) ?_
  rintro r L ⟨L1,⟨rfl,rfl⟩,rfl⟩
  exact ⟨_,Same.perm (List.perm_middle (l₁:=A) (l₂:=B)).symm,by rw [List.length_drop],rfl⟩
theorem multi_zat {K : Known} {ea : Fin 5 → Addr} {src : Src K ea} {zb : Nat} {h : Hd} {ms : Bool} {rest : List UInt8} {LZ : Frags} (hZ : ZAt src zb h ms rest LZ) (b : Bool) (G : Frags) :
    Fn Tryz.prog K 33 #[.pointer (some ⟨zb,0,none⟩),.bool b] (G ++ LZ) fun r L => ∃ LZ2,r = .tuple #[] ∧ ZAt src zb h b rest LZ2 ∧ L = G ++ LZ2 := by
  obtain ⟨f1,f2,f3,bs,xa,xn,X,fb,DN,hA,hb,hX,hDN,rfl⟩ := hZ
  have pm : ∀ (a1 a2 a3 a4 a5 a6 a7 : Frag),(G ++ ([a1,a2,a3,a4,a5,a6,a7] ++ DN)).Perm ([a6] ++ (G ++ ([a1,a2,a3,a4,a5,a7] ++ DN))) := fun a1 a2 a3 a4 a5 a6 a7 => (permF fun x => by simp only [List.append_eq,List.count_append,List.count_cons,List.count_nil]; omega)
  refine Fn.sameR (Fn.perm (pm _ _ _ _ _ _ _) (Fn.frame (multi_walk zb _ _ b))) ?_
  rintro r L ⟨L1,⟨rfl,rfl⟩,rfl⟩
  exact ⟨_,Same.perm (pm _ _ _ _ _ _ _).symm,_,rfl,⟨f1,f2,f3,bs,xa,xn,X,fb,DN,hA,hb,hX,hDN,rfl⟩,rfl⟩
theorem reset_inG {K : Known} {ea : Fin 5 → Addr} (hs : Sents K ea) (src : Src K ea) (l : List UInt8) (x1 x2 x3 : Frag) (zb : Nat) (hA : src.At l x1 x2 x3) {LZ : Frags} (hZ : ZOld zb LZ) (G : Frags) :
    Fn Tryz.prog K 34 #[.pointer (some ⟨zb,0,none⟩),.iface src.t src.v] (G ++ (x1::x2::x3::LZ)) fun r L => ∃ LE,r = Er.val ea (Ac l).1 ∧ ResetEnd src zb l LE ∧ L = G ++ LE := by
  refine Fn.sameR (Fn.perm (L2:=([x1,x2,x3] ++ LZ) ++ G) (permF fun x => by simp only [List.append_eq,List.count_append,List.count_cons,List.count_nil]; omega) (Fn.frame (F:=G) (reset_spec hs src l x1 x2 x3 zb hA hZ))) ?_
  rintro r L ⟨L1,⟨rfl,hE⟩,rfl⟩
  exact ⟨G ++ L1,Same.perm List.perm_append_comm,L1,rfl,hE,rfl⟩
theorem arr8 (f : Nat → Value) (u0 u1 u2 u3 u4 u5 u6 u7 : Value) : ((((((((((Array.range 8).map f).setIfInBounds 0 u0).setIfInBounds 1 u1).setIfInBounds 2 u2).setIfInBounds 3 u3).setIfInBounds 4 u4).setIfInBounds 5 u5).setIfInBounds 6 u6).setIfInBounds 7 u7) = #[u0,u1,u2,u3,u4,u5,u6,u7] := by
  rw [show Array.range 8 = #[0,1,2,3,4,5,6,7] by decide]; simp
theorem unRun (s1 s2 : ByteArray) (xa oa : Option Addr) (xn xc on oc : Nat) (m o e z : Int) (w : World) : (Instr.buildSlice 49 1 [(0,.agg #[.int .i64 z,.string s1,.string s2,.slice xa xn xc,.int .i64 m,.int .u8 o,.slice oa on oc,.int .i64 e])].toArray).run Tryz.prog w =
   .ok (.slice (some ⟨w.heap.size,0,none⟩) 1 1) (w.alloc (.cells [Value.int .i64 z,.string s1,.string s2,.slice xa xn xc,.int .i64 m,.int .u8 o,.slice oa on oc,.int .i64 e].toArray 29)) := by
  simp [Instr.buildSlice,Instr.fill,Value.cells,newRow,Tryz.runUnderlying49,Tryz.typeInfo29]
  rw [arr8]
theorem infoU : Tryz.prog.info? 29 = some Tryz.t29 := by kernel_rfl
theorem sl_reads {s : Nat} {v : Value} {k : Nat} {cs : List Value} {Lf : Frags} (h : Sl s v k cs Lf) (h0 : 0 < k) : ∃ b o c,v = .slice (some ⟨b,o,none⟩) k c ∧ ∀ (K : Known) (L : Frags),(∀ f ∈ Lf,f ∈ L) → Reads K L b o cs := by
  obtain ⟨b,o,c,ds,rfl,rfl,h3,h4,h5,h6⟩ := h.one h0
  exact ⟨b,o,c,rfl,fun K L hL => Reads.mem (k:=0) (hL _ (.head _)) (by rw [List.drop_zero,h.1]; exact h6)⟩
def MembersR (data : List UInt8) (r : Value) (L : Frags) : Prop :=
  ∃ us lb lo lc rb ro rc cs,r = .tuple #[.slice (some ⟨lb,lo,none⟩) us.length lc,.slice (some ⟨rb,ro,none⟩) us.length rc] ∧ us.length ≤ 65537 ∧ MemL data us ∧ UnsV us cs L ∧
    (∀ (K : Known) (L2 : Frags),(∀ f ∈ L,f ∈ L2) → Reads K L2 lb lo cs) ∧ (∀ (K : Known) (L2 : Frags),(∀ f ∈ L,f ∈ L2) → Reads K L2 rb ro (intsV (us.map (·.2))))
theorem members_end {data : List UInt8} {us : List (UnpR × Nat)} {v2 v3 : Value} {cs : List Value} {Lm Lr G : Frags} (hl : us.length ≤ 65537) (hm : MemL data us) (hU : UnsV us cs G) (h2 : Sl 8 v2 us.length cs Lm) (h3 : Sl 1 v3 (us.map (·.2)).length (intsV (us.map (·.2))) Lr) : MembersR data (.tuple #[v2,v3]) (Lm ++ (Lr ++ G)) := by
  have h0 : 0 < us.length := by
    cases us with
    | nil => exact hm.elim
    | cons => simp
  obtain ⟨b,o,c,rfl,hr⟩ := sl_reads h2 h0
  obtain ⟨b2,o2,c2,rfl,hr2⟩ := sl_reads h3 (by rw [List.length_map]; exact h0)
  rw [List.length_map]
  exact ⟨us,b,o,c,b2,o2,c2,cs,rfl,hl,hm,hU.mono (fun f hf => by simp [hf]),fun K L2 hL => hr K L2 fun f hf => hL f (by simp [hf]),fun K L2 hL => hr2 K L2 fun f hf => hL f (by simp [hf])⟩
theorem members_walk {K : Known} {ea : Fin 5 → Addr} (hs : Sents K ea) (hc : Codes K) (v : Value) (data : List UInt8) (hv : BA K v data) (hl : data.length ≤ 65536) : Fn Tryz.prog K 17 #[v] ([]) (fun r L => ∃ L2 J,Same L (L2 ++ J) ∧ MembersR data r L2) := by
 refine Fn.intro (args:=[v]) (RR:=Ret2 2 3 _) Tryz.func17 rfl rfl Tryz.ntmps17 (res2 Tryz.results17) ?_
 refine Bl (env2:=[(0,v)]) rfl<|Cr<|Ea rfl rfl<|Ea rfl rfl<|Ek3 0 2 3 rfl<|Cr<|Em rfl rfl ?_
 refine Ak (Au rfl Tryz.call22 (clone_in hv hl [])) rfl ?_; rintro _ _ ⟨a,c,GL,rfl,hCl,rfl⟩; refine Ab (L2:=(_)) rfl ?_
 refine Ak (OpX.pick [] (F:=(_)) rfl (Au rfl Tryz.call21 (newReader_spec a data.length c))) rfl ?_; rintro _ _ ⟨_,⟨rb,rfl,rfl⟩,rfl⟩; refine Ab (L2:=(_::_)) rfl ?_
 obtain ⟨x1,x2,x3,hA,hSm⟩ := src_at hs rb hCl hl
 refine Eb (hSm [])<|Ab (L2:=[_,_,_]) rfl<|Ea rfl rfl<|Ek3 2 3 4 rfl<|Cr<|Em rfl rfl<|Aa (Ej rfl conc61) rfl<|Ak (Au rfl Tryz.call20 (zNewReader_in hs (Hh K ea hs rb a c data) data x1 x2 x3 hA [])) rfl ?_
 rintro _ _ (⟨hne,rfl,f1,f2,f3,hF,rfl⟩ | ⟨hno,zb,LZ,rfl,hZ,rfl⟩)
 ·refine Ab (L2:=[_,_,_]) rfl<|Em rfl rfl<|Aa (Bb rfl rfl) rfl<|Aa (Bb rfl rfl) rfl<|Ea rfl rfl<|Ea rfl rfl<|Ek5 2 3 4 5 6 rfl<|Ax<|Bx (fun mm ee ll => ∃ (l : List UInt8),∃ (zv : Value),∃ (zb : Nat),∃ (us : List (UnpR × Nat)),∃ (cs : List Value),∃ (v2 : Value),∃ (v3 : Value),∃ (Lm : Frags),∃ (Lr : Frags),∃ (G : Frags),∃ (TT : Frags),keeps ee [2,3,4,5,6] = some [(2,v2),(3,v3),(4,.pointer (some ⟨rb,0,none⟩)),(5,zv),(6,Er.val ea (Ac l).1)] ∧ ll = [] ++ ((Lm ++ (Lr ++ G)) ++ TT) ∧ (ResetEnd (Hh K ea hs rb a c data) zb l TT) ∧ ((Ac l).1 = .none → zv = .pointer (some ⟨zb,0,none⟩)) ∧ (Sl 8 v2 us.length cs Lm) ∧ (Sl 1 v3 (us.map (·.2)).length (intsV (us.map (·.2))) Lr) ∧ (UnsV us cs G) ∧ (∀ u2,MemL l u2 → MemL data (us ++ u2)) ∧ (l.length + us.length ≤ data.length) ∧ mm = l.length) (_) ⟨data,_,0,[],[],.slice none 0 0,.slice none 0 0,[],[],[],_,rfl,rfl,.inl ⟨hne,f1,f2,f3,[],hF,(List.append_nil _).symm⟩,(fun h => absurd h hne),Sl.nil 8,Sl.nil 1,rfl,(fun _ h => h),Nat.le_refl _,rfl⟩ ?_
  rintro m0 _ _ ⟨l,zv,zb,us,cs,v2,v3,Lm,Lr,G,TT,hk0,rfl,hRE,hzv,hsm,hsr,hmv,hml,hle,hm0⟩
  refine Ba _ hk0<|Ax<|Ap<|Cr<|Em rfl rfl<|Ah (Dg rfl) rfl<|Ek6 2 3 4 5 6 18 rfl<|Dp rfl (fun h18 => ?_) (fun h18 => ?_)
  ·obtain ⟨_,f1,f2,f3,T2,hF,rfl⟩ := hRE.resolve_right (fun h => h18 h.1)
   have hU4 : UnsV (us ++ [(((kindOf (Ac l).1,noHd,[],0) : UnpR),(Ac l).2.1.length)]) (cs ++ [.int .i64 ((kindOf (Ac l).1 : Nat) : Int),.string ⟨#[]⟩,.string ⟨#[]⟩,.slice none 0 0,.int .i64 0,.int .u8 0,.slice none 0 0,.int .i64 0]) G := hmv.snoc ⟨none,0,none,0,rfl,(RdV.nil).mono (fun f hf => by cases hf),(RdV.nil).mono (fun f hf => by cases hf)⟩
   refine Cr<|Em rfl rfl<|Em rfl rfl ?_
   refine Ak (OpX.pick [] (F:=(Lm ++ (Lr ++ G)) ++ ([f1,f2,f3] ++ T2)) rfl (Au rfl Tryz.call23 (kind_spec hs _))) rfl ?_; rintro _ _ ⟨_,⟨rfl,rfl⟩,rfl⟩; refine Ab (L2:=(_)) rfl ?_
   refine Aa (Eu (v:=.agg #[.int .i64 ((kindOf (Ac l).1 : Nat) : Int),.string ⟨#[]⟩,.string ⟨#[]⟩,.slice none 0 0,.int .i64 0,.int .u8 0,.slice none 0 0,.int .i64 0]) [(0,.int .i64 ((kindOf (Ac l).1 : Nat) : Int))] rfl (fun w => by simp [Instr.build,Instr.fill,Value.cells,Tryz.zeroValue29])) rfl<|Ak (Dd (vs:=[.int .i64 ((kindOf (Ac l).1 : Nat) : Int),.string ⟨#[]⟩,.string ⟨#[]⟩,.slice none 0 0,.int .i64 0,.int .u8 0,.slice none 0 0,.int .i64 0]) (e:=29) [(0,.agg #[.int .i64 ((kindOf (Ac l).1 : Nat) : Int),.string ⟨#[]⟩,.string ⟨#[]⟩,.slice none 0 0,.int .i64 0,.int .u8 0,.slice none 0 0,.int .i64 0])] rfl (unRun _ _ _ _ _ _ _ _ _ _ _ _)) rfl ?_
   rintro _ _ ⟨yb,rfl,rfl⟩
   refine Eb (L2:=Lm ++ ([⟨yb,0,[.int .i64 ((kindOf (Ac l).1 : Nat) : Int),.string ⟨#[]⟩,.string ⟨#[]⟩,.slice none 0 0,.int .i64 0,.int .u8 0,.slice none 0 0,.int .i64 0]⟩] ++ ((Lr ++ G) ++ ([f1,f2,f3] ++ T2)))) (Same.perm (permF fun x => by simp only [List.append_eq,List.count_append,List.count_cons,List.count_nil]; omega)) ?_
   refine Ak (X.append (P:=Tryz.prog) (s:=8) (bytes:=112) (t:=49) (xs:=cs) (ys:=[.int .i64 ((kindOf (Ac l).1 : Nat) : Int),.string ⟨#[]⟩,.string ⟨#[]⟩,.slice none 0 0,.int .i64 0,.int .u8 0,.slice none 0 0,.int .i64 0]) (Lf:=Lm) Tu49 infoU rfl rfl rfl rfl (by decide) rfl rfl hsm rfl (.inr ⟨yb,0,rfl,Reads.mem (k:=0) (List.mem_append_right _ (.head _)) rfl⟩) rfl (by omega) (by omega)) rfl ?_
   rintro v2 _ ⟨Lm3,hsm3,rfl⟩
   refine Fw (A:=[] ++ ((Lm3 ++ (Lr ++ G)) ++ ([f1,f2,f3] ++ T2))) (F:=[⟨yb,0,[.int .i64 ((kindOf (Ac l).1 : Nat) : Int),.string ⟨#[]⟩,.string ⟨#[]⟩,.slice none 0 0,.int .i64 0,.int .u8 0,.slice none 0 0,.int .i64 0]⟩]) (Same.perm (permF fun x => by simp only [List.append_eq,List.count_append,List.count_cons,List.count_nil]; omega)) ?_
   obtain ⟨la3,lc3,rfl⟩ := hsm3.form
   refine Em rfl rfl<|Em rfl rfl ?_
   refine Ak (Au rfl Tryz.call32 (len_mem hs hF (by simp))) rfl ?_; rintro _ _ ⟨rfl,rfl⟩; refine Ab (L2:=(_)) rfl ?_
   refine Ak (Dd (vs:=[.int .i64 (((Ac l).2.1.length : Nat) : Int)]) (e:=3) [(0,.int .i64 (((Ac l).2.1.length : Nat) : Int))] rfl (fun w => by simp [Instr.buildSlice,Instr.fill,Value.cells,newRow,Tryz.runUnderlying23,Tryz.typeInfo3]; rw [arr1])) rfl ?_
   rintro _ _ ⟨yb,rfl,rfl⟩
   refine Eb (L2:=Lr ++ ([⟨yb,0,[.int .i64 (((Ac l).2.1.length : Nat) : Int)]⟩] ++ ((Lm3 ++ G) ++ ([f1,f2,f3] ++ T2)))) (Same.perm (permF fun x => by simp only [List.append_eq,List.count_append,List.count_cons,List.count_nil]; omega)) ?_
   refine Ak (Gu (L:=_) (xs:=us.map (·.2)) (ys:=[(Ac l).2.1.length]) (Lf:=Lr) rfl rfl hsr rfl (.inr ⟨yb,0,rfl,Reads.mem (k:=0) (List.mem_append_right _ (.head _)) rfl⟩) (by rw [List.length_map]; simp only [List.length_cons,List.length_nil]; omega)) rfl ?_
   rintro v3 _ ⟨Lr3,hsr3,rfl⟩
   refine Fw (A:=[] ++ ((Lm3 ++ (Lr3 ++ G)) ++ ([f1,f2,f3] ++ T2))) (F:=[⟨yb,0,[.int .i64 (((Ac l).2.1.length : Nat) : Int)]⟩]) (Same.perm (permF fun x => by simp only [List.append_eq,List.count_append,List.count_cons,List.count_nil]; omega)) ?_
   rw [show us.map (·.2) ++ [(Ac l).2.1.length] = (us ++ [(((kindOf (Ac l).1,noHd,[],0) : UnpR),(Ac l).2.1.length)]).map (·.2) by rw [List.map_append]; rfl] at hsr3
   refine Ea rfl rfl<|Ea rfl rfl<|Ek6 2 3 4 5 6 18 rfl<|Av ?_
   refine ⟨_,_,rfl,rfl,Lm3 ++ (Lr3 ++ G),_,Same.refl _,?_⟩
   exact members_end (by rw [List.length_append,List.length_singleton]; omega) (hml _ (memL_bad h18)) hU4 (by rw [List.length_append]; exact hsm3) hsr3
  obtain ⟨_,hZ⟩ := hRE.resolve_left (fun h => h.1 h18)
  obtain rfl := hzv h18
  refine Ar<|Cr<|Em rfl rfl ?_
  refine Ak (Au rfl Tryz.call33 (multi_zat hZ false _)) rfl ?_; rintro _ _ ⟨LZm,rfl,hZm,rfl⟩; refine Ab (L2:=(_)) rfl ?_
  refine Ek6 2 3 4 5 6 18 rfl<|Cr<|Em rfl rfl ?_
  refine Ak (Au rfl Tryz.call24 (rest_in hs hc (readHead_mod _) ⟨none,0,0,rfl,by decide,.inl rfl⟩ (Nat.le_trans (gzR_len _ _ (by have := Gy l; omega)) (by decide)) hZm _)) rfl ?_; rintro _ _ ⟨a1,k1,a2,k2,GL,T9,rfl,hU,hT,rfl⟩; refine Ab (L2:=(_)) rfl ?_
  refine Am (v:=.agg #[.int .i64 0,.string (Ac l).2.2.name,.string (Ac l).2.2.comment,.slice a1 ((Ac l).2.2.extra.getD []).length k1,.int .i64 (((Ac l).2.2.mod : Nat) : Int),.int .u8 (((Ac l).2.2.os : Nat) : Int),.slice a2 (gzR false (Ac l).2.1).1.length k2,.int .i64 (((gzR false (Ac l).2.1).2.1 : Nat) : Int)]) rfl ?_
  refine Ak (Dy Tryz.zeroValue29) rfl ?_; rintro _ _ ⟨b7,rfl,rfl⟩; refine Ab (L2:=(_::_)) rfl ?_
  refine Ao (Bi 0 (k:=0) rfl rfl rfl rfl rfl rfl Tz29 rfl) ?_; rintro _ _ ⟨rfl,rfl⟩; refine Ab (L2:=(_::_)) rfl ?_
  refine Ab (L2:=⟨b7,0,[.int .i64 0,.string (Ac l).2.2.name,.string (Ac l).2.2.comment,.slice a1 ((Ac l).2.2.extra.getD []).length k1,.int .i64 (((Ac l).2.2.mod : Nat) : Int),.int .u8 (((Ac l).2.2.os : Nat) : Int),.slice a2 (gzR false (Ac l).2.1).1.length k2,.int .i64 (((gzR false (Ac l).2.1).2.1 : Nat) : Int)]⟩::((Lm ++ (Lr ++ G)) ++ (GL ++ T9))) rfl<|Ek7 2 3 4 5 6 7 18 rfl ?_
  obtain ⟨w1,w2,w3,LZ2,⟨l0,hA0⟩,hA1,hOld,rfl⟩ := hT
  obtain ⟨l3,hA3,hl3⟩ : ∃ l3,(Hh K ea hs rb a c data).At l3 w1 w2 w3 ∧ ((gzR false (Ac l).2.1).2.1 = 1 → l3 = (gzR false (Ac l).2.1).2.2) := by
    by_cases hk : (gzR false (Ac l).2.1).2.1 = 1
    · exact ⟨_,hA1 rfl hk,fun _ => rfl⟩
    · exact ⟨l0,hA0,fun h => absurd h hk⟩
  have hU4 : UnsV (us ++ [(((0,(Ac l).2.2,(gzR false (Ac l).2.1).1,(gzR false (Ac l).2.1).2.1) : UnpR),l3.length)]) (cs ++ [.int .i64 0,.string (Ac l).2.2.name,.string (Ac l).2.2.comment,.slice a1 ((Ac l).2.2.extra.getD []).length k1,.int .i64 (((Ac l).2.2.mod : Nat) : Int),.int .u8 (((Ac l).2.2.os : Nat) : Int),.slice a2 (gzR false (Ac l).2.1).1.length k2,.int .i64 (((gzR false (Ac l).2.1).2.1 : Nat) : Int)]) (G ++ GL) := by
    refine (hmv.mono (fun f hf => by simp [hf])).snoc ⟨a1,k1,a2,k2,rfl,?_,?_⟩
    · obtain ⟨ev,bv,e,q1,q2⟩ := hU
      rw [unV,unV] at e
      injection e with e
      simp only [Array.mk.injEq,List.cons.injEq,and_true,true_and] at e
      obtain ⟨rfl,rfl⟩ := e
      exact q1.mono (fun f hf => by simp [hf])
    · obtain ⟨ev,bv,e,q1,q2⟩ := hU
      rw [unV,unV] at e
      injection e with e
      simp only [Array.mk.injEq,List.cons.injEq,and_true,true_and] at e
      obtain ⟨rfl,rfl⟩ := e
      exact q2.mono (fun f hf => by simp [hf])
  refine Cr<|Em rfl rfl<|Ah (Bn 0 (k:=0) rfl rfl rfl rfl Tryz.isAgg29 Tz29) rfl<|Ak (Dd (vs:=[.int .i64 0,.string (Ac l).2.2.name,.string (Ac l).2.2.comment,.slice a1 ((Ac l).2.2.extra.getD []).length k1,.int .i64 (((Ac l).2.2.mod : Nat) : Int),.int .u8 (((Ac l).2.2.os : Nat) : Int),.slice a2 (gzR false (Ac l).2.1).1.length k2,.int .i64 (((gzR false (Ac l).2.1).2.1 : Nat) : Int)]) (e:=29) [(0,.agg #[.int .i64 0,.string (Ac l).2.2.name,.string (Ac l).2.2.comment,.slice a1 ((Ac l).2.2.extra.getD []).length k1,.int .i64 (((Ac l).2.2.mod : Nat) : Int),.int .u8 (((Ac l).2.2.os : Nat) : Int),.slice a2 (gzR false (Ac l).2.1).1.length k2,.int .i64 (((gzR false (Ac l).2.1).2.1 : Nat) : Int)])] rfl (unRun _ _ _ _ _ _ _ _ _ _ _ _)) rfl ?_
  rintro _ _ ⟨yb,rfl,rfl⟩
  refine Eb (L2:=Lm ++ ([⟨yb,0,[.int .i64 0,.string (Ac l).2.2.name,.string (Ac l).2.2.comment,.slice a1 ((Ac l).2.2.extra.getD []).length k1,.int .i64 (((Ac l).2.2.mod : Nat) : Int),.int .u8 (((Ac l).2.2.os : Nat) : Int),.slice a2 (gzR false (Ac l).2.1).1.length k2,.int .i64 (((gzR false (Ac l).2.1).2.1 : Nat) : Int)]⟩,⟨b7,0,[.int .i64 0,.string (Ac l).2.2.name,.string (Ac l).2.2.comment,.slice a1 ((Ac l).2.2.extra.getD []).length k1,.int .i64 (((Ac l).2.2.mod : Nat) : Int),.int .u8 (((Ac l).2.2.os : Nat) : Int),.slice a2 (gzR false (Ac l).2.1).1.length k2,.int .i64 (((gzR false (Ac l).2.1).2.1 : Nat) : Int)]⟩] ++ ((Lr ++ G) ++ (GL ++ (w1::w2::w3::LZ2))))) (Same.perm (permF fun x => by simp only [List.append_eq,List.count_append,List.count_cons,List.count_nil]; omega)) ?_
  refine Ak (X.append (P:=Tryz.prog) (s:=8) (bytes:=112) (t:=49) (xs:=cs) (ys:=[.int .i64 0,.string (Ac l).2.2.name,.string (Ac l).2.2.comment,.slice a1 ((Ac l).2.2.extra.getD []).length k1,.int .i64 (((Ac l).2.2.mod : Nat) : Int),.int .u8 (((Ac l).2.2.os : Nat) : Int),.slice a2 (gzR false (Ac l).2.1).1.length k2,.int .i64 (((gzR false (Ac l).2.1).2.1 : Nat) : Int)]) (Lf:=Lm) Tu49 infoU rfl rfl rfl rfl (by decide) rfl rfl hsm rfl (.inr ⟨yb,0,rfl,Reads.mem (k:=0) (List.mem_append_right _ (.head _)) rfl⟩) rfl (by omega) (by omega)) rfl ?_
  rintro v2 _ ⟨Lm3,hsm3,rfl⟩
  refine Fw (A:=[⟨b7,0,[.int .i64 0,.string (Ac l).2.2.name,.string (Ac l).2.2.comment,.slice a1 ((Ac l).2.2.extra.getD []).length k1,.int .i64 (((Ac l).2.2.mod : Nat) : Int),.int .u8 (((Ac l).2.2.os : Nat) : Int),.slice a2 (gzR false (Ac l).2.1).1.length k2,.int .i64 (((gzR false (Ac l).2.1).2.1 : Nat) : Int)]⟩] ++ ((Lm3 ++ (Lr ++ G)) ++ (GL ++ (w1::w2::w3::LZ2)))) (F:=[⟨yb,0,[.int .i64 0,.string (Ac l).2.2.name,.string (Ac l).2.2.comment,.slice a1 ((Ac l).2.2.extra.getD []).length k1,.int .i64 (((Ac l).2.2.mod : Nat) : Int),.int .u8 (((Ac l).2.2.os : Nat) : Int),.slice a2 (gzR false (Ac l).2.1).1.length k2,.int .i64 (((gzR false (Ac l).2.1).2.1 : Nat) : Int)]⟩]) (Same.perm (permF fun x => by simp only [List.append_eq,List.count_append,List.count_cons,List.count_nil]; omega)) ?_
  obtain ⟨la3,lc3,rfl⟩ := hsm3.form
  refine Em rfl rfl<|Em rfl rfl ?_
  refine Ak (Au rfl Tryz.call32 (len_mem hs hA3 (by simp))) rfl ?_; rintro _ _ ⟨rfl,rfl⟩; refine Ab (L2:=(_::_)) rfl ?_
  refine Ak (Dd (vs:=[.int .i64 ((l3.length : Nat) : Int)]) (e:=3) [(0,.int .i64 ((l3.length : Nat) : Int))] rfl (fun w => by simp [Instr.buildSlice,Instr.fill,Value.cells,newRow,Tryz.runUnderlying23,Tryz.typeInfo3]; rw [arr1])) rfl ?_
  rintro _ _ ⟨yb,rfl,rfl⟩
  refine Eb (L2:=Lr ++ ([⟨yb,0,[.int .i64 ((l3.length : Nat) : Int)]⟩,⟨b7,0,[.int .i64 0,.string (Ac l).2.2.name,.string (Ac l).2.2.comment,.slice a1 ((Ac l).2.2.extra.getD []).length k1,.int .i64 (((Ac l).2.2.mod : Nat) : Int),.int .u8 (((Ac l).2.2.os : Nat) : Int),.slice a2 (gzR false (Ac l).2.1).1.length k2,.int .i64 (((gzR false (Ac l).2.1).2.1 : Nat) : Int)]⟩] ++ ((Lm3 ++ G) ++ (GL ++ (w1::w2::w3::LZ2))))) (Same.perm (permF fun x => by simp only [List.append_eq,List.count_append,List.count_cons,List.count_nil]; omega)) ?_
  refine Ak (Gu (L:=_) (xs:=us.map (·.2)) (ys:=[l3.length]) (Lf:=Lr) rfl rfl hsr rfl (.inr ⟨yb,0,rfl,Reads.mem (k:=0) (List.mem_append_right _ (.head _)) rfl⟩) (by rw [List.length_map]; simp only [List.length_cons,List.length_nil]; omega)) rfl ?_
  rintro v3 _ ⟨Lr3,hsr3,rfl⟩
  refine Fw (A:=[⟨b7,0,[.int .i64 0,.string (Ac l).2.2.name,.string (Ac l).2.2.comment,.slice a1 ((Ac l).2.2.extra.getD []).length k1,.int .i64 (((Ac l).2.2.mod : Nat) : Int),.int .u8 (((Ac l).2.2.os : Nat) : Int),.slice a2 (gzR false (Ac l).2.1).1.length k2,.int .i64 (((gzR false (Ac l).2.1).2.1 : Nat) : Int)]⟩] ++ ((Lm3 ++ (Lr3 ++ G)) ++ (GL ++ (w1::w2::w3::LZ2)))) (F:=[⟨yb,0,[.int .i64 ((l3.length : Nat) : Int)]⟩]) (Same.perm (permF fun x => by simp only [List.append_eq,List.count_append,List.count_cons,List.count_nil]; omega)) ?_
  rw [show us.map (·.2) ++ [l3.length] = (us ++ [(((0,(Ac l).2.2,(gzR false (Ac l).2.1).1,(gzR false (Ac l).2.1).2.1) : UnpR),l3.length)]).map (·.2) by rw [List.map_append]; rfl] at hsr3
  refine Ea rfl rfl<|Ea rfl rfl<|Ek7 2 3 4 5 6 7 18 rfl<|Ap<|Cr<|Aa (Ae rfl fa29_3) rfl<|Ah (An 0 (k:=7) rfl rfl rfl Ta3) rfl<|Aa (Fq (b:=((1 : Nat) : Int)) rfl rfl) rfl<|Ek8 2 3 4 5 6 7 18 45 rfl<|Be rfl (fun h45 => ?_) (fun h45 => ?_)
  ·refine Cr<|Em rfl rfl<|Em rfl rfl<|Ea rfl rfl<|Ea rfl rfl<|Ek8 2 3 4 5 6 7 18 45 rfl<|Av ?_
   refine ⟨_,_,rfl,rfl,Lm3 ++ (Lr3 ++ (G ++ GL)),⟨b7,0,[.int .i64 0,.string (Ac l).2.2.name,.string (Ac l).2.2.comment,.slice a1 ((Ac l).2.2.extra.getD []).length k1,.int .i64 (((Ac l).2.2.mod : Nat) : Int),.int .u8 (((Ac l).2.2.os : Nat) : Int),.slice a2 (gzR false (Ac l).2.1).1.length k2,.int .i64 (((gzR false (Ac l).2.1).2.1 : Nat) : Int)]⟩::w1::w2::w3::LZ2,Same.perm (permF fun x => by simp only [List.append_eq,List.count_append,List.count_cons,List.count_nil]; omega),?_⟩
   exact members_end (by rw [List.length_append,List.length_singleton]; omega) (hml _ (memL_last h18 (by omega))) hU4 (by rw [List.length_append]; exact hsm3) hsr3
  have hk1 : (gzR false (Ac l).2.1).2.1 = 1 := by omega
  obtain rfl := hl3 hk1
  have hglt := gz_rest_lt hk1
  have hrl := Gy l
  refine Ar<|Al<|Em rfl rfl<|Em rfl rfl<|Aa (Ej rfl conc61) rfl ?_
  refine Eb (L2:=([⟨b7,0,[.int .i64 0,.string (Ac l).2.2.name,.string (Ac l).2.2.comment,.slice a1 ((Ac l).2.2.extra.getD []).length k1,.int .i64 (((Ac l).2.2.mod : Nat) : Int),.int .u8 (((Ac l).2.2.os : Nat) : Int),.slice a2 (gzR false (Ac l).2.1).1.length k2,.int .i64 (((gzR false (Ac l).2.1).2.1 : Nat) : Int)]⟩] ++ ((Lm3 ++ (Lr3 ++ G)) ++ GL)) ++ (w1::w2::w3::LZ2)) (Same.perm (permF fun x => by simp only [List.append_eq,List.count_append,List.count_cons,List.count_nil]; omega)) ?_
  refine Ak (Au rfl Tryz.call34 (reset_inG hs (Hh K ea hs rb a c data) (gzR false (Ac l).2.1).2.2 w1 w2 w3 zb hA3 hOld _)) rfl ?_; rintro _ _ ⟨LE,rfl,hRE4,rfl⟩; refine Ab (L2:=(_)) rfl ?_
  refine Fw (A:=(Lm3 ++ (Lr3 ++ (G ++ GL))) ++ LE) (F:=[⟨b7,0,[.int .i64 0,.string (Ac l).2.2.name,.string (Ac l).2.2.comment,.slice a1 ((Ac l).2.2.extra.getD []).length k1,.int .i64 (((Ac l).2.2.mod : Nat) : Int),.int .u8 (((Ac l).2.2.os : Nat) : Int),.slice a2 (gzR false (Ac l).2.1).1.length k2,.int .i64 (((gzR false (Ac l).2.1).2.1 : Nat) : Int)]⟩]) (Same.perm (permF fun x => by simp only [List.append_eq,List.count_append,List.count_cons,List.count_nil]; omega)) ?_
  refine Ea rfl rfl<|Ek8 2 3 4 5 6 7 18 45 rfl ?_
  refine ⟨_,?_,(gzR false (Ac l).2.1).2.2,_,zb,us ++ [(((0,(Ac l).2.2,(gzR false (Ac l).2.1).1,(gzR false (Ac l).2.1).2.1) : UnpR),(gzR false (Ac l).2.1).2.2.length)],cs ++ [.int .i64 0,.string (Ac l).2.2.name,.string (Ac l).2.2.comment,.slice a1 ((Ac l).2.2.extra.getD []).length k1,.int .i64 (((Ac l).2.2.mod : Nat) : Int),.int .u8 (((Ac l).2.2.os : Nat) : Int),.slice a2 (gzR false (Ac l).2.1).1.length k2,.int .i64 (((gzR false (Ac l).2.1).2.1 : Nat) : Int)],_,_,Lm3,Lr3,G ++ GL,LE,rfl,rfl,hRE4,(fun _ => rfl),(by rw [List.length_append]; exact hsm3),hsr3,hU4,(fun u2 h => by rw [List.append_assoc]; exact hml _ (memL_next h18 hk1 h)),(by rw [List.length_append,List.length_singleton]; omega),rfl⟩; omega
 refine Ab (L2:=(_)) rfl<|Em rfl rfl<|Aa (Bb rfl rfl) rfl<|Aa (Bb rfl rfl) rfl<|Ea rfl rfl<|Ea rfl rfl<|Ek5 2 3 4 5 6 rfl<|Ax<|Bx (fun mm ee ll => ∃ (l : List UInt8),∃ (zv : Value),∃ (zb : Nat),∃ (us : List (UnpR × Nat)),∃ (cs : List Value),∃ (v2 : Value),∃ (v3 : Value),∃ (Lm : Frags),∃ (Lr : Frags),∃ (G : Frags),∃ (TT : Frags),keeps ee [2,3,4,5,6] = some [(2,v2),(3,v3),(4,.pointer (some ⟨rb,0,none⟩)),(5,zv),(6,Er.val ea (Ac l).1)] ∧ ll = [] ++ ((Lm ++ (Lr ++ G)) ++ TT) ∧ (ResetEnd (Hh K ea hs rb a c data) zb l TT) ∧ ((Ac l).1 = .none → zv = .pointer (some ⟨zb,0,none⟩)) ∧ (Sl 8 v2 us.length cs Lm) ∧ (Sl 1 v3 (us.map (·.2)).length (intsV (us.map (·.2))) Lr) ∧ (UnsV us cs G) ∧ (∀ u2,MemL l u2 → MemL data (us ++ u2)) ∧ (l.length + us.length ≤ data.length) ∧ mm = l.length) (_) ⟨data,_,zb,[],[],.slice none 0 0,.slice none 0 0,[],[],[],_,rfl,rfl,.inr ⟨hno,hZ⟩,(fun _ => rfl),Sl.nil 8,Sl.nil 1,rfl,(fun _ h => h),Nat.le_refl _,rfl⟩ ?_
 rintro m1 _ _ ⟨l,zv,zb,us,cs,v2,v3,Lm,Lr,G,TT,hk1,rfl,hRE,hzv,hsm,hsr,hmv,hml,hle,hm1⟩
 refine Ba _ hk1<|Ax<|Ap<|Cr<|Em rfl rfl<|Ah (Dg rfl) rfl<|Ek6 2 3 4 5 6 18 rfl<|Dp rfl (fun h18 => ?_) (fun h18 => ?_)
 ·obtain ⟨_,f1,f2,f3,T2,hF,rfl⟩ := hRE.resolve_right (fun h => h18 h.1)
  have hU4 : UnsV (us ++ [(((kindOf (Ac l).1,noHd,[],0) : UnpR),(Ac l).2.1.length)]) (cs ++ [.int .i64 ((kindOf (Ac l).1 : Nat) : Int),.string ⟨#[]⟩,.string ⟨#[]⟩,.slice none 0 0,.int .i64 0,.int .u8 0,.slice none 0 0,.int .i64 0]) G := hmv.snoc ⟨none,0,none,0,rfl,(RdV.nil).mono (fun f hf => by cases hf),(RdV.nil).mono (fun f hf => by cases hf)⟩
  refine Cr<|Em rfl rfl<|Em rfl rfl ?_
  refine Ak (OpX.pick [] (F:=(Lm ++ (Lr ++ G)) ++ ([f1,f2,f3] ++ T2)) rfl (Au rfl Tryz.call23 (kind_spec hs _))) rfl ?_; rintro _ _ ⟨_,⟨rfl,rfl⟩,rfl⟩; refine Ab (L2:=(_)) rfl ?_
  refine Aa (Eu (v:=.agg #[.int .i64 ((kindOf (Ac l).1 : Nat) : Int),.string ⟨#[]⟩,.string ⟨#[]⟩,.slice none 0 0,.int .i64 0,.int .u8 0,.slice none 0 0,.int .i64 0]) [(0,.int .i64 ((kindOf (Ac l).1 : Nat) : Int))] rfl (fun w => by simp [Instr.build,Instr.fill,Value.cells,Tryz.zeroValue29])) rfl<|Ak (Dd (vs:=[.int .i64 ((kindOf (Ac l).1 : Nat) : Int),.string ⟨#[]⟩,.string ⟨#[]⟩,.slice none 0 0,.int .i64 0,.int .u8 0,.slice none 0 0,.int .i64 0]) (e:=29) [(0,.agg #[.int .i64 ((kindOf (Ac l).1 : Nat) : Int),.string ⟨#[]⟩,.string ⟨#[]⟩,.slice none 0 0,.int .i64 0,.int .u8 0,.slice none 0 0,.int .i64 0])] rfl (unRun _ _ _ _ _ _ _ _ _ _ _ _)) rfl ?_
  rintro _ _ ⟨yb,rfl,rfl⟩
  refine Eb (L2:=Lm ++ ([⟨yb,0,[.int .i64 ((kindOf (Ac l).1 : Nat) : Int),.string ⟨#[]⟩,.string ⟨#[]⟩,.slice none 0 0,.int .i64 0,.int .u8 0,.slice none 0 0,.int .i64 0]⟩] ++ ((Lr ++ G) ++ ([f1,f2,f3] ++ T2)))) (Same.perm (permF fun x => by simp only [List.append_eq,List.count_append,List.count_cons,List.count_nil]; omega)) ?_
  refine Ak (X.append (P:=Tryz.prog) (s:=8) (bytes:=112) (t:=49) (xs:=cs) (ys:=[.int .i64 ((kindOf (Ac l).1 : Nat) : Int),.string ⟨#[]⟩,.string ⟨#[]⟩,.slice none 0 0,.int .i64 0,.int .u8 0,.slice none 0 0,.int .i64 0]) (Lf:=Lm) Tu49 infoU rfl rfl rfl rfl (by decide) rfl rfl hsm rfl (.inr ⟨yb,0,rfl,Reads.mem (k:=0) (List.mem_append_right _ (.head _)) rfl⟩) rfl (by omega) (by omega)) rfl ?_
  rintro v2 _ ⟨Lm3,hsm3,rfl⟩
  refine Fw (A:=[] ++ ((Lm3 ++ (Lr ++ G)) ++ ([f1,f2,f3] ++ T2))) (F:=[⟨yb,0,[.int .i64 ((kindOf (Ac l).1 : Nat) : Int),.string ⟨#[]⟩,.string ⟨#[]⟩,.slice none 0 0,.int .i64 0,.int .u8 0,.slice none 0 0,.int .i64 0]⟩]) (Same.perm (permF fun x => by simp only [List.append_eq,List.count_append,List.count_cons,List.count_nil]; omega)) ?_
  obtain ⟨la3,lc3,rfl⟩ := hsm3.form
  refine Em rfl rfl<|Em rfl rfl ?_
  refine Ak (Au rfl Tryz.call32 (len_mem hs hF (by simp))) rfl ?_; rintro _ _ ⟨rfl,rfl⟩; refine Ab (L2:=(_)) rfl ?_
  refine Ak (Dd (vs:=[.int .i64 (((Ac l).2.1.length : Nat) : Int)]) (e:=3) [(0,.int .i64 (((Ac l).2.1.length : Nat) : Int))] rfl (fun w => by simp [Instr.buildSlice,Instr.fill,Value.cells,newRow,Tryz.runUnderlying23,Tryz.typeInfo3]; rw [arr1])) rfl ?_
  rintro _ _ ⟨yb,rfl,rfl⟩
  refine Eb (L2:=Lr ++ ([⟨yb,0,[.int .i64 (((Ac l).2.1.length : Nat) : Int)]⟩] ++ ((Lm3 ++ G) ++ ([f1,f2,f3] ++ T2)))) (Same.perm (permF fun x => by simp only [List.append_eq,List.count_append,List.count_cons,List.count_nil]; omega)) ?_
  refine Ak (Gu (L:=_) (xs:=us.map (·.2)) (ys:=[(Ac l).2.1.length]) (Lf:=Lr) rfl rfl hsr rfl (.inr ⟨yb,0,rfl,Reads.mem (k:=0) (List.mem_append_right _ (.head _)) rfl⟩) (by rw [List.length_map]; simp only [List.length_cons,List.length_nil]; omega)) rfl ?_
  rintro v3 _ ⟨Lr3,hsr3,rfl⟩
  refine Fw (A:=[] ++ ((Lm3 ++ (Lr3 ++ G)) ++ ([f1,f2,f3] ++ T2))) (F:=[⟨yb,0,[.int .i64 (((Ac l).2.1.length : Nat) : Int)]⟩]) (Same.perm (permF fun x => by simp only [List.append_eq,List.count_append,List.count_cons,List.count_nil]; omega)) ?_
  rw [show us.map (·.2) ++ [(Ac l).2.1.length] = (us ++ [(((kindOf (Ac l).1,noHd,[],0) : UnpR),(Ac l).2.1.length)]).map (·.2) by rw [List.map_append]; rfl] at hsr3
  refine Ea rfl rfl<|Ea rfl rfl<|Ek6 2 3 4 5 6 18 rfl<|Av ?_
  refine ⟨_,_,rfl,rfl,Lm3 ++ (Lr3 ++ G),_,Same.refl _,?_⟩
  exact members_end (by rw [List.length_append,List.length_singleton]; omega) (hml _ (memL_bad h18)) hU4 (by rw [List.length_append]; exact hsm3) hsr3
 obtain ⟨_,hZ⟩ := hRE.resolve_left (fun h => h.1 h18)
 obtain rfl := hzv h18
 refine Ar<|Cr<|Em rfl rfl ?_
 refine Ak (Au rfl Tryz.call33 (multi_zat hZ false _)) rfl ?_; rintro _ _ ⟨LZm,rfl,hZm,rfl⟩; refine Ab (L2:=(_)) rfl ?_
 refine Ek6 2 3 4 5 6 18 rfl<|Cr<|Em rfl rfl ?_
 refine Ak (Au rfl Tryz.call24 (rest_in hs hc (readHead_mod _) ⟨none,0,0,rfl,by decide,.inl rfl⟩ (Nat.le_trans (gzR_len _ _ (by have := Gy l; omega)) (by decide)) hZm _)) rfl ?_; rintro _ _ ⟨a1,k1,a2,k2,GL,T9,rfl,hU,hT,rfl⟩; refine Ab (L2:=(_)) rfl ?_
 refine Am (v:=.agg #[.int .i64 0,.string (Ac l).2.2.name,.string (Ac l).2.2.comment,.slice a1 ((Ac l).2.2.extra.getD []).length k1,.int .i64 (((Ac l).2.2.mod : Nat) : Int),.int .u8 (((Ac l).2.2.os : Nat) : Int),.slice a2 (gzR false (Ac l).2.1).1.length k2,.int .i64 (((gzR false (Ac l).2.1).2.1 : Nat) : Int)]) rfl ?_
 refine Ak (Dy Tryz.zeroValue29) rfl ?_; rintro _ _ ⟨b7,rfl,rfl⟩; refine Ab (L2:=(_::_)) rfl ?_
 refine Ao (Bi 0 (k:=0) rfl rfl rfl rfl rfl rfl Tz29 rfl) ?_; rintro _ _ ⟨rfl,rfl⟩; refine Ab (L2:=(_::_)) rfl ?_
 refine Ab (L2:=⟨b7,0,[.int .i64 0,.string (Ac l).2.2.name,.string (Ac l).2.2.comment,.slice a1 ((Ac l).2.2.extra.getD []).length k1,.int .i64 (((Ac l).2.2.mod : Nat) : Int),.int .u8 (((Ac l).2.2.os : Nat) : Int),.slice a2 (gzR false (Ac l).2.1).1.length k2,.int .i64 (((gzR false (Ac l).2.1).2.1 : Nat) : Int)]⟩::((Lm ++ (Lr ++ G)) ++ (GL ++ T9))) rfl<|Ek7 2 3 4 5 6 7 18 rfl ?_
 obtain ⟨w1,w2,w3,LZ2,⟨l0,hA0⟩,hA1,hOld,rfl⟩ := hT
 obtain ⟨l3,hA3,hl3⟩ : ∃ l3,(Hh K ea hs rb a c data).At l3 w1 w2 w3 ∧ ((gzR false (Ac l).2.1).2.1 = 1 → l3 = (gzR false (Ac l).2.1).2.2) := by
   by_cases hk : (gzR false (Ac l).2.1).2.1 = 1
   · exact ⟨_,hA1 rfl hk,fun _ => rfl⟩
   · exact ⟨l0,hA0,fun h => absurd h hk⟩
 have hU4 : UnsV (us ++ [(((0,(Ac l).2.2,(gzR false (Ac l).2.1).1,(gzR false (Ac l).2.1).2.1) : UnpR),l3.length)]) (cs ++ [.int .i64 0,.string (Ac l).2.2.name,.string (Ac l).2.2.comment,.slice a1 ((Ac l).2.2.extra.getD []).length k1,.int .i64 (((Ac l).2.2.mod : Nat) : Int),.int .u8 (((Ac l).2.2.os : Nat) : Int),.slice a2 (gzR false (Ac l).2.1).1.length k2,.int .i64 (((gzR false (Ac l).2.1).2.1 : Nat) : Int)]) (G ++ GL) := by
   refine (hmv.mono (fun f hf => by simp [hf])).snoc ⟨a1,k1,a2,k2,rfl,?_,?_⟩
   · obtain ⟨ev,bv,e,q1,q2⟩ := hU
     rw [unV,unV] at e
     injection e with e
     simp only [Array.mk.injEq,List.cons.injEq,and_true,true_and] at e
     obtain ⟨rfl,rfl⟩ := e
     exact q1.mono (fun f hf => by simp [hf])
   · obtain ⟨ev,bv,e,q1,q2⟩ := hU
     rw [unV,unV] at e
     injection e with e
     simp only [Array.mk.injEq,List.cons.injEq,and_true,true_and] at e
     obtain ⟨rfl,rfl⟩ := e
     exact q2.mono (fun f hf => by simp [hf])
 refine Cr<|Em rfl rfl<|Ah (Bn 0 (k:=0) rfl rfl rfl rfl Tryz.isAgg29 Tz29) rfl<|Ak (Dd (vs:=[.int .i64 0,.string (Ac l).2.2.name,.string (Ac l).2.2.comment,.slice a1 ((Ac l).2.2.extra.getD []).length k1,.int .i64 (((Ac l).2.2.mod : Nat) : Int),.int .u8 (((Ac l).2.2.os : Nat) : Int),.slice a2 (gzR false (Ac l).2.1).1.length k2,.int .i64 (((gzR false (Ac l).2.1).2.1 : Nat) : Int)]) (e:=29) [(0,.agg #[.int .i64 0,.string (Ac l).2.2.name,.string (Ac l).2.2.comment,.slice a1 ((Ac l).2.2.extra.getD []).length k1,.int .i64 (((Ac l).2.2.mod : Nat) : Int),.int .u8 (((Ac l).2.2.os : Nat) : Int),.slice a2 (gzR false (Ac l).2.1).1.length k2,.int .i64 (((gzR false (Ac l).2.1).2.1 : Nat) : Int)])] rfl (unRun _ _ _ _ _ _ _ _ _ _ _ _)) rfl ?_
 rintro _ _ ⟨yb,rfl,rfl⟩
 refine Eb (L2:=Lm ++ ([⟨yb,0,[.int .i64 0,.string (Ac l).2.2.name,.string (Ac l).2.2.comment,.slice a1 ((Ac l).2.2.extra.getD []).length k1,.int .i64 (((Ac l).2.2.mod : Nat) : Int),.int .u8 (((Ac l).2.2.os : Nat) : Int),.slice a2 (gzR false (Ac l).2.1).1.length k2,.int .i64 (((gzR false (Ac l).2.1).2.1 : Nat) : Int)]⟩,⟨b7,0,[.int .i64 0,.string (Ac l).2.2.name,.string (Ac l).2.2.comment,.slice a1 ((Ac l).2.2.extra.getD []).length k1,.int .i64 (((Ac l).2.2.mod : Nat) : Int),.int .u8 (((Ac l).2.2.os : Nat) : Int),.slice a2 (gzR false (Ac l).2.1).1.length k2,.int .i64 (((gzR false (Ac l).2.1).2.1 : Nat) : Int)]⟩] ++ ((Lr ++ G) ++ (GL ++ (w1::w2::w3::LZ2))))) (Same.perm (permF fun x => by simp only [List.append_eq,List.count_append,List.count_cons,List.count_nil]; omega)) ?_
 refine Ak (X.append (P:=Tryz.prog) (s:=8) (bytes:=112) (t:=49) (xs:=cs) (ys:=[.int .i64 0,.string (Ac l).2.2.name,.string (Ac l).2.2.comment,.slice a1 ((Ac l).2.2.extra.getD []).length k1,.int .i64 (((Ac l).2.2.mod : Nat) : Int),.int .u8 (((Ac l).2.2.os : Nat) : Int),.slice a2 (gzR false (Ac l).2.1).1.length k2,.int .i64 (((gzR false (Ac l).2.1).2.1 : Nat) : Int)]) (Lf:=Lm) Tu49 infoU rfl rfl rfl rfl (by decide) rfl rfl hsm rfl (.inr ⟨yb,0,rfl,Reads.mem (k:=0) (List.mem_append_right _ (.head _)) rfl⟩) rfl (by omega) (by omega)) rfl ?_
 rintro v2 _ ⟨Lm3,hsm3,rfl⟩
 refine Fw (A:=[⟨b7,0,[.int .i64 0,.string (Ac l).2.2.name,.string (Ac l).2.2.comment,.slice a1 ((Ac l).2.2.extra.getD []).length k1,.int .i64 (((Ac l).2.2.mod : Nat) : Int),.int .u8 (((Ac l).2.2.os : Nat) : Int),.slice a2 (gzR false (Ac l).2.1).1.length k2,.int .i64 (((gzR false (Ac l).2.1).2.1 : Nat) : Int)]⟩] ++ ((Lm3 ++ (Lr ++ G)) ++ (GL ++ (w1::w2::w3::LZ2)))) (F:=[⟨yb,0,[.int .i64 0,.string (Ac l).2.2.name,.string (Ac l).2.2.comment,.slice a1 ((Ac l).2.2.extra.getD []).length k1,.int .i64 (((Ac l).2.2.mod : Nat) : Int),.int .u8 (((Ac l).2.2.os : Nat) : Int),.slice a2 (gzR false (Ac l).2.1).1.length k2,.int .i64 (((gzR false (Ac l).2.1).2.1 : Nat) : Int)]⟩]) (Same.perm (permF fun x => by simp only [List.append_eq,List.count_append,List.count_cons,List.count_nil]; omega)) ?_
 obtain ⟨la3,lc3,rfl⟩ := hsm3.form
 refine Em rfl rfl<|Em rfl rfl ?_
 refine Ak (Au rfl Tryz.call32 (len_mem hs hA3 (by simp))) rfl ?_; rintro _ _ ⟨rfl,rfl⟩; refine Ab (L2:=(_::_)) rfl ?_
 refine Ak (Dd (vs:=[.int .i64 ((l3.length : Nat) : Int)]) (e:=3) [(0,.int .i64 ((l3.length : Nat) : Int))] rfl (fun w => by simp [Instr.buildSlice,Instr.fill,Value.cells,newRow,Tryz.runUnderlying23,Tryz.typeInfo3]; rw [arr1])) rfl ?_
 rintro _ _ ⟨yb,rfl,rfl⟩
 refine Eb (L2:=Lr ++ ([⟨yb,0,[.int .i64 ((l3.length : Nat) : Int)]⟩,⟨b7,0,[.int .i64 0,.string (Ac l).2.2.name,.string (Ac l).2.2.comment,.slice a1 ((Ac l).2.2.extra.getD []).length k1,.int .i64 (((Ac l).2.2.mod : Nat) : Int),.int .u8 (((Ac l).2.2.os : Nat) : Int),.slice a2 (gzR false (Ac l).2.1).1.length k2,.int .i64 (((gzR false (Ac l).2.1).2.1 : Nat) : Int)]⟩] ++ ((Lm3 ++ G) ++ (GL ++ (w1::w2::w3::LZ2))))) (Same.perm (permF fun x => by simp only [List.append_eq,List.count_append,List.count_cons,List.count_nil]; omega)) ?_
 refine Ak (Gu (L:=_) (xs:=us.map (·.2)) (ys:=[l3.length]) (Lf:=Lr) rfl rfl hsr rfl (.inr ⟨yb,0,rfl,Reads.mem (k:=0) (List.mem_append_right _ (.head _)) rfl⟩) (by rw [List.length_map]; simp only [List.length_cons,List.length_nil]; omega)) rfl ?_
 rintro v3 _ ⟨Lr3,hsr3,rfl⟩
 refine Fw (A:=[⟨b7,0,[.int .i64 0,.string (Ac l).2.2.name,.string (Ac l).2.2.comment,.slice a1 ((Ac l).2.2.extra.getD []).length k1,.int .i64 (((Ac l).2.2.mod : Nat) : Int),.int .u8 (((Ac l).2.2.os : Nat) : Int),.slice a2 (gzR false (Ac l).2.1).1.length k2,.int .i64 (((gzR false (Ac l).2.1).2.1 : Nat) : Int)]⟩] ++ ((Lm3 ++ (Lr3 ++ G)) ++ (GL ++ (w1::w2::w3::LZ2)))) (F:=[⟨yb,0,[.int .i64 ((l3.length : Nat) : Int)]⟩]) (Same.perm (permF fun x => by simp only [List.append_eq,List.count_append,List.count_cons,List.count_nil]; omega)) ?_
 rw [show us.map (·.2) ++ [l3.length] = (us ++ [(((0,(Ac l).2.2,(gzR false (Ac l).2.1).1,(gzR false (Ac l).2.1).2.1) : UnpR),l3.length)]).map (·.2) by rw [List.map_append]; rfl] at hsr3
 refine Ea rfl rfl<|Ea rfl rfl<|Ek7 2 3 4 5 6 7 18 rfl<|Ap<|Cr<|Aa (Ae rfl fa29_3) rfl<|Ah (An 0 (k:=7) rfl rfl rfl Ta3) rfl<|Aa (Fq (b:=((1 : Nat) : Int)) rfl rfl) rfl<|Ek8 2 3 4 5 6 7 18 45 rfl<|Be rfl (fun h45 => ?_) (fun h45 => ?_)
 ·refine Cr<|Em rfl rfl<|Em rfl rfl<|Ea rfl rfl<|Ea rfl rfl<|Ek8 2 3 4 5 6 7 18 45 rfl<|Av ?_
  refine ⟨_,_,rfl,rfl,Lm3 ++ (Lr3 ++ (G ++ GL)),⟨b7,0,[.int .i64 0,.string (Ac l).2.2.name,.string (Ac l).2.2.comment,.slice a1 ((Ac l).2.2.extra.getD []).length k1,.int .i64 (((Ac l).2.2.mod : Nat) : Int),.int .u8 (((Ac l).2.2.os : Nat) : Int),.slice a2 (gzR false (Ac l).2.1).1.length k2,.int .i64 (((gzR false (Ac l).2.1).2.1 : Nat) : Int)]⟩::w1::w2::w3::LZ2,Same.perm (permF fun x => by simp only [List.append_eq,List.count_append,List.count_cons,List.count_nil]; omega),?_⟩
  exact members_end (by rw [List.length_append,List.length_singleton]; omega) (hml _ (memL_last h18 (by omega))) hU4 (by rw [List.length_append]; exact hsm3) hsr3
 have hk1 : (gzR false (Ac l).2.1).2.1 = 1 := by omega
 obtain rfl := hl3 hk1
 have hglt := gz_rest_lt hk1
 have hrl := Gy l
 refine Ar<|Al<|Em rfl rfl<|Em rfl rfl<|Aa (Ej rfl conc61) rfl ?_
 refine Eb (L2:=([⟨b7,0,[.int .i64 0,.string (Ac l).2.2.name,.string (Ac l).2.2.comment,.slice a1 ((Ac l).2.2.extra.getD []).length k1,.int .i64 (((Ac l).2.2.mod : Nat) : Int),.int .u8 (((Ac l).2.2.os : Nat) : Int),.slice a2 (gzR false (Ac l).2.1).1.length k2,.int .i64 (((gzR false (Ac l).2.1).2.1 : Nat) : Int)]⟩] ++ ((Lm3 ++ (Lr3 ++ G)) ++ GL)) ++ (w1::w2::w3::LZ2)) (Same.perm (permF fun x => by simp only [List.append_eq,List.count_append,List.count_cons,List.count_nil]; omega)) ?_
 refine Ak (Au rfl Tryz.call34 (reset_inG hs (Hh K ea hs rb a c data) (gzR false (Ac l).2.1).2.2 w1 w2 w3 zb hA3 hOld _)) rfl ?_; rintro _ _ ⟨LE,rfl,hRE4,rfl⟩; refine Ab (L2:=(_)) rfl ?_
 refine Fw (A:=(Lm3 ++ (Lr3 ++ (G ++ GL))) ++ LE) (F:=[⟨b7,0,[.int .i64 0,.string (Ac l).2.2.name,.string (Ac l).2.2.comment,.slice a1 ((Ac l).2.2.extra.getD []).length k1,.int .i64 (((Ac l).2.2.mod : Nat) : Int),.int .u8 (((Ac l).2.2.os : Nat) : Int),.slice a2 (gzR false (Ac l).2.1).1.length k2,.int .i64 (((gzR false (Ac l).2.1).2.1 : Nat) : Int)]⟩]) (Same.perm (permF fun x => by simp only [List.append_eq,List.count_append,List.count_cons,List.count_nil]; omega)) ?_
 refine Ea rfl rfl<|Ek8 2 3 4 5 6 7 18 45 rfl ?_
 refine ⟨_,?_,(gzR false (Ac l).2.1).2.2,_,zb,us ++ [(((0,(Ac l).2.2,(gzR false (Ac l).2.1).1,(gzR false (Ac l).2.1).2.1) : UnpR),(gzR false (Ac l).2.1).2.2.length)],cs ++ [.int .i64 0,.string (Ac l).2.2.name,.string (Ac l).2.2.comment,.slice a1 ((Ac l).2.2.extra.getD []).length k1,.int .i64 (((Ac l).2.2.mod : Nat) : Int),.int .u8 (((Ac l).2.2.os : Nat) : Int),.slice a2 (gzR false (Ac l).2.1).1.length k2,.int .i64 (((gzR false (Ac l).2.1).2.1 : Nat) : Int)],_,_,Lm3,Lr3,G ++ GL,LE,rfl,rfl,hRE4,(fun _ => rfl),(by rw [List.length_append]; exact hsm3),hsr3,hU4,(fun u2 h => by rw [List.append_assoc]; exact hml _ (memL_next h18 hk1 h)),(by rw [List.length_append,List.length_singleton]; omega),rfl⟩; omega
theorem members_spec {K : Known} {ea : Fin 5 → Addr} (hs : Sents K ea) (hc : Codes K) {v : Value} {data : List UInt8} (hv : BA K v data) (hl : data.length ≤ 65536) (G : Frags) :
    Fn Tryz.prog K 17 #[v] G fun r L => ∃ GL,MembersR data r GL ∧ L = G ++ GL := by
  refine Fn.lose (Fn.frame (L:=[]) (F:=G) (members_walk hs hc v data hv hl)) ?_
  rintro r L ⟨L1,⟨L2,J,hS,hU⟩,rfl⟩
  refine ⟨G ++ L2,J,?_,L2,hU,rfl⟩
  have := Same.appendL G hS
  rw [← List.append_assoc] at this
  exact (Same.perm List.perm_append_comm).trans this
section
variable {P : Program} {K : Known} {n : Nat} {ty : TypeId} {env : Env} {L : Frags}
theorem S.loadR {x : Operand} {t : TypeId} {b o j : Nat} {vs : List Value} {v : Value} (hr : Reads K L b o vs) (h : ev? env x = some (.pointer (some ⟨b,o + j,none⟩))) (hv : vs[j]? = some v) (hag : ∀ w,(isAgg t).run P w = .ok false w) : OpS P K n (.load t x) ty env L v := by
  intro a w hf hw
  simp only [exop,execOp,hf.eval h]
  have := run_load1 (P:=P) hag (hr w hw j v hv)
  simp [this]
theorem S.loadAR {x : Operand} {t : TypeId} {b o k m : Nat} {vs cs : List Value} (hr : Reads K L b o vs) (h : ev? env x = some (.pointer (some ⟨b,o + k,none⟩))) (hv : (vs.drop k).take m = cs) (hlen : cs.length = m) (hag : ∀ w,(isAgg t).run P w = .ok true w) (hsz : ∀ w,(sizeOf t).run P w = .ok m w) :
    OpS P K n (.load t x) ty env L (.agg cs.toArray) := by
  intro a w hf hw
  simp only [exop,execOp,hf.eval h]
  have h2 := run_loadAgg (P:=P) (w:=w) (b:=b) (o:=o + k) hag hsz hlen (fun j v hj => by
    rw [← hv,List.getElem?_take] at hj
    split at hj
    · rw [List.getElem?_drop] at hj
      have := hr w hw (k + j) v hj
      rw [Nat.add_assoc]; exact this
    · cases hj)
  simp [h2]
end
theorem chain_le : ∀ {ms : List PM} {l l2 : List UInt8} {i : Nat} {m : PM},Chain l ms l2 → ms[i]? = some m → m.left ≤ l.length
  | [],l,l2,i,m,_,hi => by simp at hi
  | a::r,l,l2,i,m,⟨rest,⟨h1,h2,h3⟩,h4,h5⟩,hi => by
    have hg : (gzR false (Ac l).2.1).2.1 = 1 := by rw [h3]
    have h6 := gz_rest_lt hg
    have h7 := Gy l
    rw [h3] at h6
    simp only at h6
    cases i with
    | zero =>
      simp only [List.getElem?_cons_zero,Option.some.injEq] at hi
      subst hi; omega
    | succ i =>
      rw [List.getElem?_cons_succ] at hi
      have := chain_le h5 hi
      omega
set_option maxHeartbeats 1000000
theorem law10 {K : Known} {ea : Fin 5 → Addr} (hs : Sents K ea) (hc : Codes K) (hS : SpT K) (data : List UInt8) (a : Option Addr) (c : Nat) (hv : BA K (.slice a data.length c) data) : Fn Tryz.prog K 6 #[.slice a data.length c] ([]) (fun r L => r = .bool true) := by
 refine Fn.intro (args:=[.slice a data.length c]) (RR:=Ret1 2 _) Tryz.func6 rfl rfl Tryz.ntmps6 (res1 Tryz.results6) ?_
 refine Bl (env2:=[(0,.slice a data.length c)]) rfl<|Cr<|Ea rfl rfl<|Ek2 0 2 rfl<|Ap<|Cr<|Em rfl rfl<|Aa (Bk rfl Tu25) rfl<|Aa (Gg (b:=((2147483647 : Nat) : Int)) rfl rfl) rfl<|Ek3 0 2 12 rfl<|Be rfl (fun h12 => ?_) (fun h12 => ?_)
 ·refine Cr<|Ea rfl rfl<|Ek3 0 2 12 rfl<|Av ?_
  exact ⟨_,rfl,rfl⟩
 refine Ar<|Ap<|Cr<|Em rfl rfl<|Aa (Bk rfl Tu25) rfl<|Aa (Gg (b:=((65536 : Nat) : Int)) rfl rfl) rfl<|Ek4 0 2 12 15 rfl<|Be rfl (fun h15 => ?_) (fun h15 => ?_)
 ·refine Cr<|Ea rfl rfl<|Ek4 0 2 12 15 rfl<|Av ?_
  exact ⟨_,rfl,rfl⟩
 have hl : data.length ≤ 65536 := by omega
 obtain ⟨hD,hcap⟩ := hv.db
 refine Ar<|Cr<|Em rfl rfl<|Ak (OpX.pick [] (F:=[]) rfl (Au rfl Tryz.call14 (parse_spec a c data hD hl hcap hS))) rfl ?_
 rintro _ _ ⟨GP,⟨what,why,opened,behind,hd,h2,ms,d2,l2,fd,xa,xn,xc,da,dc,ma,mc,ya,yn,yc,oa,oc,rfl,hx,hdv,hy,ho,hms,hdc,hoc,hfd,hch,hend,hopn,hwy,hemp⟩,rfl⟩
 refine Ab (L2:=GP) (List.append_nil _) ?_
 refine Ak (Dy Tryz.zeroValue45) rfl ?_; rintro _ _ ⟨b3,rfl,rfl⟩; refine Ab (L2:=(_::_)) rfl ?_
 refine Ab (L2:=⟨b3,0,[.int .i64 0,.int .i64 0,.bool false,.string ⟨#[]⟩,.string ⟨#[]⟩,.slice none 0 0,.int .i64 0,.int .u8 0,.slice none 0 0,.slice none 0 0,.bool false,.string ⟨#[]⟩,.string ⟨#[]⟩,.slice none 0 0,.int .i64 0,.int .u8 0,.slice none 0 0,.int .i64 0]⟩::GP) (by kernel_rfl) ?_
 refine Ao (Bi 0 (k:=0) rfl rfl rfl rfl rfl rfl Tz45 rfl) ?_; rintro _ _ ⟨rfl,rfl⟩; refine Ab (L2:=(_::_)) rfl ?_
 refine Ek5 0 2 3 12 15 rfl<|Cr<|Em rfl rfl ?_
 refine Ak (Au rfl Tryz.call17 (members_spec hs hc hv hl (⟨b3,0,[.int .i64 ((what : Nat) : Int),.int .i64 ((why : Nat) : Int),.bool opened,.string hd.name,.string hd.comment,.slice xa xn xc,.int .i64 ((hd.mod : Nat) : Int),.int .u8 ((hd.os : Nat) : Int),.slice da fd.length dc,.slice ma ms.length mc,.bool behind,.string h2.name,.string h2.comment,.slice ya yn yc,.int .i64 ((h2.mod : Nat) : Int),.int .u8 ((h2.os : Nat) : Int),.slice oa d2.length oc,.int .i64 0]⟩::GP))) rfl ?_; rintro _ _ ⟨GM,⟨us,lb,lo,lc,rb,ro,rc,ucs,rfl,hul,hmem,huv,hur,hrr⟩,rfl⟩; refine Ab (L2:=(_::_)) rfl ?_
 refine Em rfl rfl<|Aa (Bb rfl rfl) rfl<|Aa (Bb rfl rfl) rfl<|Ea rfl rfl<|Ea rfl rfl<|Ek7 0 2 3 4 5 12 15 rfl ?_
 obtain ⟨us2,hus,hm2⟩ := memL_chain hch hmem
 have hu0 : 0 < us2.length := by cases us2 with | nil => exact hm2.elim | cons => simp
 have hul1 : us.length = ms.length + us2.length := by rw [hus,List.length_append,List.length_map]
 obtain ⟨mcs,hmv,hmsr⟩ := hms
 refine Ap<|Cr<|Em rfl rfl<|Aa (Bk rfl Tu49) rfl<|Aa (Ae rfl fa45_5) rfl<|Ah (An 0 (k:=9) rfl rfl rfl Tryz.isAgg41) rfl<|Aa (Bk rfl Tu41) rfl<|Aa (Dk rfl rfl) rfl<|Am (v:=.bool false) (congrArg Value.bool (decide_eq_false (by omega)))<|Em rfl rfl<|Aj 29 rfl rfl<|Em rfl rfl ?_
 refine Aj 29 rfl rfl<|Aa (Bk rfl Tu49) rfl<|Aj 29 rfl rfl<|Em rfl rfl<|Aj 29 rfl rfl<|Aa (Bk rfl Tu23) rfl<|Aj 29 rfl rfl<|Aa (Fq rfl rfl) rfl<|Am (v:=.bool false) (congrArg Value.bool (decide_eq_false (by omega)))<|Aa (Bs rfl rfl) rfl<|Ek8 0 2 3 4 5 12 15 35 rfl<|Gw rfl (rfl) ?_
 refine Ar<|Ap<|Cr<|Aa (Ae rfl fa45_5) rfl<|Ah (An 0 (k:=9) rfl rfl rfl Tryz.isAgg41) rfl<|Aa (Bk rfl Tu41) rfl<|Em rfl rfl<|Ek11 0 2 3 4 5 12 15 35 37 38 39 rfl<|Ax<|Bx (fun mm ee ll => ∃ (i : Nat),keeps ee [0,3,4,5,37,38,39] = some [(0,.slice a data.length c),(3,.pointer (some ⟨b3,0,none⟩)),(4,.slice (some ⟨lb,lo,none⟩) us.length lc),(5,.slice (some ⟨rb,ro,none⟩) us.length rc),(37,.slice ma ms.length mc),(38,.int .i64 ((ms.length : Nat) : Int)),(39,.int .i64 ((i : Nat) : Int))] ∧ ll = [⟨b3,0,[.int .i64 ((what : Nat) : Int),.int .i64 ((why : Nat) : Int),.bool opened,.string hd.name,.string hd.comment,.slice xa xn xc,.int .i64 ((hd.mod : Nat) : Int),.int .u8 ((hd.os : Nat) : Int),.slice da fd.length dc,.slice ma ms.length mc,.bool behind,.string h2.name,.string h2.comment,.slice ya yn yc,.int .i64 ((h2.mod : Nat) : Int),.int .u8 ((h2.os : Nat) : Int),.slice oa d2.length oc,.int .i64 0]⟩] ++ (GP ++ GM) ∧ (i ≤ ms.length) ∧ mm = ms.length - i) (_) ⟨0,rfl,rfl,Nat.zero_le _,rfl⟩ ?_
 rintro m0 _ _ ⟨i,hk0,rfl,hi,hm0⟩
 refine Ba _ hk0<|Cr<|Aa (Dk rfl rfl) rfl<|Ek8 0 3 4 5 37 38 39 40 rfl<|Ap<|Be rfl (fun h40 => ?_) (fun h40 => ?_)
 ·have hi2 : i < ms.length := by omega
  obtain ⟨m,hm⟩ : ∃ m,ms[i]? = some m := ⟨_,List.getElem?_eq_getElem hi2⟩
  obtain ⟨mb,mo,rfl,hmr⟩ := hmsr.resolve_left (fun h => by rw [h] at hi2; simp at hi2)
  obtain ⟨c1,⟨xa1,xn1,xc1,oa1,oc1,rfl,hx1,ho1⟩,hc1⟩ := hmv.get hm
  have hu : us[i]? = some (mu m) := by rw [hus,List.getElem?_append_left (by rw [List.length_map]; exact hi2),List.getElem?_map,hm]; rfl
  obtain ⟨c2,⟨xa2,xc2,oa2,oc2,rfl,hx2,ho2⟩,hc2⟩ := huv.get hu
  obtain ⟨hn1,hrx1⟩ := hx1.same
  subst hn1
  obtain ⟨_,hro1⟩ := ho1.same
  obtain ⟨_,hrx2⟩ := hx2.same
  obtain ⟨_,hro2⟩ := ho2.same
  have hleft := chain_le hch hm
  refine Ar<|Ap<|Ax<|Cr<|Em rfl rfl<|Aa (Bw rfl rfl (by omega) Tu41 Tz43) rfl<|Ah (S.loadAR (k:=i * 7) (hmr K _ (fun f hf => by simp [hf])) rfl hc1 rfl Tryz.isAgg43 Tz43) rfl ?_
  refine Ak (Dy Tryz.zeroValue43) rfl ?_; rintro _ _ ⟨b7,rfl,rfl⟩; refine Ab (L2:=(_::_::_)) rfl ?_
  refine Ab (L2:=⟨b7,0,[.string ⟨#[]⟩,.string ⟨#[]⟩,.slice none 0 0,.int .i64 0,.int .u8 0,.slice none 0 0,.int .i64 0]⟩::⟨b3,0,[.int .i64 ((what : Nat) : Int),.int .i64 ((why : Nat) : Int),.bool opened,.string hd.name,.string hd.comment,.slice xa xn xc,.int .i64 ((hd.mod : Nat) : Int),.int .u8 ((hd.os : Nat) : Int),.slice da fd.length dc,.slice (some ⟨mb,mo,none⟩) ms.length mc,.bool behind,.string h2.name,.string h2.comment,.slice ya yn yc,.int .i64 ((h2.mod : Nat) : Int),.int .u8 ((h2.os : Nat) : Int),.slice oa d2.length oc,.int .i64 0]⟩::(GP ++ GM)) (by kernel_rfl)<|Ea rfl rfl ?_
  refine Ao (Bi 0 (k:=0) rfl rfl rfl rfl rfl rfl Tz43 rfl) ?_; rintro _ _ ⟨rfl,rfl⟩; refine Ab (L2:=(_::_::_)) rfl ?_
  refine Ek10 0 3 4 5 6 7 37 38 39 40 rfl<|Cr<|Em rfl rfl<|Em rfl rfl<|Aa (Bw rfl rfl (by omega) Tu49 Tz29) rfl<|Ah (S.loadAR (k:=i * 8) (hur K _ (fun f hf => by simp [hf])) rfl hc2 rfl Tryz.isAgg29 Tz29) rfl ?_
  refine Ak (Dy Tryz.zeroValue29) rfl ?_; rintro _ _ ⟨b8,rfl,rfl⟩; refine Ab (L2:=(_::_::_::_)) rfl ?_
  refine Ab (L2:=⟨b8,0,[.int .i64 0,.string ⟨#[]⟩,.string ⟨#[]⟩,.slice none 0 0,.int .i64 0,.int .u8 0,.slice none 0 0,.int .i64 0]⟩::⟨b7,0,[.string m.hd.name,.string m.hd.comment,.slice xa1 (m.hd.extra.getD []).length xc1,.int .i64 ((m.hd.mod : Nat) : Int),.int .u8 ((m.hd.os : Nat) : Int),.slice oa1 m.data.length oc1,.int .i64 ((data.length - m.left : Nat) : Int)]⟩::⟨b3,0,[.int .i64 ((what : Nat) : Int),.int .i64 ((why : Nat) : Int),.bool opened,.string hd.name,.string hd.comment,.slice xa xn xc,.int .i64 ((hd.mod : Nat) : Int),.int .u8 ((hd.os : Nat) : Int),.slice da fd.length dc,.slice (some ⟨mb,mo,none⟩) ms.length mc,.bool behind,.string h2.name,.string h2.comment,.slice ya yn yc,.int .i64 ((h2.mod : Nat) : Int),.int .u8 ((h2.os : Nat) : Int),.slice oa d2.length oc,.int .i64 0]⟩::(GP ++ GM)) (by kernel_rfl) ?_
  refine Ao (Bi 0 (k:=0) rfl rfl rfl rfl rfl rfl Tz29 rfl) ?_; rintro _ _ ⟨rfl,rfl⟩; refine Ab (L2:=(_::_::_::_)) rfl ?_
  refine Ek11 0 3 4 5 6 7 8 37 38 39 40 rfl<|Ap<|Br [0,1,2,4,8,24,40,72,136,256,768,256,2304,5376,8448,16640,40960,65536,196608,65536,589824,1376256,2162688,4259840,10485760,16777216,16777216,117440512,150994944,16777216,553648128,16777216,2164260864,5385486336,8875147264,17196646400] (.pure 0 0 (.seg [(1,1),(2,3),(3,7),(4,15),(5,31),(6,63),(7,127),(8,255),(9,6655),(10,7167),(11,2047),(12,4095)] (.alt 13 (.pure 14 16383 (.pure 15 32767 (.pure 16 65535 (.pure 17 1703935 (.pure 19 524287 (.seg [(18,1835007),(20,1048575)] (.alt 21 (.pure 22 4194303 (.pure 23 8388607 (.pure 24 16777215 (.pure 25 16743661567 (.pure 26 16710107135 (.pure 27 16777215999 (.pure 29 6979321855 (.pure 30 7516192767 (.pure 31 2147483647 (.seg [(28,16911433727),(32,4294967295),(33,8589934591),(34,17179869183),(35,34359738367)] .done)))))))))) .stop))))))) .stop))) mixed (by decide +kernel)<|Ai rfl (Ae rfl fa29_0) rfl<|Dc (by decide)<|Az rfl (An 0 (k:=0) rfl rfl rfl Ta3) rfl<|Bg rfl (Fq (b:=((0 : Nat) : Int)) rfl rfl) rfl<|Dw (v:=.bool false) (congrArg Value.bool (decide_eq_false (by simp [mu])))<|Bg rfl (S.move rfl) rfl<|W.yes 51 rfl rfl rfl (fun a w hf _ => (Ae rfl fa29_3) a w hf) rfl<|W.yes 51 rfl rfl rfl (An 0 (k:=7) rfl rfl rfl Ta3) rfl<|W.yes 51 rfl rfl rfl (fun a w hf _ => (Fq (b:=((1 : Nat) : Int)) rfl rfl) a w hf) rfl ?_
  refine Dw (v:=.bool false) (congrArg Value.bool (decide_eq_false (by simp [mu])))<|Bg rfl (Bs rfl rfl) rfl<|Bg rfl (S.move rfl) rfl<|W.yes 56 rfl rfl rfl (fun a w hf _ => (Ae rfl fa29_1) a w hf) rfl<|W.yes 56 rfl rfl rfl (Bn 0 (k:=1) rfl rfl rfl rfl Ta27 Tz27) rfl<|W.yes 56 rfl rfl rfl (fun a w hf _ => (Ae rfl fa43_0) a w hf) rfl<|W.yes 56 rfl rfl rfl (Bn 1 (k:=0) rfl rfl rfl rfl Ta32 Tz32) rfl<|Db<|Da ?_
  refine O.yes 56 rfl rfl rfl (Au rfl Tryz.call12 (same_spec _ _ _ _ _ _ _ _ _ _ _ _ _ _ (hrx2 K _ (fun f hf => by simp [hf])) (hrx1 K _ (fun f hf => by simp [hf])))) rfl ?_; rintro _ _ ⟨rfl,rfl⟩; refine Bf (L2:=(_::_::_::_)) rfl ?_
  refine Dn (v:=.bool true) (congrArg Value.bool (decide_eq_true ⟨rfl,rfl,rfl,rfl,rfl⟩))<|Hq 56 rfl rfl rfl (OpP.toK (Fr rfl)) rfl<|Ai rfl (Bs rfl rfl) rfl<|Dm rfl rfl rfl<|Hq 64 rfl rfl rfl (OpP.toK (Ae rfl fa29_2)) rfl<|Hq 64 rfl rfl rfl (OpP.toK (Ae rfl fa43_1)) rfl<|Dc (by decide)<|W.yes 64 rfl rfl rfl (An 0 (k:=6) rfl rfl rfl Ta25) rfl<|W.yes 64 rfl rfl rfl (An 1 (k:=5) rfl rfl rfl Ta25) rfl<|Db<|Da ?_
  refine O.yes 64 rfl rfl rfl (Au rfl Tryz.call13 (bytesEqual_spec _ _ _ _ _ _ (hro2 K _ (fun f hf => by simp [hf])) (hro1 K _ (fun f hf => by simp [hf])))) rfl ?_; rintro _ _ ⟨rfl,rfl⟩; refine Bf (L2:=(_::_::_::_)) rfl ?_
  refine Dn (v:=.bool true) (congrArg Value.bool (decide_eq_true rfl))<|Hq 64 rfl rfl rfl (OpP.toK (Fr rfl)) rfl<|Ai rfl (Bs rfl rfl) rfl<|Dm rfl rfl rfl<|Hq 72 rfl rfl rfl (OpP.toK (S.move rfl)) rfl<|Hq 72 rfl rfl rfl (OpP.toK (S.move rfl)) rfl<|Hq 72 rfl rfl rfl (OpP.toK (Bw rfl rfl (by omega) Tu23 Tz3)) rfl<|Hq 72 rfl rfl rfl (OpP.toK (S.move rfl)) rfl<|Hq 72 rfl rfl rfl (OpP.toK (Bk rfl Tu25)) rfl<|Hq 72 rfl rfl rfl (OpP.toK (Ae rfl fa43_2)) rfl<|Dc (by decide) ?_
  refine W.yes 72 rfl rfl rfl (S.loadR (j:=i * 1) (v:=.int .i64 ((m.left : Nat) : Int)) (hrr K _ (fun f hf => by simp [hf])) rfl (by rw [Nat.mul_one,intsV,List.map_map,List.getElem?_map,hu]; rfl) Ta3) rfl ?_
  refine W.yes 72 rfl rfl rfl (An 1 (k:=6) rfl rfl rfl Ta3) rfl<|W.yes 72 rfl rfl rfl (fun a w hf _ => (Du rfl rfl (N.sub64 (by omega) (by omega))) a w hf) rfl<|W.yes 72 rfl rfl rfl (fun a w hf _ => (Fq rfl rfl) a w hf) rfl<|Dw (v:=.bool false) (congrArg Value.bool (decide_eq_false (by omega)))<|Bg rfl (Bs rfl rfl) rfl<|Db<|Dk12 0 3 4 5 6 7 8 37 38 39 40 83 rfl<|Gw rfl (rfl)<|Ar<|C.shed [0,0] (A:=[_,_]) (F:=_::(GP ++ GM)) rfl<|Bq (L2:=⟨b3,0,[.int .i64 ((what : Nat) : Int),.int .i64 ((why : Nat) : Int),.bool opened,.string hd.name,.string hd.comment,.slice xa xn xc,.int .i64 ((hd.mod : Nat) : Int),.int .u8 ((hd.os : Nat) : Int),.slice da fd.length dc,.slice (some ⟨mb,mo,none⟩) ms.length mc,.bool behind,.string h2.name,.string h2.comment,.slice ya yn yc,.int .i64 ((h2.mod : Nat) : Int),.int .u8 ((h2.os : Nat) : Int),.slice oa d2.length oc,.int .i64 0]⟩::(GP ++ GM)) rfl<|Al ?_
  refine Aa (Bh (b:=((1 : Nat) : Int)) rfl rfl (N.add64 (by omega))) rfl<|Em rfl rfl<|Ek12 0 3 4 5 6 7 8 37 38 39 40 83 rfl ?_
  refine ⟨_,?_,i + 1,rfl,rfl,by omega,rfl⟩; omega
 refine Bu rfl<|Ap<|Cr<|Aa (Ae rfl fa45_0) rfl<|Ah (An 0 (k:=0) rfl rfl rfl Ta3) rfl<|Aa (Dx (b:=((2 : Nat) : Int)) rfl rfl) rfl<|Ek9 0 3 4 5 37 38 39 40 87 rfl<|Be rfl (fun h87 => ?_) (fun h87 => ?_)
 ·refine Cr<|Ea rfl rfl<|Ek10 0 2 3 4 5 37 38 39 40 87 rfl<|Av ?_
  exact ⟨_,rfl,rfl⟩
 have hw2 : what ≠ 2 := by omega
 obtain ⟨u,un,rfl,eg,eb,ek⟩ := memL_end hm2 hend hw2
 have hul2 : us.length = ms.length + 1 := by rw [hus,List.length_append,List.length_map]; rfl
 have hu : us[ms.length]? = some (u,un) := by rw [hus,List.getElem?_append_right (by rw [List.length_map]; exact Nat.le_refl _),List.length_map,Nat.sub_self]; rfl
 obtain ⟨c2,hU2,hc2⟩ := huv.get hu
 replace hU2 : UnV u c2 GM := hU2
 obtain ⟨xa2,xc2,oa2,oc2,rfl,hx2,ho2⟩ := hU2
 obtain ⟨_,hrx2⟩ := hx2.same
 obtain ⟨_,hro2⟩ := ho2.same
 obtain ⟨hn2,hry⟩ := hy.same
 subst hn2
 obtain ⟨_,hroa⟩ := ho.same
 refine Ar<|Ap<|Cr<|Em rfl rfl<|Aa (Bk rfl Tu49) rfl<|Aa (Ae rfl fa45_5) rfl<|Ah (An 0 (k:=9) rfl rfl rfl Tryz.isAgg41) rfl<|Aa (Bk rfl Tu41) rfl<|Aa (Bh (b:=((1 : Nat) : Int)) rfl rfl (N.add64 (by omega))) rfl<|Aa (Fq rfl rfl) rfl<|Am (v:=.bool false) (congrArg Value.bool (decide_eq_false (by omega)))<|Ek10 0 3 4 5 37 38 39 40 87 94 rfl ?_
 refine Gw rfl (rfl)<|Ar<|Cr<|Em rfl rfl<|Aa (Ae rfl fa45_5) rfl<|Ah (An 0 (k:=9) rfl rfl rfl Tryz.isAgg41) rfl<|Aa (Bk rfl Tu41) rfl<|Aa (Bw rfl rfl (by omega) Tu49 Tz29) rfl<|Ah (S.loadAR (k:=ms.length * 8) (hur K _ (fun f hf => by simp [hf])) rfl hc2 rfl Tryz.isAgg29 Tz29) rfl ?_
 refine Ak (Dy Tryz.zeroValue29) rfl ?_; rintro _ _ ⟨b9,rfl,rfl⟩; refine Ab (L2:=(_::_::_)) rfl ?_
 refine Ab (L2:=⟨b9,0,[.int .i64 0,.string ⟨#[]⟩,.string ⟨#[]⟩,.slice none 0 0,.int .i64 0,.int .u8 0,.slice none 0 0,.int .i64 0]⟩::⟨b3,0,[.int .i64 ((what : Nat) : Int),.int .i64 ((why : Nat) : Int),.bool opened,.string hd.name,.string hd.comment,.slice xa xn xc,.int .i64 ((hd.mod : Nat) : Int),.int .u8 ((hd.os : Nat) : Int),.slice da fd.length dc,.slice ma ms.length mc,.bool behind,.string h2.name,.string h2.comment,.slice ya (h2.extra.getD []).length yc,.int .i64 ((h2.mod : Nat) : Int),.int .u8 ((h2.os : Nat) : Int),.slice oa d2.length oc,.int .i64 0]⟩::(GP ++ GM)) (by kernel_rfl) ?_
 refine Ao (Bi 0 (k:=0) rfl rfl rfl rfl rfl rfl Tz29 rfl) ?_; rintro _ _ ⟨rfl,rfl⟩; refine Ab (L2:=(_::_::_)) rfl ?_
 refine Ek11 0 3 4 5 9 37 38 39 40 87 94 rfl<|Ap<|Ax<|Cr<|Aa (Ae rfl fa45_0) rfl<|Ah (An 1 (k:=0) rfl rfl rfl Ta3) rfl<|Aa (Dx (b:=((0 : Nat) : Int)) rfl rfl) rfl<|Ea rfl rfl<|Ek12 0 3 4 5 9 37 38 39 40 87 94 101 rfl<|Be rfl (fun h101 => ?_) (fun h101 => ?_)
 ·have eg2 := eg (by omega)
  refine Cr<|Aa (Ae rfl fa29_0) rfl<|Ah (An 0 (k:=0) rfl rfl rfl Ta3) rfl<|Aa (Dx (b:=((1 : Nat) : Int)) rfl rfl) rfl<|Am (v:=.bool true) (congrArg Value.bool (decide_eq_true (by omega)))<|Ea rfl rfl<|Ek13 0 2 3 4 5 9 37 38 39 40 87 94 101 rfl<|Av ?_
  exact ⟨_,rfl,rfl⟩
 refine Cr<|Aa (Ae rfl fa45_6) rfl<|Ah (An 1 (k:=10) rfl rfl rfl Tryz.isAgg4) rfl<|Aa (Fr rfl) rfl<|Ea rfl rfl<|Ek13 0 3 4 5 9 37 38 39 40 87 94 101 108 rfl<|Fa rfl (fun h108 => ?_) (fun h108 => ?_)
 ·have eb2 := eb (by simpa using h108)
  refine Cr<|Aa (Ae rfl fa29_0) rfl<|Ah (An 0 (k:=0) rfl rfl rfl Ta3) rfl<|Aa (Ae rfl fa45_1) rfl<|Ah (An 1 (k:=1) rfl rfl rfl Ta3) rfl ?_
  refine Ak (OpX.pick [] (F:=_::_::_) rfl (Au rfl Tryz.call15 (fault_spec _ _))) rfl ?_; rintro _ _ ⟨_,⟨⟨ok,rfl,hok⟩,rfl⟩,rfl⟩; refine Ab (L2:=(_::_::_)) rfl ?_
  refine Em rfl rfl<|E.forkB (fun g117 => ?_) (fun g117 => ?_)
  ·refine Ag 117 true rfl rfl rfl rfl<|Ag 117 true rfl rfl rfl rfl<|Ag 117 true rfl rfl rfl rfl<|Ag 117 true rfl rfl rfl rfl<|Gd 121 rfl rfl rfl<|Gd 121 rfl rfl rfl<|Gd 121 rfl rfl rfl<|Ag 117 true rfl rfl rfl rfl<|Aa (By rfl rfl) rfl<|Ea rfl rfl<|Ek14 0 2 3 4 5 9 37 38 39 40 87 94 101 108 rfl<|Av ?_
   exact ⟨_,rfl,rfl⟩
  refine Aj 117 rfl rfl<|Aa (Ae rfl fa45_1) rfl<|Aj 117 rfl rfl<|Ah (An 1 (k:=1) rfl rfl rfl Ta3) rfl<|Aj 117 rfl rfl<|Aa (Dx (b:=((0 : Nat) : Int)) rfl rfl) rfl ?_
  refine Am (v:=.bool true) (congrArg Value.bool (decide_eq_true (by have := eb2.resolve_left (fun h => by rw [hok.2 h] at g117; cases g117); omega))) ?_
  refine Aj 117 rfl rfl<|Em rfl rfl<|Aj 121 rfl rfl<|Aa (Ae rfl fa29_0) rfl<|Aj 121 rfl rfl<|Ah (An 0 (k:=0) rfl rfl rfl Ta3) rfl<|Aj 121 rfl rfl<|Aa (Dx (b:=((1 : Nat) : Int)) rfl rfl) rfl ?_
  refine Am (v:=.bool true) (congrArg Value.bool (decide_eq_true (by have := eb2.resolve_left (fun h => by rw [hok.2 h] at g117; cases g117); omega))) ?_
  refine Aj 117 rfl rfl<|Aa (By rfl rfl) rfl<|Aa (Bs rfl rfl) rfl<|Ea rfl rfl<|Ek14 0 2 3 4 5 9 37 38 39 40 87 94 101 108 rfl<|Av ?_
  exact ⟨_,rfl,rfl⟩
 obtain ⟨_,k0,k1,k2,k3⟩ := ek (by simpa using h108)
 refine Ar<|Cr<|Aa (Ae rfl fa29_0) rfl<|Ah (An 0 (k:=0) rfl rfl rfl Ta3) rfl<|Aa (Dx (b:=((0 : Nat) : Int)) rfl rfl) rfl<|Am (v:=.bool true) (congrArg Value.bool (decide_eq_true (by omega)))<|Em rfl rfl<|Aj 130 rfl rfl<|Aa (Ae rfl fa29_1) rfl<|Aj 130 rfl rfl<|Ah (Bn 0 (k:=1) rfl rfl rfl rfl Ta27 Tz27) rfl<|Aj 130 rfl rfl ?_
 refine Aa (Ae rfl fa45_7) rfl<|Aj 130 rfl rfl<|Aa (Ae rfl fa43_0) rfl<|Aj 130 rfl rfl<|Ah (Bn 1 (k:=11) rfl rfl rfl rfl Ta32 Tz32) rfl<|Aj 130 rfl rfl ?_
 refine Ak (Au rfl Tryz.call12 (same_spec _ _ _ _ _ _ _ _ _ _ _ _ _ _ (hrx2 K _ (fun f hf => by simp [hf])) (hry K _ (fun f hf => by simp [hf])))) rfl ?_; rintro _ _ ⟨rfl,rfl⟩; refine Ab (L2:=(_::_::_)) rfl ?_
 refine Am (v:=.bool true) (congrArg Value.bool (decide_eq_true (by rw [k1]; exact ⟨rfl,rfl,rfl,rfl,rfl⟩))) ?_
 refine Aa (By rfl rfl) rfl<|Em rfl rfl<|Aj 138 rfl rfl<|Aa (Ae rfl fa29_3) rfl<|Aj 138 rfl rfl<|Ah (An 0 (k:=7) rfl rfl rfl Ta3) rfl<|Aj 138 rfl rfl<|Aa (Ae rfl fa45_1) rfl<|Aj 138 rfl rfl<|Ah (An 1 (k:=1) rfl rfl rfl Ta3) rfl<|Aj 138 rfl rfl ?_
 refine Ak (OpX.pick [] (F:=_::_::_) rfl (Au rfl Tryz.call15 (fault_spec _ _))) rfl ?_; rintro _ _ ⟨_,⟨⟨ok,rfl,hok⟩,rfl⟩,rfl⟩; refine Ab (L2:=(_::_::_)) rfl ?_
 refine Am (v:=.bool true) (congrArg Value.bool (hok.2 k2))<|Aa (By rfl rfl) rfl<|Em rfl rfl<|Aj 145 rfl rfl<|Aa (Ae rfl fa45_7) rfl<|Aj 145 rfl rfl<|Aa (Ae rfl fa43_1) rfl<|Aj 145 rfl rfl<|Ah (An 1 (k:=16) rfl rfl rfl Ta25) rfl<|Aj 145 rfl rfl<|Aa (Ae rfl fa29_2) rfl<|Aj 145 rfl rfl ?_
 refine Ah (An 0 (k:=6) rfl rfl rfl Ta25) rfl<|Aj 145 rfl rfl ?_
 refine Ak (Au rfl Tryz.call16 (hasPrefix_spec _ _ _ _ d2 u.2.2.1 (hroa K _ (fun f hf => by simp [hf])) (hro2 K _ (fun f hf => by simp [hf])) hoc k3)) rfl ?_; rintro _ _ ⟨rfl,rfl⟩; refine Ab (L2:=(_::_::_)) rfl ?_
 refine Aa (By rfl rfl) rfl<|Ea rfl rfl<|Ek14 0 2 3 4 5 9 37 38 39 40 87 94 101 108 rfl<|Av ?_
 exact ⟨_,rfl,rfl⟩
open Go Go.Proofs Go.ChangeShapes Go.WideShapes Go.RowKit
theorem starName : "*" ++ "errors.errorString" = "*errors.errorString" := by decide
theorem errRow (u : TypeId) (h : Tryz.prog.typeName? 3 u = some "*errors.errorString") : u = 215 :=
  typeName_ptr_named (nm:= "errors.errorString") (by rw [starName]; kernel_rfl) (by kernel_rfl) (by decide) u (by rw [starName]; exact h)
theorem cellsErr : Tryz.prog.cellsOf 234 = 1 := by kernel_rfl
theorem cellsStr : Tryz.prog.cellsOf 9 = 1 := by kernel_rfl
theorem cellsU8 : Tryz.prog.cellsOf 5 = 1 := by kernel_rfl
abbrev laidErr (text : List UInt8) : DataW Unit := .iface "*errors.errorString" (.ptr (.agg [.lit (.string text)]))
theorem cell_heap {W : World} {b o : Nat} {v : Value} (h : W.cell? ⟨b,o,none⟩ = some v) : cellAt (fun b => W.heap[b]?) b o = some v := by
  unfold World.cell? at h
  unfold cellAt
  dsimp only at h ⊢
  split at h
  · rename_i c t fr hb
    rw [hb]; simpa using h
  · cases h
theorem laid_err {W : World} {n : String} {text : List UInt8} {r : List (String × DataW Unit)} {ps : List MemPlace} {g : Nat} (hg : Tryz.prog.globalNamed n = some g) (ht : (Tryz.prog.globals[g]?).map (·.type) = some 58)
    (h : DataW.LaidVars Tryz.prog W ((n,laidErr text)::r) ps)
    (hrows : ∀ b off,MemPlace.cell b off ∈ ps → (∃ c t,W.heap[b]? = some (.cells c t (0,0))) ∧ ∀ u v,W.cell? ⟨b,off,none⟩ = some (.iface u v) → Value.okWide Tryz.prog W .any 0 u v) :
    ∃ a q,cellAt (fun b => W.heap[b]?) g 0 = some (.iface 215 (.pointer (some a))) ∧ DataW.LaidVars Tryz.prog W r q ∧ ps = MemPlace.cell g 0::(MemPlace.row a 1 ++ q) := by
  obtain ⟨g',t,cs,fuel,p,q,hg',ht',hv,hd,hr,rfl⟩ := h
  obtain rfl := Option.some.inj (hg.symm.trans hg')
  obtain rfl := Option.some.inj (ht.symm.trans ht')
  obtain ⟨l⟩ := cs
  obtain ⟨a,s,rfl,hc,hs,hz,rfl⟩ := errorString_of_trod Tu58 errRow Tryz.underlying215 Tryz.underlying234 rfl rfl Tu9 cellsErr cellsStr hd (fun u v e => by
    subst e
    exact (hrows g 0 (by simp [MemPlace.row])).2 u v (by simpa using World.var?_cell hg hv 0))
  refine ⟨a,q,?_,hr,by simp [MemPlace.row]⟩
  exact cell_heap (by simpa using World.var?_cell hg hv 0)
theorem arg_bytes {H : Type} {enc : TypeId × Value → H} {W : World} {base : Nat} {v1 : Value} {d1 : DataW H} {p1 : List MemPlace} (hval : Value.okWide Tryz.prog W .any base 25 v1)
    (h1 : DataW.Trod enc Tryz.prog W 0 (fun _ => true) true 25 v1 d1 p1) :
    v1 = .slice none 0 0 ∨ (∃ a c,v1 = .slice (some a) 0 c) ∨ ∃ pb po cap,∃ l : List UInt8,v1 = .slice (some ⟨pb,po,none⟩) l.length cap ∧ l.length ≤ cap ∧ KB (fun b => W.heap[b]?) pb po l := by
  obtain ⟨a1,len,cap,rfl⟩ := okWide_slice Tu25 hval
  obtain ⟨fuel,hf⟩ := h1
  rcases open_ints Tu25 Tu5 cellsU8 hf with ⟨hcs,hx⟩ | ⟨a,len',cap',zs,hcs,_,hl,hm,hz,hx,hcell,hwz⟩
  · simp [Value.cells] at hcs
    obtain ⟨rfl,rfl,rfl⟩ := hcs
    exact .inl rfl
  · simp [Value.cells] at hcs
    obtain ⟨rfl,rfl,rfl⟩ := hcs
    simp only [if_true] at hz
    by_cases h0 : len = 0
    · subst h0; exact .inr (.inl ⟨_,_,rfl⟩)
    · right; right
      obtain ⟨ab,ao,spot⟩ := a
      have hspot : spot = none := by simpa [Addr.add] using World.cell?_spot (hcell 0 (by omega))
      subst hspot
      have hlen : ((zs.take len).map fun n => UInt8.ofNat n.toNat).length = len := by simp; omega
      refine ⟨ab,ao,cap,(zs.take len).map fun n => UInt8.ofNat n.toNat,by rw [hlen],by rw [hlen]; exact hl,fun j hj => ?_⟩
      rw [hlen] at hj
      have hcj := hcell j (by omega)
      rw [Addr.add_lit] at hcj
      have hb := range_u8 hwz j
      have e : zs.getD j 0 = zs[j]'(by omega) := by simp [List.getD,List.getElem?_eq_getElem (show j < zs.length by omega)]
      rw [e] at hcj
      rw [← List.getD_eq_getElem?_getD,e] at hb
      have hv : (u8 (((zs.take len).map fun n => UInt8.ofNat n.toNat)[j]'(by rw [hlen]; exact hj))) = .int .u8 zs[j] := by
        have e3 : ((zs.take len).map fun n => UInt8.ofNat n.toNat)[j]'(by rw [hlen]; exact hj) = UInt8.ofNat (zs[j]'(by omega)).toNat := by simp
        have e4 : ((UInt8.ofNat (zs[j]'(by omega)).toNat).toNat : Int) = zs[j]'(by omega) := by rw [UInt8.toNat_ofNat']; omega
        show Value.int .u8 _ = _
        rw [e3,e4]
      rw [hv]
      exact cell_heap hcj
theorem codes_laid {W : World} {d : List (DataW Unit)} {r : List (String × DataW Unit)} {ps : List MemPlace} (hd : d = ordL.map fun n => .lit (.int .i64 (n : Int))) (h : DataW.LaidVars Tryz.prog W (("gzipfiles/pub/flate.codeOrder",.agg d)::r) ps) : Codes (fun b => W.heap[b]?) := by
  subst hd
  obtain ⟨g,t,cs,fuel,p,q,hg,ht,hv,hd,_,_⟩ := h
  obtain rfl := Option.some.inj ((show Tryz.prog.globalNamed "gzipfiles/pub/flate.codeOrder" = some 10 by kernel_rfl).symm.trans hg)
  obtain rfl := Option.some.inj ((show (Tryz.prog.globals[10]?).map (·.type) = some 189 by kernel_rfl).symm.trans ht)
  obtain ⟨xs,m,_,ex,_,hl,hel⟩ := DataW.trod_array Tu189 hd
  have c1 : Tryz.prog.cellsOf 3 = 1 := by kernel_rfl
  refine ⟨fun i hi => ?_⟩
  have hE := hel i hi
  rw [c1,Nat.mul_one,List.getElem?_eq_getElem (by omega)] at hE
  obtain ⟨z,e1,e2,_⟩ := DataW.trod_int Tu3 hE
  have hlen : ordL.length = 19 := rfl
  have e3 : (xs.map (·.1)) = ordL.map fun n => .lit (.int .i64 (n : Int)) := (DataW.agg.inj (Prod.mk.inj ex).1).symm
  have e4 : (xs.map (·.1))[i]? = (ordL.map fun (n : Nat) => (DataW.lit (.int .i64 (n : Int)) : DataW Unit))[i]? := by rw [e3]
  rw [List.getElem?_map,List.getElem?_map,List.getElem?_eq_getElem (by omega : i < xs.length),List.getElem?_eq_getElem (by omega : i < ordL.length),e2] at e4
  have hz : z = ((ordL.getD i 0 : Nat) : Int) := by
    simp only [Option.map_some,Option.some.injEq,DataW.lit.injEq,Lit.int.injEq,true_and] at e4
    rw [e4,List.getD,List.getElem?_eq_getElem (by omega : i < ordL.length)]; rfl
  have hc : W.cell? ⟨10,i,none⟩ = some (.int .i64 z) := by
    rw [World.var?_cell hg hv i]
    have : cs.toList[i]? = some (.int .i64 z) := by
      have h0 : ((cs.toList.drop i).take 1)[0]? = some (.int .i64 z) := by rw [e1]; rfl
      simpa using h0
    simpa using this
  rw [← hz,Nat.zero_add,Nat.mul_one]
  exact cell_heap hc
theorem arg_ba {H : Type} {enc : TypeId × Value → H} {W : World} {base : Nat} {v1 : Value} {d1 : DataW H} {p1 : List MemPlace} (hval : Value.okWide Tryz.prog W .any base 25 v1)
    (h1 : DataW.Trod enc Tryz.prog W 0 (fun _ => true) true 25 v1 d1 p1) : ∃ l a c,v1 = .slice a l.length c ∧ BA (fun b => W.heap[b]?) (.slice a l.length c) l := by
  rcases arg_bytes hval h1 with rfl | ⟨a,c,rfl⟩ | ⟨pb,po,cap,l,rfl,hcap,hp⟩
  · exact ⟨[],none,0,rfl,.inl ⟨rfl,rfl⟩⟩
  · exact ⟨[],some a,c,rfl,.inr (.inl ⟨a,c,rfl,rfl⟩)⟩
  · exact ⟨l,_,_,rfl,.inr (.inr ⟨pb,po,cap,rfl,hcap,hp⟩)⟩
open Go Go.Proofs Go.Proofs.YtbjbmpcgiokdaaaGreatDoor Go.ChangeShapes Go.WideShapes Go.RowKit
theorem gn0 : Tryz.prog.globalNamed "io.ErrShortBuffer" = some 9 := by kernel_rfl
theorem gn1 : Tryz.prog.globalNamed "io.EOF" = some 0 := by kernel_rfl
theorem gn2 : Tryz.prog.globalNamed "io.ErrUnexpectedEOF" = some 8 := by kernel_rfl
theorem gn4 : Tryz.prog.globalNamed "gzipfiles/pub/gogzip.ErrChecksum" = some 2 := by kernel_rfl
theorem gn5 : Tryz.prog.globalNamed "gzipfiles/pub/gogzip.ErrHeader" = some 1 := by kernel_rfl
theorem gt0 : (Tryz.prog.globals[9]?).map (·.type) = some 58 := by kernel_rfl
theorem gt1 : (Tryz.prog.globals[0]?).map (·.type) = some 58 := by kernel_rfl
theorem gt2 : (Tryz.prog.globals[8]?).map (·.type) = some 58 := by kernel_rfl
theorem gt4 : (Tryz.prog.globals[2]?).map (·.type) = some 58 := by kernel_rfl
theorem gt5 : (Tryz.prog.globals[1]?).map (·.type) = some 58 := by kernel_rfl
theorem laid_skip {W : World} {n : String} {d : DataW Unit} {r : List (String × DataW Unit)} {ps : List MemPlace} (h : DataW.LaidVars Tryz.prog W ((n,d)::r) ps) : ∃ p q,DataW.LaidVars Tryz.prog W r q ∧ ps = p ++ q := by
  obtain ⟨g,t,cs,fuel,p,q,_,_,_,_,hr,rfl⟩ := h
  exact ⟨_,q,hr,rfl⟩
def eaOf (a0 a1 a2 a3 a4 : Addr) (k : Fin 5) : Addr := match k with
  | 0 => a0
  | 1 => a1
  | 2 => a2
  | 3 => a3
  | 4 => a4
theorem gssizes : Tryz.prog.globalNamed "gzipfiles/spec.sizes" = some 3 := by kernel_rfl
theorem gusizes : (Tryz.prog.globals[3]?).map (·.type) = some 23 := by kernel_rfl
theorem gsmore : Tryz.prog.globalNamed "gzipfiles/spec.more" = some 4 := by kernel_rfl
theorem gumore : (Tryz.prog.globals[4]?).map (·.type) = some 23 := by kernel_rfl
theorem gsfar : Tryz.prog.globalNamed "gzipfiles/spec.far" = some 5 := by kernel_rfl
theorem gufar : (Tryz.prog.globals[5]?).map (·.type) = some 23 := by kernel_rfl
theorem gsfurther : Tryz.prog.globalNamed "gzipfiles/spec.further" = some 6 := by kernel_rfl
theorem gufurther : (Tryz.prog.globals[6]?).map (·.type) = some 23 := by kernel_rfl
theorem gsorder : Tryz.prog.globalNamed "gzipfiles/spec.order" = some 7 := by kernel_rfl
theorem guorder : (Tryz.prog.globals[7]?).map (·.type) = some 23 := by kernel_rfl
theorem tab_laid {W : World} {n : String} {g : Nat} {l : List Nat} {d : List (DataW Unit)} {r : List (String × DataW Unit)} {ps : List MemPlace} (hn : Tryz.prog.globalNamed n = some g) (hty : (Tryz.prog.globals[g]?).map (·.type) = some 23) (hdd : d = l.map fun n => .lit (.int .i64 (n : Int))) (h0 : 0 < l.length)
    (h : DataW.LaidVars Tryz.prog W ((n,.slice d [])::r) ps) : TabS (fun b => W.heap[b]?) g l ∧ ∃ p q,DataW.LaidVars Tryz.prog W r q ∧ ps = p ++ q := by
  subst hdd
  obtain ⟨g',t,cs,fuel,p,q,hg,ht,hv,hd,hr,rfl⟩ := h
  refine ⟨?_,_,q,hr,rfl⟩
  obtain rfl := Option.some.inj (hn.symm.trans hg)
  obtain rfl := Option.some.inj (hty.symm.trans ht)
  have c1 : Tryz.prog.cellsOf 3 = 1 := by kernel_rfl
  rcases open_ints Tu23 Tu3 c1 hd with ⟨_,hx⟩ | ⟨a,len,cap,zs,hcs,_,hl,hm,hz,hx,hcell,hwz⟩
  · cases (Prod.mk.inj hx).1
  · simp only [if_true] at hz
    obtain ⟨e1,e2⟩ := DataW.slice.inj (Prod.mk.inj hx).1
    have e3 : zs.drop len = [] := by simpa [lits] using e2.symm
    have hlen : len = l.length := by
      have := congrArg List.length e1
      simp only [lits,List.length_map,List.length_take] at this
      omega
    obtain ⟨ab,ao,spot⟩ := a
    have hspot : spot = none := by simpa [Addr.add] using World.cell?_spot (hcell 0 (by omega))
    subst hspot
    refine ⟨ab,ao,cap,?_,fun i hi => ?_⟩
    · rw [← hlen]
      refine cell_heap ?_
      rw [World.var?_cell hg hv 0]
      have : cs.toList[0]? = some (.slice (some ⟨ab,ao,none⟩) len cap) := by rw [hcs]; rfl
      simpa using this
    · have hcj := hcell i (by omega)
      rw [Addr.add_lit] at hcj
      rw [Nat.mul_one]
      refine cell_heap ?_
      rw [hcj]
      have e4 : (lits (H:=Unit) .i64 (zs.take len))[i]? = (l.map fun (n : Nat) => (DataW.lit (.int .i64 (n : Int)) : DataW Unit))[i]? := by rw [← e1]
      simp only [lits,List.getElem?_map] at e4
      rw [List.getElem?_eq_getElem (show i < (zs.take len).length by rw [List.length_take]; omega),List.getElem?_eq_getElem (by omega : i < l.length)] at e4
      simp only [Option.map_some,Option.some.injEq,DataW.lit.injEq,Lit.int.injEq,true_and,List.getElem_take] at e4
      have e5 : zs.getD i 0 = zs[i]'(by omega) := by simp [List.getD,List.getElem?_eq_getElem (show i < zs.length by omega)]
      rw [e5,e4,List.getD,List.getElem?_eq_getElem hi]; rfl
theorem laid_all {W : World} (h : laidMetH Tryz.prog Rows.fnReadAsToldRow.laid W) : (∃ ea,Sents (fun b => W.heap[b]?) ea) ∧ Codes (fun b => W.heap[b]?) ∧ SpT (fun b => W.heap[b]?) := by
  have h' : laidMet Tryz.prog [("gzipfiles/spec.sizes",Rows.laid_gzipfiles_spec_sizes),("gzipfiles/spec.more",Rows.laid_gzipfiles_spec_more),("gzipfiles/spec.far",Rows.laid_gzipfiles_spec_far),("gzipfiles/spec.further",Rows.laid_gzipfiles_spec_further),("gzipfiles/spec.order",Rows.laid_gzipfiles_spec_order),("io.ErrShortBuffer",Rows.laid_io_ErrShortBuffer),("io.EOF",Rows.laid_io_EOF),("io.ErrUnexpectedEOF",Rows.laid_io_ErrUnexpectedEOF),("gzipfiles/pub/flate.codeOrder",Rows.laid_gzipfiles_pub_flate_codeOrder),("gzipfiles/pub/gogzip.ErrChecksum",Rows.laid_gzipfiles_pub_gogzip_ErrChecksum),("gzipfiles/pub/gogzip.ErrHeader",Rows.laid_gzipfiles_pub_gogzip_ErrHeader)] W := h
  obtain ⟨ps,v0,hnd,hrows⟩ := h'
  obtain ⟨t1,p1,s1,v1,rfl⟩ := tab_laid (l:=sizesL) gssizes gusizes rfl (by decide) v0
  obtain ⟨t2,p2,s2,v2,rfl⟩ := tab_laid (l:=moreL) gsmore gumore rfl (by decide) v1
  obtain ⟨t3,p3,s3,v3,rfl⟩ := tab_laid (l:=farL) gsfar gufar rfl (by decide) v2
  obtain ⟨t4,p4,s4,v4,rfl⟩ := tab_laid (l:=furL) gsfurther gufurther rfl (by decide) v3
  obtain ⟨t5,p5,s5,w0,rfl⟩ := tab_laid (l:=ordL) gsorder guorder rfl (by decide) v4
  replace hnd : s5.Nodup := by
    simp only [List.nodup_append] at hnd
    exact hnd.2.1.2.1.2.1.2.1.2.1
  replace hrows : ∀ b off,MemPlace.cell b off ∈ s5 → (∃ c t,W.heap[b]? = some (.cells c t (0,0))) ∧ ∀ u v,W.cell? ⟨b,off,none⟩ = some (.iface u v) → Value.okWide Tryz.prog W .any 0 u v := fun b off hb => hrows b off (by simp [hb])
  obtain ⟨a0,q0,c0,w1,rfl⟩ := laid_err gn0 gt0 w0 hrows
  obtain ⟨a1,q1,c1,w2,rfl⟩ := laid_err gn1 gt1 w1 fun b off hb => hrows b off (by simp [hb])
  obtain ⟨a2,q2,c2,w3,rfl⟩ := laid_err gn2 gt2 w2 fun b off hb => hrows b off (by simp [hb])
  have hcodes := codes_laid rfl w3
  obtain ⟨p3,q3,w4,rfl⟩ := laid_skip w3
  obtain ⟨a4,q4,c4,w5,rfl⟩ := laid_err gn4 gt4 w4 fun b off hb => hrows b off (by simp [hb])
  obtain ⟨a5,q5,c5,w6,rfl⟩ := laid_err gn5 gt5 w5 fun b off hb => hrows b off (by simp [hb])
  have k0 := (hrows a0.block a0.off (by simp [MemPlace.row])).1
  have k1 := (hrows a1.block a1.off (by simp [MemPlace.row])).1
  have k2 := (hrows a2.block a2.off (by simp [MemPlace.row])).1
  have k4 := (hrows a4.block a4.off (by simp [MemPlace.row])).1
  have k5 := (hrows a5.block a5.off (by simp [MemPlace.row])).1
  have n15 : a1 ≠ a5 := by rintro rfl; simp [MemPlace.row,List.nodup_append] at hnd
  have n14 : a1 ≠ a4 := by rintro rfl; simp [MemPlace.row,List.nodup_append] at hnd
  have n12 : a1 ≠ a2 := by rintro rfl; simp [MemPlace.row,List.nodup_append] at hnd
  have n10 : a0 ≠ a1 := by rintro rfl; simp [MemPlace.row,List.nodup_append] at hnd
  have n54 : a4 ≠ a5 := by rintro rfl; simp [MemPlace.row,List.nodup_append] at hnd
  have n52 : a2 ≠ a5 := by rintro rfl; simp [MemPlace.row,List.nodup_append] at hnd
  have n50 : a0 ≠ a5 := by rintro rfl; simp [MemPlace.row,List.nodup_append] at hnd
  have n42 : a2 ≠ a4 := by rintro rfl; simp [MemPlace.row,List.nodup_append] at hnd
  have n40 : a0 ≠ a4 := by rintro rfl; simp [MemPlace.row,List.nodup_append] at hnd
  have n20 : a0 ≠ a2 := by rintro rfl; simp [MemPlace.row,List.nodup_append] at hnd
  refine ⟨?_,hcodes,t5,t1,t2,t3,t4⟩
  refine ⟨eaOf a1 a5 a4 a2 a0,fun k => ?_,fun j k e => ?_,c1,c5,c4,c2,c0⟩
  · match k with
    | 0 => exact k1
    | 1 => exact k5
    | 2 => exact k4
    | 3 => exact k2
    | 4 => exact k0
  · match j,k,e with
    | 0,0,_ => rfl
    | 1,1,_ => rfl
    | 2,2,_ => rfl
    | 3,3,_ => rfl
    | 4,4,_ => rfl
    | 0,1,e => exact absurd e n15
    | 0,2,e => exact absurd e n14
    | 0,3,e => exact absurd e n12
    | 0,4,e => exact absurd (Eq.symm e) n10
    | 1,0,e => exact absurd (Eq.symm e) n15
    | 1,2,e => exact absurd (Eq.symm e) n54
    | 1,3,e => exact absurd (Eq.symm e) n52
    | 1,4,e => exact absurd (Eq.symm e) n50
    | 2,0,e => exact absurd (Eq.symm e) n14
    | 2,1,e => exact absurd e n54
    | 2,3,e => exact absurd (Eq.symm e) n42
    | 2,4,e => exact absurd (Eq.symm e) n40
    | 3,0,e => exact absurd (Eq.symm e) n12
    | 3,1,e => exact absurd e n52
    | 3,2,e => exact absurd e n42
    | 3,4,e => exact absurd (Eq.symm e) n20
    | 4,0,e => exact absurd e n10
    | 4,1,e => exact absurd e n50
    | 4,2,e => exact absurd e n40
    | 4,3,e => exact absurd e n20
theorem To.below {K : Known} {w w' : World} {L' : Frags} (h : To K w [] w' L') : Below w.heap.size w w' :=
  ⟨h.os,h.tape,h.output,h.size,fun k hk => h.old k hk fun f hf => by cases hf⟩
theorem agree_all (w : World) : Agree (fun b => w.heap[b]?) [] w.heap :=
  ⟨fun _ _ h => h,(fun f hf => by cases hf),(fun f hf => by cases hf),List.Pairwise.nil⟩
section
variable {H : Type} {enc : TypeId × Value → H} {P : Program} {W W' : World}
theorem trodAll_stays (hl : laidOutB P = true) {sp : Nat → Bool} : ∀ {ts : List TypeId} {vs : List Value} {ds : List (DataW H)} {ps : List MemPlace},(∀ t ∈ ts,P.readableRec t = true ∧ t < P.types.size) →
    DataW.TrodAll enc P W 0 (fun _ => true) true ts vs ds ps → (∀ p ∈ ps,W.sameAt W' p) → (∀ p ∈ ps,sp p.block = true) → DataW.TrodAll enc P W' 0 sp true ts vs ds ps
  | [],[],[],_,_,h,_,_ => h
  | t::ts,v::vs,d::ds,_,ht,⟨p,q,h1,h2,e⟩,hs,hp => by
    subst e
    exact ⟨p,q,WideElems.Trod_stays hl (ht t (by simp)).1 (ht t (by simp)).2 h1 (fun x hx => hs x (by simp [hx])) (fun x hx => hp x (by simp [hx])),
      trodAll_stays hl (fun t h => ht t (by simp [h])) h2 (fun x hx => hs x (by simp [hx])) (fun x hx => hp x (by simp [hx])),rfl⟩
theorem post_true {f : Func} {s : ChangeSpec} {args : Array Value} {ds gs : List (DataW H)} {before : List MemPlace} {bt : TypeId} (hl : laidOutB P = true)
    (hts : ∀ t ∈ f.params.toList,P.readableRec t = true ∧ t < P.types.size) (hbool : P.underlying bt = some .bool) (hres : f.resultTypes = #[bt]) (hsv : s.vars = [])
    (hfn : s.fn H (ds ++ gs) = { results := [.lit (.bool true)],args := ds,vars := [] }) (hW : DataW.Whole enc P f.params.toList s.vars false W args.toList ds gs before) (hb : Below W.heap.size W W') :
    s.post enc P f false true false false W args (.bool true) W' := by
  have hW' := hW
  obtain ⟨p,q,hA,hV,rfl,hfz,hnd⟩ := hW
  rw [hsv] at hV
  obtain ⟨rfl,rfl⟩ := trodVars_none hV
  have hlt : ∀ x ∈ p,x.block < W.heap.size := fun x hx => by simpa using hW'.lt x (by simp [hx])
  refine ⟨ds,[],p ++ [],[],p,[],hW',?_,?_,?_,hb.frame _,fun h => by cases h⟩
  · rw [hres,hfn]
    exact trodAll_cons_mk (shut_bool hbool _) trodAll_mk0
  · rw [hfn]
    exact trodAll_stays hl hts hA (fun x hx => hb.same (hlt x hx)) (fun x hx => by simpa using hlt x hx)
  · rw [hfn,hsv]
    exact rfl
end
theorem ownD : ownKnob Tryz.prog.godebug = none := by kernel_rfl
theorem laidOutD : laidOutB Tryz.prog = true := by kernel_rfl
def intS (l : List Nat) : Obj := .cells (l.map fun (n : Nat) => Value.int .i64 (n : Int)).toArray 3
def errS (l : List UInt8) : Obj := .cells #[.string ⟨l.toArray⟩] 234
noncomputable def lowD : Nat := (World.holding Tryz.prog default ⟨#[],#[],[]⟩).heap.size
def layErr (g : Nat) (b : Nat) (H : Array Obj) : Array Obj := H.modify g fun
  | .cells _ t frozen => .cells #[.iface 215 (.pointer (some ⟨b,0,none⟩))] t frozen
  | o => o
def layInts (g : Nat) (l : List Int) (H : Array Obj) : Array Obj := H.modify g fun
  | .cells _ t frozen => .cells (l.map fun n => Value.int .i64 n).toArray t frozen
  | o => o
def laySl (g : Nat) (b n : Nat) (H : Array Obj) : Array Obj := H.modify g fun
  | .cells _ t frozen => .cells #[.slice (some ⟨b,0,none⟩) n n] t frozen
  | o => o
noncomputable def laidWorldZ (os : Os) : World :=
  let w0 := World.holding Tryz.prog os ⟨#[errS [115,104,111,114,116,32,98,117,102,102,101,114],errS [69,79,70],errS [117,110,101,120,112,101,99,116,101,100,32,69,79,70],
    errS [103,122,105,112,58,32,105,110,118,97,108,105,100,32,99,104,101,99,107,115,117,109],errS [103,122,105,112,58,32,105,110,118,97,108,105,100,32,104,101,97,100,101,114],intS sizesL,intS moreL,intS farL,intS furL,intS ordL],#[],[]⟩
  { w0 with heap := laySl 3 (lowD + 5) 29 (laySl 4 (lowD + 6) 29 (laySl 5 (lowD + 7) 30 (laySl 6 (lowD + 8) 30 (laySl 7 (lowD + 9) 19 (layErr 9 lowD (layErr 0 (lowD + 1) (layErr 8 (lowD + 2) (layErr 2 (lowD + 3) (layErr 1 (lowD + 4)
    (layInts 10 [16,17,18,0,8,7,9,6,10,5,11,4,12,3,13,2,14,1,15] w0.heap)))))))))) }
theorem laid_metZ (os : Os) (args : Array Value) : laidMet Tryz.prog Rows.fnReadAsToldRow.laid ((laidWorldZ os).forCall (fun _ _ => 0) ⟨#[],args,[]⟩).memory :=
  laidMet_of_run' 8 (by kernel_rfl) (by kernel_rfl)
end Go.Eng
