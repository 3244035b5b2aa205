/-
  Texts of this proof,merged: WRev,WHf,WFl1,Sym,WFl2,Win,Cpy,WDic,Dec,WDict,WFl3,Run.
-/
import Derived.Test.YtbjbmpcgiokdaaaDoorMp2
import Derived.Test.YtbjbmpcgiokdaaaDoorMp1
set_option linter.unusedVariables false
set_option linter.unusedSimpArgs false
namespace Go.Eng
open Go Go.Proofs
set_option maxRecDepth 100000

section
variable {P : Program} {K : Known} {n : Nat} {env : Env} {L : Frags}
/-- A guarded operation whose guard was not asked for itself. -/
theorem E.guardUndef {ops : Array Oper} {dst : Option Nat} {op : Op} {ty : TypeId} {pos : String} {af : Array Edge} {j : Nat} {b : Bool} {rest : List Oper} {N : Post}
    (t : Nat) (ht : (ops[j]?).bind (·.dst) = some t) (hv : get? env t = some undef) (hd : dstOk dst n = true) (k : wpE P K n ops rest (ext dst undef env) L N) :
    wpE P K n ops (⟨dst,op,ty,pos,af,some (j,b)⟩::rest) env L N := by
  intro a w hf hw Q hq
  have hy : yielded ops a.tmps j = none := by
    have := hf.val t _ hv
    unfold yielded
    rw [ht]
    simp only [Option.bind_some]
    rw [Array.getD_eq_getD_getElem?] at this
    cases hx : a.tmps[t]? with
    | none => rfl
    | some x => rw [hx] at this; simp only [Option.getD_some] at this; subst this; rfl
  have hne : ((none : Option Bool) == some b) = false := by cases b <;> rfl
  simp only [wpList,Region.wanted,hy,hne,Bool.false_eq_true,if_false]
  exact k _ w (hf.ext hd undef) hw Q hq
end

def rev8tab : ByteArray := ⟨#[0,128,64,192,32,160,96,224,16,144,80,208,48,176,112,240,8,136,72,200,40,168,104,232,24,152,88,216,56,184,120,248,4,132,68,196,36,164,100,228,20,148,84,212,52,180,116,244,12,140,76,204,44,172,108,236,28,156,92,220,60,188,124,252,2,130,66,194,34,162,98,226,18,146,82,210,50,178,114,242,10,138,74,202,42,170,106,234,26,154,90,218,58,186,122,250,6,134,70,198,38,166,102,230,22,150,86,214,54,182,118,246,14,142,78,206,46,174,110,238,30,158,94,222,62,190,126,254,1,129,65,193,33,161,97,225,17,145,81,209,49,177,113,241,9,137,73,201,41,169,105,233,25,153,89,217,57,185,121,249,5,133,69,197,37,165,101,229,21,149,85,213,53,181,117,245,13,141,77,205,45,173,109,237,29,157,93,221,61,189,125,253,3,131,67,195,35,163,99,227,19,147,83,211,51,179,115,243,11,139,75,203,43,171,107,235,27,155,91,219,59,187,123,251,7,135,71,199,39,167,103,231,23,151,87,215,55,183,119,247,15,143,79,207,47,175,111,239,31,159,95,223,63,191,127,255]⟩
theorem rev8_all : ∀ i : Fin 256,rev8tab[i.val]? = some (UInt8.ofNat (revB 8 i.val)) := by decide +kernel
theorem rev8_get {i : Nat} (h : i < 256) : rev8tab[i]? = some (UInt8.ofNat (revB 8 i)) := rev8_all ⟨i,h⟩
theorem rev8_val (i : Nat) : (UInt8.ofNat (revB 8 i)).toNat = revB 8 i := by
  have := revB_lt 8 i
  rw [UInt8.toNat_ofNat']; exact Nat.mod_eq_of_lt this
theorem rev16_or (x : Nat) (hx : x < 65536) : revB 8 (x >>> 8) ||| (revB 8 (x &&& 255) <<< 8) % 65536 = revB 16 x := by
  have h1 := revB_lt 8 (x >>> 8)
  have h2 := revB_lt 8 (x &&& 255)
  have h3 : (revB 8 (x &&& 255) <<< 8) % 65536 = revB 8 (x &&& 255) <<< 8 := by rw [Nat.shiftLeft_eq]; omega
  rw [h3,Nat.or_comm,← Nat.shiftLeft_add_eq_or_of_lt h1,Nat.shiftLeft_eq,revB16,Nat.shiftRight_eq_div_pow,show x &&& 255 = x % 256 from Nat.and_two_pow_sub_one_eq_mod x 8]

/-- n numbers of a kind. -/
def cellsU (n : Nat) (f : Nat → Nat) : List Value := (List.range n).map fun o => Value.int .u32 ((f o : Nat) : Int)
def cellsI (n : Nat) (f : Nat → Nat) : List Value := (List.range n).map fun o => Value.int .i64 ((f o : Nat) : Int)
theorem cellsU_length (n : Nat) (f : Nat → Nat) : (cellsU n f).length = n := by simp [cellsU]
theorem cellsI_length (n : Nat) (f : Nat → Nat) : (cellsI n f).length = n := by simp [cellsI]
theorem cellsU_get {n k : Nat} {f : Nat → Nat} (h : k < n) : (cellsU n f)[k * 1]? = some (.int .u32 ((f k : Nat) : Int)) := by rw [Nat.mul_one,cellsU,List.getElem?_map,List.getElem?_range h]; rfl
theorem cellsI_get {n k : Nat} {f : Nat → Nat} (h : k < n) : (cellsI n f)[k * 1]? = some (.int .i64 ((f k : Nat) : Int)) := by rw [Nat.mul_one,cellsI,List.getElem?_map,List.getElem?_range h]; rfl
theorem map_set {n k : Nat} {F G : Nat → Value} {v : Value} (hk : G k = v) (hn : ∀ o,o < n → o ≠ k → G o = F o) : ((List.range n).map F).set (k * 1) v = (List.range n).map G := by
  rw [Nat.mul_one]
  apply List.ext_getElem?
  intro i
  rw [List.getElem?_set,List.getElem?_map,List.getElem?_map]
  by_cases hi : i < n
  · rw [List.getElem?_range hi]
    by_cases hik : k = i
    · subst hik
      rw [if_pos rfl,if_pos (by simpa using hi),← hk]; rfl
    · rw [if_neg hik]
      simp only [Option.map_some]
      rw [hn i hi (fun e => hik e.symm)]
  · rw [List.getElem?_eq_none (by simpa using hi)]
    simp only [Option.map_none]
    split
    · rw [if_neg (by rw [List.length_map,List.length_range]; omega)]
    · rfl
theorem cellsU_set {n k v : Nat} {f g : Nat → Nat} (hk : g k = v) (hn : ∀ o,o < n → o ≠ k → g o = f o) : (cellsU n f).set (k * 1) (.int .u32 ((v : Nat) : Int)) = cellsU n g :=
  map_set (by rw [hk]) fun o h1 h2 => by rw [hn o h1 h2]
theorem cellsI_set {n k v : Nat} {f g : Nat → Nat} (hk : g k = v) (hn : ∀ o,o < n → o ≠ k → g o = f o) : (cellsI n f).set (k * 1) (.int .i64 ((v : Nat) : Int)) = cellsI n g :=
  map_set (by rw [hk]) fun o h1 h2 => by rw [hn o h1 h2]
theorem cellsI_congr {n : Nat} {f g : Nat → Nat} (h : ∀ o,o < n → f o = g o) : cellsI n f = cellsI n g := by
  unfold cellsI
  exact List.map_congr_left fun o ho => by rw [h o (List.mem_range.1 ho)]
theorem cellsU_congr {n : Nat} {f g : Nat → Nat} (h : ∀ o,o < n → f o = g o) : cellsU n f = cellsU n g := by
  unfold cellsU
  exact List.map_congr_left fun o ho => by rw [h o (List.mem_range.1 ho)]
def intsV (l : List Nat) : List Value := l.map fun n => Value.int .i64 ((n : Nat) : Int)
theorem intsV_length (l : List Nat) : (intsV l).length = l.length := by simp [intsV]
theorem intsV_get {l : List Nat} {vs : List Value} {i : Nat} (h : i < l.length) : (intsV l ++ vs)[i * 1]? = some (.int .i64 ((l[i] : Nat) : Int)) := by
  rw [Nat.mul_one,List.getElem?_append_left (by rw [intsV_length]; exact h),intsV,List.getElem?_map,List.getElem?_eq_getElem h]; rfl
theorem and15 (x : Nat) : x &&& 15 = x % 16 := Nat.and_two_pow_sub_one_eq_mod x 4
theorem and511 (x : Nat) : x &&& 511 = x % 512 := Nat.and_two_pow_sub_one_eq_mod x 9

theorem reverse8_spec {K : Known} (x : Nat) (hx : x < 256) : Fn Tryd.prog K 84 #[.int .u8 ((x : Nat) : Int)] ([]) (fun r L => r = .int .u8 ((revB 8 x : Nat) : Int) ∧ L = []) := by
 refine Fn.intro (args := [.int .u8 ((x : Nat) : Int)]) (RR := Ret1 2 _) Tryd.func84 rfl rfl Tryd.ntmps84 (res1 Tryd.results84) ?_
 refine C.reenv (env2 := [(0,.int .u8 ((x : Nat) : Int))]) rfl ?_
 refine C.sr ?_
 refine E.pure (S.assign rfl) rfl ?_
 refine E.kp [(0,_),(2,_)] rfl ?_
 refine C.sr ?_
 refine E.pure (S.move rfl) rfl ?_
 refine E.pure (S.ixStr rfl rfl (rev8_get hx) Tryd.underlying9) rfl ?_
 refine E.reslot (v := .int .u8 ((revB 8 x : Nat) : Int)) (by rw [rev8_val]) ?_
 refine E.pure (S.assign rfl) rfl ?_
 refine E.kp [(2,_)] rfl ?_
 refine C.ret ?_
 exact ⟨_,rfl,rfl,rfl⟩
theorem reverse16_spec {K : Known} (x : Nat) (hx : x < 65536) : Fn Tryd.prog K 91 #[.int .u16 ((x : Nat) : Int)] ([]) (fun r L => r = .int .u16 ((revB 16 x : Nat) : Int) ∧ L = []) := by
 refine Fn.intro (args := [.int .u16 ((x : Nat) : Int)]) (RR := Ret1 2 _) Tryd.func91 rfl rfl Tryd.ntmps91 (res1 Tryd.results91) ?_
 refine C.reenv (env2 := [(0,.int .u16 ((x : Nat) : Int))]) rfl ?_
 refine C.sr ?_
 refine E.pure (S.assign rfl) rfl ?_
 refine E.kp [(0,_),(2,_)] rfl ?_
 refine C.seq ?_
 refine C.draw [0,1,2,4,0,16,32,64,128,264,1023] (.pure 0 496 (.pure 1 497 (.pure 2 499 (.pure 3 503 (.pure 4 15 (.pure 5 31 (.pure 6 63 (.pure 7 127 (.pure 8 255 (.pure 9 511 (.pure 10 1023 .done))))))))))) mixed (by decide +kernel) ?_
 have hr1 := revB_lt 8 (x >>> 8)
 have hr2 := revB_lt 8 (x &&& 255)
 refine D.pure rfl (S.move rfl) rfl ?_
 refine D.pure rfl (S.shr (b := ((8 : Nat) : Int)) rfl rfl (by omega) (N.shr_u16 (by omega) _)) rfl ?_
 refine D.pure rfl (S.ixStr rfl rfl (rev8_get (by rw [Nat.shiftRight_eq_div_pow]; omega)) Tryd.underlying9) rfl ?_
 refine D.reslot (v := .int .u8 ((revB 8 (x >>> 8) : Nat) : Int)) (by rw [rev8_val]) ?_
 refine D.pure rfl (S.conv rfl Tryd.underlying5 Tryd.underlying120 (N.in_u16 (by omega))) rfl ?_
 refine D.pure rfl (S.move rfl) rfl ?_
 refine D.pure rfl (S.and (b := ((255 : Nat) : Int)) rfl rfl (N.and_u16 (by omega) (by omega))) rfl ?_
 refine D.pure rfl (S.ixStr rfl rfl (rev8_get (by have := Nat.and_le_right (n := x) (m := 255); omega)) Tryd.underlying9) rfl ?_
 refine D.reslot (v := .int .u8 ((revB 8 (x &&& 255) : Nat) : Int)) (by rw [rev8_val]) ?_
 refine D.pure rfl (S.conv rfl Tryd.underlying5 Tryd.underlying120 (N.in_u16 (by omega))) rfl ?_
 refine D.pure rfl (S.shl (b := ((8 : Nat) : Int)) rfl rfl (by omega) (N.shl_u16 _ _)) rfl ?_
 refine D.pure rfl (S.or rfl rfl (N.or_u16 (by omega) (Nat.mod_lt _ (by decide)))) rfl ?_
 refine D.reslot (v := .int .u16 ((revB 16 x : Nat) : Int)) (by rw [rev16_or x hx]) ?_
 refine D.pure rfl (S.assign rfl) rfl ?_
 refine D.kp [(2,_)] rfl ?_
 refine C.ret ?_
 exact ⟨_,rfl,rfl,rfl⟩
end Go.Eng
namespace Go.Eng
open Go Go.Proofs
set_option maxRecDepth 100000

set_option maxHeartbeats 1000000
def hufZ : List Value := [.int .i64 0] ++ (cellsU 512 (fun _ => 0) ++ [.slice none 0 0,.int .u32 0])
theorem zcHuf : (Value.agg Tryd.zeroCells144).cells = hufZ.toArray := by kernel_rfl
theorem hufBuild (w : World) : (Instr.build 144 [].toArray).run Tryd.prog w = .ok (.agg hufZ.toArray) w := by
  simp [Instr.build,Tryd.zeroValue144]
  rw [fill_nil]; simp [zcHuf]
theorem cellsU_one (n : Nat) (f : Nat → Nat) : (cellsU n f).all one = true := by
  rw [List.all_eq_true]; intro v hv
  obtain ⟨o,_,rfl⟩ := List.mem_map.1 hv; rfl
theorem hufZ_one : hufZ.all one = true := by
  unfold hufZ
  rw [List.all_append,List.all_append,cellsU_one]; rfl
theorem hufZ_len : hufZ.length = 515 := by unfold hufZ; rw [List.length_append,List.length_append,cellsU_length]; rfl
theorem infoU32 : Tryd.prog.info? 52 = some Tryd.t52 := by kernel_rfl
theorem infoSlU : Tryd.prog.info? 178 = some Tryd.t178 := by kernel_rfl

theorem minL_take {l : List Nat} {i : Nat} (h : i < l.length) : minL (l.take (i + 1)) = if l[i] = 0 then minL (l.take i) else if minL (l.take i) = 0 ∨ l[i] < minL (l.take i) then l[i] else minL (l.take i) := by rw [take_snoc h,minL_snoc]
theorem maxL_take {l : List Nat} {i : Nat} (h : i < l.length) : maxL (l.take (i + 1)) = max (maxL (l.take i)) l[i] := by rw [take_snoc h,maxL_snoc]
theorem cntL_zero {l : List Nat} {i : Nat} (h : i < l.length) (h0 : l[i] = 0) : cntL (l.take (i + 1)) = cntL (l.take i) := by
  funext k; rw [take_snoc h,cntL_snoc,h0,if_neg (by omega)]; rfl
theorem cntL_more {l : List Nat} {i : Nat} (h : i < l.length) (h0 : l[i] ≠ 0) : (cellsI 16 (cntL (l.take i))).set (l[i] * 1) (.int .i64 ((cntL (l.take i) l[i] + 1 : Nat) : Int)) = cellsI 16 (cntL (l.take (i + 1))) :=
  cellsI_set (by rw [take_snoc h,cntL_snoc,if_pos ⟨h0,rfl⟩]) fun o _ hne => by rw [take_snoc h,cntL_snoc,if_neg (fun h => hne h.2.symm)]; rfl
theorem cntL_le (l : List Nat) (k : Nat) : cntL l k ≤ l.length := by unfold cntL; split; omega; exact List.count_le_length
theorem first_le {l : List Nat} {k : Nat} (hl : l.length ≤ 320) (hk : k ≤ 15) : firstC l k + cntL l k ≤ 20971520 := by
  have h1 := first_bound l k
  have h2 : (2 : Nat) ^ (k + 1) ≤ 2 ^ 16 := Nat.pow_le_pow_right (by omega) (by omega)
  have h3 : l.length * 2 ^ (k + 1) ≤ 320 * 2 ^ 16 := Nat.mul_le_mul hl h2
  omega
/-- The first codes of the lengths from mn on,below i. -/
def nextF (lens : List Nat) (mn i l : Nat) : Nat := if mn ≤ l ∧ l < i then firstC lens l else 0
/-- .. and how far they have got behind k symbols. -/
def nextK (lens : List Nat) (mn mx k l : Nat) : Nat := if mn ≤ l ∧ l ≤ mx then firstC lens l + (lens.take k).count l else 0
theorem next_set {lens : List Nat} {mn i : Nat} (h : mn ≤ i) : (cellsI 16 (nextF lens mn i)).set (i * 1) (.int .i64 ((firstC lens i : Nat) : Int)) = cellsI 16 (nextF lens mn (i + 1)) :=
  cellsI_set (by unfold nextF; rw [if_pos (by omega)]) fun o _ hne => by
    unfold nextF
    by_cases h1 : mn ≤ o ∧ o < i
    · rw [if_pos h1,if_pos (by omega)]
    · rw [if_neg h1,if_neg (by omega)]
theorem next_done (lens : List Nat) (mn mx : Nat) : nextF lens mn (mx + 1) = nextK lens mn mx 0 := by
  funext l
  unfold nextF nextK
  by_cases h1 : mn ≤ l ∧ l ≤ mx
  · rw [if_pos (by omega),if_pos h1]; simp
  · rw [if_neg (by omega),if_neg h1]
theorem nextK_zero {lens : List Nat} {mn mx k : Nat} (h : k < lens.length) (h0' : lenOf lens k = 0) (hm : 0 < mn) : nextK lens mn mx (k + 1) = nextK lens mn mx k := by
  have h0 : lens[k] = 0 := by rw [← lenOf_get h]; exact h0'
  funext l
  unfold nextK
  split
  · rw [take_snoc h,h0,List.count_append,List.count_cons_of_ne (by omega)]; simp
  · rfl
theorem nextK_more {lens : List Nat} {mn mx k : Nat} (h : k < lens.length) (h1 : mn ≤ lenOf lens k) (h2 : lenOf lens k ≤ mx) : (cellsI 16 (nextK lens mn mx k)).set (lenOf lens k * 1) (.int .i64 ((codeOf lens k + 1 : Nat) : Int)) = cellsI 16 (nextK lens mn mx (k + 1)) :=
  cellsI_set (by unfold nextK; rw [if_pos ⟨h1,h2⟩,take_snoc h,List.count_append,codeOf,lenOf_get h,List.count_cons_self]; simp; omega) fun o _ hne => by
    unfold nextK
    split
    · rw [take_snoc h,List.count_append,List.count_cons_of_ne (fun e => hne (by rw [lenOf_get h]; exact e.symm))]; simp
    · rfl
theorem nextK_at {lens : List Nat} {mn mx k : Nat} (h1 : mn ≤ lenOf lens k) (h2 : lenOf lens k ≤ mx) : nextK lens mn mx k (lenOf lens k) = codeOf lens k := by
  unfold nextK; rw [if_pos ⟨h1,h2⟩,codeOf]

/-- The tables that links lead to. -/
def LkF (c : Nat) (lb : Nat → Nat) (g : Nat → Nat → Nat) (nk : Nat) : Frags := (List.range c).map fun a => (⟨lb a,0,cellsU nk (g a)⟩ : Frag)
def lkCells (c : Nat) (lb : Nat → Nat) (nk : Nat) : List Value := (List.range c).map fun a => Value.slice (some ⟨lb a,0,none⟩) nk nk
theorem LkF_get {c a nk : Nat} {lb : Nat → Nat} {g : Nat → Nat → Nat} (h : a < c) : (LkF c lb g nk)[a]? = some ⟨lb a,0,cellsU nk (g a)⟩ := by rw [LkF,List.getElem?_map,List.getElem?_range h]; rfl
theorem lk_get {c a nk : Nat} {lb : Nat → Nat} (h : a < c) : (lkCells c lb nk)[a * 1]? = some (.slice (some ⟨lb a,0,none⟩) nk nk) := by rw [Nat.mul_one,lkCells,List.getElem?_map,List.getElem?_range h]; rfl
theorem LkF_set {c a nk : Nat} {lb : Nat → Nat} {g g' : Nat → Nat → Nat} {cs : List Value} (ha : cellsU nk (g' a) = cs) (hn : ∀ x,x ≠ a → g' x = g x) : (LkF c lb g nk).set a ⟨lb a,0,cs⟩ = LkF c lb g' nk := by
  apply List.ext_getElem?
  intro i
  rw [List.getElem?_set,LkF,LkF,List.getElem?_map,List.getElem?_map]
  by_cases hi : i < c
  · rw [List.getElem?_range hi]
    by_cases hik : a = i
    · subst hik
      rw [if_pos rfl,if_pos (by simpa using hi),← ha]; rfl
    · rw [if_neg hik]
      simp only [Option.map_some]
      rw [hn i (fun e => hik e.symm)]
  · rw [List.getElem?_eq_none (by simpa using hi)]
    simp only [Option.map_none]
    split
    · rw [if_neg (by rw [List.length_map,List.length_range]; omega)]
    · rfl

/-- What init leaves of a code that it takes. -/
def HufT (lens : List Nat) (mn hb o : Nat) (L : Frags) : Prop :=
  ∃ f g nt nk lv T,TabOK lens f g nt nk ∧ (∀ x,x < 512 → f x < 65536) ∧ (∀ a q,g a q < 65536) ∧ 0 < nk ∧ nk ≤ 64 ∧ (∃ e,nk = 2 ^ e) ∧ (mn = 0 → (∀ x,x < 512 → f x = 0) ∧ lv = .slice none 0 0 ∧ nk = 1) ∧ L = [⟨hb,o,[.int .i64 ((mn : Nat) : Int)]⟩,⟨hb,o + 1,cellsU 512 f⟩,⟨hb,o + 513,[lv,.int .u32 ((nk - 1 : Nat) : Int)]⟩] ++ T ∧
    ((nt = 0 ∧ T = [] ∧ lv = .slice none 0 0) ∨ ∃ kb lb,lv = .slice (some ⟨kb,0,none⟩) nt nt ∧ T = ⟨kb,0,lkCells nt lb nk⟩::LkF nt lb g nk)

theorem link_none {lens : List Nat} {lk nk : Nat} {g : Nat → Nat → Nat} (h : ¬ ((9 : Nat) : Int) < ((maxL lens : Nat) : Int)) : TabP lens (maxL lens) lk nk 0 (fun _ => 0) g := by
  have : (fun _ => 0) = link0 (maxL lens) lk := by funext x; rw [link0,if_neg (by omega)]
  rw [this]; exact TabP.zero
theorem link_full {lens : List Nat} {lk nk : Nat} {g : Nat → Nat → Nat} (h512 : lk ≤ 512) (h : ((9 : Nat) : Int) < ((maxL lens : Nat) : Int)) : TabP lens (maxL lens) lk nk 0 (fun x => if lk ≤ revB 9 x ∧ revB 9 x < 512 then (revB 9 x - lk) * 16 + 10 else 0) g := by
  have : (fun x => if lk ≤ revB 9 x ∧ revB 9 x < 512 then (revB 9 x - lk) * 16 + 10 else 0) = link0 (maxL lens) lk := by
    funext x
    have := revB_lt 9 x
    rw [link0]
    by_cases h1 : lk ≤ revB 9 x
    · rw [if_pos ⟨h1,this⟩,if_pos ⟨by omega,h1⟩]
    · rw [if_neg (by omega),if_neg (by omega)]
  rw [this]; exact TabP.zero
theorem link_lt {lk : Nat} (h512 : lk ≤ 512) : ∀ x,x < 512 → (fun x => if lk ≤ revB 9 x ∧ revB 9 x < 512 then (revB 9 x - lk) * 16 + 10 else 0) x < 65536 := fun x _ => by
  have := revB_lt 9 x
  rw [show (2 : Nat) ^ 9 = 512 from rfl] at this
  simp only
  split <;> omega
theorem fill_zero {k n c : Nat} {f : Nat → Nat} (r : Nat) (hr : r = revB n c) : cellsU 512 (fun x => if x < r ∧ x % 2 ^ n = revB n c then k * 16 + n else f x) = cellsU 512 f :=
  cellsU_congr fun x _ => by
    rw [if_neg]
    rintro ⟨h1,h2⟩
    have h3 := revB_lt n c
    rw [Nat.mod_eq_of_lt (by omega)] at h2
    omega
theorem fill_next {n c off : Nat} {f : Nat → Nat} {v : Nat} (h : off % 2 ^ n = revB n c) : (cellsU 512 (fun x => if x < off ∧ x % 2 ^ n = revB n c then v else f x)).set (off * 1) (.int .u32 ((v : Nat) : Int)) = cellsU 512 (fun x => if x < off + 2 ^ n ∧ x % 2 ^ n = revB n c then v else f x) :=
  cellsU_set (by rw [if_pos ⟨by have := Nat.pow_pos (n := n) (show 0 < 2 by omega); omega,h⟩]) fun x _ hne => by
    by_cases h1 : x < off + 2 ^ n ∧ x % 2 ^ n = revB n c
    · rw [if_pos h1,if_pos]
      refine ⟨?_,h1.2⟩
      rcases Nat.lt_or_ge x off with h2 | h2
      · exact h2
      · exfalso
        obtain ⟨d,rfl⟩ := Nat.exists_eq_add_of_le h2
        have hd : d < 2 ^ n := by omega
        have h3 : (off + d) % 2 ^ n = off % 2 ^ n := by rw [h1.2,h]
        have h4 : d % 2 ^ n = 0 := by
          have h5 := Nat.sub_mod_eq_zero_of_mod_eq h3
          rwa [Nat.add_sub_cancel_left] at h5
        rw [Nat.mod_eq_of_lt hd] at h4
        exact hne (by omega)
    · rw [if_neg h1,if_neg (fun h2 => h1 ⟨by omega,h2.2⟩)]

theorem next_start (lens : List Nat) (mn : Nat) : cellsI 16 (nextF lens mn mn) = cellsI 16 (fun _ => 0) := cellsI_congr fun o _ => by unfold nextF; rw [if_neg (by omega)]
theorem next_ten {lens : List Nat} {mx : Nat} (h : 10 ≤ mx) : nextK lens (minL lens) mx 0 10 = 2 * (firstC lens 9 + cntL lens 9) := by
  unfold nextK
  by_cases h1 : minL lens ≤ 10
  · rw [if_pos ⟨h1,h⟩]; rfl
  · rw [if_neg (by omega)]
    have h2 := first_min lens 10 (by omega)
    exact h2.symm
theorem lnk_start (lk : Nat) : cellsU 512 (fun x => if lk ≤ revB 9 x ∧ revB 9 x < lk then (revB 9 x - lk) * 16 + 10 else 0) = cellsU 512 (fun _ => 0) := cellsU_congr fun o _ => by rw [if_neg (by omega)]
theorem lnk_next {lk j : Nat} (h1 : lk ≤ j) (h2 : j < 512) : (cellsU 512 (fun x => if lk ≤ revB 9 x ∧ revB 9 x < j then (revB 9 x - lk) * 16 + 10 else 0)).set (revB 9 j * 1) (.int .u32 (((j - lk) * 16 + 10 : Nat) : Int)) = cellsU 512 (fun x => if lk ≤ revB 9 x ∧ revB 9 x < (j + 1) then (revB 9 x - lk) * 16 + 10 else 0) := by
  have hj : revB 9 (revB 9 j) = j := revB_rev 9 j h2
  refine cellsU_set (by rw [hj,if_pos (by omega)]) fun o ho hne => ?_
  have : revB 9 o ≠ j := fun e => hne (by rw [← e,revB_rev 9 o ho])
  by_cases h3 : lk ≤ revB 9 o ∧ revB 9 o < j
  · rw [if_pos (by omega),if_pos h3]
  · rw [if_neg (by omega),if_neg h3]
theorem kb_start (lk nk : Nat) (lb : Nat → Nat) : ((List.range (512 - lk)).map fun a => if a < lk - lk then Value.slice (some ⟨lb a,0,none⟩) nk nk else .slice none 0 0) = List.replicate (512 - lk) (.slice none 0 0) := by
  rw [List.eq_replicate_iff]
  refine ⟨by simp,fun v hv => ?_⟩
  obtain ⟨a,_,rfl⟩ := List.mem_map.1 hv
  rw [if_neg (by omega)]
def lbNext (lb : Nat → Nat) (a nb : Nat) : Nat → Nat := fun x => if x = a then nb else lb x
theorem kb_next {lk j nk nb : Nat} {lb : Nat → Nat} (h1 : lk ≤ j) : (((List.range (512 - lk)).map fun a => if a < j - lk then Value.slice (some ⟨lb a,0,none⟩) nk nk else .slice none 0 0)).set ((j - lk) * 1) (.slice (some ⟨nb,0,none⟩) nk nk) = ((List.range (512 - lk)).map fun a => if a < (j + 1) - lk then Value.slice (some ⟨(lbNext lb (j - lk) nb) a,0,none⟩) nk nk else .slice none 0 0) := by
  refine map_set (by rw [if_pos (by omega),lbNext,if_pos rfl]) fun o ho hne => ?_
  rw [lbNext,if_neg hne]
  by_cases h3 : o < j - lk
  · rw [if_pos (by omega),if_pos h3]
  · rw [if_neg (by omega),if_neg h3]
theorem kb_end {lk nk : Nat} (lb : Nat → Nat) : ((List.range (512 - lk)).map fun a => if a < 512 - lk then Value.slice (some ⟨lb a,0,none⟩) nk nk else .slice none 0 0) = lkCells (512 - lk) lb nk := by
  unfold lkCells
  exact List.map_congr_left fun a ha => by rw [if_pos (List.mem_range.1 ha)]
theorem LkF_more {c nb nk : Nat} {lb : Nat → Nat} : LkF (c + 1) (lbNext lb c nb) (fun _ _ => 0) nk = LkF c lb (fun _ _ => 0) nk ++ [⟨nb,0,cellsU nk (fun _ => 0)⟩] := by
  unfold LkF
  rw [List.range_succ,List.map_append]
  congr 1
  · exact List.map_congr_left fun a ha => by rw [lbNext,if_neg (by have := List.mem_range.1 ha; omega)]
  · simp [lbNext]
theorem cellsU_zero (n : Nat) : List.replicate n (Value.int .u32 0) = cellsU n (fun _ => 0) := by
  symm; unfold cellsU
  rw [List.eq_replicate_iff]
  refine ⟨by simp,fun v hv => ?_⟩
  obtain ⟨a,_,rfl⟩ := List.mem_map.1 hv
  rfl
theorem revB_sh7 (j : Nat) : revB 16 j >>> 7 = revB 9 j := by rw [Nat.shiftRight_eq_div_pow]; exact revB_prefix (by decide : 9 ≤ 16) j
theorem revB_sh {n : Nat} (c : Nat) (h : n ≤ 16) : revB 16 c >>> (16 - n) = revB n c := by rw [Nat.shiftRight_eq_div_pow]; exact revB_prefix h c
theorem filll_zero {c lk nk n r v h : Nat} {lb : Nat → Nat} {g : Nat → Nat → Nat} (hr : r < 2 ^ n) : LkF c lb (fun a q => if a = h ∧ q < r ∧ q % 2 ^ n = r then v else g a q) nk = LkF c lb g nk := by
  unfold LkF
  refine List.map_congr_left fun a _ => ?_
  rw [cellsU_congr fun x _ => if_neg ?_]
  rintro ⟨_,h1,h2⟩
  rw [Nat.mod_eq_of_lt (by omega)] at h2
  omega
theorem filll_next {c nk n off r v h : Nat} {lb : Nat → Nat} {g : Nat → Nat → Nat} (ho : off % 2 ^ n = r) : (LkF c lb (fun a q => if a = h ∧ q < off ∧ q % 2 ^ n = r then v else g a q) nk).set h ⟨lb h,0,(cellsU nk ((fun a q => if a = h ∧ q < off ∧ q % 2 ^ n = r then v else g a q) h)).set (off * 1) (.int .u32 ((v : Nat) : Int))⟩ =
    LkF c lb (fun a q => if a = h ∧ q < off + 2 ^ n ∧ q % 2 ^ n = r then v else g a q) nk := by
  refine LkF_set (cellsU_set ?_ fun x _ hne => ?_).symm fun x hx => ?_
  · rw [if_pos ⟨rfl,by have := Nat.pow_pos (n := n) (show 0 < 2 by omega); omega,ho⟩]
  · dsimp only
    by_cases h1 : x < off + 2 ^ n ∧ x % 2 ^ n = r
    · rw [if_pos ⟨rfl,h1⟩,if_pos]
      refine ⟨rfl,?_,h1.2⟩
      rcases Nat.lt_or_ge x off with h2 | h2
      · exact h2
      · exfalso
        obtain ⟨d,rfl⟩ := Nat.exists_eq_add_of_le h2
        have h3 : (off + d) % 2 ^ n = off % 2 ^ n := by rw [h1.2,ho]
        have h4 : d % 2 ^ n = 0 := by
          have h5 := Nat.sub_mod_eq_zero_of_mod_eq h3
          rwa [Nat.add_sub_cancel_left] at h5
        rw [Nat.mod_eq_of_lt (by omega)] at h4
        exact hne (by omega)
    · rw [if_neg (fun h2 => h1 h2.2),if_neg (fun h2 => h1 ⟨by omega,h2.2.2⟩)]
  · funext q
    rw [if_neg (fun h2 => hx h2.1),if_neg (fun h2 => hx h2.1)]

/-- How init ends. -/
def InitEnd (lens : List Nat) (hb o : Nat) (Fv : Frag) (r : Value) (L : Frags) : Prop :=
  (okLens lens ∧ r = .bool true ∧ ∃ L1 J,HufT lens (minL lens) hb o L1 ∧ Same L (Fv::L1 ++ J)) ∨ (¬ okLens lens ∧ r = .bool false ∧ ∃ hz J,hz.length = 515 ∧ Same L (Fv::[⟨hb,o,hz⟩] ++ J))
theorem huf_join (hb o : Nat) (F : Frags) : Same (⟨hb,o,[.int .i64 0]⟩::⟨hb,o + 1,cellsU 512 (fun _ => 0)⟩::⟨hb,o + 513,[.slice none 0 0,.int .u32 0]⟩::F) (⟨hb,o,hufZ⟩::F) :=
  (Same.chunks hb F [(o,[.int .i64 0]),(o + 1,cellsU 512 (fun _ => 0)),(o + 513,[.slice none 0 0,.int .u32 0])] o (by simp [chunksOk,cellsU_length])).symm

theorem empty_res {lens : List Nat} {hb o : Nat} (h : maxL lens = 0) : HufT lens (minL lens) hb o [⟨hb,o,[.int .i64 ((0 : Nat) : Int)]⟩,⟨hb,o + 1,cellsU 512 (fun _ => 0)⟩,⟨hb,o + 513,[.slice none 0 0,.int .u32 0]⟩] := by
  have hm : minL lens = 0 := by
    by_cases h0 : minL lens = 0
    · exact h0
    · have := (minL_spec lens).2.2 h0
      have := le_maxL this
      omega
  refine ⟨fun _ => 0,fun _ _ => 0,0,1,_,[],tab_empty h,fun _ _ => (by decide : 0 < 65536),fun _ _ => (by decide : 0 < 65536),by decide,by decide,⟨0,rfl⟩,fun _ => ⟨fun _ _ => rfl,rfl,rfl⟩,?_,.inl ⟨rfl,rfl,rfl⟩⟩
  rw [hm]; rfl
theorem small_res {lens : List Nat} {hb o : Nat} {f : Nat → Nat} (h : TabOK lens f (fun _ _ => 0) 0 1) (hf : ∀ x,x < 512 → f x < 65536) (hp : 0 < minL lens) : HufT lens (minL lens) hb o [⟨hb,o,[.int .i64 ((minL lens : Nat) : Int)]⟩,⟨hb,o + 1,cellsU 512 f⟩,⟨hb,o + 513,[.slice none 0 0,.int .u32 0]⟩] :=
  ⟨f,fun _ _ => 0,0,1,_,[],h,hf,fun _ _ => (by decide : 0 < 65536),by decide,by decide,⟨0,rfl⟩,fun h => by omega,rfl,.inl ⟨rfl,rfl,rfl⟩⟩
theorem big_res {lens : List Nat} {hb o lk nk kb : Nat} {lb : Nat → Nat} {f : Nat → Nat} {g : Nat → Nat → Nat} (h : TabOK lens f g (512 - lk) nk) (hf : ∀ x,x < 512 → f x < 65536) (hg : ∀ a q,g a q < 65536) (h0 : 0 < nk) (h64 : nk ≤ 64) (h2 : ∃ e,nk = 2 ^ e) (hp : 0 < minL lens) :
    HufT lens (minL lens) hb o ([⟨hb,o,[.int .i64 ((minL lens : Nat) : Int)]⟩,⟨hb,o + 1,cellsU 512 f⟩,⟨hb,o + 513,[.slice (some ⟨kb,0,none⟩) ((512 - lk)) (512 - lk),.int .u32 ((nk - 1 : Nat) : Int)]⟩] ++ (⟨kb,0,lkCells (512 - lk) lb nk⟩::LkF (512 - lk) lb g nk)) :=
  ⟨f,g,512 - lk,nk,_,_,h,hf,hg,h0,h64,h2,fun h => by omega,rfl,.inr ⟨kb,lb,rfl,rfl⟩⟩

theorem init_walk {K : Known} (hb o vb vo vc mn0 : Nat) (rest vs : List Value) (lens : List Nat) (hrl : rest.length = 514) (hz : mn0 = 0 → rest = cellsU 512 (fun _ => 0) ++ [.slice none 0 0,.int .u32 0]) (h15 : ∀ x ∈ lens,x ≤ 15) (hll : lens.length ≤ 320) : Fn Tryd.prog K 80 #[.pointer (some ⟨hb,o,none⟩),.slice (some ⟨vb,vo,none⟩) lens.length vc] ([⟨hb,o,.int .i64 ((mn0 : Nat) : Int)::rest⟩,⟨vb,vo,intsV lens ++ vs⟩]) (InitEnd lens hb o ⟨vb,vo,intsV lens ++ vs⟩) := by
 refine Fn.intro (args := [.pointer (some ⟨hb,o,none⟩),.slice (some ⟨vb,vo,none⟩) lens.length vc]) (RR := Ret1 4 _) Tryd.func80 rfl rfl Tryd.ntmps80 (res1 Tryd.results80) ?_
 refine C.reenv (env2 := [(0,.pointer (some ⟨hb,o,none⟩)),(1,.slice (some ⟨vb,vo,none⟩) lens.length vc)]) rfl ?_
 refine C.sr ?_
 refine E.pure (S.assign rfl) rfl ?_
 refine E.kp [(0,_),(1,_),(4,_)] rfl ?_
 refine C.cut (M := fun ee ll => keeps ee [0,1] = some [(0,.pointer (some ⟨hb,o,none⟩)),(1,.slice (some ⟨vb,vo,none⟩) lens.length vc)] ∧ ll = [⟨hb,o,hufZ⟩,⟨vb,vo,intsV lens ++ vs⟩]) ?_ ?_
 ·
  refine C.sr ?_
  refine E.pure (S.move rfl) rfl ?_
  refine E.pure (S.nilPtr rfl) rfl ?_
  refine E.pure (S.field rfl fa144_0) rfl ?_
  refine E.still (S.load 0 (k := 0) rfl rfl rfl Tryd.isAgg3) rfl ?_
  refine E.pure (S.ne (b := ((0 : Nat) : Int)) rfl rfl) rfl ?_
  refine E.kp [(0,_),(1,_),(4,_),(38,_)] rfl ?_
  refine C.ifp rfl (fun h38 => ?_) (fun h38 => ?_)
  ·
   refine C.region ?_
   refine E.pure (S.move rfl) rfl ?_
   refine E.pure (S.buildV (v := .agg hufZ.toArray) [] rfl hufBuild) rfl ?_
   refine E.pure (S.nilPtr rfl) rfl ?_
   refine E.loud0 (X.storeA 0 (k := 0) rfl rfl rfl hufZ_one hufZ_len (by rw [List.length_cons,hrl]; rfl) Tryd.sizeOf144 rfl) ?_
   rintro _ _ ⟨rfl,rfl⟩
   refine E.relist (L2 := [⟨hb,o,hufZ⟩,⟨vb,vo,intsV lens ++ vs⟩]) (by rw [List.take_zero,List.nil_append,List.drop_eq_nil_of_le (by rw [List.length_cons,hrl]; decide),List.append_nil]; rfl) ?_
   refine E.kp [(0,_),(1,_),(4,_),(38,_)] rfl ?_
   exact ⟨rfl,rfl⟩
  have hm0 : mn0 = 0 := by omega
  subst hm0
  have hr0 := hz rfl
  subst hr0
  refine C.skip ?_
  exact ⟨rfl,rfl⟩
 rintro _ _ ⟨hq3,rfl⟩
 refine C.weaken _ hq3 ?_
 refine C.seq ?_
 refine C.same (Same.chunks hb [⟨vb,vo,intsV lens ++ vs⟩] [(o,[.int .i64 0]),(o + 1,cellsU 512 (fun _ => 0)),(o + 513,[.slice none 0 0,.int .u32 0])] o (by simp [chunksOk,cellsU_length])) ?_
 refine C.relist (L2 := [⟨hb,o,[.int .i64 ((0 : Nat) : Int)]⟩,⟨hb,o + 1,cellsU 512 (fun _ => 0)⟩,⟨hb,o + 513,[.slice none 0 0,.int .u32 0]⟩,⟨vb,vo,intsV lens ++ vs⟩]) rfl ?_
 refine C.region ?_
 refine E.loud1 (X.alloc Tryd.zeroValue176) rfl ?_; rintro _ _ ⟨b5,rfl,rfl⟩; refine E.relist (L2 := [_,_,_,_,_]) rfl ?_
 refine E.relist (L2 := [⟨b5,0,cellsI 16 (cntL (lens.take 0))⟩,⟨hb,o,[.int .i64 ((0 : Nat) : Int)]⟩,⟨hb,o + 1,cellsU 512 (fun _ => 0)⟩,⟨hb,o + 513,[.slice none 0 0,.int .u32 0]⟩,⟨vb,vo,intsV lens ++ vs⟩]) rfl ?_
 refine E.kp [(0,_),(1,_),(5,_)] rfl ?_
 refine C.sr ?_
 refine E.pure (S.assign rfl) rfl ?_
 refine E.pure (S.assign rfl) rfl ?_
 refine E.kp [(0,_),(1,_),(5,_),(6,_),(7,_)] rfl ?_
 refine C.seq ?_
 refine C.sr ?_
 refine E.pure (S.move rfl) rfl ?_
 refine E.pure (S.lenSl rfl Tryd.underlying39) rfl ?_
 refine E.pure (S.move rfl) rfl ?_
 refine E.kp [(0,_),(1,_),(5,_),(6,_),(7,_),(42,_),(43,_),(44,_)] rfl ?_
 refine C.block ?_
 refine C.loop (fun mm ee ll => ∃ (i : Nat),∃ (mn : Nat),∃ (mx : Nat),keeps ee [0,1,5,6,7,42,43,44] = some [(0,.pointer (some ⟨hb,o,none⟩)),(1,.slice (some ⟨vb,vo,none⟩) lens.length vc),(5,.pointer (some ⟨b5,0,none⟩)),(6,.int .i64 ((mn : Nat) : Int)),(7,.int .i64 ((mx : Nat) : Int)),(42,.slice (some ⟨vb,vo,none⟩) lens.length vc),(43,.int .i64 ((lens.length : Nat) : Int)),(44,.int .i64 ((i : Nat) : Int))] ∧ ll = [⟨b5,0,cellsI 16 (cntL (lens.take i))⟩,⟨hb,o,[.int .i64 ((0 : Nat) : Int)]⟩,⟨hb,o + 1,cellsU 512 (fun _ => 0)⟩,⟨hb,o + 513,[.slice none 0 0,.int .u32 0]⟩,⟨vb,vo,intsV lens ++ vs⟩] ∧ (i ≤ lens.length) ∧ (mn = minL (lens.take i)) ∧ (mx = maxL (lens.take i)) ∧ mm = lens.length - i) (_) ⟨0,0,0,rfl,rfl,by omega,rfl,rfl,rfl⟩ ?_
 rintro m0 _ _ ⟨i,mn,mx,hk0,rfl,hi,hmn,hmx,hm0⟩
 refine C.weaken _ hk0 ?_
 refine C.sr ?_
 refine E.pure (S.lt rfl rfl) rfl ?_
 refine E.kp [(0,_),(1,_),(5,_),(6,_),(7,_),(42,_),(43,_),(44,_),(45,_)] rfl ?_
 refine C.seq ?_
 refine C.ifp rfl (fun h45 => ?_) (fun h45 => ?_)
 ·
  have hi2 : i < lens.length := by omega
  have hn15 : lens[i] ≤ 15 := h15 _ (List.getElem_mem hi2)
  have hcl := cntL_le (lens.take i) lens[i]
  rw [List.length_take] at hcl
  refine C.skip ?_
  refine C.cut (M := fun ee ll => ∃ (mn2 : Nat),∃ (mx2 : Nat),keeps ee [0,1,5,6,7,42,43,44] = some [(0,.pointer (some ⟨hb,o,none⟩)),(1,.slice (some ⟨vb,vo,none⟩) lens.length vc),(5,.pointer (some ⟨b5,0,none⟩)),(6,.int .i64 ((mn2 : Nat) : Int)),(7,.int .i64 ((mx2 : Nat) : Int)),(42,.slice (some ⟨vb,vo,none⟩) lens.length vc),(43,.int .i64 ((lens.length : Nat) : Int)),(44,.int .i64 ((i : Nat) : Int))] ∧ ll = [⟨b5,0,cellsI 16 (cntL (lens.take (i + 1)))⟩,⟨hb,o,[.int .i64 ((0 : Nat) : Int)]⟩,⟨hb,o + 1,cellsU 512 (fun _ => 0)⟩,⟨hb,o + 513,[.slice none 0 0,.int .u32 0]⟩,⟨vb,vo,intsV lens ++ vs⟩] ∧ (mn2 = minL (lens.take (i + 1))) ∧ (mx2 = maxL (lens.take (i + 1)))) ?_ ?_
  ·
   refine C.block ?_
   refine C.sr ?_
   refine E.pure (S.ixSl rfl rfl (by omega) Tryd.underlying39 Tryd.sizeOf3) rfl ?_
   refine E.still (S.load 4 (k := i * 1) rfl rfl (intsV_get hi2) Tryd.isAgg3) rfl ?_
   refine E.pure (S.assign rfl) rfl ?_
   refine E.kp [(0,_),(1,_),(5,_),(6,_),(7,_),(9,_),(42,_),(43,_),(44,_),(45,_)] rfl ?_
   refine C.seq ?_
   refine C.sr ?_
   refine E.pure (S.move rfl) rfl ?_
   refine E.pure (S.eq (b := ((0 : Nat) : Int)) rfl rfl) rfl ?_
   refine E.kp [(0,_),(1,_),(5,_),(6,_),(7,_),(9,_),(42,_),(43,_),(44,_),(45,_),(49,_)] rfl ?_
   refine C.ifp rfl (fun h49 => ?_) (fun h49 => ?_)
   ·
    refine C.exit rfl ?_
    exact ⟨mn,mx,rfl,by rw [cntL_zero hi2 (by omega)],by rw [minL_take hi2,if_pos (by omega)]; exact hmn,by rw [maxL_take hi2]; omega⟩
   refine C.skip ?_
   refine C.seq ?_
   refine C.sr ?_
   refine E.pure (S.move rfl) rfl ?_
   refine E.pure (S.eq (b := ((0 : Nat) : Int)) rfl rfl) rfl ?_
   refine E.pure (S.move rfl) rfl ?_
   refine E.fork (fun g52 => ?_) (fun g52 => ?_)
   ·
    refine E.guardNo 52 true rfl rfl rfl rfl ?_
    refine E.guardNo 52 true rfl rfl rfl rfl ?_
    refine E.guardNo 52 true rfl rfl rfl rfl ?_
    refine E.pure (S.pickT rfl rfl) rfl ?_
    refine E.kp [(0,_),(1,_),(5,_),(6,_),(7,_),(9,_),(42,_),(43,_),(44,_),(45,_),(49,_),(56,_)] rfl ?_
    refine C.yes rfl (rfl) ?_
    refine C.region ?_
    refine E.pure (S.move rfl) rfl ?_
    refine E.pure (S.assign rfl) rfl ?_
    refine E.kp [(0,_),(1,_),(5,_),(6,_),(7,_),(9,_),(42,_),(43,_),(44,_),(45,_),(49,_),(56,_)] rfl ?_
    refine C.seq ?_
    refine C.sr ?_
    refine E.pure (S.move rfl) rfl ?_
    refine E.pure (S.move rfl) rfl ?_
    refine E.pure (S.gt rfl rfl) rfl ?_
    refine E.kp [(0,_),(1,_),(5,_),(6,_),(7,_),(9,_),(42,_),(43,_),(44,_),(45,_),(49,_),(56,_),(60,_)] rfl ?_
    refine C.ifp rfl (fun h60 => ?_) (fun h60 => ?_)
    ·
     refine C.region ?_
     refine E.pure (S.move rfl) rfl ?_
     refine E.pure (S.assign rfl) rfl ?_
     refine E.kp [(0,_),(1,_),(5,_),(6,_),(7,_),(9,_),(42,_),(43,_),(44,_),(45,_),(49,_),(56,_),(60,_)] rfl ?_
     refine C.region ?_
     refine E.pure (S.move rfl) rfl ?_
     refine E.pure (S.ixArr rfl rfl (by omega) Tryd.underlying176 Tryd.sizeOf3) rfl ?_
     refine E.still (S.load 0 (k := lens[i] * 1) rfl rfl (cellsI_get (by omega)) Tryd.isAgg3) rfl ?_
     refine E.pure (S.add (b := ((1 : Nat) : Int)) rfl rfl (N.add64 (by omega))) rfl ?_
     refine E.pure (S.ixArr rfl rfl (by omega) Tryd.underlying176 Tryd.sizeOf3) rfl ?_
     refine E.loud0 (X.store 0 (k := lens[i] * 1) rfl rfl rfl rfl (by rw [Nat.blt_eq,cellsI_length]; omega) Tryd.sizeOf3) ?_
     rintro _ _ ⟨rfl,rfl⟩
     refine E.relist (L2 := [⟨b5,0,cellsI 16 (cntL (lens.take (i + 1)))⟩,⟨hb,o,[.int .i64 ((0 : Nat) : Int)]⟩,⟨hb,o + 1,cellsU 512 (fun _ => 0)⟩,⟨hb,o + 513,[.slice none 0 0,.int .u32 0]⟩,⟨vb,vo,intsV lens ++ vs⟩]) (congrArg (fun q => ([(⟨b5,0,q⟩ : Frag),⟨hb,o,[.int .i64 ((0 : Nat) : Int)]⟩,⟨hb,o + 1,cellsU 512 (fun _ => 0)⟩,⟨hb,o + 513,[.slice none 0 0,.int .u32 0]⟩,⟨vb,vo,intsV lens ++ vs⟩] : Frags)) (cntL_more hi2 (by omega))) ?_
     refine E.kp [(0,_),(1,_),(5,_),(6,_),(7,_),(9,_),(42,_),(43,_),(44,_),(45,_),(49,_),(56,_),(60,_)] rfl ?_
     first | exact ⟨mn,mx,rfl,by rw [cntL_zero hi2 (by omega)],by rw [minL_take hi2,if_pos (by omega)]; exact hmn,by rw [maxL_take hi2]; omega⟩ | exact ⟨_,_,rfl,rfl,by rw [minL_take hi2,if_neg (by omega),← hmn]; split <;> omega,by rw [maxL_take hi2,← hmx]; omega⟩
    refine C.skip ?_
    refine C.region ?_
    refine E.pure (S.move rfl) rfl ?_
    refine E.pure (S.ixArr rfl rfl (by omega) Tryd.underlying176 Tryd.sizeOf3) rfl ?_
    refine E.still (S.load 0 (k := lens[i] * 1) rfl rfl (cellsI_get (by omega)) Tryd.isAgg3) rfl ?_
    refine E.pure (S.add (b := ((1 : Nat) : Int)) rfl rfl (N.add64 (by omega))) rfl ?_
    refine E.pure (S.ixArr rfl rfl (by omega) Tryd.underlying176 Tryd.sizeOf3) rfl ?_
    refine E.loud0 (X.store 0 (k := lens[i] * 1) rfl rfl rfl rfl (by rw [Nat.blt_eq,cellsI_length]; omega) Tryd.sizeOf3) ?_
    rintro _ _ ⟨rfl,rfl⟩
    refine E.relist (L2 := [⟨b5,0,cellsI 16 (cntL (lens.take (i + 1)))⟩,⟨hb,o,[.int .i64 ((0 : Nat) : Int)]⟩,⟨hb,o + 1,cellsU 512 (fun _ => 0)⟩,⟨hb,o + 513,[.slice none 0 0,.int .u32 0]⟩,⟨vb,vo,intsV lens ++ vs⟩]) (congrArg (fun q => ([(⟨b5,0,q⟩ : Frag),⟨hb,o,[.int .i64 ((0 : Nat) : Int)]⟩,⟨hb,o + 1,cellsU 512 (fun _ => 0)⟩,⟨hb,o + 513,[.slice none 0 0,.int .u32 0]⟩,⟨vb,vo,intsV lens ++ vs⟩] : Frags)) (cntL_more hi2 (by omega))) ?_
    refine E.kp [(0,_),(1,_),(5,_),(6,_),(7,_),(9,_),(42,_),(43,_),(44,_),(45,_),(49,_),(56,_),(60,_)] rfl ?_
    first | exact ⟨mn,mx,rfl,by rw [cntL_zero hi2 (by omega)],by rw [minL_take hi2,if_pos (by omega)]; exact hmn,by rw [maxL_take hi2]; omega⟩ | exact ⟨_,_,rfl,rfl,by rw [minL_take hi2,if_neg (by omega),← hmn]; split <;> omega,by rw [maxL_take hi2,← hmx]; omega⟩
   refine E.wanted 52 rfl rfl ?_
   refine E.pure (S.move rfl) rfl ?_
   refine E.wanted 52 rfl rfl ?_
   refine E.pure (S.move rfl) rfl ?_
   refine E.wanted 52 rfl rfl ?_
   refine E.pure (S.lt rfl rfl) rfl ?_
   refine E.pure (S.pickF rfl rfl) rfl ?_
   refine E.kp [(0,_),(1,_),(5,_),(6,_),(7,_),(9,_),(42,_),(43,_),(44,_),(45,_),(49,_),(56,_)] rfl ?_
   refine C.ifp rfl (fun h56 => ?_) (fun h56 => ?_)
   ·
    refine C.region ?_
    refine E.pure (S.move rfl) rfl ?_
    refine E.pure (S.assign rfl) rfl ?_
    refine E.kp [(0,_),(1,_),(5,_),(6,_),(7,_),(9,_),(42,_),(43,_),(44,_),(45,_),(49,_),(56,_)] rfl ?_
    refine C.seq ?_
    refine C.sr ?_
    refine E.pure (S.move rfl) rfl ?_
    refine E.pure (S.move rfl) rfl ?_
    refine E.pure (S.gt rfl rfl) rfl ?_
    refine E.kp [(0,_),(1,_),(5,_),(6,_),(7,_),(9,_),(42,_),(43,_),(44,_),(45,_),(49,_),(56,_),(60,_)] rfl ?_
    refine C.ifp rfl (fun h60 => ?_) (fun h60 => ?_)
    ·
     refine C.region ?_
     refine E.pure (S.move rfl) rfl ?_
     refine E.pure (S.assign rfl) rfl ?_
     refine E.kp [(0,_),(1,_),(5,_),(6,_),(7,_),(9,_),(42,_),(43,_),(44,_),(45,_),(49,_),(56,_),(60,_)] rfl ?_
     refine C.region ?_
     refine E.pure (S.move rfl) rfl ?_
     refine E.pure (S.ixArr rfl rfl (by omega) Tryd.underlying176 Tryd.sizeOf3) rfl ?_
     refine E.still (S.load 0 (k := lens[i] * 1) rfl rfl (cellsI_get (by omega)) Tryd.isAgg3) rfl ?_
     refine E.pure (S.add (b := ((1 : Nat) : Int)) rfl rfl (N.add64 (by omega))) rfl ?_
     refine E.pure (S.ixArr rfl rfl (by omega) Tryd.underlying176 Tryd.sizeOf3) rfl ?_
     refine E.loud0 (X.store 0 (k := lens[i] * 1) rfl rfl rfl rfl (by rw [Nat.blt_eq,cellsI_length]; omega) Tryd.sizeOf3) ?_
     rintro _ _ ⟨rfl,rfl⟩
     refine E.relist (L2 := [⟨b5,0,cellsI 16 (cntL (lens.take (i + 1)))⟩,⟨hb,o,[.int .i64 ((0 : Nat) : Int)]⟩,⟨hb,o + 1,cellsU 512 (fun _ => 0)⟩,⟨hb,o + 513,[.slice none 0 0,.int .u32 0]⟩,⟨vb,vo,intsV lens ++ vs⟩]) (congrArg (fun q => ([(⟨b5,0,q⟩ : Frag),⟨hb,o,[.int .i64 ((0 : Nat) : Int)]⟩,⟨hb,o + 1,cellsU 512 (fun _ => 0)⟩,⟨hb,o + 513,[.slice none 0 0,.int .u32 0]⟩,⟨vb,vo,intsV lens ++ vs⟩] : Frags)) (cntL_more hi2 (by omega))) ?_
     refine E.kp [(0,_),(1,_),(5,_),(6,_),(7,_),(9,_),(42,_),(43,_),(44,_),(45,_),(49,_),(56,_),(60,_)] rfl ?_
     first | exact ⟨mn,mx,rfl,by rw [cntL_zero hi2 (by omega)],by rw [minL_take hi2,if_pos (by omega)]; exact hmn,by rw [maxL_take hi2]; omega⟩ | exact ⟨_,_,rfl,rfl,by rw [minL_take hi2,if_neg (by omega),← hmn]; split <;> omega,by rw [maxL_take hi2,← hmx]; omega⟩
    refine C.skip ?_
    refine C.region ?_
    refine E.pure (S.move rfl) rfl ?_
    refine E.pure (S.ixArr rfl rfl (by omega) Tryd.underlying176 Tryd.sizeOf3) rfl ?_
    refine E.still (S.load 0 (k := lens[i] * 1) rfl rfl (cellsI_get (by omega)) Tryd.isAgg3) rfl ?_
    refine E.pure (S.add (b := ((1 : Nat) : Int)) rfl rfl (N.add64 (by omega))) rfl ?_
    refine E.pure (S.ixArr rfl rfl (by omega) Tryd.underlying176 Tryd.sizeOf3) rfl ?_
    refine E.loud0 (X.store 0 (k := lens[i] * 1) rfl rfl rfl rfl (by rw [Nat.blt_eq,cellsI_length]; omega) Tryd.sizeOf3) ?_
    rintro _ _ ⟨rfl,rfl⟩
    refine E.relist (L2 := [⟨b5,0,cellsI 16 (cntL (lens.take (i + 1)))⟩,⟨hb,o,[.int .i64 ((0 : Nat) : Int)]⟩,⟨hb,o + 1,cellsU 512 (fun _ => 0)⟩,⟨hb,o + 513,[.slice none 0 0,.int .u32 0]⟩,⟨vb,vo,intsV lens ++ vs⟩]) (congrArg (fun q => ([(⟨b5,0,q⟩ : Frag),⟨hb,o,[.int .i64 ((0 : Nat) : Int)]⟩,⟨hb,o + 1,cellsU 512 (fun _ => 0)⟩,⟨hb,o + 513,[.slice none 0 0,.int .u32 0]⟩,⟨vb,vo,intsV lens ++ vs⟩] : Frags)) (cntL_more hi2 (by omega))) ?_
    refine E.kp [(0,_),(1,_),(5,_),(6,_),(7,_),(9,_),(42,_),(43,_),(44,_),(45,_),(49,_),(56,_),(60,_)] rfl ?_
    first | exact ⟨mn,mx,rfl,by rw [cntL_zero hi2 (by omega)],by rw [minL_take hi2,if_pos (by omega)]; exact hmn,by rw [maxL_take hi2]; omega⟩ | exact ⟨_,_,rfl,rfl,by rw [minL_take hi2,if_neg (by omega),← hmn]; split <;> omega,by rw [maxL_take hi2,← hmx]; omega⟩
   refine C.skip ?_
   refine C.seq ?_
   refine C.sr ?_
   refine E.pure (S.move rfl) rfl ?_
   refine E.pure (S.move rfl) rfl ?_
   refine E.pure (S.gt rfl rfl) rfl ?_
   refine E.kp [(0,_),(1,_),(5,_),(6,_),(7,_),(9,_),(42,_),(43,_),(44,_),(45,_),(49,_),(56,_),(60,_)] rfl ?_
   refine C.ifp rfl (fun h60 => ?_) (fun h60 => ?_)
   ·
    refine C.region ?_
    refine E.pure (S.move rfl) rfl ?_
    refine E.pure (S.assign rfl) rfl ?_
    refine E.kp [(0,_),(1,_),(5,_),(6,_),(7,_),(9,_),(42,_),(43,_),(44,_),(45,_),(49,_),(56,_),(60,_)] rfl ?_
    refine C.region ?_
    refine E.pure (S.move rfl) rfl ?_
    refine E.pure (S.ixArr rfl rfl (by omega) Tryd.underlying176 Tryd.sizeOf3) rfl ?_
    refine E.still (S.load 0 (k := lens[i] * 1) rfl rfl (cellsI_get (by omega)) Tryd.isAgg3) rfl ?_
    refine E.pure (S.add (b := ((1 : Nat) : Int)) rfl rfl (N.add64 (by omega))) rfl ?_
    refine E.pure (S.ixArr rfl rfl (by omega) Tryd.underlying176 Tryd.sizeOf3) rfl ?_
    refine E.loud0 (X.store 0 (k := lens[i] * 1) rfl rfl rfl rfl (by rw [Nat.blt_eq,cellsI_length]; omega) Tryd.sizeOf3) ?_
    rintro _ _ ⟨rfl,rfl⟩
    refine E.relist (L2 := [⟨b5,0,cellsI 16 (cntL (lens.take (i + 1)))⟩,⟨hb,o,[.int .i64 ((0 : Nat) : Int)]⟩,⟨hb,o + 1,cellsU 512 (fun _ => 0)⟩,⟨hb,o + 513,[.slice none 0 0,.int .u32 0]⟩,⟨vb,vo,intsV lens ++ vs⟩]) (congrArg (fun q => ([(⟨b5,0,q⟩ : Frag),⟨hb,o,[.int .i64 ((0 : Nat) : Int)]⟩,⟨hb,o + 1,cellsU 512 (fun _ => 0)⟩,⟨hb,o + 513,[.slice none 0 0,.int .u32 0]⟩,⟨vb,vo,intsV lens ++ vs⟩] : Frags)) (cntL_more hi2 (by omega))) ?_
    refine E.kp [(0,_),(1,_),(5,_),(6,_),(7,_),(9,_),(42,_),(43,_),(44,_),(45,_),(49,_),(56,_),(60,_)] rfl ?_
    first | exact ⟨mn,mx,rfl,by rw [cntL_zero hi2 (by omega)],by rw [minL_take hi2,if_pos (by omega)]; exact hmn,by rw [maxL_take hi2]; omega⟩ | exact ⟨_,_,rfl,rfl,by rw [minL_take hi2,if_neg (by omega),← hmn]; split <;> omega,by rw [maxL_take hi2,← hmx]; omega⟩
   refine C.skip ?_
   refine C.region ?_
   refine E.pure (S.move rfl) rfl ?_
   refine E.pure (S.ixArr rfl rfl (by omega) Tryd.underlying176 Tryd.sizeOf3) rfl ?_
   refine E.still (S.load 0 (k := lens[i] * 1) rfl rfl (cellsI_get (by omega)) Tryd.isAgg3) rfl ?_
   refine E.pure (S.add (b := ((1 : Nat) : Int)) rfl rfl (N.add64 (by omega))) rfl ?_
   refine E.pure (S.ixArr rfl rfl (by omega) Tryd.underlying176 Tryd.sizeOf3) rfl ?_
   refine E.loud0 (X.store 0 (k := lens[i] * 1) rfl rfl rfl rfl (by rw [Nat.blt_eq,cellsI_length]; omega) Tryd.sizeOf3) ?_
   rintro _ _ ⟨rfl,rfl⟩
   refine E.relist (L2 := [⟨b5,0,cellsI 16 (cntL (lens.take (i + 1)))⟩,⟨hb,o,[.int .i64 ((0 : Nat) : Int)]⟩,⟨hb,o + 1,cellsU 512 (fun _ => 0)⟩,⟨hb,o + 513,[.slice none 0 0,.int .u32 0]⟩,⟨vb,vo,intsV lens ++ vs⟩]) (congrArg (fun q => ([(⟨b5,0,q⟩ : Frag),⟨hb,o,[.int .i64 ((0 : Nat) : Int)]⟩,⟨hb,o + 1,cellsU 512 (fun _ => 0)⟩,⟨hb,o + 513,[.slice none 0 0,.int .u32 0]⟩,⟨vb,vo,intsV lens ++ vs⟩] : Frags)) (cntL_more hi2 (by omega))) ?_
   refine E.kp [(0,_),(1,_),(5,_),(6,_),(7,_),(9,_),(42,_),(43,_),(44,_),(45,_),(49,_),(56,_),(60,_)] rfl ?_
   first | exact ⟨mn,mx,rfl,by rw [cntL_zero hi2 (by omega)],by rw [minL_take hi2,if_pos (by omega)]; exact hmn,by rw [maxL_take hi2]; omega⟩ | exact ⟨_,_,rfl,rfl,by rw [minL_take hi2,if_neg (by omega),← hmn]; split <;> omega,by rw [maxL_take hi2,← hmx]; omega⟩
  rintro _ _ ⟨mn2,mx2,hq14,rfl,hmn2,hmx2⟩
  refine C.weaken _ hq14 ?_
  refine C.region ?_
  refine E.pure (S.add (b := ((1 : Nat) : Int)) rfl rfl (N.add64 (by omega))) rfl ?_
  refine E.pure (S.move rfl) rfl ?_
  refine E.kp [(0,_),(1,_),(5,_),(6,_),(7,_),(42,_),(43,_),(44,_)] rfl ?_
  refine ⟨_,?_,i + 1,mn2,mx2,rfl,rfl,by omega,hmn2,hmx2,rfl⟩; omega
 have hi2 : i = lens.length := by omega
 subst hi2
 rw [List.take_length] at hmn hmx
 subst hmn hmx
 refine C.relist (L2 := [⟨b5,0,cellsI 16 (cntL lens)⟩,⟨hb,o,[.int .i64 ((0 : Nat) : Int)]⟩,⟨hb,o + 1,cellsU 512 (fun _ => 0)⟩,⟨hb,o + 513,[.slice none 0 0,.int .u32 0]⟩,⟨vb,vo,intsV lens ++ vs⟩]) (by rw [List.take_length]) ?_
 refine C.exit rfl ?_
 refine C.seq ?_
 refine C.sr ?_
 refine E.pure (S.move rfl) rfl ?_
 refine E.pure (S.eq (b := ((0 : Nat) : Int)) rfl rfl) rfl ?_
 refine E.kp [(0,_),(1,_),(5,_),(6,_),(7,_),(42,_),(43,_),(44,_),(45,_),(69,_)] rfl ?_
 refine C.ifp rfl (fun h69 => ?_) (fun h69 => ?_)
 ·
  have hm0 : maxL lens = 0 := by omega
  have hok : okLens lens := .inl hm0
  refine C.sr ?_
  refine E.pure (S.assign rfl) rfl ?_
  refine E.kp [(0,_),(1,_),(4,_),(5,_),(6,_),(7,_),(42,_),(43,_),(44,_),(45,_),(69,_)] rfl ?_
  refine C.ret ?_
  exact ⟨_,rfl,.inl ⟨hok,rfl,_,[_],empty_res hm0,Same.perm (picks_perm (A := [_,_,_,_]) (F := [_]) (is := [4,1,1,1]) rfl)⟩⟩
 have hmp := min_pos (l := lens) (by omega)
 have hm15 : maxL lens ≤ 15 := maxL_le h15
 have h2m : 2 ^ maxL lens ≤ 2 ^ 15 := Nat.pow_le_pow_right (by omega) hm15
 refine C.skip ?_
 refine C.sr ?_
 refine E.pure (S.assign rfl) rfl ?_
 refine E.kp [(0,_),(1,_),(5,_),(6,_),(7,_),(10,_),(42,_),(43,_),(44,_),(45,_),(69,_)] rfl ?_
 refine C.sr ?_
 refine E.loud1 (X.alloc Tryd.zeroValue176) rfl ?_; rintro _ _ ⟨b11,rfl,rfl⟩; refine E.relist (L2 := [_,_,_,_,_,_]) rfl ?_
 refine E.relist (L2 := [⟨b11,0,cellsI 16 (nextF lens (minL lens) (minL lens))⟩,⟨b5,0,cellsI 16 (cntL lens)⟩,⟨hb,o,[.int .i64 ((0 : Nat) : Int)]⟩,⟨hb,o + 1,cellsU 512 (fun _ => 0)⟩,⟨hb,o + 513,[.slice none 0 0,.int .u32 0]⟩,⟨vb,vo,intsV lens ++ vs⟩]) (by rw [next_start]; rfl) ?_
 refine E.kp [(0,_),(1,_),(5,_),(6,_),(7,_),(10,_),(11,_),(42,_),(43,_),(44,_),(45,_),(69,_)] rfl ?_
 refine C.seq ?_
 refine C.sr ?_
 refine E.pure (S.move rfl) rfl ?_
 refine E.pure (S.assign rfl) rfl ?_
 refine E.kp [(0,_),(1,_),(5,_),(6,_),(7,_),(10,_),(11,_),(12,_),(42,_),(43,_),(44,_),(45,_),(69,_)] rfl ?_
 refine C.block ?_
 refine C.loop (fun mm ee ll => ∃ (code : Nat),∃ (i : Nat),keeps ee [0,1,5,6,7,11,10,12] = some [(0,.pointer (some ⟨hb,o,none⟩)),(1,.slice (some ⟨vb,vo,none⟩) lens.length vc),(5,.pointer (some ⟨b5,0,none⟩)),(6,.int .i64 ((minL lens : Nat) : Int)),(7,.int .i64 ((maxL lens : Nat) : Int)),(11,.pointer (some ⟨b11,0,none⟩)),(10,.int .i64 ((code : Nat) : Int)),(12,.int .i64 ((i : Nat) : Int))] ∧ ll = [⟨b11,0,cellsI 16 (nextF lens (minL lens) i)⟩,⟨b5,0,cellsI 16 (cntL lens)⟩,⟨hb,o,[.int .i64 ((0 : Nat) : Int)]⟩,⟨hb,o + 1,cellsU 512 (fun _ => 0)⟩,⟨hb,o + 513,[.slice none 0 0,.int .u32 0]⟩,⟨vb,vo,intsV lens ++ vs⟩] ∧ (minL lens ≤ i) ∧ (i ≤ maxL lens + 1) ∧ (2 * code = firstC lens i) ∧ mm = maxL lens + 1 - i) (_) ⟨0,minL lens,rfl,rfl,Nat.le_refl _,by omega,by rw [first_min lens _ (Nat.le_refl _)],rfl⟩ ?_
 rintro m1 _ _ ⟨code,i,hk1,rfl,hi1,hi2,hc,hm1⟩
 refine C.weaken _ hk1 ?_
 refine C.seq ?_
 refine C.sr ?_
 refine E.pure (S.move rfl) rfl ?_
 refine E.pure (S.move rfl) rfl ?_
 refine E.pure (S.le rfl rfl) rfl ?_
 refine E.kp [(0,_),(1,_),(5,_),(6,_),(7,_),(10,_),(11,_),(12,_),(73,_)] rfl ?_
 refine C.ifp rfl (fun h73 => ?_) (fun h73 => ?_)
 ·
  have hfl := first_le (l := lens) (k := i) hll (by omega)
  have hcl := cntL_le lens i
  refine C.skip ?_
  refine C.seq ?_
  refine C.block ?_
  refine C.sr ?_
  refine E.pure (S.move rfl) rfl ?_
  refine E.pure (S.shl (b := ((1 : Nat) : Int)) rfl rfl (by omega) (N.shl64 (by rw [Nat.shiftLeft_eq]; omega))) rfl ?_
  refine E.reslot (v := .int .i64 ((firstC lens i : Nat) : Int)) (congrArg (fun q : Nat => Value.int .i64 (q : Int)) (by rw [Nat.shiftLeft_eq]; omega)) ?_
  refine E.pure (S.assign rfl) rfl ?_
  refine E.kp [(0,_),(1,_),(5,_),(6,_),(7,_),(10,_),(11,_),(12,_),(73,_)] rfl ?_
  refine C.sr ?_
  refine E.pure (S.move rfl) rfl ?_
  refine E.pure (S.move rfl) rfl ?_
  refine E.pure (S.ixArr rfl rfl (by omega) Tryd.underlying176 Tryd.sizeOf3) rfl ?_
  refine E.loud0 (X.store 0 (k := i * 1) rfl rfl rfl rfl (by rw [Nat.blt_eq,cellsI_length]; omega) Tryd.sizeOf3) ?_
  rintro _ _ ⟨rfl,rfl⟩
  refine E.relist (L2 := [⟨b11,0,cellsI 16 (nextF lens (minL lens) (i + 1))⟩,⟨b5,0,cellsI 16 (cntL lens)⟩,⟨hb,o,[.int .i64 ((0 : Nat) : Int)]⟩,⟨hb,o + 1,cellsU 512 (fun _ => 0)⟩,⟨hb,o + 513,[.slice none 0 0,.int .u32 0]⟩,⟨vb,vo,intsV lens ++ vs⟩]) (congrArg (fun q => ([(⟨b11,0,q⟩ : Frag),⟨b5,0,cellsI 16 (cntL lens)⟩,⟨hb,o,[.int .i64 ((0 : Nat) : Int)]⟩,⟨hb,o + 1,cellsU 512 (fun _ => 0)⟩,⟨hb,o + 513,[.slice none 0 0,.int .u32 0]⟩,⟨vb,vo,intsV lens ++ vs⟩] : Frags)) (next_set hi1)) ?_
  refine E.kp [(0,_),(1,_),(5,_),(6,_),(7,_),(10,_),(11,_),(12,_),(73,_)] rfl ?_
  refine C.region ?_
  refine E.pure (S.move rfl) rfl ?_
  refine E.pure (S.move rfl) rfl ?_
  refine E.pure (S.ixArr rfl rfl (by omega) Tryd.underlying176 Tryd.sizeOf3) rfl ?_
  refine E.still (S.load 1 (k := i * 1) rfl rfl (cellsI_get (by omega)) Tryd.isAgg3) rfl ?_
  refine E.pure (S.add rfl rfl (N.add64 (by omega))) rfl ?_
  refine E.pure (S.assign rfl) rfl ?_
  refine E.kp [(0,_),(1,_),(5,_),(6,_),(7,_),(10,_),(11,_),(12,_),(73,_)] rfl ?_
  refine C.region ?_
  refine E.pure (S.move rfl) rfl ?_
  refine E.pure (S.add (b := ((1 : Nat) : Int)) rfl rfl (N.add64 (by omega))) rfl ?_
  refine E.pure (S.assign rfl) rfl ?_
  refine E.kp [(0,_),(1,_),(5,_),(6,_),(7,_),(10,_),(11,_),(12,_),(73,_)] rfl ?_
  refine ⟨_,?_,firstC lens i + cntL lens i,i + 1,rfl,rfl,by omega,by omega,rfl,rfl⟩; omega
 have hi3 : i = maxL lens + 1 := by omega
 subst hi3
 have hcode : code = firstC lens (maxL lens) + cntL lens (maxL lens) := by
   have h : 2 * code = 2 * (firstC lens (maxL lens) + cntL lens (maxL lens)) := hc
   omega
 subst hcode
 have hfl := first_le (l := lens) (k := maxL lens) hll hm15
 refine C.relist (L2 := [⟨b11,0,cellsI 16 (nextK lens (minL lens) (maxL lens) 0)⟩,⟨b5,0,cellsI 16 (cntL lens)⟩,⟨hb,o,[.int .i64 ((0 : Nat) : Int)]⟩,⟨hb,o + 1,cellsU 512 (fun _ => 0)⟩,⟨hb,o + 513,[.slice none 0 0,.int .u32 0]⟩,⟨vb,vo,intsV lens ++ vs⟩]) (by rw [next_done]) ?_
 refine C.exit rfl ?_
 refine C.cut (M := fun ee ll => keeps ee [0,1,5,6,7,11] = some [(0,.pointer (some ⟨hb,o,none⟩)),(1,.slice (some ⟨vb,vo,none⟩) lens.length vc),(5,.pointer (some ⟨b5,0,none⟩)),(6,.int .i64 ((minL lens : Nat) : Int)),(7,.int .i64 ((maxL lens : Nat) : Int)),(11,.pointer (some ⟨b11,0,none⟩))] ∧ ll = [⟨b11,0,cellsI 16 (nextK lens (minL lens) (maxL lens) 0)⟩,⟨b5,0,cellsI 16 (cntL lens)⟩,⟨hb,o,[.int .i64 ((0 : Nat) : Int)]⟩,⟨hb,o + 1,cellsU 512 (fun _ => 0)⟩,⟨hb,o + 513,[.slice none 0 0,.int .u32 0]⟩,⟨vb,vo,intsV lens ++ vs⟩] ∧ (firstC lens (maxL lens) + cntL lens (maxL lens) = 2 ^ maxL lens ∨ (maxL lens = 1 ∧ firstC lens 1 + cntL lens 1 = 1))) ?_ ?_
 ·
  refine C.sr ?_
  refine E.pure (S.move rfl) rfl ?_
  refine E.pure (S.move rfl) rfl ?_
  refine E.pure (S.conv rfl Tryd.underlying3 Tryd.underlying92 (N.in_u64 (by omega))) rfl ?_
  refine E.pure (S.shl (a := ((1 : Nat) : Int)) rfl rfl (by omega) (N.shl64 (by rw [Nat.one_shiftLeft]; omega))) rfl ?_
  refine E.reslot (v := .int .i64 ((2 ^ maxL lens : Nat) : Int)) (congrArg (fun q : Nat => Value.int .i64 (q : Int)) (by rw [Nat.one_shiftLeft])) ?_
  refine E.pure (S.ne rfl rfl) rfl ?_
  refine E.pure (S.move rfl) rfl ?_
  refine E.fork (fun g91 => ?_) (fun g91 => ?_)
  ·
   refine E.wanted 91 rfl rfl ?_
   refine E.pure (S.move rfl) rfl ?_
   refine E.wanted 91 rfl rfl ?_
   refine E.pure (S.eq (b := ((1 : Nat) : Int)) rfl rfl) rfl ?_
   refine E.wanted 91 rfl rfl ?_
   refine E.pure (S.move rfl) rfl ?_
   refine E.fork (fun g94 => ?_) (fun g94 => ?_)
   ·
    refine E.wanted 94 rfl rfl ?_
    refine E.pure (S.move rfl) rfl ?_
    refine E.wanted 94 rfl rfl ?_
    refine E.pure (S.eq (b := ((1 : Nat) : Int)) rfl rfl) rfl ?_
    refine E.wanted 91 rfl rfl ?_
    refine E.pure (S.pickT rfl rfl) rfl ?_
    refine E.wanted 91 rfl rfl ?_
    refine E.pure (S.notB rfl) rfl ?_
    refine E.pure (S.pickT rfl rfl) rfl ?_
    refine E.kp [(0,_),(1,_),(5,_),(6,_),(7,_),(10,_),(11,_),(12,_),(73,_),(99,_)] rfl ?_
    first | refine C.ifp rfl (fun h99 => ?_) (fun h99 => ?_) | refine C.cond rfl (fun h99 => ?_) (fun h99 => ?_)
    ·
     refine C.seq ?_
     have hno : ¬ okLens lens := by
       rintro (h | h | ⟨h,h2⟩)
       · omega
       · omega
       · have h3 : firstC lens (maxL lens) + cntL lens (maxL lens) = 1 := by rw [h]; exact h2
         first | omega | (simp at h99; omega)
     refine C.region ?_
     refine E.pure (S.assign rfl) rfl ?_
     refine E.kp [(0,_),(1,_),(4,_),(5,_),(6,_),(7,_),(10,_),(11,_),(12,_),(73,_),(99,_)] rfl ?_
     refine C.ret ?_
     refine ⟨_,rfl,.inr ⟨hno,rfl,hufZ,[⟨b11,0,cellsI 16 (nextK lens (minL lens) (maxL lens) 0)⟩,⟨b5,0,cellsI 16 (cntL lens)⟩],hufZ_len,?_⟩⟩
     refine (Same.perm (picks_perm (A := [_,_,_,_,_,_]) (F := []) (is := [2,2,2,2,0,0]) rfl)).trans ?_
     refine (huf_join hb o [_,_,_]).trans ?_
     exact Same.perm (List.Perm.swap _ _ _)
    refine C.skip ?_
    exact ⟨rfl,rfl,by first | exact .inl (by omega) | (have h1 : maxL lens = 1 := (by simp at h99; omega); exact .inr ⟨h1,by rw [h1] at g94; omega⟩)⟩
   refine E.guardNo 94 false rfl rfl rfl rfl ?_
   refine E.guardNo 94 false rfl rfl rfl rfl ?_
   refine E.wanted 91 rfl rfl ?_
   refine E.pure (S.pickF rfl rfl) rfl ?_
   refine E.wanted 91 rfl rfl ?_
   refine E.pure (S.notB rfl) rfl ?_
   refine E.pure (S.pickT rfl rfl) rfl ?_
   refine E.kp [(0,_),(1,_),(5,_),(6,_),(7,_),(10,_),(11,_),(12,_),(73,_),(99,_)] rfl ?_
   refine C.yes rfl (rfl) ?_
   refine C.seq ?_
   have hno : ¬ okLens lens := by
     rintro (h | h | ⟨h,h2⟩)
     · omega
     · omega
     · have h3 : firstC lens (maxL lens) + cntL lens (maxL lens) = 1 := by rw [h]; exact h2
       omega
   refine C.region ?_
   refine E.pure (S.assign rfl) rfl ?_
   refine E.kp [(0,_),(1,_),(4,_),(5,_),(6,_),(7,_),(10,_),(11,_),(12,_),(73,_),(99,_)] rfl ?_
   refine C.ret ?_
   refine ⟨_,rfl,.inr ⟨hno,rfl,hufZ,[⟨b11,0,cellsI 16 (nextK lens (minL lens) (maxL lens) 0)⟩,⟨b5,0,cellsI 16 (cntL lens)⟩],hufZ_len,?_⟩⟩
   refine (Same.perm (picks_perm (A := [_,_,_,_,_,_]) (F := []) (is := [2,2,2,2,0,0]) rfl)).trans ?_
   refine (huf_join hb o [_,_,_]).trans ?_
   exact Same.perm (List.Perm.swap _ _ _)
  refine E.guardNo 91 false rfl rfl rfl rfl ?_
  refine E.guardNo 91 false rfl rfl rfl rfl ?_
  refine E.guardNo 91 false rfl rfl rfl rfl ?_
  refine E.guardUndef 94 rfl rfl rfl ?_
  refine E.guardUndef 94 rfl rfl rfl ?_
  refine E.guardNo 91 false rfl rfl rfl rfl ?_
  refine E.guardNo 91 false rfl rfl rfl rfl ?_
  refine E.pure (S.pickF rfl rfl) rfl ?_
  refine E.kp [(0,_),(1,_),(5,_),(6,_),(7,_),(10,_),(11,_),(12,_),(73,_),(99,_)] rfl ?_
  refine C.no rfl (rfl) ?_
  refine C.skip ?_
  exact ⟨rfl,rfl,by first | exact .inl (by omega) | (have h1 : maxL lens = 1 := (by simp at h99; omega); exact .inr ⟨h1,by rw [h1] at g94; omega⟩)⟩
 rintro _ _ ⟨hq27,rfl,hfull⟩
 refine C.weaken _ hq27 ?_
 have hok : okLens lens := .inr hfull
 have hfit := fit_of_ok hok
 obtain ⟨lk,hlk⟩ : ∃ lk,lk = firstC lens 9 + cntL lens 9 := ⟨_,rfl⟩
 refine C.sr ?_
 refine E.pure (S.move rfl) rfl ?_
 refine E.pure (S.move rfl) rfl ?_
 refine E.pure (S.nilPtr rfl) rfl ?_
 refine E.pure (S.field rfl fa144_0) rfl ?_
 refine E.loud0 (X.store 2 (k := 0) rfl rfl rfl rfl rfl Tryd.sizeOf3) ?_; rintro _ _ ⟨rfl,rfl⟩; refine E.relist (L2 := [_,_,_,_,_,_]) rfl ?_
 refine E.kp [(0,_),(1,_),(5,_),(6,_),(7,_),(11,_)] rfl ?_
 refine C.seq ?_
 refine C.sr ?_
 refine E.pure (S.move rfl) rfl ?_
 refine E.pure (S.gt (b := ((9 : Nat) : Int)) rfl rfl) rfl ?_
 refine E.kp [(0,_),(1,_),(5,_),(6,_),(7,_),(11,_),(105,_)] rfl ?_
 refine C.ifp rfl (fun h105 => ?_) (fun h105 => ?_)
 ·
  have hlk9 : lk ≤ 512 := by rw [hlk]; exact hfit.at (l := 9) (by omega)
  have hnk : 2 ^ (maxL lens - 9) ≤ 64 := Nat.pow_le_pow_right (by omega) (by omega : maxL lens - 9 ≤ 6)
  have hnk0 : 0 < 2 ^ (maxL lens - 9) := Nat.pow_pos (by omega)
  refine C.sr ?_
  refine E.pure (S.move rfl) rfl ?_
  refine E.pure (S.conv rfl Tryd.underlying3 Tryd.underlying92 (N.in_u64 (by omega))) rfl ?_
  refine E.pure (S.sub (b := ((9 : Nat) : Int)) rfl rfl (N.sub_u64 (by omega) (by omega))) rfl ?_
  refine E.pure (S.shl (a := ((1 : Nat) : Int)) rfl rfl (by omega) (N.shl64 (by rw [Nat.one_shiftLeft]; omega))) rfl ?_
  refine E.reslot (v := .int .i64 ((2 ^ (maxL lens - 9) : Nat) : Int)) (congrArg (fun q : Nat => Value.int .i64 (q : Int)) (by rw [Nat.one_shiftLeft])) ?_
  refine E.pure (S.assign rfl) rfl ?_
  refine E.kp [(0,_),(1,_),(5,_),(6,_),(7,_),(11,_),(13,_),(105,_)] rfl ?_
  refine C.sr ?_
  refine E.pure (S.move rfl) rfl ?_
  refine E.pure (S.move rfl) rfl ?_
  refine E.pure (S.sub (b := ((1 : Nat) : Int)) rfl rfl (N.sub64 (by omega) (by omega))) rfl ?_
  refine E.pure (S.conv rfl Tryd.underlying3 Tryd.underlying52 (N.in_u32 (by omega))) rfl ?_
  refine E.pure (S.nilPtr rfl) rfl ?_
  refine E.pure (S.field rfl fa144_3) rfl ?_
  refine E.loud0 (X.store 4 (k := 1) rfl rfl rfl rfl rfl Tryd.sizeOf52) ?_; rintro _ _ ⟨rfl,rfl⟩; refine E.relist (L2 := [_,_,_,_,_,_]) rfl ?_
  refine E.kp [(0,_),(1,_),(5,_),(6,_),(7,_),(11,_),(13,_),(105,_)] rfl ?_
  refine C.sr ?_
  refine E.pure (S.ixArr (i := 10) rfl rfl (by omega) Tryd.underlying176 Tryd.sizeOf3) rfl ?_
  refine E.still (S.load 0 (k := 10 * 1) rfl rfl (cellsI_get (by omega)) Tryd.isAgg3) rfl ?_
  refine E.pure (S.shr (b := ((1 : Nat) : Int)) rfl rfl (by omega) (N.shr64 (by rw [next_ten (by omega)]; omega) _)) rfl ?_
  refine E.reslot (v := .int .i64 ((lk : Nat) : Int)) (congrArg (fun q : Nat => Value.int .i64 (q : Int)) (by rw [next_ten (by omega),Nat.shiftRight_eq_div_pow]; omega)) ?_
  refine E.pure (S.assign rfl) rfl ?_
  refine E.kp [(0,_),(1,_),(5,_),(6,_),(7,_),(11,_),(13,_),(14,_),(105,_)] rfl ?_
  refine C.sr ?_
  refine E.pure (S.move rfl) rfl ?_
  refine E.pure (S.move rfl) rfl ?_
  refine E.pure (S.sub (a := ((512 : Nat) : Int)) rfl rfl (N.sub64 (by omega) (by omega))) rfl ?_
  refine E.loud1 (X.make (l := 512 - lk) (c := 512 - lk) (bytes := 24) Tryd.underlying142 infoSlU (z := .slice none 0 0) rfl rfl rfl rfl rfl rfl (Nat.le_refl _) (by omega) (by omega)) rfl ?_; rintro _ _ ⟨kb,rfl,rfl⟩; refine E.relist (L2 := [_,_,_,_,_,_,_]) rfl ?_
  refine E.pure (S.nilPtr rfl) rfl ?_
  refine E.pure (S.field rfl fa144_2) rfl ?_
  refine E.loud0 (X.store 5 (k := 0) rfl rfl rfl rfl rfl Tryd.sizeOf142) ?_; rintro _ _ ⟨rfl,rfl⟩; refine E.relist (L2 := [_,_,_,_,_,_,_]) rfl ?_
  refine E.kp [(0,_),(1,_),(5,_),(6,_),(7,_),(11,_),(13,_),(14,_),(105,_)] rfl ?_
  refine C.sr ?_
  refine E.pure (S.move rfl) rfl ?_
  refine E.pure (S.conv rfl Tryd.underlying3 Tryd.underlying92 (N.in_u64 (by omega))) rfl ?_
  refine E.pure (S.assign rfl) rfl ?_
  refine E.kp [(0,_),(1,_),(5,_),(6,_),(7,_),(11,_),(13,_),(14,_),(15,_),(105,_)] rfl ?_
  refine C.block ?_
  refine C.loop (fun mm ee ll => ∃ (j : Nat),∃ (lb : Nat → Nat),keeps ee [0,1,6,7,11,13,14,15] = some [(0,.pointer (some ⟨hb,o,none⟩)),(1,.slice (some ⟨vb,vo,none⟩) lens.length vc),(6,.int .i64 ((minL lens : Nat) : Int)),(7,.int .i64 ((maxL lens : Nat) : Int)),(11,.pointer (some ⟨b11,0,none⟩)),(13,.int .i64 ((2 ^ (maxL lens - 9) : Nat) : Int)),(14,.int .i64 ((lk : Nat) : Int)),(15,.int .u64 ((j : Nat) : Int))] ∧ ll = [⟨kb,0,((List.range (512 - lk)).map fun a => if a < j - lk then Value.slice (some ⟨lb a,0,none⟩) (2 ^ (maxL lens - 9)) (2 ^ (maxL lens - 9)) else .slice none 0 0)⟩,⟨b11,0,cellsI 16 (nextK lens (minL lens) (maxL lens) 0)⟩,⟨b5,0,cellsI 16 (cntL lens)⟩,⟨hb,o,[.int .i64 ((minL lens : Nat) : Int)]⟩,⟨hb,o + 1,cellsU 512 (fun x => if lk ≤ revB 9 x ∧ revB 9 x < j then (revB 9 x - lk) * 16 + 10 else 0)⟩,⟨hb,o + 513,[.slice (some ⟨kb,0,none⟩) ((512 - lk)) (512 - lk),.int .u32 ((2 ^ (maxL lens - 9) - 1 : Nat) : Int)]⟩,⟨vb,vo,intsV lens ++ vs⟩] ++ LkF (j - lk) lb (fun _ _ => 0) (2 ^ (maxL lens - 9)) ∧ (lk ≤ j) ∧ (j ≤ 512) ∧ mm = 512 - j) (_) ⟨lk,fun _ => 0,rfl,(by rw [kb_start,lnk_start]; simp [LkF]),by omega,by omega,rfl⟩ ?_
  rintro m2 _ _ ⟨j,lb,hk2,rfl,hj1,hj2,hm2⟩
  refine C.weaken _ hk2 ?_
  refine C.seq ?_
  refine C.sr ?_
  refine E.pure (S.move rfl) rfl ?_
  refine E.pure (S.lt (b := ((512 : Nat) : Int)) rfl rfl) rfl ?_
  refine E.kp [(0,_),(1,_),(6,_),(7,_),(11,_),(13,_),(14,_),(15,_),(128,_)] rfl ?_
  refine C.ifp rfl (fun h128 => ?_) (fun h128 => ?_)
  ·
   have hj9 : j < 512 := by omega
   have hr16 := revB_lt 16 j
   have hr9 := revB_lt 9 j
   rw [show (2 : Nat) ^ 9 = 512 from rfl] at hr9
   refine C.skip ?_
   refine C.seq ?_
   refine C.block ?_
   refine C.sr ?_
   refine E.pure (S.move rfl) rfl ?_
   refine E.pure (S.conv rfl Tryd.underlying92 Tryd.underlying120 (N.in_u16 (by omega))) rfl ?_
   refine E.loud1 (OpX.pick [] (F := (_::_::_::_::_::_::_::_)) rfl (X.call rfl Tryd.call91 (reverse16_spec _ (by omega)))) rfl ?_; rintro _ _ ⟨_,⟨rfl,rfl⟩,rfl⟩; refine E.relist (L2 := (_::_::_::_::_::_::_::_)) rfl ?_
   refine E.pure (S.conv rfl Tryd.underlying120 Tryd.underlying3 (N.i64n (by omega))) rfl ?_
   refine E.pure (S.assign rfl) rfl ?_
   refine E.kp [(0,_),(1,_),(6,_),(7,_),(11,_),(13,_),(14,_),(15,_),(16,_),(128,_)] rfl ?_
   refine C.sr ?_
   refine E.pure (S.move rfl) rfl ?_
   refine E.pure (S.shr (b := ((7 : Nat) : Int)) rfl rfl (by omega) (N.shr64 (by omega) _)) rfl ?_
   refine E.reslot (v := .int .i64 ((revB 9 j : Nat) : Int)) (congrArg (fun q : Nat => Value.int .i64 (q : Int)) (by exact revB_sh7 j)) ?_
   refine E.pure (S.assign rfl) rfl ?_
   refine E.kp [(0,_),(1,_),(6,_),(7,_),(11,_),(13,_),(14,_),(15,_),(16,_),(128,_)] rfl ?_
   refine C.sr ?_
   refine E.pure (S.move rfl) rfl ?_
   refine E.pure (S.move rfl) rfl ?_
   refine E.pure (S.conv rfl Tryd.underlying3 Tryd.underlying92 (N.in_u64 (by omega))) rfl ?_
   refine E.pure (S.sub rfl rfl (N.sub_u64 (by omega) (by omega))) rfl ?_
   refine E.pure (S.assign rfl) rfl ?_
   refine E.kp [(0,_),(1,_),(6,_),(7,_),(11,_),(13,_),(14,_),(15,_),(16,_),(17,_),(128,_)] rfl ?_
   refine C.seq ?_
   refine C.sr ?_
   refine E.pure (S.move rfl) rfl ?_
   refine E.guardNo 141 false rfl rfl rfl rfl ?_
   refine E.guardNo 141 false rfl rfl rfl rfl ?_
   refine E.guardNo 141 false rfl rfl rfl rfl ?_
   refine E.guardNo 141 false rfl rfl rfl rfl ?_
   refine E.guardNo 141 false rfl rfl rfl rfl ?_
   refine E.guardNo 141 false rfl rfl rfl rfl ?_
   refine E.guardNo 141 false rfl rfl rfl rfl ?_
   refine E.pure (S.pickF rfl rfl) rfl ?_
   refine E.kp [(0,_),(1,_),(6,_),(7,_),(11,_),(13,_),(14,_),(15,_),(16,_),(17,_),(128,_),(149,_)] rfl ?_
   refine C.no rfl (rfl) ?_
   refine C.skip ?_
   refine C.sr ?_
   refine E.pure (S.move rfl) rfl ?_
   refine E.pure (S.move rfl) rfl ?_
   refine E.pure (S.move rfl) rfl ?_
   refine E.pure (S.shl (b := ((4 : Nat) : Int)) rfl rfl (by omega) (N.shl_u64 _ _)) rfl ?_
   refine E.reslot (v := .int .u64 (((j - lk) * 16 : Nat) : Int)) (congrArg (fun q : Nat => Value.int .u64 (q : Int)) (by rw [Nat.shiftLeft_eq]; omega)) ?_
   refine E.pure (S.or (b := ((10 : Nat) : Int)) rfl rfl (N.or_u64 (by omega) (by omega))) rfl ?_
   refine E.reslot (v := .int .u64 (((j - lk) * 16 + 10 : Nat) : Int)) (congrArg (fun q : Nat => Value.int .u64 (q : Int)) (by exact or16 _ _ (by omega))) ?_
   refine E.pure (S.conv rfl Tryd.underlying92 Tryd.underlying52 (N.in_u32 (by omega))) rfl ?_
   refine E.pure (S.nilPtr rfl) rfl ?_
   refine E.pure (S.field rfl fa144_1) rfl ?_
   refine E.pure (S.ixArr rfl rfl (by omega) Tryd.underlying141 Tryd.sizeOf52) rfl ?_
   refine E.loud0 (X.store 4 (k := revB 9 j * 1) rfl rfl rfl rfl (by rw [Nat.blt_eq,cellsU_length]; omega) Tryd.sizeOf52) ?_
   rintro _ _ ⟨rfl,rfl⟩
   refine E.relist (L2 := (⟨kb,0,((List.range (512 - lk)).map fun a => if a < j - lk then Value.slice (some ⟨lb a,0,none⟩) (2 ^ (maxL lens - 9)) (2 ^ (maxL lens - 9)) else .slice none 0 0)⟩::⟨b11,0,cellsI 16 (nextK lens (minL lens) (maxL lens) 0)⟩::⟨b5,0,cellsI 16 (cntL lens)⟩::⟨hb,o,[.int .i64 ((minL lens : Nat) : Int)]⟩::⟨hb,o + 1,cellsU 512 (fun x => if lk ≤ revB 9 x ∧ revB 9 x < (j + 1) then (revB 9 x - lk) * 16 + 10 else 0)⟩::⟨hb,o + 513,[.slice (some ⟨kb,0,none⟩) ((512 - lk)) (512 - lk),.int .u32 ((2 ^ (maxL lens - 9) - 1 : Nat) : Int)]⟩::⟨vb,vo,intsV lens ++ vs⟩::LkF (j - lk) lb (fun _ _ => 0) (2 ^ (maxL lens - 9)))) (congrArg (fun q => ((⟨kb,0,((List.range (512 - lk)).map fun a => if a < j - lk then Value.slice (some ⟨lb a,0,none⟩) (2 ^ (maxL lens - 9)) (2 ^ (maxL lens - 9)) else .slice none 0 0)⟩::⟨b11,0,cellsI 16 (nextK lens (minL lens) (maxL lens) 0)⟩::⟨b5,0,cellsI 16 (cntL lens)⟩::⟨hb,o,[.int .i64 ((minL lens : Nat) : Int)]⟩::(⟨hb,o + 1,q⟩ : Frag)::⟨hb,o + 513,[.slice (some ⟨kb,0,none⟩) ((512 - lk)) (512 - lk),.int .u32 ((2 ^ (maxL lens - 9) - 1 : Nat) : Int)]⟩::⟨vb,vo,intsV lens ++ vs⟩::LkF (j - lk) lb (fun _ _ => 0) (2 ^ (maxL lens - 9))) : Frags)) (lnk_next hj1 hj9)) ?_
   refine E.kp [(0,_),(1,_),(6,_),(7,_),(11,_),(13,_),(14,_),(15,_),(16,_),(17,_),(128,_),(149,_)] rfl ?_
   refine C.draw [0,1,2,4,0,0,32,127,255] (.pure 0 112 (.pure 1 113 (.pure 2 115 (.pure 4 111 (.pure 5 31 (.alt 3 (.alt 6 (.pure 7 127 (.alt 8 .done .stop)) .stop) (.alt 6 (.seg [(3,119),(7,127)] (.alt 8 .done .stop)) .stop))))))) mixed (by decide +kernel) ?_
   refine D.pure rfl (S.move rfl) rfl ?_
   refine D.pure rfl (S.nilPtr rfl) rfl ?_
   refine D.pure rfl (S.field rfl fa144_2) rfl ?_
   refine D.pure rfl (S.move rfl) rfl ?_
   refine D.pure rfl (S.move rfl) rfl ?_
   refine D.alt ?_ ⟨?_,trivial⟩
   ·
    refine O.still rfl (S.load 5 (k := 0) rfl rfl rfl Tryd.isAgg142) rfl ?_
    refine D.one ?_
    refine O.loud1 rfl (X.make (l := 2 ^ (maxL lens - 9)) (c := 2 ^ (maxL lens - 9)) (bytes := 4) Tryd.underlying178 infoU32 (z := .int .u32 0) rfl rfl rfl rfl rfl rfl (Nat.le_refl _) (by omega) (by omega)) rfl ?_; rintro _ _ ⟨nb,rfl,rfl⟩; refine D.relist (L2 := (_::_::_::_::_::_::_::_::_)) rfl ?_
    refine D.pure rfl (S.ixSl rfl rfl (by omega) Tryd.underlying142 Tryd.sizeOf178) rfl ?_
    refine D.one ?_
    refine O.loud0 rfl (X.store 1 (k := (j - lk) * 1) rfl rfl rfl rfl (by rw [Nat.blt_eq,List.length_map,List.length_range]; omega) Tryd.sizeOf178) ?_
    rintro _ _ ⟨rfl,rfl⟩
    refine D.relist (L2 := (⟨nb,0,List.replicate (2 ^ (maxL lens - 9)) (.int .u32 0)⟩::⟨kb,0,((List.range (512 - lk)).map fun a => if a < (j + 1) - lk then Value.slice (some ⟨(lbNext lb (j - lk) nb) a,0,none⟩) (2 ^ (maxL lens - 9)) (2 ^ (maxL lens - 9)) else .slice none 0 0)⟩::⟨b11,0,cellsI 16 (nextK lens (minL lens) (maxL lens) 0)⟩::⟨b5,0,cellsI 16 (cntL lens)⟩::⟨hb,o,[.int .i64 ((minL lens : Nat) : Int)]⟩::⟨hb,o + 1,cellsU 512 (fun x => if lk ≤ revB 9 x ∧ revB 9 x < (j + 1) then (revB 9 x - lk) * 16 + 10 else 0)⟩::⟨hb,o + 513,[.slice (some ⟨kb,0,none⟩) ((512 - lk)) (512 - lk),.int .u32 ((2 ^ (maxL lens - 9) - 1 : Nat) : Int)]⟩::⟨vb,vo,intsV lens ++ vs⟩::LkF (j - lk) lb (fun _ _ => 0) (2 ^ (maxL lens - 9)))) (congrArg (fun q => ((⟨nb,0,List.replicate (2 ^ (maxL lens - 9)) (.int .u32 0)⟩::(⟨kb,0,q⟩ : Frag)::⟨b11,0,cellsI 16 (nextK lens (minL lens) (maxL lens) 0)⟩::⟨b5,0,cellsI 16 (cntL lens)⟩::⟨hb,o,[.int .i64 ((minL lens : Nat) : Int)]⟩::⟨hb,o + 1,cellsU 512 (fun x => if lk ≤ revB 9 x ∧ revB 9 x < (j + 1) then (revB 9 x - lk) * 16 + 10 else 0)⟩::⟨hb,o + 513,[.slice (some ⟨kb,0,none⟩) ((512 - lk)) (512 - lk),.int .u32 ((2 ^ (maxL lens - 9) - 1 : Nat) : Int)]⟩::⟨vb,vo,intsV lens ++ vs⟩::LkF (j - lk) lb (fun _ _ => 0) (2 ^ (maxL lens - 9))) : Frags)) (kb_next hj1)) ?_
    refine D.kp [(0,_),(1,_),(6,_),(7,_),(11,_),(13,_),(14,_),(15,_),(16,_),(17,_),(128,_),(149,_)] rfl ?_
    refine C.same (L2 := (⟨kb,0,((List.range (512 - lk)).map fun a => if a < (j + 1) - lk then Value.slice (some ⟨(lbNext lb (j - lk) nb) a,0,none⟩) (2 ^ (maxL lens - 9)) (2 ^ (maxL lens - 9)) else .slice none 0 0)⟩::⟨b11,0,cellsI 16 (nextK lens (minL lens) (maxL lens) 0)⟩::⟨b5,0,cellsI 16 (cntL lens)⟩::⟨hb,o,[.int .i64 ((minL lens : Nat) : Int)]⟩::⟨hb,o + 1,cellsU 512 (fun x => if lk ≤ revB 9 x ∧ revB 9 x < (j + 1) then (revB 9 x - lk) * 16 + 10 else 0)⟩::⟨hb,o + 513,[.slice (some ⟨kb,0,none⟩) ((512 - lk)) (512 - lk),.int .u32 ((2 ^ (maxL lens - 9) - 1 : Nat) : Int)]⟩::⟨vb,vo,intsV lens ++ vs⟩::LkF ((j + 1) - lk) (lbNext lb (j - lk) nb) (fun _ _ => 0) (2 ^ (maxL lens - 9)))) ?_ ?_
    · have e : LkF (j + 1 - lk) (lbNext lb (j - lk) nb) (fun _ _ => 0) (2 ^ (maxL lens - 9)) = LkF (j - lk) lb (fun _ _ => 0) (2 ^ (maxL lens - 9)) ++ [⟨nb,0,List.replicate (2 ^ (maxL lens - 9)) (.int .u32 0)⟩] := by
        rw [show j + 1 - lk = (j - lk) + 1 by omega,LkF_more,cellsU_zero]
      rw [e]
      exact Same.perm (List.perm_append_singleton _ _).symm
    refine C.region ?_
    refine E.pure (S.move rfl) rfl ?_
    refine E.pure (S.add (b := ((1 : Nat) : Int)) rfl rfl (N.add_u64 (by omega))) rfl ?_
    refine E.pure (S.assign rfl) rfl ?_
    refine E.kp [(0,_),(1,_),(6,_),(7,_),(11,_),(13,_),(14,_),(15,_),(16,_),(17,_),(128,_),(149,_)] rfl ?_
    refine ⟨_,?_,j + 1,_,rfl,rfl,by omega,by omega,rfl⟩; omega
   refine O.loud1 rfl (X.make (l := 2 ^ (maxL lens - 9)) (c := 2 ^ (maxL lens - 9)) (bytes := 4) Tryd.underlying178 infoU32 (z := .int .u32 0) rfl rfl rfl rfl rfl rfl (Nat.le_refl _) (by omega) (by omega)) rfl ?_; rintro _ _ ⟨nb,rfl,rfl⟩; refine D.relist (L2 := (_::_::_::_::_::_::_::_::_)) rfl ?_
   refine D.seg (by decide) ?_
   refine W.still rfl (S.load 6 (k := 0) rfl rfl rfl Tryd.isAgg142) rfl ?_
   refine W.pure rfl (S.ixSl rfl rfl (by omega) Tryd.underlying142 Tryd.sizeOf178) rfl ?_
   refine W.nil ?_
   refine D.one ?_
   refine O.loud0 rfl (X.store 1 (k := (j - lk) * 1) rfl rfl rfl rfl (by rw [Nat.blt_eq,List.length_map,List.length_range]; omega) Tryd.sizeOf178) ?_
   rintro _ _ ⟨rfl,rfl⟩
   refine D.relist (L2 := (⟨nb,0,List.replicate (2 ^ (maxL lens - 9)) (.int .u32 0)⟩::⟨kb,0,((List.range (512 - lk)).map fun a => if a < (j + 1) - lk then Value.slice (some ⟨(lbNext lb (j - lk) nb) a,0,none⟩) (2 ^ (maxL lens - 9)) (2 ^ (maxL lens - 9)) else .slice none 0 0)⟩::⟨b11,0,cellsI 16 (nextK lens (minL lens) (maxL lens) 0)⟩::⟨b5,0,cellsI 16 (cntL lens)⟩::⟨hb,o,[.int .i64 ((minL lens : Nat) : Int)]⟩::⟨hb,o + 1,cellsU 512 (fun x => if lk ≤ revB 9 x ∧ revB 9 x < (j + 1) then (revB 9 x - lk) * 16 + 10 else 0)⟩::⟨hb,o + 513,[.slice (some ⟨kb,0,none⟩) ((512 - lk)) (512 - lk),.int .u32 ((2 ^ (maxL lens - 9) - 1 : Nat) : Int)]⟩::⟨vb,vo,intsV lens ++ vs⟩::LkF (j - lk) lb (fun _ _ => 0) (2 ^ (maxL lens - 9)))) (congrArg (fun q => ((⟨nb,0,List.replicate (2 ^ (maxL lens - 9)) (.int .u32 0)⟩::(⟨kb,0,q⟩ : Frag)::⟨b11,0,cellsI 16 (nextK lens (minL lens) (maxL lens) 0)⟩::⟨b5,0,cellsI 16 (cntL lens)⟩::⟨hb,o,[.int .i64 ((minL lens : Nat) : Int)]⟩::⟨hb,o + 1,cellsU 512 (fun x => if lk ≤ revB 9 x ∧ revB 9 x < (j + 1) then (revB 9 x - lk) * 16 + 10 else 0)⟩::⟨hb,o + 513,[.slice (some ⟨kb,0,none⟩) ((512 - lk)) (512 - lk),.int .u32 ((2 ^ (maxL lens - 9) - 1 : Nat) : Int)]⟩::⟨vb,vo,intsV lens ++ vs⟩::LkF (j - lk) lb (fun _ _ => 0) (2 ^ (maxL lens - 9))) : Frags)) (kb_next hj1)) ?_
   refine D.kp [(0,_),(1,_),(6,_),(7,_),(11,_),(13,_),(14,_),(15,_),(16,_),(17,_),(128,_),(149,_)] rfl ?_
   refine C.same (L2 := (⟨kb,0,((List.range (512 - lk)).map fun a => if a < (j + 1) - lk then Value.slice (some ⟨(lbNext lb (j - lk) nb) a,0,none⟩) (2 ^ (maxL lens - 9)) (2 ^ (maxL lens - 9)) else .slice none 0 0)⟩::⟨b11,0,cellsI 16 (nextK lens (minL lens) (maxL lens) 0)⟩::⟨b5,0,cellsI 16 (cntL lens)⟩::⟨hb,o,[.int .i64 ((minL lens : Nat) : Int)]⟩::⟨hb,o + 1,cellsU 512 (fun x => if lk ≤ revB 9 x ∧ revB 9 x < (j + 1) then (revB 9 x - lk) * 16 + 10 else 0)⟩::⟨hb,o + 513,[.slice (some ⟨kb,0,none⟩) ((512 - lk)) (512 - lk),.int .u32 ((2 ^ (maxL lens - 9) - 1 : Nat) : Int)]⟩::⟨vb,vo,intsV lens ++ vs⟩::LkF ((j + 1) - lk) (lbNext lb (j - lk) nb) (fun _ _ => 0) (2 ^ (maxL lens - 9)))) ?_ ?_
   · have e : LkF (j + 1 - lk) (lbNext lb (j - lk) nb) (fun _ _ => 0) (2 ^ (maxL lens - 9)) = LkF (j - lk) lb (fun _ _ => 0) (2 ^ (maxL lens - 9)) ++ [⟨nb,0,List.replicate (2 ^ (maxL lens - 9)) (.int .u32 0)⟩] := by
       rw [show j + 1 - lk = (j - lk) + 1 by omega,LkF_more,cellsU_zero]
     rw [e]
     exact Same.perm (List.perm_append_singleton _ _).symm
   refine C.region ?_
   refine E.pure (S.move rfl) rfl ?_
   refine E.pure (S.add (b := ((1 : Nat) : Int)) rfl rfl (N.add_u64 (by omega))) rfl ?_
   refine E.pure (S.assign rfl) rfl ?_
   refine E.kp [(0,_),(1,_),(6,_),(7,_),(11,_),(13,_),(14,_),(15,_),(16,_),(17,_),(128,_),(149,_)] rfl ?_
   refine ⟨_,?_,j + 1,_,rfl,rfl,by omega,by omega,rfl⟩; omega
  have hj9 : j = 512 := by omega
  subst hj9
  refine C.relist (L2 := (⟨kb,0,lkCells (512 - lk) lb (2 ^ (maxL lens - 9))⟩::⟨b11,0,cellsI 16 (nextK lens (minL lens) (maxL lens) 0)⟩::⟨b5,0,cellsI 16 (cntL lens)⟩::⟨hb,o,[.int .i64 ((minL lens : Nat) : Int)]⟩::⟨hb,o + 1,cellsU 512 (fun x => if lk ≤ revB 9 x ∧ revB 9 x < 512 then (revB 9 x - lk) * 16 + 10 else 0)⟩::⟨hb,o + 513,[.slice (some ⟨kb,0,none⟩) ((512 - lk)) (512 - lk),.int .u32 ((2 ^ (maxL lens - 9) - 1 : Nat) : Int)]⟩::⟨vb,vo,intsV lens ++ vs⟩::LkF (512 - lk) lb (fun _ _ => 0) (2 ^ (maxL lens - 9)))) (by rw [kb_end]; rfl) ?_
  refine C.exit rfl ?_
  refine C.seq ?_
  refine C.sr ?_
  refine E.pure (S.move rfl) rfl ?_
  refine E.pure (S.lenSl rfl Tryd.underlying39) rfl ?_
  refine E.pure (S.move rfl) rfl ?_
  refine E.kp [(0,_),(1,_),(6,_),(7,_),(11,_),(13,_),(14,_),(15,_),(128,_),(168,_),(169,_),(170,_)] rfl ?_
  refine C.block ?_
  refine C.loop (fun mm ee ll => ∃ (k : Nat),∃ (f : Nat → Nat),∃ (g : Nat → Nat → Nat),keeps ee [0,1,6,7,11,168,169,170] = some [(0,.pointer (some ⟨hb,o,none⟩)),(1,.slice (some ⟨vb,vo,none⟩) lens.length vc),(6,.int .i64 ((minL lens : Nat) : Int)),(7,.int .i64 ((maxL lens : Nat) : Int)),(11,.pointer (some ⟨b11,0,none⟩)),(168,.slice (some ⟨vb,vo,none⟩) lens.length vc),(169,.int .i64 ((lens.length : Nat) : Int)),(170,.int .i64 ((k : Nat) : Int))] ∧ ll = [⟨kb,0,lkCells (512 - lk) lb (2 ^ (maxL lens - 9))⟩,⟨b11,0,cellsI 16 (nextK lens (minL lens) (maxL lens) k)⟩,⟨b5,0,cellsI 16 (cntL lens)⟩,⟨hb,o,[.int .i64 ((minL lens : Nat) : Int)]⟩,⟨hb,o + 1,cellsU 512 f⟩,⟨hb,o + 513,[.slice (some ⟨kb,0,none⟩) ((512 - lk)) (512 - lk),.int .u32 ((2 ^ (maxL lens - 9) - 1 : Nat) : Int)]⟩,⟨vb,vo,intsV lens ++ vs⟩] ++ LkF (512 - lk) lb g (2 ^ (maxL lens - 9)) ∧ (k ≤ lens.length) ∧ (TabP lens (maxL lens) lk (2 ^ (maxL lens - 9)) k f g) ∧ (∀ x,x < 512 → f x < 65536) ∧ (∀ a q,g a q < 65536) ∧ mm = lens.length - k) (_) ⟨0,_,fun _ _ => 0,rfl,rfl,by omega,link_full hlk9 h105,link_lt hlk9,fun _ _ => (by decide : 0 < 65536),rfl⟩ ?_
  rintro m3 _ _ ⟨k,f,g,hk3,rfl,hk,hT,hfb,hgb,hm3⟩
  refine C.weaken _ hk3 ?_
  refine C.sr ?_
  refine E.pure (S.lt rfl rfl) rfl ?_
  refine E.kp [(0,_),(1,_),(6,_),(7,_),(11,_),(168,_),(169,_),(170,_),(171,_)] rfl ?_
  refine C.seq ?_
  refine C.ifp rfl (fun h171 => ?_) (fun h171 => ?_)
  ·
   have hk2 : k < lens.length := by omega
   have hel := lenOf_get hk2
   have hn15 : lenOf lens k ≤ 15 := by rw [hel]; exact h15 _ (List.getElem_mem hk2)
   refine C.skip ?_
   refine C.seq ?_
   refine C.block ?_
   refine C.sr ?_
   refine E.pure (S.move rfl) rfl ?_
   refine E.pure (S.ixSl rfl rfl (by omega) Tryd.underlying39 Tryd.sizeOf3) rfl ?_
   refine E.still (S.load 6 (k := k * 1) rfl rfl (intsV_get hk2) Tryd.isAgg3) rfl ?_
   refine E.reslot (v := .int .i64 ((lenOf lens k : Nat) : Int)) (by rw [hel]) ?_
   refine E.pure (S.assign rfl) rfl ?_
   refine E.pure (S.assign rfl) rfl ?_
   refine E.kp [(0,_),(1,_),(6,_),(7,_),(11,_),(18,_),(19,_),(168,_),(169,_),(170,_),(171,_)] rfl ?_
   refine C.seq ?_
   refine C.sr ?_
   refine E.pure (S.move rfl) rfl ?_
   refine E.pure (S.eq (b := ((0 : Nat) : Int)) rfl rfl) rfl ?_
   refine E.kp [(0,_),(1,_),(6,_),(7,_),(11,_),(18,_),(19,_),(168,_),(169,_),(170,_),(171,_),(176,_)] rfl ?_
   refine C.ifp rfl (fun h176 => ?_) (fun h176 => ?_)
   ·
    have hT2 := hT.skip (by omega)
    have hfb2 := hfb
    have hgb2 := hgb
    refine C.relist (L2 := (⟨kb,0,lkCells (512 - lk) lb (2 ^ (maxL lens - 9))⟩::⟨b11,0,cellsI 16 (nextK lens (minL lens) (maxL lens) (k + 1))⟩::⟨b5,0,cellsI 16 (cntL lens)⟩::⟨hb,o,[.int .i64 ((minL lens : Nat) : Int)]⟩::⟨hb,o + 1,cellsU 512 f⟩::⟨hb,o + 513,[.slice (some ⟨kb,0,none⟩) ((512 - lk)) (512 - lk),.int .u32 ((2 ^ (maxL lens - 9) - 1 : Nat) : Int)]⟩::⟨vb,vo,intsV lens ++ vs⟩::LkF (512 - lk) lb g (2 ^ (maxL lens - 9)))) (by rw [nextK_zero (k := k) hk2 (by omega) hmp.1]; try rfl) ?_
    refine C.exit rfl ?_
    refine C.region ?_
    refine E.pure (S.add (b := ((1 : Nat) : Int)) rfl rfl (N.add64 (by omega))) rfl ?_
    refine E.pure (S.move rfl) rfl ?_
    refine E.kp [(0,_),(1,_),(6,_),(7,_),(11,_),(18,_),(19,_),(168,_),(169,_),(170,_),(171,_),(176,_)] rfl ?_
    refine ⟨_,?_,k + 1,_,_,rfl,rfl,by omega,hT2,hfb2,hgb2,rfl⟩; omega
   have hmn1 : minL lens ≤ (lenOf lens k) := by rw [hel]; exact (minL_spec lens).2.1 _ (List.getElem_mem hk2) (by omega)
   have hmx1 : (lenOf lens k) ≤ maxL lens := lenOf_le_max lens k
   have hcb : codeOf lens k < 2 ^ (lenOf lens k) := codeOf_bound hfit (by omega)
   have hp15 : 2 ^ (lenOf lens k) ≤ 2 ^ 15 := Nat.pow_le_pow_right (by omega) hn15
   have hrn := revB_lt (lenOf lens k) (codeOf lens k)
   have hr16 := revB_lt 16 (codeOf lens k)
   refine C.skip ?_
   refine C.sr ?_
   refine E.pure (S.move rfl) rfl ?_
   refine E.pure (S.ixArr rfl rfl (by omega) Tryd.underlying176 Tryd.sizeOf3) rfl ?_
   refine E.still (S.load 1 (k := (lenOf lens k) * 1) rfl rfl (cellsI_get (by omega)) Tryd.isAgg3) rfl ?_
   refine E.reslot (v := .int .i64 ((codeOf lens k : Nat) : Int)) (congrArg (fun q : Nat => Value.int .i64 (q : Int)) (by exact nextK_at hmn1 hmx1)) ?_
   refine E.pure (S.assign rfl) rfl ?_
   refine E.kp [(0,_),(1,_),(6,_),(7,_),(11,_),(18,_),(19,_),(20,_),(168,_),(169,_),(170,_),(171,_),(176,_)] rfl ?_
   refine C.sr ?_
   refine E.pure (S.move rfl) rfl ?_
   refine E.pure (S.ixArr rfl rfl (by omega) Tryd.underlying176 Tryd.sizeOf3) rfl ?_
   refine E.still (S.load 1 (k := (lenOf lens k) * 1) rfl rfl (cellsI_get (by omega)) Tryd.isAgg3) rfl ?_
   refine E.reslot (v := .int .i64 ((codeOf lens k : Nat) : Int)) (congrArg (fun q : Nat => Value.int .i64 (q : Int)) (by exact nextK_at hmn1 hmx1)) ?_
   refine E.pure (S.add (b := ((1 : Nat) : Int)) rfl rfl (N.add64 (by omega))) rfl ?_
   refine E.pure (S.ixArr rfl rfl (by omega) Tryd.underlying176 Tryd.sizeOf3) rfl ?_
   refine E.loud0 (X.store 1 (k := (lenOf lens k) * 1) rfl rfl rfl rfl (by rw [Nat.blt_eq,cellsI_length]; omega) Tryd.sizeOf3) ?_
   rintro _ _ ⟨rfl,rfl⟩
   refine E.relist (L2 := (⟨kb,0,lkCells (512 - lk) lb (2 ^ (maxL lens - 9))⟩::⟨b11,0,cellsI 16 (nextK lens (minL lens) (maxL lens) (k + 1))⟩::⟨b5,0,cellsI 16 (cntL lens)⟩::⟨hb,o,[.int .i64 ((minL lens : Nat) : Int)]⟩::⟨hb,o + 1,cellsU 512 f⟩::⟨hb,o + 513,[.slice (some ⟨kb,0,none⟩) ((512 - lk)) (512 - lk),.int .u32 ((2 ^ (maxL lens - 9) - 1 : Nat) : Int)]⟩::⟨vb,vo,intsV lens ++ vs⟩::LkF (512 - lk) lb g (2 ^ (maxL lens - 9)))) (congrArg (fun q => ((⟨kb,0,lkCells (512 - lk) lb (2 ^ (maxL lens - 9))⟩::(⟨b11,0,q⟩ : Frag)::⟨b5,0,cellsI 16 (cntL lens)⟩::⟨hb,o,[.int .i64 ((minL lens : Nat) : Int)]⟩::⟨hb,o + 1,cellsU 512 f⟩::⟨hb,o + 513,[.slice (some ⟨kb,0,none⟩) ((512 - lk)) (512 - lk),.int .u32 ((2 ^ (maxL lens - 9) - 1 : Nat) : Int)]⟩::⟨vb,vo,intsV lens ++ vs⟩::LkF (512 - lk) lb g (2 ^ (maxL lens - 9))) : Frags)) (nextK_more hk2 hmn1 hmx1)) ?_
   refine E.kp [(0,_),(1,_),(6,_),(7,_),(11,_),(18,_),(19,_),(20,_),(168,_),(169,_),(170,_),(171,_),(176,_)] rfl ?_
   refine C.sr ?_
   refine E.pure (S.move rfl) rfl ?_
   refine E.pure (S.shl (b := ((4 : Nat) : Int)) rfl rfl (by omega) (N.shl64 (by rw [Nat.shiftLeft_eq]; omega))) rfl ?_
   refine E.reslot (v := .int .i64 ((k * 16 : Nat) : Int)) (congrArg (fun q : Nat => Value.int .i64 (q : Int)) (by rw [Nat.shiftLeft_eq])) ?_
   refine E.pure (S.move rfl) rfl ?_
   refine E.pure (S.or rfl rfl (N.or64 (by omega) (by omega))) rfl ?_
   refine E.reslot (v := .int .i64 ((k * 16 + (lenOf lens k) : Nat) : Int)) (congrArg (fun q : Nat => Value.int .i64 (q : Int)) (by exact or16 _ _ (by omega))) ?_
   refine E.pure (S.conv rfl Tryd.underlying3 Tryd.underlying52 (N.in_u32 (by omega))) rfl ?_
   refine E.pure (S.assign rfl) rfl ?_
   refine E.kp [(0,_),(1,_),(6,_),(7,_),(11,_),(18,_),(19,_),(20,_),(21,_),(168,_),(169,_),(170,_),(171,_),(176,_)] rfl ?_
   refine C.sr ?_
   refine E.pure (S.move rfl) rfl ?_
   refine E.pure (S.conv rfl Tryd.underlying3 Tryd.underlying120 (N.in_u16 (by omega))) rfl ?_
   refine E.loud1 (OpX.pick [] (F := (_::_::_::_::_::_::_::_)) rfl (X.call rfl Tryd.call91 (reverse16_spec _ (by omega)))) rfl ?_; rintro _ _ ⟨_,⟨rfl,rfl⟩,rfl⟩; refine E.relist (L2 := (_::_::_::_::_::_::_::_)) rfl ?_
   refine E.pure (S.conv rfl Tryd.underlying120 Tryd.underlying3 (N.i64n (by omega))) rfl ?_
   refine E.pure (S.assign rfl) rfl ?_
   refine E.kp [(0,_),(1,_),(6,_),(7,_),(11,_),(18,_),(19,_),(20,_),(21,_),(22,_),(168,_),(169,_),(170,_),(171,_),(176,_)] rfl ?_
   refine C.sr ?_
   refine E.pure (S.move rfl) rfl ?_
   refine E.pure (S.move rfl) rfl ?_
   refine E.pure (S.sub (a := ((16 : Nat) : Int)) rfl rfl (N.sub64 (by omega) (by omega))) rfl ?_
   refine E.pure (S.conv rfl Tryd.underlying3 Tryd.underlying92 (N.in_u64 (by omega))) rfl ?_
   refine E.pure (S.shr rfl rfl (by omega) (N.shr64 (by omega) _)) rfl ?_
   refine E.reslot (v := .int .i64 ((revB (lenOf lens k) (codeOf lens k) : Nat) : Int)) (congrArg (fun q : Nat => Value.int .i64 (q : Int)) (by exact revB_sh _ (by omega))) ?_
   refine E.pure (S.assign rfl) rfl ?_
   refine E.kp [(0,_),(1,_),(6,_),(7,_),(11,_),(18,_),(19,_),(20,_),(21,_),(22,_),(168,_),(169,_),(170,_),(171,_),(176,_)] rfl ?_
   refine C.sr ?_
   refine E.pure (S.move rfl) rfl ?_
   refine E.pure (S.le (b := ((9 : Nat) : Int)) rfl rfl) rfl ?_
   refine E.kp [(0,_),(1,_),(6,_),(7,_),(11,_),(18,_),(19,_),(20,_),(21,_),(22,_),(168,_),(169,_),(170,_),(171,_),(176,_),(200,_)] rfl ?_
   refine C.ifp rfl (fun h200 => ?_) (fun h200 => ?_)
   ·
    have hp9 : 2 ^ (lenOf lens k) ≤ 2 ^ 9 := Nat.pow_le_pow_right (by omega) (by omega)
    have hp0 : 0 < 2 ^ (lenOf lens k) := Nat.pow_pos (by omega)
    refine C.sr ?_
    refine E.pure (S.move rfl) rfl ?_
    refine E.pure (S.assign rfl) rfl ?_
    refine E.kp [(0,_),(1,_),(6,_),(7,_),(11,_),(18,_),(19,_),(20,_),(21,_),(22,_),(23,_),(168,_),(169,_),(170,_),(171,_),(176,_),(200,_)] rfl ?_
    refine C.block ?_
    refine C.relist (L2 := (⟨kb,0,lkCells (512 - lk) lb (2 ^ (maxL lens - 9))⟩::⟨b11,0,cellsI 16 (nextK lens (minL lens) (maxL lens) (k + 1))⟩::⟨b5,0,cellsI 16 (cntL lens)⟩::⟨hb,o,[.int .i64 ((minL lens : Nat) : Int)]⟩::⟨hb,o + 1,cellsU 512 (fun x => if x < revB (lenOf lens k) (codeOf lens k) ∧ x % 2 ^ (lenOf lens k) = revB (lenOf lens k) (codeOf lens k) then k * 16 + (lenOf lens k) else f x)⟩::⟨hb,o + 513,[.slice (some ⟨kb,0,none⟩) ((512 - lk)) (512 - lk),.int .u32 ((2 ^ (maxL lens - 9) - 1 : Nat) : Int)]⟩::⟨vb,vo,intsV lens ++ vs⟩::LkF (512 - lk) lb g (2 ^ (maxL lens - 9)))) (by rw [fill_zero (k := k) (n := (lenOf lens k)) (c := codeOf lens k) (f := f) _ rfl]; try rfl) ?_
    refine C.loop (fun mm ee ll => ∃ (off : Nat),keeps ee [0,1,6,7,11,168,169,170,19,21,23] = some [(0,.pointer (some ⟨hb,o,none⟩)),(1,.slice (some ⟨vb,vo,none⟩) lens.length vc),(6,.int .i64 ((minL lens : Nat) : Int)),(7,.int .i64 ((maxL lens : Nat) : Int)),(11,.pointer (some ⟨b11,0,none⟩)),(168,.slice (some ⟨vb,vo,none⟩) lens.length vc),(169,.int .i64 ((lens.length : Nat) : Int)),(170,.int .i64 ((k : Nat) : Int)),(19,.int .i64 (((lenOf lens k) : Nat) : Int)),(21,.int .u32 ((k * 16 + (lenOf lens k) : Nat) : Int)),(23,.int .i64 ((off : Nat) : Int))] ∧ ll = [⟨kb,0,lkCells (512 - lk) lb (2 ^ (maxL lens - 9))⟩,⟨b11,0,cellsI 16 (nextK lens (minL lens) (maxL lens) (k + 1))⟩,⟨b5,0,cellsI 16 (cntL lens)⟩,⟨hb,o,[.int .i64 ((minL lens : Nat) : Int)]⟩,⟨hb,o + 1,cellsU 512 (fun x => if x < off ∧ x % 2 ^ (lenOf lens k) = revB (lenOf lens k) (codeOf lens k) then k * 16 + (lenOf lens k) else f x)⟩,⟨hb,o + 513,[.slice (some ⟨kb,0,none⟩) ((512 - lk)) (512 - lk),.int .u32 ((2 ^ (maxL lens - 9) - 1 : Nat) : Int)]⟩,⟨vb,vo,intsV lens ++ vs⟩] ++ LkF (512 - lk) lb g (2 ^ (maxL lens - 9)) ∧ (off % 2 ^ (lenOf lens k) = revB (lenOf lens k) (codeOf lens k)) ∧ (off < 1024) ∧ mm = 1024 - off) (_) ⟨revB (lenOf lens k) (codeOf lens k),rfl,rfl,Nat.mod_eq_of_lt (revB_lt _ _),by omega,rfl⟩ ?_
    rintro m4 _ _ ⟨off,hk4,rfl,hoff,ho9,hm4⟩
    refine C.weaken _ hk4 ?_
    refine C.seq ?_
    refine C.sr ?_
    refine E.pure (S.move rfl) rfl ?_
    refine E.pure (S.lt (b := ((512 : Nat) : Int)) rfl rfl) rfl ?_
    refine E.kp [(0,_),(1,_),(6,_),(7,_),(11,_),(19,_),(21,_),(23,_),(168,_),(169,_),(170,_),(203,_)] rfl ?_
    refine C.ifp rfl (fun h203 => ?_) (fun h203 => ?_)
    ·
     refine C.skip ?_
     refine C.seq ?_
     refine C.block ?_
     refine C.seq ?_
     refine C.sr ?_
     refine E.pure (S.move rfl) rfl ?_
     refine E.guardNo 209 false rfl rfl rfl rfl ?_
     refine E.guardNo 209 false rfl rfl rfl rfl ?_
     refine E.guardNo 209 false rfl rfl rfl rfl ?_
     refine E.guardNo 209 false rfl rfl rfl rfl ?_
     refine E.guardNo 209 false rfl rfl rfl rfl ?_
     refine E.guardNo 209 false rfl rfl rfl rfl ?_
     refine E.guardNo 209 false rfl rfl rfl rfl ?_
     refine E.pure (S.pickF rfl rfl) rfl ?_
     refine E.kp [(0,_),(1,_),(6,_),(7,_),(11,_),(19,_),(21,_),(23,_),(168,_),(169,_),(170,_),(203,_),(217,_)] rfl ?_
     refine C.no rfl (rfl) ?_
     refine C.skip ?_
     refine C.region ?_
     refine E.pure (S.move rfl) rfl ?_
     refine E.pure (S.move rfl) rfl ?_
     refine E.pure (S.move rfl) rfl ?_
     refine E.pure (S.nilPtr rfl) rfl ?_
     refine E.pure (S.field rfl fa144_1) rfl ?_
     refine E.pure (S.ixArr rfl rfl (by omega) Tryd.underlying141 Tryd.sizeOf52) rfl ?_
     refine E.loud0 (X.store 4 (k := off * 1) rfl rfl rfl rfl (by rw [Nat.blt_eq,cellsU_length]; omega) Tryd.sizeOf52) ?_
     rintro _ _ ⟨rfl,rfl⟩
     refine E.relist (L2 := (⟨kb,0,lkCells (512 - lk) lb (2 ^ (maxL lens - 9))⟩::⟨b11,0,cellsI 16 (nextK lens (minL lens) (maxL lens) (k + 1))⟩::⟨b5,0,cellsI 16 (cntL lens)⟩::⟨hb,o,[.int .i64 ((minL lens : Nat) : Int)]⟩::⟨hb,o + 1,cellsU 512 (fun x => if x < off + 2 ^ (lenOf lens k) ∧ x % 2 ^ (lenOf lens k) = revB (lenOf lens k) (codeOf lens k) then k * 16 + (lenOf lens k) else f x)⟩::⟨hb,o + 513,[.slice (some ⟨kb,0,none⟩) ((512 - lk)) (512 - lk),.int .u32 ((2 ^ (maxL lens - 9) - 1 : Nat) : Int)]⟩::⟨vb,vo,intsV lens ++ vs⟩::LkF (512 - lk) lb g (2 ^ (maxL lens - 9)))) (congrArg (fun q => ((⟨kb,0,lkCells (512 - lk) lb (2 ^ (maxL lens - 9))⟩::⟨b11,0,cellsI 16 (nextK lens (minL lens) (maxL lens) (k + 1))⟩::⟨b5,0,cellsI 16 (cntL lens)⟩::⟨hb,o,[.int .i64 ((minL lens : Nat) : Int)]⟩::(⟨hb,o + 1,q⟩ : Frag)::⟨hb,o + 513,[.slice (some ⟨kb,0,none⟩) ((512 - lk)) (512 - lk),.int .u32 ((2 ^ (maxL lens - 9) - 1 : Nat) : Int)]⟩::⟨vb,vo,intsV lens ++ vs⟩::LkF (512 - lk) lb g (2 ^ (maxL lens - 9))) : Frags)) (fill_next hoff)) ?_
     refine E.kp [(0,_),(1,_),(6,_),(7,_),(11,_),(19,_),(21,_),(23,_),(168,_),(169,_),(170,_),(203,_),(217,_)] rfl ?_
     refine C.region ?_
     refine E.pure (S.move rfl) rfl ?_
     refine E.pure (S.move rfl) rfl ?_
     refine E.pure (S.conv rfl Tryd.underlying3 Tryd.underlying92 (N.in_u64 (by omega))) rfl ?_
     refine E.pure (S.shl (a := ((1 : Nat) : Int)) rfl rfl (by omega) (N.shl64 (by rw [Nat.one_shiftLeft]; omega))) rfl ?_
     refine E.reslot (v := .int .i64 ((2 ^ (lenOf lens k) : Nat) : Int)) (congrArg (fun q : Nat => Value.int .i64 (q : Int)) (by rw [Nat.one_shiftLeft])) ?_
     refine E.pure (S.add rfl rfl (N.add64 (by omega))) rfl ?_
     refine E.pure (S.assign rfl) rfl ?_
     refine E.kp [(0,_),(1,_),(6,_),(7,_),(11,_),(19,_),(21,_),(23,_),(168,_),(169,_),(170,_),(203,_),(217,_)] rfl ?_
     refine ⟨_,?_,off + 2 ^ (lenOf lens k),rfl,rfl,by rw [Nat.add_mod_right]; exact hoff,by omega,rfl⟩; omega
    have hT2 := hT.addShort hfit (by omega) (by omega) (f' := (fun x => if x < off ∧ x % 2 ^ (lenOf lens k) = revB (lenOf lens k) (codeOf lens k) then k * 16 + (lenOf lens k) else f x)) (fun x hx he => if_pos ⟨by omega,he⟩) (fun x hx he => if_neg (fun h => he h.2))
    have hfb2 : ∀ x,x < 512 → (fun x => if x < off ∧ x % 2 ^ (lenOf lens k) = revB (lenOf lens k) (codeOf lens k) then k * 16 + (lenOf lens k) else f x) x < 65536 := fun x hx => by
      simp only
      split
      · omega
      · exact hfb x hx
    have hgb2 := hgb
    refine C.exit rfl ?_
    refine C.region ?_
    refine E.pure (S.add (b := ((1 : Nat) : Int)) rfl rfl (N.add64 (by omega))) rfl ?_
    refine E.pure (S.move rfl) rfl ?_
    refine E.kp [(0,_),(1,_),(6,_),(7,_),(11,_),(19,_),(21,_),(23,_),(168,_),(169,_),(170,_),(203,_)] rfl ?_
    refine ⟨_,?_,k + 1,_,_,rfl,rfl,by omega,hT2,hfb2,hgb2,rfl⟩; omega
   obtain ⟨hal,hhi,hrl⟩ := hT.at_link hfit hlk (by omega)
   have hge := hi_ge hlk (lens := lens) (s := k) (by omega)
   have hr9 := revB_lt 9 (codeOf lens k / 2 ^ ((lenOf lens k) - 9))
   rw [show (2 : Nat) ^ 9 = 512 from rfl] at hr9
   have hpl : 2 ^ ((lenOf lens k) - 9) ≤ 2 ^ 6 := Nat.pow_le_pow_right (by omega) (by omega)
   have hpl0 : 0 < 2 ^ ((lenOf lens k) - 9) := Nat.pow_pos (by omega)
   have hpn : 2 ^ ((lenOf lens k) - 9) ≤ 2 ^ (maxL lens - 9) := Nat.pow_le_pow_right (by omega) (by omega)
   refine C.sr ?_
   refine E.pure (S.move rfl) rfl ?_
   refine E.pure (S.and (b := ((511 : Nat) : Int)) rfl rfl (N.and64 (by omega) (by omega))) rfl ?_
   refine E.reslot (v := .int .i64 ((revB 9 (codeOf lens k / 2 ^ ((lenOf lens k) - 9)) : Nat) : Int)) (congrArg (fun q : Nat => Value.int .i64 (q : Int)) (by rw [and511]; exact rev_parts (by omega) hcb)) ?_
   refine E.pure (S.assign rfl) rfl ?_
   refine E.kp [(0,_),(1,_),(6,_),(7,_),(11,_),(18,_),(19,_),(20,_),(21,_),(22,_),(24,_),(168,_),(169,_),(170,_),(171,_),(176,_),(200,_)] rfl ?_
   refine C.seq ?_
   refine C.sr ?_
   refine E.pure (S.move rfl) rfl ?_
   refine E.guardNo 227 false rfl rfl rfl rfl ?_
   refine E.guardNo 227 false rfl rfl rfl rfl ?_
   refine E.guardNo 227 false rfl rfl rfl rfl ?_
   refine E.guardNo 227 false rfl rfl rfl rfl ?_
   refine E.guardNo 227 false rfl rfl rfl rfl ?_
   refine E.guardNo 227 false rfl rfl rfl rfl ?_
   refine E.guardNo 227 false rfl rfl rfl rfl ?_
   refine E.guardNo 227 false rfl rfl rfl rfl ?_
   refine E.pure (S.pickF rfl rfl) rfl ?_
   refine E.kp [(0,_),(1,_),(6,_),(7,_),(11,_),(18,_),(19,_),(20,_),(21,_),(22,_),(24,_),(168,_),(169,_),(170,_),(171,_),(176,_),(200,_),(236,_)] rfl ?_
   refine C.no rfl (rfl) ?_
   refine C.skip ?_
   refine C.sr ?_
   refine E.pure (S.move rfl) rfl ?_
   refine E.pure (S.move rfl) rfl ?_
   refine E.pure (S.nilPtr rfl) rfl ?_
   refine E.pure (S.field rfl fa144_1) rfl ?_
   refine E.pure (S.ixArr rfl rfl (by omega) Tryd.underlying141 Tryd.sizeOf52) rfl ?_
   refine E.still (S.load 4 (k := revB 9 (codeOf lens k / 2 ^ ((lenOf lens k) - 9)) * 1) rfl rfl (cellsU_get hr9) Tryd.isAgg52) rfl ?_
   refine E.pure (S.shr (b := ((4 : Nat) : Int)) rfl rfl (by omega) (N.shr_u32 (by omega) _)) rfl ?_
   refine E.reslot (v := .int .u32 (((codeOf lens k / 2 ^ ((lenOf lens k) - 9)) - lk : Nat) : Int)) (congrArg (fun q : Nat => Value.int .u32 (q : Int)) (by rw [hal,Nat.shiftRight_eq_div_pow]; omega)) ?_
   refine E.pure (S.assign rfl) rfl ?_
   refine E.kp [(0,_),(1,_),(6,_),(7,_),(11,_),(18,_),(19,_),(20,_),(21,_),(22,_),(24,_),(25,_),(168,_),(169,_),(170,_),(171,_),(176,_),(200,_),(236,_)] rfl ?_
   refine C.sr ?_
   refine E.pure (S.move rfl) rfl ?_
   refine E.pure (S.nilPtr rfl) rfl ?_
   refine E.pure (S.field rfl fa144_2) rfl ?_
   refine E.still (S.load 5 (k := 0) rfl rfl rfl Tryd.isAgg142) rfl ?_
   refine E.pure (S.move rfl) rfl ?_
   refine E.pure (S.ixSl rfl rfl (by omega) Tryd.underlying142 Tryd.sizeOf178) rfl ?_
   refine E.still (S.load 0 (k := ((codeOf lens k / 2 ^ ((lenOf lens k) - 9)) - lk) * 1) rfl rfl (lk_get (by omega)) Tryd.isAgg178) rfl ?_
   refine E.pure (S.assign rfl) rfl ?_
   refine E.kp [(0,_),(1,_),(6,_),(7,_),(11,_),(18,_),(19,_),(20,_),(21,_),(22,_),(24,_),(25,_),(26,_),(168,_),(169,_),(170,_),(171,_),(176,_),(200,_),(236,_)] rfl ?_
   refine C.sr ?_
   refine E.pure (S.move rfl) rfl ?_
   refine E.pure (S.shr (b := ((9 : Nat) : Int)) rfl rfl (by omega) (N.shr64 (by omega) _)) rfl ?_
   refine E.reslot (v := .int .i64 ((revB (lenOf lens k) (codeOf lens k) / 512 : Nat) : Int)) (congrArg (fun q : Nat => Value.int .i64 (q : Int)) (by rw [Nat.shiftRight_eq_div_pow])) ?_
   refine E.pure (S.assign rfl) rfl ?_
   refine E.kp [(0,_),(1,_),(6,_),(7,_),(11,_),(18,_),(19,_),(20,_),(21,_),(22,_),(24,_),(25,_),(26,_),(168,_),(169,_),(170,_),(171,_),(176,_),(200,_),(236,_)] rfl ?_
   refine C.sr ?_
   refine E.pure (S.move rfl) rfl ?_
   refine E.pure (S.assign rfl) rfl ?_
   refine E.kp [(0,_),(1,_),(6,_),(7,_),(11,_),(18,_),(19,_),(20,_),(21,_),(22,_),(24,_),(25,_),(26,_),(27,_),(168,_),(169,_),(170,_),(171,_),(176,_),(200,_),(236,_)] rfl ?_
   refine C.block ?_
   refine C.relist (L2 := (⟨kb,0,lkCells (512 - lk) lb (2 ^ (maxL lens - 9))⟩::⟨b11,0,cellsI 16 (nextK lens (minL lens) (maxL lens) (k + 1))⟩::⟨b5,0,cellsI 16 (cntL lens)⟩::⟨hb,o,[.int .i64 ((minL lens : Nat) : Int)]⟩::⟨hb,o + 1,cellsU 512 f⟩::⟨hb,o + 513,[.slice (some ⟨kb,0,none⟩) ((512 - lk)) (512 - lk),.int .u32 ((2 ^ (maxL lens - 9) - 1 : Nat) : Int)]⟩::⟨vb,vo,intsV lens ++ vs⟩::LkF (512 - lk) lb (fun a q => if a = (codeOf lens k / 2 ^ ((lenOf lens k) - 9)) - lk ∧ q < revB (lenOf lens k) (codeOf lens k) / 512 ∧ q % 2 ^ ((lenOf lens k) - 9) = revB (lenOf lens k) (codeOf lens k) / 512 then k * 16 + (lenOf lens k) else g a q) (2 ^ (maxL lens - 9)))) (by rw [filll_zero (lk := lk) (h := (codeOf lens k / 2 ^ ((lenOf lens k) - 9)) - lk) (v := k * 16 + (lenOf lens k)) (g := g) hrl]; try rfl) ?_
   refine C.loop (fun mm ee ll => ∃ (off : Nat),keeps ee [0,1,6,7,11,168,169,170,19,21,26,27] = some [(0,.pointer (some ⟨hb,o,none⟩)),(1,.slice (some ⟨vb,vo,none⟩) lens.length vc),(6,.int .i64 ((minL lens : Nat) : Int)),(7,.int .i64 ((maxL lens : Nat) : Int)),(11,.pointer (some ⟨b11,0,none⟩)),(168,.slice (some ⟨vb,vo,none⟩) lens.length vc),(169,.int .i64 ((lens.length : Nat) : Int)),(170,.int .i64 ((k : Nat) : Int)),(19,.int .i64 (((lenOf lens k) : Nat) : Int)),(21,.int .u32 ((k * 16 + (lenOf lens k) : Nat) : Int)),(26,.slice (some ⟨lb ((codeOf lens k / 2 ^ ((lenOf lens k) - 9)) - lk),0,none⟩) (2 ^ (maxL lens - 9)) (2 ^ (maxL lens - 9))),(27,.int .i64 ((off : Nat) : Int))] ∧ ll = [⟨kb,0,lkCells (512 - lk) lb (2 ^ (maxL lens - 9))⟩,⟨b11,0,cellsI 16 (nextK lens (minL lens) (maxL lens) (k + 1))⟩,⟨b5,0,cellsI 16 (cntL lens)⟩,⟨hb,o,[.int .i64 ((minL lens : Nat) : Int)]⟩,⟨hb,o + 1,cellsU 512 f⟩,⟨hb,o + 513,[.slice (some ⟨kb,0,none⟩) ((512 - lk)) (512 - lk),.int .u32 ((2 ^ (maxL lens - 9) - 1 : Nat) : Int)]⟩,⟨vb,vo,intsV lens ++ vs⟩] ++ LkF (512 - lk) lb (fun a q => if a = (codeOf lens k / 2 ^ ((lenOf lens k) - 9)) - lk ∧ q < off ∧ q % 2 ^ ((lenOf lens k) - 9) = revB (lenOf lens k) (codeOf lens k) / 512 then k * 16 + (lenOf lens k) else g a q) (2 ^ (maxL lens - 9)) ∧ (off % 2 ^ ((lenOf lens k) - 9) = revB (lenOf lens k) (codeOf lens k) / 512) ∧ (off < 128) ∧ mm = 128 - off) (_) ⟨revB (lenOf lens k) (codeOf lens k) / 512,rfl,rfl,Nat.mod_eq_of_lt hrl,by omega,rfl⟩ ?_
   rintro m5 _ _ ⟨off,hk5,rfl,hoff,ho9,hm5⟩
   refine C.weaken _ hk5 ?_
   refine C.seq ?_
   refine C.sr ?_
   refine E.pure (S.move rfl) rfl ?_
   refine E.pure (S.move rfl) rfl ?_
   refine E.pure (S.lenSl rfl Tryd.underlying178) rfl ?_
   refine E.pure (S.lt rfl rfl) rfl ?_
   refine E.kp [(0,_),(1,_),(6,_),(7,_),(11,_),(19,_),(21,_),(26,_),(27,_),(168,_),(169,_),(170,_),(258,_)] rfl ?_
   refine C.ifp rfl (fun h258 => ?_) (fun h258 => ?_)
   ·
    refine C.skip ?_
    refine C.seq ?_
    refine C.block ?_
    refine C.seq ?_
    refine C.sr ?_
    refine E.pure (S.move rfl) rfl ?_
    refine E.guardNo 265 false rfl rfl rfl rfl ?_
    refine E.guardNo 265 false rfl rfl rfl rfl ?_
    refine E.guardNo 265 false rfl rfl rfl rfl ?_
    refine E.guardNo 265 false rfl rfl rfl rfl ?_
    refine E.guardNo 265 false rfl rfl rfl rfl ?_
    refine E.pure (S.pickF rfl rfl) rfl ?_
    refine E.kp [(0,_),(1,_),(6,_),(7,_),(11,_),(19,_),(21,_),(26,_),(27,_),(168,_),(169,_),(170,_),(258,_),(271,_)] rfl ?_
    refine C.no rfl (rfl) ?_
    refine C.skip ?_
    refine C.region ?_
    refine E.pure (S.move rfl) rfl ?_
    refine E.pure (S.move rfl) rfl ?_
    refine E.pure (S.move rfl) rfl ?_
    refine E.pure (S.ixSl rfl rfl (by omega) Tryd.underlying178 Tryd.sizeOf52) rfl ?_
    refine E.loud0 (X.store (((codeOf lens k / 2 ^ ((lenOf lens k) - 9)) - lk) + 7) (k := off * 1) (LkF_get (by omega)) rfl rfl rfl (by rw [Nat.blt_eq,cellsU_length]; omega) Tryd.sizeOf52) ?_
    rintro _ _ ⟨rfl,rfl⟩
    refine E.relist (L2 := (⟨kb,0,lkCells (512 - lk) lb (2 ^ (maxL lens - 9))⟩::⟨b11,0,cellsI 16 (nextK lens (minL lens) (maxL lens) (k + 1))⟩::⟨b5,0,cellsI 16 (cntL lens)⟩::⟨hb,o,[.int .i64 ((minL lens : Nat) : Int)]⟩::⟨hb,o + 1,cellsU 512 f⟩::⟨hb,o + 513,[.slice (some ⟨kb,0,none⟩) ((512 - lk)) (512 - lk),.int .u32 ((2 ^ (maxL lens - 9) - 1 : Nat) : Int)]⟩::⟨vb,vo,intsV lens ++ vs⟩::LkF (512 - lk) lb (fun a q => if a = (codeOf lens k / 2 ^ ((lenOf lens k) - 9)) - lk ∧ q < off + 2 ^ ((lenOf lens k) - 9) ∧ q % 2 ^ ((lenOf lens k) - 9) = revB (lenOf lens k) (codeOf lens k) / 512 then k * 16 + (lenOf lens k) else g a q) (2 ^ (maxL lens - 9)))) (congrArg (fun q => ((⟨kb,0,lkCells (512 - lk) lb (2 ^ (maxL lens - 9))⟩::⟨b11,0,cellsI 16 (nextK lens (minL lens) (maxL lens) (k + 1))⟩::⟨b5,0,cellsI 16 (cntL lens)⟩::⟨hb,o,[.int .i64 ((minL lens : Nat) : Int)]⟩::⟨hb,o + 1,cellsU 512 f⟩::⟨hb,o + 513,[.slice (some ⟨kb,0,none⟩) ((512 - lk)) (512 - lk),.int .u32 ((2 ^ (maxL lens - 9) - 1 : Nat) : Int)]⟩::⟨vb,vo,intsV lens ++ vs⟩::q) : Frags)) (filll_next hoff)) ?_
    refine E.kp [(0,_),(1,_),(6,_),(7,_),(11,_),(19,_),(21,_),(26,_),(27,_),(168,_),(169,_),(170,_),(258,_),(271,_)] rfl ?_
    refine C.region ?_
    refine E.pure (S.move rfl) rfl ?_
    refine E.pure (S.move rfl) rfl ?_
    refine E.pure (S.sub (b := ((9 : Nat) : Int)) rfl rfl (N.sub64 (by omega) (by omega))) rfl ?_
    refine E.pure (S.conv rfl Tryd.underlying3 Tryd.underlying92 (N.in_u64 (by omega))) rfl ?_
    refine E.pure (S.shl (a := ((1 : Nat) : Int)) rfl rfl (by omega) (N.shl64 (by rw [Nat.one_shiftLeft]; omega))) rfl ?_
    refine E.reslot (v := .int .i64 ((2 ^ ((lenOf lens k) - 9) : Nat) : Int)) (congrArg (fun q : Nat => Value.int .i64 (q : Int)) (by rw [Nat.one_shiftLeft])) ?_
    refine E.pure (S.add rfl rfl (N.add64 (by omega))) rfl ?_
    refine E.pure (S.assign rfl) rfl ?_
    refine E.kp [(0,_),(1,_),(6,_),(7,_),(11,_),(19,_),(21,_),(26,_),(27,_),(168,_),(169,_),(170,_),(258,_),(271,_)] rfl ?_
    refine ⟨_,?_,off + 2 ^ ((lenOf lens k) - 9),rfl,rfl,by rw [Nat.add_mod_right]; exact hoff,by omega,rfl⟩; omega
   have hT2 := hT.addLong hfit hlk (by omega) (g' := (fun a q => if a = (codeOf lens k / 2 ^ ((lenOf lens k) - 9)) - lk ∧ q < off ∧ q % 2 ^ ((lenOf lens k) - 9) = revB (lenOf lens k) (codeOf lens k) / 512 then k * 16 + (lenOf lens k) else g a q)) (fun q hq he => if_pos ⟨rfl,by omega,he⟩) (fun a q h => if_neg (fun h2 => h.elim (fun h3 => h3 h2.1) (fun h3 => h3 h2.2.2)))
   have hfb2 := hfb
   have hgb2 : ∀ a q,(fun a q => if a = (codeOf lens k / 2 ^ ((lenOf lens k) - 9)) - lk ∧ q < off ∧ q % 2 ^ ((lenOf lens k) - 9) = revB (lenOf lens k) (codeOf lens k) / 512 then k * 16 + (lenOf lens k) else g a q) a q < 65536 := fun a q => by
     simp only
     split
     · omega
     · exact hgb a q
   refine C.exit rfl ?_
   refine C.region ?_
   refine E.pure (S.add (b := ((1 : Nat) : Int)) rfl rfl (N.add64 (by omega))) rfl ?_
   refine E.pure (S.move rfl) rfl ?_
   refine E.kp [(0,_),(1,_),(6,_),(7,_),(11,_),(19,_),(21,_),(26,_),(27,_),(168,_),(169,_),(170,_),(258,_)] rfl ?_
   refine ⟨_,?_,k + 1,_,_,rfl,rfl,by omega,hT2,hfb2,hgb2,rfl⟩; omega
  have hk2 : k = lens.length := by omega
  subst hk2
  refine C.exit rfl ?_
  refine C.seq ?_
  refine C.no rfl (rfl) ?_
  refine C.skip ?_
  refine C.sr ?_
  refine E.pure (S.assign rfl) rfl ?_
  refine E.kp [(0,_),(1,_),(4,_),(6,_),(7,_),(11,_),(168,_),(169,_),(170,_),(171,_)] rfl ?_
  refine C.ret ?_
  refine ⟨_,rfl,.inl ⟨hok,rfl,_,[⟨b11,0,cellsI 16 (nextK lens (minL lens) (maxL lens) lens.length)⟩,⟨b5,0,cellsI 16 (cntL lens)⟩],big_res (lb := lb) (kb := kb) (tab_ok hfit rfl hlk (hfull.imp id (fun h => h.1)) hm15 rfl hT) hfb hgb hnk0 hnk ⟨_,rfl⟩ hmp.1,?_⟩⟩
  refine (Same.perm (picks_perm (A := [_,_,_,_,_]) (F := _::_::_) (is := [6,3,3,3,0]) rfl)).trans ?_
  exact Same.perm (List.Perm.append_left [_,_,_,_,_] (List.perm_append_comm (l₁ := [_,_])))
 refine C.skip ?_
 refine C.seq ?_
 refine C.sr ?_
 refine E.pure (S.move rfl) rfl ?_
 refine E.pure (S.lenSl rfl Tryd.underlying39) rfl ?_
 refine E.pure (S.move rfl) rfl ?_
 refine E.kp [(0,_),(1,_),(5,_),(6,_),(7,_),(11,_),(105,_),(168,_),(169,_),(170,_)] rfl ?_
 refine C.block ?_
 refine C.loop (fun mm ee ll => ∃ (k : Nat),∃ (f : Nat → Nat),keeps ee [0,1,6,7,11,168,169,170] = some [(0,.pointer (some ⟨hb,o,none⟩)),(1,.slice (some ⟨vb,vo,none⟩) lens.length vc),(6,.int .i64 ((minL lens : Nat) : Int)),(7,.int .i64 ((maxL lens : Nat) : Int)),(11,.pointer (some ⟨b11,0,none⟩)),(168,.slice (some ⟨vb,vo,none⟩) lens.length vc),(169,.int .i64 ((lens.length : Nat) : Int)),(170,.int .i64 ((k : Nat) : Int))] ∧ ll = [⟨b11,0,cellsI 16 (nextK lens (minL lens) (maxL lens) k)⟩,⟨b5,0,cellsI 16 (cntL lens)⟩,⟨hb,o,[.int .i64 ((minL lens : Nat) : Int)]⟩,⟨hb,o + 1,cellsU 512 f⟩,⟨hb,o + 513,[.slice none 0 0,.int .u32 0]⟩,⟨vb,vo,intsV lens ++ vs⟩] ∧ (k ≤ lens.length) ∧ (TabP lens (maxL lens) lk (2 ^ (maxL lens - 9)) k f (fun _ _ => 0)) ∧ (∀ x,x < 512 → f x < 65536) ∧ mm = lens.length - k) (_) ⟨0,_,rfl,rfl,by omega,link_none h105,fun _ _ => (by decide : 0 < 65536),rfl⟩ ?_
 rintro m6 _ _ ⟨k,f,hk6,rfl,hk,hT,hfb,hm6⟩
 refine C.weaken _ hk6 ?_
 refine C.sr ?_
 refine E.pure (S.lt rfl rfl) rfl ?_
 refine E.kp [(0,_),(1,_),(6,_),(7,_),(11,_),(168,_),(169,_),(170,_),(171,_)] rfl ?_
 refine C.seq ?_
 refine C.ifp rfl (fun h171 => ?_) (fun h171 => ?_)
 ·
  have hk2 : k < lens.length := by omega
  have hel := lenOf_get hk2
  have hn15 : lenOf lens k ≤ 15 := by rw [hel]; exact h15 _ (List.getElem_mem hk2)
  refine C.skip ?_
  refine C.seq ?_
  refine C.block ?_
  refine C.sr ?_
  refine E.pure (S.move rfl) rfl ?_
  refine E.pure (S.ixSl rfl rfl (by omega) Tryd.underlying39 Tryd.sizeOf3) rfl ?_
  refine E.still (S.load 5 (k := k * 1) rfl rfl (intsV_get hk2) Tryd.isAgg3) rfl ?_
  refine E.reslot (v := .int .i64 ((lenOf lens k : Nat) : Int)) (by rw [hel]) ?_
  refine E.pure (S.assign rfl) rfl ?_
  refine E.pure (S.assign rfl) rfl ?_
  refine E.kp [(0,_),(1,_),(6,_),(7,_),(11,_),(18,_),(19,_),(168,_),(169,_),(170,_),(171,_)] rfl ?_
  refine C.seq ?_
  refine C.sr ?_
  refine E.pure (S.move rfl) rfl ?_
  refine E.pure (S.eq (b := ((0 : Nat) : Int)) rfl rfl) rfl ?_
  refine E.kp [(0,_),(1,_),(6,_),(7,_),(11,_),(18,_),(19,_),(168,_),(169,_),(170,_),(171,_),(176,_)] rfl ?_
  refine C.ifp rfl (fun h176 => ?_) (fun h176 => ?_)
  ·
   have hT2 := hT.skip (by omega)
   have hfb2 := hfb
   refine C.relist (L2 := [⟨b11,0,cellsI 16 (nextK lens (minL lens) (maxL lens) (k + 1))⟩,⟨b5,0,cellsI 16 (cntL lens)⟩,⟨hb,o,[.int .i64 ((minL lens : Nat) : Int)]⟩,⟨hb,o + 1,cellsU 512 f⟩,⟨hb,o + 513,[.slice none 0 0,.int .u32 0]⟩,⟨vb,vo,intsV lens ++ vs⟩]) (by rw [nextK_zero (k := k) hk2 (by omega) hmp.1]; try rfl) ?_
   refine C.exit rfl ?_
   refine C.region ?_
   refine E.pure (S.add (b := ((1 : Nat) : Int)) rfl rfl (N.add64 (by omega))) rfl ?_
   refine E.pure (S.move rfl) rfl ?_
   refine E.kp [(0,_),(1,_),(6,_),(7,_),(11,_),(18,_),(19,_),(168,_),(169,_),(170,_),(171,_),(176,_)] rfl ?_
   refine ⟨_,?_,k + 1,_,rfl,rfl,by omega,hT2,hfb2,rfl⟩; omega
  have hmn1 : minL lens ≤ (lenOf lens k) := by rw [hel]; exact (minL_spec lens).2.1 _ (List.getElem_mem hk2) (by omega)
  have hmx1 : (lenOf lens k) ≤ maxL lens := lenOf_le_max lens k
  have hcb : codeOf lens k < 2 ^ (lenOf lens k) := codeOf_bound hfit (by omega)
  have hp15 : 2 ^ (lenOf lens k) ≤ 2 ^ 15 := Nat.pow_le_pow_right (by omega) hn15
  have hrn := revB_lt (lenOf lens k) (codeOf lens k)
  have hr16 := revB_lt 16 (codeOf lens k)
  refine C.skip ?_
  refine C.sr ?_
  refine E.pure (S.move rfl) rfl ?_
  refine E.pure (S.ixArr rfl rfl (by omega) Tryd.underlying176 Tryd.sizeOf3) rfl ?_
  refine E.still (S.load 0 (k := (lenOf lens k) * 1) rfl rfl (cellsI_get (by omega)) Tryd.isAgg3) rfl ?_
  refine E.reslot (v := .int .i64 ((codeOf lens k : Nat) : Int)) (congrArg (fun q : Nat => Value.int .i64 (q : Int)) (by exact nextK_at hmn1 hmx1)) ?_
  refine E.pure (S.assign rfl) rfl ?_
  refine E.kp [(0,_),(1,_),(6,_),(7,_),(11,_),(18,_),(19,_),(20,_),(168,_),(169,_),(170,_),(171,_),(176,_)] rfl ?_
  refine C.sr ?_
  refine E.pure (S.move rfl) rfl ?_
  refine E.pure (S.ixArr rfl rfl (by omega) Tryd.underlying176 Tryd.sizeOf3) rfl ?_
  refine E.still (S.load 0 (k := (lenOf lens k) * 1) rfl rfl (cellsI_get (by omega)) Tryd.isAgg3) rfl ?_
  refine E.reslot (v := .int .i64 ((codeOf lens k : Nat) : Int)) (congrArg (fun q : Nat => Value.int .i64 (q : Int)) (by exact nextK_at hmn1 hmx1)) ?_
  refine E.pure (S.add (b := ((1 : Nat) : Int)) rfl rfl (N.add64 (by omega))) rfl ?_
  refine E.pure (S.ixArr rfl rfl (by omega) Tryd.underlying176 Tryd.sizeOf3) rfl ?_
  refine E.loud0 (X.store 0 (k := (lenOf lens k) * 1) rfl rfl rfl rfl (by rw [Nat.blt_eq,cellsI_length]; omega) Tryd.sizeOf3) ?_
  rintro _ _ ⟨rfl,rfl⟩
  refine E.relist (L2 := [⟨b11,0,cellsI 16 (nextK lens (minL lens) (maxL lens) (k + 1))⟩,⟨b5,0,cellsI 16 (cntL lens)⟩,⟨hb,o,[.int .i64 ((minL lens : Nat) : Int)]⟩,⟨hb,o + 1,cellsU 512 f⟩,⟨hb,o + 513,[.slice none 0 0,.int .u32 0]⟩,⟨vb,vo,intsV lens ++ vs⟩]) (congrArg (fun q => ([(⟨b11,0,q⟩ : Frag),⟨b5,0,cellsI 16 (cntL lens)⟩,⟨hb,o,[.int .i64 ((minL lens : Nat) : Int)]⟩,⟨hb,o + 1,cellsU 512 f⟩,⟨hb,o + 513,[.slice none 0 0,.int .u32 0]⟩,⟨vb,vo,intsV lens ++ vs⟩] : Frags)) (nextK_more hk2 hmn1 hmx1)) ?_
  refine E.kp [(0,_),(1,_),(6,_),(7,_),(11,_),(18,_),(19,_),(20,_),(168,_),(169,_),(170,_),(171,_),(176,_)] rfl ?_
  refine C.sr ?_
  refine E.pure (S.move rfl) rfl ?_
  refine E.pure (S.shl (b := ((4 : Nat) : Int)) rfl rfl (by omega) (N.shl64 (by rw [Nat.shiftLeft_eq]; omega))) rfl ?_
  refine E.reslot (v := .int .i64 ((k * 16 : Nat) : Int)) (congrArg (fun q : Nat => Value.int .i64 (q : Int)) (by rw [Nat.shiftLeft_eq])) ?_
  refine E.pure (S.move rfl) rfl ?_
  refine E.pure (S.or rfl rfl (N.or64 (by omega) (by omega))) rfl ?_
  refine E.reslot (v := .int .i64 ((k * 16 + (lenOf lens k) : Nat) : Int)) (congrArg (fun q : Nat => Value.int .i64 (q : Int)) (by exact or16 _ _ (by omega))) ?_
  refine E.pure (S.conv rfl Tryd.underlying3 Tryd.underlying52 (N.in_u32 (by omega))) rfl ?_
  refine E.pure (S.assign rfl) rfl ?_
  refine E.kp [(0,_),(1,_),(6,_),(7,_),(11,_),(18,_),(19,_),(20,_),(21,_),(168,_),(169,_),(170,_),(171,_),(176,_)] rfl ?_
  refine C.sr ?_
  refine E.pure (S.move rfl) rfl ?_
  refine E.pure (S.conv rfl Tryd.underlying3 Tryd.underlying120 (N.in_u16 (by omega))) rfl ?_
  refine E.loud1 (OpX.pick [] (F := [_,_,_,_,_,_]) rfl (X.call rfl Tryd.call91 (reverse16_spec _ (by omega)))) rfl ?_; rintro _ _ ⟨_,⟨rfl,rfl⟩,rfl⟩; refine E.relist (L2 := [_,_,_,_,_,_]) rfl ?_
  refine E.pure (S.conv rfl Tryd.underlying120 Tryd.underlying3 (N.i64n (by omega))) rfl ?_
  refine E.pure (S.assign rfl) rfl ?_
  refine E.kp [(0,_),(1,_),(6,_),(7,_),(11,_),(18,_),(19,_),(20,_),(21,_),(22,_),(168,_),(169,_),(170,_),(171,_),(176,_)] rfl ?_
  refine C.sr ?_
  refine E.pure (S.move rfl) rfl ?_
  refine E.pure (S.move rfl) rfl ?_
  refine E.pure (S.sub (a := ((16 : Nat) : Int)) rfl rfl (N.sub64 (by omega) (by omega))) rfl ?_
  refine E.pure (S.conv rfl Tryd.underlying3 Tryd.underlying92 (N.in_u64 (by omega))) rfl ?_
  refine E.pure (S.shr rfl rfl (by omega) (N.shr64 (by omega) _)) rfl ?_
  refine E.reslot (v := .int .i64 ((revB (lenOf lens k) (codeOf lens k) : Nat) : Int)) (congrArg (fun q : Nat => Value.int .i64 (q : Int)) (by exact revB_sh _ (by omega))) ?_
  refine E.pure (S.assign rfl) rfl ?_
  refine E.kp [(0,_),(1,_),(6,_),(7,_),(11,_),(18,_),(19,_),(20,_),(21,_),(22,_),(168,_),(169,_),(170,_),(171,_),(176,_)] rfl ?_
  refine C.sr ?_
  refine E.pure (S.move rfl) rfl ?_
  refine E.pure (S.le (b := ((9 : Nat) : Int)) rfl rfl) rfl ?_
  refine E.kp [(0,_),(1,_),(6,_),(7,_),(11,_),(18,_),(19,_),(20,_),(21,_),(22,_),(168,_),(169,_),(170,_),(171,_),(176,_),(200,_)] rfl ?_
  refine C.ifp rfl (fun h200 => ?_) (fun h200 => ?_)
  ·
   have hp9 : 2 ^ (lenOf lens k) ≤ 2 ^ 9 := Nat.pow_le_pow_right (by omega) (by omega)
   have hp0 : 0 < 2 ^ (lenOf lens k) := Nat.pow_pos (by omega)
   refine C.sr ?_
   refine E.pure (S.move rfl) rfl ?_
   refine E.pure (S.assign rfl) rfl ?_
   refine E.kp [(0,_),(1,_),(6,_),(7,_),(11,_),(18,_),(19,_),(20,_),(21,_),(22,_),(23,_),(168,_),(169,_),(170,_),(171,_),(176,_),(200,_)] rfl ?_
   refine C.block ?_
   refine C.relist (L2 := [⟨b11,0,cellsI 16 (nextK lens (minL lens) (maxL lens) (k + 1))⟩,⟨b5,0,cellsI 16 (cntL lens)⟩,⟨hb,o,[.int .i64 ((minL lens : Nat) : Int)]⟩,⟨hb,o + 1,cellsU 512 (fun x => if x < revB (lenOf lens k) (codeOf lens k) ∧ x % 2 ^ (lenOf lens k) = revB (lenOf lens k) (codeOf lens k) then k * 16 + (lenOf lens k) else f x)⟩,⟨hb,o + 513,[.slice none 0 0,.int .u32 0]⟩,⟨vb,vo,intsV lens ++ vs⟩]) (by rw [fill_zero (k := k) (n := (lenOf lens k)) (c := codeOf lens k) (f := f) _ rfl]; try rfl) ?_
   refine C.loop (fun mm ee ll => ∃ (off : Nat),keeps ee [0,1,6,7,11,168,169,170,19,21,23] = some [(0,.pointer (some ⟨hb,o,none⟩)),(1,.slice (some ⟨vb,vo,none⟩) lens.length vc),(6,.int .i64 ((minL lens : Nat) : Int)),(7,.int .i64 ((maxL lens : Nat) : Int)),(11,.pointer (some ⟨b11,0,none⟩)),(168,.slice (some ⟨vb,vo,none⟩) lens.length vc),(169,.int .i64 ((lens.length : Nat) : Int)),(170,.int .i64 ((k : Nat) : Int)),(19,.int .i64 (((lenOf lens k) : Nat) : Int)),(21,.int .u32 ((k * 16 + (lenOf lens k) : Nat) : Int)),(23,.int .i64 ((off : Nat) : Int))] ∧ ll = [⟨b11,0,cellsI 16 (nextK lens (minL lens) (maxL lens) (k + 1))⟩,⟨b5,0,cellsI 16 (cntL lens)⟩,⟨hb,o,[.int .i64 ((minL lens : Nat) : Int)]⟩,⟨hb,o + 1,cellsU 512 (fun x => if x < off ∧ x % 2 ^ (lenOf lens k) = revB (lenOf lens k) (codeOf lens k) then k * 16 + (lenOf lens k) else f x)⟩,⟨hb,o + 513,[.slice none 0 0,.int .u32 0]⟩,⟨vb,vo,intsV lens ++ vs⟩] ∧ (off % 2 ^ (lenOf lens k) = revB (lenOf lens k) (codeOf lens k)) ∧ (off < 1024) ∧ mm = 1024 - off) (_) ⟨revB (lenOf lens k) (codeOf lens k),rfl,rfl,Nat.mod_eq_of_lt (revB_lt _ _),by omega,rfl⟩ ?_
   rintro m7 _ _ ⟨off,hk7,rfl,hoff,ho9,hm7⟩
   refine C.weaken _ hk7 ?_
   refine C.seq ?_
   refine C.sr ?_
   refine E.pure (S.move rfl) rfl ?_
   refine E.pure (S.lt (b := ((512 : Nat) : Int)) rfl rfl) rfl ?_
   refine E.kp [(0,_),(1,_),(6,_),(7,_),(11,_),(19,_),(21,_),(23,_),(168,_),(169,_),(170,_),(203,_)] rfl ?_
   refine C.ifp rfl (fun h203 => ?_) (fun h203 => ?_)
   ·
    refine C.skip ?_
    refine C.seq ?_
    refine C.block ?_
    refine C.seq ?_
    refine C.sr ?_
    refine E.pure (S.move rfl) rfl ?_
    refine E.guardNo 209 false rfl rfl rfl rfl ?_
    refine E.guardNo 209 false rfl rfl rfl rfl ?_
    refine E.guardNo 209 false rfl rfl rfl rfl ?_
    refine E.guardNo 209 false rfl rfl rfl rfl ?_
    refine E.guardNo 209 false rfl rfl rfl rfl ?_
    refine E.guardNo 209 false rfl rfl rfl rfl ?_
    refine E.guardNo 209 false rfl rfl rfl rfl ?_
    refine E.pure (S.pickF rfl rfl) rfl ?_
    refine E.kp [(0,_),(1,_),(6,_),(7,_),(11,_),(19,_),(21,_),(23,_),(168,_),(169,_),(170,_),(203,_),(217,_)] rfl ?_
    refine C.no rfl (rfl) ?_
    refine C.skip ?_
    refine C.region ?_
    refine E.pure (S.move rfl) rfl ?_
    refine E.pure (S.move rfl) rfl ?_
    refine E.pure (S.move rfl) rfl ?_
    refine E.pure (S.nilPtr rfl) rfl ?_
    refine E.pure (S.field rfl fa144_1) rfl ?_
    refine E.pure (S.ixArr rfl rfl (by omega) Tryd.underlying141 Tryd.sizeOf52) rfl ?_
    refine E.loud0 (X.store 3 (k := off * 1) rfl rfl rfl rfl (by rw [Nat.blt_eq,cellsU_length]; omega) Tryd.sizeOf52) ?_
    rintro _ _ ⟨rfl,rfl⟩
    refine E.relist (L2 := [⟨b11,0,cellsI 16 (nextK lens (minL lens) (maxL lens) (k + 1))⟩,⟨b5,0,cellsI 16 (cntL lens)⟩,⟨hb,o,[.int .i64 ((minL lens : Nat) : Int)]⟩,⟨hb,o + 1,cellsU 512 (fun x => if x < off + 2 ^ (lenOf lens k) ∧ x % 2 ^ (lenOf lens k) = revB (lenOf lens k) (codeOf lens k) then k * 16 + (lenOf lens k) else f x)⟩,⟨hb,o + 513,[.slice none 0 0,.int .u32 0]⟩,⟨vb,vo,intsV lens ++ vs⟩]) (congrArg (fun q => ([⟨b11,0,cellsI 16 (nextK lens (minL lens) (maxL lens) (k + 1))⟩,⟨b5,0,cellsI 16 (cntL lens)⟩,⟨hb,o,[.int .i64 ((minL lens : Nat) : Int)]⟩,(⟨hb,o + 1,q⟩ : Frag),⟨hb,o + 513,[.slice none 0 0,.int .u32 0]⟩,⟨vb,vo,intsV lens ++ vs⟩] : Frags)) (fill_next hoff)) ?_
    refine E.kp [(0,_),(1,_),(6,_),(7,_),(11,_),(19,_),(21,_),(23,_),(168,_),(169,_),(170,_),(203,_),(217,_)] rfl ?_
    refine C.region ?_
    refine E.pure (S.move rfl) rfl ?_
    refine E.pure (S.move rfl) rfl ?_
    refine E.pure (S.conv rfl Tryd.underlying3 Tryd.underlying92 (N.in_u64 (by omega))) rfl ?_
    refine E.pure (S.shl (a := ((1 : Nat) : Int)) rfl rfl (by omega) (N.shl64 (by rw [Nat.one_shiftLeft]; omega))) rfl ?_
    refine E.reslot (v := .int .i64 ((2 ^ (lenOf lens k) : Nat) : Int)) (congrArg (fun q : Nat => Value.int .i64 (q : Int)) (by rw [Nat.one_shiftLeft])) ?_
    refine E.pure (S.add rfl rfl (N.add64 (by omega))) rfl ?_
    refine E.pure (S.assign rfl) rfl ?_
    refine E.kp [(0,_),(1,_),(6,_),(7,_),(11,_),(19,_),(21,_),(23,_),(168,_),(169,_),(170,_),(203,_),(217,_)] rfl ?_
    refine ⟨_,?_,off + 2 ^ (lenOf lens k),rfl,rfl,by rw [Nat.add_mod_right]; exact hoff,by omega,rfl⟩; omega
   have hT2 := hT.addShort hfit (by omega) (by omega) (f' := (fun x => if x < off ∧ x % 2 ^ (lenOf lens k) = revB (lenOf lens k) (codeOf lens k) then k * 16 + (lenOf lens k) else f x)) (fun x hx he => if_pos ⟨by omega,he⟩) (fun x hx he => if_neg (fun h => he h.2))
   have hfb2 : ∀ x,x < 512 → (fun x => if x < off ∧ x % 2 ^ (lenOf lens k) = revB (lenOf lens k) (codeOf lens k) then k * 16 + (lenOf lens k) else f x) x < 65536 := fun x hx => by
     simp only
     split
     · omega
     · exact hfb x hx
   refine C.exit rfl ?_
   refine C.region ?_
   refine E.pure (S.add (b := ((1 : Nat) : Int)) rfl rfl (N.add64 (by omega))) rfl ?_
   refine E.pure (S.move rfl) rfl ?_
   refine E.kp [(0,_),(1,_),(6,_),(7,_),(11,_),(19,_),(21,_),(23,_),(168,_),(169,_),(170,_),(203,_)] rfl ?_
   refine ⟨_,?_,k + 1,_,rfl,rfl,by omega,hT2,hfb2,rfl⟩; omega
  exact absurd h200 (by omega)
 have hk2 : k = lens.length := by omega
 subst hk2
 refine C.exit rfl ?_
 refine C.seq ?_
 refine C.no rfl (rfl) ?_
 refine C.skip ?_
 refine C.sr ?_
 refine E.pure (S.assign rfl) rfl ?_
 refine E.kp [(0,_),(1,_),(4,_),(6,_),(7,_),(11,_),(168,_),(169,_),(170,_),(171,_)] rfl ?_
 refine C.ret ?_
 refine ⟨_,rfl,.inl ⟨hok,rfl,_,[_,_],small_res (tab_small hfit rfl (hfull.imp id (fun h => h.1)) (by omega) hT) hfb hmp.1,Same.perm (picks_perm (A := [_,_,_,_]) (F := [_,_]) (is := [5,2,2,2]) rfl)⟩⟩

/-- A decoder that may be made anew. -/
def RawH (cs : List Value) : Prop := ∃ mn0 rest,cs = .int .i64 ((mn0 : Nat) : Int)::rest ∧ rest.length = 514 ∧ (mn0 = 0 → rest = cellsU 512 (fun _ => 0) ++ [.slice none 0 0,.int .u32 0])
theorem rawZ : RawH hufZ := ⟨0,_,rfl,by simp [cellsU_length],fun _ => rfl⟩
theorem huf_raw {lens : List Nat} {mn hb o : Nat} {L : Frags} (h : HufT lens mn hb o L) : ∃ cs J,RawH cs ∧ ∀ F,Same (L ++ F) (⟨hb,o,cs⟩::(J ++ F)) := by
  obtain ⟨f,g,nt,nk,lv,T,_,_,_,_,_,_,h0,rfl,hT⟩ := h
  refine ⟨.int .i64 ((mn : Nat) : Int)::(cellsU 512 f ++ [lv,.int .u32 ((nk - 1 : Nat) : Int)]),T,⟨mn,_,rfl,by simp [cellsU_length],fun e => ?_⟩,fun F => ?_⟩
  · obtain ⟨h1,h2,h3⟩ := h0 e
    rw [cellsU_congr h1,h2,h3]; rfl
  · exact (Same.chunks hb (T ++ F) [(o,[.int .i64 ((mn : Nat) : Int)]),(o + 1,cellsU 512 f),(o + 513,[lv,.int .u32 ((nk - 1 : Nat) : Int)])] o (by simp [chunksOk,cellsU_length])).symm

end Go.Eng
namespace Go.Eng
open Go Go.Proofs
set_option maxRecDepth 100000

/-- Any error of flate that the thin package calls another one. -/
def Bad5 (e : Er) : Prop := kindOf e = 5 ∧ e ≠ .none
theorem bad_corrupt (x : Int) : Bad5 (.corrupt x) := ⟨rfl,by simp⟩
theorem bad_eof {l : List UInt8} (h : rdErr l ≠ .none) : Bad5 (noEof (rdErr l)) := by
  unfold rdErr at h ⊢
  cases l with
  | nil => exact ⟨rfl,noEof_ne (by simp)⟩
  | cons c r => exact absurd rfl h
theorem drop_cases (D : List UInt8) {q : Nat} (hq : q ≤ D.length) : (rdErr (D.drop q) = .none ∧ ∃ h : q < D.length,rdByte (D.drop q) = D[q].toNat ∧ (D.drop q).drop 1 = D.drop (q + 1)) ∨ (rdErr (D.drop q) ≠ .none ∧ q = D.length) := by
  rcases Nat.lt_or_ge q D.length with h | h
  · left
    have e := List.drop_eq_getElem_cons h
    refine ⟨by rw [e]; rfl,h,by rw [e]; rfl,by rw [List.drop_drop]⟩
  · right
    have e : q = D.length := by omega
    refine ⟨?_,e⟩
    rw [e,List.drop_length]; simp [rdErr]
theorem or_byte {b c nb : Nat} (hb : b < 2 ^ nb) (hc : c < 256) (hn : nb ≤ 24) : b ||| (c <<< nb) % 4294967296 = b + 2 ^ nb * c := by
  have h2 : (2 : Nat) ^ nb ≤ 2 ^ 24 := Nat.pow_le_pow_right (by omega) hn
  have h3 : c <<< nb < 4294967296 := by
    rw [Nat.shiftLeft_eq]
    have : c * 2 ^ nb ≤ 255 * 2 ^ 24 := Nat.mul_le_mul (by omega) h2
    omega
  rw [Nat.mod_eq_of_lt h3,Nat.or_comm,← Nat.shiftLeft_add_eq_or_of_lt hb,Nat.shiftLeft_eq,Nat.mul_comm]
  omega
theorem and31 {x : Nat} (h : x < 32) : x &&& 31 = x := by
  have := Nat.and_two_pow_sub_one_eq_mod x 5
  rw [show x &&& 31 = x % 32 from this,Nat.mod_eq_of_lt h]
theorem BitsIn.lt32 {D : List UInt8} {p q b nb : Nat} (h : BitsIn D p q b nb) (hn : nb ≤ 32) : b < 4294967296 := by
  have h1 := h.lt
  have h2 : (2 : Nat) ^ nb ≤ 2 ^ 32 := Nat.pow_le_pow_right (by omega) hn
  omega
theorem moreBits_spec {K : Known} {ea : Fin 5 → Addr} (hs : Sents K ea) (src : Src K ea) (x1 x2 x3 : Frag) (fb : Nat) (rbv : Value) (ro : Int) (dt : List UInt8) (p q b nb : Nat) (hA : src.At (dt.drop q) x1 x2 x3) (hB : BitsIn dt p q b nb) (hn : nb ≤ 24) : Fn Tryd.prog K 71 #[.pointer (some ⟨fb,0,none⟩)] ([x1,x2,x3,⟨fb,0,[.iface src.t src.v,rbv,.int .i64 (ro),.int .u32 (((b) : Nat) : Int),.int .u64 (((nb) : Nat) : Int)]⟩]) (fun r L => ∃ f1 f2 f3,(∃ (hq : q < dt.length) (ro2 : Int),r = Er.val ea .none ∧ src.At (dt.drop (q + 1)) f1 f2 f3 ∧ BitsIn dt p (q + 1) (b + 2 ^ nb * dt[q].toNat) (nb + 8) ∧ L = [f1,f2,f3,⟨fb,0,[.iface src.t src.v,rbv,.int .i64 (ro2),.int .u32 (((b + 2 ^ nb * dt[q].toNat) : Nat) : Int),.int .u64 (((nb + 8) : Nat) : Int)]⟩]) ∨ (q = dt.length ∧ (∃ e,Bad5 e ∧ r = Er.val ea e) ∧ src.At ((dt.drop q).drop 1) f1 f2 f3 ∧ L = [f1,f2,f3,⟨fb,0,[.iface src.t src.v,rbv,.int .i64 (ro),.int .u32 (((b) : Nat) : Int),.int .u64 (((nb) : Nat) : Int)]⟩])) := by
 refine Fn.intro (args := [.pointer (some ⟨fb,0,none⟩)]) (RR := Ret1 2 _) Tryd.func71 rfl rfl Tryd.ntmps71 (res1 Tryd.results71) ?_
 refine C.reenv (env2 := [(0,.pointer (some ⟨fb,0,none⟩))]) rfl ?_
 refine C.sr ?_
 refine E.pure (S.assign (v := Er.val ea .none) rfl) rfl ?_
 refine E.kp [(0,_),(2,_)] rfl ?_
 refine C.sr ?_
 refine E.pure (S.move rfl) rfl ?_
 refine E.pure (S.nilPtr rfl) rfl ?_
 refine E.pure (S.field rfl fa153_0) rfl ?_
 refine E.still (S.load 3 (k := 0) rfl rfl rfl Tryd.isAgg71) rfl ?_
 refine E.loud1 (OpX.pick [0,0,0] (F := [_]) rfl (X.invoke rfl rfl src.mByte src.cByte (src.byte _ _ _ _ hA))) rfl ?_; rintro _ _ ⟨_,⟨f1,f2,f3,hF,rfl,rfl⟩,rfl⟩; refine E.relist (L2 := [_,_,_,_]) rfl ?_
 refine E.pure (S.move rfl) rfl ?_
 refine E.pure (S.extract rfl rfl) rfl ?_
 refine E.pure (S.extract rfl rfl) rfl ?_
 refine E.pure (S.assign rfl) rfl ?_
 refine E.pure (S.assign rfl) rfl ?_
 refine E.kp [(0,_),(2,_),(3,_),(4,_)] rfl ?_
 refine C.seq ?_
 refine C.sr ?_
 refine E.pure (S.move rfl) rfl ?_
 refine E.still (S.neErNil rfl) rfl ?_
 refine E.kp [(0,_),(2,_),(3,_),(4,_),(14,_)] rfl ?_
 first | refine C.ifp rfl (fun h14 => ?_) (fun h14 => ?_) | refine C.ifNone rfl (fun h14 => ?_) (fun h14 => ?_) | refine C.ifSome rfl (fun h14 => ?_) (fun h14 => ?_) | refine C.ifSe rfl (fun h14 => ?_) (fun h14 => ?_) | refine C.ifNotSe rfl (fun h14 => ?_) (fun h14 => ?_) | refine C.cond rfl (fun h14 => ?_) (fun h14 => ?_)
 ·
  have hq2 := ((drop_cases dt hB.le).resolve_left fun h => h14 h.1).2
  refine C.sr ?_
  refine E.pure (S.move rfl) rfl ?_
  refine E.loud1 (OpX.pick [] (F := [_,_,_,_]) rfl (X.call rfl Tryd.call76 (flate_noEOF (L := []) hs _))) rfl ?_; rintro _ _ ⟨_,⟨rfl,rfl⟩,rfl⟩; refine E.relist (L2 := [_,_,_,_]) rfl ?_
  refine E.pure (S.assign rfl) rfl ?_
  refine E.kp [(0,_),(2,_),(3,_),(4,_),(14,_)] rfl ?_
  refine C.ret ?_
  exact ⟨_,rfl,f1,f2,f3,.inr ⟨hq2,⟨_,bad_eof h14,rfl⟩,hF,rfl⟩⟩
 obtain ⟨hq,hrb,hdd⟩ := ((drop_cases dt hB.le).resolve_right fun h => h.1 h14).2
 rw [hdd] at hF
 have hc8 := dt[q].toNat_lt
 have hm := hB.more hq
 refine C.skip ?_
 refine C.sr ?_
 refine E.pure (S.move rfl) rfl ?_
 refine E.pure (S.nilPtr rfl) rfl ?_
 refine E.pure (S.field rfl fa153_2) rfl ?_
 refine E.still (S.load 3 (k := 2) rfl rfl rfl Tryd.isAgg2) rfl ?_
 refine E.pure (S.add (b := ((1 : Nat) : Int)) rfl rfl rfl) rfl ?_
 refine E.pure (S.nilPtr rfl) rfl ?_
 refine E.pure (S.field rfl fa153_2) rfl ?_
 refine E.loud0 (X.store 3 (k := 2) rfl rfl rfl rfl rfl Tryd.sizeOf2) ?_; rintro _ _ ⟨rfl,rfl⟩; refine E.relist (L2 := [_,_,_,_]) rfl ?_
 refine E.kp [(0,_),(2,_),(3,_),(4,_),(14,_)] rfl ?_
 refine C.seq ?_
 refine C.draw [0,1,2,4,0,16,0,64,128,256,544,1032,4095,8191,12287] (.pure 0 2032 (.pure 1 2033 (.pure 2 2035 (.pure 4 975 (.pure 5 991 (.pure 6 63 (.pure 7 127 (.pure 8 255 (.seg [(3,2039),(9,511),(10,1023),(11,2047),(12,4095),(13,8191)] (.alt 14 .done .stop)))))))))) mixed (by decide +kernel) ?_
 have hb1 := hB.lt
 have hb2 := hB.lt32 (by omega)
 refine D.pure rfl (S.move rfl) rfl ?_
 refine D.pure rfl (S.nilPtr rfl) rfl ?_
 refine D.pure rfl (S.field rfl fa153_3) rfl ?_
 refine D.pure rfl (S.move rfl) rfl ?_
 refine D.pure rfl (S.conv rfl Tryd.underlying5 Tryd.underlying52 (N.in_u32 (by omega))) rfl ?_
 refine D.pure rfl (S.move rfl) rfl ?_
 refine D.pure rfl (S.nilPtr rfl) rfl ?_
 refine D.pure rfl (S.field rfl fa153_4) rfl ?_
 refine D.seg (by decide) ?_
 refine W.still rfl (S.load 3 (k := 3) rfl rfl rfl Tryd.isAgg52) rfl ?_
 refine W.still rfl (S.load 3 (k := 4) rfl rfl rfl Tryd.isAgg92) rfl ?_
 refine W.pure rfl (S.shl rfl rfl (by omega) (N.shl_u32 _ _)) rfl ?_
 refine W.pure rfl (S.or rfl rfl (N.or_u32 (by omega) (by omega))) rfl ?_
 refine W.reslot (v := .int .u32 ((b + 2 ^ nb * dt[q].toNat : Nat) : Int)) (congrArg (fun y : Nat => Value.int .u32 (y : Int)) (by rw [hrb]; exact or_byte hb1 hc8 hn)) ?_
 refine W.pure rfl (S.nilPtr rfl) rfl ?_
 refine W.pure rfl (S.field rfl fa153_3) rfl ?_
 refine W.nil ?_
 refine D.one ?_
 refine O.loud0 rfl (X.store 3 (k := 3) rfl rfl rfl rfl rfl Tryd.sizeOf52) ?_; rintro _ _ ⟨rfl,rfl⟩; refine D.relist (L2 := [_,_,_,_]) rfl ?_
 refine D.kp [(0,_),(2,_),(3,_),(4,_),(14,_)] rfl ?_
 refine C.sr ?_
 refine E.pure (S.move rfl) rfl ?_
 refine E.pure (S.nilPtr rfl) rfl ?_
 refine E.pure (S.field rfl fa153_4) rfl ?_
 refine E.still (S.load 3 (k := 4) rfl rfl rfl Tryd.isAgg92) rfl ?_
 refine E.pure (S.add (b := ((8 : Nat) : Int)) rfl rfl (N.add_u64 (by omega))) rfl ?_
 refine E.pure (S.nilPtr rfl) rfl ?_
 refine E.pure (S.field rfl fa153_4) rfl ?_
 refine E.loud0 (X.store 3 (k := 4) rfl rfl rfl rfl rfl Tryd.sizeOf92) ?_; rintro _ _ ⟨rfl,rfl⟩; refine E.relist (L2 := [_,_,_,_]) rfl ?_
 refine E.kp [(0,_),(2,_),(3,_),(4,_),(14,_)] rfl ?_
 refine C.sr ?_
 refine E.pure (S.assign (v := Er.val ea .none) rfl) rfl ?_
 refine E.kp [(0,_),(2,_),(3,_),(4,_),(14,_)] rfl ?_
 refine C.ret ?_
 exact ⟨_,rfl,f1,f2,f3,.inl ⟨hq,_,rfl,hF,hm,rfl⟩⟩
end Go.Eng
namespace Go.Eng
set_option maxRecDepth 100000

theorem mat_mod {lens : List Nat} {s b S nb : Nat} (hb : b = S % 2 ^ nb) (hl : lenOf lens s ≤ nb) : Mat lens s b ↔ Mat lens s S := by
  unfold Mat
  rw [revB_agree (n := nb) (S := b) (T := S) (by rw [hb,Nat.mod_mod]) hl]

theorem no_mat {lens : List Nat} {b S nb : Nat} (ok : okLens lens) (hb : b = S % 2 ^ nb) (hmn : minL lens ≤ nb) (hno : ∀ s,¬ Mat lens s b) : ∀ s,¬ Mat lens s S := by
  intro s hs
  rcases ok with h | h | ⟨h,h2⟩
  · have := max_zero h s
    have := hs.1
    omega
  · obtain ⟨i,hi,_⟩ := mat_some h b
    exact hno i hi
  · have h1 : lenOf lens s ≤ 1 := by rw [← h]; exact lenOf_le_max lens s
    have h0 := hs.1
    have hp := min_pos (l := lens) (by omega)
    exact hno s ((mat_mod hb (by omega)).2 hs)

/-- How long a code may be that is still to be found. -/
def AtLeast (lens : List Nat) (S mn n : Nat) : Prop := n = mn ∨ ∀ s,Mat lens s S → n ≤ lenOf lens s

section
variable {lens : List Nat} {f : Nat → Nat} {g : Nat → Nat → Nat} {nt nk mn p q b nb n : Nat} {dt : List UInt8}

theorem bitsIn_val (hB : BitsIn dt p q b nb) : b = bitsAt dt p % 2 ^ nb := hB.val

/-- The bits end before the symbol does. -/
theorem sym_end (hB : BitsIn dt p q b nb) (hq : q = dt.length) (hn : nb < n) (hN : AtLeast lens (bitsAt dt p) mn n) : symR lens mn dt p = none := by
  have hl := hB.left_eq
  rw [hq,Nat.sub_self,Nat.mul_zero,Nat.add_zero] at hl
  unfold symR
  split
  · rfl
  · rename_i h
    rcases hN with rfl | hN
    · omega
    · exact findS_none fun i hi => by have := hN i hi; omega

theorem look_some (hT : TabOK lens f g nt nk) (h0 : lookT f g nk b % 16 ≠ 0) (h15 : ∀ s,lenOf lens s ≤ 15) : ∃ s,Mat lens s b ∧ lookT f g nk b = s * 16 + lenOf lens s ∧ lookT f g nk b % 16 = lenOf lens s ∧ lookT f g nk b / 16 = s := by
  by_cases h : ∃ s,Mat lens s b
  · obtain ⟨s,hs⟩ := h
    have e := hT.yes s b hs
    have := h15 s
    exact ⟨s,hs,e,by omega,by omega⟩
  · exact absurd (hT.no b fun s hs => h ⟨s,hs⟩) h0

/-- More bits are wanted. -/
theorem sym_more (hT : TabOK lens f g nt nk) (h15 : ∀ s,lenOf lens s ≤ 15) (hB : BitsIn dt p q b nb) (h : nb < lookT f g nk b % 16) : AtLeast lens (bitsAt dt p) mn (lookT f g nk b % 16) := by
  obtain ⟨s,hs,_,e,_⟩ := look_some hT (b := b) (by omega) h15
  refine .inr fun t ht => ?_
  rw [e]
  exact mat_zero hB.lt hs ht (bitsIn_val hB).symm

/-- No symbol. -/
theorem sym_none (hT : TabOK lens f g nt nk) (h15 : ∀ s,lenOf lens s ≤ 15) (ok : okLens lens) (hB : BitsIn dt p q b nb) (hmn : minL lens ≤ nb) (h : lookT f g nk b % 16 = 0) : symR lens mn dt p = none := by
  have := no_mat ok (bitsIn_val hB) hmn fun s hs => by
    have e := hT.yes s b hs
    have := h15 s
    have := hs.1
    omega
  unfold symR
  split
  · rfl
  · exact findS_none fun i hi => absurd hi (this i)

/-- The symbol. -/
theorem sym_found (hT : TabOK lens f g nt nk) (h15 : ∀ s,lenOf lens s ≤ 15) (hB : BitsIn dt p q b nb) (hmn : mn ≤ nb) (h0 : lookT f g nk b % 16 ≠ 0) (h : lookT f g nk b % 16 ≤ nb) :
    ∃ v,symR lens mn dt p = some v ∧ lookT f g nk b / 16 = v ∧ lookT f g nk b % 16 = lenOf lens v ∧ Mat lens v (bitsAt dt p) ∧ v < lens.length := by
  obtain ⟨s,hs,_,e1,e2⟩ := look_some hT h0 h15
  have hm := (mat_mod (bitsIn_val hB) (by omega : lenOf lens s ≤ nb)).1 hs
  have hl := hB.left_eq
  refine ⟨s,?_,e2,e1,hm,lenOf_lt hm.1⟩
  unfold symR
  rw [if_neg (by omega)]
  exact findS_some.2 ⟨hm,by omega⟩

theorem sym_bound {m v : Nat} (hm : AtLeast lens (bitsAt dt p) mn m) (hv : Mat lens v (bitsAt dt p)) : m ≤ max mn (lenOf lens v) := by
  rcases hm with rfl | hm
  · omega
  · have := hm v hv
    omega
end
end Go.Eng
namespace Go.Eng
open Go Go.Proofs
set_option maxRecDepth 100000

set_option maxHeartbeats 1000000
/-- How huffSym ends: the symbol and the bits behind it; or there is none. -/
def SymEnd {K : Known} {ea : Fin 5 → Addr} (src : Src K ea) (fb : Nat) (rbv s0 s1 s2 s4 s5 s6 s7 s8 : Value) (dt : List UInt8) (p q nb : Nat) (lens : List Nat) (mn : Nat) (ev : Value) (r : Value) (x1 x2 x3 A B : Frag) : Prop :=
  (∃ v,symR lens mn dt p = some v ∧ v < lens.length ∧ lenOf lens v ≤ 15 ∧ r = .tuple #[.int .i64 ((v : Nat) : Int),Er.val ea .none] ∧ ∃ q2 b2 nb2 ro2,src.At (dt.drop q2) x1 x2 x3 ∧ BitsIn dt (p + lenOf lens v) q2 b2 nb2 ∧ nb2 ≤ 31 ∧ ((q2 = q ∧ nb2 + lenOf lens v = nb) ∨ nb2 + lenOf lens v < max mn (lenOf lens v) + 8) ∧
      A = ⟨fb,0,[.iface src.t src.v,rbv,.int .i64 ro2,.int .u32 ((b2 : Nat) : Int),.int .u64 ((nb2 : Nat) : Int)]⟩ ∧ B = ⟨fb,1045,[s0,s1,s2,ev,s4,s5,s6,s7,s8]⟩) ∨
  (symR lens mn dt p = none ∧ (∃ e v,Bad5 e ∧ r = .tuple #[.int .i64 v,Er.val ea e]) ∧ ∃ l a b c ev2,src.At l x1 x2 x3 ∧ A = ⟨fb,0,[.iface src.t src.v,rbv,a,b,c]⟩ ∧ B = ⟨fb,1045,[s0,s1,s2,ev2,s4,s5,s6,s7,s8]⟩)
def TailOf (nt nk : Nat) (g : Nat → Nat → Nat) (lv : Value) (T : Frags) : Prop := (nt = 0 ∧ T = [] ∧ lv = .slice none 0 0) ∨ ∃ kb lb,lv = .slice (some ⟨kb,0,none⟩) nt nt ∧ T = ⟨kb,0,lkCells nt lb nk⟩::LkF nt lb g nk
/-- Bits were read only for a code that long. -/
def ReadH (lens : List Nat) (S mn q nb q0 nb0 : Nat) : Prop := (q = q0 ∧ nb = nb0) ∨ ∃ m,nb < m + 8 ∧ AtLeast lens S mn m
theorem and_mask {e nk x : Nat} (h : nk = 2 ^ e) : x &&& (nk - 1) = x % nk := by rw [h]; exact Nat.and_two_pow_sub_one_eq_mod x e

theorem huffSym_walk {K : Known} {ea : Fin 5 → Addr} (hs : Sents K ea) (src : Src K ea) (x1 x2 x3 : Frag) (fb : Nat) (rbv : Value) (ro : Int) (s0 s1 s2 ev s4 s5 s6 s7 s8 : Value) (hb o : Nat) (dt : List UInt8) (p q0 b0 nb0 : Nat) (hA : src.At (dt.drop q0) x1 x2 x3) (hB : BitsIn dt p q0 b0 nb0) (hn : nb0 ≤ 31) (lens : List Nat) (mn : Nat) (hok : okLens lens) (h15 : ∀ s,lenOf lens s ≤ 15) (hmn : minL lens ≤ mn) (hm15 : mn ≤ 15) (f : Nat → Nat) (g : Nat → Nat → Nat) (nt nk : Nat) (lv : Value) (T : Frags) (hTab : TabOK lens f g nt nk) (hfb : ∀ x,x < 512 → f x < 65536) (hgb : ∀ a q,g a q < 65536) (hnk0 : 0 < nk) (hk64 : nk ≤ 64) (ke : Nat) (hke : nk = 2 ^ ke) (hT : TailOf nt nk g lv T) : Fn Tryd.prog K 81 #[.pointer (some ⟨fb,0,none⟩),.pointer (some ⟨hb,o,none⟩)] ([x1,x2,x3,⟨fb,0,[.iface src.t src.v,rbv,.int .i64 (ro),.int .u32 (((b0) : Nat) : Int),.int .u64 (((nb0) : Nat) : Int)]⟩,⟨fb,1045,[s0,s1,s2,ev,s4,s5,s6,s7,s8]⟩,⟨hb,o,[.int .i64 ((mn : Nat) : Int)]⟩,⟨hb,o + 1,cellsU 512 f⟩,⟨hb,o + 513,[lv,.int .u32 ((nk - 1 : Nat) : Int)]⟩] ++ T) (fun r L => ∃ y1 y2 y3 A B,SymEnd src fb rbv s0 s1 s2 s4 s5 s6 s7 s8 dt p q0 nb0 lens mn ev r y1 y2 y3 A B ∧ L = y1::y2::y3::A::B::⟨hb,o,[.int .i64 ((mn : Nat) : Int)]⟩::⟨hb,o + 1,cellsU 512 f⟩::⟨hb,o + 513,[lv,.int .u32 ((nk - 1 : Nat) : Int)]⟩::T) := by
 refine Fn.intro (args := [.pointer (some ⟨fb,0,none⟩),.pointer (some ⟨hb,o,none⟩)]) (RR := Ret2 4 5 _) Tryd.func81 rfl rfl Tryd.ntmps81 (res2 Tryd.results81) ?_
 refine C.reenv (env2 := [(0,.pointer (some ⟨fb,0,none⟩)),(1,.pointer (some ⟨hb,o,none⟩))]) rfl ?_
 refine C.sr ?_
 refine E.pure (S.assign rfl) rfl ?_
 refine E.pure (S.assign (v := Er.val ea .none) rfl) rfl ?_
 refine E.kp [(0,_),(1,_),(4,_),(5,_)] rfl ?_
 refine C.sr ?_
 refine E.pure (S.move rfl) rfl ?_
 refine E.pure (S.nilPtr rfl) rfl ?_
 refine E.pure (S.field rfl fa144_0) rfl ?_
 refine E.still (S.load 5 (k := 0) rfl rfl rfl Tryd.isAgg3) rfl ?_
 refine E.pure (S.conv rfl Tryd.underlying3 Tryd.underlying92 (N.in_u64 (by omega))) rfl ?_
 refine E.pure (S.assign rfl) rfl ?_
 refine E.kp [(0,_),(1,_),(4,_),(5,_),(6,_)] rfl ?_
 refine C.seq ?_
 refine C.draw [0,1,2,4,0,16,32,64,15,511] (.pure 0 240 (.pure 1 241 (.pure 2 243 (.pure 4 271 (.pure 5 287 (.pure 6 319 (.seg [(3,247),(7,383),(8,255),(9,511)] .done))))))) mixed (by decide +kernel) ?_
 refine D.pure rfl (S.move rfl) rfl ?_
 refine D.pure rfl (S.nilPtr rfl) rfl ?_
 refine D.pure rfl (S.field rfl fa153_4) rfl ?_
 refine D.pure rfl (S.move rfl) rfl ?_
 refine D.pure rfl (S.nilPtr rfl) rfl ?_
 refine D.pure rfl (S.field rfl fa153_3) rfl ?_
 refine D.seg (by decide) ?_
 refine W.still rfl (S.load 3 (k := 4) rfl rfl rfl Tryd.isAgg92) rfl ?_
 refine W.still rfl (S.load 3 (k := 3) rfl rfl rfl Tryd.isAgg52) rfl ?_
 refine W.pure rfl (S.assign rfl) rfl ?_
 refine W.pure rfl (S.assign rfl) rfl ?_
 refine W.nil ?_
 refine D.kp [(0,_),(1,_),(4,_),(5,_),(6,_),(7,_),(8,_)] rfl ?_
 refine C.block ?_
 refine C.loop (fun mm ee ll => ∃ (q : Nat),∃ (b : Nat),∃ (nb : Nat),∃ (n : Nat),∃ (ro : Int),∃ (f1 : Frag),∃ (f2 : Frag),∃ (f3 : Frag),keeps ee [0,1,6,7,8] = some [(0,.pointer (some ⟨fb,0,none⟩)),(1,.pointer (some ⟨hb,o,none⟩)),(6,.int .u64 ((n : Nat) : Int)),(7,.int .u64 ((nb : Nat) : Int)),(8,.int .u32 ((b : Nat) : Int))] ∧ ll = [f1,f2,f3,⟨fb,0,[.iface src.t src.v,rbv,.int .i64 (ro),.int .u32 (((b0) : Nat) : Int),.int .u64 (((nb0) : Nat) : Int)]⟩,⟨fb,1045,[s0,s1,s2,ev,s4,s5,s6,s7,s8]⟩,⟨hb,o,[.int .i64 ((mn : Nat) : Int)]⟩,⟨hb,o + 1,cellsU 512 f⟩,⟨hb,o + 513,[lv,.int .u32 ((nk - 1 : Nat) : Int)]⟩] ++ T ∧ (src.At (dt.drop q) f1 f2 f3) ∧ (BitsIn dt p q b nb) ∧ (nb ≤ 31) ∧ (n ≤ 15) ∧ (AtLeast lens (bitsAt dt p) mn n) ∧ (n = mn ∨ mn ≤ nb) ∧ (ReadH lens (bitsAt dt p) mn q nb q0 nb0) ∧ mm = 16 - n) (_) ⟨q0,b0,nb0,mn,ro,x1,x2,x3,rfl,rfl,hA,hB,hn,hm15,.inl rfl,.inl rfl,.inl ⟨rfl,rfl⟩,rfl⟩ ?_
 rintro m0 _ _ ⟨q,b,nb,n,ro,f1,f2,f3,hk0,rfl,hA,hB,hn,hn15,hN,hM,hH,hm0⟩
 refine C.weaken _ hk0 ?_
 refine C.block ?_
 refine C.seq ?_
 refine C.block ?_
 refine C.loop (fun mm ee ll => ∃ (q : Nat),∃ (b : Nat),∃ (nb : Nat),∃ (ro : Int),∃ (f1 : Frag),∃ (f2 : Frag),∃ (f3 : Frag),keeps ee [0,1,6,7,8] = some [(0,.pointer (some ⟨fb,0,none⟩)),(1,.pointer (some ⟨hb,o,none⟩)),(6,.int .u64 ((n : Nat) : Int)),(7,.int .u64 ((nb : Nat) : Int)),(8,.int .u32 ((b : Nat) : Int))] ∧ ll = [f1,f2,f3,⟨fb,0,[.iface src.t src.v,rbv,.int .i64 (ro),.int .u32 (((b0) : Nat) : Int),.int .u64 (((nb0) : Nat) : Int)]⟩,⟨fb,1045,[s0,s1,s2,ev,s4,s5,s6,s7,s8]⟩,⟨hb,o,[.int .i64 ((mn : Nat) : Int)]⟩,⟨hb,o + 1,cellsU 512 f⟩,⟨hb,o + 513,[lv,.int .u32 ((nk - 1 : Nat) : Int)]⟩] ++ T ∧ (src.At (dt.drop q) f1 f2 f3) ∧ (BitsIn dt p q b nb) ∧ (nb ≤ 31) ∧ (n = mn ∨ mn ≤ nb) ∧ (ReadH lens (bitsAt dt p) mn q nb q0 nb0) ∧ mm = n - nb) (_) ⟨q,b,nb,ro,f1,f2,f3,rfl,rfl,hA,hB,hn,hM,hH,rfl⟩ ?_
 rintro m1 _ _ ⟨q,b,nb,ro,f1,f2,f3,hk1,rfl,hA,hB,hn,hM,hH,hm1⟩
 refine C.weaken _ hk1 ?_
 refine C.seq ?_
 refine C.sr ?_
 refine E.pure (S.move rfl) rfl ?_
 refine E.pure (S.move rfl) rfl ?_
 refine E.pure (S.lt rfl rfl) rfl ?_
 refine E.kp [(0,_),(1,_),(6,_),(7,_),(8,_),(27,_)] rfl ?_
 refine C.ifp rfl (fun h27 => ?_) (fun h27 => ?_)
 ·
  have hb1 := hB.lt
  have hb2 := hB.lt32 (by omega)
  refine C.skip ?_
  refine C.block ?_
  refine C.sr ?_
  refine E.pure (S.move rfl) rfl ?_
  refine E.pure (S.nilPtr rfl) rfl ?_
  refine E.pure (S.field rfl fa153_0) rfl ?_
  refine E.still (S.load 3 (k := 0) rfl rfl rfl Tryd.isAgg71) rfl ?_
  refine E.loud1 (OpX.pick [0,0,0] (F := (_::_::_::_::_::_)) rfl (X.invoke rfl rfl src.mByte src.cByte (src.byte _ _ _ _ hA))) rfl ?_; rintro _ _ ⟨_,⟨g1,g2,g3,hF,rfl,rfl⟩,rfl⟩; refine E.relist (L2 := (_::_::_::_::_::_::_::_::_)) rfl ?_
  refine E.pure (S.move rfl) rfl ?_
  refine E.pure (S.extract rfl rfl) rfl ?_
  refine E.pure (S.extract rfl rfl) rfl ?_
  refine E.pure (S.assign rfl) rfl ?_
  refine E.pure (S.assign rfl) rfl ?_
  refine E.kp [(0,_),(1,_),(6,_),(7,_),(8,_),(9,_),(10,_),(27,_)] rfl ?_
  refine C.seq ?_
  refine C.sr ?_
  refine E.pure (S.move rfl) rfl ?_
  refine E.still (S.neErNil rfl) rfl ?_
  refine E.kp [(0,_),(1,_),(6,_),(7,_),(8,_),(9,_),(10,_),(27,_),(37,_)] rfl ?_
  first | refine C.ifp rfl (fun h37 => ?_) (fun h37 => ?_) | refine C.ifNone rfl (fun h37 => ?_) (fun h37 => ?_) | refine C.ifSome rfl (fun h37 => ?_) (fun h37 => ?_) | refine C.ifSe rfl (fun h37 => ?_) (fun h37 => ?_) | refine C.ifNotSe rfl (fun h37 => ?_) (fun h37 => ?_) | refine C.cond rfl (fun h37 => ?_) (fun h37 => ?_)
  ·
   have hq2 := ((drop_cases dt hB.le).resolve_left fun h => h37 h.1).2
   refine C.sr ?_
   refine E.pure (S.move rfl) rfl ?_
   refine E.pure (S.move rfl) rfl ?_
   refine E.pure (S.nilPtr rfl) rfl ?_
   refine E.pure (S.field rfl fa153_3) rfl ?_
   refine E.loud0 (X.store 3 (k := 3) rfl rfl rfl rfl rfl Tryd.sizeOf52) ?_; rintro _ _ ⟨rfl,rfl⟩; refine E.relist (L2 := (_::_::_::_::_::_::_::_::_)) rfl ?_
   refine E.kp [(0,_),(1,_),(6,_),(7,_),(8,_),(9,_),(10,_),(27,_),(37,_)] rfl ?_
   refine C.sr ?_
   refine E.pure (S.move rfl) rfl ?_
   refine E.pure (S.move rfl) rfl ?_
   refine E.pure (S.nilPtr rfl) rfl ?_
   refine E.pure (S.field rfl fa153_4) rfl ?_
   refine E.loud0 (X.store 3 (k := 4) rfl rfl rfl rfl rfl Tryd.sizeOf92) ?_; rintro _ _ ⟨rfl,rfl⟩; refine E.relist (L2 := (_::_::_::_::_::_::_::_::_)) rfl ?_
   refine E.kp [(0,_),(1,_),(6,_),(7,_),(8,_),(9,_),(10,_),(27,_),(37,_)] rfl ?_
   refine C.sr ?_
   refine E.pure (S.move rfl) rfl ?_
   refine E.loud1 (OpX.pick [] (F := (_::_::_::_::_::_::_::_::_)) rfl (X.call rfl Tryd.call76 (flate_noEOF (L := []) hs _))) rfl ?_; rintro _ _ ⟨_,⟨rfl,rfl⟩,rfl⟩; refine E.relist (L2 := (_::_::_::_::_::_::_::_::_)) rfl ?_
   refine E.pure (S.assign rfl) rfl ?_
   refine E.pure (S.assign rfl) rfl ?_
   refine E.kp [(0,_),(1,_),(4,_),(5,_),(6,_),(7,_),(8,_),(9,_),(10,_),(27,_),(37,_)] rfl ?_
   refine C.ret ?_
   exact ⟨_,_,rfl,rfl,_,_,_,_,_,.inr ⟨sym_end hB hq2 (by omega) hN,⟨_,0,bad_eof h37,rfl⟩,_,_,_,_,ev,hF,rfl,rfl⟩,rfl⟩
  obtain ⟨hq,hrb,hdd⟩ := ((drop_cases dt hB.le).resolve_right fun h => h.1 h37).2
  rw [hdd] at hF
  have hc8 := dt[q].toNat_lt
  have hm := hB.more hq
  refine C.skip ?_
  refine C.sr ?_
  refine E.pure (S.move rfl) rfl ?_
  refine E.pure (S.nilPtr rfl) rfl ?_
  refine E.pure (S.field rfl fa153_2) rfl ?_
  refine E.still (S.load 3 (k := 2) rfl rfl rfl Tryd.isAgg2) rfl ?_
  refine E.pure (S.add (b := ((1 : Nat) : Int)) rfl rfl rfl) rfl ?_
  refine E.pure (S.nilPtr rfl) rfl ?_
  refine E.pure (S.field rfl fa153_2) rfl ?_
  refine E.loud0 (X.store 3 (k := 2) rfl rfl rfl rfl rfl Tryd.sizeOf2) ?_; rintro _ _ ⟨rfl,rfl⟩; refine E.relist (L2 := (_::_::_::_::_::_::_::_::_)) rfl ?_
  refine E.kp [(0,_),(1,_),(6,_),(7,_),(8,_),(9,_),(10,_),(27,_),(37,_)] rfl ?_
  refine C.sr ?_
  refine E.pure (S.move rfl) rfl ?_
  refine E.pure (S.move rfl) rfl ?_
  refine E.pure (S.conv rfl Tryd.underlying5 Tryd.underlying52 (N.in_u32 (by omega))) rfl ?_
  refine E.pure (S.move rfl) rfl ?_
  refine E.pure (S.and (b := ((31 : Nat) : Int)) rfl rfl (N.and_u64 (by omega) (by omega))) rfl ?_
  refine E.reslot (v := .int .u64 ((nb : Nat) : Int)) (congrArg (fun y : Nat => Value.int .u64 (y : Int)) (by exact and31 (by omega))) ?_
  refine E.pure (S.shl rfl rfl (by omega) (N.shl_u32 _ _)) rfl ?_
  refine E.pure (S.or rfl rfl (N.or_u32 (by omega) (by omega))) rfl ?_
  refine E.reslot (v := .int .u32 ((b + 2 ^ nb * dt[q].toNat : Nat) : Int)) (congrArg (fun y : Nat => Value.int .u32 (y : Int)) (by rw [hrb]; exact or_byte hb1 hc8 (by omega))) ?_
  refine E.pure (S.assign rfl) rfl ?_
  refine E.kp [(0,_),(1,_),(6,_),(7,_),(8,_),(9,_),(10,_),(27,_),(37,_)] rfl ?_
  refine C.region ?_
  refine E.pure (S.move rfl) rfl ?_
  refine E.pure (S.add (b := ((8 : Nat) : Int)) rfl rfl (N.add_u64 (by omega))) rfl ?_
  refine E.pure (S.assign rfl) rfl ?_
  refine E.kp [(0,_),(1,_),(6,_),(7,_),(8,_),(9,_),(10,_),(27,_),(37,_)] rfl ?_
  refine ⟨_,?_,_,_,_,_,_,_,_,rfl,rfl,hF,hm,by omega,hM.imp id fun h => by omega,.inr ⟨n,by omega,hN⟩,rfl⟩; omega
 have hb2 := hB.lt32 (by omega)
 have hf1 := hfb (b % 512) (Nat.mod_lt _ (by decide))
 have hle : n ≤ nb := by omega
 have hmq : mn ≤ nb := by omega
 refine C.exit rfl ?_
 refine C.sr ?_
 refine E.pure (S.move rfl) rfl ?_
 refine E.pure (S.move rfl) rfl ?_
 refine E.pure (S.and (b := ((511 : Nat) : Int)) rfl rfl (N.and_u32 (by omega) (by omega))) rfl ?_
 refine E.reslot (v := .int .u32 ((b % 512 : Nat) : Int)) (congrArg (fun y : Nat => Value.int .u32 (y : Int)) (by exact and511 b)) ?_
 refine E.pure (S.nilPtr rfl) rfl ?_
 refine E.pure (S.field rfl fa144_1) rfl ?_
 refine E.pure (S.ixArr rfl rfl (by omega) Tryd.underlying141 Tryd.sizeOf52) rfl ?_
 refine E.still (S.load 6 (k := (b % 512) * 1) rfl rfl (cellsU_get (by omega)) Tryd.isAgg52) rfl ?_
 refine E.pure (S.assign rfl) rfl ?_
 refine E.kp [(0,_),(1,_),(6,_),(7,_),(8,_),(11,_),(27,_)] rfl ?_
 refine C.sr ?_
 refine E.pure (S.move rfl) rfl ?_
 refine E.pure (S.and (b := ((15 : Nat) : Int)) rfl rfl (N.and_u32 (by omega) (by omega))) rfl ?_
 refine E.reslot (v := .int .u32 ((f (b % 512) % 16 : Nat) : Int)) (congrArg (fun y : Nat => Value.int .u32 (y : Int)) (by exact and15 _)) ?_
 refine E.pure (S.conv rfl Tryd.underlying52 Tryd.underlying92 (N.in_u64 (by omega))) rfl ?_
 refine E.pure (S.assign rfl) rfl ?_
 refine E.kp [(0,_),(1,_),(6,_),(7,_),(8,_),(11,_),(27,_)] rfl ?_
 refine C.cut (M := fun ee ll => keeps ee [0,1,7,8,11,6] = some [(0,.pointer (some ⟨fb,0,none⟩)),(1,.pointer (some ⟨hb,o,none⟩)),(7,.int .u64 ((nb : Nat) : Int)),(8,.int .u32 ((b : Nat) : Int)),(11,.int .u32 ((lookT f g nk b : Nat) : Int)),(6,.int .u64 ((lookT f g nk b % 16 : Nat) : Int))] ∧ ll = [f1,f2,f3,⟨fb,0,[.iface src.t src.v,rbv,.int .i64 (ro),.int .u32 (((b0) : Nat) : Int),.int .u64 (((nb0) : Nat) : Int)]⟩,⟨fb,1045,[s0,s1,s2,ev,s4,s5,s6,s7,s8]⟩,⟨hb,o,[.int .i64 ((mn : Nat) : Int)]⟩,⟨hb,o + 1,cellsU 512 f⟩,⟨hb,o + 513,[lv,.int .u32 ((nk - 1 : Nat) : Int)]⟩] ++ T ∧ (lookT f g nk b < 65536)) ?_ ?_
 ·
  refine C.sr ?_
  refine E.pure (S.move rfl) rfl ?_
  refine E.pure (S.gt (b := ((9 : Nat) : Int)) rfl rfl) rfl ?_
  refine E.kp [(0,_),(1,_),(6,_),(7,_),(8,_),(11,_),(27,_),(75,_)] rfl ?_
  refine C.ifp rfl (fun h75 => ?_) (fun h75 => ?_)
  ·
   have ha : f (b % 512) / 16 < nt := hTab.lt _ (Nat.mod_lt _ (by decide)) (by omega)
   have hmn2 : b / 512 % nk < nk := Nat.mod_lt _ hnk0
   have hlk : lookT f g nk b = g (f (b % 512) / 16) (b / 512 % nk) := if_pos (by omega)
   have hlb : lookT f g nk b < 65536 := by rw [hlk]; exact hgb _ _
   rcases hT with hT | ⟨kb,lb,hT1,hT2⟩
   · omega
   subst hT1 hT2
   refine C.seq ?_
   refine C.draw [0,1,2,4,0,16,40,64,0,256,0,1024,2048,4096,8704,16512,32768,131071] (.pure 0 32560 (.pure 1 32561 (.pure 2 32563 (.pure 4 32527 (.pure 5 32543 (.pure 8 15615 (.pure 9 15871 (.pure 10 1023 (.pure 11 2047 (.pure 12 4095 (.seg [(3,32567),(6,32575),(7,32639),(13,8191),(14,16383),(15,32767),(16,65535),(17,131071)] .done))))))))))) mixed (by decide +kernel) ?_
   refine D.pure rfl (S.move rfl) rfl ?_
   refine D.pure rfl (S.nilPtr rfl) rfl ?_
   refine D.pure rfl (S.field rfl fa144_2) rfl ?_
   refine D.pure rfl (S.move rfl) rfl ?_
   refine D.pure rfl (S.shr (b := ((4 : Nat) : Int)) rfl rfl (by omega) (N.shr_u32 (by omega) _)) rfl ?_
   refine D.reslot (v := .int .u32 ((f (b % 512) / 16 : Nat) : Int)) (congrArg (fun y : Nat => Value.int .u32 (y : Int)) (by rw [Nat.shiftRight_eq_div_pow])) ?_
   refine D.pure rfl (S.move rfl) rfl ?_
   refine D.pure rfl (S.shr (b := ((9 : Nat) : Int)) rfl rfl (by omega) (N.shr_u32 (by omega) _)) rfl ?_
   refine D.reslot (v := .int .u32 ((b / 512 : Nat) : Int)) (congrArg (fun y : Nat => Value.int .u32 (y : Int)) (by rw [Nat.shiftRight_eq_div_pow])) ?_
   refine D.pure rfl (S.move rfl) rfl ?_
   refine D.pure rfl (S.nilPtr rfl) rfl ?_
   refine D.pure rfl (S.field rfl fa144_3) rfl ?_
   refine D.seg (by decide) ?_
   refine W.still rfl (S.load 7 (k := 0) rfl rfl rfl Tryd.isAgg142) rfl ?_
   refine W.pure rfl (S.ixSl rfl rfl (by omega) Tryd.underlying142 Tryd.sizeOf178) rfl ?_
   refine W.still rfl (S.load 8 (k := (f (b % 512) / 16) * 1) rfl rfl (lk_get ha) Tryd.isAgg178) rfl ?_
   refine W.still rfl (S.load 7 (k := 1) rfl rfl rfl Tryd.isAgg52) rfl ?_
   refine W.pure rfl (S.and rfl rfl (N.and_u32 (by omega) (by omega))) rfl ?_
   refine W.reslot (v := .int .u32 ((b / 512 % nk : Nat) : Int)) (congrArg (fun y : Nat => Value.int .u32 (y : Int)) (by exact and_mask hke)) ?_
   refine W.pure rfl (S.ixSl rfl rfl (by omega) Tryd.underlying178 Tryd.sizeOf52) rfl ?_
   refine W.still rfl (S.load (f (b % 512) / 16 + 9) (k := (b / 512 % nk) * 1) (LkF_get ha) rfl (cellsU_get hmn2) Tryd.isAgg52) rfl ?_
   refine W.reslot (v := .int .u32 ((lookT f g nk b : Nat) : Int)) (congrArg (fun y : Nat => Value.int .u32 (y : Int)) (by exact hlk.symm)) ?_
   refine W.pure rfl (S.assign rfl) rfl ?_
   refine W.nil ?_
   refine D.kp [(0,_),(1,_),(6,_),(7,_),(8,_),(11,_),(27,_),(75,_)] rfl ?_
   refine C.region ?_
   refine E.pure (S.move rfl) rfl ?_
   refine E.pure (S.and (b := ((15 : Nat) : Int)) rfl rfl (N.and_u32 (by omega) (by omega))) rfl ?_
   refine E.reslot (v := .int .u32 ((lookT f g nk b % 16 : Nat) : Int)) (congrArg (fun y : Nat => Value.int .u32 (y : Int)) (by exact and15 _)) ?_
   refine E.pure (S.conv rfl Tryd.underlying52 Tryd.underlying92 (N.in_u64 (by omega))) rfl ?_
   refine E.pure (S.assign rfl) rfl ?_
   refine E.kp [(0,_),(1,_),(6,_),(7,_),(8,_),(11,_),(27,_),(75,_)] rfl ?_
   exact ⟨rfl,rfl,hlb⟩
  have hlk : lookT f g nk b = f (b % 512) := if_neg (by omega)
  have hlb : lookT f g nk b < 65536 := by rw [hlk]; exact hf1
  rw [← hlk]
  refine C.skip ?_
  exact ⟨rfl,rfl,hlb⟩
 rintro _ _ ⟨hq17,rfl,hlb⟩
 refine C.weaken _ hq17 ?_
 refine C.sr ?_
 refine E.pure (S.move rfl) rfl ?_
 refine E.pure (S.move rfl) rfl ?_
 refine E.pure (S.le rfl rfl) rfl ?_
 refine E.kp [(0,_),(1,_),(6,_),(7,_),(8,_),(11,_),(98,_)] rfl ?_
 refine C.ifp rfl (fun h98 => ?_) (fun h98 => ?_)
 ·
  refine C.seq ?_
  refine C.sr ?_
  refine E.pure (S.move rfl) rfl ?_
  refine E.pure (S.eq (b := ((0 : Nat) : Int)) rfl rfl) rfl ?_
  refine E.kp [(0,_),(1,_),(6,_),(7,_),(8,_),(11,_),(98,_),(100,_)] rfl ?_
  refine C.ifp rfl (fun h100 => ?_) (fun h100 => ?_)
  ·
   refine C.sr ?_
   refine E.pure (S.move rfl) rfl ?_
   refine E.pure (S.move rfl) rfl ?_
   refine E.pure (S.nilPtr rfl) rfl ?_
   refine E.pure (S.field rfl fa153_3) rfl ?_
   refine E.loud0 (X.store 3 (k := 3) rfl rfl rfl rfl rfl Tryd.sizeOf52) ?_; rintro _ _ ⟨rfl,rfl⟩; refine E.relist (L2 := (_::_::_::_::_::_::_::_::_)) rfl ?_
   refine E.kp [(0,_),(1,_),(6,_),(7,_),(8,_),(11,_),(98,_),(100,_)] rfl ?_
   refine C.sr ?_
   refine E.pure (S.move rfl) rfl ?_
   refine E.pure (S.move rfl) rfl ?_
   refine E.pure (S.nilPtr rfl) rfl ?_
   refine E.pure (S.field rfl fa153_4) rfl ?_
   refine E.loud0 (X.store 3 (k := 4) rfl rfl rfl rfl rfl Tryd.sizeOf92) ?_; rintro _ _ ⟨rfl,rfl⟩; refine E.relist (L2 := (_::_::_::_::_::_::_::_::_)) rfl ?_
   refine E.kp [(0,_),(1,_),(6,_),(7,_),(8,_),(11,_),(98,_),(100,_)] rfl ?_
   refine C.sr ?_
   refine E.pure (S.move rfl) rfl ?_
   refine E.pure (S.move rfl) rfl ?_
   refine E.pure (S.nilPtr rfl) rfl ?_
   refine E.pure (S.field rfl fa153_2) rfl ?_
   refine E.still (S.load 3 (k := 2) rfl rfl rfl Tryd.isAgg2) rfl ?_
   refine E.pure (S.mkIface rfl conc165) rfl ?_
   refine E.reslot (v := Er.val ea (.corrupt ro)) (rfl) ?_
   refine E.pure (S.nilPtr rfl) rfl ?_
   refine E.pure (S.field rfl fa153_14) rfl ?_
   refine E.loud0 (X.store 4 (k := 3) rfl rfl rfl rfl rfl Tryd.sizeOf59) ?_; rintro _ _ ⟨rfl,rfl⟩; refine E.relist (L2 := (_::_::_::_::_::_::_::_::_)) rfl ?_
   refine E.kp [(0,_),(1,_),(6,_),(7,_),(8,_),(11,_),(98,_),(100,_)] rfl ?_
   refine C.seq ?_
   refine C.draw [0,1,2,4,0,31] (.pure 0 16 (.pure 1 17 (.pure 2 19 (.pure 4 15 (.seg [(3,23),(5,31)] .done))))) mixed (by decide +kernel) ?_
   refine D.pure rfl (S.move rfl) rfl ?_
   refine D.pure rfl (S.nilPtr rfl) rfl ?_
   refine D.pure rfl (S.field rfl fa153_14) rfl ?_
   refine D.pure rfl (S.assign rfl) rfl ?_
   refine D.seg (by decide) ?_
   refine W.still rfl (S.load 4 (k := 3) rfl rfl rfl Tryd.isAgg59) rfl ?_
   refine W.pure rfl (S.assign rfl) rfl ?_
   refine W.nil ?_
   refine D.kp [(0,_),(1,_),(4,_),(5,_),(6,_),(7,_),(8,_),(11,_),(98,_),(100,_)] rfl ?_
   refine C.ret ?_
   exact ⟨_,_,rfl,rfl,_,_,_,_,_,.inr ⟨sym_none hTab h15 hok hB (by omega) (by omega),⟨_,0,bad_corrupt ro,rfl⟩,_,_,_,_,_,hA,rfl,rfl⟩,rfl⟩
  obtain ⟨v,hsy,hv4,hvl,hvm,hvlt⟩ := sym_found hTab h15 hB hmq (by omega) (by omega)
  have hv15 := h15 v
  refine C.skip ?_
  refine C.sr ?_
  refine E.pure (S.move rfl) rfl ?_
  refine E.pure (S.move rfl) rfl ?_
  refine E.pure (S.move rfl) rfl ?_
  refine E.pure (S.and (b := ((31 : Nat) : Int)) rfl rfl (N.and_u64 (by omega) (by omega))) rfl ?_
  refine E.reslot (v := .int .u64 ((lenOf lens v : Nat) : Int)) (congrArg (fun y : Nat => Value.int .u64 (y : Int)) (by rw [hvl]; exact and31 (by omega))) ?_
  refine E.pure (S.shr rfl rfl (by omega) (N.shr_u32 (by omega) _)) rfl ?_
  refine E.reslot (v := .int .u32 ((b / 2 ^ lenOf lens v : Nat) : Int)) (congrArg (fun y : Nat => Value.int .u32 (y : Int)) (by rw [Nat.shiftRight_eq_div_pow])) ?_
  refine E.pure (S.nilPtr rfl) rfl ?_
  refine E.pure (S.field rfl fa153_3) rfl ?_
  refine E.loud0 (X.store 3 (k := 3) rfl rfl rfl rfl rfl Tryd.sizeOf52) ?_; rintro _ _ ⟨rfl,rfl⟩; refine E.relist (L2 := (_::_::_::_::_::_::_::_::_)) rfl ?_
  refine E.kp [(0,_),(1,_),(6,_),(7,_),(8,_),(11,_),(98,_),(100,_)] rfl ?_
  refine C.sr ?_
  refine E.pure (S.move rfl) rfl ?_
  refine E.pure (S.move rfl) rfl ?_
  refine E.pure (S.move rfl) rfl ?_
  refine E.pure (S.sub rfl rfl (N.sub_u64 (by omega) (by omega))) rfl ?_
  refine E.reslot (v := .int .u64 ((nb - lenOf lens v : Nat) : Int)) (congrArg (fun y : Nat => Value.int .u64 (y : Int)) (by rw [hvl])) ?_
  refine E.pure (S.nilPtr rfl) rfl ?_
  refine E.pure (S.field rfl fa153_4) rfl ?_
  refine E.loud0 (X.store 3 (k := 4) rfl rfl rfl rfl rfl Tryd.sizeOf92) ?_; rintro _ _ ⟨rfl,rfl⟩; refine E.relist (L2 := (_::_::_::_::_::_::_::_::_)) rfl ?_
  refine E.kp [(0,_),(1,_),(6,_),(7,_),(8,_),(11,_),(98,_),(100,_)] rfl ?_
  refine C.sr ?_
  refine E.pure (S.move rfl) rfl ?_
  refine E.pure (S.shr (b := ((4 : Nat) : Int)) rfl rfl (by omega) (N.shr_u32 (by omega) _)) rfl ?_
  refine E.pure (S.conv rfl Tryd.underlying52 Tryd.underlying3 (N.i64n (by omega))) rfl ?_
  refine E.reslot (v := .int .i64 ((v : Nat) : Int)) (congrArg (fun y : Nat => Value.int .i64 (y : Int)) (by rw [Nat.shiftRight_eq_div_pow]; exact hv4)) ?_
  refine E.pure (S.assign rfl) rfl ?_
  refine E.pure (S.assign (v := Er.val ea .none) rfl) rfl ?_
  refine E.kp [(0,_),(1,_),(4,_),(5,_),(6,_),(7,_),(8,_),(11,_),(98,_),(100,_)] rfl ?_
  refine C.ret ?_
  have hB2 := (hB.take (n := lenOf lens v) (by omega)).2
  refine ⟨_,_,rfl,rfl,_,_,_,_,_,.inl ⟨v,hsy,hvlt,hv15,rfl,q,_,_,ro,hA,hB2,by omega,?_,rfl,rfl⟩,rfl⟩
  rcases hH with ⟨h1,h2⟩ | ⟨m,h1,h2⟩
  · exact .inl ⟨h1,by omega⟩
  · have := sym_bound h2 hvm
    exact .inr (by omega)
 have hl16 := Nat.mod_lt (lookT f g nk b) (show 0 < 16 by decide)
 refine C.skip ?_
 refine ⟨_,?_,q,b,nb,lookT f g nk b % 16,ro,f1,f2,f3,rfl,rfl,hA,hB,hn,by omega,sym_more hTab h15 hB (by omega),.inr (by omega),hH,rfl⟩; omega
/-- The symbol that comes next. -/
theorem huffSym_spec {K : Known} {ea : Fin 5 → Addr} (hs : Sents K ea) (src : Src K ea) (x1 x2 x3 : Frag) (fb : Nat) (rbv : Value) (ro : Int) (s0 s1 s2 ev s4 s5 s6 s7 s8 : Value) (hb o : Nat) (dt : List UInt8) (p q b nb : Nat) (hA : src.At (dt.drop q) x1 x2 x3) (hB : BitsIn dt p q b nb) (hn : nb ≤ 31) (lens : List Nat) (mn : Nat) (hok : okLens lens) (h15 : ∀ s,lenOf lens s ≤ 15) (hmn : minL lens ≤ mn) (hm15 : mn ≤ 15) (LH : Frags) (hH : HufT lens mn hb o LH) :
    Fn Tryd.prog K 81 #[.pointer (some ⟨fb,0,none⟩),.pointer (some ⟨hb,o,none⟩)] (x1::x2::x3::⟨fb,0,[.iface src.t src.v,rbv,.int .i64 (ro),.int .u32 (((b) : Nat) : Int),.int .u64 (((nb) : Nat) : Int)]⟩::⟨fb,1045,[s0,s1,s2,ev,s4,s5,s6,s7,s8]⟩::LH)
      fun r L => ∃ y1 y2 y3 A B,SymEnd src fb rbv s0 s1 s2 s4 s5 s6 s7 s8 dt p q nb lens mn ev r y1 y2 y3 A B ∧ L = y1::y2::y3::A::B::LH := by
  obtain ⟨f,g,nt,nk,lv,T,hTab,hfb,hgb,h0,h64,⟨ke,hke⟩,_,rfl,hT⟩ := hH
  exact huffSym_walk hs src x1 x2 x3 fb rbv ro s0 s1 s2 ev s4 s5 s6 s7 s8 hb o dt p q b nb hA hB hn lens mn hok h15 hmn hm15 f g nt nk lv T hTab hfb hgb h0 h64 ke hke hT

end Go.Eng
namespace Go.Eng

structure Hist (h : List UInt8) (wr : Nat) (full : Bool) (out : List UInt8) : Prop where
  len : h.length = 32768
  wrLe : wr ≤ 32768
  young : full = false → wr = out.length
  old : full = true → 32768 ≤ out.length
  val : ∀ d,1 ≤ d → d ≤ (if full then 32768 else wr) → h[(wr + 32768 - d) % 32768]? = out[out.length - d]?

def hsize (wr : Nat) (full : Bool) : Nat := if full then 32768 else wr

theorem Hist.size_le {h : List UInt8} {wr : Nat} {full : Bool} {out : List UInt8} (H : Hist h wr full out) : hsize wr full ≤ out.length ∧ hsize wr full ≤ 32768 ∧ (hsize wr full = out.length ∨ hsize wr full = 32768) ∧ wr ≤ out.length := by
  unfold hsize
  cases full with
  | false => have := H.young rfl; have := H.wrLe; simp; omega
  | true => have := H.old rfl; have := H.wrLe; simp; omega

theorem Hist.start (h : List UInt8) (hl : h.length = 32768) : Hist h 0 false [] := ⟨hl,by omega,fun _ => rfl,(fun h => by cases h),fun d h1 h2 => absurd h2 (by simp; omega)⟩

/-- Bytes are written. -/
theorem Hist.write {h : List UInt8} {wr : Nat} {full : Bool} {out : List UInt8} (H : Hist h wr full out) (xs : List UInt8) (hx : wr + xs.length ≤ 32768) :
    Hist (h.take wr ++ xs ++ h.drop (wr + xs.length)) (wr + xs.length) full (out ++ xs) := by
  have hl := H.len
  have h1 : (h.take wr).length = wr := by rw [List.length_take]; omega
  refine ⟨?_,hx,fun e => ?_,fun e => ?_,fun d hd1 hd2 => ?_⟩
  · simp only [List.length_append,List.length_take,List.length_drop]; omega
  · rw [List.length_append,H.young e]
  · have := H.old e
    rw [List.length_append]; omega
  · have hsz := H.size_le
    unfold hsize at hsz
    rw [List.length_append]
    rcases Nat.lt_or_ge xs.length d with hlt | hge
    · -- an older byte
      have hd3 : d - xs.length ≤ (if full then 32768 else wr) := by
        cases full <;> simp at hd2 ⊢ <;> omega
      have hv := H.val (d - xs.length) (by omega) hd3
      have hd4 : d ≤ 32768 := by cases full <;> simp at hd2 <;> omega
      have hd5 : d - xs.length ≤ out.length := by omega
      rw [show out.length + xs.length - d = out.length - (d - xs.length) by omega,List.getElem?_append_left (l₁ := out) (by omega),← hv]
      rw [show wr + xs.length + 32768 - d = wr + 32768 - (d - xs.length) by omega]
      rcases Nat.lt_or_ge wr (d - xs.length) with h2 | h2
      · rw [Nat.mod_eq_of_lt (by omega),List.getElem?_append_right (by rw [List.length_append,h1]; omega),List.length_append,h1,List.getElem?_drop]
        congr 1; omega
      · rw [show wr + 32768 - (d - xs.length) = wr - (d - xs.length) + 32768 by omega,Nat.add_mod_right,Nat.mod_eq_of_lt (by omega),List.append_assoc,List.getElem?_append_left (by omega),List.getElem?_take,if_pos (by omega)]
    · -- one of the new ones
      rw [show wr + xs.length + 32768 - d = wr + xs.length - d + 32768 by omega,Nat.add_mod_right,Nat.mod_eq_of_lt (by omega),List.append_assoc,List.getElem?_append_right (l₁ := h.take wr) (by omega),h1,
        List.getElem?_append_left (l₁ := xs) (by omega),List.getElem?_append_right (l₁ := out) (by omega)]
      congr 1; omega

/-- The window is full: it begins anew. -/
theorem Hist.wrap {h : List UInt8} {full : Bool} {out : List UInt8} (H : Hist h 32768 full out) : Hist h 0 true out := by
  have hs := H.size_le
  refine ⟨H.len,by omega,(fun h => by cases h),fun _ => ?_,fun d h1 h2 => ?_⟩
  · cases full <;> simp [hsize] at hs <;> omega
  · have h3 : d ≤ 32768 := by simpa using h2
    have := H.val d h1 (by cases full <;> simp <;> omega)
    rw [← this,show 32768 + 32768 - d = 0 + 32768 - d + 32768 by omega,Nat.add_mod_right]

/-- What stands in the window ahead of the place of writing. -/
theorem Hist.seg {h : List UInt8} {wr : Nat} {full : Bool} {out : List UInt8} (H : Hist h wr full out) {src n : Nat} (h1 : src + n ≤ wr) : (h.drop src).take n = (out.drop (out.length - (wr - src))).take n := by
  have hs := H.size_le
  have hl := H.len
  have hw := H.wrLe
  apply List.ext_getElem?
  intro i
  rw [List.getElem?_take,List.getElem?_take]
  split
  · rename_i hi
    rw [List.getElem?_drop,List.getElem?_drop]
    have := H.val (wr - src - i) (by omega) (by cases full <;> simp <;> omega)
    rw [show out.length - (wr - src) + i = out.length - (wr - src - i) by omega,← this,show wr + 32768 - (wr - src - i) = src + i + 32768 by omega,Nat.add_mod_right,Nat.mod_eq_of_lt (by omega)]
  · rfl

/-- What stands in the window behind the place of writing. -/
theorem Hist.segBack {h : List UInt8} {wr : Nat} {out : List UInt8} (H : Hist h wr true out) {d n : Nat} (h1 : wr < d) (h2 : d ≤ 32768) (hn : n ≤ d - wr) : (h.drop (wr + 32768 - d)).take n = (out.drop (out.length - d)).take n := by
  have hs := H.size_le
  have hl := H.len
  apply List.ext_getElem?
  intro i
  rw [List.getElem?_take,List.getElem?_take]
  split
  · rename_i hi
    rw [List.getElem?_drop,List.getElem?_drop]
    have := H.val (d - i) (by omega) (by simp; omega)
    simp [hsize] at hs
    rw [show out.length - d + i = out.length - (d - i) by omega,← this,Nat.mod_eq_of_lt (by omega)]
    congr 1; omega
  · rfl

theorem copyN_length (out : List UInt8) (d : Nat) : ∀ n,(copyN out d n).length = out.length + n
  | 0 => rfl
  | n + 1 => by rw [copyN,List.length_append,copyN_length out d n]; rfl

theorem copyN_add (out : List UInt8) (d a : Nat) : ∀ b,copyN (copyN out d a) d b = copyN out d (a + b)
  | 0 => rfl
  | b + 1 => by rw [copyN,copyN_add out d a b]; rfl

/-- The last m bytes go round every d bytes. -/
def Per (d m : Nat) (o : List UInt8) : Prop := ∀ i,d ≤ i → i < m → o[o.length - m + i]? = o[o.length - m + i - d]?

theorem copyN_take (o : List UInt8) (d m : Nat) (hd : 1 ≤ d) (hm : m ≤ o.length) (hdm : d ∣ m) (hp : Per d m o) : ∀ n,n ≤ m → 1 ≤ m → copyN o d n = o ++ (o.drop (o.length - m)).take n ∧ Per d (m + n) (copyN o d n)
  | 0,_,_ => ⟨by simp [copyN],hp⟩
  | n + 1,hn,h1 => by
    obtain ⟨ih,ip⟩ := copyN_take o d m hd hm hdm hp n (by omega) h1
    have hdm2 : d ≤ m := Nat.le_of_dvd (by omega) hdm
    have hlen := copyN_length o d n
    -- the byte d behind the end is the byte m behind it
    have key : ∀ j,j * d ≤ m → 1 ≤ j → (copyN o d n)[o.length + n - d]? = (copyN o d n)[o.length + n - j * d]? := by
      intro j
      induction j with
      | zero => intro _ h; omega
      | succ j ij =>
        intro h2 h3
        rcases Nat.eq_zero_or_pos j with rfl | hj
        · rw [Nat.zero_add,Nat.one_mul]
        · have e : (j + 1) * d = j * d + d := by rw [Nat.add_mul,Nat.one_mul]
          rw [ij (by omega) hj]
          have hq := ip (m + n - j * d) (by omega) (by have : 1 ≤ j * d := Nat.mul_pos hj hd; omega)
          rw [hlen,show o.length + n - (m + n) + (m + n - j * d) = o.length + n - j * d by omega] at hq
          rw [hq]; congr 1; omega
    obtain ⟨c,hc⟩ := hdm
    have hc1 : 1 ≤ c := by
      rcases Nat.eq_zero_or_pos c with rfl | h
      · simp at hc; omega
      · exact h
    have k1 := key c (by rw [Nat.mul_comm,← hc]; exact Nat.le_refl _) hc1
    rw [Nat.mul_comm c d,← hc] at k1
    have hin : o.length + n - m < o.length := by omega
    have k2 : (copyN o d n)[o.length + n - m]? = o[o.length + n - m]? := by rw [ih,List.getElem?_append_left hin]
    have e1 : copyN o d (n + 1) = copyN o d n ++ [o.getD (o.length + n - m) 0] := by
      rw [copyN,hlen,List.getD_eq_getElem?_getD,k1,k2,← List.getD_eq_getElem?_getD]
    refine ⟨?_,?_⟩
    · rw [e1,ih,List.append_assoc]
      congr 1
      rw [List.take_add_one,List.getElem?_drop,show o.length - m + n = o.length + n - m by omega,List.getElem?_eq_getElem hin,List.getD_eq_getElem?_getD,List.getElem?_eq_getElem hin]
      rfl
    · intro i hi1 hi2
      rw [copyN_length,show o.length + (n + 1) - (m + (n + 1)) = o.length - m by omega]
      rcases Nat.lt_or_ge i (m + n) with h2 | h2
      · have := ip i hi1 h2
        rw [hlen,show o.length + n - (m + n) = o.length - m by omega] at this
        rw [copyN,List.getElem?_append_left (by omega),List.getElem?_append_left (by omega),this]
      · have hi3 : i = m + n := by omega
        subst hi3
        rw [copyN,List.getElem?_append_right (by omega),List.getElem?_append_left (by omega),hlen,show o.length - m + (m + n) - (o.length + n) = 0 by omega,show o.length - m + (m + n) - d = o.length + n - d by omega]
        rw [List.getElem?_cons_zero,List.getD_eq_getElem?_getD]
        have : o.length + n - d < (copyN o d n).length := by omega
        rw [List.getElem?_eq_getElem this]; rfl

theorem per_self (d : Nat) (o : List UInt8) : Per d d o := fun i h1 h2 => by omega
end Go.Eng
namespace Go.Eng

theorem Hist.copyStep {h : List UInt8} {dst : Nat} {full : Bool} {o : List UInt8} (H : Hist h dst full o) {d m n : Nat} (hd : 1 ≤ d) (hm1 : 1 ≤ m) (hm : m ≤ dst) (hdm : d ∣ m) (hp : Per d m o) (hn : n ≤ m) (hx : dst + n ≤ 32768) :
    Hist (h.take dst ++ (h.drop (dst - m)).take n ++ h.drop (dst + n)) (dst + n) full (copyN o d n) ∧ Per d (m + n) (copyN o d n) := by
  have hs := H.size_le
  have hl := H.len
  obtain ⟨e,hp2⟩ := copyN_take o d m hd (by omega) hdm hp n hn hm1
  have hseg := H.seg (src := dst - m) (n := n) (by omega)
  rw [show dst - (dst - m) = m by omega] at hseg
  refine ⟨?_,hp2⟩
  have hlen : ((h.drop (dst - m)).take n).length = n := by rw [List.length_take,List.length_drop]; omega
  have hw := H.write ((h.drop (dst - m)).take n) (by rw [hlen]; exact hx)
  rw [hlen] at hw
  rw [e,← hseg]
  exact hw

/-- The first part of a copy that begins behind the place of writing. -/
theorem Hist.copyBack {h : List UInt8} {wr : Nat} {o : List UInt8} (H : Hist h wr true o) {d n : Nat} (h1 : wr < d) (h2 : d ≤ 32768) (hn : n ≤ d - wr) (hx : wr + n ≤ 32768) :
    Hist (h.take wr ++ (h.drop (wr + 32768 - d)).take n ++ h.drop (wr + n)) (wr + n) true (copyN o d n) ∧ Per d (d + n) (copyN o d n) := by
  have hs := H.size_le
  have hl := H.len
  simp [hsize] at hs
  obtain ⟨e,hp2⟩ := copyN_take o d d (by omega) (by omega) (Nat.dvd_refl d) (per_self d o) n (by omega) (by omega)
  have hseg := H.segBack (d := d) (n := n) h1 h2 hn
  refine ⟨?_,hp2⟩
  have hlen : ((h.drop (wr + 32768 - d)).take n).length = n := by rw [List.length_take,List.length_drop]; omega
  have hw := H.write ((h.drop (wr + 32768 - d)).take n) (by rw [hlen]; exact hx)
  rw [hlen] at hw
  rw [e,← hseg]
  exact hw

theorem Per.less {d m k : Nat} {o : List UInt8} (h : Per d (m + k) o) (hm : m + k ≤ o.length) : Per d m o := by
  intro i h1 h2
  have := h (k + i) (by omega) (by omega)
  rw [show o.length - (m + k) + (k + i) = o.length - m + i by omega] at this
  exact this
end Go.Eng
namespace Go.Eng
open Go Go.Proofs
set_option maxRecDepth 100000

/-- copy within one run of bytes. -/
theorem X.copyW {K : Known} {n : Nat} {env : Env} {L : Frags} {ty : TypeId} (i : Nat) {x y : Operand} {hb dst src dl dc sl sc : Nat} {h : List UInt8}
    (hL : L[i]? = some ⟨hb,0,bytesV h⟩) (hx : ev? env x = some (.slice (some ⟨hb,dst,none⟩) dl dc)) (hy : ev? env y = some (.slice (some ⟨hb,src,none⟩) sl sc)) (hs : src + sl ≤ h.length) (hd : dst + dl ≤ h.length) :
    OpX Tryd.prog K n (.call { callee := .builtin .copy,args := #[x,y],argTypes := #[22,22] }) ty env L fun v L' =>
      v = .int .i64 ((Nat.min sl dl : Nat) : Int) ∧ L' = L.set i ⟨hb,0,bytesV (h.take dst ++ (h.drop src).take (Nat.min sl dl) ++ h.drop (dst + Nat.min sl dl))⟩ := by
  have h1 : Nat.min sl dl ≤ sl := Nat.min_le_left _ _
  have h2 : Nat.min sl dl ≤ dl := Nat.min_le_right _ _
  have hvl : (bytesV ((h.drop src).take (Nat.min sl dl))).length = Nat.min sl dl := by rw [bytesV_length,List.length_take,List.length_drop]; omega
  have hc := X.copy (P := Tryd.prog) (H0 := K) (n := n) (ty := ty) (xT := Tryd.t5) i (s := 1) (o := 0) (k := dst) (t := 22) (t2 := 22) (vs := bytesV ((h.drop src).take (Nat.min sl dl))) Tryd.underlying22 Tryd.sizeOf5 hL (by rw [Nat.zero_add]; exact hx) hy (by rw [hvl,Nat.mul_one])
    (.inr ⟨hb,0 + src,by rw [Nat.zero_add],Reads.frag hL (by rw [hvl,← bytesV_drop,← bytesV_take])⟩) (fun h => by cases h) (one_bytesV _) (by rw [hvl,bytesV_length]; omega)
  rw [hvl,← bytesV_take,← bytesV_drop,← bytesV_append,← bytesV_append] at hc
  exact hc
theorem bytesV_set (h : List UInt8) (i c : Nat) (hc : c < 256) (hi : i < h.length) : (bytesV h).set (i * 1) (.int .u8 ((c : Nat) : Int)) = bytesV (h.take i ++ [UInt8.ofNat c] ++ h.drop (i + 1)) := by
  have e : (UInt8.ofNat c).toNat = c := by rw [UInt8.toNat_ofNat']; exact Nat.mod_eq_of_lt hc
  have e1 : h.take i ++ [UInt8.ofNat c] ++ h.drop (i + 1) = h.set i (UInt8.ofNat c) := by rw [List.set_eq_take_append_cons_drop,if_pos hi]; simp
  rw [e1,Nat.mul_one,bytesV,bytesV,List.map_set,e]

theorem writeByte_spec {K : Known} (b o hb wr rd : Nat) (full : Bool) (h : List UInt8) (hl : h.length = 32768) (hw : wr < 32768) (c : Nat) (hc : c < 256) : Fn Tryd.prog K 82 #[.pointer (some ⟨b,o,none⟩),.int .u8 ((c : Nat) : Int)] ([⟨b,o,[.slice (some ⟨hb,0,none⟩) 32768 32768,.int .i64 (((wr) : Nat) : Int),.int .i64 (((rd) : Nat) : Int),.bool full]⟩,⟨hb,0,bytesV (h)⟩]) (fun v L => v = .tuple #[] ∧ L = [⟨b,o,[.slice (some ⟨hb,0,none⟩) 32768 32768,.int .i64 (((wr + 1) : Nat) : Int),.int .i64 (((rd) : Nat) : Int),.bool full]⟩,⟨hb,0,bytesV (h.take wr ++ [UInt8.ofNat c] ++ h.drop (wr + 1))⟩]) := by
 refine Fn.intro (args := [.pointer (some ⟨b,o,none⟩),.int .u8 ((c : Nat) : Int)]) (RR := Ret0 _) Tryd.func82 rfl rfl Tryd.ntmps82 (res0 Tryd.results82) ?_
 refine C.reenv (env2 := [(0,.pointer (some ⟨b,o,none⟩)),(1,.int .u8 ((c : Nat) : Int))]) rfl ?_
 refine C.seq ?_
 refine C.draw [0,1,2,4,0,16,32,64,0,511,1023] (.pure 0 496 (.pure 1 497 (.pure 2 499 (.pure 4 271 (.pure 5 287 (.pure 6 319 (.pure 8 255 (.seg [(3,503),(7,383),(9,511)] (.alt 10 .done .stop))))))))) mixed (by decide +kernel) ?_
 refine D.pure rfl (S.move rfl) rfl ?_
 refine D.pure rfl (S.nilPtr rfl) rfl ?_
 refine D.pure rfl (S.field rfl fa148_0) rfl ?_
 refine D.pure rfl (S.move rfl) rfl ?_
 refine D.pure rfl (S.nilPtr rfl) rfl ?_
 refine D.pure rfl (S.field rfl fa148_1) rfl ?_
 refine D.pure rfl (S.move rfl) rfl ?_
 refine D.seg (by decide) ?_
 refine W.still rfl (S.load 0 (k := 0) rfl rfl rfl Tryd.isAgg22) rfl ?_
 refine W.still rfl (S.load 0 (k := 1) rfl rfl rfl Tryd.isAgg3) rfl ?_
 refine W.pure rfl (S.ixSl rfl rfl (by omega) Tryd.underlying22 Tryd.sizeOf5) rfl ?_
 refine W.nil ?_
 refine D.one ?_
 refine O.loud0 rfl (X.store 1 (k := wr * 1) rfl rfl rfl rfl (by rw [Nat.blt_eq,bytesV_length,hl]; omega) Tryd.sizeOf5) ?_
 rintro _ _ ⟨rfl,rfl⟩
 refine D.relist (L2 := [⟨b,o,[.slice (some ⟨hb,0,none⟩) 32768 32768,.int .i64 (((wr) : Nat) : Int),.int .i64 (((rd) : Nat) : Int),.bool full]⟩,⟨hb,0,bytesV (h.take wr ++ [UInt8.ofNat c] ++ h.drop (wr + 1))⟩]) (congrArg (fun x => ([⟨b,o,[.slice (some ⟨hb,0,none⟩) 32768 32768,.int .i64 (((wr) : Nat) : Int),.int .i64 (((rd) : Nat) : Int),.bool full]⟩,⟨hb,0,x⟩] : Frags)) (bytesV_set h wr c hc (by omega))) ?_
 refine D.kp [(0,_)] rfl ?_
 refine C.region ?_
 refine E.pure (S.move rfl) rfl ?_
 refine E.pure (S.nilPtr rfl) rfl ?_
 refine E.pure (S.field rfl fa148_1) rfl ?_
 refine E.still (S.load 0 (k := 1) rfl rfl rfl Tryd.isAgg3) rfl ?_
 refine E.pure (S.add (b := ((1 : Nat) : Int)) rfl rfl (N.add64 (by omega))) rfl ?_
 refine E.pure (S.nilPtr rfl) rfl ?_
 refine E.pure (S.field rfl fa148_1) rfl ?_
 refine E.loud0 (X.store 0 (k := 1) rfl rfl rfl rfl rfl Tryd.sizeOf3) ?_; rintro _ _ ⟨rfl,rfl⟩; refine E.relist (L2 := [_,_]) rfl ?_
 refine E.kp [(0,_)] rfl ?_
 exact ⟨rfl,rfl⟩
theorem writeSlice_spec {K : Known} (b o hb wr rd : Nat) (full : Bool) (hw : wr < 32768) : Fn Tryd.prog K 89 #[.pointer (some ⟨b,o,none⟩)] ([⟨b,o,[.slice (some ⟨hb,0,none⟩) 32768 32768,.int .i64 (((wr) : Nat) : Int),.int .i64 (((rd) : Nat) : Int),.bool full]⟩]) (fun v L => v = .slice (some ⟨hb,wr,none⟩) (32768 - wr) (32768 - wr) ∧ L = [⟨b,o,[.slice (some ⟨hb,0,none⟩) 32768 32768,.int .i64 (((wr) : Nat) : Int),.int .i64 (((rd) : Nat) : Int),.bool full]⟩]) := by
 refine Fn.intro (args := [.pointer (some ⟨b,o,none⟩)]) (RR := Ret1 2 _) Tryd.func89 rfl rfl Tryd.ntmps89 (res1 Tryd.results89) ?_
 refine C.reenv (env2 := [(0,.pointer (some ⟨b,o,none⟩))]) rfl ?_
 refine C.sr ?_
 refine E.pure (S.assign rfl) rfl ?_
 refine E.kp [(0,_),(2,_)] rfl ?_
 refine C.seq ?_
 refine C.draw [0,1,2,4,0,16,32,64,136,511] (.pure 0 240 (.pure 1 241 (.pure 2 243 (.pure 4 15 (.pure 5 31 (.pure 6 63 (.seg [(3,247),(7,127),(8,255),(9,511)] .done))))))) mixed (by decide +kernel) ?_
 refine D.pure rfl (S.move rfl) rfl ?_
 refine D.pure rfl (S.nilPtr rfl) rfl ?_
 refine D.pure rfl (S.field rfl fa148_0) rfl ?_
 refine D.pure rfl (S.move rfl) rfl ?_
 refine D.pure rfl (S.nilPtr rfl) rfl ?_
 refine D.pure rfl (S.field rfl fa148_1) rfl ?_
 refine D.seg (by decide) ?_
 refine W.still rfl (S.load 0 (k := 0) rfl rfl rfl Tryd.isAgg22) rfl ?_
 refine W.still rfl (S.load 0 (k := 1) rfl rfl rfl Tryd.isAgg3) rfl ?_
 refine W.pure rfl (S.slL rfl rfl (by omega) Tryd.underlying22 Tryd.sizeOf5) rfl ?_
 refine W.reslot (v := .slice (some ⟨hb,wr,none⟩) (32768 - wr) (32768 - wr)) (slice_to (by rw [part,if_neg (by omega)]; omega) rfl rfl) ?_
 refine W.pure rfl (S.assign rfl) rfl ?_
 refine W.nil ?_
 refine D.kp [(2,_)] rfl ?_
 refine C.ret ?_
 exact ⟨_,rfl,rfl,rfl⟩
theorem writeMark_spec {K : Known} (b o hb wr rd : Nat) (full : Bool) (hw : wr ≤ 32768) (k : Nat) (hk : wr + k ≤ 32768) : Fn Tryd.prog K 90 #[.pointer (some ⟨b,o,none⟩),.int .i64 ((k : Nat) : Int)] ([⟨b,o,[.slice (some ⟨hb,0,none⟩) 32768 32768,.int .i64 (((wr) : Nat) : Int),.int .i64 (((rd) : Nat) : Int),.bool full]⟩]) (fun v L => v = .tuple #[] ∧ L = [⟨b,o,[.slice (some ⟨hb,0,none⟩) 32768 32768,.int .i64 (((wr + k) : Nat) : Int),.int .i64 (((rd) : Nat) : Int),.bool full]⟩]) := by
 refine Fn.intro (args := [.pointer (some ⟨b,o,none⟩),.int .i64 ((k : Nat) : Int)]) (RR := Ret0 _) Tryd.func90 rfl rfl Tryd.ntmps90 (res0 Tryd.results90) ?_
 refine C.reenv (env2 := [(0,.pointer (some ⟨b,o,none⟩)),(1,.int .i64 ((k : Nat) : Int))]) rfl ?_
 refine C.region ?_
 refine E.pure (S.move rfl) rfl ?_
 refine E.pure (S.nilPtr rfl) rfl ?_
 refine E.pure (S.field rfl fa148_1) rfl ?_
 refine E.still (S.load 0 (k := 1) rfl rfl rfl Tryd.isAgg3) rfl ?_
 refine E.pure (S.move rfl) rfl ?_
 refine E.pure (S.add rfl rfl (N.add64 (by omega))) rfl ?_
 refine E.pure (S.nilPtr rfl) rfl ?_
 refine E.pure (S.field rfl fa148_1) rfl ?_
 refine E.loud0 (X.store 0 (k := 1) rfl rfl rfl rfl rfl Tryd.sizeOf3) ?_; rintro _ _ ⟨rfl,rfl⟩; refine E.relist (L2 := [_]) rfl ?_
 refine E.kp [] rfl ?_
 exact ⟨rfl,rfl⟩
/-- What a flush gives: the bytes of the window from rd to wr. -/
def FlushEnd (b o hb wr rd : Nat) (full : Bool) (v : Value) (A : Frag) : Prop :=
  (∃ a c,v = .slice (some a) (wr - rd) c ∧ (rd < wr → a = ⟨hb,rd,none⟩ ∧ wr - rd ≤ c)) ∧ wr - rd ≤ 32768 ∧ ((wr < 32768 ∧ A = ⟨b,o,[.slice (some ⟨hb,0,none⟩) 32768 32768,.int .i64 (((wr) : Nat) : Int),.int .i64 (((wr) : Nat) : Int),.bool full]⟩) ∨ (wr = 32768 ∧ A = ⟨b,o,[.slice (some ⟨hb,0,none⟩) 32768 32768,.int .i64 (((0) : Nat) : Int),.int .i64 (((0) : Nat) : Int),.bool true]⟩))
theorem flush_sl {hb wr rd : Nat} (h1 : rd ≤ wr) (h2 : wr ≤ 32768) : ∃ a c,Value.slice (some ⟨hb,part 0 rd 32768 1,none⟩) (wr - rd) (32768 - rd) = .slice (some a) (wr - rd) c ∧ (rd < wr → a = ⟨hb,rd,none⟩ ∧ wr - rd ≤ c) :=
  ⟨_,_,rfl,fun h => ⟨by rw [part,if_neg (by omega)]; simp,by omega⟩⟩

theorem readFlush_spec {K : Known} (b o hb wr rd : Nat) (full : Bool) (h1 : rd ≤ wr) (h2 : wr ≤ 32768) : Fn Tryd.prog K 77 #[.pointer (some ⟨b,o,none⟩)] ([⟨b,o,[.slice (some ⟨hb,0,none⟩) 32768 32768,.int .i64 (((wr) : Nat) : Int),.int .i64 (((rd) : Nat) : Int),.bool full]⟩]) (fun v L => ∃ A,FlushEnd b o hb wr rd full v A ∧ L = [A]) := by
 refine Fn.intro (args := [.pointer (some ⟨b,o,none⟩)]) (RR := Ret1 2 _) Tryd.func77 rfl rfl Tryd.ntmps77 (res1 Tryd.results77) ?_
 refine C.reenv (env2 := [(0,.pointer (some ⟨b,o,none⟩))]) rfl ?_
 refine C.sr ?_
 refine E.pure (S.assign rfl) rfl ?_
 refine E.kp [(0,_),(2,_)] rfl ?_
 refine C.seq ?_
 refine C.draw [0,1,2,4,0,16,32,64,0,256,512,1024,2184,8191] (.pure 0 4080 (.pure 1 4081 (.pure 2 4083 (.pure 4 3855 (.pure 5 3871 (.pure 6 3903 (.pure 8 255 (.pure 9 511 (.pure 10 1023 (.seg [(3,4087),(7,3967),(11,2047),(12,4095),(13,8191)] .done)))))))))) mixed (by decide +kernel) ?_
 refine D.pure rfl (S.move rfl) rfl ?_
 refine D.pure rfl (S.nilPtr rfl) rfl ?_
 refine D.pure rfl (S.field rfl fa148_0) rfl ?_
 refine D.pure rfl (S.move rfl) rfl ?_
 refine D.pure rfl (S.nilPtr rfl) rfl ?_
 refine D.pure rfl (S.field rfl fa148_2) rfl ?_
 refine D.pure rfl (S.move rfl) rfl ?_
 refine D.pure rfl (S.nilPtr rfl) rfl ?_
 refine D.pure rfl (S.field rfl fa148_1) rfl ?_
 refine D.seg (by decide) ?_
 refine W.still rfl (S.load 0 (k := 0) rfl rfl rfl Tryd.isAgg22) rfl ?_
 refine W.still rfl (S.load 0 (k := 2) rfl rfl rfl Tryd.isAgg3) rfl ?_
 refine W.still rfl (S.load 0 (k := 1) rfl rfl rfl Tryd.isAgg3) rfl ?_
 refine W.pure rfl (S.slLH rfl rfl rfl (by omega) (by omega) Tryd.underlying22 Tryd.sizeOf5) rfl ?_
 refine W.pure rfl (S.assign rfl) rfl ?_
 refine W.nil ?_
 refine D.kp [(0,_),(2,_),(3,_)] rfl ?_
 refine C.sr ?_
 refine E.pure (S.move rfl) rfl ?_
 refine E.pure (S.move rfl) rfl ?_
 refine E.pure (S.nilPtr rfl) rfl ?_
 refine E.pure (S.field rfl fa148_1) rfl ?_
 refine E.still (S.load 0 (k := 1) rfl rfl rfl Tryd.isAgg3) rfl ?_
 refine E.pure (S.nilPtr rfl) rfl ?_
 refine E.pure (S.field rfl fa148_2) rfl ?_
 refine E.loud0 (X.store 0 (k := 2) rfl rfl rfl rfl rfl Tryd.sizeOf3) ?_; rintro _ _ ⟨rfl,rfl⟩; refine E.relist (L2 := [_]) rfl ?_
 refine E.kp [(0,_),(2,_),(3,_)] rfl ?_
 refine C.seq ?_
 refine C.seq ?_
 refine C.draw [0,1,2,4,0,16,32,64,128,264] (.pure 0 496 (.pure 1 497 (.pure 2 499 (.pure 4 15 (.pure 5 31 (.pure 6 63 (.seg [(3,503),(7,127),(8,255),(9,511)] .done))))))) mixed (by decide +kernel) ?_
 refine D.pure rfl (S.move rfl) rfl ?_
 refine D.pure rfl (S.nilPtr rfl) rfl ?_
 refine D.pure rfl (S.field rfl fa148_1) rfl ?_
 refine D.pure rfl (S.move rfl) rfl ?_
 refine D.pure rfl (S.nilPtr rfl) rfl ?_
 refine D.pure rfl (S.field rfl fa148_0) rfl ?_
 refine D.seg (by decide) ?_
 refine W.still rfl (S.load 0 (k := 1) rfl rfl rfl Tryd.isAgg3) rfl ?_
 refine W.still rfl (S.load 0 (k := 0) rfl rfl rfl Tryd.isAgg22) rfl ?_
 refine W.pure rfl (S.lenSl rfl Tryd.underlying22) rfl ?_
 refine W.pure rfl (S.eq rfl rfl) rfl ?_
 refine W.nil ?_
 refine D.kp [(0,_),(2,_),(3,_),(33,_)] rfl ?_
 refine C.ifp rfl (fun h33 => ?_) (fun h33 => ?_)
 ·
  refine C.sr ?_
  refine E.pure (S.move rfl) rfl ?_
  refine E.pure (S.move rfl) rfl ?_
  refine E.pure (S.nilPtr rfl) rfl ?_
  refine E.pure (S.field rfl fa148_1) rfl ?_
  refine E.loud0 (X.store 0 (k := 1) rfl rfl rfl rfl rfl Tryd.sizeOf3) ?_; rintro _ _ ⟨rfl,rfl⟩; refine E.relist (L2 := [_]) rfl ?_
  refine E.pure (S.nilPtr rfl) rfl ?_
  refine E.pure (S.field rfl fa148_2) rfl ?_
  refine E.loud0 (X.store 0 (k := 2) rfl rfl rfl rfl rfl Tryd.sizeOf3) ?_; rintro _ _ ⟨rfl,rfl⟩; refine E.relist (L2 := [_]) rfl ?_
  refine E.kp [(0,_),(2,_),(3,_),(33,_)] rfl ?_
  refine C.region ?_
  refine E.pure (S.move rfl) rfl ?_
  refine E.pure (S.nilPtr rfl) rfl ?_
  refine E.pure (S.field rfl fa148_3) rfl ?_
  refine E.loud0 (X.store 0 (k := 3) rfl rfl rfl rfl rfl Tryd.sizeOf4) ?_; rintro _ _ ⟨rfl,rfl⟩; refine E.relist (L2 := [_]) rfl ?_
  refine E.kp [(0,_),(2,_),(3,_),(33,_)] rfl ?_
  refine C.sr ?_
  refine E.pure (S.move rfl) rfl ?_
  refine E.pure (S.assign rfl) rfl ?_
  refine E.kp [(0,_),(2,_),(3,_),(33,_)] rfl ?_
  refine C.ret ?_
  exact ⟨_,rfl,_,⟨flush_sl h1 h2,by omega,.inr ⟨by omega,rfl⟩⟩,rfl⟩
 refine C.skip ?_
 refine C.sr ?_
 refine E.pure (S.move rfl) rfl ?_
 refine E.pure (S.assign rfl) rfl ?_
 refine E.kp [(0,_),(2,_),(3,_),(33,_)] rfl ?_
 refine C.ret ?_
 first | exact ⟨_,rfl,_,⟨flush_sl h1 h2,by omega,.inr ⟨by omega,rfl⟩⟩,rfl⟩ | exact ⟨_,rfl,_,⟨flush_sl h1 h2,by omega,.inl ⟨by omega,rfl⟩⟩,rfl⟩
theorem tryWriteCopy_spec {K : Known} (b o hb wr rd : Nat) (full : Bool) (h0 : List UInt8) (out : List UInt8) (H : Hist h0 wr full out) (hw : wr < 32768) (d len : Nat) (hd1 : 1 ≤ d) (hd2 : d ≤ hsize wr full) (hlen : len ≤ 32768) : Fn Tryd.prog K 86 #[.pointer (some ⟨b,o,none⟩),.int .i64 ((d : Nat) : Int),.int .i64 ((len : Nat) : Int)] ([⟨b,o,[.slice (some ⟨hb,0,none⟩) 32768 32768,.int .i64 (((wr) : Nat) : Int),.int .i64 (((rd) : Nat) : Int),.bool full]⟩,⟨hb,0,bytesV (h0)⟩]) (fun v L => ∃ n h,v = .int .i64 ((n : Nat) : Int) ∧ n ≤ len ∧ (n = 0 ∨ n = len) ∧ Hist h (wr + n) full (copyN out d n) ∧ L = [⟨b,o,[.slice (some ⟨hb,0,none⟩) 32768 32768,.int .i64 (((wr + n) : Nat) : Int),.int .i64 (((rd) : Nat) : Int),.bool full]⟩,⟨hb,0,bytesV (h)⟩]) := by
 refine Fn.intro (args := [.pointer (some ⟨b,o,none⟩),.int .i64 ((d : Nat) : Int),.int .i64 ((len : Nat) : Int)]) (RR := Ret1 6 _) Tryd.func86 rfl rfl Tryd.ntmps86 (res1 Tryd.results86) ?_
 refine C.reenv (env2 := [(0,.pointer (some ⟨b,o,none⟩)),(1,.int .i64 ((d : Nat) : Int)),(2,.int .i64 ((len : Nat) : Int))]) rfl ?_
 refine C.sr ?_
 refine E.pure (S.assign rfl) rfl ?_
 refine E.kp [(0,_),(1,_),(2,_),(6,_)] rfl ?_
 refine C.sr ?_
 refine E.pure (S.move rfl) rfl ?_
 refine E.pure (S.nilPtr rfl) rfl ?_
 refine E.pure (S.field rfl fa148_1) rfl ?_
 refine E.still (S.load 0 (k := 1) rfl rfl rfl Tryd.isAgg3) rfl ?_
 refine E.pure (S.assign rfl) rfl ?_
 refine E.kp [(0,_),(1,_),(2,_),(6,_),(7,_)] rfl ?_
 refine C.sr ?_
 refine E.pure (S.move rfl) rfl ?_
 refine E.pure (S.move rfl) rfl ?_
 refine E.pure (S.add rfl rfl (N.add64 (by omega))) rfl ?_
 refine E.pure (S.assign rfl) rfl ?_
 refine E.kp [(0,_),(1,_),(6,_),(7,_),(8,_)] rfl ?_
 refine C.seq ?_
 refine C.sr ?_
 refine E.pure (S.move rfl) rfl ?_
 refine E.pure (S.move rfl) rfl ?_
 refine E.pure (S.lt rfl rfl) rfl ?_
 refine E.pure (S.move rfl) rfl ?_
 refine E.fork (fun g21 => ?_) (fun g21 => ?_)
 ·
  refine E.guardNo 21 true rfl rfl rfl rfl ?_
  refine E.guardNo 21 true rfl rfl rfl rfl ?_
  refine E.guardNo 21 true rfl rfl rfl rfl ?_
  refine E.guardNo 21 true rfl rfl rfl rfl ?_
  refine E.guardNo 21 true rfl rfl rfl rfl ?_
  refine E.guardNo 21 true rfl rfl rfl rfl ?_
  refine E.guardNo 21 true rfl rfl rfl rfl ?_
  refine E.pure (S.pickT rfl rfl) rfl ?_
  refine E.kp [(0,_),(1,_),(6,_),(7,_),(8,_),(29,_)] rfl ?_
  refine C.yes rfl (rfl) ?_
  refine C.sr ?_
  refine E.pure (S.assign rfl) rfl ?_
  refine E.kp [(0,_),(1,_),(6,_),(7,_),(8,_),(29,_)] rfl ?_
  refine C.ret ?_
  exact ⟨_,rfl,0,h0,rfl,Nat.zero_le _,.inl rfl,H,rfl⟩
 refine E.wanted 21 rfl rfl ?_
 refine E.pure (S.move rfl) rfl ?_
 refine E.wanted 21 rfl rfl ?_
 refine E.pure (S.move rfl) rfl ?_
 refine E.wanted 21 rfl rfl ?_
 refine E.pure (S.nilPtr rfl) rfl ?_
 refine E.wanted 21 rfl rfl ?_
 refine E.pure (S.field rfl fa148_0) rfl ?_
 refine E.wanted 21 rfl rfl ?_
 refine E.still (S.load 0 (k := 0) rfl rfl rfl Tryd.isAgg22) rfl ?_
 refine E.wanted 21 rfl rfl ?_
 refine E.pure (S.lenSl rfl Tryd.underlying22) rfl ?_
 refine E.wanted 21 rfl rfl ?_
 refine E.pure (S.gt rfl rfl) rfl ?_
 refine E.pure (S.pickF rfl rfl) rfl ?_
 refine E.kp [(0,_),(1,_),(6,_),(7,_),(8,_),(29,_)] rfl ?_
 refine C.ifp rfl (fun h29 => ?_) (fun h29 => ?_)
 ·
  refine C.sr ?_
  refine E.pure (S.assign rfl) rfl ?_
  refine E.kp [(0,_),(1,_),(6,_),(7,_),(8,_),(29,_)] rfl ?_
  refine C.ret ?_
  exact ⟨_,rfl,0,h0,rfl,Nat.zero_le _,.inl rfl,H,rfl⟩
 refine C.skip ?_
 refine C.sr ?_
 refine E.pure (S.move rfl) rfl ?_
 refine E.pure (S.assign rfl) rfl ?_
 refine E.kp [(0,_),(1,_),(6,_),(7,_),(8,_),(9,_),(29,_)] rfl ?_
 refine C.sr ?_
 refine E.pure (S.move rfl) rfl ?_
 refine E.pure (S.move rfl) rfl ?_
 refine E.pure (S.sub rfl rfl (N.sub64 (by omega) (by omega))) rfl ?_
 refine E.pure (S.assign rfl) rfl ?_
 refine E.kp [(0,_),(1,_),(6,_),(7,_),(8,_),(9,_),(10,_),(29,_)] rfl ?_
 refine C.seq ?_
 refine C.block ?_
 refine C.loop (fun mm ee ll => ∃ (h : List UInt8),∃ (dst : Nat),∃ (m : Nat),keeps ee [0,7,10,8,9] = some [(0,.pointer (some ⟨b,o,none⟩)),(7,.int .i64 ((dst : Nat) : Int)),(10,.int .i64 ((wr - d : Nat) : Int)),(8,.int .i64 ((wr + len : Nat) : Int)),(9,.int .i64 ((wr : Nat) : Int))] ∧ ll = [⟨b,o,[.slice (some ⟨hb,0,none⟩) 32768 32768,.int .i64 (((wr) : Nat) : Int),.int .i64 (((rd) : Nat) : Int),.bool full]⟩,⟨hb,0,bytesV (h)⟩] ∧ (Hist h dst full (copyN out d (dst - wr))) ∧ (Per d m (copyN out d (dst - wr))) ∧ (1 ≤ m ∨ dst = wr + len) ∧ (m ≤ dst) ∧ (wr - d = dst - m) ∧ (wr ≤ dst) ∧ (dst ≤ wr + len) ∧ (d ∣ m ∨ dst = wr + len) ∧ mm = wr + len - dst) (_) ⟨h0,wr,d,rfl,rfl,by rw [Nat.sub_self]; exact H,by rw [Nat.sub_self]; exact per_self _ _,.inl hd1,by omega,by omega,Nat.le_refl _,by omega,.inl (Nat.dvd_refl d),rfl⟩ ?_
 rintro m0 _ _ ⟨h,dst,m,hk0,rfl,H,hp,hm1,hm2,hms,hw1,he,hdv,hm0⟩
 refine C.weaken _ hk0 ?_
 refine C.seq ?_
 refine C.sr ?_
 refine E.pure (S.move rfl) rfl ?_
 refine E.pure (S.move rfl) rfl ?_
 refine E.pure (S.lt rfl rfl) rfl ?_
 refine E.kp [(0,_),(7,_),(8,_),(9,_),(10,_),(36,_)] rfl ?_
 refine C.ifp rfl (fun h36 => ?_) (fun h36 => ?_)
 ·
  refine C.skip ?_
  refine C.block ?_
  refine C.draw [0,0,2,4,8,0,0,112,0,256,512,1024,0,0,14336,16512,32769,131071] (.pure 0 65534 (.pure 1 32609 (.pure 2 32611 (.pure 3 32615 (.pure 5 32607 (.pure 6 32575 (.pure 8 12543 (.pure 9 12799 (.pure 10 13311 (.pure 12 12287 (.pure 13 8191 (.seg [(4,32623),(7,32639),(11,14335),(14,16383)] (.alt 15 (.pure 16 65535 (.pure 17 131071 .done)) .stop))))))))))))) mixed (by decide +kernel) ?_
  have hdd : d ∣ m := hdv.resolve_right (by omega)
  have hln := H.len
  have hsz := H.size_le
  have hmn1 : Nat.min m (wr + len - dst) ≤ m := Nat.min_le_left _ _
  have hmn2 : Nat.min m (wr + len - dst) ≤ wr + len - dst := Nat.min_le_right _ _
  have hmn3 : Nat.min m (wr + len - dst) = m ∨ Nat.min m (wr + len - dst) = wr + len - dst := by
    rcases Nat.le_total m (wr + len - dst) with q | q
    · exact .inl (Nat.min_eq_left q)
    · exact .inr (Nat.min_eq_right q)
  obtain ⟨H2,hp2⟩ := H.copyStep (n := Nat.min m (wr + len - dst)) hd1 (hm1.resolve_right (by omega)) hm2 hdd hp hmn1 (by omega)
  rw [copyN_add,show dst - wr + Nat.min m (wr + len - dst) = dst + Nat.min m (wr + len - dst) - wr by omega] at H2 hp2
  refine D.pure rfl (S.move rfl) rfl ?_
  refine D.pure rfl (S.move rfl) rfl ?_
  refine D.pure rfl (S.nilPtr rfl) rfl ?_
  refine D.pure rfl (S.field rfl fa148_0) rfl ?_
  refine D.pure rfl (S.move rfl) rfl ?_
  refine D.pure rfl (S.move rfl) rfl ?_
  refine D.pure rfl (S.move rfl) rfl ?_
  refine D.pure rfl (S.nilPtr rfl) rfl ?_
  refine D.pure rfl (S.field rfl fa148_0) rfl ?_
  refine D.pure rfl (S.move rfl) rfl ?_
  refine D.pure rfl (S.move rfl) rfl ?_
  refine D.seg (by decide) ?_
  refine W.still rfl (S.load 0 (k := 0) rfl rfl rfl Tryd.isAgg22) rfl ?_
  refine W.pure rfl (S.slLH rfl rfl rfl (by omega) (by omega) Tryd.underlying22 Tryd.sizeOf5) rfl ?_
  refine W.reslot (v := .slice (some ⟨hb,dst,none⟩) (wr + len - dst) (32768 - dst)) (slice_to (by rw [part,if_neg (by omega)]; omega) (by omega) (by omega)) ?_
  refine W.still rfl (S.load 0 (k := 0) rfl rfl rfl Tryd.isAgg22) rfl ?_
  refine W.pure rfl (S.slLH rfl rfl rfl (by omega) (by omega) Tryd.underlying22 Tryd.sizeOf5) rfl ?_
  refine W.reslot (v := .slice (some ⟨hb,dst - m,none⟩) m (32768 - (dst - m))) (slice_to (by rw [part,if_neg (by omega)]; omega) (by omega) (by omega)) ?_
  refine W.nil ?_
  refine D.one ?_
  refine O.loud1 rfl (X.copyW 1 (hb := hb) (dst := dst) (src := dst - m) rfl rfl rfl (by omega) (by omega)) rfl ?_; rintro _ _ ⟨rfl,rfl⟩; refine D.relist (L2 := [_,_]) rfl ?_
  refine D.pure rfl (S.add rfl rfl (N.add64 (by omega))) rfl ?_
  refine D.pure rfl (S.assign rfl) rfl ?_
  refine D.kp [(0,_),(7,_),(8,_),(9,_),(10,_),(36,_)] rfl ?_
  refine ⟨_,?_,h.take dst ++ (h.drop (dst - m)).take (Nat.min m (wr + len - dst)) ++ h.drop (dst + Nat.min m (wr + len - dst)),dst + Nat.min m (wr + len - dst),m + Nat.min m (wr + len - dst),rfl,rfl,H2,hp2,by omega,by omega,by omega,by omega,by omega,(hmn3.imp (fun q => by rw [q]; exact Nat.dvd_add hdd hdd) (fun q => by omega)),rfl⟩; omega
 refine C.exit rfl ?_
 refine C.sr ?_
 refine E.pure (S.move rfl) rfl ?_
 refine E.pure (S.move rfl) rfl ?_
 refine E.pure (S.nilPtr rfl) rfl ?_
 refine E.pure (S.field rfl fa148_1) rfl ?_
 refine E.loud0 (X.store 0 (k := 1) rfl rfl rfl rfl rfl Tryd.sizeOf3) ?_; rintro _ _ ⟨rfl,rfl⟩; refine E.relist (L2 := [_,_]) rfl ?_
 refine E.kp [(0,_),(7,_),(8,_),(9,_),(10,_),(36,_)] rfl ?_
 refine C.sr ?_
 refine E.pure (S.move rfl) rfl ?_
 refine E.pure (S.move rfl) rfl ?_
 refine E.pure (S.sub rfl rfl (N.sub64 (by omega) (by omega))) rfl ?_
 refine E.pure (S.assign rfl) rfl ?_
 refine E.kp [(0,_),(6,_),(7,_),(8,_),(9,_),(10,_),(36,_)] rfl ?_
 refine C.ret ?_
 have hde : dst = wr + len := by omega
 subst hde
 refine ⟨_,rfl,len,h,?_,Nat.le_refl _,.inr rfl,?_,rfl⟩
 · exact congrArg (fun y : Nat => Value.int .i64 (y : Int)) (by omega)
 · rw [Nat.add_sub_cancel_left] at H; exact H
theorem writeCopy_spec {K : Known} (b o hb wr rd : Nat) (full : Bool) (h0 : List UInt8) (out : List UInt8) (H : Hist h0 wr full out) (hw : wr < 32768) (d len : Nat) (hd1 : 1 ≤ d) (hd2 : d ≤ hsize wr full) (hlen : len ≤ 32768) : Fn Tryd.prog K 87 #[.pointer (some ⟨b,o,none⟩),.int .i64 ((d : Nat) : Int),.int .i64 ((len : Nat) : Int)] ([⟨b,o,[.slice (some ⟨hb,0,none⟩) 32768 32768,.int .i64 (((wr) : Nat) : Int),.int .i64 (((rd) : Nat) : Int),.bool full]⟩,⟨hb,0,bytesV (h0)⟩]) (fun v L => ∃ n h,v = .int .i64 ((n : Nat) : Int) ∧ n ≤ len ∧ (n = min len (32768 - wr)) ∧ Hist h (wr + n) full (copyN out d n) ∧ L = [⟨b,o,[.slice (some ⟨hb,0,none⟩) 32768 32768,.int .i64 (((wr + n) : Nat) : Int),.int .i64 (((rd) : Nat) : Int),.bool full]⟩,⟨hb,0,bytesV (h)⟩]) := by
 refine Fn.intro (args := [.pointer (some ⟨b,o,none⟩),.int .i64 ((d : Nat) : Int),.int .i64 ((len : Nat) : Int)]) (RR := Ret1 6 _) Tryd.func87 rfl rfl Tryd.ntmps87 (res1 Tryd.results87) ?_
 refine C.reenv (env2 := [(0,.pointer (some ⟨b,o,none⟩)),(1,.int .i64 ((d : Nat) : Int)),(2,.int .i64 ((len : Nat) : Int))]) rfl ?_
 refine C.sr ?_
 refine E.pure (S.assign rfl) rfl ?_
 refine E.kp [(0,_),(1,_),(2,_),(6,_)] rfl ?_
 refine C.seq ?_
 have hd3 : d ≤ 32768 := by have := H.size_le; omega
 refine C.region ?_
 refine E.pure (S.move rfl) rfl ?_
 refine E.pure (S.nilPtr rfl) rfl ?_
 refine E.pure (S.field rfl fa148_1) rfl ?_
 refine E.still (S.load 0 (k := 1) rfl rfl rfl Tryd.isAgg3) rfl ?_
 refine E.pure (S.assign rfl) rfl ?_
 refine E.kp [(0,_),(1,_),(2,_),(6,_),(7,_)] rfl ?_
 refine C.sr ?_
 refine E.pure (S.move rfl) rfl ?_
 refine E.pure (S.assign rfl) rfl ?_
 refine E.kp [(0,_),(1,_),(2,_),(6,_),(7,_),(8,_)] rfl ?_
 refine C.sr ?_
 refine E.pure (S.move rfl) rfl ?_
 refine E.pure (S.move rfl) rfl ?_
 refine E.pure (S.sub rfl rfl (N.subZ (by omega))) rfl ?_
 refine E.pure (S.assign rfl) rfl ?_
 refine E.kp [(0,_),(2,_),(6,_),(7,_),(8,_),(9,_)] rfl ?_
 refine C.sr ?_
 refine E.pure (S.move rfl) rfl ?_
 refine E.pure (S.move rfl) rfl ?_
 refine E.pure (S.add rfl rfl (N.add64 (by omega))) rfl ?_
 refine E.pure (S.move rfl) rfl ?_
 refine E.pure (S.nilPtr rfl) rfl ?_
 refine E.pure (S.field rfl fa148_0) rfl ?_
 refine E.still (S.load 0 (k := 0) rfl rfl rfl Tryd.isAgg22) rfl ?_
 refine E.pure (S.lenSl rfl Tryd.underlying22) rfl ?_
 refine E.pure (S.min2 rfl rfl) rfl ?_
 refine E.reslot (v := .int .i64 ((min (wr + len) 32768 : Nat) : Int)) (congrArg (fun y : Int => Value.int .i64 y) (by omega)) ?_
 refine E.pure (S.assign rfl) rfl ?_
 refine E.kp [(0,_),(6,_),(7,_),(8,_),(9,_),(10,_)] rfl ?_
 refine C.cut (M := fun ee ll => ∃ (h1 : List UInt8),∃ (k : Nat),∃ (src : Nat),keeps ee [0,7,10,8,9] = some [(0,.pointer (some ⟨b,o,none⟩)),(7,.int .i64 ((wr : Nat) : Int)),(10,.int .i64 ((min (wr + len) 32768 : Nat) : Int)),(8,.int .i64 ((wr + k : Nat) : Int)),(9,.int .i64 ((src : Nat) : Int))] ∧ ll = [⟨b,o,[.slice (some ⟨hb,0,none⟩) 32768 32768,.int .i64 (((wr) : Nat) : Int),.int .i64 (((rd) : Nat) : Int),.bool full]⟩,⟨hb,0,bytesV (h1)⟩] ∧ (Hist h1 (wr + k) full (copyN out d k)) ∧ (Per d (wr + k - src) (copyN out d k)) ∧ (src < wr + k ∨ (src = wr + k ∧ wr + k = min (wr + len) 32768)) ∧ (wr + k ≤ min (wr + len) 32768) ∧ (d ∣ wr + k - src ∨ wr + k = min (wr + len) 32768)) ?_ ?_
 ·
  refine C.sr ?_
  refine E.pure (S.move rfl) rfl ?_
  refine E.pure (S.lt (b := ((0 : Nat) : Int)) rfl rfl) rfl ?_
  refine E.kp [(0,_),(6,_),(7,_),(8,_),(9,_),(10,_),(29,_)] rfl ?_
  refine C.ifp rfl (fun h29 => ?_) (fun h29 => ?_)
  ·
   have hwd : wr < d := by omega
   have hfull : full = true := by
     cases full with
     | true => rfl
     | false => exact absurd hd2 (by simp [hsize]; omega)
   have hd32 : d ≤ 32768 := by rw [hfull] at hd2; exact hd2
   have hln := H.len
   subst hfull
   have hk1 : Nat.min (d - wr) (min (wr + len) 32768 - wr) ≤ d - wr := Nat.min_le_left _ _
   have hk2 : Nat.min (d - wr) (min (wr + len) 32768 - wr) ≤ min (wr + len) 32768 - wr := Nat.min_le_right _ _
   have hk3 : Nat.min (d - wr) (min (wr + len) 32768 - wr) = d - wr ∨ Nat.min (d - wr) (min (wr + len) 32768 - wr) = min (wr + len) 32768 - wr := by
     rcases Nat.le_total (d - wr) (min (wr + len) 32768 - wr) with q | q
     · exact .inl (Nat.min_eq_left q)
     · exact .inr (Nat.min_eq_right q)
   obtain ⟨H1,hp1⟩ := H.copyBack (n := Nat.min (d - wr) (min (wr + len) 32768 - wr)) (by omega) hd32 hk1 (by omega)
   have hcl := copyN_length out d (Nat.min (d - wr) (min (wr + len) 32768 - wr))
   have hsz := H.size_le
   simp only [hsize,if_true] at hsz
   have hp2 : Per d (wr + Nat.min (d - wr) (min (wr + len) 32768 - wr) - 0) (copyN out d (Nat.min (d - wr) (min (wr + len) 32768 - wr))) := Per.less (k := d - wr) (by rw [show wr + Nat.min (d - wr) (min (wr + len) 32768 - wr) - 0 + (d - wr) = d + Nat.min (d - wr) (min (wr + len) 32768 - wr) by omega]; exact hp1) (by omega)
   have hdv : d ∣ wr + Nat.min (d - wr) (min (wr + len) 32768 - wr) - 0 ∨ wr + Nat.min (d - wr) (min (wr + len) 32768 - wr) = min (wr + len) 32768 := hk3.imp (fun q => by rw [q,show wr + (d - wr) - 0 = d by omega]; exact Nat.dvd_refl d) (fun q => by omega)
   refine C.sr ?_
   refine E.pure (S.move rfl) rfl ?_
   refine E.pure (S.move rfl) rfl ?_
   refine E.pure (S.nilPtr rfl) rfl ?_
   refine E.pure (S.field rfl fa148_0) rfl ?_
   refine E.still (S.load 0 (k := 0) rfl rfl rfl Tryd.isAgg22) rfl ?_
   refine E.pure (S.lenSl rfl Tryd.underlying22) rfl ?_
   first | refine E.pure (S.add rfl rfl (N.add64 (by omega))) rfl ?_ | refine E.pure (S.add rfl rfl (N.addZ (by omega))) rfl ?_
   refine E.reslot (v := .int .i64 ((wr + 32768 - d : Nat) : Int)) (congrArg (fun y : Int => Value.int .i64 y) (by omega)) ?_
   refine E.pure (S.assign rfl) rfl ?_
   refine E.kp [(0,_),(6,_),(7,_),(8,_),(9,_),(10,_),(29,_)] rfl ?_
   refine C.seq ?_
   refine C.draw [0,0,2,4,8,0,0,112,0,256,512,1024,0,6144,8320,16385,65535] (.pure 0 32766 (.pure 1 16225 (.pure 2 16227 (.pure 3 16231 (.pure 5 16223 (.pure 6 16191 (.pure 8 4351 (.pure 9 4607 (.pure 10 5119 (.pure 12 4095 (.seg [(4,16239),(7,16255),(11,6143),(13,8191)] (.alt 14 (.pure 15 32767 (.pure 16 65535 .done)) .stop)))))))))))) mixed (by decide +kernel) ?_
   refine D.pure rfl (S.move rfl) rfl ?_
   refine D.pure rfl (S.move rfl) rfl ?_
   refine D.pure rfl (S.nilPtr rfl) rfl ?_
   refine D.pure rfl (S.field rfl fa148_0) rfl ?_
   refine D.pure rfl (S.move rfl) rfl ?_
   refine D.pure rfl (S.move rfl) rfl ?_
   refine D.pure rfl (S.move rfl) rfl ?_
   refine D.pure rfl (S.nilPtr rfl) rfl ?_
   refine D.pure rfl (S.field rfl fa148_0) rfl ?_
   refine D.pure rfl (S.move rfl) rfl ?_
   refine D.seg (by decide) ?_
   refine W.still rfl (S.load 0 (k := 0) rfl rfl rfl Tryd.isAgg22) rfl ?_
   refine W.pure rfl (S.slLH rfl rfl rfl (by omega) (by omega) Tryd.underlying22 Tryd.sizeOf5) rfl ?_
   refine W.reslot (v := .slice (some ⟨hb,wr,none⟩) (min (wr + len) 32768 - wr) (32768 - wr)) (slice_to (by rw [part,if_neg (by omega)]; omega) (by omega) (by omega)) ?_
   refine W.still rfl (S.load 0 (k := 0) rfl rfl rfl Tryd.isAgg22) rfl ?_
   refine W.pure rfl (S.slL rfl rfl (by omega) Tryd.underlying22 Tryd.sizeOf5) rfl ?_
   refine W.reslot (v := .slice (some ⟨hb,wr + 32768 - d,none⟩) (d - wr) (d - wr)) (slice_to (by rw [part,if_neg (by omega)]; omega) (by omega) (by omega)) ?_
   refine W.nil ?_
   refine D.one ?_
   refine O.loud1 rfl (X.copyW 1 (hb := hb) (dst := wr) (src := wr + 32768 - d) rfl rfl rfl (by omega) (by omega)) rfl ?_; rintro _ _ ⟨rfl,rfl⟩; refine D.relist (L2 := [_,_]) rfl ?_
   refine D.pure rfl (S.add rfl rfl (N.add64 (by omega))) rfl ?_
   refine D.pure rfl (S.assign rfl) rfl ?_
   refine D.kp [(0,_),(6,_),(7,_),(8,_),(9,_),(10,_),(29,_)] rfl ?_
   refine C.region ?_
   refine E.pure (S.assign rfl) rfl ?_
   refine E.kp [(0,_),(6,_),(7,_),(8,_),(9,_),(10,_),(29,_)] rfl ?_
   exact ⟨_,Nat.min (d - wr) (min (wr + len) 32768 - wr),0,rfl,rfl,H1,hp2,by omega,by omega,hdv⟩
  have hwd : d ≤ wr := by omega
  have H1 : Hist h0 (wr + 0) full (copyN out d 0) := H
  have hp2 : Per d (wr + 0 - (wr - d)) (copyN out d 0) := by rw [show wr + 0 - (wr - d) = d by omega]; exact per_self _ _
  have hdv : d ∣ wr + 0 - (wr - d) ∨ wr + 0 = min (wr + len) 32768 := .inl (by rw [show wr + 0 - (wr - d) = d by omega]; exact Nat.dvd_refl d)
  rw [show (wr : Int) - (d : Int) = ((wr - d : Nat) : Int) by omega]
  refine C.skip ?_
  first | exact ⟨_,Nat.min (d - wr) (min (wr + len) 32768 - wr),0,rfl,rfl,H1,hp2,by omega,by omega,hdv⟩ | exact ⟨h0,0,wr - d,rfl,rfl,H1,hp2,by omega,by omega,hdv⟩
 rintro _ _ ⟨h1,k,src,hq9,rfl,H1,hp1,hs1,hk9,hdv1⟩
 refine C.weaken _ hq9 ?_
 refine C.seq ?_
 refine C.block ?_
 refine C.loop (fun mm ee ll => ∃ (h : List UInt8),∃ (dst : Nat),∃ (m : Nat),keeps ee [0,8,9,10,7] = some [(0,.pointer (some ⟨b,o,none⟩)),(8,.int .i64 ((dst : Nat) : Int)),(9,.int .i64 ((src : Nat) : Int)),(10,.int .i64 ((min (wr + len) 32768 : Nat) : Int)),(7,.int .i64 ((wr : Nat) : Int))] ∧ ll = [⟨b,o,[.slice (some ⟨hb,0,none⟩) 32768 32768,.int .i64 (((wr) : Nat) : Int),.int .i64 (((rd) : Nat) : Int),.bool full]⟩,⟨hb,0,bytesV (h)⟩] ∧ (Hist h dst full (copyN out d (dst - wr))) ∧ (Per d m (copyN out d (dst - wr))) ∧ (1 ≤ m ∨ dst = min (wr + len) 32768) ∧ (m ≤ dst) ∧ (src = dst - m) ∧ (wr ≤ dst) ∧ (dst ≤ min (wr + len) 32768) ∧ (d ∣ m ∨ dst = min (wr + len) 32768) ∧ mm = min (wr + len) 32768 - dst) (_) ⟨h1,wr + k,wr + k - src,rfl,rfl,by rw [Nat.add_sub_cancel_left]; exact H1,by rw [Nat.add_sub_cancel_left]; exact hp1,by omega,by omega,by omega,by omega,by omega,hdv1,rfl⟩ ?_
 rintro m0 _ _ ⟨h,dst,m,hk0,rfl,H,hp,hm1,hm2,hms,hw1,he,hdv,hm0⟩
 refine C.weaken _ hk0 ?_
 refine C.seq ?_
 refine C.sr ?_
 refine E.pure (S.move rfl) rfl ?_
 refine E.pure (S.move rfl) rfl ?_
 refine E.pure (S.lt rfl rfl) rfl ?_
 refine E.kp [(0,_),(7,_),(8,_),(9,_),(10,_),(55,_)] rfl ?_
 refine C.ifp rfl (fun h55 => ?_) (fun h55 => ?_)
 ·
  refine C.skip ?_
  refine C.block ?_
  refine C.draw [0,0,2,4,8,0,0,112,0,256,512,1024,0,0,14336,16512,32769,131071] (.pure 0 65534 (.pure 1 32609 (.pure 2 32611 (.pure 3 32615 (.pure 5 32607 (.pure 6 32575 (.pure 8 12543 (.pure 9 12799 (.pure 10 13311 (.pure 12 12287 (.pure 13 8191 (.seg [(4,32623),(7,32639),(11,14335),(14,16383)] (.alt 15 (.pure 16 65535 (.pure 17 131071 .done)) .stop))))))))))))) mixed (by decide +kernel) ?_
  have hdd : d ∣ m := hdv.resolve_right (by omega)
  have hln := H.len
  have hsz := H.size_le
  have hmn1 : Nat.min m (min (wr + len) 32768 - dst) ≤ m := Nat.min_le_left _ _
  have hmn2 : Nat.min m (min (wr + len) 32768 - dst) ≤ min (wr + len) 32768 - dst := Nat.min_le_right _ _
  have hmn3 : Nat.min m (min (wr + len) 32768 - dst) = m ∨ Nat.min m (min (wr + len) 32768 - dst) = min (wr + len) 32768 - dst := by
    rcases Nat.le_total m (min (wr + len) 32768 - dst) with q | q
    · exact .inl (Nat.min_eq_left q)
    · exact .inr (Nat.min_eq_right q)
  obtain ⟨H2,hp2⟩ := H.copyStep (n := Nat.min m (min (wr + len) 32768 - dst)) hd1 (hm1.resolve_right (by omega)) hm2 hdd hp hmn1 (by omega)
  rw [copyN_add,show dst - wr + Nat.min m (min (wr + len) 32768 - dst) = dst + Nat.min m (min (wr + len) 32768 - dst) - wr by omega] at H2 hp2
  refine D.pure rfl (S.move rfl) rfl ?_
  refine D.pure rfl (S.move rfl) rfl ?_
  refine D.pure rfl (S.nilPtr rfl) rfl ?_
  refine D.pure rfl (S.field rfl fa148_0) rfl ?_
  refine D.pure rfl (S.move rfl) rfl ?_
  refine D.pure rfl (S.move rfl) rfl ?_
  refine D.pure rfl (S.move rfl) rfl ?_
  refine D.pure rfl (S.nilPtr rfl) rfl ?_
  refine D.pure rfl (S.field rfl fa148_0) rfl ?_
  refine D.pure rfl (S.move rfl) rfl ?_
  refine D.pure rfl (S.move rfl) rfl ?_
  refine D.seg (by decide) ?_
  refine W.still rfl (S.load 0 (k := 0) rfl rfl rfl Tryd.isAgg22) rfl ?_
  refine W.pure rfl (S.slLH rfl rfl rfl (by omega) (by omega) Tryd.underlying22 Tryd.sizeOf5) rfl ?_
  refine W.reslot (v := .slice (some ⟨hb,dst,none⟩) (min (wr + len) 32768 - dst) (32768 - dst)) (slice_to (by rw [part,if_neg (by omega)]; omega) (by omega) (by omega)) ?_
  refine W.still rfl (S.load 0 (k := 0) rfl rfl rfl Tryd.isAgg22) rfl ?_
  refine W.pure rfl (S.slLH rfl rfl rfl (by omega) (by omega) Tryd.underlying22 Tryd.sizeOf5) rfl ?_
  refine W.reslot (v := .slice (some ⟨hb,dst - m,none⟩) m (32768 - (dst - m))) (slice_to (by rw [part,if_neg (by omega)]; omega) (by omega) (by omega)) ?_
  refine W.nil ?_
  refine D.one ?_
  refine O.loud1 rfl (X.copyW 1 (hb := hb) (dst := dst) (src := dst - m) rfl rfl rfl (by omega) (by omega)) rfl ?_; rintro _ _ ⟨rfl,rfl⟩; refine D.relist (L2 := [_,_]) rfl ?_
  refine D.pure rfl (S.add rfl rfl (N.add64 (by omega))) rfl ?_
  refine D.pure rfl (S.assign rfl) rfl ?_
  refine D.kp [(0,_),(7,_),(8,_),(9,_),(10,_),(55,_)] rfl ?_
  refine ⟨_,?_,h.take dst ++ (h.drop (dst - m)).take (Nat.min m (min (wr + len) 32768 - dst)) ++ h.drop (dst + Nat.min m (min (wr + len) 32768 - dst)),dst + Nat.min m (min (wr + len) 32768 - dst),m + Nat.min m (min (wr + len) 32768 - dst),rfl,rfl,H2,hp2,by omega,by omega,by omega,by omega,by omega,(hmn3.imp (fun q => by rw [q]; exact Nat.dvd_add hdd hdd) (fun q => by omega)),rfl⟩; omega
 refine C.exit rfl ?_
 refine C.sr ?_
 refine E.pure (S.move rfl) rfl ?_
 refine E.pure (S.move rfl) rfl ?_
 refine E.pure (S.nilPtr rfl) rfl ?_
 refine E.pure (S.field rfl fa148_1) rfl ?_
 refine E.loud0 (X.store 0 (k := 1) rfl rfl rfl rfl rfl Tryd.sizeOf3) ?_; rintro _ _ ⟨rfl,rfl⟩; refine E.relist (L2 := [_,_]) rfl ?_
 refine E.kp [(0,_),(7,_),(8,_),(9,_),(10,_),(55,_)] rfl ?_
 refine C.sr ?_
 refine E.pure (S.move rfl) rfl ?_
 refine E.pure (S.move rfl) rfl ?_
 refine E.pure (S.sub rfl rfl (N.sub64 (by omega) (by omega))) rfl ?_
 refine E.pure (S.assign rfl) rfl ?_
 refine E.kp [(0,_),(6,_),(7,_),(8,_),(9,_),(10,_),(55,_)] rfl ?_
 refine C.ret ?_
 have hde : dst = min (wr + len) 32768 := by omega
 refine ⟨_,rfl,dst - wr,h,rfl,by omega,by omega,?_,?_⟩
 · rw [show wr + (dst - wr) = dst by omega]; exact H
 · rw [show wr + (dst - wr) = dst by omega]; rfl
end Go.Eng
namespace Go.Eng
open Go Go.Proofs
set_option maxRecDepth 100000

/-- What is to be read out of the window. -/
def TR (hb : Nat) (h pend : List UInt8) (v : Value) : Prop := ∃ a c,v = .slice a pend.length c ∧ pend.length ≤ 32768 ∧ (pend = [] ∨ ∃ off,a = some ⟨hb,off,none⟩ ∧ (h.drop off).take pend.length = pend ∧ pend.length ≤ c)

/-- The window: gv bytes of out are given,those of pend wait in toRead,the others from rd to wr. -/
structure WinSt (fb hb gv : Nat) (out pend : List UInt8) (trv : Value) (h : List UInt8) (wr rd : Nat) (full : Bool) (A B : Frag) : Prop where
  hist : Hist h wr full out
  rdLe : rd ≤ wr
  wrLt : wr < 32768
  sum : gv + pend.length + (wr - rd) = out.length
  pendIs : pend = (out.drop gv).take pend.length
  tr : TR hb h pend trv
  isA : A = ⟨fb,1037,[.slice (some ⟨hb,0,none⟩) 32768 32768,.int .i64 ((wr : Nat) : Int),.int .i64 ((rd : Nat) : Int),.bool full]⟩
  isB : B = ⟨hb,0,bytesV h⟩

/-- The tail of a decompressor. -/
def ptF (fb : Nat) (step : Nat) (ss : Nat) (fin : Bool) (err trv hl hd : Value) (cl cd : Nat) : Frag :=
  ⟨fb,1045,[.func (.func step) #[] #[],.int .i64 ((ss : Nat) : Int),.bool fin,err,trv,hl,hd,.int .i64 ((cl : Nat) : Int),.int .i64 ((cd : Nat) : Int)]⟩

/-- Its head: the source and the bits. -/
structure HeadSt {K : Known} {ea : Fin 5 → Addr} (src : Src K ea) (dt : List UInt8) (fb p q nb : Nat) (x1 x2 x3 A : Frag) : Prop where
  at_ : src.At (dt.drop q) x1 x2 x3
  is : ∃ b ro,BitsIn dt p q b nb ∧ A = ⟨fb,0,[.iface src.t src.v,.pointer none,.int .i64 ro,.int .u32 ((b : Nat) : Int),.int .u64 ((nb : Nat) : Int)]⟩

/-- A copy that was cut off by the window's end,if any. -/
def SsOk (ss cl cd hs : Nat) : Prop := ss = 0 ∨ (ss = 1 ∧ cl = 0 ∧ 1 ≤ cd ∧ cd ≤ hs)

/-- Within a block of codes. -/
def SymSt {K : Known} {ea : Fin 5 → Addr} (src : Src K ea) (dt : List UInt8) (fb hb : Nat) (R : ResR) (gv : Nat) (pend : List UInt8) (t : Tabs) (last : Bool) (hl hd : Value) (step : Nat) (x1 x2 x3 A T W H : Frag) : Prop :=
  ∃ p q nb out trv h wr rd full ss cl cd,HeadSt src dt fb p q nb x1 x2 x3 A ∧ nb < t.mn + 8 ∧ WinSt fb hb gv out pend trv h wr rd full W H ∧ T = ptF fb step ss last .nilIface trv hl hd cl cd ∧
    ((SsOk ss cl cd (hsize wr full) ∧ R = run dt (.sym last t) out p) ∨ (ss = 1 ∧ cl ≤ 258 ∧ 1 ≤ cd ∧ cd ≤ hsize wr full ∧ R = run dt (.sym last t) (copyN out cd cl) p))

/-- Ahead of a block. -/
def NextSt {K : Known} {ea : Fin 5 → Addr} (src : Src K ea) (dt : List UInt8) (fb hb : Nat) (R : ResR) (gv : Nat) (pend : List UInt8) (p : Nat) (x1 x2 x3 A T W H : Frag) : Prop :=
  ∃ q nb out trv h wr rd full ss fin hl hd cl cd,HeadSt src dt fb p q nb x1 x2 x3 A ∧ nb < 8 ∧ WinSt fb hb gv out pend trv h wr rd full W H ∧ T = ptF fb 67 ss fin .nilIface trv hl hd cl cd ∧ SsOk ss cl cd (hsize wr full) ∧ R = run dt .next out p

/-- How the end of it all is told. -/
def EndOk {K : Known} {ea : Fin 5 → Addr} (src : Src K ea) (dt : List UInt8) (e : EndR) (er : Er) (x1 x2 x3 : Frag) : Prop :=
  (∃ q,e = .done q ∧ er = .eof ∧ q ≤ dt.length ∧ src.At (dt.drop q) x1 x2 x3) ∨ (e = .bad ∧ Bad5 er ∧ ∃ l,src.At l x1 x2 x3)

/-- At the end. -/
def EndSt {K : Known} {ea : Fin 5 → Addr} (src : Src K ea) (dt : List UInt8) (fb hb : Nat) (R : ResR) (gv : Nat) (pend : List UInt8) (x1 x2 x3 A T W H : Frag) : Prop :=
  ∃ out e er trv h wr rd full,EndOk src dt e er x1 x2 x3 ∧ (∃ a b c,A = ⟨fb,0,[.iface src.t src.v,.pointer none,a,b,c]⟩) ∧ WinSt fb hb gv out pend trv h wr rd full W H ∧ (∃ a b c d f g i,T = ⟨fb,1045,[a,b,c,Er.val ea er,trv,d,f,g,i]⟩) ∧ R = (out,e) ∧ (pend = [] ∨ rd = wr)

theorem TR.nil (hb : Nat) (h : List UInt8) (a : Option Addr) (c : Nat) : TR hb h [] (.slice a 0 c) := ⟨a,c,rfl,by decide,.inl rfl⟩

/-- Bytes that are written into the window. -/
theorem WinSt.write {fb hb gv : Nat} {out : List UInt8} {trv : Value} {h : List UInt8} {wr rd : Nat} {full : Bool} {A B : Frag} (W : WinSt fb hb gv out [] trv h wr rd full A B) {h2 : List UInt8} {n : Nat} {out2 : List UInt8} (H : Hist h2 (wr + n) full out2) (hn : wr + n < 32768) (hl : out2.length = out.length + n) :
    WinSt fb hb gv out2 [] trv h2 (wr + n) rd full ⟨fb,1037,[.slice (some ⟨hb,0,none⟩) 32768 32768,.int .i64 ((wr + n : Nat) : Int),.int .i64 ((rd : Nat) : Int),.bool full]⟩ ⟨hb,0,bytesV h2⟩ := by
  have h1 := W.rdLe
  have h3 := W.sum
  simp only [List.length_nil] at h3
  obtain ⟨a,c,e,_,_⟩ := W.tr
  exact ⟨H,by omega,hn,by simp only [List.length_nil]; omega,by simp,⟨a,c,e,by decide,.inl rfl⟩,rfl,rfl⟩

/-- A flush: what was written waits. -/
theorem WinSt.flush {fb hb gv : Nat} {out : List UInt8} {h : List UInt8} {wr rd : Nat} {full : Bool} {v : Value} {A : Frag} (H : Hist h wr full out) (hrd : rd ≤ wr) (hsum : gv + (wr - rd) = out.length) (hf : FlushEnd fb 1037 hb wr rd full v A) :
    ∃ wr2 full2,WinSt fb hb gv out (out.drop gv) v h wr2 wr2 full2 A ⟨hb,0,bytesV h⟩ ∧ (out.drop gv).length = wr - rd ∧ hsize wr full ≤ hsize wr2 full2 := by
  have hs := H.size_le
  have hw := H.wrLe
  obtain ⟨⟨a,c,rfl,ha⟩,hlt,hA⟩ := hf
  have hlen : (out.drop gv).length = wr - rd := by rw [List.length_drop]; omega
  have htr : TR hb h (out.drop gv) (.slice (some a) (wr - rd) c) := by
    refine ⟨some a,c,by rw [hlen],by omega,?_⟩
    rcases Nat.lt_or_ge rd wr with h1 | h1
    · right
      refine ⟨rd,by rw [(ha h1).1],?_,by rw [hlen]; exact (ha h1).2⟩
      rw [hlen,H.seg (src := rd) (n := wr - rd) (by omega),show out.length - (wr - rd) = gv by omega,List.take_of_length_le (by omega)]
    · left
      exact List.eq_nil_of_length_eq_zero (by omega)
  have hp : out.drop gv = (out.drop gv).take (out.drop gv).length := by rw [List.take_length]
  rcases hA with ⟨h1,rfl⟩ | ⟨h1,rfl⟩
  · exact ⟨wr,full,⟨H,Nat.le_refl _,h1,by omega,hp,htr,rfl,rfl⟩,hlen,Nat.le_refl _⟩
  · subst h1
    exact ⟨0,true,⟨H.wrap,Nat.le_refl _,by decide,by omega,hp,htr,rfl,rfl⟩,hlen,by simp [hsize]⟩
end Go.Eng
namespace Go.Eng
open Go Go.Proofs
set_option maxRecDepth 100000

theorem histSize_spec {K : Known} (b o hb wr rd : Nat) (full : Bool) (h1 : rd ≤ wr) (h2 : wr ≤ 32768) : Fn Tryd.prog K 85 #[.pointer (some ⟨b,o,none⟩)] ([⟨b,o,[.slice (some ⟨hb,0,none⟩) 32768 32768,.int .i64 (wr : Int),.int .i64 (rd : Int),.bool full]⟩]) (fun v L => v = .int .i64 ((if full then 32768 else wr : Nat) : Int) ∧ L = [⟨b,o,[.slice (some ⟨hb,0,none⟩) 32768 32768,.int .i64 (wr : Int),.int .i64 (rd : Int),.bool full]⟩]) := by
 refine Fn.intro (args := [.pointer (some ⟨b,o,none⟩)]) (RR := Ret1 2 _) Tryd.func85 rfl rfl Tryd.ntmps85 (res1 Tryd.results85) ?_
 refine C.reenv (env2 := [(0,.pointer (some ⟨b,o,none⟩))]) rfl ?_
 refine C.sr ?_
 refine E.pure (S.assign rfl) rfl ?_
 refine E.kp [(0,_),(2,_)] rfl ?_
 refine C.seq ?_
 refine C.sr ?_
 refine E.pure (S.move rfl) rfl ?_
 refine E.pure (S.nilPtr rfl) rfl ?_
 refine E.pure (S.field rfl fa148_3) rfl ?_
 refine E.still (S.load 0 (k := 3) rfl rfl rfl Tryd.isAgg4) rfl ?_
 refine E.kp [(0,_),(2,_),(6,_)] rfl ?_
 first | refine C.ifp rfl (fun h6 => ?_) (fun h6 => ?_) | refine C.cond rfl (fun h6 => ?_) (fun h6 => ?_)
 ·
  refine C.sr ?_
  refine E.pure (S.move rfl) rfl ?_
  refine E.pure (S.nilPtr rfl) rfl ?_
  refine E.pure (S.field rfl fa148_0) rfl ?_
  refine E.still (S.load 0 (k := 0) rfl rfl rfl Tryd.isAgg22) rfl ?_
  refine E.pure (S.lenSl rfl Tryd.underlying22) rfl ?_
  refine E.pure (S.assign rfl) rfl ?_
  refine E.kp [(0,_),(2,_),(6,_)] rfl ?_
  refine C.ret ?_
  first | exact ⟨_,rfl,by simp_all,rfl⟩
 refine C.skip ?_
 refine C.sr ?_
 refine E.pure (S.move rfl) rfl ?_
 refine E.pure (S.nilPtr rfl) rfl ?_
 refine E.pure (S.field rfl fa148_1) rfl ?_
 refine E.still (S.load 0 (k := 1) rfl rfl rfl Tryd.isAgg3) rfl ?_
 refine E.pure (S.assign rfl) rfl ?_
 refine E.kp [(0,_),(2,_),(6,_)] rfl ?_
 refine C.ret ?_
 first | exact ⟨_,rfl,by simp_all,rfl⟩
theorem availRead_spec {K : Known} (b o hb wr rd : Nat) (full : Bool) (h1 : rd ≤ wr) (h2 : wr ≤ 32768) : Fn Tryd.prog K 88 #[.pointer (some ⟨b,o,none⟩)] ([⟨b,o,[.slice (some ⟨hb,0,none⟩) 32768 32768,.int .i64 (wr : Int),.int .i64 (rd : Int),.bool full]⟩]) (fun v L => v = .int .i64 ((wr - rd : Nat) : Int) ∧ L = [⟨b,o,[.slice (some ⟨hb,0,none⟩) 32768 32768,.int .i64 (wr : Int),.int .i64 (rd : Int),.bool full]⟩]) := by
 refine Fn.intro (args := [.pointer (some ⟨b,o,none⟩)]) (RR := Ret1 2 _) Tryd.func88 rfl rfl Tryd.ntmps88 (res1 Tryd.results88) ?_
 refine C.reenv (env2 := [(0,.pointer (some ⟨b,o,none⟩))]) rfl ?_
 refine C.sr ?_
 refine E.pure (S.assign rfl) rfl ?_
 refine E.kp [(0,_),(2,_)] rfl ?_
 refine C.seq ?_
 refine C.draw [0,1,2,4,0,16,32,64,136,511] (.pure 0 240 (.pure 1 241 (.pure 2 243 (.pure 4 15 (.pure 5 31 (.pure 6 63 (.seg [(3,247),(7,127),(8,255),(9,511)] .done))))))) mixed (by decide +kernel) ?_
 refine D.pure rfl (S.move rfl) rfl ?_
 refine D.pure rfl (S.nilPtr rfl) rfl ?_
 refine D.pure rfl (S.field rfl fa148_1) rfl ?_
 refine D.pure rfl (S.move rfl) rfl ?_
 refine D.pure rfl (S.nilPtr rfl) rfl ?_
 refine D.pure rfl (S.field rfl fa148_2) rfl ?_
 refine D.seg (by decide) ?_
 refine W.still rfl (S.load 0 (k := 1) rfl rfl rfl Tryd.isAgg3) rfl ?_
 refine W.still rfl (S.load 0 (k := 2) rfl rfl rfl Tryd.isAgg3) rfl ?_
 refine W.pure rfl (S.sub rfl rfl (N.sub64 (by omega) (by omega))) rfl ?_
 refine W.pure rfl (S.assign rfl) rfl ?_
 refine W.nil ?_
 refine D.kp [(2,_)] rfl ?_
 refine C.ret ?_
 exact ⟨_,rfl,rfl,rfl⟩
theorem availWrite_spec {K : Known} (b o hb wr rd : Nat) (full : Bool) (h1 : rd ≤ wr) (h2 : wr ≤ 32768) : Fn Tryd.prog K 83 #[.pointer (some ⟨b,o,none⟩)] ([⟨b,o,[.slice (some ⟨hb,0,none⟩) 32768 32768,.int .i64 (wr : Int),.int .i64 (rd : Int),.bool full]⟩]) (fun v L => v = .int .i64 ((32768 - wr : Nat) : Int) ∧ L = [⟨b,o,[.slice (some ⟨hb,0,none⟩) 32768 32768,.int .i64 (wr : Int),.int .i64 (rd : Int),.bool full]⟩]) := by
 refine Fn.intro (args := [.pointer (some ⟨b,o,none⟩)]) (RR := Ret1 2 _) Tryd.func83 rfl rfl Tryd.ntmps83 (res1 Tryd.results83) ?_
 refine C.reenv (env2 := [(0,.pointer (some ⟨b,o,none⟩))]) rfl ?_
 refine C.sr ?_
 refine E.pure (S.assign rfl) rfl ?_
 refine E.kp [(0,_),(2,_)] rfl ?_
 refine C.seq ?_
 refine C.draw [0,1,2,4,8,0,32,64,128,272,1023] (.pure 0 480 (.pure 1 481 (.pure 2 483 (.pure 5 31 (.pure 6 63 (.pure 7 127 (.seg [(3,487),(4,495),(8,255),(9,511),(10,1023)] .done))))))) mixed (by decide +kernel) ?_
 refine D.pure rfl (S.move rfl) rfl ?_
 refine D.pure rfl (S.nilPtr rfl) rfl ?_
 refine D.pure rfl (S.field rfl fa148_0) rfl ?_
 refine D.pure rfl (S.move rfl) rfl ?_
 refine D.pure rfl (S.nilPtr rfl) rfl ?_
 refine D.pure rfl (S.field rfl fa148_1) rfl ?_
 refine D.seg (by decide) ?_
 refine W.still rfl (S.load 0 (k := 0) rfl rfl rfl Tryd.isAgg22) rfl ?_
 refine W.pure rfl (S.lenSl rfl Tryd.underlying22) rfl ?_
 refine W.still rfl (S.load 0 (k := 1) rfl rfl rfl Tryd.isAgg3) rfl ?_
 refine W.pure rfl (S.sub rfl rfl (N.sub64 (by omega) (by omega))) rfl ?_
 refine W.pure rfl (S.assign rfl) rfl ?_
 refine W.nil ?_
 refine D.kp [(2,_)] rfl ?_
 refine C.ret ?_
 exact ⟨_,rfl,rfl,rfl⟩
end Go.Eng
namespace Go.Eng
open Go Go.Proofs
set_option maxRecDepth 100000

theorem flush_one {b o hb wr rd : Nat} {full : Bool} {v : Value} {A : Frag} (h : FlushEnd b o hb wr rd full v A) : one v = true := by
  obtain ⟨⟨a,c,rfl,_⟩,_⟩ := h; rfl

theorem finishBlock_spec {K : Known} {ea : Fin 5 → Addr} (hs : Sents K ea) (fb hb wr rd : Nat) (full last : Bool) (h1 : rd ≤ wr) (h2 : wr < 32768) (sv ss ev trv hl hd cl cd : Value) : Fn Tryd.prog K 78 #[.pointer (some ⟨fb,0,none⟩)] ([⟨fb,1037,[.slice (some ⟨hb,0,none⟩) 32768 32768,.int .i64 (((wr) : Nat) : Int),.int .i64 (((rd) : Nat) : Int),.bool full]⟩,⟨fb,1045,[sv,ss,.bool last,ev,trv,hl,hd,cl,cd]⟩]) (fun r L => r = .tuple #[] ∧ ∃ ev2 tr2 A,L = [A,⟨fb,1045,[.func (.func 67) #[] #[],ss,.bool last,ev2,tr2,hl,hd,cl,cd]⟩] ∧ ((last = false ∧ ev2 = ev ∧ tr2 = trv ∧ A = ⟨fb,1037,[.slice (some ⟨hb,0,none⟩) 32768 32768,.int .i64 (((wr) : Nat) : Int),.int .i64 (((rd) : Nat) : Int),.bool full]⟩) ∨ (last = true ∧ ev2 = Er.val ea .eof ∧ ((rd = wr ∧ tr2 = trv ∧ A = ⟨fb,1037,[.slice (some ⟨hb,0,none⟩) 32768 32768,.int .i64 (((wr) : Nat) : Int),.int .i64 (((rd) : Nat) : Int),.bool full]⟩) ∨ (rd < wr ∧ FlushEnd fb 1037 hb wr rd full tr2 A))))) := by
 refine Fn.intro (args := [.pointer (some ⟨fb,0,none⟩)]) (RR := Ret0 _) Tryd.func78 rfl rfl Tryd.ntmps78 (res0 Tryd.results78) ?_
 refine C.reenv (env2 := [(0,.pointer (some ⟨fb,0,none⟩))]) rfl ?_
 refine C.seq ?_
 refine C.sr ?_
 refine E.pure (S.move rfl) rfl ?_
 refine E.pure (S.nilPtr rfl) rfl ?_
 refine E.pure (S.field rfl fa153_13) rfl ?_
 refine E.still (S.load 1 (k := 2) rfl rfl rfl Tryd.isAgg4) rfl ?_
 refine E.kp [(0,_),(5,_)] rfl ?_
 first | refine C.ifp rfl (fun h5 => ?_) (fun h5 => ?_) | refine C.cond rfl (fun h5 => ?_) (fun h5 => ?_)
 ·
  have hl5 : last = true := by assumption
  refine C.seq ?_
  refine C.sr ?_
  refine E.pure (S.move rfl) rfl ?_
  refine E.pure (S.nilPtr rfl) rfl ?_
  refine E.pure (S.field rfl fa153_9) rfl ?_
  refine E.loud1 (OpX.pick [0] (F := [_]) rfl (X.call rfl Tryd.call88 (availRead_spec fb 1037 hb wr rd full h1 (by omega)))) rfl ?_; rintro _ _ ⟨_,⟨rfl,rfl⟩,rfl⟩; refine E.relist (L2 := [_,_]) rfl ?_
  refine E.pure (S.gt (b := ((0 : Nat) : Int)) rfl rfl) rfl ?_
  refine E.kp [(0,_),(5,_),(10,_)] rfl ?_
  refine C.ifp rfl (fun h10 => ?_) (fun h10 => ?_)
  ·
   refine C.region ?_
   refine E.pure (S.move rfl) rfl ?_
   refine E.pure (S.move rfl) rfl ?_
   refine E.pure (S.nilPtr rfl) rfl ?_
   refine E.pure (S.field rfl fa153_9) rfl ?_
   refine E.loud1 (OpX.pick [0] (F := [_]) rfl (X.call rfl Tryd.call77 (readFlush_spec fb 1037 hb wr rd full h1 (by omega)))) rfl ?_; rintro _ _ ⟨_,⟨A,hfl,rfl⟩,rfl⟩; refine E.relist (L2 := [_,_]) rfl ?_
   refine E.pure (S.nilPtr rfl) rfl ?_
   refine E.pure (S.field rfl fa153_15) rfl ?_
   refine E.loud0 (X.store 1 (k := 4) rfl rfl rfl (flush_one hfl) rfl Tryd.sizeOf22) ?_; rintro _ _ ⟨rfl,rfl⟩; refine E.relist (L2 := [_,_]) rfl ?_
   refine E.kp [(0,_),(5,_),(10,_)] rfl ?_
   refine C.region ?_
   refine E.pure (S.move rfl) rfl ?_
   refine E.still (S.loadBase rfl hs.g0 Tryd.isAgg59) rfl ?_
   refine E.pure (S.nilPtr rfl) rfl ?_
   refine E.pure (S.field rfl fa153_14) rfl ?_
   refine E.loud0 (X.store 1 (k := 3) rfl rfl rfl (one_er (a := ea) .eof) rfl Tryd.sizeOf59) ?_; rintro _ _ ⟨rfl,rfl⟩; refine E.relist (L2 := [_,_]) rfl ?_
   refine E.kp [(0,_),(5,_),(10,_)] rfl ?_
   refine C.region ?_
   refine E.pure (S.move rfl) rfl ?_
   refine E.pure (S.nilPtr rfl) rfl ?_
   refine E.pure (S.field rfl fa153_11) rfl ?_
   refine E.loud0 (X.store 1 (k := 0) rfl rfl rfl rfl rfl Tryd.sizeOf150) ?_; rintro _ _ ⟨rfl,rfl⟩; refine E.relist (L2 := [_,_]) rfl ?_
   refine E.kp [(0,_),(5,_),(10,_)] rfl ?_
   first | exact ⟨rfl,_,_,_,rfl,.inl ⟨hl5,rfl,rfl,rfl⟩⟩ | exact ⟨rfl,_,_,_,rfl,.inr ⟨hl5,rfl,.inr ⟨by omega,hfl⟩⟩⟩ | exact ⟨rfl,_,_,_,rfl,.inr ⟨hl5,rfl,.inl ⟨by omega,rfl,rfl⟩⟩⟩
  refine C.skip ?_
  refine C.region ?_
  refine E.pure (S.move rfl) rfl ?_
  refine E.still (S.loadBase rfl hs.g0 Tryd.isAgg59) rfl ?_
  refine E.pure (S.nilPtr rfl) rfl ?_
  refine E.pure (S.field rfl fa153_14) rfl ?_
  refine E.loud0 (X.store 1 (k := 3) rfl rfl rfl (one_er (a := ea) .eof) rfl Tryd.sizeOf59) ?_; rintro _ _ ⟨rfl,rfl⟩; refine E.relist (L2 := [_,_]) rfl ?_
  refine E.kp [(0,_),(5,_),(10,_)] rfl ?_
  refine C.region ?_
  refine E.pure (S.move rfl) rfl ?_
  refine E.pure (S.nilPtr rfl) rfl ?_
  refine E.pure (S.field rfl fa153_11) rfl ?_
  refine E.loud0 (X.store 1 (k := 0) rfl rfl rfl rfl rfl Tryd.sizeOf150) ?_; rintro _ _ ⟨rfl,rfl⟩; refine E.relist (L2 := [_,_]) rfl ?_
  refine E.kp [(0,_),(5,_),(10,_)] rfl ?_
  first | exact ⟨rfl,_,_,_,rfl,.inl ⟨hl5,rfl,rfl,rfl⟩⟩ | exact ⟨rfl,_,_,_,rfl,.inr ⟨hl5,rfl,.inr ⟨by omega,hfl⟩⟩⟩ | exact ⟨rfl,_,_,_,rfl,.inr ⟨hl5,rfl,.inl ⟨by omega,rfl,rfl⟩⟩⟩
 have hl5 : last = false := by simpa using h5
 refine C.skip ?_
 refine C.region ?_
 refine E.pure (S.move rfl) rfl ?_
 refine E.pure (S.nilPtr rfl) rfl ?_
 refine E.pure (S.field rfl fa153_11) rfl ?_
 refine E.loud0 (X.store 1 (k := 0) rfl rfl rfl rfl rfl Tryd.sizeOf150) ?_; rintro _ _ ⟨rfl,rfl⟩; refine E.relist (L2 := [_,_]) rfl ?_
 refine E.kp [(0,_),(5,_)] rfl ?_
 exact ⟨rfl,_,_,_,rfl,.inl ⟨hl5,rfl,rfl,rfl⟩⟩
end Go.Eng
namespace Go.Eng
set_option maxRecDepth 100000

theorem symR_some {lens : List Nat} {mn : Nat} {D : List UInt8} {p v : Nat} (h : symR lens mn D p = some v) : Mat lens v (bitsAt D p) ∧ p + lenOf lens v ≤ 8 * D.length := by
  unfold symR at h
  split at h
  · cases h
  · obtain ⟨h1,h2⟩ := findS_some.1 h
    have := h1.1
    unfold left at h2
    exact ⟨h1,by omega⟩

section
variable {D : List UInt8} {last : Bool} {t : Tabs} {out : List UInt8} {p v : Nat}

theorem run_none (h : symR t.lit t.mn D p = none) : run D (.sym last t) out p = (out,.bad) := by rw [run]; simp only [h]

theorem run_lit (h : symR t.lit t.mn D p = some v) (hv : v < 256) : run D (.sym last t) out p = run D (.sym last t) (out ++ [UInt8.ofNat v]) (p + lenOf t.lit v) := by
  obtain ⟨h1,h2⟩ := symR_some h
  have h3 := h1.1
  rw [run]
  simp only [h]
  rw [if_pos hv,dif_pos ⟨by omega,h2⟩]

theorem run_eob (h : symR t.lit t.mn D p = some 256) : (last = true → run D (.sym last t) out p = (out,.done ((p + lenOf t.lit 256 + 7) / 8))) ∧ (last = false → run D (.sym last t) out p = run D .next out (p + lenOf t.lit 256)) := by
  obtain ⟨h1,h2⟩ := symR_some h
  have h3 := h1.1
  refine ⟨fun e => ?_,fun e => ?_⟩
  · subst e
    rw [run]; simp only [h]
    rw [if_neg (by decide),if_pos trivial,if_pos trivial]
  · subst e
    obtain ⟨r,hr⟩ : ∃ r,r = run D .next out (p + lenOf t.lit 256) := ⟨_,rfl⟩
    rw [← hr,run]; simp only [h]
    rw [if_neg (by decide),if_pos trivial,if_neg (by decide),hr]
    exact dif_pos ⟨by omega,h2⟩

theorem run_big (h : symR t.lit t.mn D p = some v) (hv : 286 ≤ v) : run D (.sym last t) out p = (out,.bad) := by
  rw [run]
  simp only [h]
  rw [if_neg (by omega),if_neg (by omega),if_pos hv]

theorem run_copyR (h : symR t.lit t.mn D p = some v) (h1 : 257 ≤ v) (h2 : v < 286) : run D (.sym last t) out p = match copyR t D v (p + lenOf t.lit v) with
    | none => (out,.bad)
    | some (n,d,p2) => if out.length < d then (out,.bad) else if p < p2 ∧ p2 ≤ 8 * D.length then run D (.sym last t) (copyN out d n) p2 else (out,.bad) := by
  rw [run]
  simp only [h]
  rw [if_neg (by omega),if_neg (by omega),if_neg (by omega)]
  split
  · rename_i heq; rw [heq]
  · rename_i heq; rw [heq]
    simp only
    split
    · rfl
    · split
      · rfl
      · rfl

theorem run_bad (h : symR t.lit t.mn D p = some v) (h1 : 257 ≤ v) (h2 : v < 286) (hc : copyR t D v (p + lenOf t.lit v) = none) : run D (.sym last t) out p = (out,.bad) := by rw [run_copyR h h1 h2,hc]

theorem run_far {n d p2 : Nat} (h : symR t.lit t.mn D p = some v) (h1 : 257 ≤ v) (h2 : v < 286) (hc : copyR t D v (p + lenOf t.lit v) = some (n,d,p2)) (hd : out.length < d) : run D (.sym last t) out p = (out,.bad) := by
  rw [run_copyR h h1 h2,hc]; simp only; rw [if_pos hd]

theorem run_copy {n d p2 : Nat} (h : symR t.lit t.mn D p = some v) (h1 : 257 ≤ v) (h2 : v < 286) (hc : copyR t D v (p + lenOf t.lit v) = some (n,d,p2)) (hd : d ≤ out.length) (hp : p < p2) (hl : p2 ≤ 8 * D.length) : run D (.sym last t) out p = run D (.sym last t) (copyN out d n) p2 := by
  rw [run_copyR h h1 h2,hc]; simp only; rw [if_neg (by omega),if_pos ⟨hp,hl⟩]

/-! ### A copy's parts -/
theorem copyR_more (h : left D p < moreL.getD (v - 257) 0) : copyR t D v p = none := by unfold copyR; rw [if_pos h]

theorem copyR_nodist (h : ¬ left D p < moreL.getD (v - 257) 0) (hd : symR t.dist 0 D (p + moreL.getD (v - 257) 0) = none) : copyR t D v p = none := by
  unfold copyR; rw [if_neg h]; simp only [hd]

variable {d : Nat}
theorem copyR_30 (h : ¬ left D p < moreL.getD (v - 257) 0) (hd : symR t.dist 0 D (p + moreL.getD (v - 257) 0) = some d) (h30 : 30 ≤ d) : copyR t D v p = none := by
  unfold copyR; rw [if_neg h]; simp only [hd]; rw [if_pos h30]

theorem copyR_fur (h : ¬ left D p < moreL.getD (v - 257) 0) (hd : symR t.dist 0 D (p + moreL.getD (v - 257) 0) = some d) (h30 : d < 30) (hf : left D (p + moreL.getD (v - 257) 0 + lenOf t.dist d) < furL.getD d 0) : copyR t D v p = none := by
  unfold copyR; rw [if_neg h]; simp only [hd]; rw [if_neg (by omega),if_pos hf]

theorem copyR_some (h : ¬ left D p < moreL.getD (v - 257) 0) (hd : symR t.dist 0 D (p + moreL.getD (v - 257) 0) = some d) (h30 : d < 30) (hf : ¬ left D (p + moreL.getD (v - 257) 0 + lenOf t.dist d) < furL.getD d 0) :
    copyR t D v p = some (sizesL.getD (v - 257) 0 + takeB D p (moreL.getD (v - 257) 0),farL.getD d 0 + takeB D (p + moreL.getD (v - 257) 0 + lenOf t.dist d) (furL.getD d 0),p + moreL.getD (v - 257) 0 + lenOf t.dist d + furL.getD d 0) := by
  unfold copyR; rw [if_neg h]; simp only [hd]; rw [if_neg (by omega),if_neg hf]
end

/-! ### The tables of lengths and distances -/
theorem size_tab0 {v : Nat} (h1 : 257 ≤ v) (h2 : v < 265) : moreL.getD (v - 257) 0 = 0 ∧ sizesL.getD (v - 257) 0 = 1 * v - 254 := by
  have key : ∀ k,k < 8 → 0 ≤ k → moreL.getD k 0 = 0 ∧ sizesL.getD k 0 = 1 * (k + 257) - 254 := by decide
  have := key (v - 257) (by omega) (by omega)
  rw [show v - 257 + 257 = v by omega] at this
  exact this
theorem size_tab1 {v : Nat} (h1 : 265 ≤ v) (h2 : v < 269) : moreL.getD (v - 257) 0 = 1 ∧ sizesL.getD (v - 257) 0 = 2 * v - 519 := by
  have key : ∀ k,k < 12 → 8 ≤ k → moreL.getD k 0 = 1 ∧ sizesL.getD k 0 = 2 * (k + 257) - 519 := by decide
  have := key (v - 257) (by omega) (by omega)
  rw [show v - 257 + 257 = v by omega] at this
  exact this
theorem size_tab2 {v : Nat} (h1 : 269 ≤ v) (h2 : v < 273) : moreL.getD (v - 257) 0 = 2 ∧ sizesL.getD (v - 257) 0 = 4 * v - 1057 := by
  have key : ∀ k,k < 16 → 12 ≤ k → moreL.getD k 0 = 2 ∧ sizesL.getD k 0 = 4 * (k + 257) - 1057 := by decide
  have := key (v - 257) (by omega) (by omega)
  rw [show v - 257 + 257 = v by omega] at this
  exact this
theorem size_tab3 {v : Nat} (h1 : 273 ≤ v) (h2 : v < 277) : moreL.getD (v - 257) 0 = 3 ∧ sizesL.getD (v - 257) 0 = 8 * v - 2149 := by
  have key : ∀ k,k < 20 → 16 ≤ k → moreL.getD k 0 = 3 ∧ sizesL.getD k 0 = 8 * (k + 257) - 2149 := by decide
  have := key (v - 257) (by omega) (by omega)
  rw [show v - 257 + 257 = v by omega] at this
  exact this
theorem size_tab4 {v : Nat} (h1 : 277 ≤ v) (h2 : v < 281) : moreL.getD (v - 257) 0 = 4 ∧ sizesL.getD (v - 257) 0 = 16 * v - 4365 := by
  have key : ∀ k,k < 24 → 20 ≤ k → moreL.getD k 0 = 4 ∧ sizesL.getD k 0 = 16 * (k + 257) - 4365 := by decide
  have := key (v - 257) (by omega) (by omega)
  rw [show v - 257 + 257 = v by omega] at this
  exact this
theorem size_tab5 {v : Nat} (h1 : 281 ≤ v) (h2 : v < 285) : moreL.getD (v - 257) 0 = 5 ∧ sizesL.getD (v - 257) 0 = 32 * v - 8861 := by
  have key : ∀ k,k < 28 → 24 ≤ k → moreL.getD k 0 = 5 ∧ sizesL.getD k 0 = 32 * (k + 257) - 8861 := by decide
  have := key (v - 257) (by omega) (by omega)
  rw [show v - 257 + 257 = v by omega] at this
  exact this
theorem size_tab6 {v : Nat} (h1 : 285 ≤ v) (h2 : v < 286) : moreL.getD (v - 257) 0 = 0 ∧ sizesL.getD (v - 257) 0 = 258 := by
  have : v = 285 := by omega
  subst this; decide

theorem size_bound {D : List UInt8} {v p : Nat} (h1 : v < 286) (h2 : 257 ≤ v) : sizesL.getD (v - 257) 0 + takeB D p (moreL.getD (v - 257) 0) ≤ 258 ∧ moreL.getD (v - 257) 0 ≤ 5 := by
  have h := takeB_lt D p (moreL.getD (v - 257) 0)
  have key : ∀ k,k < 29 → sizesL.getD k 0 + 2 ^ moreL.getD k 0 ≤ 259 ∧ moreL.getD k 0 ≤ 5 := by decide
  have := key (v - 257) (by omega)
  omega

theorem far_tab : ∀ d,d < 30 → (d < 4 → furL.getD d 0 = 0 ∧ farL.getD d 0 = d + 1) ∧ (4 ≤ d → furL.getD d 0 = (d - 2) / 2 ∧ farL.getD d 0 = 2 ^ ((d - 2) / 2 + 1) + 1 + d % 2 * 2 ^ ((d - 2) / 2) ∧ (d - 2) / 2 ≤ 13) := by decide

theorem far_bound {D : List UInt8} {d p : Nat} (h1 : d < 30) : 1 ≤ farL.getD d 0 + takeB D p (furL.getD d 0) ∧ farL.getD d 0 + takeB D p (furL.getD d 0) ≤ 32768 := by
  have h := takeB_lt D p (furL.getD d 0)
  have key : ∀ k,k < 30 → 1 ≤ farL.getD k 0 ∧ farL.getD k 0 + 2 ^ furL.getD k 0 ≤ 32769 := by decide
  have := key d h1
  omega

/-! ### The fixed code of distances -/
theorem fix_first : firstC fixDist 5 = 0 := by decide
theorem fix_len {i : Nat} (h : i < 32) : lenOf fixDist i = 5 := by
  rw [lenOf,fixDist,List.getD_eq_getElem?_getD,List.getElem?_replicate,if_pos h]; rfl
theorem fix_code {i : Nat} (h : i < 32) : codeOf fixDist i = i := by
  rw [codeOf,fix_len h,fix_first,fixDist,List.take_replicate,List.count_replicate]
  simp; omega
theorem sym_fix {D : List UInt8} {p : Nat} (h : ¬ left D p < 5) : symR fixDist 0 D p = some (revB 5 (takeB D p 5)) ∧ revB 5 (takeB D p 5) < 32 := by
  have hlt : revB 5 (takeB D p 5) < 32 := revB_lt 5 _
  refine ⟨?_,hlt⟩
  unfold symR
  rw [if_neg (by omega)]
  refine findS_some.2 ⟨⟨by rw [fix_len hlt]; decide,?_⟩,by rw [fix_len hlt]; omega⟩
  rw [fix_len hlt,fix_code hlt,takeB,revB_mod]
theorem sym_fix_none {D : List UInt8} {p : Nat} (h : left D p < 5) : symR fixDist 0 D p = none := by
  unfold symR
  rw [if_neg (by omega)]
  refine findS_none fun i hi => ?_
  have h1 := lenOf_lt hi.1
  rw [fixDist,List.length_replicate] at h1
  rw [fix_len h1]; exact h
end Go.Eng
