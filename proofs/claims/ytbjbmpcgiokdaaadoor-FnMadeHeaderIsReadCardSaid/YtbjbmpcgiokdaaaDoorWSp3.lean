/-
  Walk of the reference: Start.
-/
import Derived.Test.YtbjbmpcgiokdaaaDoorSp
set_option linter.unusedVariables false
set_option linter.unusedSimpArgs false
namespace Go.Eng
open Go Go.Proofs
set_option maxRecDepth 100000


theorem KB.sub {K : Known} {b o : Nat} {l : List UInt8} (h : KB K b o l) (k m : Nat) : KB K b (o + k) ((l.drop k).take m) := by
  intro j hj
  have hj' : j < (l.drop k).length := Nat.lt_of_lt_of_le hj (by rw [List.length_take]; exact Nat.min_le_right _ _)
  rw [h.drop k j hj', List.getElem_take]
theorem KB.mono {K K' : Known} (hk : ∀ b o, K b = some o → K' b = some o) {b o : Nat} {l : List UInt8} (h : KB K b o l) : KB K' b o l := fun j hj => cellAt_mono hk (h j hj)

theorem latin_any {K : Known} {L : Frags} (pb po cap : Nat) (l : List UInt8) (hp : KB K pb po l) (hl : l.length ≤ 35184372088832) : Fn Tryd.prog K 21 #[.slice (some ⟨pb, po, none⟩) (l.length) (cap)] L (fun v L' => v = .string (latin l) ∧ L' = L) :=
  Fn.stillR fun w hw => latin_spec pb po cap l (hp.mono fun b o h => hw.base b o h) hl

/-- The extra field of the reference. -/
def ExSp (ex : Option (List UInt8)) (v : Value) (g : Frag) : Prop := match ex with
  | none => v = .slice none 0 0
  | some d => (d = [] ∧ v = .slice none 0 0) ∨ Own d v g

def spK (b : List UInt8) (flg k n : Nat) (h : Hd) : SpR := if k = 0 then sp2 b flg n h else if k = 1 then sp3 b flg n h else sp4 b flg n h
def flagK (k : Nat) : Nat := if k = 0 then 8 else 16
theorem flagK_lt (k : Nat) : flagK k < 256 := by unfold flagK; split <;> decide
def putK (k : Nat) (h : Hd) (t : ByteArray) : Hd := if k = 0 then { h with name := t } else { h with comment := t }

theorem spK_skip {b : List UInt8} {flg k n : Nat} {h : Hd} (hk : k < 2) (hf : flg &&& flagK k = 0) : spK b flg k n h = spK b flg (k + 1) n h := by
  rcases (show k = 0 ∨ k = 1 by omega) with rfl | rfl
  · have hf' : flg &&& 8 = 0 := hf
    show sp2 b flg n h = sp3 b flg n h
    rw [sp2, if_pos hf']
  · have hf' : flg &&& 16 = 0 := hf
    show sp3 b flg n h = sp4 b flg n h
    rw [sp3, if_pos hf']
theorem spK_bad {b : List UInt8} {flg k n : Nat} {h : Hd} (hk : k < 2) (hf : ¬ flg &&& flagK k = 0) (he : n + strLen (b.drop n) = b.length) : spK b flg k n h = (h, 0, 1, 0) := by
  rcases (show k = 0 ∨ k = 1 by omega) with rfl | rfl
  · have hf' : ¬ flg &&& 8 = 0 := hf
    show sp2 b flg n h = _
    rw [sp2, if_neg hf', if_pos he]
  · have hf' : ¬ flg &&& 16 = 0 := hf
    show sp3 b flg n h = _
    rw [sp3, if_neg hf', if_pos he]
theorem spK_open {b : List UInt8} {flg k n : Nat} {h : Hd} (hk : k < 2) (hf : ¬ flg &&& flagK k = 0) (he : ¬ n + strLen (b.drop n) = b.length) (hl : 512 ≤ strLen (b.drop n)) : spK b flg k n h = (h, 0, 2, 0) := by
  rcases (show k = 0 ∨ k = 1 by omega) with rfl | rfl
  · have hf' : ¬ flg &&& 8 = 0 := hf
    show sp2 b flg n h = _
    rw [sp2, if_neg hf', if_neg he, if_pos hl]
  · have hf' : ¬ flg &&& 16 = 0 := hf
    show sp3 b flg n h = _
    rw [sp3, if_neg hf', if_neg he, if_pos hl]
theorem spK_name {b : List UInt8} {flg n : Nat} {h : Hd} (hf : ¬ flg &&& flagK 0 = 0) (he : ¬ n + strLen (b.drop n) = b.length) (hl : ¬ 512 ≤ strLen (b.drop n)) :
    spK b flg 0 n h = spK b flg 1 (n + (strLen (b.drop n) + 1)) { h with name := latin ((b.drop n).take (strLen (b.drop n))) } := by
  have hf' : ¬ flg &&& 8 = 0 := hf
  show sp2 b flg n h = sp3 _ _ _ _
  rw [sp2, if_neg hf', if_neg he, if_neg hl]
theorem spK_comment {b : List UInt8} {flg n : Nat} {h : Hd} (hf : ¬ flg &&& flagK 1 = 0) (he : ¬ n + strLen (b.drop n) = b.length) (hl : ¬ 512 ≤ strLen (b.drop n)) :
    spK b flg 1 n h = spK b flg 2 (n + (strLen (b.drop n) + 1)) { h with comment := latin ((b.drop n).take (strLen (b.drop n))) } := by
  have hf' : ¬ flg &&& 16 = 0 := hf
  show sp3 b flg n h = sp4 _ _ _ _
  rw [sp3, if_neg hf', if_neg he, if_neg hl]

theorem le16_little {l : List UInt8} (h : 2 ≤ l.length) : littleN (l.take 2) = le16of l := by
  match l, h with
  | a :: c :: r, _ =>
    show a.toNat + 256 * (c.toNat + 256 * 0) = le16 a.toNat c.toNat
    rw [le16_val a.toNat_lt c.toNat_lt]; omega

theorem le32_val {a b c d : Nat} (ha : a < 256) (hb : b < 256) (hc : c < 256) (hd : d < 256) : le32 a b c d = a + 256 * b + 65536 * c + 16777216 * d := by
  unfold le32
  rw [show (b <<< 8) % 4294967296 = b <<< 8 by rw [Nat.shiftLeft_eq]; omega, show (c <<< 16) % 4294967296 = c <<< 16 by rw [Nat.shiftLeft_eq]; omega, show (d <<< 24) % 4294967296 = d <<< 24 by rw [Nat.shiftLeft_eq]; omega]
  have h1 := Nat.shiftLeft_add_eq_or_of_lt (b := a) (i := 8) (by omega) b
  have h2 := Nat.shiftLeft_add_eq_or_of_lt (b := a ||| b <<< 8) (i := 16) (by rw [Nat.or_comm, ← h1, Nat.shiftLeft_eq]; omega) c
  have h3 := Nat.shiftLeft_add_eq_or_of_lt (b := a ||| b <<< 8 ||| c <<< 16) (i := 24) (by rw [Nat.or_comm, ← h2, Nat.or_comm a, ← h1, Nat.shiftLeft_eq, Nat.shiftLeft_eq]; omega) d
  rw [Nat.or_comm _ (d <<< 24), ← h3, Nat.or_comm _ (c <<< 16), ← h2, Nat.or_comm a, ← h1]
  simp only [Nat.shiftLeft_eq]; omega
theorem le32_little {l : List UInt8} (h : 4 ≤ l.length) : littleN (l.take 4) = le32 (l.getD 0 0).toNat (l.getD 1 0).toNat (l.getD 2 0).toNat (l.getD 3 0).toNat := by
  match l, h with
  | a :: c :: x :: y :: r, _ =>
    show a.toNat + 256 * (c.toNat + 256 * (x.toNat + 256 * (y.toNat + 256 * 0))) = le32 a.toNat c.toNat x.toNat y.toNat
    rw [le32_val a.toNat_lt c.toNat_lt x.toNat_lt y.toNat_lt]; omega

section
variable {K : Known} {n : Nat} {env : Env} {L : Frags} {ty : TypeId}
/-- append of bytes to none. -/
theorem X.appendNil {x y : Operand} {k yc : Nat} {ya : Option Addr} {ys : List UInt8} (hx : ev? env x = some (.slice none 0 0)) (hy : ev? env y = some (.slice ya k yc)) (hk : k = ys.length)
    (hread : ∃ yb yo, ya = some ⟨yb, yo, none⟩ ∧ Reads K L yb yo (bytesV ys)) (hb : ys.length ≤ 140737488355328) :
    OpX Tryd.prog K n (.call { callee := .builtin .append, args := #[x, y], argTypes := #[22, 22] }) ty env L fun v' L' =>
      (ys = [] ∧ v' = .slice none 0 0 ∧ L' = L) ∨ (∃ b o c cs, ys ≠ [] ∧ v' = .slice (some ⟨b, o, none⟩) ys.length c ∧ L' = ⟨b, o, bytesV ys ++ cs⟩ :: L ∧ ys.length ≤ c) := by
  by_cases he : ys = []
  · subst he
    intro ac w hf hw
    subst hk
    have hrun : (Builtin.append_ #[22, 22] ty #[.slice none 0 0, .slice ya 0 yc]).run Tryd.prog w = .ok (.slice none 0 0) w := by
      cases ya <;> simp [Builtin.append_, run_underlying Tryd.underlying22, sizeOf, typeInfo, infoB, Tryd.t5, Builtin.lenOf, Builtin.firstCells, loadCells, loadCellsFrom]
    have : (exop ac.eval (.call { callee := .builtin .append, args := #[x, y], argTypes := #[22, 22] }) ty).run Tryd.prog w = .ok (.value (.slice none 0 0)) w := by
      simp only [exop, execOp, resolve]
      simp [hf.eval hx, hf.eval hy, invoke_builtin, builtin_eq .append _ _ _ _ _ rfl hrun]
    rw [this]
    exact ⟨_, .inl ⟨rfl, rfl, rfl⟩, To.refl hw⟩
  · have h := X.appendB (K := K) (n := n) (ty := ty) (env := env) (L := L) (xs := []) (ys := ys) (Lf := []) hx hy (Sl.nil 1) hk (.inr hread) (by simpa using hb)
    refine OpX.mono h ?_
    rintro v' L' ⟨Lf', h1, rfl⟩
    rw [List.nil_append] at h1
    obtain ⟨b, o, c, cs, rfl, rfl, h2, h3, h4, h5⟩ := h1.one (List.length_pos_iff.2 he)
    rw [Nat.mul_one] at h5
    exact .inr ⟨b, o, c, cs.drop ys.length, he, rfl, by rw [← h5]; simp, h3⟩
end

theorem getD_kb {K : Known} {pb po : Nat} {b : List UInt8} (hp : KB K pb po b) {j : Nat} (hj : j < b.length) : cellAt K pb (po + j * 1) = some (u8 (b.getD j 0)) := by
  rw [hp.at hj]; simp [hj]
def StartRes (b : List UInt8) (r : Value) (L : Frags) : Prop :=
  ∃ xa xn xc g, ExSp (spStart b).1.extra (.slice xa xn xc) g ∧ g ∈ L ∧
    r = .tuple #[.agg #[.string (spStart b).1.name, .string (spStart b).1.comment, .slice xa xn xc, .int .i64 (((spStart b).1.mod : Nat) : Int), .int .u8 (((spStart b).1.os : Nat) : Int)], .int .i64 (((spStart b).2.1 : Nat) : Int), .int .i64 (((spStart b).2.2.1 : Nat) : Int), .int .i64 (((spStart b).2.2.2 : Nat) : Int)]
theorem flagK_get (k : Nat) (hk : k < 2) : ([.int .u8 8, .int .u8 16] : List Value)[k]? = some (.int .u8 ((flagK k : Nat) : Int)) := by
  rcases (show k = 0 ∨ k = 1 by omega) with rfl | rfl <;> rfl
theorem nz_more {l : List UInt8} {s : Nat} (h : ∀ c ∈ l.take s, c ≠ 0) (hs : s < l.length) (hz : l[s] ≠ 0) : ∀ c ∈ l.take (s + 1), c ≠ 0 := by
  rw [take_snoc hs]
  intro c hc
  rcases List.mem_append.1 hc with h1 | h1
  · exact h c h1
  · rw [List.mem_singleton.1 h1]; exact hz

theorem kb_part {K : Known} {pb po cap : Nat} {b : List UInt8} (hp : KB K pb po b) (hcap : b.length ≤ cap) (lo m : Nat) : KB K pb (part po lo cap 1) ((b.drop lo).take m) := by
  unfold Go.Eng.part
  split
  · rw [List.drop_eq_nil_of_le (by omega), List.take_nil]
    intro j hj; simp at hj
  · rw [Nat.mul_one]; exact hp.sub lo m

set_option maxHeartbeats 4000000
theorem start_spec {K : Known} (pb po cap : Nat) (b : List UInt8) (hp : KB K pb po b) (hl : b.length ≤ 4294967296) (hcap : b.length ≤ cap) : Fn Tryd.prog K 9 #[.slice (some ⟨pb, po, none⟩) (b.length) (cap)] [] (StartRes b) := by
  refine Fn.intro (args := [.slice (some ⟨pb, po, none⟩) (b.length) (cap)]) (RR := RetC3 2 5 3 4 5 _) Tryd.func9 rfl rfl Tryd.ntmps9 (resC3 Tryd.results9 Tryd.isAgg24 Tryd.sizeOf24) ?_
  refine C.reenv (env2 := [(0, .slice (some ⟨pb, po, none⟩) (b.length) (cap))]) rfl ?_
  refine C.seq ?_
  refine C.region ?_
  refine E.loud1 (X.alloc Tryd.zeroValue24) rfl ?_; rintro _ _ ⟨b2, rfl, rfl⟩; refine E.relist (L2 := [_]) rfl ?_
  refine E.pure (S.assign rfl) rfl ?_
  refine E.pure (S.assign rfl) rfl ?_
  refine E.pure (S.assign rfl) rfl ?_
  refine E.keep [0, 2, 3, 4, 5] (env1 := [(0, _), (2, _), (3, _), (4, _), (5, _)]) rfl ?_
  refine C.seq ?_
  refine C.seq ?_
  refine C.region ?_
  refine E.pure (S.move rfl) rfl ?_
  refine E.pure (S.lenSl rfl Tryd.underlying22) rfl ?_
  refine E.pure (S.lt (b := ((10 : Nat) : Int)) rfl rfl) rfl ?_
  refine E.keep [0, 2, 3, 4, 5, 13] (env1 := [(0, _), (2, _), (3, _), (4, _), (5, _), (13, _)]) rfl ?_
  first | refine C.ifp rfl (fun h13 => ?_) (fun h13 => ?_) | refine C.cond rfl (fun h13 => ?_) (fun h13 => ?_)
  ·
    refine C.seq ?_
    refine C.region ?_
    refine E.still (S.loadA 0 (k := 0) rfl rfl rfl rfl Tryd.isAgg24 Tryd.sizeOf24) rfl ?_
    refine E.loud0 (X.storeA 0 (k := 0) rfl rfl rfl rfl rfl rfl Tryd.sizeOf24 rfl) ?_; rintro _ _ ⟨rfl, rfl⟩; refine E.relist (L2 := [_]) rfl ?_
    refine E.pure (S.assign rfl) rfl ?_
    refine E.pure (S.assign rfl) rfl ?_
    refine E.pure (S.assign rfl) rfl ?_
    refine E.keep [0, 2, 3, 4, 5, 13] (env1 := [(0, _), (2, _), (3, _), (4, _), (5, _), (13, _)]) rfl ?_
    refine C.ret ?_
    have hRR : spStart b = (noHd, 0, 1, 0) := by rw [spStart, if_pos (by omega)]
    refine ⟨_, _, _, _, ⟨_, _, 0, rfl, rfl, rfl⟩, rfl, rfl, rfl, none, 0, 0, _, by rw [hRR]; rfl, (.head _), ?_⟩
    first | (rw [hRR]; done) | (rw [hRR]; rfl)
  ·
    have g0 := getD_kb hp (j := 0) (by omega)
    have g1 := getD_kb hp (j := 1) (by omega)
    have g2 := getD_kb hp (j := 2) (by omega)
    have g3 := getD_kb hp (j := 3) (by omega)
    have g9 := getD_kb hp (j := 9) (by omega)
    have e0 := (b.getD 0 0).toNat_lt
    have e1 := (b.getD 1 0).toNat_lt
    have e2 := (b.getD 2 0).toNat_lt
    have e3 := (b.getD 3 0).toNat_lt
    have e4 := (b.getD 4 0).toNat_lt
    have e5 := (b.getD 5 0).toNat_lt
    have e6 := (b.getD 6 0).toNat_lt
    have e7 := (b.getD 7 0).toNat_lt
    have e8 := (b.getD 8 0).toNat_lt
    have e9 := (b.getD 9 0).toNat_lt
    have hmod : littleN ((b.drop 4).take 4) = le32 (b.getD 4 0).toNat (b.getD 5 0).toNat (b.getD 6 0).toNat (b.getD 7 0).toNat := by rw [le32_little (by rw [List.length_drop]; omega)]; simp [List.getD, List.getElem?_drop]
    refine C.skip ?_
    refine C.seq ?_
    refine C.seq ?_
    refine C.region ?_
    refine E.pure (S.move rfl) rfl ?_
    refine E.pure (S.ixSl (i := 0) rfl rfl (by omega) Tryd.underlying22 Tryd.sizeOf5) rfl ?_
    first | refine E.still (S.load 0 rfl rfl rfl Tryd.isAgg5) rfl ?_ | refine E.still (S.loadBase rfl (by assumption) Tryd.isAgg5) rfl ?_
    refine E.pure (S.ne (b := ((31 : Nat) : Int)) rfl rfl) rfl ?_
    refine E.pure (S.move rfl) rfl ?_
    first | refine E.fork (fun g19 => ?_) (fun g19 => ?_) | refine E.forkB (fun g19 => ?_) (fun g19 => ?_)
    ·
      refine E.guardNo 19 true rfl rfl rfl rfl ?_
      refine E.guardNo 19 true rfl rfl rfl rfl ?_
      refine E.guardNo 19 true rfl rfl rfl rfl ?_
      refine E.guardNo 19 true rfl rfl rfl rfl ?_
      refine E.pure (S.pickT rfl rfl) rfl ?_
      refine E.pure (S.move rfl) rfl ?_
      refine E.guardNo 25 true rfl rfl rfl rfl ?_
      refine E.guardNo 25 true rfl rfl rfl rfl ?_
      refine E.guardNo 25 true rfl rfl rfl rfl ?_
      refine E.guardNo 25 true rfl rfl rfl rfl ?_
      refine E.pure (S.pickT rfl rfl) rfl ?_
      refine E.keep [0, 2, 3, 4, 5, 13, 30] (env1 := [(0, _), (2, _), (3, _), (4, _), (5, _), (13, _), (30, _)]) rfl ?_
      refine C.yes rfl (rfl) ?_
      refine C.seq ?_
      refine C.region ?_
      refine E.still (S.loadA 0 (k := 0) rfl rfl rfl rfl Tryd.isAgg24 Tryd.sizeOf24) rfl ?_
      refine E.loud0 (X.storeA 0 (k := 0) rfl rfl rfl rfl rfl rfl Tryd.sizeOf24 rfl) ?_; rintro _ _ ⟨rfl, rfl⟩; refine E.relist (L2 := [_]) rfl ?_
      refine E.pure (S.assign rfl) rfl ?_
      refine E.pure (S.assign rfl) rfl ?_
      refine E.pure (S.assign rfl) rfl ?_
      refine E.keep [0, 2, 3, 4, 5, 13, 30] (env1 := [(0, _), (2, _), (3, _), (4, _), (5, _), (13, _), (30, _)]) rfl ?_
      refine C.ret ?_
      have hRR : spStart b = (noHd, 0, 1, 2) := by rw [spStart, if_neg (by omega), if_neg (by omega)]
      refine ⟨_, _, _, _, ⟨_, _, 0, rfl, rfl, rfl⟩, rfl, rfl, rfl, none, 0, 0, _, by rw [hRR]; rfl, (.head _), ?_⟩
      first | (rw [hRR]; done) | (rw [hRR]; rfl)
    ·
      refine E.wanted 19 rfl rfl ?_
      refine E.pure (S.move rfl) rfl ?_
      refine E.wanted 19 rfl rfl ?_
      refine E.pure (S.ixSl (i := 1) rfl rfl (by omega) Tryd.underlying22 Tryd.sizeOf5) rfl ?_
      refine E.wanted 19 rfl rfl ?_
      first | refine E.still (S.load 0 rfl rfl rfl Tryd.isAgg5) rfl ?_ | refine E.still (S.loadBase rfl (by assumption) Tryd.isAgg5) rfl ?_
      refine E.wanted 19 rfl rfl ?_
      refine E.pure (S.ne (b := ((139 : Nat) : Int)) rfl rfl) rfl ?_
      refine E.pure (S.pickF rfl rfl) rfl ?_
      refine E.pure (S.move rfl) rfl ?_
      first | refine E.fork (fun g25 => ?_) (fun g25 => ?_) | refine E.forkB (fun g25 => ?_) (fun g25 => ?_)
      ·
        refine E.guardNo 25 true rfl rfl rfl rfl ?_
        refine E.guardNo 25 true rfl rfl rfl rfl ?_
        refine E.guardNo 25 true rfl rfl rfl rfl ?_
        refine E.guardNo 25 true rfl rfl rfl rfl ?_
        refine E.pure (S.pickT rfl rfl) rfl ?_
        refine E.keep [0, 2, 3, 4, 5, 13, 30] (env1 := [(0, _), (2, _), (3, _), (4, _), (5, _), (13, _), (30, _)]) rfl ?_
        refine C.yes rfl (rfl) ?_
        refine C.seq ?_
        refine C.region ?_
        refine E.still (S.loadA 0 (k := 0) rfl rfl rfl rfl Tryd.isAgg24 Tryd.sizeOf24) rfl ?_
        refine E.loud0 (X.storeA 0 (k := 0) rfl rfl rfl rfl rfl rfl Tryd.sizeOf24 rfl) ?_; rintro _ _ ⟨rfl, rfl⟩; refine E.relist (L2 := [_]) rfl ?_
        refine E.pure (S.assign rfl) rfl ?_
        refine E.pure (S.assign rfl) rfl ?_
        refine E.pure (S.assign rfl) rfl ?_
        refine E.keep [0, 2, 3, 4, 5, 13, 30] (env1 := [(0, _), (2, _), (3, _), (4, _), (5, _), (13, _), (30, _)]) rfl ?_
        refine C.ret ?_
        have hRR : spStart b = (noHd, 0, 1, 2) := by rw [spStart, if_neg (by omega), if_neg (by omega)]
        refine ⟨_, _, _, _, ⟨_, _, 0, rfl, rfl, rfl⟩, rfl, rfl, rfl, none, 0, 0, _, by rw [hRR]; rfl, (.head _), ?_⟩
        first | (rw [hRR]; done) | (rw [hRR]; rfl)
      ·
        refine E.wanted 25 rfl rfl ?_
        refine E.pure (S.move rfl) rfl ?_
        refine E.wanted 25 rfl rfl ?_
        refine E.pure (S.ixSl (i := 2) rfl rfl (by omega) Tryd.underlying22 Tryd.sizeOf5) rfl ?_
        refine E.wanted 25 rfl rfl ?_
        first | refine E.still (S.load 0 rfl rfl rfl Tryd.isAgg5) rfl ?_ | refine E.still (S.loadBase rfl (by assumption) Tryd.isAgg5) rfl ?_
        refine E.wanted 25 rfl rfl ?_
        refine E.pure (S.ne (b := ((8 : Nat) : Int)) rfl rfl) rfl ?_
        refine E.pure (S.pickF rfl rfl) rfl ?_
        refine E.keep [0, 2, 3, 4, 5, 13, 30] (env1 := [(0, _), (2, _), (3, _), (4, _), (5, _), (13, _), (30, _)]) rfl ?_
        first | refine C.ifp rfl (fun h30 => ?_) (fun h30 => ?_) | refine C.cond rfl (fun h30 => ?_) (fun h30 => ?_)
        ·
          refine C.seq ?_
          refine C.region ?_
          refine E.still (S.loadA 0 (k := 0) rfl rfl rfl rfl Tryd.isAgg24 Tryd.sizeOf24) rfl ?_
          refine E.loud0 (X.storeA 0 (k := 0) rfl rfl rfl rfl rfl rfl Tryd.sizeOf24 rfl) ?_; rintro _ _ ⟨rfl, rfl⟩; refine E.relist (L2 := [_]) rfl ?_
          refine E.pure (S.assign rfl) rfl ?_
          refine E.pure (S.assign rfl) rfl ?_
          refine E.pure (S.assign rfl) rfl ?_
          refine E.keep [0, 2, 3, 4, 5, 13, 30] (env1 := [(0, _), (2, _), (3, _), (4, _), (5, _), (13, _), (30, _)]) rfl ?_
          refine C.ret ?_
          have hRR : spStart b = (noHd, 0, 1, 2) := by rw [spStart, if_neg (by omega), if_neg (by omega)]
          refine ⟨_, _, _, _, ⟨_, _, 0, rfl, rfl, rfl⟩, rfl, rfl, rfl, none, 0, 0, _, by rw [hRR]; rfl, (.head _), ?_⟩
          first | (rw [hRR]; done) | (rw [hRR]; rfl)
        ·
          refine C.skip ?_
          refine C.seq ?_
          refine C.region ?_
          refine E.pure (S.move rfl) rfl ?_
          refine E.pure (S.ixSl (i := 3) rfl rfl (by omega) Tryd.underlying22 Tryd.sizeOf5) rfl ?_
          first | refine E.still (S.load 0 rfl rfl rfl Tryd.isAgg5) rfl ?_ | refine E.still (S.loadBase rfl (by assumption) Tryd.isAgg5) rfl ?_
          refine E.pure (S.assign rfl) rfl ?_
          refine E.keep [0, 2, 3, 4, 5, 6, 13, 30] (env1 := [(0, _), (2, _), (3, _), (4, _), (5, _), (6, _), (13, _), (30, _)]) rfl ?_
          refine C.seq ?_
          refine C.seq ?_
          refine C.region ?_
          refine E.pure (S.move rfl) rfl ?_
          refine E.pure (S.and (b := ((224 : Nat) : Int)) rfl rfl (N.and_u8 (by omega) (by omega))) rfl ?_
          refine E.pure (S.ne (b := ((0 : Nat) : Int)) rfl rfl) rfl ?_
          refine E.keep [0, 2, 3, 4, 5, 6, 13, 30, 37] (env1 := [(0, _), (2, _), (3, _), (4, _), (5, _), (6, _), (13, _), (30, _), (37, _)]) rfl ?_
          first | refine C.ifp rfl (fun h37 => ?_) (fun h37 => ?_) | refine C.cond rfl (fun h37 => ?_) (fun h37 => ?_)
          ·
            refine C.seq ?_
            refine C.region ?_
            refine E.still (S.loadA 0 (k := 0) rfl rfl rfl rfl Tryd.isAgg24 Tryd.sizeOf24) rfl ?_
            refine E.loud0 (X.storeA 0 (k := 0) rfl rfl rfl rfl rfl rfl Tryd.sizeOf24 rfl) ?_; rintro _ _ ⟨rfl, rfl⟩; refine E.relist (L2 := [_]) rfl ?_
            refine E.pure (S.assign rfl) rfl ?_
            refine E.pure (S.assign rfl) rfl ?_
            refine E.pure (S.assign rfl) rfl ?_
            refine E.keep [0, 2, 3, 4, 5, 6, 13, 30, 37] (env1 := [(0, _), (2, _), (3, _), (4, _), (5, _), (6, _), (13, _), (30, _), (37, _)]) rfl ?_
            refine C.ret ?_
            have hRR : spStart b = (noHd, 0, 2, 0) := by rw [spStart, if_neg (by omega), if_pos (by omega), if_pos (by omega)]
            refine ⟨_, _, _, _, ⟨_, _, 0, rfl, rfl, rfl⟩, rfl, rfl, rfl, none, 0, 0, _, by rw [hRR]; rfl, (.head _), ?_⟩
            first | (rw [hRR]; done) | (rw [hRR]; rfl)
          ·
            refine C.skip ?_
            refine C.seq ?_
            refine C.draw [0, 1, 2, 0, 8, 16, 7, 71, 255, 511] (.pure 0 56 (.pure 1 57 (.pure 3 199 (.pure 4 207 (.alt 2 (.pure 6 63 (.alt 5 (.alt 7 (.pure 8 255 (.alt 9 .done .stop)) .stop) (.alt 7 (.seg [(5, 223), (8, 255)] (.alt 9 .done .stop)) .stop))) (.alt 5 (.alt 2 (.pure 6 63 (.alt 7 (.pure 8 255 (.alt 9 .done .stop)) .stop)) .stop) .stop)))))) mixed (by decide +kernel) ?_
            refine D.pure rfl (S.move rfl) rfl ?_
            refine D.pure rfl (S.slLH (lo := 4) (hi := 8) rfl rfl rfl (by omega) (by omega) Tryd.underlying22 Tryd.sizeOf5) rfl ?_
            refine D.reslot (v := .slice (some ⟨pb, po + (4), none⟩) (((b.drop (4)).take 4).length) (cap - (4))) (slice_to (by have hpa : part po (4) cap 1 = po + (4) * 1 := if_neg (by omega); omega) (by rw [List.length_take, List.length_drop]; omega) rfl) ?_
            refine D.pure rfl (S.move rfl) rfl ?_
            refine D.pure rfl (S.ixSl (i := 9) rfl rfl (by omega) Tryd.underlying22 Tryd.sizeOf5) rfl ?_
            refine D.alt ?_ ⟨?_, trivial⟩
            ·
              refine O.loud1 rfl (OpX.pick [] (F := [_]) rfl (X.call rfl Tryd.call20 (little_spec pb (po + (4)) (cap - (4)) ((b.drop (4)).take 4) (hp.sub (4) 4) (by rw [List.length_take]; omega)))) rfl ?_; rintro _ _ ⟨_, ⟨rfl, rfl⟩, rfl⟩; refine D.relist (L2 := [_]) rfl ?_
              refine D.pure rfl (S.field rfl fa24_3) rfl ?_
              refine D.alt ?_ ⟨?_, trivial⟩
              ·
                first | refine O.still rfl (S.load 0 rfl rfl rfl Tryd.isAgg5) rfl ?_ | refine O.still rfl (S.loadBase rfl (by assumption) Tryd.isAgg5) rfl ?_
                refine D.one ?_
                refine O.loud0 rfl (X.store 0 (k := 3) rfl rfl rfl rfl rfl Tryd.sizeOf2) ?_; rintro _ _ ⟨rfl, rfl⟩; refine D.relist (L2 := [_]) rfl ?_
                refine D.pure rfl (S.field rfl fa24_4) rfl ?_
                refine D.one ?_
                refine O.loud0 rfl (X.store 0 (k := 4) rfl rfl rfl rfl rfl Tryd.sizeOf5) ?_; rintro _ _ ⟨rfl, rfl⟩; refine D.relist (L2 := [_]) rfl ?_
                refine D.keep [0, 2, 3, 4, 5, 6, 13, 30, 37] (env1 := [(0, _), (2, _), (3, _), (4, _), (5, _), (6, _), (13, _), (30, _), (37, _)]) rfl ?_
                refine C.cut (M := fun ee ll => ∃ (n : Nat), ∃ (h : Hd), keeps ee [0, 2, 3, 6] = some [(0, .slice (some ⟨pb, po, none⟩) (b.length) (cap)), (2, .pointer (some ⟨b2, 0, none⟩)), (3, .int .i64 ((n : Nat) : Int)), (6, .int .u8 (((b.getD 3 0).toNat : Nat) : Int))] ∧ ll = [⟨b2, 0, [.string h.name, .string h.comment, .slice none 0 0, .int .i64 ((h.mod : Nat) : Int), .int .u8 ((h.os : Nat) : Int)]⟩] ∧ (n = 10) ∧ (h = { noHd with mod := le32 (b.getD 4 0).toNat (b.getD 5 0).toNat (b.getD 6 0).toNat (b.getD 7 0).toNat, os := (b.getD 9 0).toNat }) ∧ (spStart b = sp1 b (b.getD 3 0).toNat h)) ?_ ?_
                ·
                  refine C.region ?_
                  refine E.pure (S.assign rfl) rfl ?_
                  refine E.reslot (v := .int .i64 ((10 : Nat) : Int)) rfl ?_
                  refine E.keep [0, 2, 3, 4, 5, 6, 13, 30, 37] (env1 := [(0, _), (2, _), (3, _), (4, _), (5, _), (6, _), (13, _), (30, _), (37, _)]) rfl ?_
                  exact ⟨10, { noHd with mod := le32 (b.getD 4 0).toNat (b.getD 5 0).toNat (b.getD 6 0).toNat (b.getD 7 0).toNat, os := (b.getD 9 0).toNat }, rfl, (by first | (rw [← hmod]; done) | (rw [← hmod]; rfl)), rfl, rfl, by rw [spStart, if_neg (by omega), if_pos (by omega), if_neg (by omega)]⟩
                ·
                  rintro _ _ ⟨n, h, hq10, rfl, hn, hh, hR0⟩
                  refine C.weaken _ hq10 ?_
                  refine C.cut (M := fun ee ll => ∃ (n : Nat), ∃ (h : Hd), ∃ (xa : Option Addr), ∃ (xn : Nat), ∃ (xc : Nat), ∃ (xf : Frag), keeps ee [0, 2, 3, 6] = some [(0, .slice (some ⟨pb, po, none⟩) (b.length) (cap)), (2, .pointer (some ⟨b2, 0, none⟩)), (3, .int .i64 ((n : Nat) : Int)), (6, .int .u8 (((b.getD 3 0).toNat : Nat) : Int))] ∧ ll = [⟨b2, 0, [.string h.name, .string h.comment, .slice xa xn xc, .int .i64 ((h.mod : Nat) : Int), .int .u8 ((h.os : Nat) : Int)]⟩, xf] ∧ (spStart b = sp2 b (b.getD 3 0).toNat n h) ∧ (n ≤ b.length) ∧ (ExSp h.extra (.slice xa xn xc) xf)) ?_ ?_
                  ·
                    refine C.seq ?_
                    refine C.region ?_
                    refine E.pure (S.move rfl) rfl ?_
                    refine E.pure (S.and (b := ((4 : Nat) : Int)) rfl rfl (N.and_u8 (by omega) (by omega))) rfl ?_
                    refine E.pure (S.ne (b := ((0 : Nat) : Int)) rfl rfl) rfl ?_
                    refine E.keep [0, 2, 3, 6, 49] (env1 := [(0, _), (2, _), (3, _), (6, _), (49, _)]) rfl ?_
                    first | refine C.ifp rfl (fun h49 => ?_) (fun h49 => ?_) | refine C.cond rfl (fun h49 => ?_) (fun h49 => ?_)
                    ·
                      refine C.seq ?_
                      refine C.seq ?_
                      refine C.region ?_
                      refine E.pure (S.move rfl) rfl ?_
                      refine E.pure (S.lenSl rfl Tryd.underlying22) rfl ?_
                      refine E.pure (S.move rfl) rfl ?_
                      first | refine E.pure (S.sub rfl rfl (N.sub64 (by omega) (by omega))) rfl ?_ | refine E.pure (S.sub rfl rfl (N.subZ (by omega))) rfl ?_
                      refine E.pure (S.lt (b := ((2 : Nat) : Int)) rfl rfl) rfl ?_
                      refine E.pure (S.move rfl) rfl ?_
                      first | refine E.fork (fun g55 => ?_) (fun g55 => ?_) | refine E.forkB (fun g55 => ?_) (fun g55 => ?_)
                      ·
                        refine E.guardNo 55 true rfl rfl rfl rfl ?_
                        refine E.guardNo 55 true rfl rfl rfl rfl ?_
                        refine E.guardNo 55 true rfl rfl rfl rfl ?_
                        refine E.guardNo 55 true rfl rfl rfl rfl ?_
                        refine E.guardNo 55 true rfl rfl rfl rfl ?_
                        refine E.guardNo 55 true rfl rfl rfl rfl ?_
                        refine E.guardNo 55 true rfl rfl rfl rfl ?_
                        refine E.guardNo 55 true rfl rfl rfl rfl ?_
                        refine E.guardNo 55 true rfl rfl rfl rfl ?_
                        refine E.guardNo 55 true rfl rfl rfl rfl ?_
                        refine E.guardNo 55 true rfl rfl rfl rfl ?_
                        refine E.guardNo 55 true rfl rfl rfl rfl ?_
                        refine E.pure (S.pickT rfl rfl) rfl ?_
                        refine E.keep [0, 2, 3, 6, 49, 68] (env1 := [(0, _), (2, _), (3, _), (6, _), (49, _), (68, _)]) rfl ?_
                        refine C.yes rfl (rfl) ?_
                        refine C.seq ?_
                        refine C.region ?_
                        refine E.still (S.loadA 0 (k := 0) rfl rfl rfl rfl Tryd.isAgg24 Tryd.sizeOf24) rfl ?_
                        refine E.loud0 (X.storeA 0 (k := 0) rfl rfl rfl rfl rfl rfl Tryd.sizeOf24 rfl) ?_; rintro _ _ ⟨rfl, rfl⟩; refine E.relist (L2 := [_]) rfl ?_
                        refine E.pure (S.assign rfl) rfl ?_
                        refine E.pure (S.assign rfl) rfl ?_
                        refine E.pure (S.assign rfl) rfl ?_
                        refine E.keep [0, 2, 3, 4, 5, 6, 49, 68] (env1 := [(0, _), (2, _), (3, _), (4, _), (5, _), (6, _), (49, _), (68, _)]) rfl ?_
                        refine C.ret ?_
                        have hRR : spStart b = (h, 0, 1, 0) := by rw [hR0, sp1, ← hn, if_neg (by omega), if_pos (by omega)]
                        refine ⟨_, _, _, _, ⟨_, _, 0, rfl, rfl, rfl⟩, rfl, rfl, rfl, none, 0, 0, _, by rw [hRR, hh]; rfl, (.head _), ?_⟩
                        first | (rw [hRR]; done) | (rw [hRR]; rfl)
                      ·
                        refine E.wanted 55 rfl rfl ?_
                        refine E.pure (S.move rfl) rfl ?_
                        refine E.wanted 55 rfl rfl ?_
                        refine E.pure (S.lenSl rfl Tryd.underlying22) rfl ?_
                        refine E.wanted 55 rfl rfl ?_
                        refine E.pure (S.move rfl) rfl ?_
                        refine E.wanted 55 rfl rfl ?_
                        first | refine E.pure (S.sub rfl rfl (N.sub64 (by omega) (by omega))) rfl ?_ | refine E.pure (S.sub rfl rfl (N.subZ (by omega))) rfl ?_
                        refine E.wanted 55 rfl rfl ?_
                        first | refine E.pure (S.sub (b := ((2 : Nat) : Int)) rfl rfl (N.sub64 (by omega) (by omega))) rfl ?_ | refine E.pure (S.sub (b := ((2 : Nat) : Int)) rfl rfl (N.subZ (by omega))) rfl ?_
                        refine E.wanted 55 rfl rfl ?_
                        refine E.pure (S.move rfl) rfl ?_
                        refine E.wanted 55 rfl rfl ?_
                        refine E.pure (S.move rfl) rfl ?_
                        refine E.wanted 55 rfl rfl ?_
                        refine E.pure (S.move rfl) rfl ?_
                        refine E.wanted 55 rfl rfl ?_
                        first | refine E.pure (S.add (b := ((2 : Nat) : Int)) rfl rfl (N.add64 (by omega))) rfl ?_ | refine E.pure (S.add (b := ((2 : Nat) : Int)) rfl rfl (N.addZ (by omega))) rfl ?_
                        refine E.wanted 55 rfl rfl ?_
                        refine E.pure (S.slLH rfl rfl rfl (by omega) (by omega) Tryd.underlying22 Tryd.sizeOf5) rfl ?_
                        refine E.reslot (v := .slice (some ⟨pb, po + (n), none⟩) (((b.drop (n)).take 2).length) (cap - (n))) (slice_to (by have hpa : part po (n) cap 1 = po + (n) * 1 := if_neg (by omega); omega) (by rw [List.length_take, List.length_drop]; omega) rfl) ?_
                        refine E.wanted 55 rfl rfl ?_
                        refine E.loud1 (OpX.pick [] (F := [_]) rfl (X.call rfl Tryd.call20 (little_spec pb (po + (n)) (cap - (n)) ((b.drop (n)).take 2) (hp.sub (n) 2) (by rw [List.length_take]; omega)))) rfl ?_; rintro _ _ ⟨_, ⟨rfl, rfl⟩, rfl⟩; refine E.relist (L2 := [_]) rfl ?_
                        refine E.reslot (v := .int .i64 ((le16of (b.drop n) : Nat) : Int)) (by rw [le16_little (by rw [List.length_drop]; omega)]) ?_
                        refine E.wanted 55 rfl rfl ?_
                        refine E.pure (S.lt rfl rfl) rfl ?_
                        refine E.pure (S.pickF rfl rfl) rfl ?_
                        refine E.keep [0, 2, 3, 6, 49, 68] (env1 := [(0, _), (2, _), (3, _), (6, _), (49, _), (68, _)]) rfl ?_
                        first | refine C.ifp rfl (fun h68 => ?_) (fun h68 => ?_) | refine C.cond rfl (fun h68 => ?_) (fun h68 => ?_)
                        ·
                          refine C.seq ?_
                          refine C.region ?_
                          refine E.still (S.loadA 0 (k := 0) rfl rfl rfl rfl Tryd.isAgg24 Tryd.sizeOf24) rfl ?_
                          refine E.loud0 (X.storeA 0 (k := 0) rfl rfl rfl rfl rfl rfl Tryd.sizeOf24 rfl) ?_; rintro _ _ ⟨rfl, rfl⟩; refine E.relist (L2 := [_]) rfl ?_
                          refine E.pure (S.assign rfl) rfl ?_
                          refine E.pure (S.assign rfl) rfl ?_
                          refine E.pure (S.assign rfl) rfl ?_
                          refine E.keep [0, 2, 3, 4, 5, 6, 49, 68] (env1 := [(0, _), (2, _), (3, _), (4, _), (5, _), (6, _), (49, _), (68, _)]) rfl ?_
                          refine C.ret ?_
                          have hRR : spStart b = (h, 0, 1, 0) := by rw [hR0, sp1, ← hn, if_neg (by omega), if_pos (by omega)]
                          refine ⟨_, _, _, _, ⟨_, _, 0, rfl, rfl, rfl⟩, rfl, rfl, rfl, none, 0, 0, _, by rw [hRR, hh]; rfl, (.head _), ?_⟩
                          first | (rw [hRR]; done) | (rw [hRR]; rfl)
                        ·
                          refine C.skip ?_
                          refine C.seq ?_
                          refine C.region ?_
                          refine E.pure (S.move rfl) rfl ?_
                          refine E.pure (S.move rfl) rfl ?_
                          refine E.pure (S.move rfl) rfl ?_
                          first | refine E.pure (S.add (b := ((2 : Nat) : Int)) rfl rfl (N.add64 (by omega))) rfl ?_ | refine E.pure (S.add (b := ((2 : Nat) : Int)) rfl rfl (N.addZ (by omega))) rfl ?_
                          refine E.pure (S.slLH rfl rfl rfl (by omega) (by omega) Tryd.underlying22 Tryd.sizeOf5) rfl ?_
                          refine E.reslot (v := .slice (some ⟨pb, po + (n), none⟩) (((b.drop (n)).take 2).length) (cap - (n))) (slice_to (by have hpa : part po (n) cap 1 = po + (n) * 1 := if_neg (by omega); omega) (by rw [List.length_take, List.length_drop]; omega) rfl) ?_
                          refine E.loud1 (OpX.pick [] (F := [_]) rfl (X.call rfl Tryd.call20 (little_spec pb (po + (n)) (cap - (n)) ((b.drop (n)).take 2) (hp.sub (n) 2) (by rw [List.length_take]; omega)))) rfl ?_; rintro _ _ ⟨_, ⟨rfl, rfl⟩, rfl⟩; refine E.relist (L2 := [_]) rfl ?_
                          refine E.reslot (v := .int .i64 ((le16of (b.drop n) : Nat) : Int)) (by rw [le16_little (by rw [List.length_drop]; omega)]) ?_
                          refine E.pure (S.assign rfl) rfl ?_
                          refine E.keep [0, 2, 3, 6, 7, 49, 68] (env1 := [(0, _), (2, _), (3, _), (6, _), (7, _), (49, _), (68, _)]) rfl ?_
                          refine C.seq ?_
                          refine C.region ?_
                          refine E.pure (S.move rfl) rfl ?_
                          refine E.pure (S.move rfl) rfl ?_
                          first | refine E.pure (S.add (b := ((2 : Nat) : Int)) rfl rfl (N.add64 (by omega))) rfl ?_ | refine E.pure (S.add (b := ((2 : Nat) : Int)) rfl rfl (N.addZ (by omega))) rfl ?_
                          refine E.pure (S.move rfl) rfl ?_
                          first | refine E.pure (S.add (b := ((2 : Nat) : Int)) rfl rfl (N.add64 (by omega))) rfl ?_ | refine E.pure (S.add (b := ((2 : Nat) : Int)) rfl rfl (N.addZ (by omega))) rfl ?_
                          refine E.pure (S.move rfl) rfl ?_
                          first | refine E.pure (S.add rfl rfl (N.add64 (by omega))) rfl ?_ | refine E.pure (S.add rfl rfl (N.addZ (by omega))) rfl ?_
                          refine E.pure (S.slLH rfl rfl rfl (by omega) (by omega) Tryd.underlying22 Tryd.sizeOf5) rfl ?_
                          refine E.reslot (v := .slice (some ⟨pb, part po (n + 2) cap 1, none⟩) (((b.drop (n + 2)).take (le16of (b.drop n))).length) (cap - (n + 2))) (slice_to rfl (by rw [List.length_take, List.length_drop]; omega) rfl) ?_
                          refine E.loud1 (X.appendNil (ys := ((b.drop (n + 2)).take (le16of (b.drop n)))) rfl rfl rfl ⟨_, _, rfl, (kb_part hp hcap _ _).reads⟩ (by rw [List.length_take]; omega)) rfl ?_
                          rintro _ _ (⟨hy, rfl, rfl⟩ | ⟨xb, xo, xc, xcs, hy, rfl, rfl, hxc⟩)
                          ·
                            refine E.relist (L2 := [_]) rfl ?_
                            refine E.same (Same.addEmpty (f := ⟨b2, 0, _⟩) (.head _) 0) ?_
                            refine E.perml [1, 0] (A := [_, _]) (F := []) rfl ?_
                            refine E.relist (L2 := [_, _]) rfl ?_
                            refine E.pure (S.field rfl fa24_2) rfl ?_
                            refine E.loud0 (X.store 0 (k := 2) rfl rfl rfl rfl rfl Tryd.sizeOf22) ?_; rintro _ _ ⟨rfl, rfl⟩; refine E.relist (L2 := [_, _]) rfl ?_
                            refine E.keep [0, 2, 3, 6, 7, 49, 68] (env1 := [(0, _), (2, _), (3, _), (6, _), (7, _), (49, _), (68, _)]) rfl ?_
                            refine C.region ?_
                            refine E.pure (S.move rfl) rfl ?_
                            refine E.pure (S.move rfl) rfl ?_
                            first | refine E.pure (S.add (a := ((2 : Nat) : Int)) rfl rfl (N.add64 (by omega))) rfl ?_ | refine E.pure (S.add (a := ((2 : Nat) : Int)) rfl rfl (N.addZ (by omega))) rfl ?_
                            first | refine E.pure (S.add rfl rfl (N.add64 (by omega))) rfl ?_ | refine E.pure (S.add rfl rfl (N.addZ (by omega))) rfl ?_
                            refine E.pure (S.assign rfl) rfl ?_
                            refine E.keep [0, 2, 3, 6, 7, 49, 68] (env1 := [(0, _), (2, _), (3, _), (6, _), (7, _), (49, _), (68, _)]) rfl ?_
                            first | exact ⟨n + (2 + le16of (b.drop n)), { h with extra := some ((b.drop (n + 2)).take (le16of (b.drop n))) }, none, 0, 0, _, rfl, rfl, by rw [hR0, sp1, ← hn, if_neg (by omega), if_neg (by omega), List.drop_drop], by omega, .inl ⟨hy, rfl⟩⟩ | exact ⟨n + (2 + le16of (b.drop n)), { h with extra := some ((b.drop (n + 2)).take (le16of (b.drop n))) }, some ⟨xb, xo, none⟩, ((b.drop (n + 2)).take (le16of (b.drop n))).length, xc, _, rfl, rfl, by rw [hR0, sp1, ← hn, if_neg (by omega), if_neg (by omega), List.drop_drop], by omega, .inr ⟨xb, xo, xc, xcs, rfl, rfl, hxc⟩⟩ | exact ⟨n, h, none, 0, 0, _, rfl, rfl, by rw [hR0, sp1, ← hn, if_pos (by omega)], by omega, by rw [hh]; rfl⟩
                          ·
                            refine E.relist (L2 := [_, _]) rfl ?_
                            refine E.perml [1, 0] (A := [_, _]) (F := []) rfl ?_
                            refine E.relist (L2 := [_, _]) rfl ?_
                            refine E.pure (S.field rfl fa24_2) rfl ?_
                            refine E.loud0 (X.store 0 (k := 2) rfl rfl rfl rfl rfl Tryd.sizeOf22) ?_; rintro _ _ ⟨rfl, rfl⟩; refine E.relist (L2 := [_, _]) rfl ?_
                            refine E.keep [0, 2, 3, 6, 7, 49, 68] (env1 := [(0, _), (2, _), (3, _), (6, _), (7, _), (49, _), (68, _)]) rfl ?_
                            refine C.region ?_
                            refine E.pure (S.move rfl) rfl ?_
                            refine E.pure (S.move rfl) rfl ?_
                            first | refine E.pure (S.add (a := ((2 : Nat) : Int)) rfl rfl (N.add64 (by omega))) rfl ?_ | refine E.pure (S.add (a := ((2 : Nat) : Int)) rfl rfl (N.addZ (by omega))) rfl ?_
                            first | refine E.pure (S.add rfl rfl (N.add64 (by omega))) rfl ?_ | refine E.pure (S.add rfl rfl (N.addZ (by omega))) rfl ?_
                            refine E.pure (S.assign rfl) rfl ?_
                            refine E.keep [0, 2, 3, 6, 7, 49, 68] (env1 := [(0, _), (2, _), (3, _), (6, _), (7, _), (49, _), (68, _)]) rfl ?_
                            first | exact ⟨n + (2 + le16of (b.drop n)), { h with extra := some ((b.drop (n + 2)).take (le16of (b.drop n))) }, none, 0, 0, _, rfl, rfl, by rw [hR0, sp1, ← hn, if_neg (by omega), if_neg (by omega), List.drop_drop], by omega, .inl ⟨hy, rfl⟩⟩ | exact ⟨n + (2 + le16of (b.drop n)), { h with extra := some ((b.drop (n + 2)).take (le16of (b.drop n))) }, some ⟨xb, xo, none⟩, ((b.drop (n + 2)).take (le16of (b.drop n))).length, xc, _, rfl, rfl, by rw [hR0, sp1, ← hn, if_neg (by omega), if_neg (by omega), List.drop_drop], by omega, .inr ⟨xb, xo, xc, xcs, rfl, rfl, hxc⟩⟩ | exact ⟨n, h, none, 0, 0, _, rfl, rfl, by rw [hR0, sp1, ← hn, if_pos (by omega)], by omega, by rw [hh]; rfl⟩
                    ·
                      refine C.same (Same.addEmpty (f := ⟨b2, 0, _⟩) (.head _) 0) ?_
                      refine C.perml [1, 0] (A := [_, _]) (F := []) rfl ?_
                      refine C.relist (L2 := [_, _]) rfl ?_
                      refine C.skip ?_
                      first | exact ⟨n + (2 + le16of (b.drop n)), { h with extra := some ((b.drop (n + 2)).take (le16of (b.drop n))) }, none, 0, 0, _, rfl, rfl, by rw [hR0, sp1, ← hn, if_neg (by omega), if_neg (by omega), List.drop_drop], by omega, .inl ⟨hy, rfl⟩⟩ | exact ⟨n + (2 + le16of (b.drop n)), { h with extra := some ((b.drop (n + 2)).take (le16of (b.drop n))) }, some ⟨xb, xo, none⟩, ((b.drop (n + 2)).take (le16of (b.drop n))).length, xc, _, rfl, rfl, by rw [hR0, sp1, ← hn, if_neg (by omega), if_neg (by omega), List.drop_drop], by omega, .inr ⟨xb, xo, xc, xcs, rfl, rfl, hxc⟩⟩ | exact ⟨n, h, none, 0, 0, _, rfl, rfl, by rw [hR0, sp1, ← hn, if_pos (by omega)], by omega, by rw [hh]; rfl⟩
                  ·
                    rintro _ _ ⟨n, h, xa, xn, xc, xf, hq16, rfl, hR, hn, hX⟩
                    refine C.weaken _ hq16 ?_
                    refine C.cut (M := fun ee ll => ∃ (fb : Nat), ∃ (n : Nat), ∃ (h : Hd), keeps ee [0, 2, 3, 6] = some [(0, .slice (some ⟨pb, po, none⟩) (b.length) (cap)), (2, .pointer (some ⟨b2, 0, none⟩)), (3, .int .i64 ((n : Nat) : Int)), (6, .int .u8 (((b.getD 3 0).toNat : Nat) : Int))] ∧ ll = [⟨fb, 0, [.int .u8 8, .int .u8 16]⟩, ⟨b2, 0, [.string h.name, .string h.comment, .slice xa xn xc, .int .i64 ((h.mod : Nat) : Int), .int .u8 ((h.os : Nat) : Int)]⟩, xf] ∧ (spStart b = sp4 b (b.getD 3 0).toNat n h) ∧ (n ≤ b.length) ∧ (ExSp h.extra (.slice xa xn xc) xf)) ?_ ?_
                    ·
                      refine C.seq ?_
                      refine C.region ?_
                      refine E.loud1 (X.buildSliceV (vs := [.int .u8 8, .int .u8 16]) (e := 5) [(0, .int .u8 8), (1, .int .u8 16)] rfl (fun w => by simp [Instr.buildSlice, Instr.fill, Value.cells, newRow, Tryd.runUnderlying22, Tryd.typeInfo5]; rw [arr2])) rfl ?_; rintro _ _ ⟨fb, rfl, rfl⟩; refine E.relist (L2 := [_, _, _]) rfl ?_
                      refine E.pure (S.lenSl rfl Tryd.underlying22) rfl ?_
                      refine E.pure (S.move rfl) rfl ?_
                      refine E.keep [0, 2, 3, 6, 90, 91, 92] (env1 := [(0, _), (2, _), (3, _), (6, _), (90, _), (91, _), (92, _)]) rfl ?_
                      refine C.block ?_
                      refine C.loop (fun mm ee ll => ∃ (k : Nat), ∃ (n : Nat), ∃ (h : Hd), keeps ee [0, 2, 3, 6, 90, 91, 92] = some [(0, .slice (some ⟨pb, po, none⟩) (b.length) (cap)), (2, .pointer (some ⟨b2, 0, none⟩)), (3, .int .i64 ((n : Nat) : Int)), (6, .int .u8 (((b.getD 3 0).toNat : Nat) : Int)), (90, .slice (some ⟨fb, 0, none⟩) (2) (2)), (91, .int .i64 ((2 : Nat) : Int)), (92, .int .i64 ((k : Nat) : Int))] ∧ ll = [⟨fb, 0, [.int .u8 8, .int .u8 16]⟩, ⟨b2, 0, [.string h.name, .string h.comment, .slice xa xn xc, .int .i64 ((h.mod : Nat) : Int), .int .u8 ((h.os : Nat) : Int)]⟩, xf] ∧ (spStart b = spK b (b.getD 3 0).toNat k n h) ∧ (k ≤ 2) ∧ (n ≤ b.length) ∧ (ExSp h.extra (.slice xa xn xc) xf) ∧ mm = 2 - k) (_) ⟨0, n, h, rfl, rfl, hR, by omega, hn, hX, rfl⟩ ?_
                      rintro m0 _ _ ⟨k, n, h, hk0, rfl, hR, hk, hn, hX, hm0⟩
                      refine C.weaken _ hk0 ?_
                      refine C.seq ?_
                      refine C.region ?_
                      refine E.pure (S.lt rfl rfl) rfl ?_
                      refine E.keep [0, 2, 3, 6, 90, 91, 92, 93] (env1 := [(0, _), (2, _), (3, _), (6, _), (90, _), (91, _), (92, _), (93, _)]) rfl ?_
                      refine C.seq ?_
                      first | refine C.ifp rfl (fun h93 => ?_) (fun h93 => ?_) | refine C.cond rfl (fun h93 => ?_) (fun h93 => ?_)
                      ·
                        have hk2 : k < 2 := by omega
                        have hfk := flagK_lt k
                        refine C.skip ?_
                        refine C.seq ?_
                        refine C.block ?_
                        refine C.seq ?_
                        refine C.region ?_
                        refine E.pure (S.ixSl rfl rfl (by omega) Tryd.underlying22 Tryd.sizeOf5) rfl ?_
                        refine E.reslot (v := .pointer (some ⟨fb, 0 + k, none⟩)) (ptr_to (by omega)) ?_
                        refine E.still (S.load 0 (k := k) rfl rfl (flagK_get k hk2) Tryd.isAgg5) rfl ?_
                        refine E.pure (S.assign rfl) rfl ?_
                        refine E.keep [0, 2, 3, 6, 9, 90, 91, 92, 93] (env1 := [(0, _), (2, _), (3, _), (6, _), (9, _), (90, _), (91, _), (92, _), (93, _)]) rfl ?_
                        refine C.seq ?_
                        refine C.seq ?_
                        refine C.region ?_
                        refine E.pure (S.move rfl) rfl ?_
                        refine E.pure (S.move rfl) rfl ?_
                        refine E.pure (S.and rfl rfl (N.and_u8 (by omega) (by omega))) rfl ?_
                        refine E.pure (S.eq (b := ((0 : Nat) : Int)) rfl rfl) rfl ?_
                        refine E.keep [0, 2, 3, 6, 9, 90, 91, 92, 93, 99] (env1 := [(0, _), (2, _), (3, _), (6, _), (9, _), (90, _), (91, _), (92, _), (93, _), (99, _)]) rfl ?_
                        first | refine C.ifp rfl (fun h99 => ?_) (fun h99 => ?_) | refine C.cond rfl (fun h99 => ?_) (fun h99 => ?_)
                        ·
                          refine C.exit rfl ?_
                          refine C.region ?_
                          first | refine E.pure (S.add (b := ((1 : Nat) : Int)) rfl rfl (N.add64 (by omega))) rfl ?_ | refine E.pure (S.add (b := ((1 : Nat) : Int)) rfl rfl (N.addZ (by omega))) rfl ?_
                          refine E.pure (S.move rfl) rfl ?_
                          refine E.keep [0, 2, 3, 6, 9, 90, 91, 92, 93, 99] (env1 := [(0, _), (2, _), (3, _), (6, _), (9, _), (90, _), (91, _), (92, _), (93, _), (99, _)]) rfl ?_
                          first | (refine ⟨_, ?_, k + 1, n, h, rfl, rfl, by first | (rw [hR, spK_skip hk2 (by omega)]; done) | (rw [hR, hs, hk0, spK_name (by rw [← hk0]; omega) (by omega) (by omega)]; done) | (rw [hR, hs, hk1, spK_comment (by rw [← hk1]; omega) (by omega) (by omega)]; done), by omega, by omega, hX, rfl⟩; omega) | (refine ⟨_, ?_, k + 1, n + (s + 1), { h with name := latin ((b.drop n).take s) }, rfl, rfl, by first | (rw [hR, spK_skip hk2 (by omega)]; done) | (rw [hR, hs, hk0, spK_name (by rw [← hk0]; omega) (by omega) (by omega)]; done) | (rw [hR, hs, hk1, spK_comment (by rw [← hk1]; omega) (by omega) (by omega)]; done), by omega, by omega, hX, rfl⟩; omega) | (refine ⟨_, ?_, k + 1, n + (s + 1), { h with comment := latin ((b.drop n).take s) }, rfl, rfl, by first | (rw [hR, spK_skip hk2 (by omega)]; done) | (rw [hR, hs, hk0, spK_name (by rw [← hk0]; omega) (by omega) (by omega)]; done) | (rw [hR, hs, hk1, spK_comment (by rw [← hk1]; omega) (by omega) (by omega)]; done), by omega, by omega, hX, rfl⟩; omega)
                        ·
                          refine C.skip ?_
                          refine C.seq ?_
                          refine C.region ?_
                          refine E.pure (S.assign rfl) rfl ?_
                          refine E.keep [0, 2, 3, 6, 9, 10, 90, 91, 92, 93, 99] (env1 := [(0, _), (2, _), (3, _), (6, _), (9, _), (10, _), (90, _), (91, _), (92, _), (93, _), (99, _)]) rfl ?_
                          refine C.cut (M := fun ee ll => ∃ (s : Nat), keeps ee [0, 2, 3, 6, 90, 91, 92, 9, 10] = some [(0, .slice (some ⟨pb, po, none⟩) (b.length) (cap)), (2, .pointer (some ⟨b2, 0, none⟩)), (3, .int .i64 ((n : Nat) : Int)), (6, .int .u8 (((b.getD 3 0).toNat : Nat) : Int)), (90, .slice (some ⟨fb, 0, none⟩) (2) (2)), (91, .int .i64 ((2 : Nat) : Int)), (92, .int .i64 ((k : Nat) : Int)), (9, .int .u8 ((flagK k : Nat) : Int)), (10, .int .i64 ((s : Nat) : Int))] ∧ ll = [⟨fb, 0, [.int .u8 8, .int .u8 16]⟩, ⟨b2, 0, [.string h.name, .string h.comment, .slice xa xn xc, .int .i64 ((h.mod : Nat) : Int), .int .u8 ((h.os : Nat) : Int)]⟩, xf] ∧ (s = strLen (b.drop n)) ∧ (n + s ≤ b.length)) ?_ ?_
                          ·
                            refine C.block ?_
                            refine C.loop (fun mm ee ll => ∃ (s : Nat), keeps ee [0, 2, 3, 6, 90, 91, 92, 9, 10] = some [(0, .slice (some ⟨pb, po, none⟩) (b.length) (cap)), (2, .pointer (some ⟨b2, 0, none⟩)), (3, .int .i64 ((n : Nat) : Int)), (6, .int .u8 (((b.getD 3 0).toNat : Nat) : Int)), (90, .slice (some ⟨fb, 0, none⟩) (2) (2)), (91, .int .i64 ((2 : Nat) : Int)), (92, .int .i64 ((k : Nat) : Int)), (9, .int .u8 ((flagK k : Nat) : Int)), (10, .int .i64 ((s : Nat) : Int))] ∧ ll = [⟨fb, 0, [.int .u8 8, .int .u8 16]⟩, ⟨b2, 0, [.string h.name, .string h.comment, .slice xa xn xc, .int .i64 ((h.mod : Nat) : Int), .int .u8 ((h.os : Nat) : Int)]⟩, xf] ∧ (∀ c ∈ (b.drop n).take s, c ≠ 0) ∧ (n + s ≤ b.length) ∧ mm = b.length - (n + s)) (_) ⟨0, rfl, rfl, by simp, by omega, rfl⟩ ?_
                            rintro m1 _ _ ⟨s, hk1, rfl, hz, hsn, hm1⟩
                            refine C.weaken _ hk1 ?_
                            refine C.seq ?_
                            refine C.seq ?_
                            refine C.region ?_
                            refine E.pure (S.move rfl) rfl ?_
                            refine E.pure (S.move rfl) rfl ?_
                            first | refine E.pure (S.add rfl rfl (N.add64 (by omega))) rfl ?_ | refine E.pure (S.add rfl rfl (N.addZ (by omega))) rfl ?_
                            refine E.pure (S.move rfl) rfl ?_
                            refine E.pure (S.lenSl rfl Tryd.underlying22) rfl ?_
                            refine E.pure (S.lt rfl rfl) rfl ?_
                            refine E.pure (S.move rfl) rfl ?_
                            first | refine E.fork (fun g106 => ?_) (fun g106 => ?_) | refine E.forkB (fun g106 => ?_) (fun g106 => ?_)
                            ·
                              have hns : n + s < b.length := by omega
                              refine E.wanted 106 rfl rfl ?_
                              refine E.pure (S.move rfl) rfl ?_
                              refine E.wanted 106 rfl rfl ?_
                              refine E.pure (S.move rfl) rfl ?_
                              refine E.wanted 106 rfl rfl ?_
                              refine E.pure (S.move rfl) rfl ?_
                              refine E.wanted 106 rfl rfl ?_
                              first | refine E.pure (S.add rfl rfl (N.add64 (by omega))) rfl ?_ | refine E.pure (S.add rfl rfl (N.addZ (by omega))) rfl ?_
                              refine E.wanted 106 rfl rfl ?_
                              refine E.pure (S.ixSl rfl rfl (by omega) Tryd.underlying22 Tryd.sizeOf5) rfl ?_
                              refine E.wanted 106 rfl rfl ?_
                              refine E.still (S.loadBase rfl (hp.at hns) Tryd.isAgg5) rfl ?_
                              refine E.wanted 106 rfl rfl ?_
                              refine E.pure (S.ne (b := ((0 : Nat) : Int)) rfl rfl) rfl ?_
                              refine E.pure (S.pickT rfl rfl) rfl ?_
                              refine E.keep [0, 2, 3, 6, 9, 10, 90, 91, 92, 114] (env1 := [(0, _), (2, _), (3, _), (6, _), (9, _), (10, _), (90, _), (91, _), (92, _), (114, _)]) rfl ?_
                              first | refine C.ifp rfl (fun h114 => ?_) (fun h114 => ?_) | refine C.cond rfl (fun h114 => ?_) (fun h114 => ?_)
                              ·
                                have hnz : (b.drop n)[s]'(by rw [List.length_drop]; omega) ≠ 0 := by
                                  intro hz1
                                  rw [List.getElem_drop] at hz1
                                  rw [hz1] at h114
                                  exact h114 rfl
                                refine C.skip ?_
                                refine C.block ?_
                                refine C.region ?_
                                refine E.pure (S.move rfl) rfl ?_
                                first | refine E.pure (S.add (b := ((1 : Nat) : Int)) rfl rfl (N.add64 (by omega))) rfl ?_ | refine E.pure (S.add (b := ((1 : Nat) : Int)) rfl rfl (N.addZ (by omega))) rfl ?_
                                refine E.pure (S.assign rfl) rfl ?_
                                refine E.keep [0, 2, 3, 6, 9, 10, 90, 91, 92, 114] (env1 := [(0, _), (2, _), (3, _), (6, _), (9, _), (10, _), (90, _), (91, _), (92, _), (114, _)]) rfl ?_
                                refine ⟨_, ?_, s + 1, rfl, rfl, nz_more hz (by rw [List.length_drop]; omega) hnz, by omega, rfl⟩; omega
                              ·
                                have hz0 : (b.drop n)[s]? = some 0 := by
                                  rw [List.getElem?_drop, List.getElem?_eq_getElem hns, Option.some.injEq]
                                  exact UInt8.toNat_inj.1 (by simpa using h114)
                                refine C.exit rfl ?_
                                first | exact ⟨s, rfl, rfl, by rw [strLen_end (by rw [List.take_of_length_le (by rw [List.length_drop]; omega)] at hz; exact hz), List.length_drop]; omega, hsn⟩ | exact ⟨s, rfl, rfl, (strLen_found hz hz0).symm, hsn⟩
                            ·
                              refine E.guardNo 106 false rfl rfl rfl rfl ?_
                              refine E.guardNo 106 false rfl rfl rfl rfl ?_
                              refine E.guardNo 106 false rfl rfl rfl rfl ?_
                              refine E.guardNo 106 false rfl rfl rfl rfl ?_
                              refine E.guardNo 106 false rfl rfl rfl rfl ?_
                              refine E.guardNo 106 false rfl rfl rfl rfl ?_
                              refine E.guardNo 106 false rfl rfl rfl rfl ?_
                              refine E.pure (S.pickF rfl rfl) rfl ?_
                              refine E.keep [0, 2, 3, 6, 9, 10, 90, 91, 92, 114] (env1 := [(0, _), (2, _), (3, _), (6, _), (9, _), (10, _), (90, _), (91, _), (92, _), (114, _)]) rfl ?_
                              refine C.no rfl (rfl) ?_
                              refine C.exit rfl ?_
                              first | exact ⟨s, rfl, rfl, by rw [strLen_end (by rw [List.take_of_length_le (by rw [List.length_drop]; omega)] at hz; exact hz), List.length_drop]; omega, hsn⟩ | exact ⟨s, rfl, rfl, (strLen_found hz hz0).symm, hsn⟩
                          ·
                            rintro _ _ ⟨s, hq23, rfl, hs, hsn⟩
                            refine C.weaken _ hq23 ?_
                            refine C.seq ?_
                            refine C.seq ?_
                            refine C.region ?_
                            refine E.pure (S.move rfl) rfl ?_
                            refine E.pure (S.move rfl) rfl ?_
                            first | refine E.pure (S.add rfl rfl (N.add64 (by omega))) rfl ?_ | refine E.pure (S.add rfl rfl (N.addZ (by omega))) rfl ?_
                            refine E.pure (S.move rfl) rfl ?_
                            refine E.pure (S.lenSl rfl Tryd.underlying22) rfl ?_
                            refine E.pure (S.eq rfl rfl) rfl ?_
                            refine E.keep [0, 2, 3, 6, 9, 10, 90, 91, 92, 122] (env1 := [(0, _), (2, _), (3, _), (6, _), (9, _), (10, _), (90, _), (91, _), (92, _), (122, _)]) rfl ?_
                            first | refine C.ifp rfl (fun h122 => ?_) (fun h122 => ?_) | refine C.cond rfl (fun h122 => ?_) (fun h122 => ?_)
                            ·
                              refine C.seq ?_
                              refine C.region ?_
                              refine E.still (S.loadA 1 (k := 0) rfl rfl rfl rfl Tryd.isAgg24 Tryd.sizeOf24) rfl ?_
                              refine E.loud0 (X.storeA 1 (k := 0) rfl rfl rfl rfl rfl rfl Tryd.sizeOf24 rfl) ?_; rintro _ _ ⟨rfl, rfl⟩; refine E.relist (L2 := [_, _, _]) rfl ?_
                              refine E.pure (S.assign rfl) rfl ?_
                              refine E.pure (S.assign rfl) rfl ?_
                              refine E.pure (S.assign rfl) rfl ?_
                              refine E.keep [0, 2, 3, 4, 5, 6, 9, 10, 90, 91, 92, 122] (env1 := [(0, _), (2, _), (3, _), (4, _), (5, _), (6, _), (9, _), (10, _), (90, _), (91, _), (92, _), (122, _)]) rfl ?_
                              refine C.ret ?_
                              have hRR : spStart b = (h, 0, 1, 0) := by rw [hR, spK_bad hk2 (by omega) (by omega)]
                              refine ⟨_, _, _, _, ⟨_, _, 1, rfl, rfl, rfl⟩, rfl, rfl, rfl, xa, xn, xc, _, by rw [hRR]; exact hX, (.tail _ (.tail _ (.head _))), ?_⟩
                              first | (rw [hRR]; done) | (rw [hRR]; rfl)
                            ·
                              refine C.skip ?_
                              refine C.seq ?_
                              refine C.seq ?_
                              refine C.region ?_
                              refine E.pure (S.move rfl) rfl ?_
                              refine E.pure (S.ge (b := ((512 : Nat) : Int)) rfl rfl) rfl ?_
                              refine E.keep [0, 2, 3, 6, 9, 10, 90, 91, 92, 122, 125] (env1 := [(0, _), (2, _), (3, _), (6, _), (9, _), (10, _), (90, _), (91, _), (92, _), (122, _), (125, _)]) rfl ?_
                              first | refine C.ifp rfl (fun h125 => ?_) (fun h125 => ?_) | refine C.cond rfl (fun h125 => ?_) (fun h125 => ?_)
                              ·
                                refine C.seq ?_
                                refine C.region ?_
                                refine E.still (S.loadA 1 (k := 0) rfl rfl rfl rfl Tryd.isAgg24 Tryd.sizeOf24) rfl ?_
                                refine E.loud0 (X.storeA 1 (k := 0) rfl rfl rfl rfl rfl rfl Tryd.sizeOf24 rfl) ?_; rintro _ _ ⟨rfl, rfl⟩; refine E.relist (L2 := [_, _, _]) rfl ?_
                                refine E.pure (S.assign rfl) rfl ?_
                                refine E.pure (S.assign rfl) rfl ?_
                                refine E.pure (S.assign rfl) rfl ?_
                                refine E.keep [0, 2, 3, 4, 5, 6, 9, 10, 90, 91, 92, 122, 125] (env1 := [(0, _), (2, _), (3, _), (4, _), (5, _), (6, _), (9, _), (10, _), (90, _), (91, _), (92, _), (122, _), (125, _)]) rfl ?_
                                refine C.ret ?_
                                have hRR : spStart b = (h, 0, 2, 0) := by rw [hR, spK_open hk2 (by omega) (by omega) (by omega)]
                                refine ⟨_, _, _, _, ⟨_, _, 1, rfl, rfl, rfl⟩, rfl, rfl, rfl, xa, xn, xc, _, by rw [hRR]; exact hX, (.tail _ (.tail _ (.head _))), ?_⟩
                                first | (rw [hRR]; done) | (rw [hRR]; rfl)
                              ·
                                refine C.skip ?_
                                refine C.seq ?_
                                refine C.seq ?_
                                refine C.region ?_
                                refine E.pure (S.move rfl) rfl ?_
                                refine E.pure (S.eq (b := ((8 : Nat) : Int)) rfl rfl) rfl ?_
                                refine E.keep [0, 2, 3, 6, 9, 10, 90, 91, 92, 122, 125, 128] (env1 := [(0, _), (2, _), (3, _), (6, _), (9, _), (10, _), (90, _), (91, _), (92, _), (122, _), (125, _), (128, _)]) rfl ?_
                                first | refine C.ifp rfl (fun h128 => ?_) (fun h128 => ?_) | refine C.cond rfl (fun h128 => ?_) (fun h128 => ?_)
                                ·
                                  have hk0 : k = 0 := by
                                    rcases (show k = 0 ∨ k = 1 by omega) with h | h
                                    · exact h
                                    · rw [h] at h128; exact absurd h128 (by decide)
                                  refine C.region ?_
                                  refine E.pure (S.move rfl) rfl ?_
                                  refine E.pure (S.move rfl) rfl ?_
                                  refine E.pure (S.move rfl) rfl ?_
                                  refine E.pure (S.move rfl) rfl ?_
                                  first | refine E.pure (S.add rfl rfl (N.add64 (by omega))) rfl ?_ | refine E.pure (S.add rfl rfl (N.addZ (by omega))) rfl ?_
                                  refine E.pure (S.slLH rfl rfl rfl (by omega) (by omega) Tryd.underlying22 Tryd.sizeOf5) rfl ?_
                                  refine E.reslot (v := .slice (some ⟨pb, po + (n), none⟩) (((b.drop (n)).take s).length) (cap - (n))) (slice_to (by have hpa : part po (n) cap 1 = po + (n) * 1 := if_neg (by omega); omega) (by rw [List.length_take, List.length_drop]; omega) rfl) ?_
                                  refine E.loud1 (X.call rfl Tryd.call21 (latin_any pb (po + n) (cap - n) ((b.drop n).take s) (hp.sub n s) (by rw [List.length_take, List.length_drop]; omega))) rfl ?_; rintro _ _ ⟨rfl, rfl⟩; refine E.relist (L2 := [_, _, _]) rfl ?_
                                  refine E.pure (S.field rfl fa24_0) rfl ?_
                                  refine E.loud0 (X.store 1 (k := 0) rfl rfl rfl rfl rfl Tryd.sizeOf9) ?_; rintro _ _ ⟨rfl, rfl⟩; refine E.relist (L2 := [_, _, _]) rfl ?_
                                  refine E.keep [0, 2, 3, 6, 9, 10, 90, 91, 92, 122, 125, 128] (env1 := [(0, _), (2, _), (3, _), (6, _), (9, _), (10, _), (90, _), (91, _), (92, _), (122, _), (125, _), (128, _)]) rfl ?_
                                  refine C.region ?_
                                  refine E.pure (S.move rfl) rfl ?_
                                  refine E.pure (S.move rfl) rfl ?_
                                  first | refine E.pure (S.add (b := ((1 : Nat) : Int)) rfl rfl (N.add64 (by omega))) rfl ?_ | refine E.pure (S.add (b := ((1 : Nat) : Int)) rfl rfl (N.addZ (by omega))) rfl ?_
                                  first | refine E.pure (S.add rfl rfl (N.add64 (by omega))) rfl ?_ | refine E.pure (S.add rfl rfl (N.addZ (by omega))) rfl ?_
                                  refine E.pure (S.assign rfl) rfl ?_
                                  refine E.keep [0, 2, 3, 6, 9, 10, 90, 91, 92, 122, 125, 128] (env1 := [(0, _), (2, _), (3, _), (6, _), (9, _), (10, _), (90, _), (91, _), (92, _), (122, _), (125, _), (128, _)]) rfl ?_
                                  refine C.region ?_
                                  first | refine E.pure (S.add (b := ((1 : Nat) : Int)) rfl rfl (N.add64 (by omega))) rfl ?_ | refine E.pure (S.add (b := ((1 : Nat) : Int)) rfl rfl (N.addZ (by omega))) rfl ?_
                                  refine E.pure (S.move rfl) rfl ?_
                                  refine E.keep [0, 2, 3, 6, 9, 10, 90, 91, 92, 122, 125, 128] (env1 := [(0, _), (2, _), (3, _), (6, _), (9, _), (10, _), (90, _), (91, _), (92, _), (122, _), (125, _), (128, _)]) rfl ?_
                                  first | (refine ⟨_, ?_, k + 1, n, h, rfl, rfl, by first | (rw [hR, spK_skip hk2 (by omega)]; done) | (rw [hR, hs, hk0, spK_name (by rw [← hk0]; omega) (by omega) (by omega)]; done) | (rw [hR, hs, hk1, spK_comment (by rw [← hk1]; omega) (by omega) (by omega)]; done), by omega, by omega, hX, rfl⟩; omega) | (refine ⟨_, ?_, k + 1, n + (s + 1), { h with name := latin ((b.drop n).take s) }, rfl, rfl, by first | (rw [hR, spK_skip hk2 (by omega)]; done) | (rw [hR, hs, hk0, spK_name (by rw [← hk0]; omega) (by omega) (by omega)]; done) | (rw [hR, hs, hk1, spK_comment (by rw [← hk1]; omega) (by omega) (by omega)]; done), by omega, by omega, hX, rfl⟩; omega) | (refine ⟨_, ?_, k + 1, n + (s + 1), { h with comment := latin ((b.drop n).take s) }, rfl, rfl, by first | (rw [hR, spK_skip hk2 (by omega)]; done) | (rw [hR, hs, hk0, spK_name (by rw [← hk0]; omega) (by omega) (by omega)]; done) | (rw [hR, hs, hk1, spK_comment (by rw [← hk1]; omega) (by omega) (by omega)]; done), by omega, by omega, hX, rfl⟩; omega)
                                ·
                                  have hk1 : k = 1 := by
                                    rcases (show k = 0 ∨ k = 1 by omega) with h | h
                                    · rw [h] at h128; exact absurd rfl h128
                                    · exact h
                                  refine C.region ?_
                                  refine E.pure (S.move rfl) rfl ?_
                                  refine E.pure (S.move rfl) rfl ?_
                                  refine E.pure (S.move rfl) rfl ?_
                                  refine E.pure (S.move rfl) rfl ?_
                                  first | refine E.pure (S.add rfl rfl (N.add64 (by omega))) rfl ?_ | refine E.pure (S.add rfl rfl (N.addZ (by omega))) rfl ?_
                                  refine E.pure (S.slLH rfl rfl rfl (by omega) (by omega) Tryd.underlying22 Tryd.sizeOf5) rfl ?_
                                  refine E.reslot (v := .slice (some ⟨pb, po + (n), none⟩) (((b.drop (n)).take s).length) (cap - (n))) (slice_to (by have hpa : part po (n) cap 1 = po + (n) * 1 := if_neg (by omega); omega) (by rw [List.length_take, List.length_drop]; omega) rfl) ?_
                                  refine E.loud1 (X.call rfl Tryd.call21 (latin_any pb (po + n) (cap - n) ((b.drop n).take s) (hp.sub n s) (by rw [List.length_take, List.length_drop]; omega))) rfl ?_; rintro _ _ ⟨rfl, rfl⟩; refine E.relist (L2 := [_, _, _]) rfl ?_
                                  refine E.pure (S.field rfl fa24_1) rfl ?_
                                  refine E.loud0 (X.store 1 (k := 1) rfl rfl rfl rfl rfl Tryd.sizeOf9) ?_; rintro _ _ ⟨rfl, rfl⟩; refine E.relist (L2 := [_, _, _]) rfl ?_
                                  refine E.keep [0, 2, 3, 6, 9, 10, 90, 91, 92, 122, 125, 128] (env1 := [(0, _), (2, _), (3, _), (6, _), (9, _), (10, _), (90, _), (91, _), (92, _), (122, _), (125, _), (128, _)]) rfl ?_
                                  refine C.region ?_
                                  refine E.pure (S.move rfl) rfl ?_
                                  refine E.pure (S.move rfl) rfl ?_
                                  first | refine E.pure (S.add (b := ((1 : Nat) : Int)) rfl rfl (N.add64 (by omega))) rfl ?_ | refine E.pure (S.add (b := ((1 : Nat) : Int)) rfl rfl (N.addZ (by omega))) rfl ?_
                                  first | refine E.pure (S.add rfl rfl (N.add64 (by omega))) rfl ?_ | refine E.pure (S.add rfl rfl (N.addZ (by omega))) rfl ?_
                                  refine E.pure (S.assign rfl) rfl ?_
                                  refine E.keep [0, 2, 3, 6, 9, 10, 90, 91, 92, 122, 125, 128] (env1 := [(0, _), (2, _), (3, _), (6, _), (9, _), (10, _), (90, _), (91, _), (92, _), (122, _), (125, _), (128, _)]) rfl ?_
                                  refine C.region ?_
                                  first | refine E.pure (S.add (b := ((1 : Nat) : Int)) rfl rfl (N.add64 (by omega))) rfl ?_ | refine E.pure (S.add (b := ((1 : Nat) : Int)) rfl rfl (N.addZ (by omega))) rfl ?_
                                  refine E.pure (S.move rfl) rfl ?_
                                  refine E.keep [0, 2, 3, 6, 9, 10, 90, 91, 92, 122, 125, 128] (env1 := [(0, _), (2, _), (3, _), (6, _), (9, _), (10, _), (90, _), (91, _), (92, _), (122, _), (125, _), (128, _)]) rfl ?_
                                  first | (refine ⟨_, ?_, k + 1, n, h, rfl, rfl, by first | (rw [hR, spK_skip hk2 (by omega)]; done) | (rw [hR, hs, hk0, spK_name (by rw [← hk0]; omega) (by omega) (by omega)]; done) | (rw [hR, hs, hk1, spK_comment (by rw [← hk1]; omega) (by omega) (by omega)]; done), by omega, by omega, hX, rfl⟩; omega) | (refine ⟨_, ?_, k + 1, n + (s + 1), { h with name := latin ((b.drop n).take s) }, rfl, rfl, by first | (rw [hR, spK_skip hk2 (by omega)]; done) | (rw [hR, hs, hk0, spK_name (by rw [← hk0]; omega) (by omega) (by omega)]; done) | (rw [hR, hs, hk1, spK_comment (by rw [← hk1]; omega) (by omega) (by omega)]; done), by omega, by omega, hX, rfl⟩; omega) | (refine ⟨_, ?_, k + 1, n + (s + 1), { h with comment := latin ((b.drop n).take s) }, rfl, rfl, by first | (rw [hR, spK_skip hk2 (by omega)]; done) | (rw [hR, hs, hk0, spK_name (by rw [← hk0]; omega) (by omega) (by omega)]; done) | (rw [hR, hs, hk1, spK_comment (by rw [← hk1]; omega) (by omega) (by omega)]; done), by omega, by omega, hX, rfl⟩; omega)
                      ·
                        refine C.exit rfl ?_
                        exact ⟨fb, n, h, rfl, rfl, by rw [hR]; rw [show k = 2 by omega]; rfl, hn, hX⟩
                    ·
                      rintro _ _ ⟨fb, n, h, hq32, rfl, hR, hn, hX⟩
                      refine C.weaken _ hq32 ?_
                      refine C.cut (M := fun ee ll => ∃ (fb : Nat), ∃ (n : Nat), ∃ (h : Hd), keeps ee [0, 2, 3, 6] = some [(0, .slice (some ⟨pb, po, none⟩) (b.length) (cap)), (2, .pointer (some ⟨b2, 0, none⟩)), (3, .int .i64 ((n : Nat) : Int)), (6, .int .u8 (((b.getD 3 0).toNat : Nat) : Int))] ∧ ll = [⟨fb, 0, [.int .u8 8, .int .u8 16]⟩, ⟨b2, 0, [.string h.name, .string h.comment, .slice xa xn xc, .int .i64 ((h.mod : Nat) : Int), .int .u8 ((h.os : Nat) : Int)]⟩, xf] ∧ (spStart b = (h, n, 0, 0)) ∧ (ExSp h.extra (.slice xa xn xc) xf)) ?_ ?_
                      ·
                        refine C.seq ?_
                        refine C.region ?_
                        refine E.pure (S.move rfl) rfl ?_
                        refine E.pure (S.and (b := ((2 : Nat) : Int)) rfl rfl (N.and_u8 (by omega) (by omega))) rfl ?_
                        refine E.pure (S.ne (b := ((0 : Nat) : Int)) rfl rfl) rfl ?_
                        refine E.keep [0, 2, 3, 6, 152] (env1 := [(0, _), (2, _), (3, _), (6, _), (152, _)]) rfl ?_
                        first | refine C.ifp rfl (fun h152 => ?_) (fun h152 => ?_) | refine C.cond rfl (fun h152 => ?_) (fun h152 => ?_)
                        ·
                          refine C.seq ?_
                          refine C.seq ?_
                          refine C.region ?_
                          refine E.pure (S.move rfl) rfl ?_
                          refine E.pure (S.lenSl rfl Tryd.underlying22) rfl ?_
                          refine E.pure (S.move rfl) rfl ?_
                          first | refine E.pure (S.sub rfl rfl (N.sub64 (by omega) (by omega))) rfl ?_ | refine E.pure (S.sub rfl rfl (N.subZ (by omega))) rfl ?_
                          refine E.pure (S.lt (b := ((2 : Nat) : Int)) rfl rfl) rfl ?_
                          refine E.keep [0, 2, 3, 6, 152, 157] (env1 := [(0, _), (2, _), (3, _), (6, _), (152, _), (157, _)]) rfl ?_
                          first | refine C.ifp rfl (fun h157 => ?_) (fun h157 => ?_) | refine C.cond rfl (fun h157 => ?_) (fun h157 => ?_)
                          ·
                            refine C.seq ?_
                            refine C.region ?_
                            refine E.still (S.loadA 1 (k := 0) rfl rfl rfl rfl Tryd.isAgg24 Tryd.sizeOf24) rfl ?_
                            refine E.loud0 (X.storeA 1 (k := 0) rfl rfl rfl rfl rfl rfl Tryd.sizeOf24 rfl) ?_; rintro _ _ ⟨rfl, rfl⟩; refine E.relist (L2 := [_, _, _]) rfl ?_
                            refine E.pure (S.assign rfl) rfl ?_
                            refine E.pure (S.assign rfl) rfl ?_
                            refine E.pure (S.assign rfl) rfl ?_
                            refine E.keep [0, 2, 3, 4, 5, 6, 152, 157] (env1 := [(0, _), (2, _), (3, _), (4, _), (5, _), (6, _), (152, _), (157, _)]) rfl ?_
                            refine C.ret ?_
                            have hRR : spStart b = (h, 0, 1, 0) := by rw [hR, sp4, if_neg (by omega), if_pos (by omega)]
                            refine ⟨_, _, _, _, ⟨_, _, 1, rfl, rfl, rfl⟩, rfl, rfl, rfl, xa, xn, xc, _, by rw [hRR]; exact hX, (.tail _ (.tail _ (.head _))), ?_⟩
                            first | (rw [hRR]; done) | (rw [hRR]; rfl)
                          ·
                            refine C.skip ?_
                            refine C.seq ?_
                            refine C.seq ?_
                            have hcl := crcOn_lt (poly := IEEE) (crc := 0) (by decide) (by decide) (b.take n)
                            have hca : crcOn IEEE 0 (b.take n) &&& 65535 = crcOn IEEE 0 (b.take n) % 65536 := Nat.and_two_pow_sub_one_eq_mod (n := 16) _
                            refine C.draw [0, 0, 0, 4, 11, 16, 0, 0, 192, 288, 512, 1024, 2080] (.pure 0 462 (.pure 1 461 (.pure 2 451 (.pure 3 455 (.pure 4 463 (.pure 6 191 (.pure 7 127 (.pure 8 255 (.alt 5 (.alt 9 (.pure 10 1023 (.pure 11 2047 (.pure 12 4095 .done))) .stop) .stop))))))))) mixed (by decide +kernel) ?_
                            refine D.pure rfl (S.move rfl) rfl ?_
                            refine D.pure rfl (S.move rfl) rfl ?_
                            refine D.pure rfl (S.move rfl) rfl ?_
                            first | refine D.pure rfl (S.add (b := ((2 : Nat) : Int)) rfl rfl (N.add64 (by omega))) rfl ?_ | refine D.pure rfl (S.add (b := ((2 : Nat) : Int)) rfl rfl (N.addZ (by omega))) rfl ?_
                            refine D.pure rfl (S.slLH rfl rfl rfl (by omega) (by omega) Tryd.underlying22 Tryd.sizeOf5) rfl ?_
                            refine D.reslot (v := .slice (some ⟨pb, po + (n), none⟩) (((b.drop (n)).take 2).length) (cap - (n))) (slice_to (by have hpa : part po (n) cap 1 = po + (n) * 1 := if_neg (by omega); omega) (by rw [List.length_take, List.length_drop]; omega) rfl) ?_
                            refine D.pure rfl (S.move rfl) rfl ?_
                            refine D.pure rfl (S.move rfl) rfl ?_
                            refine D.pure rfl (S.slH rfl rfl (by omega) Tryd.underlying22 Tryd.sizeOf5) rfl ?_
                            refine D.reslot (v := .slice (some ⟨pb, po, none⟩) ((b.take n).length) (cap)) (slice_to rfl (by rw [List.length_take]; omega) rfl) ?_
                            refine D.one ?_
                            refine O.loud1 rfl (OpX.pick [] (F := [_, _, _]) rfl (X.call rfl Tryd.call20 (little_spec pb (po + (n)) (cap - (n)) ((b.drop (n)).take 2) (hp.sub (n) 2) (by rw [List.length_take]; omega)))) rfl ?_; rintro _ _ ⟨_, ⟨rfl, rfl⟩, rfl⟩; refine D.relist (L2 := [_, _, _]) rfl ?_
                            refine D.reslot (v := .int .i64 ((le16of (b.drop n) : Nat) : Int)) (by rw [le16_little (by rw [List.length_drop]; omega)]) ?_
                            refine D.one ?_
                            refine O.loud1 rfl (OpX.pick [] (F := [_, _, _]) rfl (X.call rfl Tryd.call22 (check_spec pb po cap (b.take n) (fun j hj => by have := hp.sub 0 n j hj; simpa using this) (by rw [List.length_take]; omega)))) rfl ?_; rintro _ _ ⟨_, ⟨rfl, rfl⟩, rfl⟩; refine D.relist (L2 := [_, _, _]) rfl ?_
                            refine D.pure rfl (S.and (b := ((65535 : Nat) : Int)) rfl rfl (N.and_u32 (by omega) (by omega))) rfl ?_
                            refine D.pure rfl (S.conv rfl Tryd.underlying52 Tryd.underlying2 (N.i64n (by omega))) rfl ?_
                            refine D.pure rfl (S.ne rfl rfl) rfl ?_
                            refine D.keep [0, 2, 3, 6, 152, 157, 171] (env1 := [(0, _), (2, _), (3, _), (6, _), (152, _), (157, _), (171, _)]) rfl ?_
                            first | refine C.ifp rfl (fun h171 => ?_) (fun h171 => ?_) | refine C.cond rfl (fun h171 => ?_) (fun h171 => ?_)
                            ·
                              refine C.seq ?_
                              refine C.region ?_
                              refine E.still (S.loadA 1 (k := 0) rfl rfl rfl rfl Tryd.isAgg24 Tryd.sizeOf24) rfl ?_
                              refine E.loud0 (X.storeA 1 (k := 0) rfl rfl rfl rfl rfl rfl Tryd.sizeOf24 rfl) ?_; rintro _ _ ⟨rfl, rfl⟩; refine E.relist (L2 := [_, _, _]) rfl ?_
                              refine E.pure (S.assign rfl) rfl ?_
                              refine E.pure (S.assign rfl) rfl ?_
                              refine E.pure (S.assign rfl) rfl ?_
                              refine E.keep [0, 2, 3, 4, 5, 6, 152, 157, 171] (env1 := [(0, _), (2, _), (3, _), (4, _), (5, _), (6, _), (152, _), (157, _), (171, _)]) rfl ?_
                              refine C.ret ?_
                              have hRR : spStart b = (h, 0, 1, 2) := by rw [hR, sp4, if_neg (by omega), if_neg (by omega), if_pos (by omega)]
                              refine ⟨_, _, _, _, ⟨_, _, 1, rfl, rfl, rfl⟩, rfl, rfl, rfl, xa, xn, xc, _, by rw [hRR]; exact hX, (.tail _ (.tail _ (.head _))), ?_⟩
                              first | (rw [hRR]; done) | (rw [hRR]; rfl)
                            ·
                              refine C.skip ?_
                              refine C.region ?_
                              refine E.pure (S.move rfl) rfl ?_
                              first | refine E.pure (S.add (b := ((2 : Nat) : Int)) rfl rfl (N.add64 (by omega))) rfl ?_ | refine E.pure (S.add (b := ((2 : Nat) : Int)) rfl rfl (N.addZ (by omega))) rfl ?_
                              refine E.pure (S.assign rfl) rfl ?_
                              refine E.keep [0, 2, 3, 6, 152, 157, 171] (env1 := [(0, _), (2, _), (3, _), (6, _), (152, _), (157, _), (171, _)]) rfl ?_
                              first | exact ⟨fb, n + 2, h, rfl, rfl, by rw [hR, sp4, if_neg (by omega), if_neg (by omega), if_neg (by omega)], hX⟩ | exact ⟨fb, n, h, rfl, rfl, by rw [hR, sp4, if_pos (by omega)], hX⟩
                        ·
                          refine C.skip ?_
                          first | exact ⟨fb, n + 2, h, rfl, rfl, by rw [hR, sp4, if_neg (by omega), if_neg (by omega), if_neg (by omega)], hX⟩ | exact ⟨fb, n, h, rfl, rfl, by rw [hR, sp4, if_pos (by omega)], hX⟩
                      ·
                        rintro _ _ ⟨fb, n, h, hq38, rfl, hR, hX⟩
                        refine C.weaken _ hq38 ?_
                        refine C.seq ?_
                        refine C.region ?_
                        refine E.still (S.loadA 1 (k := 0) rfl rfl rfl rfl Tryd.isAgg24 Tryd.sizeOf24) rfl ?_
                        refine E.pure (S.move rfl) rfl ?_
                        refine E.loud0 (X.storeA 1 (k := 0) rfl rfl rfl rfl rfl rfl Tryd.sizeOf24 rfl) ?_; rintro _ _ ⟨rfl, rfl⟩; refine E.relist (L2 := [_, _, _]) rfl ?_
                        refine E.pure (S.assign rfl) rfl ?_
                        refine E.pure (S.assign rfl) rfl ?_
                        refine E.pure (S.assign rfl) rfl ?_
                        refine E.keep [0, 2, 3, 4, 5, 6] (env1 := [(0, _), (2, _), (3, _), (4, _), (5, _), (6, _)]) rfl ?_
                        refine C.ret ?_
                        have hRR := hR
                        refine ⟨_, _, _, _, ⟨_, _, 1, rfl, rfl, rfl⟩, rfl, rfl, rfl, xa, xn, xc, _, by rw [hRR]; exact hX, (.tail _ (.tail _ (.head _))), ?_⟩
                        first | (rw [hRR]; done) | (rw [hRR]; rfl)
              ·
                refine O.loud0 rfl (X.store 0 (k := 3) rfl rfl rfl rfl rfl Tryd.sizeOf2) ?_; rintro _ _ ⟨rfl, rfl⟩; refine D.relist (L2 := [_]) rfl ?_
                refine D.seg (by decide) ?_
                first | refine W.still rfl (S.load 0 rfl rfl rfl Tryd.isAgg5) rfl ?_ | refine W.still rfl (S.loadBase rfl (by assumption) Tryd.isAgg5) rfl ?_
                refine W.pure rfl (S.field rfl fa24_4) rfl ?_
                refine W.nil ?_
                refine D.one ?_
                refine O.loud0 rfl (X.store 0 (k := 4) rfl rfl rfl rfl rfl Tryd.sizeOf5) ?_; rintro _ _ ⟨rfl, rfl⟩; refine D.relist (L2 := [_]) rfl ?_
                refine D.keep [0, 2, 3, 4, 5, 6, 13, 30, 37] (env1 := [(0, _), (2, _), (3, _), (4, _), (5, _), (6, _), (13, _), (30, _), (37, _)]) rfl ?_
                refine C.cut (M := fun ee ll => ∃ (n : Nat), ∃ (h : Hd), keeps ee [0, 2, 3, 6] = some [(0, .slice (some ⟨pb, po, none⟩) (b.length) (cap)), (2, .pointer (some ⟨b2, 0, none⟩)), (3, .int .i64 ((n : Nat) : Int)), (6, .int .u8 (((b.getD 3 0).toNat : Nat) : Int))] ∧ ll = [⟨b2, 0, [.string h.name, .string h.comment, .slice none 0 0, .int .i64 ((h.mod : Nat) : Int), .int .u8 ((h.os : Nat) : Int)]⟩] ∧ (n = 10) ∧ (h = { noHd with mod := le32 (b.getD 4 0).toNat (b.getD 5 0).toNat (b.getD 6 0).toNat (b.getD 7 0).toNat, os := (b.getD 9 0).toNat }) ∧ (spStart b = sp1 b (b.getD 3 0).toNat h)) ?_ ?_
                ·
                  refine C.region ?_
                  refine E.pure (S.assign rfl) rfl ?_
                  refine E.reslot (v := .int .i64 ((10 : Nat) : Int)) rfl ?_
                  refine E.keep [0, 2, 3, 4, 5, 6, 13, 30, 37] (env1 := [(0, _), (2, _), (3, _), (4, _), (5, _), (6, _), (13, _), (30, _), (37, _)]) rfl ?_
                  exact ⟨10, { noHd with mod := le32 (b.getD 4 0).toNat (b.getD 5 0).toNat (b.getD 6 0).toNat (b.getD 7 0).toNat, os := (b.getD 9 0).toNat }, rfl, (by first | (rw [← hmod]; done) | (rw [← hmod]; rfl)), rfl, rfl, by rw [spStart, if_neg (by omega), if_pos (by omega), if_neg (by omega)]⟩
                ·
                  rintro _ _ ⟨n, h, hq10, rfl, hn, hh, hR0⟩
                  refine C.weaken _ hq10 ?_
                  refine C.cut (M := fun ee ll => ∃ (n : Nat), ∃ (h : Hd), ∃ (xa : Option Addr), ∃ (xn : Nat), ∃ (xc : Nat), ∃ (xf : Frag), keeps ee [0, 2, 3, 6] = some [(0, .slice (some ⟨pb, po, none⟩) (b.length) (cap)), (2, .pointer (some ⟨b2, 0, none⟩)), (3, .int .i64 ((n : Nat) : Int)), (6, .int .u8 (((b.getD 3 0).toNat : Nat) : Int))] ∧ ll = [⟨b2, 0, [.string h.name, .string h.comment, .slice xa xn xc, .int .i64 ((h.mod : Nat) : Int), .int .u8 ((h.os : Nat) : Int)]⟩, xf] ∧ (spStart b = sp2 b (b.getD 3 0).toNat n h) ∧ (n ≤ b.length) ∧ (ExSp h.extra (.slice xa xn xc) xf)) ?_ ?_
                  ·
                    refine C.seq ?_
                    refine C.region ?_
                    refine E.pure (S.move rfl) rfl ?_
                    refine E.pure (S.and (b := ((4 : Nat) : Int)) rfl rfl (N.and_u8 (by omega) (by omega))) rfl ?_
                    refine E.pure (S.ne (b := ((0 : Nat) : Int)) rfl rfl) rfl ?_
                    refine E.keep [0, 2, 3, 6, 49] (env1 := [(0, _), (2, _), (3, _), (6, _), (49, _)]) rfl ?_
                    first | refine C.ifp rfl (fun h49 => ?_) (fun h49 => ?_) | refine C.cond rfl (fun h49 => ?_) (fun h49 => ?_)
                    ·
                      refine C.seq ?_
                      refine C.seq ?_
                      refine C.region ?_
                      refine E.pure (S.move rfl) rfl ?_
                      refine E.pure (S.lenSl rfl Tryd.underlying22) rfl ?_
                      refine E.pure (S.move rfl) rfl ?_
                      first | refine E.pure (S.sub rfl rfl (N.sub64 (by omega) (by omega))) rfl ?_ | refine E.pure (S.sub rfl rfl (N.subZ (by omega))) rfl ?_
                      refine E.pure (S.lt (b := ((2 : Nat) : Int)) rfl rfl) rfl ?_
                      refine E.pure (S.move rfl) rfl ?_
                      first | refine E.fork (fun g55 => ?_) (fun g55 => ?_) | refine E.forkB (fun g55 => ?_) (fun g55 => ?_)
                      ·
                        refine E.guardNo 55 true rfl rfl rfl rfl ?_
                        refine E.guardNo 55 true rfl rfl rfl rfl ?_
                        refine E.guardNo 55 true rfl rfl rfl rfl ?_
                        refine E.guardNo 55 true rfl rfl rfl rfl ?_
                        refine E.guardNo 55 true rfl rfl rfl rfl ?_
                        refine E.guardNo 55 true rfl rfl rfl rfl ?_
                        refine E.guardNo 55 true rfl rfl rfl rfl ?_
                        refine E.guardNo 55 true rfl rfl rfl rfl ?_
                        refine E.guardNo 55 true rfl rfl rfl rfl ?_
                        refine E.guardNo 55 true rfl rfl rfl rfl ?_
                        refine E.guardNo 55 true rfl rfl rfl rfl ?_
                        refine E.guardNo 55 true rfl rfl rfl rfl ?_
                        refine E.pure (S.pickT rfl rfl) rfl ?_
                        refine E.keep [0, 2, 3, 6, 49, 68] (env1 := [(0, _), (2, _), (3, _), (6, _), (49, _), (68, _)]) rfl ?_
                        refine C.yes rfl (rfl) ?_
                        refine C.seq ?_
                        refine C.region ?_
                        refine E.still (S.loadA 0 (k := 0) rfl rfl rfl rfl Tryd.isAgg24 Tryd.sizeOf24) rfl ?_
                        refine E.loud0 (X.storeA 0 (k := 0) rfl rfl rfl rfl rfl rfl Tryd.sizeOf24 rfl) ?_; rintro _ _ ⟨rfl, rfl⟩; refine E.relist (L2 := [_]) rfl ?_
                        refine E.pure (S.assign rfl) rfl ?_
                        refine E.pure (S.assign rfl) rfl ?_
                        refine E.pure (S.assign rfl) rfl ?_
                        refine E.keep [0, 2, 3, 4, 5, 6, 49, 68] (env1 := [(0, _), (2, _), (3, _), (4, _), (5, _), (6, _), (49, _), (68, _)]) rfl ?_
                        refine C.ret ?_
                        have hRR : spStart b = (h, 0, 1, 0) := by rw [hR0, sp1, ← hn, if_neg (by omega), if_pos (by omega)]
                        refine ⟨_, _, _, _, ⟨_, _, 0, rfl, rfl, rfl⟩, rfl, rfl, rfl, none, 0, 0, _, by rw [hRR, hh]; rfl, (.head _), ?_⟩
                        first | (rw [hRR]; done) | (rw [hRR]; rfl)
                      ·
                        refine E.wanted 55 rfl rfl ?_
                        refine E.pure (S.move rfl) rfl ?_
                        refine E.wanted 55 rfl rfl ?_
                        refine E.pure (S.lenSl rfl Tryd.underlying22) rfl ?_
                        refine E.wanted 55 rfl rfl ?_
                        refine E.pure (S.move rfl) rfl ?_
                        refine E.wanted 55 rfl rfl ?_
                        first | refine E.pure (S.sub rfl rfl (N.sub64 (by omega) (by omega))) rfl ?_ | refine E.pure (S.sub rfl rfl (N.subZ (by omega))) rfl ?_
                        refine E.wanted 55 rfl rfl ?_
                        first | refine E.pure (S.sub (b := ((2 : Nat) : Int)) rfl rfl (N.sub64 (by omega) (by omega))) rfl ?_ | refine E.pure (S.sub (b := ((2 : Nat) : Int)) rfl rfl (N.subZ (by omega))) rfl ?_
                        refine E.wanted 55 rfl rfl ?_
                        refine E.pure (S.move rfl) rfl ?_
                        refine E.wanted 55 rfl rfl ?_
                        refine E.pure (S.move rfl) rfl ?_
                        refine E.wanted 55 rfl rfl ?_
                        refine E.pure (S.move rfl) rfl ?_
                        refine E.wanted 55 rfl rfl ?_
                        first | refine E.pure (S.add (b := ((2 : Nat) : Int)) rfl rfl (N.add64 (by omega))) rfl ?_ | refine E.pure (S.add (b := ((2 : Nat) : Int)) rfl rfl (N.addZ (by omega))) rfl ?_
                        refine E.wanted 55 rfl rfl ?_
                        refine E.pure (S.slLH rfl rfl rfl (by omega) (by omega) Tryd.underlying22 Tryd.sizeOf5) rfl ?_
                        refine E.reslot (v := .slice (some ⟨pb, po + (n), none⟩) (((b.drop (n)).take 2).length) (cap - (n))) (slice_to (by have hpa : part po (n) cap 1 = po + (n) * 1 := if_neg (by omega); omega) (by rw [List.length_take, List.length_drop]; omega) rfl) ?_
                        refine E.wanted 55 rfl rfl ?_
                        refine E.loud1 (OpX.pick [] (F := [_]) rfl (X.call rfl Tryd.call20 (little_spec pb (po + (n)) (cap - (n)) ((b.drop (n)).take 2) (hp.sub (n) 2) (by rw [List.length_take]; omega)))) rfl ?_; rintro _ _ ⟨_, ⟨rfl, rfl⟩, rfl⟩; refine E.relist (L2 := [_]) rfl ?_
                        refine E.reslot (v := .int .i64 ((le16of (b.drop n) : Nat) : Int)) (by rw [le16_little (by rw [List.length_drop]; omega)]) ?_
                        refine E.wanted 55 rfl rfl ?_
                        refine E.pure (S.lt rfl rfl) rfl ?_
                        refine E.pure (S.pickF rfl rfl) rfl ?_
                        refine E.keep [0, 2, 3, 6, 49, 68] (env1 := [(0, _), (2, _), (3, _), (6, _), (49, _), (68, _)]) rfl ?_
                        first | refine C.ifp rfl (fun h68 => ?_) (fun h68 => ?_) | refine C.cond rfl (fun h68 => ?_) (fun h68 => ?_)
                        ·
                          refine C.seq ?_
                          refine C.region ?_
                          refine E.still (S.loadA 0 (k := 0) rfl rfl rfl rfl Tryd.isAgg24 Tryd.sizeOf24) rfl ?_
                          refine E.loud0 (X.storeA 0 (k := 0) rfl rfl rfl rfl rfl rfl Tryd.sizeOf24 rfl) ?_; rintro _ _ ⟨rfl, rfl⟩; refine E.relist (L2 := [_]) rfl ?_
                          refine E.pure (S.assign rfl) rfl ?_
                          refine E.pure (S.assign rfl) rfl ?_
                          refine E.pure (S.assign rfl) rfl ?_
                          refine E.keep [0, 2, 3, 4, 5, 6, 49, 68] (env1 := [(0, _), (2, _), (3, _), (4, _), (5, _), (6, _), (49, _), (68, _)]) rfl ?_
                          refine C.ret ?_
                          have hRR : spStart b = (h, 0, 1, 0) := by rw [hR0, sp1, ← hn, if_neg (by omega), if_pos (by omega)]
                          refine ⟨_, _, _, _, ⟨_, _, 0, rfl, rfl, rfl⟩, rfl, rfl, rfl, none, 0, 0, _, by rw [hRR, hh]; rfl, (.head _), ?_⟩
                          first | (rw [hRR]; done) | (rw [hRR]; rfl)
                        ·
                          refine C.skip ?_
                          refine C.seq ?_
                          refine C.region ?_
                          refine E.pure (S.move rfl) rfl ?_
                          refine E.pure (S.move rfl) rfl ?_
                          refine E.pure (S.move rfl) rfl ?_
                          first | refine E.pure (S.add (b := ((2 : Nat) : Int)) rfl rfl (N.add64 (by omega))) rfl ?_ | refine E.pure (S.add (b := ((2 : Nat) : Int)) rfl rfl (N.addZ (by omega))) rfl ?_
                          refine E.pure (S.slLH rfl rfl rfl (by omega) (by omega) Tryd.underlying22 Tryd.sizeOf5) rfl ?_
                          refine E.reslot (v := .slice (some ⟨pb, po + (n), none⟩) (((b.drop (n)).take 2).length) (cap - (n))) (slice_to (by have hpa : part po (n) cap 1 = po + (n) * 1 := if_neg (by omega); omega) (by rw [List.length_take, List.length_drop]; omega) rfl) ?_
                          refine E.loud1 (OpX.pick [] (F := [_]) rfl (X.call rfl Tryd.call20 (little_spec pb (po + (n)) (cap - (n)) ((b.drop (n)).take 2) (hp.sub (n) 2) (by rw [List.length_take]; omega)))) rfl ?_; rintro _ _ ⟨_, ⟨rfl, rfl⟩, rfl⟩; refine E.relist (L2 := [_]) rfl ?_
                          refine E.reslot (v := .int .i64 ((le16of (b.drop n) : Nat) : Int)) (by rw [le16_little (by rw [List.length_drop]; omega)]) ?_
                          refine E.pure (S.assign rfl) rfl ?_
                          refine E.keep [0, 2, 3, 6, 7, 49, 68] (env1 := [(0, _), (2, _), (3, _), (6, _), (7, _), (49, _), (68, _)]) rfl ?_
                          refine C.seq ?_
                          refine C.region ?_
                          refine E.pure (S.move rfl) rfl ?_
                          refine E.pure (S.move rfl) rfl ?_
                          first | refine E.pure (S.add (b := ((2 : Nat) : Int)) rfl rfl (N.add64 (by omega))) rfl ?_ | refine E.pure (S.add (b := ((2 : Nat) : Int)) rfl rfl (N.addZ (by omega))) rfl ?_
                          refine E.pure (S.move rfl) rfl ?_
                          first | refine E.pure (S.add (b := ((2 : Nat) : Int)) rfl rfl (N.add64 (by omega))) rfl ?_ | refine E.pure (S.add (b := ((2 : Nat) : Int)) rfl rfl (N.addZ (by omega))) rfl ?_
                          refine E.pure (S.move rfl) rfl ?_
                          first | refine E.pure (S.add rfl rfl (N.add64 (by omega))) rfl ?_ | refine E.pure (S.add rfl rfl (N.addZ (by omega))) rfl ?_
                          refine E.pure (S.slLH rfl rfl rfl (by omega) (by omega) Tryd.underlying22 Tryd.sizeOf5) rfl ?_
                          refine E.reslot (v := .slice (some ⟨pb, part po (n + 2) cap 1, none⟩) (((b.drop (n + 2)).take (le16of (b.drop n))).length) (cap - (n + 2))) (slice_to rfl (by rw [List.length_take, List.length_drop]; omega) rfl) ?_
                          refine E.loud1 (X.appendNil (ys := ((b.drop (n + 2)).take (le16of (b.drop n)))) rfl rfl rfl ⟨_, _, rfl, (kb_part hp hcap _ _).reads⟩ (by rw [List.length_take]; omega)) rfl ?_
                          rintro _ _ (⟨hy, rfl, rfl⟩ | ⟨xb, xo, xc, xcs, hy, rfl, rfl, hxc⟩)
                          ·
                            refine E.relist (L2 := [_]) rfl ?_
                            refine E.same (Same.addEmpty (f := ⟨b2, 0, _⟩) (.head _) 0) ?_
                            refine E.perml [1, 0] (A := [_, _]) (F := []) rfl ?_
                            refine E.relist (L2 := [_, _]) rfl ?_
                            refine E.pure (S.field rfl fa24_2) rfl ?_
                            refine E.loud0 (X.store 0 (k := 2) rfl rfl rfl rfl rfl Tryd.sizeOf22) ?_; rintro _ _ ⟨rfl, rfl⟩; refine E.relist (L2 := [_, _]) rfl ?_
                            refine E.keep [0, 2, 3, 6, 7, 49, 68] (env1 := [(0, _), (2, _), (3, _), (6, _), (7, _), (49, _), (68, _)]) rfl ?_
                            refine C.region ?_
                            refine E.pure (S.move rfl) rfl ?_
                            refine E.pure (S.move rfl) rfl ?_
                            first | refine E.pure (S.add (a := ((2 : Nat) : Int)) rfl rfl (N.add64 (by omega))) rfl ?_ | refine E.pure (S.add (a := ((2 : Nat) : Int)) rfl rfl (N.addZ (by omega))) rfl ?_
                            first | refine E.pure (S.add rfl rfl (N.add64 (by omega))) rfl ?_ | refine E.pure (S.add rfl rfl (N.addZ (by omega))) rfl ?_
                            refine E.pure (S.assign rfl) rfl ?_
                            refine E.keep [0, 2, 3, 6, 7, 49, 68] (env1 := [(0, _), (2, _), (3, _), (6, _), (7, _), (49, _), (68, _)]) rfl ?_
                            first | exact ⟨n + (2 + le16of (b.drop n)), { h with extra := some ((b.drop (n + 2)).take (le16of (b.drop n))) }, none, 0, 0, _, rfl, rfl, by rw [hR0, sp1, ← hn, if_neg (by omega), if_neg (by omega), List.drop_drop], by omega, .inl ⟨hy, rfl⟩⟩ | exact ⟨n + (2 + le16of (b.drop n)), { h with extra := some ((b.drop (n + 2)).take (le16of (b.drop n))) }, some ⟨xb, xo, none⟩, ((b.drop (n + 2)).take (le16of (b.drop n))).length, xc, _, rfl, rfl, by rw [hR0, sp1, ← hn, if_neg (by omega), if_neg (by omega), List.drop_drop], by omega, .inr ⟨xb, xo, xc, xcs, rfl, rfl, hxc⟩⟩ | exact ⟨n, h, none, 0, 0, _, rfl, rfl, by rw [hR0, sp1, ← hn, if_pos (by omega)], by omega, by rw [hh]; rfl⟩
                          ·
                            refine E.relist (L2 := [_, _]) rfl ?_
                            refine E.perml [1, 0] (A := [_, _]) (F := []) rfl ?_
                            refine E.relist (L2 := [_, _]) rfl ?_
                            refine E.pure (S.field rfl fa24_2) rfl ?_
                            refine E.loud0 (X.store 0 (k := 2) rfl rfl rfl rfl rfl Tryd.sizeOf22) ?_; rintro _ _ ⟨rfl, rfl⟩; refine E.relist (L2 := [_, _]) rfl ?_
                            refine E.keep [0, 2, 3, 6, 7, 49, 68] (env1 := [(0, _), (2, _), (3, _), (6, _), (7, _), (49, _), (68, _)]) rfl ?_
                            refine C.region ?_
                            refine E.pure (S.move rfl) rfl ?_
                            refine E.pure (S.move rfl) rfl ?_
                            first | refine E.pure (S.add (a := ((2 : Nat) : Int)) rfl rfl (N.add64 (by omega))) rfl ?_ | refine E.pure (S.add (a := ((2 : Nat) : Int)) rfl rfl (N.addZ (by omega))) rfl ?_
                            first | refine E.pure (S.add rfl rfl (N.add64 (by omega))) rfl ?_ | refine E.pure (S.add rfl rfl (N.addZ (by omega))) rfl ?_
                            refine E.pure (S.assign rfl) rfl ?_
                            refine E.keep [0, 2, 3, 6, 7, 49, 68] (env1 := [(0, _), (2, _), (3, _), (6, _), (7, _), (49, _), (68, _)]) rfl ?_
                            first | exact ⟨n + (2 + le16of (b.drop n)), { h with extra := some ((b.drop (n + 2)).take (le16of (b.drop n))) }, none, 0, 0, _, rfl, rfl, by rw [hR0, sp1, ← hn, if_neg (by omega), if_neg (by omega), List.drop_drop], by omega, .inl ⟨hy, rfl⟩⟩ | exact ⟨n + (2 + le16of (b.drop n)), { h with extra := some ((b.drop (n + 2)).take (le16of (b.drop n))) }, some ⟨xb, xo, none⟩, ((b.drop (n + 2)).take (le16of (b.drop n))).length, xc, _, rfl, rfl, by rw [hR0, sp1, ← hn, if_neg (by omega), if_neg (by omega), List.drop_drop], by omega, .inr ⟨xb, xo, xc, xcs, rfl, rfl, hxc⟩⟩ | exact ⟨n, h, none, 0, 0, _, rfl, rfl, by rw [hR0, sp1, ← hn, if_pos (by omega)], by omega, by rw [hh]; rfl⟩
                    ·
                      refine C.same (Same.addEmpty (f := ⟨b2, 0, _⟩) (.head _) 0) ?_
                      refine C.perml [1, 0] (A := [_, _]) (F := []) rfl ?_
                      refine C.relist (L2 := [_, _]) rfl ?_
                      refine C.skip ?_
                      first | exact ⟨n + (2 + le16of (b.drop n)), { h with extra := some ((b.drop (n + 2)).take (le16of (b.drop n))) }, none, 0, 0, _, rfl, rfl, by rw [hR0, sp1, ← hn, if_neg (by omega), if_neg (by omega), List.drop_drop], by omega, .inl ⟨hy, rfl⟩⟩ | exact ⟨n + (2 + le16of (b.drop n)), { h with extra := some ((b.drop (n + 2)).take (le16of (b.drop n))) }, some ⟨xb, xo, none⟩, ((b.drop (n + 2)).take (le16of (b.drop n))).length, xc, _, rfl, rfl, by rw [hR0, sp1, ← hn, if_neg (by omega), if_neg (by omega), List.drop_drop], by omega, .inr ⟨xb, xo, xc, xcs, rfl, rfl, hxc⟩⟩ | exact ⟨n, h, none, 0, 0, _, rfl, rfl, by rw [hR0, sp1, ← hn, if_pos (by omega)], by omega, by rw [hh]; rfl⟩
                  ·
                    rintro _ _ ⟨n, h, xa, xn, xc, xf, hq16, rfl, hR, hn, hX⟩
                    refine C.weaken _ hq16 ?_
                    refine C.cut (M := fun ee ll => ∃ (fb : Nat), ∃ (n : Nat), ∃ (h : Hd), keeps ee [0, 2, 3, 6] = some [(0, .slice (some ⟨pb, po, none⟩) (b.length) (cap)), (2, .pointer (some ⟨b2, 0, none⟩)), (3, .int .i64 ((n : Nat) : Int)), (6, .int .u8 (((b.getD 3 0).toNat : Nat) : Int))] ∧ ll = [⟨fb, 0, [.int .u8 8, .int .u8 16]⟩, ⟨b2, 0, [.string h.name, .string h.comment, .slice xa xn xc, .int .i64 ((h.mod : Nat) : Int), .int .u8 ((h.os : Nat) : Int)]⟩, xf] ∧ (spStart b = sp4 b (b.getD 3 0).toNat n h) ∧ (n ≤ b.length) ∧ (ExSp h.extra (.slice xa xn xc) xf)) ?_ ?_
                    ·
                      refine C.seq ?_
                      refine C.region ?_
                      refine E.loud1 (X.buildSliceV (vs := [.int .u8 8, .int .u8 16]) (e := 5) [(0, .int .u8 8), (1, .int .u8 16)] rfl (fun w => by simp [Instr.buildSlice, Instr.fill, Value.cells, newRow, Tryd.runUnderlying22, Tryd.typeInfo5]; rw [arr2])) rfl ?_; rintro _ _ ⟨fb, rfl, rfl⟩; refine E.relist (L2 := [_, _, _]) rfl ?_
                      refine E.pure (S.lenSl rfl Tryd.underlying22) rfl ?_
                      refine E.pure (S.move rfl) rfl ?_
                      refine E.keep [0, 2, 3, 6, 90, 91, 92] (env1 := [(0, _), (2, _), (3, _), (6, _), (90, _), (91, _), (92, _)]) rfl ?_
                      refine C.block ?_
                      refine C.loop (fun mm ee ll => ∃ (k : Nat), ∃ (n : Nat), ∃ (h : Hd), keeps ee [0, 2, 3, 6, 90, 91, 92] = some [(0, .slice (some ⟨pb, po, none⟩) (b.length) (cap)), (2, .pointer (some ⟨b2, 0, none⟩)), (3, .int .i64 ((n : Nat) : Int)), (6, .int .u8 (((b.getD 3 0).toNat : Nat) : Int)), (90, .slice (some ⟨fb, 0, none⟩) (2) (2)), (91, .int .i64 ((2 : Nat) : Int)), (92, .int .i64 ((k : Nat) : Int))] ∧ ll = [⟨fb, 0, [.int .u8 8, .int .u8 16]⟩, ⟨b2, 0, [.string h.name, .string h.comment, .slice xa xn xc, .int .i64 ((h.mod : Nat) : Int), .int .u8 ((h.os : Nat) : Int)]⟩, xf] ∧ (spStart b = spK b (b.getD 3 0).toNat k n h) ∧ (k ≤ 2) ∧ (n ≤ b.length) ∧ (ExSp h.extra (.slice xa xn xc) xf) ∧ mm = 2 - k) (_) ⟨0, n, h, rfl, rfl, hR, by omega, hn, hX, rfl⟩ ?_
                      rintro m2 _ _ ⟨k, n, h, hk2, rfl, hR, hk, hn, hX, hm2⟩
                      refine C.weaken _ hk2 ?_
                      refine C.seq ?_
                      refine C.region ?_
                      refine E.pure (S.lt rfl rfl) rfl ?_
                      refine E.keep [0, 2, 3, 6, 90, 91, 92, 93] (env1 := [(0, _), (2, _), (3, _), (6, _), (90, _), (91, _), (92, _), (93, _)]) rfl ?_
                      refine C.seq ?_
                      first | refine C.ifp rfl (fun h93 => ?_) (fun h93 => ?_) | refine C.cond rfl (fun h93 => ?_) (fun h93 => ?_)
                      ·
                        have hk2 : k < 2 := by omega
                        have hfk := flagK_lt k
                        refine C.skip ?_
                        refine C.seq ?_
                        refine C.block ?_
                        refine C.seq ?_
                        refine C.region ?_
                        refine E.pure (S.ixSl rfl rfl (by omega) Tryd.underlying22 Tryd.sizeOf5) rfl ?_
                        refine E.reslot (v := .pointer (some ⟨fb, 0 + k, none⟩)) (ptr_to (by omega)) ?_
                        refine E.still (S.load 0 (k := k) rfl rfl (flagK_get k hk2) Tryd.isAgg5) rfl ?_
                        refine E.pure (S.assign rfl) rfl ?_
                        refine E.keep [0, 2, 3, 6, 9, 90, 91, 92, 93] (env1 := [(0, _), (2, _), (3, _), (6, _), (9, _), (90, _), (91, _), (92, _), (93, _)]) rfl ?_
                        refine C.seq ?_
                        refine C.seq ?_
                        refine C.region ?_
                        refine E.pure (S.move rfl) rfl ?_
                        refine E.pure (S.move rfl) rfl ?_
                        refine E.pure (S.and rfl rfl (N.and_u8 (by omega) (by omega))) rfl ?_
                        refine E.pure (S.eq (b := ((0 : Nat) : Int)) rfl rfl) rfl ?_
                        refine E.keep [0, 2, 3, 6, 9, 90, 91, 92, 93, 99] (env1 := [(0, _), (2, _), (3, _), (6, _), (9, _), (90, _), (91, _), (92, _), (93, _), (99, _)]) rfl ?_
                        first | refine C.ifp rfl (fun h99 => ?_) (fun h99 => ?_) | refine C.cond rfl (fun h99 => ?_) (fun h99 => ?_)
                        ·
                          refine C.exit rfl ?_
                          refine C.region ?_
                          first | refine E.pure (S.add (b := ((1 : Nat) : Int)) rfl rfl (N.add64 (by omega))) rfl ?_ | refine E.pure (S.add (b := ((1 : Nat) : Int)) rfl rfl (N.addZ (by omega))) rfl ?_
                          refine E.pure (S.move rfl) rfl ?_
                          refine E.keep [0, 2, 3, 6, 9, 90, 91, 92, 93, 99] (env1 := [(0, _), (2, _), (3, _), (6, _), (9, _), (90, _), (91, _), (92, _), (93, _), (99, _)]) rfl ?_
                          first | (refine ⟨_, ?_, k + 1, n, h, rfl, rfl, by first | (rw [hR, spK_skip hk2 (by omega)]; done) | (rw [hR, hs, hk0, spK_name (by rw [← hk0]; omega) (by omega) (by omega)]; done) | (rw [hR, hs, hk1, spK_comment (by rw [← hk1]; omega) (by omega) (by omega)]; done), by omega, by omega, hX, rfl⟩; omega) | (refine ⟨_, ?_, k + 1, n + (s + 1), { h with name := latin ((b.drop n).take s) }, rfl, rfl, by first | (rw [hR, spK_skip hk2 (by omega)]; done) | (rw [hR, hs, hk0, spK_name (by rw [← hk0]; omega) (by omega) (by omega)]; done) | (rw [hR, hs, hk1, spK_comment (by rw [← hk1]; omega) (by omega) (by omega)]; done), by omega, by omega, hX, rfl⟩; omega) | (refine ⟨_, ?_, k + 1, n + (s + 1), { h with comment := latin ((b.drop n).take s) }, rfl, rfl, by first | (rw [hR, spK_skip hk2 (by omega)]; done) | (rw [hR, hs, hk0, spK_name (by rw [← hk0]; omega) (by omega) (by omega)]; done) | (rw [hR, hs, hk1, spK_comment (by rw [← hk1]; omega) (by omega) (by omega)]; done), by omega, by omega, hX, rfl⟩; omega)
                        ·
                          refine C.skip ?_
                          refine C.seq ?_
                          refine C.region ?_
                          refine E.pure (S.assign rfl) rfl ?_
                          refine E.keep [0, 2, 3, 6, 9, 10, 90, 91, 92, 93, 99] (env1 := [(0, _), (2, _), (3, _), (6, _), (9, _), (10, _), (90, _), (91, _), (92, _), (93, _), (99, _)]) rfl ?_
                          refine C.cut (M := fun ee ll => ∃ (s : Nat), keeps ee [0, 2, 3, 6, 90, 91, 92, 9, 10] = some [(0, .slice (some ⟨pb, po, none⟩) (b.length) (cap)), (2, .pointer (some ⟨b2, 0, none⟩)), (3, .int .i64 ((n : Nat) : Int)), (6, .int .u8 (((b.getD 3 0).toNat : Nat) : Int)), (90, .slice (some ⟨fb, 0, none⟩) (2) (2)), (91, .int .i64 ((2 : Nat) : Int)), (92, .int .i64 ((k : Nat) : Int)), (9, .int .u8 ((flagK k : Nat) : Int)), (10, .int .i64 ((s : Nat) : Int))] ∧ ll = [⟨fb, 0, [.int .u8 8, .int .u8 16]⟩, ⟨b2, 0, [.string h.name, .string h.comment, .slice xa xn xc, .int .i64 ((h.mod : Nat) : Int), .int .u8 ((h.os : Nat) : Int)]⟩, xf] ∧ (s = strLen (b.drop n)) ∧ (n + s ≤ b.length)) ?_ ?_
                          ·
                            refine C.block ?_
                            refine C.loop (fun mm ee ll => ∃ (s : Nat), keeps ee [0, 2, 3, 6, 90, 91, 92, 9, 10] = some [(0, .slice (some ⟨pb, po, none⟩) (b.length) (cap)), (2, .pointer (some ⟨b2, 0, none⟩)), (3, .int .i64 ((n : Nat) : Int)), (6, .int .u8 (((b.getD 3 0).toNat : Nat) : Int)), (90, .slice (some ⟨fb, 0, none⟩) (2) (2)), (91, .int .i64 ((2 : Nat) : Int)), (92, .int .i64 ((k : Nat) : Int)), (9, .int .u8 ((flagK k : Nat) : Int)), (10, .int .i64 ((s : Nat) : Int))] ∧ ll = [⟨fb, 0, [.int .u8 8, .int .u8 16]⟩, ⟨b2, 0, [.string h.name, .string h.comment, .slice xa xn xc, .int .i64 ((h.mod : Nat) : Int), .int .u8 ((h.os : Nat) : Int)]⟩, xf] ∧ (∀ c ∈ (b.drop n).take s, c ≠ 0) ∧ (n + s ≤ b.length) ∧ mm = b.length - (n + s)) (_) ⟨0, rfl, rfl, by simp, by omega, rfl⟩ ?_
                            rintro m3 _ _ ⟨s, hk3, rfl, hz, hsn, hm3⟩
                            refine C.weaken _ hk3 ?_
                            refine C.seq ?_
                            refine C.seq ?_
                            refine C.region ?_
                            refine E.pure (S.move rfl) rfl ?_
                            refine E.pure (S.move rfl) rfl ?_
                            first | refine E.pure (S.add rfl rfl (N.add64 (by omega))) rfl ?_ | refine E.pure (S.add rfl rfl (N.addZ (by omega))) rfl ?_
                            refine E.pure (S.move rfl) rfl ?_
                            refine E.pure (S.lenSl rfl Tryd.underlying22) rfl ?_
                            refine E.pure (S.lt rfl rfl) rfl ?_
                            refine E.pure (S.move rfl) rfl ?_
                            first | refine E.fork (fun g106 => ?_) (fun g106 => ?_) | refine E.forkB (fun g106 => ?_) (fun g106 => ?_)
                            ·
                              have hns : n + s < b.length := by omega
                              refine E.wanted 106 rfl rfl ?_
                              refine E.pure (S.move rfl) rfl ?_
                              refine E.wanted 106 rfl rfl ?_
                              refine E.pure (S.move rfl) rfl ?_
                              refine E.wanted 106 rfl rfl ?_
                              refine E.pure (S.move rfl) rfl ?_
                              refine E.wanted 106 rfl rfl ?_
                              first | refine E.pure (S.add rfl rfl (N.add64 (by omega))) rfl ?_ | refine E.pure (S.add rfl rfl (N.addZ (by omega))) rfl ?_
                              refine E.wanted 106 rfl rfl ?_
                              refine E.pure (S.ixSl rfl rfl (by omega) Tryd.underlying22 Tryd.sizeOf5) rfl ?_
                              refine E.wanted 106 rfl rfl ?_
                              refine E.still (S.loadBase rfl (hp.at hns) Tryd.isAgg5) rfl ?_
                              refine E.wanted 106 rfl rfl ?_
                              refine E.pure (S.ne (b := ((0 : Nat) : Int)) rfl rfl) rfl ?_
                              refine E.pure (S.pickT rfl rfl) rfl ?_
                              refine E.keep [0, 2, 3, 6, 9, 10, 90, 91, 92, 114] (env1 := [(0, _), (2, _), (3, _), (6, _), (9, _), (10, _), (90, _), (91, _), (92, _), (114, _)]) rfl ?_
                              first | refine C.ifp rfl (fun h114 => ?_) (fun h114 => ?_) | refine C.cond rfl (fun h114 => ?_) (fun h114 => ?_)
                              ·
                                have hnz : (b.drop n)[s]'(by rw [List.length_drop]; omega) ≠ 0 := by
                                  intro hz1
                                  rw [List.getElem_drop] at hz1
                                  rw [hz1] at h114
                                  exact h114 rfl
                                refine C.skip ?_
                                refine C.block ?_
                                refine C.region ?_
                                refine E.pure (S.move rfl) rfl ?_
                                first | refine E.pure (S.add (b := ((1 : Nat) : Int)) rfl rfl (N.add64 (by omega))) rfl ?_ | refine E.pure (S.add (b := ((1 : Nat) : Int)) rfl rfl (N.addZ (by omega))) rfl ?_
                                refine E.pure (S.assign rfl) rfl ?_
                                refine E.keep [0, 2, 3, 6, 9, 10, 90, 91, 92, 114] (env1 := [(0, _), (2, _), (3, _), (6, _), (9, _), (10, _), (90, _), (91, _), (92, _), (114, _)]) rfl ?_
                                refine ⟨_, ?_, s + 1, rfl, rfl, nz_more hz (by rw [List.length_drop]; omega) hnz, by omega, rfl⟩; omega
                              ·
                                have hz0 : (b.drop n)[s]? = some 0 := by
                                  rw [List.getElem?_drop, List.getElem?_eq_getElem hns, Option.some.injEq]
                                  exact UInt8.toNat_inj.1 (by simpa using h114)
                                refine C.exit rfl ?_
                                first | exact ⟨s, rfl, rfl, by rw [strLen_end (by rw [List.take_of_length_le (by rw [List.length_drop]; omega)] at hz; exact hz), List.length_drop]; omega, hsn⟩ | exact ⟨s, rfl, rfl, (strLen_found hz hz0).symm, hsn⟩
                            ·
                              refine E.guardNo 106 false rfl rfl rfl rfl ?_
                              refine E.guardNo 106 false rfl rfl rfl rfl ?_
                              refine E.guardNo 106 false rfl rfl rfl rfl ?_
                              refine E.guardNo 106 false rfl rfl rfl rfl ?_
                              refine E.guardNo 106 false rfl rfl rfl rfl ?_
                              refine E.guardNo 106 false rfl rfl rfl rfl ?_
                              refine E.guardNo 106 false rfl rfl rfl rfl ?_
                              refine E.pure (S.pickF rfl rfl) rfl ?_
                              refine E.keep [0, 2, 3, 6, 9, 10, 90, 91, 92, 114] (env1 := [(0, _), (2, _), (3, _), (6, _), (9, _), (10, _), (90, _), (91, _), (92, _), (114, _)]) rfl ?_
                              refine C.no rfl (rfl) ?_
                              refine C.exit rfl ?_
                              first | exact ⟨s, rfl, rfl, by rw [strLen_end (by rw [List.take_of_length_le (by rw [List.length_drop]; omega)] at hz; exact hz), List.length_drop]; omega, hsn⟩ | exact ⟨s, rfl, rfl, (strLen_found hz hz0).symm, hsn⟩
                          ·
                            rintro _ _ ⟨s, hq23, rfl, hs, hsn⟩
                            refine C.weaken _ hq23 ?_
                            refine C.seq ?_
                            refine C.seq ?_
                            refine C.region ?_
                            refine E.pure (S.move rfl) rfl ?_
                            refine E.pure (S.move rfl) rfl ?_
                            first | refine E.pure (S.add rfl rfl (N.add64 (by omega))) rfl ?_ | refine E.pure (S.add rfl rfl (N.addZ (by omega))) rfl ?_
                            refine E.pure (S.move rfl) rfl ?_
                            refine E.pure (S.lenSl rfl Tryd.underlying22) rfl ?_
                            refine E.pure (S.eq rfl rfl) rfl ?_
                            refine E.keep [0, 2, 3, 6, 9, 10, 90, 91, 92, 122] (env1 := [(0, _), (2, _), (3, _), (6, _), (9, _), (10, _), (90, _), (91, _), (92, _), (122, _)]) rfl ?_
                            first | refine C.ifp rfl (fun h122 => ?_) (fun h122 => ?_) | refine C.cond rfl (fun h122 => ?_) (fun h122 => ?_)
                            ·
                              refine C.seq ?_
                              refine C.region ?_
                              refine E.still (S.loadA 1 (k := 0) rfl rfl rfl rfl Tryd.isAgg24 Tryd.sizeOf24) rfl ?_
                              refine E.loud0 (X.storeA 1 (k := 0) rfl rfl rfl rfl rfl rfl Tryd.sizeOf24 rfl) ?_; rintro _ _ ⟨rfl, rfl⟩; refine E.relist (L2 := [_, _, _]) rfl ?_
                              refine E.pure (S.assign rfl) rfl ?_
                              refine E.pure (S.assign rfl) rfl ?_
                              refine E.pure (S.assign rfl) rfl ?_
                              refine E.keep [0, 2, 3, 4, 5, 6, 9, 10, 90, 91, 92, 122] (env1 := [(0, _), (2, _), (3, _), (4, _), (5, _), (6, _), (9, _), (10, _), (90, _), (91, _), (92, _), (122, _)]) rfl ?_
                              refine C.ret ?_
                              have hRR : spStart b = (h, 0, 1, 0) := by rw [hR, spK_bad hk2 (by omega) (by omega)]
                              refine ⟨_, _, _, _, ⟨_, _, 1, rfl, rfl, rfl⟩, rfl, rfl, rfl, xa, xn, xc, _, by rw [hRR]; exact hX, (.tail _ (.tail _ (.head _))), ?_⟩
                              first | (rw [hRR]; done) | (rw [hRR]; rfl)
                            ·
                              refine C.skip ?_
                              refine C.seq ?_
                              refine C.seq ?_
                              refine C.region ?_
                              refine E.pure (S.move rfl) rfl ?_
                              refine E.pure (S.ge (b := ((512 : Nat) : Int)) rfl rfl) rfl ?_
                              refine E.keep [0, 2, 3, 6, 9, 10, 90, 91, 92, 122, 125] (env1 := [(0, _), (2, _), (3, _), (6, _), (9, _), (10, _), (90, _), (91, _), (92, _), (122, _), (125, _)]) rfl ?_
                              first | refine C.ifp rfl (fun h125 => ?_) (fun h125 => ?_) | refine C.cond rfl (fun h125 => ?_) (fun h125 => ?_)
                              ·
                                refine C.seq ?_
                                refine C.region ?_
                                refine E.still (S.loadA 1 (k := 0) rfl rfl rfl rfl Tryd.isAgg24 Tryd.sizeOf24) rfl ?_
                                refine E.loud0 (X.storeA 1 (k := 0) rfl rfl rfl rfl rfl rfl Tryd.sizeOf24 rfl) ?_; rintro _ _ ⟨rfl, rfl⟩; refine E.relist (L2 := [_, _, _]) rfl ?_
                                refine E.pure (S.assign rfl) rfl ?_
                                refine E.pure (S.assign rfl) rfl ?_
                                refine E.pure (S.assign rfl) rfl ?_
                                refine E.keep [0, 2, 3, 4, 5, 6, 9, 10, 90, 91, 92, 122, 125] (env1 := [(0, _), (2, _), (3, _), (4, _), (5, _), (6, _), (9, _), (10, _), (90, _), (91, _), (92, _), (122, _), (125, _)]) rfl ?_
                                refine C.ret ?_
                                have hRR : spStart b = (h, 0, 2, 0) := by rw [hR, spK_open hk2 (by omega) (by omega) (by omega)]
                                refine ⟨_, _, _, _, ⟨_, _, 1, rfl, rfl, rfl⟩, rfl, rfl, rfl, xa, xn, xc, _, by rw [hRR]; exact hX, (.tail _ (.tail _ (.head _))), ?_⟩
                                first | (rw [hRR]; done) | (rw [hRR]; rfl)
                              ·
                                refine C.skip ?_
                                refine C.seq ?_
                                refine C.seq ?_
                                refine C.region ?_
                                refine E.pure (S.move rfl) rfl ?_
                                refine E.pure (S.eq (b := ((8 : Nat) : Int)) rfl rfl) rfl ?_
                                refine E.keep [0, 2, 3, 6, 9, 10, 90, 91, 92, 122, 125, 128] (env1 := [(0, _), (2, _), (3, _), (6, _), (9, _), (10, _), (90, _), (91, _), (92, _), (122, _), (125, _), (128, _)]) rfl ?_
                                first | refine C.ifp rfl (fun h128 => ?_) (fun h128 => ?_) | refine C.cond rfl (fun h128 => ?_) (fun h128 => ?_)
                                ·
                                  have hk0 : k = 0 := by
                                    rcases (show k = 0 ∨ k = 1 by omega) with h | h
                                    · exact h
                                    · rw [h] at h128; exact absurd h128 (by decide)
                                  refine C.region ?_
                                  refine E.pure (S.move rfl) rfl ?_
                                  refine E.pure (S.move rfl) rfl ?_
                                  refine E.pure (S.move rfl) rfl ?_
                                  refine E.pure (S.move rfl) rfl ?_
                                  first | refine E.pure (S.add rfl rfl (N.add64 (by omega))) rfl ?_ | refine E.pure (S.add rfl rfl (N.addZ (by omega))) rfl ?_
                                  refine E.pure (S.slLH rfl rfl rfl (by omega) (by omega) Tryd.underlying22 Tryd.sizeOf5) rfl ?_
                                  refine E.reslot (v := .slice (some ⟨pb, po + (n), none⟩) (((b.drop (n)).take s).length) (cap - (n))) (slice_to (by have hpa : part po (n) cap 1 = po + (n) * 1 := if_neg (by omega); omega) (by rw [List.length_take, List.length_drop]; omega) rfl) ?_
                                  refine E.loud1 (X.call rfl Tryd.call21 (latin_any pb (po + n) (cap - n) ((b.drop n).take s) (hp.sub n s) (by rw [List.length_take, List.length_drop]; omega))) rfl ?_; rintro _ _ ⟨rfl, rfl⟩; refine E.relist (L2 := [_, _, _]) rfl ?_
                                  refine E.pure (S.field rfl fa24_0) rfl ?_
                                  refine E.loud0 (X.store 1 (k := 0) rfl rfl rfl rfl rfl Tryd.sizeOf9) ?_; rintro _ _ ⟨rfl, rfl⟩; refine E.relist (L2 := [_, _, _]) rfl ?_
                                  refine E.keep [0, 2, 3, 6, 9, 10, 90, 91, 92, 122, 125, 128] (env1 := [(0, _), (2, _), (3, _), (6, _), (9, _), (10, _), (90, _), (91, _), (92, _), (122, _), (125, _), (128, _)]) rfl ?_
                                  refine C.region ?_
                                  refine E.pure (S.move rfl) rfl ?_
                                  refine E.pure (S.move rfl) rfl ?_
                                  first | refine E.pure (S.add (b := ((1 : Nat) : Int)) rfl rfl (N.add64 (by omega))) rfl ?_ | refine E.pure (S.add (b := ((1 : Nat) : Int)) rfl rfl (N.addZ (by omega))) rfl ?_
                                  first | refine E.pure (S.add rfl rfl (N.add64 (by omega))) rfl ?_ | refine E.pure (S.add rfl rfl (N.addZ (by omega))) rfl ?_
                                  refine E.pure (S.assign rfl) rfl ?_
                                  refine E.keep [0, 2, 3, 6, 9, 10, 90, 91, 92, 122, 125, 128] (env1 := [(0, _), (2, _), (3, _), (6, _), (9, _), (10, _), (90, _), (91, _), (92, _), (122, _), (125, _), (128, _)]) rfl ?_
                                  refine C.region ?_
                                  first | refine E.pure (S.add (b := ((1 : Nat) : Int)) rfl rfl (N.add64 (by omega))) rfl ?_ | refine E.pure (S.add (b := ((1 : Nat) : Int)) rfl rfl (N.addZ (by omega))) rfl ?_
                                  refine E.pure (S.move rfl) rfl ?_
                                  refine E.keep [0, 2, 3, 6, 9, 10, 90, 91, 92, 122, 125, 128] (env1 := [(0, _), (2, _), (3, _), (6, _), (9, _), (10, _), (90, _), (91, _), (92, _), (122, _), (125, _), (128, _)]) rfl ?_
                                  first | (refine ⟨_, ?_, k + 1, n, h, rfl, rfl, by first | (rw [hR, spK_skip hk2 (by omega)]; done) | (rw [hR, hs, hk0, spK_name (by rw [← hk0]; omega) (by omega) (by omega)]; done) | (rw [hR, hs, hk1, spK_comment (by rw [← hk1]; omega) (by omega) (by omega)]; done), by omega, by omega, hX, rfl⟩; omega) | (refine ⟨_, ?_, k + 1, n + (s + 1), { h with name := latin ((b.drop n).take s) }, rfl, rfl, by first | (rw [hR, spK_skip hk2 (by omega)]; done) | (rw [hR, hs, hk0, spK_name (by rw [← hk0]; omega) (by omega) (by omega)]; done) | (rw [hR, hs, hk1, spK_comment (by rw [← hk1]; omega) (by omega) (by omega)]; done), by omega, by omega, hX, rfl⟩; omega) | (refine ⟨_, ?_, k + 1, n + (s + 1), { h with comment := latin ((b.drop n).take s) }, rfl, rfl, by first | (rw [hR, spK_skip hk2 (by omega)]; done) | (rw [hR, hs, hk0, spK_name (by rw [← hk0]; omega) (by omega) (by omega)]; done) | (rw [hR, hs, hk1, spK_comment (by rw [← hk1]; omega) (by omega) (by omega)]; done), by omega, by omega, hX, rfl⟩; omega)
                                ·
                                  have hk1 : k = 1 := by
                                    rcases (show k = 0 ∨ k = 1 by omega) with h | h
                                    · rw [h] at h128; exact absurd rfl h128
                                    · exact h
                                  refine C.region ?_
                                  refine E.pure (S.move rfl) rfl ?_
                                  refine E.pure (S.move rfl) rfl ?_
                                  refine E.pure (S.move rfl) rfl ?_
                                  refine E.pure (S.move rfl) rfl ?_
                                  first | refine E.pure (S.add rfl rfl (N.add64 (by omega))) rfl ?_ | refine E.pure (S.add rfl rfl (N.addZ (by omega))) rfl ?_
                                  refine E.pure (S.slLH rfl rfl rfl (by omega) (by omega) Tryd.underlying22 Tryd.sizeOf5) rfl ?_
                                  refine E.reslot (v := .slice (some ⟨pb, po + (n), none⟩) (((b.drop (n)).take s).length) (cap - (n))) (slice_to (by have hpa : part po (n) cap 1 = po + (n) * 1 := if_neg (by omega); omega) (by rw [List.length_take, List.length_drop]; omega) rfl) ?_
                                  refine E.loud1 (X.call rfl Tryd.call21 (latin_any pb (po + n) (cap - n) ((b.drop n).take s) (hp.sub n s) (by rw [List.length_take, List.length_drop]; omega))) rfl ?_; rintro _ _ ⟨rfl, rfl⟩; refine E.relist (L2 := [_, _, _]) rfl ?_
                                  refine E.pure (S.field rfl fa24_1) rfl ?_
                                  refine E.loud0 (X.store 1 (k := 1) rfl rfl rfl rfl rfl Tryd.sizeOf9) ?_; rintro _ _ ⟨rfl, rfl⟩; refine E.relist (L2 := [_, _, _]) rfl ?_
                                  refine E.keep [0, 2, 3, 6, 9, 10, 90, 91, 92, 122, 125, 128] (env1 := [(0, _), (2, _), (3, _), (6, _), (9, _), (10, _), (90, _), (91, _), (92, _), (122, _), (125, _), (128, _)]) rfl ?_
                                  refine C.region ?_
                                  refine E.pure (S.move rfl) rfl ?_
                                  refine E.pure (S.move rfl) rfl ?_
                                  first | refine E.pure (S.add (b := ((1 : Nat) : Int)) rfl rfl (N.add64 (by omega))) rfl ?_ | refine E.pure (S.add (b := ((1 : Nat) : Int)) rfl rfl (N.addZ (by omega))) rfl ?_
                                  first | refine E.pure (S.add rfl rfl (N.add64 (by omega))) rfl ?_ | refine E.pure (S.add rfl rfl (N.addZ (by omega))) rfl ?_
                                  refine E.pure (S.assign rfl) rfl ?_
                                  refine E.keep [0, 2, 3, 6, 9, 10, 90, 91, 92, 122, 125, 128] (env1 := [(0, _), (2, _), (3, _), (6, _), (9, _), (10, _), (90, _), (91, _), (92, _), (122, _), (125, _), (128, _)]) rfl ?_
                                  refine C.region ?_
                                  first | refine E.pure (S.add (b := ((1 : Nat) : Int)) rfl rfl (N.add64 (by omega))) rfl ?_ | refine E.pure (S.add (b := ((1 : Nat) : Int)) rfl rfl (N.addZ (by omega))) rfl ?_
                                  refine E.pure (S.move rfl) rfl ?_
                                  refine E.keep [0, 2, 3, 6, 9, 10, 90, 91, 92, 122, 125, 128] (env1 := [(0, _), (2, _), (3, _), (6, _), (9, _), (10, _), (90, _), (91, _), (92, _), (122, _), (125, _), (128, _)]) rfl ?_
                                  first | (refine ⟨_, ?_, k + 1, n, h, rfl, rfl, by first | (rw [hR, spK_skip hk2 (by omega)]; done) | (rw [hR, hs, hk0, spK_name (by rw [← hk0]; omega) (by omega) (by omega)]; done) | (rw [hR, hs, hk1, spK_comment (by rw [← hk1]; omega) (by omega) (by omega)]; done), by omega, by omega, hX, rfl⟩; omega) | (refine ⟨_, ?_, k + 1, n + (s + 1), { h with name := latin ((b.drop n).take s) }, rfl, rfl, by first | (rw [hR, spK_skip hk2 (by omega)]; done) | (rw [hR, hs, hk0, spK_name (by rw [← hk0]; omega) (by omega) (by omega)]; done) | (rw [hR, hs, hk1, spK_comment (by rw [← hk1]; omega) (by omega) (by omega)]; done), by omega, by omega, hX, rfl⟩; omega) | (refine ⟨_, ?_, k + 1, n + (s + 1), { h with comment := latin ((b.drop n).take s) }, rfl, rfl, by first | (rw [hR, spK_skip hk2 (by omega)]; done) | (rw [hR, hs, hk0, spK_name (by rw [← hk0]; omega) (by omega) (by omega)]; done) | (rw [hR, hs, hk1, spK_comment (by rw [← hk1]; omega) (by omega) (by omega)]; done), by omega, by omega, hX, rfl⟩; omega)
                      ·
                        refine C.exit rfl ?_
                        exact ⟨fb, n, h, rfl, rfl, by rw [hR]; rw [show k = 2 by omega]; rfl, hn, hX⟩
                    ·
                      rintro _ _ ⟨fb, n, h, hq32, rfl, hR, hn, hX⟩
                      refine C.weaken _ hq32 ?_
                      refine C.cut (M := fun ee ll => ∃ (fb : Nat), ∃ (n : Nat), ∃ (h : Hd), keeps ee [0, 2, 3, 6] = some [(0, .slice (some ⟨pb, po, none⟩) (b.length) (cap)), (2, .pointer (some ⟨b2, 0, none⟩)), (3, .int .i64 ((n : Nat) : Int)), (6, .int .u8 (((b.getD 3 0).toNat : Nat) : Int))] ∧ ll = [⟨fb, 0, [.int .u8 8, .int .u8 16]⟩, ⟨b2, 0, [.string h.name, .string h.comment, .slice xa xn xc, .int .i64 ((h.mod : Nat) : Int), .int .u8 ((h.os : Nat) : Int)]⟩, xf] ∧ (spStart b = (h, n, 0, 0)) ∧ (ExSp h.extra (.slice xa xn xc) xf)) ?_ ?_
                      ·
                        refine C.seq ?_
                        refine C.region ?_
                        refine E.pure (S.move rfl) rfl ?_
                        refine E.pure (S.and (b := ((2 : Nat) : Int)) rfl rfl (N.and_u8 (by omega) (by omega))) rfl ?_
                        refine E.pure (S.ne (b := ((0 : Nat) : Int)) rfl rfl) rfl ?_
                        refine E.keep [0, 2, 3, 6, 152] (env1 := [(0, _), (2, _), (3, _), (6, _), (152, _)]) rfl ?_
                        first | refine C.ifp rfl (fun h152 => ?_) (fun h152 => ?_) | refine C.cond rfl (fun h152 => ?_) (fun h152 => ?_)
                        ·
                          refine C.seq ?_
                          refine C.seq ?_
                          refine C.region ?_
                          refine E.pure (S.move rfl) rfl ?_
                          refine E.pure (S.lenSl rfl Tryd.underlying22) rfl ?_
                          refine E.pure (S.move rfl) rfl ?_
                          first | refine E.pure (S.sub rfl rfl (N.sub64 (by omega) (by omega))) rfl ?_ | refine E.pure (S.sub rfl rfl (N.subZ (by omega))) rfl ?_
                          refine E.pure (S.lt (b := ((2 : Nat) : Int)) rfl rfl) rfl ?_
                          refine E.keep [0, 2, 3, 6, 152, 157] (env1 := [(0, _), (2, _), (3, _), (6, _), (152, _), (157, _)]) rfl ?_
                          first | refine C.ifp rfl (fun h157 => ?_) (fun h157 => ?_) | refine C.cond rfl (fun h157 => ?_) (fun h157 => ?_)
                          ·
                            refine C.seq ?_
                            refine C.region ?_
                            refine E.still (S.loadA 1 (k := 0) rfl rfl rfl rfl Tryd.isAgg24 Tryd.sizeOf24) rfl ?_
                            refine E.loud0 (X.storeA 1 (k := 0) rfl rfl rfl rfl rfl rfl Tryd.sizeOf24 rfl) ?_; rintro _ _ ⟨rfl, rfl⟩; refine E.relist (L2 := [_, _, _]) rfl ?_
                            refine E.pure (S.assign rfl) rfl ?_
                            refine E.pure (S.assign rfl) rfl ?_
                            refine E.pure (S.assign rfl) rfl ?_
                            refine E.keep [0, 2, 3, 4, 5, 6, 152, 157] (env1 := [(0, _), (2, _), (3, _), (4, _), (5, _), (6, _), (152, _), (157, _)]) rfl ?_
                            refine C.ret ?_
                            have hRR : spStart b = (h, 0, 1, 0) := by rw [hR, sp4, if_neg (by omega), if_pos (by omega)]
                            refine ⟨_, _, _, _, ⟨_, _, 1, rfl, rfl, rfl⟩, rfl, rfl, rfl, xa, xn, xc, _, by rw [hRR]; exact hX, (.tail _ (.tail _ (.head _))), ?_⟩
                            first | (rw [hRR]; done) | (rw [hRR]; rfl)
                          ·
                            refine C.skip ?_
                            refine C.seq ?_
                            refine C.seq ?_
                            have hcl := crcOn_lt (poly := IEEE) (crc := 0) (by decide) (by decide) (b.take n)
                            have hca : crcOn IEEE 0 (b.take n) &&& 65535 = crcOn IEEE 0 (b.take n) % 65536 := Nat.and_two_pow_sub_one_eq_mod (n := 16) _
                            refine C.draw [0, 0, 0, 4, 11, 16, 0, 0, 192, 288, 512, 1024, 2080] (.pure 0 462 (.pure 1 461 (.pure 2 451 (.pure 3 455 (.pure 4 463 (.pure 6 191 (.pure 7 127 (.pure 8 255 (.alt 5 (.alt 9 (.pure 10 1023 (.pure 11 2047 (.pure 12 4095 .done))) .stop) .stop))))))))) mixed (by decide +kernel) ?_
                            refine D.pure rfl (S.move rfl) rfl ?_
                            refine D.pure rfl (S.move rfl) rfl ?_
                            refine D.pure rfl (S.move rfl) rfl ?_
                            first | refine D.pure rfl (S.add (b := ((2 : Nat) : Int)) rfl rfl (N.add64 (by omega))) rfl ?_ | refine D.pure rfl (S.add (b := ((2 : Nat) : Int)) rfl rfl (N.addZ (by omega))) rfl ?_
                            refine D.pure rfl (S.slLH rfl rfl rfl (by omega) (by omega) Tryd.underlying22 Tryd.sizeOf5) rfl ?_
                            refine D.reslot (v := .slice (some ⟨pb, po + (n), none⟩) (((b.drop (n)).take 2).length) (cap - (n))) (slice_to (by have hpa : part po (n) cap 1 = po + (n) * 1 := if_neg (by omega); omega) (by rw [List.length_take, List.length_drop]; omega) rfl) ?_
                            refine D.pure rfl (S.move rfl) rfl ?_
                            refine D.pure rfl (S.move rfl) rfl ?_
                            refine D.pure rfl (S.slH rfl rfl (by omega) Tryd.underlying22 Tryd.sizeOf5) rfl ?_
                            refine D.reslot (v := .slice (some ⟨pb, po, none⟩) ((b.take n).length) (cap)) (slice_to rfl (by rw [List.length_take]; omega) rfl) ?_
                            refine D.one ?_
                            refine O.loud1 rfl (OpX.pick [] (F := [_, _, _]) rfl (X.call rfl Tryd.call20 (little_spec pb (po + (n)) (cap - (n)) ((b.drop (n)).take 2) (hp.sub (n) 2) (by rw [List.length_take]; omega)))) rfl ?_; rintro _ _ ⟨_, ⟨rfl, rfl⟩, rfl⟩; refine D.relist (L2 := [_, _, _]) rfl ?_
                            refine D.reslot (v := .int .i64 ((le16of (b.drop n) : Nat) : Int)) (by rw [le16_little (by rw [List.length_drop]; omega)]) ?_
                            refine D.one ?_
                            refine O.loud1 rfl (OpX.pick [] (F := [_, _, _]) rfl (X.call rfl Tryd.call22 (check_spec pb po cap (b.take n) (fun j hj => by have := hp.sub 0 n j hj; simpa using this) (by rw [List.length_take]; omega)))) rfl ?_; rintro _ _ ⟨_, ⟨rfl, rfl⟩, rfl⟩; refine D.relist (L2 := [_, _, _]) rfl ?_
                            refine D.pure rfl (S.and (b := ((65535 : Nat) : Int)) rfl rfl (N.and_u32 (by omega) (by omega))) rfl ?_
                            refine D.pure rfl (S.conv rfl Tryd.underlying52 Tryd.underlying2 (N.i64n (by omega))) rfl ?_
                            refine D.pure rfl (S.ne rfl rfl) rfl ?_
                            refine D.keep [0, 2, 3, 6, 152, 157, 171] (env1 := [(0, _), (2, _), (3, _), (6, _), (152, _), (157, _), (171, _)]) rfl ?_
                            first | refine C.ifp rfl (fun h171 => ?_) (fun h171 => ?_) | refine C.cond rfl (fun h171 => ?_) (fun h171 => ?_)
                            ·
                              refine C.seq ?_
                              refine C.region ?_
                              refine E.still (S.loadA 1 (k := 0) rfl rfl rfl rfl Tryd.isAgg24 Tryd.sizeOf24) rfl ?_
                              refine E.loud0 (X.storeA 1 (k := 0) rfl rfl rfl rfl rfl rfl Tryd.sizeOf24 rfl) ?_; rintro _ _ ⟨rfl, rfl⟩; refine E.relist (L2 := [_, _, _]) rfl ?_
                              refine E.pure (S.assign rfl) rfl ?_
                              refine E.pure (S.assign rfl) rfl ?_
                              refine E.pure (S.assign rfl) rfl ?_
                              refine E.keep [0, 2, 3, 4, 5, 6, 152, 157, 171] (env1 := [(0, _), (2, _), (3, _), (4, _), (5, _), (6, _), (152, _), (157, _), (171, _)]) rfl ?_
                              refine C.ret ?_
                              have hRR : spStart b = (h, 0, 1, 2) := by rw [hR, sp4, if_neg (by omega), if_neg (by omega), if_pos (by omega)]
                              refine ⟨_, _, _, _, ⟨_, _, 1, rfl, rfl, rfl⟩, rfl, rfl, rfl, xa, xn, xc, _, by rw [hRR]; exact hX, (.tail _ (.tail _ (.head _))), ?_⟩
                              first | (rw [hRR]; done) | (rw [hRR]; rfl)
                            ·
                              refine C.skip ?_
                              refine C.region ?_
                              refine E.pure (S.move rfl) rfl ?_
                              first | refine E.pure (S.add (b := ((2 : Nat) : Int)) rfl rfl (N.add64 (by omega))) rfl ?_ | refine E.pure (S.add (b := ((2 : Nat) : Int)) rfl rfl (N.addZ (by omega))) rfl ?_
                              refine E.pure (S.assign rfl) rfl ?_
                              refine E.keep [0, 2, 3, 6, 152, 157, 171] (env1 := [(0, _), (2, _), (3, _), (6, _), (152, _), (157, _), (171, _)]) rfl ?_
                              first | exact ⟨fb, n + 2, h, rfl, rfl, by rw [hR, sp4, if_neg (by omega), if_neg (by omega), if_neg (by omega)], hX⟩ | exact ⟨fb, n, h, rfl, rfl, by rw [hR, sp4, if_pos (by omega)], hX⟩
                        ·
                          refine C.skip ?_
                          first | exact ⟨fb, n + 2, h, rfl, rfl, by rw [hR, sp4, if_neg (by omega), if_neg (by omega), if_neg (by omega)], hX⟩ | exact ⟨fb, n, h, rfl, rfl, by rw [hR, sp4, if_pos (by omega)], hX⟩
                      ·
                        rintro _ _ ⟨fb, n, h, hq38, rfl, hR, hX⟩
                        refine C.weaken _ hq38 ?_
                        refine C.seq ?_
                        refine C.region ?_
                        refine E.still (S.loadA 1 (k := 0) rfl rfl rfl rfl Tryd.isAgg24 Tryd.sizeOf24) rfl ?_
                        refine E.pure (S.move rfl) rfl ?_
                        refine E.loud0 (X.storeA 1 (k := 0) rfl rfl rfl rfl rfl rfl Tryd.sizeOf24 rfl) ?_; rintro _ _ ⟨rfl, rfl⟩; refine E.relist (L2 := [_, _, _]) rfl ?_
                        refine E.pure (S.assign rfl) rfl ?_
                        refine E.pure (S.assign rfl) rfl ?_
                        refine E.pure (S.assign rfl) rfl ?_
                        refine E.keep [0, 2, 3, 4, 5, 6] (env1 := [(0, _), (2, _), (3, _), (4, _), (5, _), (6, _)]) rfl ?_
                        refine C.ret ?_
                        have hRR := hR
                        refine ⟨_, _, _, _, ⟨_, _, 1, rfl, rfl, rfl⟩, rfl, rfl, rfl, xa, xn, xc, _, by rw [hRR]; exact hX, (.tail _ (.tail _ (.head _))), ?_⟩
                        first | (rw [hRR]; done) | (rw [hRR]; rfl)
            ·
              first | refine O.still rfl (S.load 0 rfl rfl rfl Tryd.isAgg5) rfl ?_ | refine O.still rfl (S.loadBase rfl (by assumption) Tryd.isAgg5) rfl ?_
              refine D.one ?_
              refine O.loud1 rfl (OpX.pick [] (F := [_]) rfl (X.call rfl Tryd.call20 (little_spec pb (po + (4)) (cap - (4)) ((b.drop (4)).take 4) (hp.sub (4) 4) (by rw [List.length_take]; omega)))) rfl ?_; rintro _ _ ⟨_, ⟨rfl, rfl⟩, rfl⟩; refine D.relist (L2 := [_]) rfl ?_
              refine D.pure rfl (S.field rfl fa24_3) rfl ?_
              refine D.one ?_
              refine O.loud0 rfl (X.store 0 (k := 3) rfl rfl rfl rfl rfl Tryd.sizeOf2) ?_; rintro _ _ ⟨rfl, rfl⟩; refine D.relist (L2 := [_]) rfl ?_
              refine D.pure rfl (S.field rfl fa24_4) rfl ?_
              refine D.one ?_
              refine O.loud0 rfl (X.store 0 (k := 4) rfl rfl rfl rfl rfl Tryd.sizeOf5) ?_; rintro _ _ ⟨rfl, rfl⟩; refine D.relist (L2 := [_]) rfl ?_
              refine D.keep [0, 2, 3, 4, 5, 6, 13, 30, 37] (env1 := [(0, _), (2, _), (3, _), (4, _), (5, _), (6, _), (13, _), (30, _), (37, _)]) rfl ?_
              refine C.cut (M := fun ee ll => ∃ (n : Nat), ∃ (h : Hd), keeps ee [0, 2, 3, 6] = some [(0, .slice (some ⟨pb, po, none⟩) (b.length) (cap)), (2, .pointer (some ⟨b2, 0, none⟩)), (3, .int .i64 ((n : Nat) : Int)), (6, .int .u8 (((b.getD 3 0).toNat : Nat) : Int))] ∧ ll = [⟨b2, 0, [.string h.name, .string h.comment, .slice none 0 0, .int .i64 ((h.mod : Nat) : Int), .int .u8 ((h.os : Nat) : Int)]⟩] ∧ (n = 10) ∧ (h = { noHd with mod := le32 (b.getD 4 0).toNat (b.getD 5 0).toNat (b.getD 6 0).toNat (b.getD 7 0).toNat, os := (b.getD 9 0).toNat }) ∧ (spStart b = sp1 b (b.getD 3 0).toNat h)) ?_ ?_
              ·
                refine C.region ?_
                refine E.pure (S.assign rfl) rfl ?_
                refine E.reslot (v := .int .i64 ((10 : Nat) : Int)) rfl ?_
                refine E.keep [0, 2, 3, 4, 5, 6, 13, 30, 37] (env1 := [(0, _), (2, _), (3, _), (4, _), (5, _), (6, _), (13, _), (30, _), (37, _)]) rfl ?_
                exact ⟨10, { noHd with mod := le32 (b.getD 4 0).toNat (b.getD 5 0).toNat (b.getD 6 0).toNat (b.getD 7 0).toNat, os := (b.getD 9 0).toNat }, rfl, (by first | (rw [← hmod]; done) | (rw [← hmod]; rfl)), rfl, rfl, by rw [spStart, if_neg (by omega), if_pos (by omega), if_neg (by omega)]⟩
              ·
                rintro _ _ ⟨n, h, hq10, rfl, hn, hh, hR0⟩
                refine C.weaken _ hq10 ?_
                refine C.cut (M := fun ee ll => ∃ (n : Nat), ∃ (h : Hd), ∃ (xa : Option Addr), ∃ (xn : Nat), ∃ (xc : Nat), ∃ (xf : Frag), keeps ee [0, 2, 3, 6] = some [(0, .slice (some ⟨pb, po, none⟩) (b.length) (cap)), (2, .pointer (some ⟨b2, 0, none⟩)), (3, .int .i64 ((n : Nat) : Int)), (6, .int .u8 (((b.getD 3 0).toNat : Nat) : Int))] ∧ ll = [⟨b2, 0, [.string h.name, .string h.comment, .slice xa xn xc, .int .i64 ((h.mod : Nat) : Int), .int .u8 ((h.os : Nat) : Int)]⟩, xf] ∧ (spStart b = sp2 b (b.getD 3 0).toNat n h) ∧ (n ≤ b.length) ∧ (ExSp h.extra (.slice xa xn xc) xf)) ?_ ?_
                ·
                  refine C.seq ?_
                  refine C.region ?_
                  refine E.pure (S.move rfl) rfl ?_
                  refine E.pure (S.and (b := ((4 : Nat) : Int)) rfl rfl (N.and_u8 (by omega) (by omega))) rfl ?_
                  refine E.pure (S.ne (b := ((0 : Nat) : Int)) rfl rfl) rfl ?_
                  refine E.keep [0, 2, 3, 6, 49] (env1 := [(0, _), (2, _), (3, _), (6, _), (49, _)]) rfl ?_
                  first | refine C.ifp rfl (fun h49 => ?_) (fun h49 => ?_) | refine C.cond rfl (fun h49 => ?_) (fun h49 => ?_)
                  ·
                    refine C.seq ?_
                    refine C.seq ?_
                    refine C.region ?_
                    refine E.pure (S.move rfl) rfl ?_
                    refine E.pure (S.lenSl rfl Tryd.underlying22) rfl ?_
                    refine E.pure (S.move rfl) rfl ?_
                    first | refine E.pure (S.sub rfl rfl (N.sub64 (by omega) (by omega))) rfl ?_ | refine E.pure (S.sub rfl rfl (N.subZ (by omega))) rfl ?_
                    refine E.pure (S.lt (b := ((2 : Nat) : Int)) rfl rfl) rfl ?_
                    refine E.pure (S.move rfl) rfl ?_
                    first | refine E.fork (fun g55 => ?_) (fun g55 => ?_) | refine E.forkB (fun g55 => ?_) (fun g55 => ?_)
                    ·
                      refine E.guardNo 55 true rfl rfl rfl rfl ?_
                      refine E.guardNo 55 true rfl rfl rfl rfl ?_
                      refine E.guardNo 55 true rfl rfl rfl rfl ?_
                      refine E.guardNo 55 true rfl rfl rfl rfl ?_
                      refine E.guardNo 55 true rfl rfl rfl rfl ?_
                      refine E.guardNo 55 true rfl rfl rfl rfl ?_
                      refine E.guardNo 55 true rfl rfl rfl rfl ?_
                      refine E.guardNo 55 true rfl rfl rfl rfl ?_
                      refine E.guardNo 55 true rfl rfl rfl rfl ?_
                      refine E.guardNo 55 true rfl rfl rfl rfl ?_
                      refine E.guardNo 55 true rfl rfl rfl rfl ?_
                      refine E.guardNo 55 true rfl rfl rfl rfl ?_
                      refine E.pure (S.pickT rfl rfl) rfl ?_
                      refine E.keep [0, 2, 3, 6, 49, 68] (env1 := [(0, _), (2, _), (3, _), (6, _), (49, _), (68, _)]) rfl ?_
                      refine C.yes rfl (rfl) ?_
                      refine C.seq ?_
                      refine C.region ?_
                      refine E.still (S.loadA 0 (k := 0) rfl rfl rfl rfl Tryd.isAgg24 Tryd.sizeOf24) rfl ?_
                      refine E.loud0 (X.storeA 0 (k := 0) rfl rfl rfl rfl rfl rfl Tryd.sizeOf24 rfl) ?_; rintro _ _ ⟨rfl, rfl⟩; refine E.relist (L2 := [_]) rfl ?_
                      refine E.pure (S.assign rfl) rfl ?_
                      refine E.pure (S.assign rfl) rfl ?_
                      refine E.pure (S.assign rfl) rfl ?_
                      refine E.keep [0, 2, 3, 4, 5, 6, 49, 68] (env1 := [(0, _), (2, _), (3, _), (4, _), (5, _), (6, _), (49, _), (68, _)]) rfl ?_
                      refine C.ret ?_
                      have hRR : spStart b = (h, 0, 1, 0) := by rw [hR0, sp1, ← hn, if_neg (by omega), if_pos (by omega)]
                      refine ⟨_, _, _, _, ⟨_, _, 0, rfl, rfl, rfl⟩, rfl, rfl, rfl, none, 0, 0, _, by rw [hRR, hh]; rfl, (.head _), ?_⟩
                      first | (rw [hRR]; done) | (rw [hRR]; rfl)
                    ·
                      refine E.wanted 55 rfl rfl ?_
                      refine E.pure (S.move rfl) rfl ?_
                      refine E.wanted 55 rfl rfl ?_
                      refine E.pure (S.lenSl rfl Tryd.underlying22) rfl ?_
                      refine E.wanted 55 rfl rfl ?_
                      refine E.pure (S.move rfl) rfl ?_
                      refine E.wanted 55 rfl rfl ?_
                      first | refine E.pure (S.sub rfl rfl (N.sub64 (by omega) (by omega))) rfl ?_ | refine E.pure (S.sub rfl rfl (N.subZ (by omega))) rfl ?_
                      refine E.wanted 55 rfl rfl ?_
                      first | refine E.pure (S.sub (b := ((2 : Nat) : Int)) rfl rfl (N.sub64 (by omega) (by omega))) rfl ?_ | refine E.pure (S.sub (b := ((2 : Nat) : Int)) rfl rfl (N.subZ (by omega))) rfl ?_
                      refine E.wanted 55 rfl rfl ?_
                      refine E.pure (S.move rfl) rfl ?_
                      refine E.wanted 55 rfl rfl ?_
                      refine E.pure (S.move rfl) rfl ?_
                      refine E.wanted 55 rfl rfl ?_
                      refine E.pure (S.move rfl) rfl ?_
                      refine E.wanted 55 rfl rfl ?_
                      first | refine E.pure (S.add (b := ((2 : Nat) : Int)) rfl rfl (N.add64 (by omega))) rfl ?_ | refine E.pure (S.add (b := ((2 : Nat) : Int)) rfl rfl (N.addZ (by omega))) rfl ?_
                      refine E.wanted 55 rfl rfl ?_
                      refine E.pure (S.slLH rfl rfl rfl (by omega) (by omega) Tryd.underlying22 Tryd.sizeOf5) rfl ?_
                      refine E.reslot (v := .slice (some ⟨pb, po + (n), none⟩) (((b.drop (n)).take 2).length) (cap - (n))) (slice_to (by have hpa : part po (n) cap 1 = po + (n) * 1 := if_neg (by omega); omega) (by rw [List.length_take, List.length_drop]; omega) rfl) ?_
                      refine E.wanted 55 rfl rfl ?_
                      refine E.loud1 (OpX.pick [] (F := [_]) rfl (X.call rfl Tryd.call20 (little_spec pb (po + (n)) (cap - (n)) ((b.drop (n)).take 2) (hp.sub (n) 2) (by rw [List.length_take]; omega)))) rfl ?_; rintro _ _ ⟨_, ⟨rfl, rfl⟩, rfl⟩; refine E.relist (L2 := [_]) rfl ?_
                      refine E.reslot (v := .int .i64 ((le16of (b.drop n) : Nat) : Int)) (by rw [le16_little (by rw [List.length_drop]; omega)]) ?_
                      refine E.wanted 55 rfl rfl ?_
                      refine E.pure (S.lt rfl rfl) rfl ?_
                      refine E.pure (S.pickF rfl rfl) rfl ?_
                      refine E.keep [0, 2, 3, 6, 49, 68] (env1 := [(0, _), (2, _), (3, _), (6, _), (49, _), (68, _)]) rfl ?_
                      first | refine C.ifp rfl (fun h68 => ?_) (fun h68 => ?_) | refine C.cond rfl (fun h68 => ?_) (fun h68 => ?_)
                      ·
                        refine C.seq ?_
                        refine C.region ?_
                        refine E.still (S.loadA 0 (k := 0) rfl rfl rfl rfl Tryd.isAgg24 Tryd.sizeOf24) rfl ?_
                        refine E.loud0 (X.storeA 0 (k := 0) rfl rfl rfl rfl rfl rfl Tryd.sizeOf24 rfl) ?_; rintro _ _ ⟨rfl, rfl⟩; refine E.relist (L2 := [_]) rfl ?_
                        refine E.pure (S.assign rfl) rfl ?_
                        refine E.pure (S.assign rfl) rfl ?_
                        refine E.pure (S.assign rfl) rfl ?_
                        refine E.keep [0, 2, 3, 4, 5, 6, 49, 68] (env1 := [(0, _), (2, _), (3, _), (4, _), (5, _), (6, _), (49, _), (68, _)]) rfl ?_
                        refine C.ret ?_
                        have hRR : spStart b = (h, 0, 1, 0) := by rw [hR0, sp1, ← hn, if_neg (by omega), if_pos (by omega)]
                        refine ⟨_, _, _, _, ⟨_, _, 0, rfl, rfl, rfl⟩, rfl, rfl, rfl, none, 0, 0, _, by rw [hRR, hh]; rfl, (.head _), ?_⟩
                        first | (rw [hRR]; done) | (rw [hRR]; rfl)
                      ·
                        refine C.skip ?_
                        refine C.seq ?_
                        refine C.region ?_
                        refine E.pure (S.move rfl) rfl ?_
                        refine E.pure (S.move rfl) rfl ?_
                        refine E.pure (S.move rfl) rfl ?_
                        first | refine E.pure (S.add (b := ((2 : Nat) : Int)) rfl rfl (N.add64 (by omega))) rfl ?_ | refine E.pure (S.add (b := ((2 : Nat) : Int)) rfl rfl (N.addZ (by omega))) rfl ?_
                        refine E.pure (S.slLH rfl rfl rfl (by omega) (by omega) Tryd.underlying22 Tryd.sizeOf5) rfl ?_
                        refine E.reslot (v := .slice (some ⟨pb, po + (n), none⟩) (((b.drop (n)).take 2).length) (cap - (n))) (slice_to (by have hpa : part po (n) cap 1 = po + (n) * 1 := if_neg (by omega); omega) (by rw [List.length_take, List.length_drop]; omega) rfl) ?_
                        refine E.loud1 (OpX.pick [] (F := [_]) rfl (X.call rfl Tryd.call20 (little_spec pb (po + (n)) (cap - (n)) ((b.drop (n)).take 2) (hp.sub (n) 2) (by rw [List.length_take]; omega)))) rfl ?_; rintro _ _ ⟨_, ⟨rfl, rfl⟩, rfl⟩; refine E.relist (L2 := [_]) rfl ?_
                        refine E.reslot (v := .int .i64 ((le16of (b.drop n) : Nat) : Int)) (by rw [le16_little (by rw [List.length_drop]; omega)]) ?_
                        refine E.pure (S.assign rfl) rfl ?_
                        refine E.keep [0, 2, 3, 6, 7, 49, 68] (env1 := [(0, _), (2, _), (3, _), (6, _), (7, _), (49, _), (68, _)]) rfl ?_
                        refine C.seq ?_
                        refine C.region ?_
                        refine E.pure (S.move rfl) rfl ?_
                        refine E.pure (S.move rfl) rfl ?_
                        first | refine E.pure (S.add (b := ((2 : Nat) : Int)) rfl rfl (N.add64 (by omega))) rfl ?_ | refine E.pure (S.add (b := ((2 : Nat) : Int)) rfl rfl (N.addZ (by omega))) rfl ?_
                        refine E.pure (S.move rfl) rfl ?_
                        first | refine E.pure (S.add (b := ((2 : Nat) : Int)) rfl rfl (N.add64 (by omega))) rfl ?_ | refine E.pure (S.add (b := ((2 : Nat) : Int)) rfl rfl (N.addZ (by omega))) rfl ?_
                        refine E.pure (S.move rfl) rfl ?_
                        first | refine E.pure (S.add rfl rfl (N.add64 (by omega))) rfl ?_ | refine E.pure (S.add rfl rfl (N.addZ (by omega))) rfl ?_
                        refine E.pure (S.slLH rfl rfl rfl (by omega) (by omega) Tryd.underlying22 Tryd.sizeOf5) rfl ?_
                        refine E.reslot (v := .slice (some ⟨pb, part po (n + 2) cap 1, none⟩) (((b.drop (n + 2)).take (le16of (b.drop n))).length) (cap - (n + 2))) (slice_to rfl (by rw [List.length_take, List.length_drop]; omega) rfl) ?_
                        refine E.loud1 (X.appendNil (ys := ((b.drop (n + 2)).take (le16of (b.drop n)))) rfl rfl rfl ⟨_, _, rfl, (kb_part hp hcap _ _).reads⟩ (by rw [List.length_take]; omega)) rfl ?_
                        rintro _ _ (⟨hy, rfl, rfl⟩ | ⟨xb, xo, xc, xcs, hy, rfl, rfl, hxc⟩)
                        ·
                          refine E.relist (L2 := [_]) rfl ?_
                          refine E.same (Same.addEmpty (f := ⟨b2, 0, _⟩) (.head _) 0) ?_
                          refine E.perml [1, 0] (A := [_, _]) (F := []) rfl ?_
                          refine E.relist (L2 := [_, _]) rfl ?_
                          refine E.pure (S.field rfl fa24_2) rfl ?_
                          refine E.loud0 (X.store 0 (k := 2) rfl rfl rfl rfl rfl Tryd.sizeOf22) ?_; rintro _ _ ⟨rfl, rfl⟩; refine E.relist (L2 := [_, _]) rfl ?_
                          refine E.keep [0, 2, 3, 6, 7, 49, 68] (env1 := [(0, _), (2, _), (3, _), (6, _), (7, _), (49, _), (68, _)]) rfl ?_
                          refine C.region ?_
                          refine E.pure (S.move rfl) rfl ?_
                          refine E.pure (S.move rfl) rfl ?_
                          first | refine E.pure (S.add (a := ((2 : Nat) : Int)) rfl rfl (N.add64 (by omega))) rfl ?_ | refine E.pure (S.add (a := ((2 : Nat) : Int)) rfl rfl (N.addZ (by omega))) rfl ?_
                          first | refine E.pure (S.add rfl rfl (N.add64 (by omega))) rfl ?_ | refine E.pure (S.add rfl rfl (N.addZ (by omega))) rfl ?_
                          refine E.pure (S.assign rfl) rfl ?_
                          refine E.keep [0, 2, 3, 6, 7, 49, 68] (env1 := [(0, _), (2, _), (3, _), (6, _), (7, _), (49, _), (68, _)]) rfl ?_
                          first | exact ⟨n + (2 + le16of (b.drop n)), { h with extra := some ((b.drop (n + 2)).take (le16of (b.drop n))) }, none, 0, 0, _, rfl, rfl, by rw [hR0, sp1, ← hn, if_neg (by omega), if_neg (by omega), List.drop_drop], by omega, .inl ⟨hy, rfl⟩⟩ | exact ⟨n + (2 + le16of (b.drop n)), { h with extra := some ((b.drop (n + 2)).take (le16of (b.drop n))) }, some ⟨xb, xo, none⟩, ((b.drop (n + 2)).take (le16of (b.drop n))).length, xc, _, rfl, rfl, by rw [hR0, sp1, ← hn, if_neg (by omega), if_neg (by omega), List.drop_drop], by omega, .inr ⟨xb, xo, xc, xcs, rfl, rfl, hxc⟩⟩ | exact ⟨n, h, none, 0, 0, _, rfl, rfl, by rw [hR0, sp1, ← hn, if_pos (by omega)], by omega, by rw [hh]; rfl⟩
                        ·
                          refine E.relist (L2 := [_, _]) rfl ?_
                          refine E.perml [1, 0] (A := [_, _]) (F := []) rfl ?_
                          refine E.relist (L2 := [_, _]) rfl ?_
                          refine E.pure (S.field rfl fa24_2) rfl ?_
                          refine E.loud0 (X.store 0 (k := 2) rfl rfl rfl rfl rfl Tryd.sizeOf22) ?_; rintro _ _ ⟨rfl, rfl⟩; refine E.relist (L2 := [_, _]) rfl ?_
                          refine E.keep [0, 2, 3, 6, 7, 49, 68] (env1 := [(0, _), (2, _), (3, _), (6, _), (7, _), (49, _), (68, _)]) rfl ?_
                          refine C.region ?_
                          refine E.pure (S.move rfl) rfl ?_
                          refine E.pure (S.move rfl) rfl ?_
                          first | refine E.pure (S.add (a := ((2 : Nat) : Int)) rfl rfl (N.add64 (by omega))) rfl ?_ | refine E.pure (S.add (a := ((2 : Nat) : Int)) rfl rfl (N.addZ (by omega))) rfl ?_
                          first | refine E.pure (S.add rfl rfl (N.add64 (by omega))) rfl ?_ | refine E.pure (S.add rfl rfl (N.addZ (by omega))) rfl ?_
                          refine E.pure (S.assign rfl) rfl ?_
                          refine E.keep [0, 2, 3, 6, 7, 49, 68] (env1 := [(0, _), (2, _), (3, _), (6, _), (7, _), (49, _), (68, _)]) rfl ?_
                          first | exact ⟨n + (2 + le16of (b.drop n)), { h with extra := some ((b.drop (n + 2)).take (le16of (b.drop n))) }, none, 0, 0, _, rfl, rfl, by rw [hR0, sp1, ← hn, if_neg (by omega), if_neg (by omega), List.drop_drop], by omega, .inl ⟨hy, rfl⟩⟩ | exact ⟨n + (2 + le16of (b.drop n)), { h with extra := some ((b.drop (n + 2)).take (le16of (b.drop n))) }, some ⟨xb, xo, none⟩, ((b.drop (n + 2)).take (le16of (b.drop n))).length, xc, _, rfl, rfl, by rw [hR0, sp1, ← hn, if_neg (by omega), if_neg (by omega), List.drop_drop], by omega, .inr ⟨xb, xo, xc, xcs, rfl, rfl, hxc⟩⟩ | exact ⟨n, h, none, 0, 0, _, rfl, rfl, by rw [hR0, sp1, ← hn, if_pos (by omega)], by omega, by rw [hh]; rfl⟩
                  ·
                    refine C.same (Same.addEmpty (f := ⟨b2, 0, _⟩) (.head _) 0) ?_
                    refine C.perml [1, 0] (A := [_, _]) (F := []) rfl ?_
                    refine C.relist (L2 := [_, _]) rfl ?_
                    refine C.skip ?_
                    first | exact ⟨n + (2 + le16of (b.drop n)), { h with extra := some ((b.drop (n + 2)).take (le16of (b.drop n))) }, none, 0, 0, _, rfl, rfl, by rw [hR0, sp1, ← hn, if_neg (by omega), if_neg (by omega), List.drop_drop], by omega, .inl ⟨hy, rfl⟩⟩ | exact ⟨n + (2 + le16of (b.drop n)), { h with extra := some ((b.drop (n + 2)).take (le16of (b.drop n))) }, some ⟨xb, xo, none⟩, ((b.drop (n + 2)).take (le16of (b.drop n))).length, xc, _, rfl, rfl, by rw [hR0, sp1, ← hn, if_neg (by omega), if_neg (by omega), List.drop_drop], by omega, .inr ⟨xb, xo, xc, xcs, rfl, rfl, hxc⟩⟩ | exact ⟨n, h, none, 0, 0, _, rfl, rfl, by rw [hR0, sp1, ← hn, if_pos (by omega)], by omega, by rw [hh]; rfl⟩
                ·
                  rintro _ _ ⟨n, h, xa, xn, xc, xf, hq16, rfl, hR, hn, hX⟩
                  refine C.weaken _ hq16 ?_
                  refine C.cut (M := fun ee ll => ∃ (fb : Nat), ∃ (n : Nat), ∃ (h : Hd), keeps ee [0, 2, 3, 6] = some [(0, .slice (some ⟨pb, po, none⟩) (b.length) (cap)), (2, .pointer (some ⟨b2, 0, none⟩)), (3, .int .i64 ((n : Nat) : Int)), (6, .int .u8 (((b.getD 3 0).toNat : Nat) : Int))] ∧ ll = [⟨fb, 0, [.int .u8 8, .int .u8 16]⟩, ⟨b2, 0, [.string h.name, .string h.comment, .slice xa xn xc, .int .i64 ((h.mod : Nat) : Int), .int .u8 ((h.os : Nat) : Int)]⟩, xf] ∧ (spStart b = sp4 b (b.getD 3 0).toNat n h) ∧ (n ≤ b.length) ∧ (ExSp h.extra (.slice xa xn xc) xf)) ?_ ?_
                  ·
                    refine C.seq ?_
                    refine C.region ?_
                    refine E.loud1 (X.buildSliceV (vs := [.int .u8 8, .int .u8 16]) (e := 5) [(0, .int .u8 8), (1, .int .u8 16)] rfl (fun w => by simp [Instr.buildSlice, Instr.fill, Value.cells, newRow, Tryd.runUnderlying22, Tryd.typeInfo5]; rw [arr2])) rfl ?_; rintro _ _ ⟨fb, rfl, rfl⟩; refine E.relist (L2 := [_, _, _]) rfl ?_
                    refine E.pure (S.lenSl rfl Tryd.underlying22) rfl ?_
                    refine E.pure (S.move rfl) rfl ?_
                    refine E.keep [0, 2, 3, 6, 90, 91, 92] (env1 := [(0, _), (2, _), (3, _), (6, _), (90, _), (91, _), (92, _)]) rfl ?_
                    refine C.block ?_
                    refine C.loop (fun mm ee ll => ∃ (k : Nat), ∃ (n : Nat), ∃ (h : Hd), keeps ee [0, 2, 3, 6, 90, 91, 92] = some [(0, .slice (some ⟨pb, po, none⟩) (b.length) (cap)), (2, .pointer (some ⟨b2, 0, none⟩)), (3, .int .i64 ((n : Nat) : Int)), (6, .int .u8 (((b.getD 3 0).toNat : Nat) : Int)), (90, .slice (some ⟨fb, 0, none⟩) (2) (2)), (91, .int .i64 ((2 : Nat) : Int)), (92, .int .i64 ((k : Nat) : Int))] ∧ ll = [⟨fb, 0, [.int .u8 8, .int .u8 16]⟩, ⟨b2, 0, [.string h.name, .string h.comment, .slice xa xn xc, .int .i64 ((h.mod : Nat) : Int), .int .u8 ((h.os : Nat) : Int)]⟩, xf] ∧ (spStart b = spK b (b.getD 3 0).toNat k n h) ∧ (k ≤ 2) ∧ (n ≤ b.length) ∧ (ExSp h.extra (.slice xa xn xc) xf) ∧ mm = 2 - k) (_) ⟨0, n, h, rfl, rfl, hR, by omega, hn, hX, rfl⟩ ?_
                    rintro m4 _ _ ⟨k, n, h, hk4, rfl, hR, hk, hn, hX, hm4⟩
                    refine C.weaken _ hk4 ?_
                    refine C.seq ?_
                    refine C.region ?_
                    refine E.pure (S.lt rfl rfl) rfl ?_
                    refine E.keep [0, 2, 3, 6, 90, 91, 92, 93] (env1 := [(0, _), (2, _), (3, _), (6, _), (90, _), (91, _), (92, _), (93, _)]) rfl ?_
                    refine C.seq ?_
                    first | refine C.ifp rfl (fun h93 => ?_) (fun h93 => ?_) | refine C.cond rfl (fun h93 => ?_) (fun h93 => ?_)
                    ·
                      have hk2 : k < 2 := by omega
                      have hfk := flagK_lt k
                      refine C.skip ?_
                      refine C.seq ?_
                      refine C.block ?_
                      refine C.seq ?_
                      refine C.region ?_
                      refine E.pure (S.ixSl rfl rfl (by omega) Tryd.underlying22 Tryd.sizeOf5) rfl ?_
                      refine E.reslot (v := .pointer (some ⟨fb, 0 + k, none⟩)) (ptr_to (by omega)) ?_
                      refine E.still (S.load 0 (k := k) rfl rfl (flagK_get k hk2) Tryd.isAgg5) rfl ?_
                      refine E.pure (S.assign rfl) rfl ?_
                      refine E.keep [0, 2, 3, 6, 9, 90, 91, 92, 93] (env1 := [(0, _), (2, _), (3, _), (6, _), (9, _), (90, _), (91, _), (92, _), (93, _)]) rfl ?_
                      refine C.seq ?_
                      refine C.seq ?_
                      refine C.region ?_
                      refine E.pure (S.move rfl) rfl ?_
                      refine E.pure (S.move rfl) rfl ?_
                      refine E.pure (S.and rfl rfl (N.and_u8 (by omega) (by omega))) rfl ?_
                      refine E.pure (S.eq (b := ((0 : Nat) : Int)) rfl rfl) rfl ?_
                      refine E.keep [0, 2, 3, 6, 9, 90, 91, 92, 93, 99] (env1 := [(0, _), (2, _), (3, _), (6, _), (9, _), (90, _), (91, _), (92, _), (93, _), (99, _)]) rfl ?_
                      first | refine C.ifp rfl (fun h99 => ?_) (fun h99 => ?_) | refine C.cond rfl (fun h99 => ?_) (fun h99 => ?_)
                      ·
                        refine C.exit rfl ?_
                        refine C.region ?_
                        first | refine E.pure (S.add (b := ((1 : Nat) : Int)) rfl rfl (N.add64 (by omega))) rfl ?_ | refine E.pure (S.add (b := ((1 : Nat) : Int)) rfl rfl (N.addZ (by omega))) rfl ?_
                        refine E.pure (S.move rfl) rfl ?_
                        refine E.keep [0, 2, 3, 6, 9, 90, 91, 92, 93, 99] (env1 := [(0, _), (2, _), (3, _), (6, _), (9, _), (90, _), (91, _), (92, _), (93, _), (99, _)]) rfl ?_
                        first | (refine ⟨_, ?_, k + 1, n, h, rfl, rfl, by first | (rw [hR, spK_skip hk2 (by omega)]; done) | (rw [hR, hs, hk0, spK_name (by rw [← hk0]; omega) (by omega) (by omega)]; done) | (rw [hR, hs, hk1, spK_comment (by rw [← hk1]; omega) (by omega) (by omega)]; done), by omega, by omega, hX, rfl⟩; omega) | (refine ⟨_, ?_, k + 1, n + (s + 1), { h with name := latin ((b.drop n).take s) }, rfl, rfl, by first | (rw [hR, spK_skip hk2 (by omega)]; done) | (rw [hR, hs, hk0, spK_name (by rw [← hk0]; omega) (by omega) (by omega)]; done) | (rw [hR, hs, hk1, spK_comment (by rw [← hk1]; omega) (by omega) (by omega)]; done), by omega, by omega, hX, rfl⟩; omega) | (refine ⟨_, ?_, k + 1, n + (s + 1), { h with comment := latin ((b.drop n).take s) }, rfl, rfl, by first | (rw [hR, spK_skip hk2 (by omega)]; done) | (rw [hR, hs, hk0, spK_name (by rw [← hk0]; omega) (by omega) (by omega)]; done) | (rw [hR, hs, hk1, spK_comment (by rw [← hk1]; omega) (by omega) (by omega)]; done), by omega, by omega, hX, rfl⟩; omega)
                      ·
                        refine C.skip ?_
                        refine C.seq ?_
                        refine C.region ?_
                        refine E.pure (S.assign rfl) rfl ?_
                        refine E.keep [0, 2, 3, 6, 9, 10, 90, 91, 92, 93, 99] (env1 := [(0, _), (2, _), (3, _), (6, _), (9, _), (10, _), (90, _), (91, _), (92, _), (93, _), (99, _)]) rfl ?_
                        refine C.cut (M := fun ee ll => ∃ (s : Nat), keeps ee [0, 2, 3, 6, 90, 91, 92, 9, 10] = some [(0, .slice (some ⟨pb, po, none⟩) (b.length) (cap)), (2, .pointer (some ⟨b2, 0, none⟩)), (3, .int .i64 ((n : Nat) : Int)), (6, .int .u8 (((b.getD 3 0).toNat : Nat) : Int)), (90, .slice (some ⟨fb, 0, none⟩) (2) (2)), (91, .int .i64 ((2 : Nat) : Int)), (92, .int .i64 ((k : Nat) : Int)), (9, .int .u8 ((flagK k : Nat) : Int)), (10, .int .i64 ((s : Nat) : Int))] ∧ ll = [⟨fb, 0, [.int .u8 8, .int .u8 16]⟩, ⟨b2, 0, [.string h.name, .string h.comment, .slice xa xn xc, .int .i64 ((h.mod : Nat) : Int), .int .u8 ((h.os : Nat) : Int)]⟩, xf] ∧ (s = strLen (b.drop n)) ∧ (n + s ≤ b.length)) ?_ ?_
                        ·
                          refine C.block ?_
                          refine C.loop (fun mm ee ll => ∃ (s : Nat), keeps ee [0, 2, 3, 6, 90, 91, 92, 9, 10] = some [(0, .slice (some ⟨pb, po, none⟩) (b.length) (cap)), (2, .pointer (some ⟨b2, 0, none⟩)), (3, .int .i64 ((n : Nat) : Int)), (6, .int .u8 (((b.getD 3 0).toNat : Nat) : Int)), (90, .slice (some ⟨fb, 0, none⟩) (2) (2)), (91, .int .i64 ((2 : Nat) : Int)), (92, .int .i64 ((k : Nat) : Int)), (9, .int .u8 ((flagK k : Nat) : Int)), (10, .int .i64 ((s : Nat) : Int))] ∧ ll = [⟨fb, 0, [.int .u8 8, .int .u8 16]⟩, ⟨b2, 0, [.string h.name, .string h.comment, .slice xa xn xc, .int .i64 ((h.mod : Nat) : Int), .int .u8 ((h.os : Nat) : Int)]⟩, xf] ∧ (∀ c ∈ (b.drop n).take s, c ≠ 0) ∧ (n + s ≤ b.length) ∧ mm = b.length - (n + s)) (_) ⟨0, rfl, rfl, by simp, by omega, rfl⟩ ?_
                          rintro m5 _ _ ⟨s, hk5, rfl, hz, hsn, hm5⟩
                          refine C.weaken _ hk5 ?_
                          refine C.seq ?_
                          refine C.seq ?_
                          refine C.region ?_
                          refine E.pure (S.move rfl) rfl ?_
                          refine E.pure (S.move rfl) rfl ?_
                          first | refine E.pure (S.add rfl rfl (N.add64 (by omega))) rfl ?_ | refine E.pure (S.add rfl rfl (N.addZ (by omega))) rfl ?_
                          refine E.pure (S.move rfl) rfl ?_
                          refine E.pure (S.lenSl rfl Tryd.underlying22) rfl ?_
                          refine E.pure (S.lt rfl rfl) rfl ?_
                          refine E.pure (S.move rfl) rfl ?_
                          first | refine E.fork (fun g106 => ?_) (fun g106 => ?_) | refine E.forkB (fun g106 => ?_) (fun g106 => ?_)
                          ·
                            have hns : n + s < b.length := by omega
                            refine E.wanted 106 rfl rfl ?_
                            refine E.pure (S.move rfl) rfl ?_
                            refine E.wanted 106 rfl rfl ?_
                            refine E.pure (S.move rfl) rfl ?_
                            refine E.wanted 106 rfl rfl ?_
                            refine E.pure (S.move rfl) rfl ?_
                            refine E.wanted 106 rfl rfl ?_
                            first | refine E.pure (S.add rfl rfl (N.add64 (by omega))) rfl ?_ | refine E.pure (S.add rfl rfl (N.addZ (by omega))) rfl ?_
                            refine E.wanted 106 rfl rfl ?_
                            refine E.pure (S.ixSl rfl rfl (by omega) Tryd.underlying22 Tryd.sizeOf5) rfl ?_
                            refine E.wanted 106 rfl rfl ?_
                            refine E.still (S.loadBase rfl (hp.at hns) Tryd.isAgg5) rfl ?_
                            refine E.wanted 106 rfl rfl ?_
                            refine E.pure (S.ne (b := ((0 : Nat) : Int)) rfl rfl) rfl ?_
                            refine E.pure (S.pickT rfl rfl) rfl ?_
                            refine E.keep [0, 2, 3, 6, 9, 10, 90, 91, 92, 114] (env1 := [(0, _), (2, _), (3, _), (6, _), (9, _), (10, _), (90, _), (91, _), (92, _), (114, _)]) rfl ?_
                            first | refine C.ifp rfl (fun h114 => ?_) (fun h114 => ?_) | refine C.cond rfl (fun h114 => ?_) (fun h114 => ?_)
                            ·
                              have hnz : (b.drop n)[s]'(by rw [List.length_drop]; omega) ≠ 0 := by
                                intro hz1
                                rw [List.getElem_drop] at hz1
                                rw [hz1] at h114
                                exact h114 rfl
                              refine C.skip ?_
                              refine C.block ?_
                              refine C.region ?_
                              refine E.pure (S.move rfl) rfl ?_
                              first | refine E.pure (S.add (b := ((1 : Nat) : Int)) rfl rfl (N.add64 (by omega))) rfl ?_ | refine E.pure (S.add (b := ((1 : Nat) : Int)) rfl rfl (N.addZ (by omega))) rfl ?_
                              refine E.pure (S.assign rfl) rfl ?_
                              refine E.keep [0, 2, 3, 6, 9, 10, 90, 91, 92, 114] (env1 := [(0, _), (2, _), (3, _), (6, _), (9, _), (10, _), (90, _), (91, _), (92, _), (114, _)]) rfl ?_
                              refine ⟨_, ?_, s + 1, rfl, rfl, nz_more hz (by rw [List.length_drop]; omega) hnz, by omega, rfl⟩; omega
                            ·
                              have hz0 : (b.drop n)[s]? = some 0 := by
                                rw [List.getElem?_drop, List.getElem?_eq_getElem hns, Option.some.injEq]
                                exact UInt8.toNat_inj.1 (by simpa using h114)
                              refine C.exit rfl ?_
                              first | exact ⟨s, rfl, rfl, by rw [strLen_end (by rw [List.take_of_length_le (by rw [List.length_drop]; omega)] at hz; exact hz), List.length_drop]; omega, hsn⟩ | exact ⟨s, rfl, rfl, (strLen_found hz hz0).symm, hsn⟩
                          ·
                            refine E.guardNo 106 false rfl rfl rfl rfl ?_
                            refine E.guardNo 106 false rfl rfl rfl rfl ?_
                            refine E.guardNo 106 false rfl rfl rfl rfl ?_
                            refine E.guardNo 106 false rfl rfl rfl rfl ?_
                            refine E.guardNo 106 false rfl rfl rfl rfl ?_
                            refine E.guardNo 106 false rfl rfl rfl rfl ?_
                            refine E.guardNo 106 false rfl rfl rfl rfl ?_
                            refine E.pure (S.pickF rfl rfl) rfl ?_
                            refine E.keep [0, 2, 3, 6, 9, 10, 90, 91, 92, 114] (env1 := [(0, _), (2, _), (3, _), (6, _), (9, _), (10, _), (90, _), (91, _), (92, _), (114, _)]) rfl ?_
                            refine C.no rfl (rfl) ?_
                            refine C.exit rfl ?_
                            first | exact ⟨s, rfl, rfl, by rw [strLen_end (by rw [List.take_of_length_le (by rw [List.length_drop]; omega)] at hz; exact hz), List.length_drop]; omega, hsn⟩ | exact ⟨s, rfl, rfl, (strLen_found hz hz0).symm, hsn⟩
                        ·
                          rintro _ _ ⟨s, hq23, rfl, hs, hsn⟩
                          refine C.weaken _ hq23 ?_
                          refine C.seq ?_
                          refine C.seq ?_
                          refine C.region ?_
                          refine E.pure (S.move rfl) rfl ?_
                          refine E.pure (S.move rfl) rfl ?_
                          first | refine E.pure (S.add rfl rfl (N.add64 (by omega))) rfl ?_ | refine E.pure (S.add rfl rfl (N.addZ (by omega))) rfl ?_
                          refine E.pure (S.move rfl) rfl ?_
                          refine E.pure (S.lenSl rfl Tryd.underlying22) rfl ?_
                          refine E.pure (S.eq rfl rfl) rfl ?_
                          refine E.keep [0, 2, 3, 6, 9, 10, 90, 91, 92, 122] (env1 := [(0, _), (2, _), (3, _), (6, _), (9, _), (10, _), (90, _), (91, _), (92, _), (122, _)]) rfl ?_
                          first | refine C.ifp rfl (fun h122 => ?_) (fun h122 => ?_) | refine C.cond rfl (fun h122 => ?_) (fun h122 => ?_)
                          ·
                            refine C.seq ?_
                            refine C.region ?_
                            refine E.still (S.loadA 1 (k := 0) rfl rfl rfl rfl Tryd.isAgg24 Tryd.sizeOf24) rfl ?_
                            refine E.loud0 (X.storeA 1 (k := 0) rfl rfl rfl rfl rfl rfl Tryd.sizeOf24 rfl) ?_; rintro _ _ ⟨rfl, rfl⟩; refine E.relist (L2 := [_, _, _]) rfl ?_
                            refine E.pure (S.assign rfl) rfl ?_
                            refine E.pure (S.assign rfl) rfl ?_
                            refine E.pure (S.assign rfl) rfl ?_
                            refine E.keep [0, 2, 3, 4, 5, 6, 9, 10, 90, 91, 92, 122] (env1 := [(0, _), (2, _), (3, _), (4, _), (5, _), (6, _), (9, _), (10, _), (90, _), (91, _), (92, _), (122, _)]) rfl ?_
                            refine C.ret ?_
                            have hRR : spStart b = (h, 0, 1, 0) := by rw [hR, spK_bad hk2 (by omega) (by omega)]
                            refine ⟨_, _, _, _, ⟨_, _, 1, rfl, rfl, rfl⟩, rfl, rfl, rfl, xa, xn, xc, _, by rw [hRR]; exact hX, (.tail _ (.tail _ (.head _))), ?_⟩
                            first | (rw [hRR]; done) | (rw [hRR]; rfl)
                          ·
                            refine C.skip ?_
                            refine C.seq ?_
                            refine C.seq ?_
                            refine C.region ?_
                            refine E.pure (S.move rfl) rfl ?_
                            refine E.pure (S.ge (b := ((512 : Nat) : Int)) rfl rfl) rfl ?_
                            refine E.keep [0, 2, 3, 6, 9, 10, 90, 91, 92, 122, 125] (env1 := [(0, _), (2, _), (3, _), (6, _), (9, _), (10, _), (90, _), (91, _), (92, _), (122, _), (125, _)]) rfl ?_
                            first | refine C.ifp rfl (fun h125 => ?_) (fun h125 => ?_) | refine C.cond rfl (fun h125 => ?_) (fun h125 => ?_)
                            ·
                              refine C.seq ?_
                              refine C.region ?_
                              refine E.still (S.loadA 1 (k := 0) rfl rfl rfl rfl Tryd.isAgg24 Tryd.sizeOf24) rfl ?_
                              refine E.loud0 (X.storeA 1 (k := 0) rfl rfl rfl rfl rfl rfl Tryd.sizeOf24 rfl) ?_; rintro _ _ ⟨rfl, rfl⟩; refine E.relist (L2 := [_, _, _]) rfl ?_
                              refine E.pure (S.assign rfl) rfl ?_
                              refine E.pure (S.assign rfl) rfl ?_
                              refine E.pure (S.assign rfl) rfl ?_
                              refine E.keep [0, 2, 3, 4, 5, 6, 9, 10, 90, 91, 92, 122, 125] (env1 := [(0, _), (2, _), (3, _), (4, _), (5, _), (6, _), (9, _), (10, _), (90, _), (91, _), (92, _), (122, _), (125, _)]) rfl ?_
                              refine C.ret ?_
                              have hRR : spStart b = (h, 0, 2, 0) := by rw [hR, spK_open hk2 (by omega) (by omega) (by omega)]
                              refine ⟨_, _, _, _, ⟨_, _, 1, rfl, rfl, rfl⟩, rfl, rfl, rfl, xa, xn, xc, _, by rw [hRR]; exact hX, (.tail _ (.tail _ (.head _))), ?_⟩
                              first | (rw [hRR]; done) | (rw [hRR]; rfl)
                            ·
                              refine C.skip ?_
                              refine C.seq ?_
                              refine C.seq ?_
                              refine C.region ?_
                              refine E.pure (S.move rfl) rfl ?_
                              refine E.pure (S.eq (b := ((8 : Nat) : Int)) rfl rfl) rfl ?_
                              refine E.keep [0, 2, 3, 6, 9, 10, 90, 91, 92, 122, 125, 128] (env1 := [(0, _), (2, _), (3, _), (6, _), (9, _), (10, _), (90, _), (91, _), (92, _), (122, _), (125, _), (128, _)]) rfl ?_
                              first | refine C.ifp rfl (fun h128 => ?_) (fun h128 => ?_) | refine C.cond rfl (fun h128 => ?_) (fun h128 => ?_)
                              ·
                                have hk0 : k = 0 := by
                                  rcases (show k = 0 ∨ k = 1 by omega) with h | h
                                  · exact h
                                  · rw [h] at h128; exact absurd h128 (by decide)
                                refine C.region ?_
                                refine E.pure (S.move rfl) rfl ?_
                                refine E.pure (S.move rfl) rfl ?_
                                refine E.pure (S.move rfl) rfl ?_
                                refine E.pure (S.move rfl) rfl ?_
                                first | refine E.pure (S.add rfl rfl (N.add64 (by omega))) rfl ?_ | refine E.pure (S.add rfl rfl (N.addZ (by omega))) rfl ?_
                                refine E.pure (S.slLH rfl rfl rfl (by omega) (by omega) Tryd.underlying22 Tryd.sizeOf5) rfl ?_
                                refine E.reslot (v := .slice (some ⟨pb, po + (n), none⟩) (((b.drop (n)).take s).length) (cap - (n))) (slice_to (by have hpa : part po (n) cap 1 = po + (n) * 1 := if_neg (by omega); omega) (by rw [List.length_take, List.length_drop]; omega) rfl) ?_
                                refine E.loud1 (X.call rfl Tryd.call21 (latin_any pb (po + n) (cap - n) ((b.drop n).take s) (hp.sub n s) (by rw [List.length_take, List.length_drop]; omega))) rfl ?_; rintro _ _ ⟨rfl, rfl⟩; refine E.relist (L2 := [_, _, _]) rfl ?_
                                refine E.pure (S.field rfl fa24_0) rfl ?_
                                refine E.loud0 (X.store 1 (k := 0) rfl rfl rfl rfl rfl Tryd.sizeOf9) ?_; rintro _ _ ⟨rfl, rfl⟩; refine E.relist (L2 := [_, _, _]) rfl ?_
                                refine E.keep [0, 2, 3, 6, 9, 10, 90, 91, 92, 122, 125, 128] (env1 := [(0, _), (2, _), (3, _), (6, _), (9, _), (10, _), (90, _), (91, _), (92, _), (122, _), (125, _), (128, _)]) rfl ?_
                                refine C.region ?_
                                refine E.pure (S.move rfl) rfl ?_
                                refine E.pure (S.move rfl) rfl ?_
                                first | refine E.pure (S.add (b := ((1 : Nat) : Int)) rfl rfl (N.add64 (by omega))) rfl ?_ | refine E.pure (S.add (b := ((1 : Nat) : Int)) rfl rfl (N.addZ (by omega))) rfl ?_
                                first | refine E.pure (S.add rfl rfl (N.add64 (by omega))) rfl ?_ | refine E.pure (S.add rfl rfl (N.addZ (by omega))) rfl ?_
                                refine E.pure (S.assign rfl) rfl ?_
                                refine E.keep [0, 2, 3, 6, 9, 10, 90, 91, 92, 122, 125, 128] (env1 := [(0, _), (2, _), (3, _), (6, _), (9, _), (10, _), (90, _), (91, _), (92, _), (122, _), (125, _), (128, _)]) rfl ?_
                                refine C.region ?_
                                first | refine E.pure (S.add (b := ((1 : Nat) : Int)) rfl rfl (N.add64 (by omega))) rfl ?_ | refine E.pure (S.add (b := ((1 : Nat) : Int)) rfl rfl (N.addZ (by omega))) rfl ?_
                                refine E.pure (S.move rfl) rfl ?_
                                refine E.keep [0, 2, 3, 6, 9, 10, 90, 91, 92, 122, 125, 128] (env1 := [(0, _), (2, _), (3, _), (6, _), (9, _), (10, _), (90, _), (91, _), (92, _), (122, _), (125, _), (128, _)]) rfl ?_
                                first | (refine ⟨_, ?_, k + 1, n, h, rfl, rfl, by first | (rw [hR, spK_skip hk2 (by omega)]; done) | (rw [hR, hs, hk0, spK_name (by rw [← hk0]; omega) (by omega) (by omega)]; done) | (rw [hR, hs, hk1, spK_comment (by rw [← hk1]; omega) (by omega) (by omega)]; done), by omega, by omega, hX, rfl⟩; omega) | (refine ⟨_, ?_, k + 1, n + (s + 1), { h with name := latin ((b.drop n).take s) }, rfl, rfl, by first | (rw [hR, spK_skip hk2 (by omega)]; done) | (rw [hR, hs, hk0, spK_name (by rw [← hk0]; omega) (by omega) (by omega)]; done) | (rw [hR, hs, hk1, spK_comment (by rw [← hk1]; omega) (by omega) (by omega)]; done), by omega, by omega, hX, rfl⟩; omega) | (refine ⟨_, ?_, k + 1, n + (s + 1), { h with comment := latin ((b.drop n).take s) }, rfl, rfl, by first | (rw [hR, spK_skip hk2 (by omega)]; done) | (rw [hR, hs, hk0, spK_name (by rw [← hk0]; omega) (by omega) (by omega)]; done) | (rw [hR, hs, hk1, spK_comment (by rw [← hk1]; omega) (by omega) (by omega)]; done), by omega, by omega, hX, rfl⟩; omega)
                              ·
                                have hk1 : k = 1 := by
                                  rcases (show k = 0 ∨ k = 1 by omega) with h | h
                                  · rw [h] at h128; exact absurd rfl h128
                                  · exact h
                                refine C.region ?_
                                refine E.pure (S.move rfl) rfl ?_
                                refine E.pure (S.move rfl) rfl ?_
                                refine E.pure (S.move rfl) rfl ?_
                                refine E.pure (S.move rfl) rfl ?_
                                first | refine E.pure (S.add rfl rfl (N.add64 (by omega))) rfl ?_ | refine E.pure (S.add rfl rfl (N.addZ (by omega))) rfl ?_
                                refine E.pure (S.slLH rfl rfl rfl (by omega) (by omega) Tryd.underlying22 Tryd.sizeOf5) rfl ?_
                                refine E.reslot (v := .slice (some ⟨pb, po + (n), none⟩) (((b.drop (n)).take s).length) (cap - (n))) (slice_to (by have hpa : part po (n) cap 1 = po + (n) * 1 := if_neg (by omega); omega) (by rw [List.length_take, List.length_drop]; omega) rfl) ?_
                                refine E.loud1 (X.call rfl Tryd.call21 (latin_any pb (po + n) (cap - n) ((b.drop n).take s) (hp.sub n s) (by rw [List.length_take, List.length_drop]; omega))) rfl ?_; rintro _ _ ⟨rfl, rfl⟩; refine E.relist (L2 := [_, _, _]) rfl ?_
                                refine E.pure (S.field rfl fa24_1) rfl ?_
                                refine E.loud0 (X.store 1 (k := 1) rfl rfl rfl rfl rfl Tryd.sizeOf9) ?_; rintro _ _ ⟨rfl, rfl⟩; refine E.relist (L2 := [_, _, _]) rfl ?_
                                refine E.keep [0, 2, 3, 6, 9, 10, 90, 91, 92, 122, 125, 128] (env1 := [(0, _), (2, _), (3, _), (6, _), (9, _), (10, _), (90, _), (91, _), (92, _), (122, _), (125, _), (128, _)]) rfl ?_
                                refine C.region ?_
                                refine E.pure (S.move rfl) rfl ?_
                                refine E.pure (S.move rfl) rfl ?_
                                first | refine E.pure (S.add (b := ((1 : Nat) : Int)) rfl rfl (N.add64 (by omega))) rfl ?_ | refine E.pure (S.add (b := ((1 : Nat) : Int)) rfl rfl (N.addZ (by omega))) rfl ?_
                                first | refine E.pure (S.add rfl rfl (N.add64 (by omega))) rfl ?_ | refine E.pure (S.add rfl rfl (N.addZ (by omega))) rfl ?_
                                refine E.pure (S.assign rfl) rfl ?_
                                refine E.keep [0, 2, 3, 6, 9, 10, 90, 91, 92, 122, 125, 128] (env1 := [(0, _), (2, _), (3, _), (6, _), (9, _), (10, _), (90, _), (91, _), (92, _), (122, _), (125, _), (128, _)]) rfl ?_
                                refine C.region ?_
                                first | refine E.pure (S.add (b := ((1 : Nat) : Int)) rfl rfl (N.add64 (by omega))) rfl ?_ | refine E.pure (S.add (b := ((1 : Nat) : Int)) rfl rfl (N.addZ (by omega))) rfl ?_
                                refine E.pure (S.move rfl) rfl ?_
                                refine E.keep [0, 2, 3, 6, 9, 10, 90, 91, 92, 122, 125, 128] (env1 := [(0, _), (2, _), (3, _), (6, _), (9, _), (10, _), (90, _), (91, _), (92, _), (122, _), (125, _), (128, _)]) rfl ?_
                                first | (refine ⟨_, ?_, k + 1, n, h, rfl, rfl, by first | (rw [hR, spK_skip hk2 (by omega)]; done) | (rw [hR, hs, hk0, spK_name (by rw [← hk0]; omega) (by omega) (by omega)]; done) | (rw [hR, hs, hk1, spK_comment (by rw [← hk1]; omega) (by omega) (by omega)]; done), by omega, by omega, hX, rfl⟩; omega) | (refine ⟨_, ?_, k + 1, n + (s + 1), { h with name := latin ((b.drop n).take s) }, rfl, rfl, by first | (rw [hR, spK_skip hk2 (by omega)]; done) | (rw [hR, hs, hk0, spK_name (by rw [← hk0]; omega) (by omega) (by omega)]; done) | (rw [hR, hs, hk1, spK_comment (by rw [← hk1]; omega) (by omega) (by omega)]; done), by omega, by omega, hX, rfl⟩; omega) | (refine ⟨_, ?_, k + 1, n + (s + 1), { h with comment := latin ((b.drop n).take s) }, rfl, rfl, by first | (rw [hR, spK_skip hk2 (by omega)]; done) | (rw [hR, hs, hk0, spK_name (by rw [← hk0]; omega) (by omega) (by omega)]; done) | (rw [hR, hs, hk1, spK_comment (by rw [← hk1]; omega) (by omega) (by omega)]; done), by omega, by omega, hX, rfl⟩; omega)
                    ·
                      refine C.exit rfl ?_
                      exact ⟨fb, n, h, rfl, rfl, by rw [hR]; rw [show k = 2 by omega]; rfl, hn, hX⟩
                  ·
                    rintro _ _ ⟨fb, n, h, hq32, rfl, hR, hn, hX⟩
                    refine C.weaken _ hq32 ?_
                    refine C.cut (M := fun ee ll => ∃ (fb : Nat), ∃ (n : Nat), ∃ (h : Hd), keeps ee [0, 2, 3, 6] = some [(0, .slice (some ⟨pb, po, none⟩) (b.length) (cap)), (2, .pointer (some ⟨b2, 0, none⟩)), (3, .int .i64 ((n : Nat) : Int)), (6, .int .u8 (((b.getD 3 0).toNat : Nat) : Int))] ∧ ll = [⟨fb, 0, [.int .u8 8, .int .u8 16]⟩, ⟨b2, 0, [.string h.name, .string h.comment, .slice xa xn xc, .int .i64 ((h.mod : Nat) : Int), .int .u8 ((h.os : Nat) : Int)]⟩, xf] ∧ (spStart b = (h, n, 0, 0)) ∧ (ExSp h.extra (.slice xa xn xc) xf)) ?_ ?_
                    ·
                      refine C.seq ?_
                      refine C.region ?_
                      refine E.pure (S.move rfl) rfl ?_
                      refine E.pure (S.and (b := ((2 : Nat) : Int)) rfl rfl (N.and_u8 (by omega) (by omega))) rfl ?_
                      refine E.pure (S.ne (b := ((0 : Nat) : Int)) rfl rfl) rfl ?_
                      refine E.keep [0, 2, 3, 6, 152] (env1 := [(0, _), (2, _), (3, _), (6, _), (152, _)]) rfl ?_
                      first | refine C.ifp rfl (fun h152 => ?_) (fun h152 => ?_) | refine C.cond rfl (fun h152 => ?_) (fun h152 => ?_)
                      ·
                        refine C.seq ?_
                        refine C.seq ?_
                        refine C.region ?_
                        refine E.pure (S.move rfl) rfl ?_
                        refine E.pure (S.lenSl rfl Tryd.underlying22) rfl ?_
                        refine E.pure (S.move rfl) rfl ?_
                        first | refine E.pure (S.sub rfl rfl (N.sub64 (by omega) (by omega))) rfl ?_ | refine E.pure (S.sub rfl rfl (N.subZ (by omega))) rfl ?_
                        refine E.pure (S.lt (b := ((2 : Nat) : Int)) rfl rfl) rfl ?_
                        refine E.keep [0, 2, 3, 6, 152, 157] (env1 := [(0, _), (2, _), (3, _), (6, _), (152, _), (157, _)]) rfl ?_
                        first | refine C.ifp rfl (fun h157 => ?_) (fun h157 => ?_) | refine C.cond rfl (fun h157 => ?_) (fun h157 => ?_)
                        ·
                          refine C.seq ?_
                          refine C.region ?_
                          refine E.still (S.loadA 1 (k := 0) rfl rfl rfl rfl Tryd.isAgg24 Tryd.sizeOf24) rfl ?_
                          refine E.loud0 (X.storeA 1 (k := 0) rfl rfl rfl rfl rfl rfl Tryd.sizeOf24 rfl) ?_; rintro _ _ ⟨rfl, rfl⟩; refine E.relist (L2 := [_, _, _]) rfl ?_
                          refine E.pure (S.assign rfl) rfl ?_
                          refine E.pure (S.assign rfl) rfl ?_
                          refine E.pure (S.assign rfl) rfl ?_
                          refine E.keep [0, 2, 3, 4, 5, 6, 152, 157] (env1 := [(0, _), (2, _), (3, _), (4, _), (5, _), (6, _), (152, _), (157, _)]) rfl ?_
                          refine C.ret ?_
                          have hRR : spStart b = (h, 0, 1, 0) := by rw [hR, sp4, if_neg (by omega), if_pos (by omega)]
                          refine ⟨_, _, _, _, ⟨_, _, 1, rfl, rfl, rfl⟩, rfl, rfl, rfl, xa, xn, xc, _, by rw [hRR]; exact hX, (.tail _ (.tail _ (.head _))), ?_⟩
                          first | (rw [hRR]; done) | (rw [hRR]; rfl)
                        ·
                          refine C.skip ?_
                          refine C.seq ?_
                          refine C.seq ?_
                          have hcl := crcOn_lt (poly := IEEE) (crc := 0) (by decide) (by decide) (b.take n)
                          have hca : crcOn IEEE 0 (b.take n) &&& 65535 = crcOn IEEE 0 (b.take n) % 65536 := Nat.and_two_pow_sub_one_eq_mod (n := 16) _
                          refine C.draw [0, 0, 0, 4, 11, 16, 0, 0, 192, 288, 512, 1024, 2080] (.pure 0 462 (.pure 1 461 (.pure 2 451 (.pure 3 455 (.pure 4 463 (.pure 6 191 (.pure 7 127 (.pure 8 255 (.alt 5 (.alt 9 (.pure 10 1023 (.pure 11 2047 (.pure 12 4095 .done))) .stop) .stop))))))))) mixed (by decide +kernel) ?_
                          refine D.pure rfl (S.move rfl) rfl ?_
                          refine D.pure rfl (S.move rfl) rfl ?_
                          refine D.pure rfl (S.move rfl) rfl ?_
                          first | refine D.pure rfl (S.add (b := ((2 : Nat) : Int)) rfl rfl (N.add64 (by omega))) rfl ?_ | refine D.pure rfl (S.add (b := ((2 : Nat) : Int)) rfl rfl (N.addZ (by omega))) rfl ?_
                          refine D.pure rfl (S.slLH rfl rfl rfl (by omega) (by omega) Tryd.underlying22 Tryd.sizeOf5) rfl ?_
                          refine D.reslot (v := .slice (some ⟨pb, po + (n), none⟩) (((b.drop (n)).take 2).length) (cap - (n))) (slice_to (by have hpa : part po (n) cap 1 = po + (n) * 1 := if_neg (by omega); omega) (by rw [List.length_take, List.length_drop]; omega) rfl) ?_
                          refine D.pure rfl (S.move rfl) rfl ?_
                          refine D.pure rfl (S.move rfl) rfl ?_
                          refine D.pure rfl (S.slH rfl rfl (by omega) Tryd.underlying22 Tryd.sizeOf5) rfl ?_
                          refine D.reslot (v := .slice (some ⟨pb, po, none⟩) ((b.take n).length) (cap)) (slice_to rfl (by rw [List.length_take]; omega) rfl) ?_
                          refine D.one ?_
                          refine O.loud1 rfl (OpX.pick [] (F := [_, _, _]) rfl (X.call rfl Tryd.call20 (little_spec pb (po + (n)) (cap - (n)) ((b.drop (n)).take 2) (hp.sub (n) 2) (by rw [List.length_take]; omega)))) rfl ?_; rintro _ _ ⟨_, ⟨rfl, rfl⟩, rfl⟩; refine D.relist (L2 := [_, _, _]) rfl ?_
                          refine D.reslot (v := .int .i64 ((le16of (b.drop n) : Nat) : Int)) (by rw [le16_little (by rw [List.length_drop]; omega)]) ?_
                          refine D.one ?_
                          refine O.loud1 rfl (OpX.pick [] (F := [_, _, _]) rfl (X.call rfl Tryd.call22 (check_spec pb po cap (b.take n) (fun j hj => by have := hp.sub 0 n j hj; simpa using this) (by rw [List.length_take]; omega)))) rfl ?_; rintro _ _ ⟨_, ⟨rfl, rfl⟩, rfl⟩; refine D.relist (L2 := [_, _, _]) rfl ?_
                          refine D.pure rfl (S.and (b := ((65535 : Nat) : Int)) rfl rfl (N.and_u32 (by omega) (by omega))) rfl ?_
                          refine D.pure rfl (S.conv rfl Tryd.underlying52 Tryd.underlying2 (N.i64n (by omega))) rfl ?_
                          refine D.pure rfl (S.ne rfl rfl) rfl ?_
                          refine D.keep [0, 2, 3, 6, 152, 157, 171] (env1 := [(0, _), (2, _), (3, _), (6, _), (152, _), (157, _), (171, _)]) rfl ?_
                          first | refine C.ifp rfl (fun h171 => ?_) (fun h171 => ?_) | refine C.cond rfl (fun h171 => ?_) (fun h171 => ?_)
                          ·
                            refine C.seq ?_
                            refine C.region ?_
                            refine E.still (S.loadA 1 (k := 0) rfl rfl rfl rfl Tryd.isAgg24 Tryd.sizeOf24) rfl ?_
                            refine E.loud0 (X.storeA 1 (k := 0) rfl rfl rfl rfl rfl rfl Tryd.sizeOf24 rfl) ?_; rintro _ _ ⟨rfl, rfl⟩; refine E.relist (L2 := [_, _, _]) rfl ?_
                            refine E.pure (S.assign rfl) rfl ?_
                            refine E.pure (S.assign rfl) rfl ?_
                            refine E.pure (S.assign rfl) rfl ?_
                            refine E.keep [0, 2, 3, 4, 5, 6, 152, 157, 171] (env1 := [(0, _), (2, _), (3, _), (4, _), (5, _), (6, _), (152, _), (157, _), (171, _)]) rfl ?_
                            refine C.ret ?_
                            have hRR : spStart b = (h, 0, 1, 2) := by rw [hR, sp4, if_neg (by omega), if_neg (by omega), if_pos (by omega)]
                            refine ⟨_, _, _, _, ⟨_, _, 1, rfl, rfl, rfl⟩, rfl, rfl, rfl, xa, xn, xc, _, by rw [hRR]; exact hX, (.tail _ (.tail _ (.head _))), ?_⟩
                            first | (rw [hRR]; done) | (rw [hRR]; rfl)
                          ·
                            refine C.skip ?_
                            refine C.region ?_
                            refine E.pure (S.move rfl) rfl ?_
                            first | refine E.pure (S.add (b := ((2 : Nat) : Int)) rfl rfl (N.add64 (by omega))) rfl ?_ | refine E.pure (S.add (b := ((2 : Nat) : Int)) rfl rfl (N.addZ (by omega))) rfl ?_
                            refine E.pure (S.assign rfl) rfl ?_
                            refine E.keep [0, 2, 3, 6, 152, 157, 171] (env1 := [(0, _), (2, _), (3, _), (6, _), (152, _), (157, _), (171, _)]) rfl ?_
                            first | exact ⟨fb, n + 2, h, rfl, rfl, by rw [hR, sp4, if_neg (by omega), if_neg (by omega), if_neg (by omega)], hX⟩ | exact ⟨fb, n, h, rfl, rfl, by rw [hR, sp4, if_pos (by omega)], hX⟩
                      ·
                        refine C.skip ?_
                        first | exact ⟨fb, n + 2, h, rfl, rfl, by rw [hR, sp4, if_neg (by omega), if_neg (by omega), if_neg (by omega)], hX⟩ | exact ⟨fb, n, h, rfl, rfl, by rw [hR, sp4, if_pos (by omega)], hX⟩
                    ·
                      rintro _ _ ⟨fb, n, h, hq38, rfl, hR, hX⟩
                      refine C.weaken _ hq38 ?_
                      refine C.seq ?_
                      refine C.region ?_
                      refine E.still (S.loadA 1 (k := 0) rfl rfl rfl rfl Tryd.isAgg24 Tryd.sizeOf24) rfl ?_
                      refine E.pure (S.move rfl) rfl ?_
                      refine E.loud0 (X.storeA 1 (k := 0) rfl rfl rfl rfl rfl rfl Tryd.sizeOf24 rfl) ?_; rintro _ _ ⟨rfl, rfl⟩; refine E.relist (L2 := [_, _, _]) rfl ?_
                      refine E.pure (S.assign rfl) rfl ?_
                      refine E.pure (S.assign rfl) rfl ?_
                      refine E.pure (S.assign rfl) rfl ?_
                      refine E.keep [0, 2, 3, 4, 5, 6] (env1 := [(0, _), (2, _), (3, _), (4, _), (5, _), (6, _)]) rfl ?_
                      refine C.ret ?_
                      have hRR := hR
                      refine ⟨_, _, _, _, ⟨_, _, 1, rfl, rfl, rfl⟩, rfl, rfl, rfl, xa, xn, xc, _, by rw [hRR]; exact hX, (.tail _ (.tail _ (.head _))), ?_⟩
                      first | (rw [hRR]; done) | (rw [hRR]; rfl)
end Go.Eng
