/-
  Sources of bytes: what the code asks of a reader that has Read and ReadByte; a bytes.Reader is one.
-/
import Derived.Test.YtbjbmpcgiokdaaaDoorWBytes
set_option linter.unusedVariables false
set_option linter.unusedSimpArgs false
namespace Go.Eng
open Go Go.Proofs
set_option maxRecDepth 100000

def rdByte (l : List UInt8) : Nat := match l with
  | [] => 0
  | c :: _ => c.toNat
def rdErr (l : List UInt8) : Er := match l with
  | [] => .eof
  | _ => .none

theorem rdByte_lt (l : List UInt8) : rdByte l < 256 := by
  unfold rdByte
  split
  · decide
  · rename_i c r; exact c.toNat_lt

structure Src (K : Known) (ea : Fin 5 → Addr) where
  t : TypeId
  v : Value
  rd : FuncId
  rb : FuncId
  At : List UInt8 → Frag → Frag → Frag → Prop
  mRead : ∀ w, (method (Tryd.prog.types.size + Made.depth) t v "Read").run Tryd.prog w = .ok (rd, v) w
  mByte : ∀ w, (method (Tryd.prog.types.size + Made.depth) t v "ReadByte").run Tryd.prog w = .ok (rb, v) w
  nRead : ∀ w, (nilAhead (Tryd.prog.types.size + Made.depth) t v "Read").run Tryd.prog w = .ok (some false) w
  nByte : ∀ w, (nilAhead (Tryd.prog.types.size + Made.depth) t v "ReadByte").run Tryd.prog w = .ok (some false) w
  both : ∀ want, Tryd.prog.underlying 71 = some (.interface want) → (Tryd.prog.info? t).map (fun i => (lacking want i.methods).isEmpty) = some true
  cRead : ∀ args w, (callFunc rd args).run Tryd.prog w = .ok (.enter rd args) w
  cByte : ∀ args w, (callFunc rb args).run Tryd.prog w = .ok (.enter rb args) w
  read : ∀ l g1 g2 g3 b o m mc cs, At l g1 g2 g3 → 0 < m → m = cs.length → m ≤ 4611686018427387904 → Fn Tryd.prog K rd #[v, .slice (some ⟨b, o, none⟩) m mc] [g1, g2, g3, ⟨b, o, cs⟩]
    fun r L => ∃ k h1 h2 h3, At (l.drop k) h1 h2 h3 ∧ k ≤ m ∧ k ≤ l.length ∧ (l ≠ [] → 0 < k) ∧ r = .tuple #[.int .i64 (k : Int), Er.val ea (rdErr l)] ∧ L = [h1, h2, h3, ⟨b, o, bytesV (l.take k) ++ cs.drop k⟩]
  byte : ∀ l g1 g2 g3, At l g1 g2 g3 → Fn Tryd.prog K rb #[v] [g1, g2, g3]
    fun r L => ∃ h1 h2 h3, At (l.drop 1) h1 h2 h3 ∧ r = .tuple #[.int .u8 ((rdByte l : Nat) : Int), Er.val ea (rdErr l)] ∧ L = [h1, h2, h3]

theorem depthS : ∃ d, Tryd.prog.types.size + Made.depth = d + 1 := by
  have : 0 < Made.depth := by decide
  exact ⟨Tryd.prog.types.size + Made.depth - 1, by omega⟩

theorem bmRead (b : Nat) (w : World) : (method (Tryd.prog.types.size + Made.depth) 54 (.pointer (some ⟨b, 0, none⟩)) "Read").run Tryd.prog w = .ok (107, .pointer (some ⟨b, 0, none⟩)) w := by
  obtain ⟨d, hd⟩ := depthS
  rw [hd]
  simp [method, Tryd.typeInfo54, Tryd.t54, Tryd.runUnderlying54, follow, receiverAt, Place.get]
theorem bmByte (b : Nat) (w : World) : (method (Tryd.prog.types.size + Made.depth) 54 (.pointer (some ⟨b, 0, none⟩)) "ReadByte").run Tryd.prog w = .ok (108, .pointer (some ⟨b, 0, none⟩)) w := by
  obtain ⟨d, hd⟩ := depthS
  rw [hd]
  simp [method, Tryd.typeInfo54, Tryd.t54, Tryd.runUnderlying54, follow, receiverAt, Place.get]
theorem bnRead (b : Nat) (w : World) : (nilAhead (Tryd.prog.types.size + Made.depth) 54 (.pointer (some ⟨b, 0, none⟩)) "Read").run Tryd.prog w = .ok (some false) w := by
  obtain ⟨d, hd⟩ := depthS
  rw [hd]
  simp [nilAhead, Tryd.typeInfo54, Tryd.t54, followBlind]
theorem bnByte (b : Nat) (w : World) : (nilAhead (Tryd.prog.types.size + Made.depth) 54 (.pointer (some ⟨b, 0, none⟩)) "ReadByte").run Tryd.prog w = .ok (some false) w := by
  obtain ⟨d, hd⟩ := depthS
  rw [hd]
  simp [nilAhead, Tryd.typeInfo54, Tryd.t54, followBlind]

theorem bmBoth0 : (Tryd.prog.info? 54).map (fun i => (lacking #[("Read", 89), ("ReadByte", 139)] i.methods).isEmpty) = some true := by kernel_rfl
theorem bmBoth (want : Array (String × TypeId)) (h : Tryd.prog.underlying 71 = some (.interface want)) : (Tryd.prog.info? 54).map (fun i => (lacking want i.methods).isEmpty) = some true := by
  have h2 := (Tryd.underlying71).symm.trans h
  simp only [Option.some.injEq, TypeDesc.interface.injEq] at h2
  rw [← h2]
  exact bmBoth0

/-- What a bytes.Reader at place i holds: its struct; its bytes; nothing. -/
def ReaderAt (rb : Nat) (a : Option Addr) (c : Nat) (data : List UInt8) (i : Nat) (g1 g2 g3 : Frag) : Prop :=
  g1 = ⟨rb, 0, [.slice a data.length c, .int .i64 (i : Int), .int .i64 (-1)]⟩ ∧ i ≤ data.length ∧ data.length ≤ 4611686018427387904 ∧ data.length ≤ c ∧
    (data = [] ∨ ∃ db o cs, a = some ⟨db, o, none⟩ ∧ g2 = ⟨db, o, bytesV data ++ cs⟩) ∧ g3 = ⟨rb, 0, []⟩

theorem Known.ext_fn {K : Known} {ea : Fin 5 → Addr} (hs : Sents K ea) {L : Frags} {w : World} (hw : Agree K L w.heap) : Sents (fun b => w.heap[b]?) ea := hs.mono fun _ _ h => hw.base _ _ h

/-- A bytes.Reader as a source. -/
def readerSrc (K : Known) (ea : Fin 5 → Addr) (hs : Sents K ea) (rb : Nat) (a : Option Addr) (c : Nat) (data : List UInt8) : Src K ea where
  t := 54
  v := .pointer (some ⟨rb, 0, none⟩)
  rd := 107
  rb := 108
  At l g1 g2 g3 := ∃ i, l = data.drop i ∧ ReaderAt rb a c data i g1 g2 g3
  mRead := bmRead rb
  mByte := bmByte rb
  nRead := bnRead rb
  nByte := bnByte rb
  both := bmBoth
  cRead := Tryd.call107
  cByte := Tryd.call108
  read := by
    rintro l g1 g2 g3 b o m mc cs ⟨i, rfl, rfl, hi, hd, hc, hg, rfl⟩ hm0 hm hml
    by_cases he : i = data.length
    · have hnil : data.drop i = [] := by rw [he, List.drop_length]
      refine Fn.mono (Fn.pick [0] (A := [_]) (F := [_, _, _]) rfl (readerRead_end rb data i hd hs a c he _)) ?_
      rintro r _ ⟨_, ⟨rfl, rfl⟩, rfl⟩
      refine ⟨0, _, _, _, ⟨i, by rw [hnil]; rfl, rfl, hi, hd, hc, hg, rfl⟩, by omega, by omega, fun h => absurd hnil h, by rw [hnil]; rfl, by rw [hnil]; rfl⟩
    · have hi' : i < data.length := by omega
      rcases hg with rfl | ⟨db, o', ds, rfl, rfl⟩
      · simp at hi'
      · have hdl : (data.drop i).length = data.length - i := List.length_drop
        refine Fn.sameR (Fn.pick [0, 0, 1] (A := [_, _, _]) (F := [_]) rfl (readerRead_next (ea := ea) rb data i hd db o' c ds hi' hc b o m mc cs hm hml)) ?_
        rintro r _ ⟨_, ⟨rfl, rfl⟩, rfl⟩
        have hmin : Nat.min (data.drop i).length m = min (data.drop i).length m := rfl
        have hk : Nat.min (data.drop i).length m ≤ data.length - i := by rw [← hdl]; exact Nat.min_le_left _ _
        have hne : data.drop i ≠ [] := fun h => by rw [h] at hdl; simp at hdl; omega
        have htk : (data.drop i).take (Nat.min (data.drop i).length m) = (data.drop i).take m := by
          rw [List.take_eq_take_iff, hmin]; omega
        refine ⟨_, Same.perm (((List.Perm.swap _ _ _).cons _).cons _), Nat.min (data.drop i).length m, _, _, _, ⟨i + Nat.min (data.drop i).length m, List.drop_drop .., rfl, by omega, hd, hc, .inr ⟨db, o', ds, rfl, rfl⟩, rfl⟩,
          Nat.min_le_right _ _, Nat.min_le_left _ _, fun _ => ?_, ?_, ?_⟩
        · rw [hmin, hdl]; omega
        · have : rdErr (data.drop i) = .none := by
            unfold rdErr
            split
            · rename_i h; exact absurd h hne
            · rfl
          rw [this]
        · rw [htk]
  byte := by
    rintro l g1 g2 g3 ⟨i, rfl, rfl, hi, hd, hc, hg, rfl⟩
    by_cases he : i = data.length
    · have hnil : data.drop i = [] := by rw [he, List.drop_length]
      refine Fn.mono (Fn.pick [0] (A := [_]) (F := [_, _]) rfl (readByte_end rb data i hd hs a c he)) ?_
      rintro r _ ⟨_, ⟨rfl, rfl⟩, rfl⟩
      exact ⟨_, _, _, ⟨i, by rw [hnil]; rfl, rfl, hi, hd, hc, hg, rfl⟩, by rw [hnil]; rfl, rfl⟩
    · have hi' : i < data.length := by omega
      rcases hg with rfl | ⟨db, o', ds, rfl, rfl⟩
      · simp at hi'
      · have hcons : data.drop i = data[i] :: data.drop (i + 1) := List.drop_eq_getElem_cons hi'
        refine Fn.mono (Fn.pick [0, 0] (A := [_, _]) (F := [_]) rfl (readByte_next (ea := ea) rb data i hd db o' c ds hi')) ?_
        rintro r _ ⟨_, ⟨rfl, rfl⟩, rfl⟩
        exact ⟨_, _, _, ⟨i + 1, by rw [hcons]; rfl, rfl, by omega, hd, hc, .inr ⟨db, o', ds, rfl, rfl⟩, rfl⟩, by rw [hcons]; rfl, rfl⟩
end Go.Eng
