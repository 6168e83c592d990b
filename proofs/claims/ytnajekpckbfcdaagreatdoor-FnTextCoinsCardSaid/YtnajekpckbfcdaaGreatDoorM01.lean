/-
  Plain lists and words for memory.
-/
import Derived.Test.YtnajekpckbfcdaaGreatDoorProg
import Derived.WalkKit
import Derived.WalkSpells
import Derived.WalkLawsBesides
import Derived.Deep.Draws
import Derived.Laws.Rows
import Derived.Laws.OwnMore
import Derived.Deep.Cut
set_option linter.unusedVariables false
set_option linter.unusedSimpArgs false
namespace Go.Proofs.YtnajekpckbfcdaaGreatDoor
open Go.RowKit

/-- Block g is just the cells cs of element type t, none frozen. -/
def Blk (w : World) (g : Nat) (t : TypeId) (cs : Array Value) : Prop := w.heap[g]? = some (.cells cs t (0, 0))

/-- w' is w with new blocks, and with writes to the blocks of S alone. -/
structure Upd (S : List Nat) (w w' : World) : Prop where
  os : w'.os = w.os
  tape : w'.tape = w.tape
  output : w'.output = w.output
  size : w.heap.size ≤ w'.heap.size
  block : ∀ k, k < w.heap.size → k ∉ S → w'.heap[k]? = w.heap[k]?

section
variable {w w' w'' : World} {g : Nat} {t : TypeId} {cs : Array Value} {S S' : List Nat}

theorem Blk.lt (h : Blk w g t cs) : g < w.heap.size := by
  rcases Nat.lt_or_ge g w.heap.size with hlt | hge
  · exact hlt
  · unfold Blk at h; rw [Array.getElem?_eq_none hge] at h; cases h
theorem Blk.cell (h : Blk w g t cs) (i : Nat) : w.cell? ⟨g, i, none⟩ = cs[i]? := cell_of_row w g i cs t (0, 0) h
theorem Blk.at_ (h : Blk w g t cs) {i : Nat} {v : Value} (hv : cs[i]? = some v) : w.cell? ⟨g, i, none⟩ = some v := (h.cell i).trans hv
theorem Blk.frozen (h : Blk w g t cs) (i : Nat) : w.frozen? ⟨g, i, none⟩ = false := by
  unfold Blk at h
  simp [World.frozen?, h]
theorem Blk.new (w : World) (t : TypeId) (cs : Array Value) : Blk (w.alloc (.cells cs t)) w.heap.size t cs := heap_alloc_new w _
theorem Blk.drew (h : Blk w g t cs) : Blk w.drew g t cs := h
theorem Blk.drewN (h : Blk w g t cs) (n : Nat) : Blk (w.drewN n) g t cs := h
theorem Blk.alloc (h : Blk w g t cs) (o : Obj) : Blk (w.alloc o) g t cs := (Below.heap_alloc w o g h.lt).trans h
theorem Blk.set_ (h : Blk w g t cs) (i : Nat) (u : Value) : Blk (w.setCell ⟨g, i, none⟩ u) g t (cs.setIfInBounds i u) := by
  unfold Blk at h ⊢
  simp [World.setCell, Array.getElem?_modify, h]
theorem Blk.far (h : Blk w g t cs) {p : Addr} (hp : g ≠ p.block) (u : Value) : Blk (w.setCell p u) g t cs := (Below.heap_setCell w p u g hp).trans h
theorem Blk.below {B : Nat} (h : Blk w g t cs) (hb : Below B w w') (hg : g < B) : Blk w' g t cs := (hb.block g hg).trans h
theorem Blk.upd (h : Blk w g t cs) (hb : Upd S w w') (hg : g ∉ S) : Blk w' g t cs := (hb.block g h.lt hg).trans h
theorem Blk.grown {row : Option Nat} (h : Blk w g t cs) (hb : w.grownBy w' row) (hg : some g ≠ row) : Blk w' g t cs := (hb.block g h.lt hg).trans h
theorem Blk.same (h : Blk w g t cs) {t' : TypeId} {cs' : Array Value} (h' : Blk w g t' cs') : cs' = cs := by
  unfold Blk at h h'
  rw [h] at h'
  injection h' with h'
  injection h' with h1
  exact h1.symm
theorem Blk.ne_ {g' : Nat} {t' : TypeId} {cs' : Array Value} (h : Blk w g t cs) (h' : Blk w g' t' cs') (hne : t ≠ t') : g ≠ g' := by
  rintro rfl
  unfold Blk at h h'
  rw [h] at h'
  injection h' with h'
  injection h' with _ ht
  exact hne ht

theorem Upd.refl (S : List Nat) (w : World) : Upd S w w := ⟨rfl, rfl, rfl, Nat.le_refl _, fun _ _ _ => rfl⟩
theorem Upd.mono (h : Upd S w w') (hs : ∀ k ∈ S, k < w.heap.size → k ∈ S') : Upd S' w w' :=
  ⟨h.os, h.tape, h.output, h.size, fun k hk hn => h.block k hk fun hm => hn (hs k hm hk)⟩
theorem Upd.trans (h : Upd S w w') (h' : Upd S' w' w'') (hs : ∀ k ∈ S', k < w.heap.size → k ∈ S) : Upd S w w'' :=
  ⟨h'.os.trans h.os, h'.tape.trans h.tape, h'.output.trans h.output, Nat.le_trans h.size h'.size,
    fun k hk hn => (h'.block k (Nat.lt_of_lt_of_le hk h.size) fun hm => hn (hs k hm hk)).trans (h.block k hk hn)⟩
theorem Upd.drew (h : Upd S w w') : Upd S w w'.drew := ⟨h.os, h.tape, h.output, h.size, h.block⟩
theorem Upd.drewN (h : Upd S w w') (n : Nat) : Upd S w (w'.drewN n) := ⟨h.os, h.tape, h.output, h.size, h.block⟩
theorem Upd.alloc (h : Upd S w w') (o : Obj) : Upd S w (w'.alloc o) :=
  ⟨h.os, h.tape, h.output, Nat.le_trans h.size (by simp), fun k hk hn => (Below.heap_alloc w' o k (Nat.lt_of_lt_of_le hk h.size)).trans (h.block k hk hn)⟩
theorem Upd.setCell (h : Upd S w w') {p : Addr} (hp : p.block < w.heap.size → p.block ∈ S) (u : Value) : Upd S w (w'.setCell p u) :=
  ⟨h.os, h.tape, h.output, by simpa [World.setCell] using h.size, fun k hk hn => (Below.heap_setCell w' p u k (fun e => hn (e ▸ hp (e ▸ hk)))).trans (h.block k hk hn)⟩
theorem Upd.below (h : Upd S w w') {B : Nat} (hB : B ≤ w.heap.size) (hs : ∀ k ∈ S, B ≤ k) : Below B w w' :=
  ⟨h.os, h.tape, h.output, h.size, fun k hk => h.block k (Nat.lt_of_lt_of_le hk hB) fun hm => absurd (hs k hm) (by omega)⟩
theorem Upd.of_below (h : Below w.heap.size w w') (S : List Nat) : Upd S w w' := ⟨h.os, h.tape, h.output, h.size, fun k hk _ => h.block k hk⟩
theorem Upd.nil (h : Upd [] w w') : Below w.heap.size w w' := h.below (Nat.le_refl _) (by simp)
theorem Upd.cell (h : Upd S w w') {p : Addr} (hp : p.block < w.heap.size) (hn : p.block ∉ S) : w'.cell? p = w.cell? p := World.cell?_of_block (w := w) (h.block p.block hp hn)
theorem Upd.frozen (h : Upd S w w') {p : Addr} (hp : p.block < w.heap.size) (hn : p.block ∉ S) : w'.frozen? p = w.frozen? p := World.frozen?_of_block (w := w) (h.block p.block hp hn)
theorem lt_of_cell {p : Addr} {v : Value} (h : w.cell? p = some v) : p.block < w.heap.size := World.block_lt_of_cell? w _ h
end

theorem ret_int {k : IntKind} {a b : Int} (h : a = b) : Ending.returned (.int k a) = .returned (.int k b) := by rw [h]
theorem hide {p : Prop} (h : p) : Hid p := h

/-- The number that words of 64 bits spell, the least first. -/
def val : List Nat → Nat
  | [] => 0
  | d :: r => d + 18446744073709551616 * val r

theorem val_nil : val [] = 0 := rfl
theorem val_cons (d : Nat) (r : List Nat) : val (d :: r) = d + 18446744073709551616 * val r := rfl
theorem val_append (a b : List Nat) : val (a ++ b) = val a + 18446744073709551616 ^ a.length * val b := by
  induction a with
  | nil => simp [val]
  | cons d r ih => simp only [List.cons_append, val_cons, ih, List.length_cons, Nat.pow_succ]; grind
theorem val_snoc (a : List Nat) (d : Nat) : val (a ++ [d]) = val a + 18446744073709551616 ^ a.length * d := by simp [val_append, val]
theorem val_zeros (n : Nat) : val (List.replicate n 0) = 0 := by
  induction n with
  | zero => rfl
  | succ n ih => rw [List.replicate_succ, val_cons, ih]
theorem val_lt (a : List Nat) (h : ∀ d ∈ a, d < 18446744073709551616) : val a < 18446744073709551616 ^ a.length := by
  induction a with
  | nil => simp [val]
  | cons d r ih =>
    have h1 := ih (fun x hx => h x (List.mem_cons_of_mem _ hx))
    have h2 := h d (List.mem_cons_self ..)
    rw [val_cons, List.length_cons, Nat.pow_succ]
    have : 18446744073709551616 * (val r + 1) ≤ 18446744073709551616 * 18446744073709551616 ^ r.length := Nat.mul_le_mul_left _ h1
    omega

end Go.Proofs.YtnajekpckbfcdaaGreatDoor

namespace Go.Proofs.YtnajekpckbfcdaaGreatDoor
open Go.RowKit

/-- The text with these bytes. -/
def bs (l : List UInt8) : ByteArray := ⟨l.toArray⟩
theorem bs_data (b : ByteArray) : bs b.data.toList = b := by cases b; simp [bs]
theorem bs_size (l : List UInt8) : (bs l).size = l.length := by simp [bs, ByteArray.size]
theorem bs_extract (l : List UInt8) (i j : Nat) : (bs l).extract i j = bs ((l.take j).drop i) := by
  apply ByteArray.ext
  simp [bs, ByteArray.data_extract, List.extract_eq_take_drop, List.drop_take]
theorem bs_get (l : List UInt8) (i : Nat) (h : i < (bs l).size) : (bs l)[i]'h = l[i]'(by rwa [bs_size] at h) := by
  simp [bs, ByteArray.getElem_eq_getElem_data]

theorem bs_toList (l : List UInt8) : (bs l).toList = l := by
  rw [ByteArray.toList_eq]; rfl

theorem zzIndex_120 (l : List UInt8) (c : UInt8) (hl : l.length ≤ 100000) (w : World) :
    Calls Tryz.prog 120 #[.string (bs l), .string (bs [c])] w fun e w' => w = w' ∧ ((c ∉ l ∧ e = .returned (.int .i64 (-1))) ∨ ∃ a b, l = a ++ c :: b ∧ c ∉ a ∧ e = .returned (.int .i64 a.length)) := by
  have z1 : (bs [c]).size = 1 := bs_size [c]
  have z2 : (bs l).size = l.length := bs_size l
  go_enter Tryz.func120, Tryz.ntmps120
  go_wp2_with fail
  go_loopw [5] (fun i wr => ∃ k : Nat, k ≤ l.length ∧ i = .int .i64 k ∧ Hid (c ∉ l.take k) ∧ wr = w) (fun i _ => l.length - (intOf i).toNat)
  case atStart => exact ⟨0, by omega, rfl, by show c ∉ _; simp, rfl⟩
  case round =>
    obtain ⟨k, hk, rfl, hnot, rfl⟩ := hrel
    rcases (by omega : k < l.length ∨ k = l.length) with hkl | rfl
    · have hx : (bs l).extract k (k + 1) = bs [l[k]'hkl] := by
        rw [bs_extract]
        congr 1
        rw [List.drop_take, show k + 1 - k = 1 by omega, List.drop_eq_getElem_cons hkl]
        rfl
      have u1 : wrap64 ((k : Int) + 1) = ((k + 1 : Nat) : Int) := by unfold wrap64; omega
      have t1 : (k : Int) + 1 ≤ (l.length : Int) := by omega
      by_cases hc : l[k]'hkl = c
      · go_wp2
        go_ret
        refine ⟨rfl, .inr ⟨l.take k, l.drop (k + 1), ?_, hnot.out, ?_⟩⟩
        · rw [← hc, ← List.drop_eq_getElem_cons hkl, List.take_append_drop]
        · rw [List.length_take, Nat.min_eq_left hk]; rfl
      · have hxt : ((bs [l[k]'hkl]).toList == (bs [c]).toList) = false := by
          rw [bs_toList, bs_toList]
          simpa using hc
        have hstep : c ∉ l.take (k + 1) := by
          rw [List.take_succ_eq_append_getElem hkl]
          intro h
          rcases List.mem_append.1 h with h | h
          · exact hnot.out h
          · exact hc (List.mem_singleton.1 h).symm
        have HSTEP := hide hstep
        clear hstep
        go_wp2
        go_roundw
        case rel => exact ⟨k + 1, by omega, by go_num, HSTEP, trivial⟩
        case measure => first | (simp [intOf]; done) | (simp [intOf]; omega)
    · have t1 : ¬ ((l.length : Int) + 1 ≤ (l.length : Int)) := by omega
      have hno : c ∉ l := by have := hnot.out; rwa [List.take_of_length_le (Nat.le_refl _)] at this
      go_wp2
      go_ret
      first
        | exact ⟨rfl, .inl ⟨hno, rfl⟩⟩
        | exact ⟨rfl, .inl rfl⟩
        | exact .inl rfl
        | (simp [hno]; done)

theorem zzIndex_67 (l : List UInt8) (c : UInt8) (hl : l.length ≤ 100000) (w : World) :
    Calls Tryz.prog 67 #[.string (bs l), .string (bs [c])] w fun e w' => w = w' ∧ ((c ∉ l ∧ e = .returned (.int .i64 (-1))) ∨ ∃ a b, l = a ++ c :: b ∧ c ∉ a ∧ e = .returned (.int .i64 a.length)) := by
  have z1 : (bs [c]).size = 1 := bs_size [c]
  have z2 : (bs l).size = l.length := bs_size l
  go_enter Tryz.func67, Tryz.ntmps67
  go_wp2_with fail
  go_loopw [5] (fun i wr => ∃ k : Nat, k ≤ l.length ∧ i = .int .i64 k ∧ Hid (c ∉ l.take k) ∧ wr = w) (fun i _ => l.length - (intOf i).toNat)
  case atStart => exact ⟨0, by omega, rfl, by show c ∉ _; simp, rfl⟩
  case round =>
    obtain ⟨k, hk, rfl, hnot, rfl⟩ := hrel
    rcases (by omega : k < l.length ∨ k = l.length) with hkl | rfl
    · have hx : (bs l).extract k (k + 1) = bs [l[k]'hkl] := by
        rw [bs_extract]
        congr 1
        rw [List.drop_take, show k + 1 - k = 1 by omega, List.drop_eq_getElem_cons hkl]
        rfl
      have u1 : wrap64 ((k : Int) + 1) = ((k + 1 : Nat) : Int) := by unfold wrap64; omega
      have t1 : (k : Int) + 1 ≤ (l.length : Int) := by omega
      by_cases hc : l[k]'hkl = c
      · go_wp2
        go_ret
        refine ⟨rfl, .inr ⟨l.take k, l.drop (k + 1), ?_, hnot.out, ?_⟩⟩
        · rw [← hc, ← List.drop_eq_getElem_cons hkl, List.take_append_drop]
        · rw [List.length_take, Nat.min_eq_left hk]; rfl
      · have hxt : ((bs [l[k]'hkl]).toList == (bs [c]).toList) = false := by
          rw [bs_toList, bs_toList]
          simpa using hc
        have hstep : c ∉ l.take (k + 1) := by
          rw [List.take_succ_eq_append_getElem hkl]
          intro h
          rcases List.mem_append.1 h with h | h
          · exact hnot.out h
          · exact hc (List.mem_singleton.1 h).symm
        have HSTEP := hide hstep
        clear hstep
        go_wp2
        go_roundw
        case rel => exact ⟨k + 1, by omega, by go_num, HSTEP, trivial⟩
        case measure => first | (simp [intOf]; done) | (simp [intOf]; omega)
    · have t1 : ¬ ((l.length : Int) + 1 ≤ (l.length : Int)) := by omega
      have hno : c ∉ l := by have := hnot.out; rwa [List.take_of_length_le (Nat.le_refl _)] at this
      go_wp2
      go_ret
      first
        | exact ⟨rfl, .inl ⟨hno, rfl⟩⟩
        | exact ⟨rfl, .inl rfl⟩
        | exact .inl rfl
        | (simp [hno]; done)

end Go.Proofs.YtnajekpckbfcdaaGreatDoor

namespace Go.Proofs.YtnajekpckbfcdaaGreatDoor
open Go.RowKit

/-- The pieces of a list between the c's. -/
def spl (c : UInt8) : List UInt8 → List (List UInt8)
  | [] => [[]]
  | x :: r => if x = c then [] :: spl c r else match spl c r with
    | [] => [[x]]
    | h :: t => (x :: h) :: t
theorem spl_ne (c : UInt8) : ∀ l, spl c l ≠ []
  | [] => by simp [spl]
  | x :: r => by
    rw [spl]
    split
    · simp
    · split <;> simp
theorem spl_none (c : UInt8) : ∀ l, c ∉ l → spl c l = [l]
  | [], _ => rfl
  | x :: r, h => by
    rw [spl, if_neg (fun e => h (by rw [e]; simp)), spl_none c r (fun h' => h (List.mem_cons_of_mem _ h'))]
theorem spl_some (c : UInt8) (b : List UInt8) : ∀ a, c ∉ a → spl c (a ++ c :: b) = a :: spl c b
  | [], _ => by simp [spl]
  | x :: r, h => by
    rw [List.cons_append, spl, if_neg (fun e => h (by rw [e]; simp)), spl_some c b r (fun h' => h (List.mem_cons_of_mem _ h'))]
theorem spl_len (c : UInt8) : ∀ l, (spl c l).length ≤ l.length + 1
  | [] => by simp [spl]
  | x :: r => by
    have := spl_len c r
    rw [spl]
    split
    · simp; omega
    · split
      · simp
      · rename_i h t e
        rw [e] at this
        simp at this ⊢
        omega
/-- How long a text value is. -/
def strLen : Value → Nat
  | .string s => s.size
  | _ => 0

theorem info9 : (Tryz.prog.info? 9).map (fun i => (i.zero, i.size, i.bytes)) = some (some (.string ⟨#[]⟩), 1, 16) := by kernel_rfl

set_option maxRecDepth 20000 in
set_option maxHeartbeats 2000000 in
theorem zzSplit_89 (l : List UInt8) (c : UInt8) (hl : l.length ≤ 100000) (w : World) :
    Calls Tryz.prog 89 #[.string (bs l), .string (bs [c])] w fun e w' => ∃ v, e = .returned v ∧ w'.ownsRow w.heap.size 9 1 v (spl c l).length ((spl c l).map fun p => .string (bs p)) ∧ Below w.heap.size w w' := by
  have z1 : (bs [c]).size = 1 := bs_size [c]
  obtain ⟨i0, hi, hz0, hz1, hz2⟩ := info_parts info9
  go_enter Tryz.func89, Tryz.ntmps89
  go_wp2_with fail
  go_loopw [0, 5, 8] (fun s out ix wr => ∃ (m : List UInt8) (ps : List (List UInt8)), m.length ≤ l.length ∧ s = .string (bs m) ∧ Hid (spl c l = ps ++ spl c m) ∧ wr.ownsRow w.heap.size 9 1 out ps.length (ps.map fun p => .string (bs p)) ∧ Below w.heap.size w wr)
    (fun s _ _ _ => strLen s)
  case atStart => exact ⟨l, [], Nat.le_refl _, rfl, by show _ = _; rfl, World.ownsRow_nil _ _ _ _, Below.refl _ _⟩
  case round =>
    obtain ⟨m, ps, hm, rfl, hsp, hown, hbl⟩ := hrel
    have HOWN := hide hown
    clear hown
    go_wp2_with fail
    refine (zzIndex_120 m c (by omega) _).mono ?_
    rintro e w2 ⟨rfl, hx⟩
    rcases hx with ⟨hno, rfl⟩ | ⟨a, b, rfl, hno, rfl⟩
    · have hsz := hbl.size
      have hml := spl_len c l
      have hsp' : spl c l = ps ++ [m] := by rw [hsp.out, spl_none c m hno]
      rw [hsp'] at hml
      simp only [List.length_append, List.length_cons, List.length_nil] at hml
      have HSP := hide hsp'
      clear hsp' hsp
      go_wp2_with (first
        | (at_builtin; refine wpList_append_own _ rfl _ _ 93 rfl w.heap.size 9 i0 (.string ⟨#[]⟩) 1 16 Tryz.underlying93 hi hz0 hz1 hz2 rfl (by decide) _ _ _ rfl (HOWN.out.alloc _) ⟨wr.heap.size, 0, none⟩ 1 1 [.string (bs m)] rfl rfl ?c1 ?c2 ?c3 ?c4 ?c5 ?_)
        | go_in)
      case c1 =>
        intro j u hj
        match j, hj with
        | 0, hj => simp at hj; subst hj; simp [Addr.add]
      case c2 => intro u hu; simp at hu; subst hu; rfl
      case c3 => unfold maxLen; omega
      case c4 => omega
      case c5 => simp; omega
      intro v' w1 hown' hgrow _
      have hb1 : Below w.heap.size w w1 := (hbl.alloc (Nat.le_trans hsz (Nat.le_refl _)) _).grown hgrow (by simp; omega) (fun k hk => (World.ownsRow.lt HOWN.out k hk).1)
      have HB1 := hide hb1
      have HO := hide hown'
      clear hb1 hown' hgrow hbl HOWN
      go_wp2
      go_ret
      refine ⟨v', rfl, ?_, HB1.out⟩
      rw [HSP.out]
      simpa using HO.out
    · have hsz := hbl.size
      have hml := spl_len c l
      have hsp' : spl c l = (ps ++ [a]) ++ spl c b := by rw [hsp.out, spl_some c b a hno]; simp
      have hsl := spl_len c b
      rw [hsp'] at hml
      simp only [List.length_append, List.length_cons, List.length_nil] at hml hm
      have HSP := hide hsp'
      have x1 : (bs (a ++ c :: b)).extract 0 a.length = bs a := by rw [bs_extract]; simp
      have x2 : (bs (a ++ c :: b)).extract (a.length + 1) (a.length + (b.length + 1)) = bs b := by
        rw [bs_extract, List.take_of_length_le (by simp)]
        congr 1
        rw [show a ++ c :: b = (a ++ [c]) ++ b by simp, List.drop_left' (by simp)]
      have z3 : (bs (a ++ c :: b)).size = a.length + (b.length + 1) := by rw [bs_size]; simp
      have t1 : ¬ ((a.length : Int) < 0) := by omega
      have t1b : decide ((a.length : Int) < 0) = false := decide_eq_false t1
      have t2 : (a.length : Int) ≤ (a.length : Int) + ((b.length : Int) + 1) := by omega
      have t3 : (a.length : Int) + 1 ≤ (a.length : Int) + ((b.length : Int) + 1) := by omega
      have u1 : wrap64 ((a.length : Int) + 1) = (a.length : Int) + 1 := by unfold wrap64; omega
      clear hsp' hsp
      go_upto_region 16 with (fail)
      go_upto_region 17 with (first
        | (at_builtin; refine wpList_append_own _ rfl _ _ 93 rfl w.heap.size 9 i0 (.string ⟨#[]⟩) 1 16 Tryz.underlying93 hi hz0 hz1 hz2 rfl (by decide) _ _ _ rfl (HOWN.out.alloc _) ⟨wr.heap.size, 0, none⟩ 1 1 [.string (bs a)] rfl rfl ?d1 ?d2 ?d3 ?d4 ?d5 ?_)
        | fail)
      case d1 =>
        intro j u hj
        match j, hj with
        | 0, hj => simp at hj; subst hj; simp [Addr.add]
      case d2 => intro u hu; simp at hu; subst hu; rfl
      case d3 => clear u1; unfold maxLen; omega
      case d4 => clear u1; omega
      case d5 => clear u1; simp; omega
      intro v' w1 hown' hgrow _
      have hb1 : Below w.heap.size w w1 := (hbl.alloc (Nat.le_trans hsz (Nat.le_refl _)) _).grown hgrow (by simp; omega) (fun k hk => (World.ownsRow.lt HOWN.out k hk).1)
      have HB1 := hide hb1
      have ho : w1.ownsRow w.heap.size 9 1 v' (ps ++ [a]).length ((ps ++ [a]).map fun p => .string (bs p)) := by simpa using hown'
      have HO := hide ho
      clear ho
      clear hb1 hown' hgrow hbl HOWN
      go_upto_region 17 with (fail)
      clear u1 hml hsl t1 t1b t2 hsz
      go_wp2
      go_roundw
      case rel => exact ⟨b, ps ++ [a], by omega, rfl, HSP, HO.out, HB1.out⟩
      case measure => simp [strLen, z3, bs_size]; omega

set_option maxRecDepth 20000 in
set_option maxHeartbeats 2000000 in
theorem zzSplit_43 (l : List UInt8) (c : UInt8) (hl : l.length ≤ 100000) (w : World) :
    Calls Tryz.prog 43 #[.string (bs l), .string (bs [c])] w fun e w' => ∃ v, e = .returned v ∧ w'.ownsRow w.heap.size 9 1 v (spl c l).length ((spl c l).map fun p => .string (bs p)) ∧ Below w.heap.size w w' := by
  have z1 : (bs [c]).size = 1 := bs_size [c]
  obtain ⟨i0, hi, hz0, hz1, hz2⟩ := info_parts info9
  go_enter Tryz.func43, Tryz.ntmps43
  go_wp2_with fail
  go_loopw [0, 5, 8] (fun s out ix wr => ∃ (m : List UInt8) (ps : List (List UInt8)), m.length ≤ l.length ∧ s = .string (bs m) ∧ Hid (spl c l = ps ++ spl c m) ∧ wr.ownsRow w.heap.size 9 1 out ps.length (ps.map fun p => .string (bs p)) ∧ Below w.heap.size w wr)
    (fun s _ _ _ => strLen s)
  case atStart => exact ⟨l, [], Nat.le_refl _, rfl, by show _ = _; rfl, World.ownsRow_nil _ _ _ _, Below.refl _ _⟩
  case round =>
    obtain ⟨m, ps, hm, rfl, hsp, hown, hbl⟩ := hrel
    have HOWN := hide hown
    clear hown
    go_wp2_with fail
    refine (zzIndex_67 m c (by omega) _).mono ?_
    rintro e w2 ⟨rfl, hx⟩
    rcases hx with ⟨hno, rfl⟩ | ⟨a, b, rfl, hno, rfl⟩
    · have hsz := hbl.size
      have hml := spl_len c l
      have hsp' : spl c l = ps ++ [m] := by rw [hsp.out, spl_none c m hno]
      rw [hsp'] at hml
      simp only [List.length_append, List.length_cons, List.length_nil] at hml
      have HSP := hide hsp'
      clear hsp' hsp
      go_wp2_with (first
        | (at_builtin; refine wpList_append_own _ rfl _ _ 93 rfl w.heap.size 9 i0 (.string ⟨#[]⟩) 1 16 Tryz.underlying93 hi hz0 hz1 hz2 rfl (by decide) _ _ _ rfl (HOWN.out.alloc _) ⟨wr.heap.size, 0, none⟩ 1 1 [.string (bs m)] rfl rfl ?c1 ?c2 ?c3 ?c4 ?c5 ?_)
        | go_in)
      case c1 =>
        intro j u hj
        match j, hj with
        | 0, hj => simp at hj; subst hj; simp [Addr.add]
      case c2 => intro u hu; simp at hu; subst hu; rfl
      case c3 => unfold maxLen; omega
      case c4 => omega
      case c5 => simp; omega
      intro v' w1 hown' hgrow _
      have hb1 : Below w.heap.size w w1 := (hbl.alloc (Nat.le_trans hsz (Nat.le_refl _)) _).grown hgrow (by simp; omega) (fun k hk => (World.ownsRow.lt HOWN.out k hk).1)
      have HB1 := hide hb1
      have HO := hide hown'
      clear hb1 hown' hgrow hbl HOWN
      go_wp2
      go_ret
      refine ⟨v', rfl, ?_, HB1.out⟩
      rw [HSP.out]
      simpa using HO.out
    · have hsz := hbl.size
      have hml := spl_len c l
      have hsp' : spl c l = (ps ++ [a]) ++ spl c b := by rw [hsp.out, spl_some c b a hno]; simp
      have hsl := spl_len c b
      rw [hsp'] at hml
      simp only [List.length_append, List.length_cons, List.length_nil] at hml hm
      have HSP := hide hsp'
      have x1 : (bs (a ++ c :: b)).extract 0 a.length = bs a := by rw [bs_extract]; simp
      have x2 : (bs (a ++ c :: b)).extract (a.length + 1) (a.length + (b.length + 1)) = bs b := by
        rw [bs_extract, List.take_of_length_le (by simp)]
        congr 1
        rw [show a ++ c :: b = (a ++ [c]) ++ b by simp, List.drop_left' (by simp)]
      have z3 : (bs (a ++ c :: b)).size = a.length + (b.length + 1) := by rw [bs_size]; simp
      have t1 : ¬ ((a.length : Int) < 0) := by omega
      have t1b : decide ((a.length : Int) < 0) = false := decide_eq_false t1
      have t2 : (a.length : Int) ≤ (a.length : Int) + ((b.length : Int) + 1) := by omega
      have t3 : (a.length : Int) + 1 ≤ (a.length : Int) + ((b.length : Int) + 1) := by omega
      have u1 : wrap64 ((a.length : Int) + 1) = (a.length : Int) + 1 := by unfold wrap64; omega
      clear hsp' hsp
      go_upto_region 16 with (fail)
      go_upto_region 17 with (first
        | (at_builtin; refine wpList_append_own _ rfl _ _ 93 rfl w.heap.size 9 i0 (.string ⟨#[]⟩) 1 16 Tryz.underlying93 hi hz0 hz1 hz2 rfl (by decide) _ _ _ rfl (HOWN.out.alloc _) ⟨wr.heap.size, 0, none⟩ 1 1 [.string (bs a)] rfl rfl ?d1 ?d2 ?d3 ?d4 ?d5 ?_)
        | fail)
      case d1 =>
        intro j u hj
        match j, hj with
        | 0, hj => simp at hj; subst hj; simp [Addr.add]
      case d2 => intro u hu; simp at hu; subst hu; rfl
      case d3 => clear u1; unfold maxLen; omega
      case d4 => clear u1; omega
      case d5 => clear u1; simp; omega
      intro v' w1 hown' hgrow _
      have hb1 : Below w.heap.size w w1 := (hbl.alloc (Nat.le_trans hsz (Nat.le_refl _)) _).grown hgrow (by simp; omega) (fun k hk => (World.ownsRow.lt HOWN.out k hk).1)
      have HB1 := hide hb1
      have ho : w1.ownsRow w.heap.size 9 1 v' (ps ++ [a]).length ((ps ++ [a]).map fun p => .string (bs p)) := by simpa using hown'
      have HO := hide ho
      clear ho
      clear hb1 hown' hgrow hbl HOWN
      go_upto_region 17 with (fail)
      clear u1 hml hsl t1 t1b t2 hsz
      go_wp2
      go_roundw
      case rel => exact ⟨b, ps ++ [a], by omega, rfl, HSP, HO.out, HB1.out⟩
      case measure => simp [strLen, z3, bs_size]; omega

end Go.Proofs.YtnajekpckbfcdaaGreatDoor

namespace Go.Proofs.YtnajekpckbfcdaaGreatDoor
open Go.RowKit

/-- A blank. -/
def bl (c : UInt8) : Bool := c == 32 || (decide (9 ≤ c.toNat) && decide (c.toNat ≤ 13))
def trimL (l : List UInt8) : List UInt8 := l.dropWhile bl
def trimR (l : List UInt8) : List UInt8 := (l.reverse.dropWhile bl).reverse
def trim (l : List UInt8) : List UInt8 := trimR (trimL l)

theorem trimR_snoc (l : List UInt8) (x : UInt8) : trimR (l ++ [x]) = if bl x then trimR l else l ++ [x] := by
  unfold trimR
  rw [List.reverse_append, List.reverse_singleton, List.singleton_append, List.dropWhile_cons]
  split <;> simp
theorem trimR_blank (m : List UInt8) : ∀ l, (∀ x ∈ m, bl x = true) → trimR (l ++ m) = trimR l := by
  induction m with
  | nil => intro l _; simp
  | cons a r ih =>
    intro l h
    rw [show l ++ a :: r = (l ++ [a]) ++ r by simp, ih _ (fun x hx => h x (List.mem_cons_of_mem _ hx)), trimR_snoc, if_pos (h a (List.mem_cons_self ..))]
theorem trimL_blank (m l : List UInt8) (h : ∀ x ∈ m, bl x = true) : trimL (m ++ l) = trimL l := by
  unfold trimL
  exact List.dropWhile_append_of_pos h
theorem trimL_append (l m : List UInt8) : trimL (l ++ m) = if (trimL l).isEmpty then trimL m else trimL l ++ m := by
  unfold trimL
  exact List.dropWhile_append
theorem trimL_all (m : List UInt8) (h : ∀ x ∈ m, bl x = true) : trimL m = [] := by
  have := trimL_blank m [] h
  simpa [trimL] using this
theorem trim_left (m l : List UInt8) (h : ∀ x ∈ m, bl x = true) : trim (m ++ l) = trim l := by
  unfold trim; rw [trimL_blank m l h]
theorem trim_right (l m : List UInt8) (h : ∀ x ∈ m, bl x = true) : trim (l ++ m) = trim l := by
  unfold trim
  rw [trimL_append]
  split
  · rename_i he
    rw [List.isEmpty_iff.1 he, trimL_all m h]
  · rw [trimR_blank m _ h]
theorem trim_nil : trim [] = [] := rfl
/-- A text is blanks, what is left of trimL, .. -/
theorem left_parts : ∀ l : List UInt8, ∃ m, l = m ++ trimL l ∧ ∀ x ∈ m, bl x = true
  | [] => ⟨[], rfl, by simp⟩
  | a :: r => by
    by_cases h : bl a = true
    · obtain ⟨m, h1, h2⟩ := left_parts r
      refine ⟨a :: m, ?_, ?_⟩
      · show a :: r = a :: (m ++ trimL (a :: r))
        rw [show trimL (a :: r) = trimL r by simp [trimL, h], ← h1]
      · intro x hx
        rcases List.mem_cons.1 hx with rfl | hx
        · exact h
        · exact h2 x hx
    · exact ⟨[], by simp [trimL, h], by simp⟩
theorem right_parts (l : List UInt8) : ∃ m, l = trimR l ++ m ∧ ∀ x ∈ m, bl x = true := by
  obtain ⟨m, h1, h2⟩ := left_parts l.reverse
  refine ⟨m.reverse, ?_, fun x hx => h2 x (List.mem_reverse.1 hx)⟩
  have := congrArg List.reverse h1
  rw [List.reverse_reverse, List.reverse_append] at this
  exact this
theorem trim_parts (l : List UInt8) : ∃ a b, l = a ++ trim l ++ b ∧ (∀ x ∈ a, bl x = true) ∧ (∀ x ∈ b, bl x = true) := by
  obtain ⟨a, h1, h2⟩ := left_parts l
  obtain ⟨b, h3, h4⟩ := right_parts (trimL l)
  refine ⟨a, b, ?_, h2, h4⟩
  rw [List.append_assoc]
  unfold trim
  rw [← h3]; exact h1
theorem trim_len (l : List UInt8) : (trim l).length ≤ l.length := by
  obtain ⟨a, b, h, _, _⟩ := trim_parts l
  have := congrArg List.length h
  simp only [List.length_append] at this
  omega

theorem spl_left (c : UInt8) (h : List UInt8) (t : List (List UInt8)) (l : List UInt8) (hs : spl c l = h :: t) : ∀ m, c ∉ m → spl c (m ++ l) = (m ++ h) :: t
  | [], _ => by simpa using hs
  | x :: r, hm => by
    rw [List.cons_append, spl, if_neg (fun e => hm (by rw [e]; simp)), spl_left c h t l hs r (fun h' => hm (List.mem_cons_of_mem _ h'))]
    rfl
theorem spl_right (c : UInt8) (m : List UInt8) (hm : c ∉ m) : ∀ l, ∃ i la, spl c l = i ++ [la] ∧ spl c (l ++ m) = i ++ [la ++ m]
  | [] => ⟨[], [], by simp [spl], by simpa using spl_none c m hm⟩
  | x :: r => by
    obtain ⟨i, la, h1, h2⟩ := spl_right c m hm r
    rw [List.cons_append, spl, spl]
    by_cases e : x = c
    · rw [if_pos e, if_pos e, h1, h2]
      exact ⟨[] :: i, la, rfl, rfl⟩
    · rw [if_neg e, if_neg e, h1, h2]
      cases i with
      | nil => exact ⟨[], x :: la, rfl, rfl⟩
      | cons h t => exact ⟨(x :: h) :: t, la, rfl, rfl⟩
theorem blank_no (c : UInt8) (hc : bl c = false) (m : List UInt8) (h : ∀ x ∈ m, bl x = true) : c ∉ m := fun hm => by rw [h c hm] at hc; cases hc
/-- Blanks at a text's ends do not change its pieces but for blanks at their ends. -/
theorem spl_trim (c : UInt8) (hc : bl c = false) (l : List UInt8) : (spl c (trim l)).map trim = (spl c l).map trim := by
  obtain ⟨a, b, h, ha, hb⟩ := trim_parts l
  have e : spl c l = spl c (a ++ trim l ++ b) := by rw [← h]
  rw [e]
  obtain ⟨i, la, h1, h2⟩ := spl_right c b (blank_no c hc b hb) (a ++ trim l)
  have e2 : (spl c (a ++ trim l ++ b)).map trim = (spl c (a ++ trim l)).map trim := by
    rw [h1, h2, List.map_append, List.map_append, List.map_singleton, List.map_singleton, trim_right la b hb]
  rw [e2]
  cases hs : spl c (trim l) with
  | nil => exact absurd hs (spl_ne c _)
  | cons x t =>
    rw [spl_left c x t _ hs a (blank_no c hc a ha), List.map_cons, List.map_cons, trim_left a x ha]

/-- The texts with c's between. -/
def joinC (c : UInt8) : List (List UInt8) → List UInt8
  | [] => []
  | [x] => x
  | x :: y :: r => x ++ c :: joinC c (y :: r)
theorem joinC_cons (c : UInt8) (x : List UInt8) (r : List (List UInt8)) (h : r ≠ []) : joinC c (x :: r) = x ++ c :: joinC c r := by
  cases r with
  | nil => exact absurd rfl h
  | cons y r => rfl
theorem spl_join (c : UInt8) : ∀ ls : List (List UInt8), ls ≠ [] → (∀ l ∈ ls, c ∉ l) → spl c (joinC c ls) = ls
  | [], h, _ => absurd rfl h
  | [x], _, h => spl_none c x (h x (by simp))
  | x :: y :: r, _, h => by
    show spl c (x ++ c :: joinC c (y :: r)) = _
    rw [spl_some c _ x (h x (by simp)), spl_join c (y :: r) (by simp) (fun l hl => h l (List.mem_cons_of_mem _ hl))]
theorem joinC_append (c : UInt8) : ∀ a b : List (List UInt8), a ≠ [] → b ≠ [] → joinC c (a ++ b) = joinC c a ++ c :: joinC c b
  | [], _, h, _ => absurd rfl h
  | [x], b, _, h => joinC_cons c x b h
  | x :: y :: r, b, _, h => by
    have e := joinC_append c (y :: r) b (by simp) h
    show x ++ c :: joinC c ((y :: r) ++ b) = (x ++ c :: joinC c (y :: r)) ++ c :: joinC c b
    rw [e]; simp
theorem joinC_snoc (c : UInt8) (a : List (List UInt8)) (x : List UInt8) (h : a ≠ []) : joinC c (a ++ [x]) = joinC c a ++ c :: x := joinC_append c a [x] h (by simp)

end Go.Proofs.YtnajekpckbfcdaaGreatDoor

namespace Go.Proofs.YtnajekpckbfcdaaGreatDoor
open Go.RowKit

def isDg (c : UInt8) : Bool := decide (48 ≤ c.toNat) && decide (c.toNat ≤ 57)
def isLe (c : UInt8) : Bool := (decide (97 ≤ c.toNat) && decide (c.toNat ≤ 122)) || (decide (65 ≤ c.toNat) && decide (c.toNat ≤ 90))
def isOt (c : UInt8) : Bool := isLe c || isDg c || c == 47 || c == 58 || c == 46 || c == 95 || c == 45
/-- A denomination. -/
def isDen (l : List UInt8) : Bool := decide (3 ≤ l.length) && decide (l.length ≤ 128) && isLe (l.headD 0) && l.all isOt
/-- The number that digits write. -/
def dv (l : List UInt8) : Nat := l.foldl (fun a c => a * 10 + (c.toNat - 48)) 0

theorem isDg_iff (c : UInt8) : isDg c = true ↔ 48 ≤ c.toNat ∧ c.toNat ≤ 57 := by simp [isDg]
theorem isDg_bl (c : UInt8) (h : isDg c = true) : bl c = false := by
  rw [isDg_iff] at h
  have h32 : (c == 32) = false := by
    rw [beq_eq_false_iff_ne]; rintro rfl; simp at h
  simp [bl, h32]; omega
theorem isLe_ot (c : UInt8) (h : isLe c = true) : isOt c = true := by simp [isOt, h]

theorem dv_foldl (l : List UInt8) : ∀ a, l.foldl (fun a c => a * 10 + (c.toNat - 48)) a = a * 10 ^ l.length + dv l := by
  induction l with
  | nil => intro a; simp [dv]
  | cons c r ih =>
    intro a
    have h1 := ih (a * 10 + (c.toNat - 48))
    have h2 := ih (c.toNat - 48)
    unfold dv at *
    rw [List.foldl_cons, List.foldl_cons, h1, Nat.zero_mul, Nat.zero_add, h2, List.length_cons, Nat.pow_succ]
    rw [Nat.add_mul]
    have : a * 10 * 10 ^ r.length = a * (10 ^ r.length * 10) := by rw [Nat.mul_assoc, Nat.mul_comm 10]
    omega
theorem dv_append (a b : List UInt8) : dv (a ++ b) = dv a * 10 ^ b.length + dv b := by
  show List.foldl _ 0 (a ++ b) = _
  rw [List.foldl_append, dv_foldl]; rfl
theorem dv_snoc (a : List UInt8) (c : UInt8) : dv (a ++ [c]) = dv a * 10 + (c.toNat - 48) := by
  rw [dv_append]
  show dv a * 10 ^ 1 + (0 * 10 + (c.toNat - 48)) = _
  omega
theorem dv_lt : ∀ l : List UInt8, (∀ x ∈ l, isDg x = true) → dv l < 10 ^ l.length := by
  intro l
  induction l with
  | nil => intro _; simp [dv]
  | cons c r ih =>
    intro h
    have h1 := ih (fun x hx => h x (List.mem_cons_of_mem _ hx))
    have h2 := (isDg_iff c).1 (h c (by simp))
    have h3 := dv_append [c] r
    rw [List.singleton_append] at h3
    have h4 : dv [c] = c.toNat - 48 := by show 0 * 10 + (c.toNat - 48) = _; omega
    rw [h3, h4, List.length_cons, Nat.pow_succ]
    have h5 : (c.toNat - 48) * 10 ^ r.length ≤ 9 * 10 ^ r.length := Nat.mul_le_mul_right _ (by omega)
    omega
/-- A coin as it is written. -/
structure Part where
  before : List UInt8
  whole : List UInt8
  point : Bool
  frac : List UInt8
  mid : List UInt8
  denom : List UInt8
  after : List UInt8
def Part.num (p : Part) : List UInt8 := p.whole ++ if p.point then 46 :: p.frac else []
def Part.text (p : Part) : List UInt8 := p.before ++ (p.num ++ (p.mid ++ (p.denom ++ p.after)))
structure Part.Ok (p : Part) : Prop where
  b6 : p.before.length ≤ 6
  bb : ∀ x ∈ p.before, bl x = true
  m6 : p.mid.length ≤ 6
  mb : ∀ x ∈ p.mid, bl x = true
  a6 : p.after.length ≤ 6
  ab : ∀ x ∈ p.after, bl x = true
  w25 : p.whole.length ≤ 25
  wd : ∀ x ∈ p.whole, isDg x = true
  wv : dv p.whole < 1000000000000000000
  f30 : p.frac.length ≤ 30
  fd : ∀ x ∈ p.frac, isDg x = true
  fp : p.point = false → p.frac = []
  d140 : p.denom.length ≤ 140
  dc : ∀ x ∈ p.denom, 32 < x.toNat ∧ x.toNat ≤ 126 ∧ x ≠ 44
  dh : ∀ c, p.denom.head? = some c → isDg c = false ∧ c ≠ 46
/-- The text without blanks at its ends. -/
def Part.core (p : Part) : List UInt8 := if p.denom = [] then p.num else if p.num = [] then p.denom else p.num ++ (p.mid ++ p.denom)
/-- The digits that stand for 10^18 times the amount. -/
def Part.digits (p : Part) : List UInt8 := p.whole ++ (p.frac ++ List.replicate (18 - p.frac.length) 48)
/-- Does the text stand for a coin by its expression? -/
def Part.expr (p : Part) : Bool := !(p.whole.isEmpty && !p.point) && !(p.point && p.frac.isEmpty) && isDen p.denom
/-- .. and by its amount? -/
def Part.amt (p : Part) : Bool := !p.whole.isEmpty && decide (p.frac.length ≤ 18)
/-- What a coin's text is read as. -/
def Part.rd (p : Part) : Option (List UInt8 × Nat) := if p.expr && p.amt then some (p.denom, dv p.digits) else none

theorem trim_id (x : List UInt8) (h1 : ∀ c, x.head? = some c → bl c = false) (h2 : ∀ c, x.getLast? = some c → bl c = false) : trim x = x := by
  have e1 : trimL x = x := by
    cases x with
    | nil => rfl
    | cons a r => simp [trimL, h1 a rfl]
  have e2 : trimR x = x := by
    rcases List.eq_nil_or_concat x with rfl | ⟨l, a, rfl⟩
    · rfl
    · have := h2 a (by simp)
      rw [List.concat_eq_append, trimR_snoc, if_neg (by simp [this])]
  unfold trim
  rw [e1, e2]

theorem Part.Ok.den_bl {p : Part} (h : p.Ok) (c : UInt8) (hc : c ∈ p.denom) : bl c = false := by
  have := h.dc c hc
  have h32 : (c == 32) = false := by
    rw [beq_eq_false_iff_ne]; rintro rfl; simp at this
  simp [bl, h32]; omega
theorem Part.Ok.num_bl {p : Part} (h : p.Ok) (c : UInt8) (hc : c ∈ p.num) : bl c = false := by
  unfold Part.num at hc
  rcases List.mem_append.1 hc with hc | hc
  · exact isDg_bl c (h.wd c hc)
  · split at hc
    · rcases List.mem_cons.1 hc with rfl | hc
      · rfl
      · exact isDg_bl c (h.fd c hc)
    · simp at hc
theorem Part.Ok.trim_text {p : Part} (h : p.Ok) : trim p.text = p.core := by
  have hid : trim p.core = p.core := by
    apply trim_id
    · intro c hc
      unfold Part.core at hc
      split at hc
      · exact h.num_bl c (List.mem_of_head? hc)
      · split at hc
        · exact h.den_bl c (List.mem_of_head? hc)
        · rename_i hn
          cases hnn : p.num with
          | nil => exact absurd hnn hn
          | cons a r =>
            rw [hnn] at hc
            simp at hc
            exact h.num_bl c (by rw [hnn, hc]; simp)
    · intro c hc
      unfold Part.core at hc
      split at hc
      · exact h.num_bl c (List.mem_of_getLast? hc)
      · rename_i hd
        split at hc
        · exact h.den_bl c (List.mem_of_getLast? hc)
        · rw [← List.append_assoc, List.getLast?_append] at hc
          cases hdd : p.denom.getLast? with
          | none => rw [List.getLast?_eq_none_iff] at hdd; exact absurd hdd hd
          | some a =>
            rw [hdd] at hc
            simp at hc
            exact h.den_bl c (by rw [← hc]; exact List.mem_of_getLast? hdd)
  rw [← hid]
  unfold Part.text Part.core
  rw [trim_left _ _ h.bb]
  by_cases hd : p.denom = []
  · rw [if_pos hd, hd, List.nil_append, ← List.append_assoc, trim_right _ _ h.ab, trim_right _ _ h.mb]
  · rw [if_neg hd]
    by_cases hn : p.num = []
    · rw [if_pos hn, hn, List.nil_append, trim_left _ _ h.mb, trim_right _ _ h.ab]
    · rw [if_neg hn, ← List.append_assoc, ← List.append_assoc, trim_right _ _ h.ab, List.append_assoc]
theorem Part.Ok.no_comma {p : Part} (h : p.Ok) : (44 : UInt8) ∉ p.text := by
  intro hc
  unfold Part.text at hc
  rcases List.mem_append.1 hc with hc | hc
  · exact absurd (h.bb _ hc) (by decide)
  rcases List.mem_append.1 hc with hc | hc
  · unfold Part.num at hc
    rcases List.mem_append.1 hc with hc | hc
    · exact absurd (h.wd _ hc) (by decide)
    · split at hc
      · rcases List.mem_cons.1 hc with hc | hc
        · exact absurd hc (by decide)
        · exact absurd (h.fd _ hc) (by decide)
      · simp at hc
  rcases List.mem_append.1 hc with hc | hc
  · exact absurd (h.mb _ hc) (by decide)
  rcases List.mem_append.1 hc with hc | hc
  · exact (h.dc _ hc).2.2 rfl
  · exact absurd (h.ab _ hc) (by decide)
theorem Part.Ok.num_len {p : Part} (h : p.Ok) : p.num.length ≤ 56 := by
  have := h.w25
  have := h.f30
  unfold Part.num
  split <;> simp <;> omega
theorem Part.Ok.text_len {p : Part} (h : p.Ok) : p.text.length ≤ 214 := by
  have := h.num_len
  have := h.b6
  have := h.m6
  have := h.a6
  have := h.d140
  unfold Part.text
  simp only [List.length_append]
  omega
theorem Part.Ok.core_len {p : Part} (h : p.Ok) : p.core.length ≤ 214 := by
  rw [← h.trim_text]; exact Nat.le_trans (trim_len _) h.text_len
theorem Part.Ok.dig_all {p : Part} (h : p.Ok) : ∀ x ∈ p.digits, isDg x = true := by
  intro x hx
  unfold Part.digits at hx
  rcases List.mem_append.1 hx with hx | hx
  · exact h.wd x hx
  rcases List.mem_append.1 hx with hx | hx
  · exact h.fd x hx
  · rw [List.eq_of_mem_replicate hx]; decide
theorem Part.Ok.amount {p : Part} (h : p.Ok) (ha : p.amt = true) : dv p.digits = dv p.whole * 1000000000000000000 + dv (p.frac ++ List.replicate (18 - p.frac.length) 48) ∧ dv (p.frac ++ List.replicate (18 - p.frac.length) 48) < 1000000000000000000 := by
  have hf : p.frac.length ≤ 18 := by
    simp [Part.amt] at ha; exact ha.2
  have hl : (p.frac ++ List.replicate (18 - p.frac.length) (48 : UInt8)).length = 18 := by simp; omega
  refine ⟨?_, ?_⟩
  · unfold Part.digits
    rw [dv_append, hl]
  · have := dv_lt (p.frac ++ List.replicate (18 - p.frac.length) (48 : UInt8)) (fun x hx => h.dig_all x (by unfold Part.digits; exact List.mem_append_right _ hx))
    rwa [hl] at this

end Go.Proofs.YtnajekpckbfcdaaGreatDoor

namespace Go.Proofs.YtnajekpckbfcdaaGreatDoor
open Go.RowKit

theorem pieces_text (ps : List Part) (hok : ∀ p ∈ ps, p.Ok) (hne : ps ≠ []) : (spl 44 (joinC 44 (ps.map Part.text))).map trim = ps.map Part.core := by
  rw [spl_join 44 _ (by simpa using hne) (by
    intro l hl
    obtain ⟨p, hp, rfl⟩ := List.mem_map.1 hl
    exact (hok p hp).no_comma), List.map_map]
  apply List.map_congr_left
  intro p hp
  exact (hok p hp).trim_text
theorem trim_comma (l : List UInt8) (h : (44 : UInt8) ∈ l) : trim l ≠ [] := by
  intro e
  obtain ⟨a, b, h1, h2, h3⟩ := trim_parts l
  rw [e] at h1
  rw [h1] at h
  simp only [List.append_nil, List.mem_append] at h
  rcases h with h | h
  · exact absurd (h2 _ h) (by decide)
  · exact absurd (h3 _ h) (by decide)
theorem joinC_comma (ls : List (List UInt8)) (h : 2 ≤ ls.length) : (44 : UInt8) ∈ joinC 44 ls := by
  match ls, h with
  | x :: y :: r, _ =>
    show (44 : UInt8) ∈ x ++ 44 :: joinC 44 (y :: r)
    simp

end Go.Proofs.YtnajekpckbfcdaaGreatDoor
