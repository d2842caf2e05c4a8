/- Walks of FnDiscoverNone: find on the text x[7]y. -/
import Derived.Test.YtbobcppdhcgghaaC
namespace Go.Proofs.Ytbobcppdhcgghaa
open Go.RowKit

def arrS : ByteArray := ⟨#[101,101,101,101,101,101,101,101,101,46,46,101,101,46,101,101,101,101,101,101,101,101,101,101,101,101,101,101,101,101,101,101,46,101,81,101,46,46,46,113,101,101,46,46,46,46,46,46,46,46,46,46,46,46,46,46,46,46,101,101,46,46,46,46,46,46,46,46,46,46,46,46,46,46,46,46,46,46,46,46,46,46,46,46,46,46,46,46,46,46,46,91,101,93,46,46,101,46,46,46,46,46,46,46,46,46,46,46,46,46,46,46,46,46,46,46,46,46,46,46,46,46,46,123,46,101,46,101,46,46,46,46,46,46,46,46,46,46,46,46,46,46,46,46,46,46,46,46,46,46,46,46,46,46,46,46,46,46,46,46,46,46,46,46,46,46,46,46,46,46,46,46,46,46,46,46,46,46,46,46,46,46,46,46,46,46,46,46,46,46,46,46,46,46,46,46,46,46,46,46,46,46,46,46,46,46,46,46,46,46,46,46,46,46,46,46,46,46,46,46,46,46,46,46,46,46,46,46,46,46,46,46,46,46,46,46,46,46,46,46,46,46,46,46,46,46,46,46,46,46,46,46,46,46,46,46,65]⟩
def preS : ByteArray := ⟨#[101,101,101,101,101,101,101,101,101,46,46,101,101,46,101,101,101,101,101,101,101,101,101,101,101,101,101,101,101,101,101,101,46,101,81,101,118,118,118,113,101,101,118,118,101,118,118,118,118,118,118,118,118,118,118,118,118,118,101,101,118,118,118,118,118,118,118,118,118,118,118,118,118,118,118,118,118,118,118,118,118,118,118,118,118,118,118,118,118,118,118,91,101,101,118,118,101,118,118,118,118,118,118,118,118,118,118,118,118,118,118,118,118,118,118,118,118,118,118,118,118,118,118,123,118,101,118,101,118,118,118,118,118,118,118,118,118,118,118,118,118,118,118,118,118,118,118,118,118,118,118,118,118,118,118,118,118,118,118,118,118,118,118,118,118,118,118,118,118,118,118,118,118,118,118,118,118,118,118,118,118,118,118,118,118,118,118,118,118,118,118,118,118,118,118,118,118,118,118,118,118,118,118,118,118,118,118,118,118,118,118,118,118,118,118,118,118,118,118,118,118,118,118,118,118,118,118,118,118,118,118,118,118,118,118,118,118,118,118,118,118,118,118,118,118,118,118,118,118,118,118,118,118,118,118,118,118]⟩
def valS : ByteArray := ⟨#[101,101,101,101,101,101,101,101,101,86,86,101,101,86,101,101,101,101,101,101,101,101,101,101,101,101,101,101,101,101,101,101,86,101,101,101,46,46,46,101,101,101,46,46,86,46,46,46,46,46,46,46,46,46,46,46,46,46,101,101,46,46,46,46,46,46,46,46,46,46,46,46,46,46,46,46,46,46,46,46,46,46,46,46,46,46,46,46,46,46,46,101,101,101,46,46,101,46,46,46,46,46,46,46,46,46,46,46,46,46,46,46,46,46,46,46,46,46,46,46,46,46,46,101,46,125,46,101,46,46,46,46,46,46,46,46,46,46,46,46,46,46,46,46,46,46,46,46,46,46,46,46,46,46,46,46,46,46,46,46,46,46,46,46,46,46,46,46,46,46,46,46,46,46,46,46,46,46,46,46,46,46,46,46,46,46,46,46,46,46,46,46,46,46,46,46,46,46,46,46,46,46,46,46,46,46,46,46,46,46,46,46,46,46,46,46,46,46,46,46,46,46,46,46,46,46,46,46,46,46,46,46,46,46,46,46,46,46,46,46,46,46,46,46,46,46,46,46,46,46,46,46,46,46,46,46,86]⟩
theorem scan_i (n : Nat) (h : n < scanS.size) (v : UInt8) (hv : scanS.data[n]? = some v) : scanS[n] = v := by
  rw [Array.getElem?_eq_getElem (by exact h)] at hv
  exact Option.some.inj hv
theorem arr_size : arrS.size = 257 := by decide +kernel
theorem arr_i (n : Nat) (h : n < arrS.size) (v : UInt8) (hv : arrS.data[n]? = some v) : arrS[n] = v := by
  rw [Array.getElem?_eq_getElem (by exact h)] at hv
  exact Option.some.inj hv
theorem eq_pre : binOp BinOp.eql 9 (.string scanS) (.string preS) = pure (.bool false) := by
  rw [binOp_string_eql, show (scanS.toList == preS.toList) = false from by decide +kernel]
theorem eq_val : binOp BinOp.eql 9 (.string scanS) (.string valS) = pure (.bool false) := by
  rw [binOp_string_eql, show (scanS.toList == valS.toList) = false from by decide +kernel]

/-- the four places of the walk's own, and the three of the caller's -/
structure S5 (n0 lb bk bb B : Nat) (w wr : World) (k : Nat) (start : Int) (modes : Value) (m : ByteArray) (lv : Value) : Prop where
  c0 : wr.cell? ⟨B, 0, none⟩ = some (.int .i64 start)
  f0 : wr.frozen? ⟨B, 0, none⟩ = false
  c1 : wr.cell? ⟨B + 1, 0, none⟩ = some modes
  f1 : wr.frozen? ⟨B + 1, 0, none⟩ = false
  c2 : wr.cell? ⟨B + 1 + 1, 0, none⟩ = some (.int .i64 k)
  f2 : wr.frozen? ⟨B + 1 + 1, 0, none⟩ = false
  c3 : wr.cell? ⟨B + 1 + 1 + 1, 0, none⟩ = some (.string m)
  f3 : wr.frozen? ⟨B + 1 + 1 + 1, 0, none⟩ = false
  cl : wr.cell? ⟨lb, 0, none⟩ = some lv
  fl : wr.frozen? ⟨lb, 0, none⟩ = false
  ck : wr.cell? ⟨bk, 0, none⟩ = some (.bool false)
  b0 : wr.cell? ⟨bb, 0, none⟩ = some (.int .u8 120)
  b1 : wr.cell? ⟨bb, 1, none⟩ = some (.int .u8 91)
  b2 : wr.cell? ⟨bb, 2, none⟩ = some (.int .u8 55)
  b3 : wr.cell? ⟨bb, 3, none⟩ = some (.int .u8 93)
  b4 : wr.cell? ⟨bb, 4, none⟩ = some (.int .u8 121)
  bel : Below n0 w wr
  llb : lb < B
  lbk : bk < B
  lbb : bb < B
  hn0 : n0 ≤ lb
  hne1 : lb ≠ bk
  hne2 : lb ≠ bb

section
variable {n0 lb bk bb B : Nat} {w wr : World} {k : Nat} {start : Int} {modes : Value} {m : ByteArray} {lv : Value}
theorem S5.setK (S : S5 n0 lb bk bb B w wr k start modes m lv) (k' : Nat) : S5 n0 lb bk bb B w (wr.setCell ⟨B + 1 + 1, 0, none⟩ (.int .i64 k')) k' start modes m lv := by
  have q1 := S.llb
  have q2 := S.lbk
  have q3 := S.lbb
  have q4 := S.hn0
  exact {
    c0 := Eq.trans (World.cell?_setCell_other _ _ _ _ (by intro e; injection e; omega)) S.c0,
    c1 := Eq.trans (World.cell?_setCell_other _ _ _ _ (by intro e; injection e; omega)) S.c1,
    c2 := World.cell?_setCell_same _ _ _ S.c2,
    c3 := Eq.trans (World.cell?_setCell_other _ _ _ _ (by intro e; injection e; omega)) S.c3,
    cl := Eq.trans (World.cell?_setCell_other _ _ _ _ (by intro e; injection e; omega)) S.cl,
    ck := Eq.trans (World.cell?_setCell_other _ _ _ _ (by intro e; injection e; omega)) S.ck,
    b0 := Eq.trans (World.cell?_setCell_other _ _ _ _ (by intro e; injection e; omega)) S.b0,
    b1 := Eq.trans (World.cell?_setCell_other _ _ _ _ (by intro e; injection e; omega)) S.b1,
    b2 := Eq.trans (World.cell?_setCell_other _ _ _ _ (by intro e; injection e; omega)) S.b2,
    b3 := Eq.trans (World.cell?_setCell_other _ _ _ _ (by intro e; injection e; omega)) S.b3,
    b4 := Eq.trans (World.cell?_setCell_other _ _ _ _ (by intro e; injection e; omega)) S.b4,
    f0 := by rw [World.frozen?_setCell]; exact S.f0,
    f1 := by rw [World.frozen?_setCell]; exact S.f1,
    f2 := by rw [World.frozen?_setCell]; exact S.f2,
    f3 := by rw [World.frozen?_setCell]; exact S.f3,
    fl := by rw [World.frozen?_setCell]; exact S.fl,
    bel := S.bel.setCell (by simp; omega) _,
    llb := S.llb,
    lbk := S.lbk,
    lbb := S.lbb,
    hn0 := S.hn0,
    hne1 := S.hne1,
    hne2 := S.hne2 }
theorem S5.setStart (S : S5 n0 lb bk bb B w wr k start modes m lv) (x : Int) : S5 n0 lb bk bb B w (wr.setCell ⟨B, 0, none⟩ (.int .i64 x)) k x modes m lv := by
  have q1 := S.llb
  have q2 := S.lbk
  have q3 := S.lbb
  have q4 := S.hn0
  exact {
    c0 := World.cell?_setCell_same _ _ _ S.c0,
    c1 := Eq.trans (World.cell?_setCell_other _ _ _ _ (by intro e; injection e; omega)) S.c1,
    c2 := Eq.trans (World.cell?_setCell_other _ _ _ _ (by intro e; injection e; omega)) S.c2,
    c3 := Eq.trans (World.cell?_setCell_other _ _ _ _ (by intro e; injection e; omega)) S.c3,
    cl := Eq.trans (World.cell?_setCell_other _ _ _ _ (by intro e; injection e; omega)) S.cl,
    ck := Eq.trans (World.cell?_setCell_other _ _ _ _ (by intro e; injection e; omega)) S.ck,
    b0 := Eq.trans (World.cell?_setCell_other _ _ _ _ (by intro e; injection e; omega)) S.b0,
    b1 := Eq.trans (World.cell?_setCell_other _ _ _ _ (by intro e; injection e; omega)) S.b1,
    b2 := Eq.trans (World.cell?_setCell_other _ _ _ _ (by intro e; injection e; omega)) S.b2,
    b3 := Eq.trans (World.cell?_setCell_other _ _ _ _ (by intro e; injection e; omega)) S.b3,
    b4 := Eq.trans (World.cell?_setCell_other _ _ _ _ (by intro e; injection e; omega)) S.b4,
    f0 := by rw [World.frozen?_setCell]; exact S.f0,
    f1 := by rw [World.frozen?_setCell]; exact S.f1,
    f2 := by rw [World.frozen?_setCell]; exact S.f2,
    f3 := by rw [World.frozen?_setCell]; exact S.f3,
    fl := by rw [World.frozen?_setCell]; exact S.fl,
    bel := S.bel.setCell (by simp; omega) _,
    llb := S.llb,
    lbk := S.lbk,
    lbb := S.lbb,
    hn0 := S.hn0,
    hne1 := S.hne1,
    hne2 := S.hne2 }
theorem S5.setModes (S : S5 n0 lb bk bb B w wr k start modes m lv) (x : Value) : S5 n0 lb bk bb B w (wr.setCell ⟨B + 1, 0, none⟩ x) k start x m lv := by
  have q1 := S.llb
  have q2 := S.lbk
  have q3 := S.lbb
  have q4 := S.hn0
  exact {
    c0 := Eq.trans (World.cell?_setCell_other _ _ _ _ (by intro e; injection e; omega)) S.c0,
    c1 := World.cell?_setCell_same _ _ _ S.c1,
    c2 := Eq.trans (World.cell?_setCell_other _ _ _ _ (by intro e; injection e; omega)) S.c2,
    c3 := Eq.trans (World.cell?_setCell_other _ _ _ _ (by intro e; injection e; omega)) S.c3,
    cl := Eq.trans (World.cell?_setCell_other _ _ _ _ (by intro e; injection e; omega)) S.cl,
    ck := Eq.trans (World.cell?_setCell_other _ _ _ _ (by intro e; injection e; omega)) S.ck,
    b0 := Eq.trans (World.cell?_setCell_other _ _ _ _ (by intro e; injection e; omega)) S.b0,
    b1 := Eq.trans (World.cell?_setCell_other _ _ _ _ (by intro e; injection e; omega)) S.b1,
    b2 := Eq.trans (World.cell?_setCell_other _ _ _ _ (by intro e; injection e; omega)) S.b2,
    b3 := Eq.trans (World.cell?_setCell_other _ _ _ _ (by intro e; injection e; omega)) S.b3,
    b4 := Eq.trans (World.cell?_setCell_other _ _ _ _ (by intro e; injection e; omega)) S.b4,
    f0 := by rw [World.frozen?_setCell]; exact S.f0,
    f1 := by rw [World.frozen?_setCell]; exact S.f1,
    f2 := by rw [World.frozen?_setCell]; exact S.f2,
    f3 := by rw [World.frozen?_setCell]; exact S.f3,
    fl := by rw [World.frozen?_setCell]; exact S.fl,
    bel := S.bel.setCell (by simp; omega) _,
    llb := S.llb,
    lbk := S.lbk,
    lbb := S.lbb,
    hn0 := S.hn0,
    hne1 := S.hne1,
    hne2 := S.hne2 }
theorem S5.setMode (S : S5 n0 lb bk bb B w wr k start modes m lv) (x : ByteArray) : S5 n0 lb bk bb B w (wr.setCell ⟨B + 1 + 1 + 1, 0, none⟩ (.string x)) k start modes x lv := by
  have q1 := S.llb
  have q2 := S.lbk
  have q3 := S.lbb
  have q4 := S.hn0
  exact {
    c0 := Eq.trans (World.cell?_setCell_other _ _ _ _ (by intro e; injection e; omega)) S.c0,
    c1 := Eq.trans (World.cell?_setCell_other _ _ _ _ (by intro e; injection e; omega)) S.c1,
    c2 := Eq.trans (World.cell?_setCell_other _ _ _ _ (by intro e; injection e; omega)) S.c2,
    c3 := World.cell?_setCell_same _ _ _ S.c3,
    cl := Eq.trans (World.cell?_setCell_other _ _ _ _ (by intro e; injection e; omega)) S.cl,
    ck := Eq.trans (World.cell?_setCell_other _ _ _ _ (by intro e; injection e; omega)) S.ck,
    b0 := Eq.trans (World.cell?_setCell_other _ _ _ _ (by intro e; injection e; omega)) S.b0,
    b1 := Eq.trans (World.cell?_setCell_other _ _ _ _ (by intro e; injection e; omega)) S.b1,
    b2 := Eq.trans (World.cell?_setCell_other _ _ _ _ (by intro e; injection e; omega)) S.b2,
    b3 := Eq.trans (World.cell?_setCell_other _ _ _ _ (by intro e; injection e; omega)) S.b3,
    b4 := Eq.trans (World.cell?_setCell_other _ _ _ _ (by intro e; injection e; omega)) S.b4,
    f0 := by rw [World.frozen?_setCell]; exact S.f0,
    f1 := by rw [World.frozen?_setCell]; exact S.f1,
    f2 := by rw [World.frozen?_setCell]; exact S.f2,
    f3 := by rw [World.frozen?_setCell]; exact S.f3,
    fl := by rw [World.frozen?_setCell]; exact S.fl,
    bel := S.bel.setCell (by simp; omega) _,
    llb := S.llb,
    lbk := S.lbk,
    lbb := S.lbb,
    hn0 := S.hn0,
    hne1 := S.hne1,
    hne2 := S.hne2 }
theorem S5.drew (S : S5 n0 lb bk bb B w wr k start modes m lv) : S5 n0 lb bk bb B w wr.drew k start modes m lv :=
  { S with bel := S.bel.drew }
theorem alloc_keep {wr : World} {a : Addr} {v : Value} (o : Obj) (h : wr.cell? a = some v) : (wr.alloc o).cell? a = some v :=
  Eq.trans (World.cell?_alloc_lt _ _ _ (lt_of_cell h)) h
theorem alloc_free {wr : World} {a : Addr} {v : Value} (o : Obj) (h : wr.cell? a = some v) (hf : wr.frozen? a = false) : (wr.alloc o).frozen? a = false :=
  Eq.trans (World.frozen?_of_block (w := wr) (Below.heap_alloc wr o a.block (lt_of_cell h))) hf
theorem S5.alloc (S : S5 n0 lb bk bb B w wr k start modes m lv) (o : Obj) : S5 n0 lb bk bb B w (wr.alloc o) k start modes m lv :=
  {
    c0 := alloc_keep o S.c0, c1 := alloc_keep o S.c1, c2 := alloc_keep o S.c2, c3 := alloc_keep o S.c3, cl := alloc_keep o S.cl, ck := alloc_keep o S.ck,
    b0 := alloc_keep o S.b0, b1 := alloc_keep o S.b1, b2 := alloc_keep o S.b2, b3 := alloc_keep o S.b3, b4 := alloc_keep o S.b4,
    f0 := alloc_free o S.c0 S.f0, f1 := alloc_free o S.c1 S.f1, f2 := alloc_free o S.c2 S.f2, f3 := alloc_free o S.c3 S.f3, fl := alloc_free o S.cl S.fl,
    bel := S.bel.alloc (by have := lt_of_cell S.cl; have := S.hn0; simp at *; omega) o, llb := S.llb, lbk := S.lbk, lbb := S.lbb, hn0 := S.hn0, hne1 := S.hne1, hne2 := S.hne2 }
/-- behind the closure: the list's place is written -/
theorem S5.grown (S : S5 n0 lb bk bb B w wr k start modes m lv) {w' : World} (hg : wr.grownBy w' (some lb)) (lv' : Value) (hl : w'.cell? ⟨lb, 0, none⟩ = some lv') (hf : w'.frozen? ⟨lb, 0, none⟩ = false) : S5 n0 lb bk bb B w w' k start modes m lv' := by
  have hb := S.llb
  have h1 := S.hne1
  have h2 := S.hne2
  have hn := S.hn0
  have z3 := lt_of_cell S.c3
  simp only at z3
  have fr : ∀ a : Addr, a.block ≠ lb → a.block < wr.heap.size → w'.frozen? a = wr.frozen? a := fun a ha hz => World.frozen?_of_block (hg.block a.block hz (by simpa using ha))
  exact {
    c0 := hg.cell S.c0 (by simp; omega), c1 := hg.cell S.c1 (by simp; omega), c2 := hg.cell S.c2 (by simp; omega), c3 := hg.cell S.c3 (by simp; omega), cl := hl, ck := hg.cell S.ck (by simp; omega),
    b0 := hg.cell S.b0 (by simp; omega), b1 := hg.cell S.b1 (by simp; omega), b2 := hg.cell S.b2 (by simp; omega), b3 := hg.cell S.b3 (by simp; omega), b4 := hg.cell S.b4 (by simp; omega),
    f0 := (fr _ (by simp; omega) (by simp; omega)).trans S.f0, f1 := (fr _ (by simp; omega) (by simp; omega)).trans S.f1, f2 := (fr _ (by simp; omega) (by simp; omega)).trans S.f2, f3 := (fr _ (by simp; omega) (by simp; omega)).trans S.f3, fl := hf,
    bel := S.bel.trans ⟨hg.os, hg.tape, hg.output, hg.size, fun j hj => hg.block j (by omega) (by simp; omega)⟩, llb := S.llb, lbk := S.lbk, lbb := S.lbb, hn0 := S.hn0, hne1 := S.hne1, hne2 := S.hne2 }
end

inductive Sk (n0 lb bk bb B : Nat) (w wr : World) : Nat → Prop where
  | s0 : S5 n0 lb bk bb B w wr 0 0 (.slice none 0 0) scanS (.slice none 0 0) → Sk n0 lb bk bb B w wr 0
  | s1 : S5 n0 lb bk bb B w wr 1 0 (.slice none 0 0) scanS (.slice none 0 0) → Sk n0 lb bk bb B w wr 1
  | s2 (g c : Nat) : wr.cell? ⟨g, 0, none⟩ = some (.string scanS) → B + 4 ≤ g → S5 n0 lb bk bb B w wr 2 1 (.slice (some ⟨g, 0, none⟩) 1 c) arrS (.slice none 0 0) → Sk n0 lb bk bb B w wr 2
  | s3 (g c : Nat) : wr.cell? ⟨g, 0, none⟩ = some (.string scanS) → B + 4 ≤ g → S5 n0 lb bk bb B w wr 3 1 (.slice (some ⟨g, 0, none⟩) 1 c) arrS (.slice none 0 0) → Sk n0 lb bk bb B w wr 3
  | s4 (g c h d : Nat) : wr.cell? ⟨h, 0, none⟩ = some (.string ⟨#[91, 55, 93]⟩) → B + 4 ≤ h → S5 n0 lb bk bb B w wr 4 1 (.slice (some ⟨g, 0, none⟩) 0 c) scanS (.slice (some ⟨h, 0, none⟩) 1 d) → Sk n0 lb bk bb B w wr 4
  | s5 (g c h d : Nat) : wr.cell? ⟨h, 0, none⟩ = some (.string ⟨#[91, 55, 93]⟩) → B + 4 ≤ h → S5 n0 lb bk bb B w wr 5 1 (.slice (some ⟨g, 0, none⟩) 0 c) scanS (.slice (some ⟨h, 0, none⟩) 1 d) → Sk n0 lb bk bb B w wr 5

theorem low {B k k' : Nat} {wr w' : World} (h : wr.cell? ⟨B + 1 + 1, 0, none⟩ = some (.int .i64 k)) (h' : w'.cell? ⟨B + 1 + 1, 0, none⟩ = some (.int .i64 k')) (hk : k < k') (h5 : k < 5) :
    5 - (intOf ((w'.cell? ⟨B + 1 + 1, 0, none⟩).getD .nilFunc)).toNat < 5 - (intOf ((wr.cell? ⟨B + 1 + 1, 0, none⟩).getD .nilFunc)).toNat := by
  rw [h, h']; simp [intOf]; omega

theorem startS (n0 lb bk bb : Nat) (w : World) (hlb : lb < w.heap.size) (hbk : bk < w.heap.size) (hbb : bb < w.heap.size) (hn : n0 ≤ lb) (h1 : lb ≠ bk) (h2 : lb ≠ bb)
    (cl : w.cell? ⟨lb, 0, none⟩ = some (.slice none 0 0)) (fl : w.frozen? ⟨lb, 0, none⟩ = false) (ck : w.cell? ⟨bk, 0, none⟩ = some (.bool false))
    (b0 : w.cell? ⟨bb, 0, none⟩ = some (.int .u8 120)) (b1 : w.cell? ⟨bb, 1, none⟩ = some (.int .u8 91)) (b2 : w.cell? ⟨bb, 2, none⟩ = some (.int .u8 55)) (b3 : w.cell? ⟨bb, 3, none⟩ = some (.int .u8 93)) (b4 : w.cell? ⟨bb, 4, none⟩ = some (.int .u8 121)) :
    Sk n0 lb bk bb w.heap.size w ((((w.alloc (Obj.cells #[Value.int IntKind.i64 0] 3)).alloc (Obj.cells #[Value.slice none 0 0] 23)).alloc (Obj.cells #[Value.int IntKind.i64 0] 3)).alloc (Obj.cells #[Value.string scanS] 9)) 0 := by
  refine .s0 ⟨by go_simp, by go_simp, by go_simp, by go_simp, by go_simp, by go_simp, by go_simp, by go_simp, ?_, ?_, ?_, ?_, ?_, ?_, ?_, ?_, ?_, hlb, hbk, hbb, hn, h1, h2⟩
  · exact alloc_keep _ (alloc_keep _ (alloc_keep _ (alloc_keep _ cl)))
  · exact alloc_free _ (alloc_keep _ (alloc_keep _ (alloc_keep _ cl))) (alloc_free _ (alloc_keep _ (alloc_keep _ cl)) (alloc_free _ (alloc_keep _ cl) (alloc_free _ cl fl)))
  · exact alloc_keep _ (alloc_keep _ (alloc_keep _ (alloc_keep _ ck)))
  · exact alloc_keep _ (alloc_keep _ (alloc_keep _ (alloc_keep _ b0)))
  · exact alloc_keep _ (alloc_keep _ (alloc_keep _ (alloc_keep _ b1)))
  · exact alloc_keep _ (alloc_keep _ (alloc_keep _ (alloc_keep _ b2)))
  · exact alloc_keep _ (alloc_keep _ (alloc_keep _ (alloc_keep _ b3)))
  · exact alloc_keep _ (alloc_keep _ (alloc_keep _ (alloc_keep _ b4)))
  · exact (((((Below.refl _ _).alloc (by omega) _).alloc (by simp; omega) _).alloc (by simp; omega) _).alloc (by simp; omega) _)

set_option maxHeartbeats 4000000 in
set_option maxRecDepth 100000 in
theorem find_five (n0 lb bk bb cap : Nat) (w : World) (hcap : 5 ≤ cap) (hlb : lb < w.heap.size) (hbk : bk < w.heap.size) (hbb : bb < w.heap.size) (hn0 : n0 ≤ lb) (h1 : lb ≠ bk) (h2 : lb ≠ bb)
    (cl : w.cell? ⟨lb, 0, none⟩ = some (.slice none 0 0)) (fl : w.frozen? ⟨lb, 0, none⟩ = false) (ck : w.cell? ⟨bk, 0, none⟩ = some (.bool false))
    (b0 : w.cell? ⟨bb, 0, none⟩ = some (.int .u8 120)) (b1 : w.cell? ⟨bb, 1, none⟩ = some (.int .u8 91)) (b2 : w.cell? ⟨bb, 2, none⟩ = some (.int .u8 55)) (b3 : w.cell? ⟨bb, 3, none⟩ = some (.int .u8 93)) (b4 : w.cell? ⟨bb, 4, none⟩ = some (.int .u8 121)) :
    Calls Try.prog 9 #[.slice (some ⟨bb, 0, none⟩) 5 cap, .func (.func 8) #[] #[.pointer (some ⟨lb, 0, none⟩), .pointer (some ⟨bk, 0, none⟩)], .nilFunc] w fun e w' => e = .returned (.tuple #[]) ∧ Sk n0 lb bk bb w.heap.size w w' 5 := by
  have hq1 := eq_pre
  have hq2 := eq_val
  simp only [preS, valS] at hq1 hq2
  have hn := neq_nilFunc
  have z1 := scan_size
  have z2 := arr_size
  go_enter Try.func9, Try.ntmps9
  go_wp2
  go_step3
  go_wp2
  go_step3
  go_wp2
  go_loopw [6] (fun _ wr => ∃ k : Nat, Sk n0 lb bk bb w.heap.size w wr k) (fun _ wr => 5 - (intOf ((wr.cell? ⟨w.heap.size + 1 + 1, 0, none⟩).getD .nilFunc)).toNat)
  case atStart => exact ⟨0, startS n0 lb bk bb w hlb hbk hbb hn0 h1 h2 cl fl ck b0 b1 b2 b3 b4⟩
  case round =>
    obtain ⟨k, hk⟩ := hrel
    clear cl fl ck b0 b1 b2 b3 b4
    cases hk with
    | s0 S =>
      have H := Lib.hid S
      obtain ⟨c0, f0, c1, f1, c2, f2, c3, f3, cl', fl', ck', b0', b1', b2', b3', b4', bel, g1, g2, g3, g4, g5, g6⟩ := S
      have l0 := lt_of_cell c0
      have l1 := lt_of_cell c1
      have l2 := lt_of_cell c2
      have l3 := lt_of_cell c3
      simp only at l0 l1 l2 l3
      have x1 : 120 < scanS.size := by rw [z1]; omega
      have x2 : scanS[120] = 46 := scan_i 120 x1 46 (by decide +kernel)
      clear z1 z2 g1 g2 g3 g4 g5 g6 bel
      go_wp2
      go_round
      case rel => exact ⟨1, .s1 (H.out.setK 1)⟩
      case measure => exact low (k := 0) (k' := 1) c2 (World.cell?_setCell_same _ _ _ c2) (by omega) (by omega)
    | s1 S =>
      have H := Lib.hid S
      obtain ⟨c0, f0, c1, f1, c2, f2, c3, f3, cl', fl', ck', b0', b1', b2', b3', b4', bel, g1, g2, g3, g4, g5, g6⟩ := S
      have l0 := lt_of_cell c0
      have l1 := lt_of_cell c1
      have l2 := lt_of_cell c2
      have l3 := lt_of_cell c3
      simp only at l0 l1 l2 l3
      have x1 : 91 < scanS.size := by rw [z1]; omega
      have x2 : scanS[91] = 91 := scan_i 91 x1 91 (by decide +kernel)
      clear z1 z2 g1 g2 g3 g4 g5 g6 bel
      go_wp2
      have T := fun cp => ((((H.out.setStart 1).setModes (.slice (some ⟨wr.heap.size + 1, 0, none⟩) 1 cp)).setMode arrS).setK 2)
      go_round
      case rel => exact ⟨2, .s2 (wr.heap.size + 1) _ (Eq.trans (World.cell?_alloc_at _ _ _ _ (by simp)) (by simp only [List.getElem?_toArray, Array.getElem?_append]; rfl)) (by omega) (((T _).alloc _).alloc _).drew⟩
      case measure => exact low (k := 1) (k' := 2) c2 (((T _).alloc _).alloc _).drew.c2 (by omega) (by omega)
    | s2 g c hg hgB S =>
      have H := Lib.hid S
      obtain ⟨c0, f0, c1, f1, c2, f2, c3, f3, cl', fl', ck', b0', b1', b2', b3', b4', bel, g1, g2, g3, g4, g5, g6⟩ := S
      have l0 := lt_of_cell c0
      have l1 := lt_of_cell c1
      have l2 := lt_of_cell c2
      have l3 := lt_of_cell c3
      simp only at l0 l1 l2 l3
      have x1 : 55 < arrS.size := by rw [z2]; omega
      have x2 : arrS[55] = 46 := arr_i 55 x1 46 (by decide +kernel)
      clear z1 z2 g1 g2 g3 g4 g5 g6 bel
      go_wp2
      go_round
      case rel => exact ⟨3, .s3 g c (Eq.trans (World.cell?_setCell_other _ _ _ _ (by intro e; injection e; omega)) hg) hgB (H.out.setK 3)⟩
      case measure => exact low (k := 2) (k' := 3) c2 (World.cell?_setCell_same _ _ _ c2) (by omega) (by omega)
    | s3 g c hg hgB S =>
      have H := Lib.hid S
      obtain ⟨c0, f0, c1, f1, c2, f2, c3, f3, cl', fl', ck', b0', b1', b2', b3', b4', bel, g1, g2, g3, g4, g5, g6⟩ := S
      have l0 := lt_of_cell c0
      have l1 := lt_of_cell c1
      have l2 := lt_of_cell c2
      have l3 := lt_of_cell c3
      simp only at l0 l1 l2 l3
      have x1 : 93 < arrS.size := by rw [z2]; omega
      have x2 : arrS[93] = 93 := arr_i 93 x1 93 (by decide +kernel)
      clear z1 z2 g1 g2 g3 g4 g5 g6 bel
      go_wp2_with fail
      have T3 := (H.out.setMode scanS).setModes (.slice (some ⟨g, 0, none⟩) 0 c)
      refine ((cb_first bb 1 (cap - 1) lb bk [91, 55, 93] false _ (fun j hj => ?_) T3.cl T3.fl T3.ck h1).mono ?_)
      · match j, hj with
        | 0, _ => exact T3.b1
        | 1, _ => exact T3.b2
        | 2, _ => exact T3.b3
      rintro e w2 ⟨rfl, hg2, d, hl2, hs2, hf2⟩
      have T4 := T3.grown hg2 _ hl2 hf2
      have H4 := Lib.hid T4
      have e2 := T4.c2
      have u2 := T4.f2
      have hz2 := hg2.size
      simp only [World.size_setCell] at hz2 hs2 H4
      have HS := Lib.hid hs2
      clear T4 T3 hg2 hl2 hs2 hf2 c0 c1 c2 c3 f0 f1 f2 f3 cl' fl' ck' b0' b1' b2' b3' b4'
      go_wp2
      go_round
      case rel => exact ⟨4, .s4 g c _ d (Eq.trans (World.cell?_setCell_other _ _ _ _ (by intro e; injection e; omega)) HS.out) (by omega) (H4.out.setK 4)⟩
      case measure => exact low (k := 3) (k' := 4) H.out.c2 (H4.out.setK 4).c2 (by omega) (by omega)
    | s4 g c h d hh hhB S =>
      have H := Lib.hid S
      obtain ⟨c0, f0, c1, f1, c2, f2, c3, f3, cl', fl', ck', b0', b1', b2', b3', b4', bel, g1, g2, g3, g4, g5, g6⟩ := S
      have l0 := lt_of_cell c0
      have l1 := lt_of_cell c1
      have l2 := lt_of_cell c2
      have l3 := lt_of_cell c3
      simp only at l0 l1 l2 l3
      have x1 : 121 < scanS.size := by rw [z1]; omega
      have x2 : scanS[121] = 46 := scan_i 121 x1 46 (by decide +kernel)
      clear z1 z2 g1 g2 g3 g4 g5 g6 bel
      go_wp2
      go_round
      case rel => exact ⟨5, .s5 g c h d (Eq.trans (World.cell?_setCell_other _ _ _ _ (by intro e; injection e; omega)) hh) hhB (H.out.setK 5)⟩
      case measure => exact low (k := 4) (k' := 5) c2 (World.cell?_setCell_same _ _ _ c2) (by omega) (by omega)
    | s5 g c h d hh hhB S =>
      have H := Lib.hid S
      obtain ⟨c0, f0, c1, f1, c2, f2, c3, f3, cl', fl', ck', b0', b1', b2', b3', b4', bel, g1, g2, g3, g4, g5, g6⟩ := S
      have l0 := lt_of_cell c0
      have l1 := lt_of_cell c1
      have l2 := lt_of_cell c2
      have l3 := lt_of_cell c3
      simp only at l0 l1 l2 l3
      clear z1 z2 g1 g2 g3 g4 g5 g6 bel
      go_wp2
      rw [Exit.noGoto_normal]
      go_end0
      exact ⟨rfl, .s5 g c h d hh hhB H.out⟩
end Go.Proofs.Ytbobcppdhcgghaa
