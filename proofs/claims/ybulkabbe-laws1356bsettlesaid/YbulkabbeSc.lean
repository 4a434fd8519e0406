import Derived.Test.YbulkabbeSb
namespace Go.Proofs.Ybulkabbe
open Go.RowKit
set_option linter.unusedVariables false
attribute [local go_sem] eql25

theorem Yba.info5 : (Yba.prog.info? 5).map (fun i => (i.zero, i.size, i.bytes)) = some (some (.int .u8 0), 1, 1) := by kernel_rfl

def zrow (n : Nat) : Array Value := (List.replicate n (Value.int .u8 0)).toArray

theorem made1 (z : Value) (n : Nat) : madeCells #[z] n = (List.replicate n z).toArray := by
  apply Array.ext
  · simp [madeCells]
  · intro i h1 h2
    simp [madeCells, Nat.mod_one]

theorem make25 (W : World) (n : Nat) (hn : n ≤ 100000) : (Instr.makeSlice 25 (.int .i64 (n : Int)) (.int .i64 (n : Int))).run Yba.prog W = .ok (.slice (some ⟨W.heap.size, 0, none⟩) n n) (W.alloc (.cells (zrow n) 5)) := by
  obtain ⟨i9, hj, hy0, hy1, hy2⟩ := info_parts Yba.info5
  have h := run_make (P := Yba.prog) W 25 5 i9 (.int .u8 0) Yba.underlying25 hj hy0 .i64 .i64 n n (by omega) (by omega) (by rw [hy2]; omega) (by omega)
  rw [h, hy1]
  have e : madeCells (Value.int .u8 0).cells ((n : Int).toNat * 1) = zrow n := by
    rw [Nat.mul_one, Int.toNat_natCast]; exact made1 _ n
  rw [e]
  simp

set_option maxRecDepth 100000 in
set_option maxHeartbeats 400000 in
theorem decide_new (w : World) (SB LB p j n sz : Nat) (src : Option Addr) (r s mk : Int) (hp : p ≤ 1024) (hn : j < n) (hn2 : n ≤ 1000) (hsz : sz ≤ 1024) (h9 : w.cell? ⟨SB, 9, none⟩ = some (.slice none 0 0)) (f9 : w.frozen? ⟨SB, 9, none⟩ = false) (h0 : w.cell? ⟨SB, 0, none⟩ = some (.pointer (some ⟨LB, 0, none⟩))) (hl : w.cell? ⟨LB, 0, none⟩ = some (.slice src sz sz))
   (en : (sz : Int) / 4 + 1 = (n : Int)) (e3 : (p : Int).tdiv 4 = j) (e4 : (p : Int).tmod 4 = r) (e5 : IntKind.i64.wrap (j : Int) = j) (e6 : IntKind.i64.wrap (r * 2) = s) (hsh : ∀ w, (Op.shift BinOp.shl IntKind.u8 3 IntKind.i64 s).run Yba.prog w = .ok (.int .u8 mk) w) :
    Calls Yba.prog 18 #[.pointer (some ⟨SB, 0, none⟩), .int .i64 p, .bool true] w fun e w' => e = .returned (.tuple #[]) ∧ w' = ((w.setCell ⟨SB, 9, none⟩ (.slice (some ⟨w.heap.size, 0, none⟩) n n)).alloc (.cells ((zrow n).setIfInBounds j (.int .u8 (bits BinOp.or IntKind.u8 0 mk))) 5)).drew := by
  have hi : (j : Int) < (n : Int) := by omega
  have hi0 : (0 : Int) ≤ (j : Int) := by omega
  have ho := or12
  have hmk : ∀ W : World, (Instr.makeSlice 25 (.int .i64 (n : Int)) (.int .i64 (n : Int))).run Yba.prog W = .ok (.slice (some ⟨W.heap.size, 0, none⟩) n n) (W.alloc (.cells (zrow n) 5)) := fun W => make25 W n (by omega)
  have hSB : SB < w.heap.size := World.block_lt_of_cell? _ _ h9
  have h9a : ∀ o, (w.alloc o).cell? ⟨SB, 9, none⟩ = some (.slice none 0 0) := fun o => Lib.cell?_alloc_some o h9
  have f9a : ∀ o, (w.alloc o).frozen? ⟨SB, 9, none⟩ = false := fun o => by rw [World.frozen?_alloc_old _ _ _ (by simp; omega)]; exact f9
  have h9b : ∀ o v, ((w.setCell ⟨SB, 9, none⟩ v).alloc o).cell? ⟨SB, 9, none⟩ = some v := fun o v => Lib.cell?_alloc_some o (World.cell?_setCell_same _ _ _ h9)
  have hz : (zrow n)[j]? = some (.int .u8 0) := by simp [zrow, hn]
  have hzs : j < (zrow n).size := by simp [zrow, hn]
  have hz2 : ∀ h : j < (zrow n).size, (zrow n)[j]'h = .int .u8 0 := fun h => by simp [zrow]
  go_enter Yba.func18, Yba.ntmps18
  go_wp2
  go_big_region
  all_goals go_wp2
  all_goals go_end0
  all_goals exact ⟨rfl, rfl⟩

set_option maxRecDepth 100000 in
set_option maxHeartbeats 400000 in
theorem decision_nil (w : World) (SB p : Nat) (h9 : w.cell? ⟨SB, 9, none⟩ = some (.slice none 0 0)) :
    Calls Yba.prog 10 #[.pointer (some ⟨SB, 0, none⟩), .int .i64 p] w fun e w' => e = .returned (.tuple #[.bool false, .bool false]) ∧ w' = w := by
  go_enter Yba.func10, Yba.ntmps10
  go_wp2
  go_ret2
  exact ⟨rfl, rfl⟩

set_option maxRecDepth 100000 in
set_option maxHeartbeats 400000 in
theorem decision_row (w : World) (SB AB p j n : Nat) (x r : Int) (hp : p ≤ 1024) (hr0 : 0 ≤ r) (hr3 : r ≤ 3) (hn : j < n) (hn2 : n ≤ 1000) (h9 : w.cell? ⟨SB, 9, none⟩ = some (.slice (some ⟨AB, 0, none⟩) n n)) (ha : w.cell? ⟨AB, j, none⟩ = some (.int .u8 x))
   (e3 : (p : Int) / 4 = j) (e4 : (p : Int) % 4 = r) :
    Calls Yba.prog 10 #[.pointer (some ⟨SB, 0, none⟩), .int .i64 p] w fun e w' => e = .returned (.tuple #[.bool (bits BinOp.and IntKind.u8 (x / 2 ^ (r * 2).toNat) 2 != 0), .bool (bits BinOp.and IntKind.u8 (x / 2 ^ (r * 2).toNat) 1 != 0)]) ∧ w' = w := by
  have hi : (j : Int) < (n : Int) := by omega
  have hi0 : (0 : Int) ≤ (j : Int) := by omega
  go_enter Yba.func10, Yba.ntmps10
  go_wp2
  go_ret2
  exact ⟨rfl, rfl⟩

/-- The bits that decide lays: three at each hit, two bits an offset. -/
def arow (n : Nat) (h : Nat → Bool) : Array Value := ((List.range n).map fun j => Value.int .u8 (byteOf h j)).toArray

def ArOk (w : World) (base n : Nat) (arith : Value) (h : Nat → Bool) : Prop :=
  (arith = .slice none 0 0 ∧ ∀ p, h p = false) ∨ ∃ AB, arith = .slice (some ⟨AB, 0, none⟩) n n ∧ base ≤ AB ∧ w.heap[AB]? = some (.cells (arow n h) 5 (0, 0))

theorem arow_get {n j : Nat} (h : Nat → Bool) (hj : j < n) : (arow n h)[j]? = some (.int .u8 (byteOf h j)) := by simp [arow, hj]

/-- h, and the hit at p. -/
def hitAt (h : Nat → Bool) (p : Nat) : Nat → Bool := fun k => if k = p then true else h k

theorem byteOf_other {h : Nat → Bool} {p j : Nat} (hj : ¬ p / 4 = j) : byteOf (hitAt h p) j = byteOf h j := by
  unfold byteOf hitAt
  rw [if_neg (by omega), if_neg (by omega), if_neg (by omega), if_neg (by omega)]

def mask (r : Nat) : Int := match r with | 0 => 3 | 1 => 12 | 2 => 48 | _ => 192

theorem or_all : ∀ (a b c d : Bool) (r : Fin 4), bits BinOp.or IntKind.u8 (cond a 3 0 + cond b 12 0 + cond c 48 0 + cond d 192 0) (mask r.val) =
    cond (if r.val = 0 then true else a) 3 0 + cond (if r.val = 1 then true else b) 12 0 + cond (if r.val = 2 then true else c) 48 0 + cond (if r.val = 3 then true else d) 192 0 := by decide +kernel

theorem byteOf_hit {h : Nat → Bool} {p : Nat} : bits BinOp.or IntKind.u8 (byteOf h (p / 4)) (mask (p % 4)) = byteOf (hitAt h p) (p / 4) := by
  have e := or_all (h (4 * (p / 4))) (h (4 * (p / 4) + 1)) (h (4 * (p / 4) + 2)) (h (4 * (p / 4) + 3)) ⟨p % 4, Nat.mod_lt _ (by omega)⟩
  unfold byteOf hitAt
  rw [e]
  have h0 : (p % 4 = 0) ↔ (4 * (p / 4) = p) := by omega
  have h1 : (p % 4 = 1) ↔ (4 * (p / 4) + 1 = p) := by omega
  have h2 : (p % 4 = 2) ↔ (4 * (p / 4) + 2 = p) := by omega
  have h3 : (p % 4 = 3) ↔ (4 * (p / 4) + 3 = p) := by omega
  simp only [h0, h1, h2, h3]

theorem and_all : ∀ (a b c d : Bool) (r : Fin 4), (bits BinOp.and IntKind.u8 ((cond a 3 0 + cond b 12 0 + cond c 48 0 + cond d 192 0) / 2 ^ (((r.val : Int)) * 2).toNat) 2 != 0) = (match r.val with | 0 => a | 1 => b | 2 => c | _ => d) ∧
    (bits BinOp.and IntKind.u8 ((cond a 3 0 + cond b 12 0 + cond c 48 0 + cond d 192 0) / 2 ^ (((r.val : Int)) * 2).toNat) 1 != 0) = (match r.val with | 0 => a | 1 => b | 2 => c | _ => d) := by decide +kernel

theorem byteOf_read (h : Nat → Bool) (p : Nat) : (bits BinOp.and IntKind.u8 (byteOf h (p / 4) / 2 ^ (((p % 4 : Nat) : Int) * 2).toNat) 2 != 0) = h p ∧ (bits BinOp.and IntKind.u8 (byteOf h (p / 4) / 2 ^ (((p % 4 : Nat) : Int) * 2).toNat) 1 != 0) = h p := by
  have e := and_all (h (4 * (p / 4))) (h (4 * (p / 4) + 1)) (h (4 * (p / 4) + 2)) (h (4 * (p / 4) + 3)) ⟨p % 4, Nat.mod_lt _ (by omega)⟩
  have hm : (match p % 4 with | 0 => h (4 * (p / 4)) | 1 => h (4 * (p / 4) + 1) | 2 => h (4 * (p / 4) + 2) | _ => h (4 * (p / 4) + 3)) = h p := by
    have : p % 4 = 0 ∨ p % 4 = 1 ∨ p % 4 = 2 ∨ p % 4 = 3 := by omega
    rcases this with h0 | h0 | h0 | h0 <;> simp only [h0] <;> congr 1 <;> omega
  unfold byteOf
  exact ⟨e.1.trans hm, e.2.trans hm⟩

end Go.Proofs.Ybulkabbe
