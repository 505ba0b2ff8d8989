/- The walks of the reference's reader of AMQP over numbers: constructors, values. No condition. -/
import Derived.Test.YtckjclkpgdhcoaaDoorAmp
namespace Go.Proofs.YtckjclkpgdhcoaaDoor
set_option linter.unusedVariables false
set_option linter.unusedSimpArgs false
open Go.RowKit

/-- A Value without a descriptor: as it is handed on, and its cells. -/
def av (kind num : Int) (text : ByteArray) (kids : Value) : Value := .agg #[.int .i64 kind, .int .u64 num, .string text, kids, .int .i64 0, .slice none 0 0]
def avo (kind num : Int) (text : ByteArray) (kids : Value) (of : Int) : Value := .agg #[.int .i64 kind, .int .u64 num, .string text, kids, .int .i64 of, .slice none 0 0]
def avoc (kind num : Int) (text : ByteArray) (kids : Value) (of : Int) : List Value := [.int .i64 kind, .int .u64 num, .string text, kids, .int .i64 of, .slice none 0 0]
def avc (kind num : Int) (text : ByteArray) (kids : Value) : List Value := [.int .i64 kind, .int .u64 num, .string text, kids, .int .i64 0, .slice none 0 0]
abbrev AZL : List Value := avc 0 0 ⟨#[]⟩ (.slice none 0 0)
abbrev AZ : Obj := .cells #[.int .i64 0, .int .u64 0, .string ⟨#[]⟩, .slice none 0 0, .int .i64 0, .slice none 0 0] 30
def cons (code : Int) : Value := .agg #[.slice none 0 0, .int .i64 code]
theorem size_av : (Tryd.prog.info? 30).map (·.size) = some 6 := by kernel_rfl
theorem size_cons : (Tryd.prog.info? 78).map (·.size) = some 2 := by kernel_rfl
theorem size_n (t : Nat) (h : t = 27 ∨ t = 3) : (Tryd.prog.info? t).map (·.size) = some 1 := by rcases h with rfl | rfl <;> kernel_rfl
theorem size_u64 : (Tryd.prog.info? 27).map (·.size) = some 1 := by kernel_rfl
theorem size_str : (Tryd.prog.info? 9).map (·.size) = some 1 := by kernel_rfl
theorem av_cells {w : World} {g : Nat} {k n : Int} {s : ByteArray} {d : Value} (h : Row w g 30 (avc k n s d)) :
    w.cell? ⟨g, 0, none⟩ = some (.int .i64 k) ∧ w.cell? ⟨g, 1, none⟩ = some (.int .u64 n) ∧ w.cell? ⟨g, 2, none⟩ = some (.string s) ∧ w.cell? ⟨g, 3, none⟩ = some d ∧ w.cell? ⟨g, 4, none⟩ = some (.int .i64 0) ∧ w.cell? ⟨g, 5, none⟩ = some (.slice none 0 0) :=
  ⟨h.cell 0 _ rfl, h.cell 1 _ rfl, h.cell 2 _ rfl, h.cell 3 _ rfl, h.cell 4 _ rfl, h.cell 5 _ rfl⟩
theorem avo_cells {w : World} {g : Nat} {k n of : Int} {s : ByteArray} {d : Value} (h : Row w g 30 (avoc k n s d of)) :
    w.cell? ⟨g, 0, none⟩ = some (.int .i64 k) ∧ w.cell? ⟨g, 1, none⟩ = some (.int .u64 n) ∧ w.cell? ⟨g, 2, none⟩ = some (.string s) ∧ w.cell? ⟨g, 3, none⟩ = some d ∧ w.cell? ⟨g, 4, none⟩ = some (.int .i64 of) ∧ w.cell? ⟨g, 5, none⟩ = some (.slice none 0 0) :=
  ⟨h.cell 0 _ rfl, h.cell 1 _ rfl, h.cell 2 _ rfl, h.cell 3 _ rfl, h.cell 4 _ rfl, h.cell 5 _ rfl⟩
/-- A value was read from the first n bytes of l. -/
def AOk (w : World) (A : Option Addr) (l : List Int) (n c : Nat) (v : Value) (e : Ending) (w' : World) : Prop :=
  Ch No w w' ∧ ∃ A', e = .returned (.tuple #[v, .slice A' (l.length - n) (c - n), .bool true]) ∧ Cut A l.length c n l.length A'
set_option maxRecDepth 100000 in
set_option maxHeartbeats 1000000 in
theorem takeCons (bk off c : Nat) (b : Int) (r : List Int) (lv : Int) (w : World) (hr : Rd u8 w (some ⟨bk, off, none⟩) (b :: r)) (h0 : 0 < b) (h1 : b < 256) (hc : r.length + 1 ≤ c) (hlv : 0 < lv) :
    Calls Tryd.prog 33 #[.slice (some ⟨bk, off, none⟩) (r.length + 1) c, .int .i64 lv] w (AOk w (some ⟨bk, off, none⟩) (b :: r) 1 c (cons b)) := by
  have hcell : w.cell? ⟨bk, off, none⟩ = some (.int .u8 b) := by
    obtain ⟨b', o', he, hc'⟩ := hr.at_ 0 (by simp)
    injection he with he
    injection he with he1 he2
    subst he1; subst he2
    exact hc'
  obtain ⟨A', hk2, hk3, hcut⟩ := Cut.ahead_l 23 5 Tryd.underlying23 size_u8 (some ⟨bk, off, none⟩) (r.length + 1) c 1 1 rfl .i64 (by omega)
  simp only [Nat.add_sub_cancel] at hk2 hk3
  have hlv0 : decide (lv ≤ 0) = false := decide_eq_false (by omega)
  have hcell2 : (w.alloc (.cells #[.slice none 0 0, .int .i64 0] 78)).cell? ⟨bk, off, none⟩ = some (.int .u8 b) := ((Ch.refl No w).alloc _).cell0 hcell
  have hb0 : (b == 0) = false := by simp; omega
  have hR0 := Row.alloc w [.slice none 0 0, .int .i64 0] 78
  go_enter Tryd.func33, Tryd.ntmps33
  go_wp2_with fail
  go_region
  all_goals
    go_wp2
    have hrow := Row.alloc w [.slice none 0 0, .int .i64 b] 78
    have c0 : (w.alloc (.cells #[.slice none 0 0, .int .i64 b] 78)).cell? ⟨w.heap.size, 0, none⟩ = some (.slice none 0 0) := hrow.cell 0 _ rfl
    have c1 : (w.alloc (.cells #[.slice none 0 0, .int .i64 b] 78)).cell? ⟨w.heap.size, 1, none⟩ = some (.int .i64 b) := hrow.cell 1 _ rfl
    refine bodyPost_ret (v := .tuple #[cons b, .slice A' r.length (c - 1), .bool true]) ?_ rfl ?_
    · simp [results, Tryd.results33, go_sem, cons, c0, c1]
    exact ⟨((Ch.refl No w).alloc _).drew, A', by simp, hcut⟩
end Go.Proofs.YtckjclkpgdhcoaaDoor
