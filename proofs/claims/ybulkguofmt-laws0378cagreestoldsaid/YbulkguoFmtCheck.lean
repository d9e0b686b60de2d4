import Derived.Test.YbulkguoFmtLit
import Derived.Test.YbulkguoFmtIs
namespace Go.Proofs.YbulkguoFmt
open Go.RowKit Go.Extern.Stop Go.Stop Go.Extern
set_option linter.unusedVariables false

theorem ret_bool {a : Bool} (h : a = true) : Ending.returned (.bool a) = .returned (.bool true) := by rw [h]

set_option maxHeartbeats 1000000 in
theorem check_ok (a : Option Addr) (len cap : Nat) (zs : List Int) (z got : Int) (i : Nat) (p : ByteArray) (w : World) (hD : Dat w a len cap zs) (hz : z = (i : Int)) (hi : i ≤ 1100) (hp : p.size ≤ 1100) (hA : Agree zs len i p p.size) (hgot : got = (i : Int) + (p.size : Int)) :
    Calls Ybaf.prog 6 #[.slice a len cap, .int .i64 z, .string p, .int .i64 got, .nilIface] w fun e w' => e = .returned (.bool true) ∧ w' = w := by
  subst hz
  subst hgot
  have hsh := hD.short
  go_enter Ybaf.func6, Ybaf.ntmps6
  go_wp2_with fail
  refine (first_any a len cap zs _ i p _ hD rfl hi hp).mono ?_
  rintro e w' ⟨(⟨rfl, h⟩ | ⟨j, rfl, h1, h2, _⟩), rfl⟩
  · go_wp2
    go_ret
    exact ⟨rfl, rfl⟩
  · exact absurd (hA j h1 h1) h2

set_option maxHeartbeats 1000000 in
theorem check_eof (a : Option Addr) (len cap : Nat) (zs : List Int) (z : Int) (i : Nat) (p : ByteArray) (j g : Nat) (b : Addr) (w : World) (hD : Dat w a len cap zs) (hz : z = (i : Int)) (hi : i ≤ 1100) (hp : p.size ≤ 1100) (hP : Parts zs len i p j) (hle : len ≤ i + j)
    (hg : w.cell? ⟨0, 0, none⟩ = some (.iface 57 (.pointer (some b)))) (hc : w.cell? ⟨g, 0 + 1, none⟩ = some (.iface 57 (.pointer (some b)))) :
    Calls Ybaf.prog 6 #[.slice a len cap, .int .i64 z, .string p, .int .i64 0, .iface 45 (.pointer (some ⟨g, 0, none⟩))] w fun e w' => e = .returned (.bool true) ∧ w' = w := by
  subst hz
  have hsh := hD.short
  have HC : Hid (w.cell? ⟨g, 0 + 1, none⟩ = some (.iface 57 (.pointer (some b)))) := hc
  clear hc
  go_enter Ybaf.func6, Ybaf.ntmps6
  go_wp2_with fail
  refine (first_any a len cap zs _ i p _ hD rfl hi hp).mono ?_
  rintro e w' ⟨(⟨rfl, h⟩ | ⟨j', rfl, hP'⟩), rfl⟩
  · obtain ⟨h1, h2, _⟩ := hP
    exact absurd (h j h1 h1) h2
  · have hj : j' < p.size := hP'.1
    have HJ : Hid (j = j') := hP.unique hP'
    have hle' : len ≤ i + j' := by rw [← HJ.out]; exact hle
    clear hle
    go_wp2_with fail
    refine (is_wrap_same g 0 b _ HC.out).mono ?_
    rintro e w' ⟨rfl, rfl⟩
    go_wp2
    go_ret
    exact ⟨ret_bool (decide_eq_true (by omega)), rfl⟩

set_option maxHeartbeats 1000000 in
theorem check_bad (a : Option Addr) (len cap : Nat) (zs : List Int) (z : Int) (i : Nat) (p : ByteArray) (j g : Nat) (b : Addr) (w : World) (hD : Dat w a len cap zs) (hz : z = (i : Int)) (hi : i ≤ 1100) (hp : p.size ≤ 1100) (hP : Parts zs len i p j) (hlt : i + j < len)
    (hg : w.cell? ⟨0, 0, none⟩ = some (.iface 57 (.pointer (some b)))) (hc : ∃ cs, w.heap[g]? = some (.cells cs 59 (0, 0))) (hb : ∃ cb tb, w.heap[b.block]? = some (.cells cb tb (0, 0))) (hne : b.block < g) :
    Calls Ybaf.prog 6 #[.slice a len cap, .int .i64 z, .string p, .int .i64 0, .iface 57 (.pointer (some ⟨g, 0, none⟩))] w fun e w' => e = .returned (.bool true) ∧ w' = w := by
  subst hz
  have hsh := hD.short
  obtain ⟨cs, hcs⟩ := hc
  obtain ⟨cb, tb, hcb⟩ := hb
  have HC : Hid (w.heap[g]? = some (.cells cs 59 (0, 0))) := hcs
  have HB : Hid (w.heap[b.block]? = some (.cells cb tb (0, 0))) := hcb
  clear hcs hcb
  go_enter Ybaf.func6, Ybaf.ntmps6
  go_wp2_with fail
  refine (first_any a len cap zs _ i p _ hD rfl hi hp).mono ?_
  rintro e w' ⟨(⟨rfl, h⟩ | ⟨j', rfl, hP'⟩), rfl⟩
  · obtain ⟨h1, h2, _⟩ := hP
    exact absurd (h j h1 h1) h2
  · have hj : j' < p.size := hP'.1
    have HJ : Hid (j = j') := hP.unique hP'
    have hlt' : i + j' < len := by rw [← HJ.out]; exact hlt
    clear hlt
    go_wp2_with fail
    refine (is_other ⟨g, 0, none⟩ b cs cb 59 tb _ (fun h => by rw [← h] at hne; exact Nat.lt_irrefl _ hne) HC.out HB.out).mono ?_
    rintro e w' ⟨rfl, rfl⟩
    go_wp2
    go_ret
    exact ⟨ret_bool (by rw [Bool.not_eq_true']; exact decide_eq_false (by omega)), rfl⟩

/-- what the walks are told of the sentinel -/
structure Sent (w : World) (b : Addr) (s : ByteArray) : Prop where
  var : w.cell? ⟨0, 0, none⟩ = some (.iface 57 (.pointer (some b)))
  text : w.cell? b = some (.string s)
  row : ∃ cb tb, w.heap[b.block]? = some (.cells cb tb (0, 0))

theorem Sent.below {w w' : World} {b : Addr} {s : ByteArray} (h : Sent w b s) (hb : Below w.heap.size w w') : Sent w' b s := by
  have hlt := World.block_lt_of_cell? _ _ h.text
  obtain ⟨cb, tb, hr⟩ := h.row
  exact ⟨cell_later hb h.var, cell_later hb h.text, cb, tb, (hb.block b.block hlt).trans hr⟩

/-- 'check' behind 'literal': true on each of literal's ways -/
theorem check_after (a : Option Addr) (len cap : Nat) (zs : List Int) (z : Int) (i : Nat) (p : ByteArray) (b : Addr) (s : ByteArray) (w w' : World) (hD : Dat w a len cap zs) (hS : Sent w b s) (hz : z = (i : Int)) (hi : i ≤ 1100) (hp : p.size ≤ 1100) (e : Ending)
    (he : LitEnd zs len i p b w e w') : ∃ got err, e = .returned (.tuple #[.int .i64 got, err]) ∧ Below w.heap.size w w' ∧
      Calls Ybaf.prog 6 #[.slice a len cap, .int .i64 z, .string p, .int .i64 got, err] w' fun e2 w2 => e2 = .returned (.bool true) ∧ w2 = w' := by
  obtain ⟨hcase, hb⟩ := he
  have hD' := hD.below hb
  have hS' := hS.below hb
  rcases hcase with ⟨rfl, hA⟩ | ⟨j, g, rfl, hP, hle, hc⟩ | ⟨j, g, rfl, hP, hlt, hc, hgs⟩
  · exact ⟨_, _, rfl, hb, check_ok a len cap zs z _ i p w' hD' hz hi hp hA rfl⟩
  · exact ⟨_, _, rfl, hb, check_eof a len cap zs z i p j g b w' hD' hz hi hp hP hle hS'.var hc⟩
  · exact ⟨_, _, rfl, hb, check_bad a len cap zs z i p j g b w' hD' hz hi hp hP hlt hS'.var hc hS'.row (Nat.lt_of_lt_of_le (World.block_lt_of_cell? _ _ hS.text) hgs)⟩

/-- 'literal' with what 'check' then answers -/
theorem lit_check (F : Interp) (a : Option Addr) (len cap : Nat) (zs : List Int) (c : Bool) (z : Int) (i : Nat) (p : ByteArray) (b : Addr) (s : ByteArray) (w : World) (hF : F.answers w.tape) (hD : Dat w a len cap zs) (hS : Sent w b s) (hz : z = (i : Int)) (hi : i ≤ 1100) (hp : p.size ≤ 1100) :
    Calls Ybaf.prog 5 #[.agg #[.slice a len cap, .bool c], .int .i64 z, .string p] w fun e w' => ∃ got err, e = .returned (.tuple #[.int .i64 got, err]) ∧ Below w.heap.size w w' ∧
      Hid (Calls Ybaf.prog 6 #[.slice a len cap, .int .i64 z, .string p, .int .i64 got, err] w' fun e2 w2 => e2 = .returned (.bool true) ∧ w2 = w') :=
  (lit_any F a len cap zs c z i p b s w hF hD hz hi hp hS.var hS.text).mono fun e w' he => check_after a len cap zs z i p b s w w' hD hS hz hi hp e he
end Go.Proofs.YbulkguoFmt
