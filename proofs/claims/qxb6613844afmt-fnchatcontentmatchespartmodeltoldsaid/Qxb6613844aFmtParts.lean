/- chat.TextPart, chat.ImagePart, and zzlaws' textPartIs, imagePartIs. -/
import Derived.Test.Qxb6613844aFmtBase
import Derived.LaidEqlPtr
import Derived.Laws.ResultCell
namespace Go.Proofs.Qxb6613844aFmt
open Go.RowKit

def sText : ByteArray := ⟨#[116, 101, 120, 116]⟩
def sImg : ByteArray := ⟨#[105, 109, 97, 103, 101, 95, 117, 114, 108]⟩

theorem text_any (t : ByteArray) (w : World) : Calls Tryf.prog 23 #[.string t] w fun e w' => e = .returned (.agg #[.string ⟨#[116, 101, 120, 116]⟩, .pointer (some ⟨w.heap.size, 0, none⟩), .pointer none, .pointer none]) ∧ ∃ cs, w' = (w.alloc (.cells #[.string t] 9)).alloc (.cells cs 51) := by
  go_enter Tryf.func23, Tryf.ntmps23
  go_wp2
  exact bodyPost_ret (v := .agg #[.string ⟨#[116, 101, 120, 116]⟩, .pointer (some ⟨w.heap.size, 0, none⟩), .pointer none, .pointer none]) (by simp [results, Tryf.results23, go_sem]) rfl ⟨rfl, _, rfl⟩

theorem image_any (u d : ByteArray) (w : World) : Calls Tryf.prog 26 #[.string u, .string d] w fun e w' => e = .returned (.agg #[.string ⟨#[105, 109, 97, 103, 101, 95, 117, 114, 108]⟩, .pointer none, .pointer (some ⟨w.heap.size + 1, 0, none⟩), .pointer none]) ∧ ∃ cs, w' = (w.alloc (.cells cs 51)).alloc (.cells #[.string u, .string d] 65) := by
  go_enter Tryf.func26, Tryf.ntmps26
  go_wp2
  exact bodyPost_ret (v := .agg #[.string ⟨#[105, 109, 97, 103, 101, 95, 117, 114, 108]⟩, .pointer none, .pointer (some ⟨w.heap.size + 1, 0, none⟩), .pointer none]) (by simp [results, Tryf.results26, go_sem]) rfl ⟨rfl, _, rfl⟩

theorem eqlBp (bp : Option Addr) (w : World) : (binOp .eql 49 (.pointer bp) (.pointer bp)).run Tryf.prog w = .ok (.bool true) w := by
  have hsz : (Tryf.prog.info? 62).map (·.size) = some 1 := by kernel_rfl
  obtain ⟨j, hj, hjs⟩ := Option.map_eq_some_iff.1 hsz
  cases bp with
  | none =>
    have h : ∀ d : Nat, (Op.equalIn (d + 1) 49 (.pointer none) (.pointer none)).run Tryf.prog w = .ok true w := fun d => by
      simp [Op.equalIn, run_underlying Tryf.underlying49]
    simp only [binOp]
    simp [Op.equal, Op.maxDepth, h 9999]
  | some a => exact run_eql_ptr_same w a Tryf.underlying49 hj

theorem textIs (tx : ByteArray) (tb : Nat) (bp : Option Addr) (w : World) (hc : w.cell? ⟨tb, 0, none⟩ = some (.string tx)) (hb : tb < w.heap.size) :
    Calls Tryf.prog 16 #[.agg #[.string ⟨#[116, 101, 120, 116]⟩, .pointer (some ⟨tb, 0, none⟩), .pointer none, .pointer bp], .string tx, .pointer bp] w fun e w' => e = .returned (.bool true) ∧ ∃ cs, w' = w.alloc (.cells cs 51) := by
  have he := eqlBp bp
  go_enter Tryf.func16, Tryf.ntmps16
  go_wp2
  go_ret
  exact ⟨rfl, _, rfl⟩

theorem imageIs (u d : ByteArray) (ub : Nat) (bp : Option Addr) (w : World) (hc : w.cell? ⟨ub, 0, none⟩ = some (.string u)) (hd : w.cell? ⟨ub, 1, none⟩ = some (.string d)) (hb : ub < w.heap.size) :
    Calls Tryf.prog 14 #[.agg #[.string ⟨#[105, 109, 97, 103, 101, 95, 117, 114, 108]⟩, .pointer none, .pointer (some ⟨ub, 0, none⟩), .pointer bp], .string u, .string d, .pointer bp] w fun e w' => e = .returned (.bool true) ∧ ∃ cs, w' = w.alloc (.cells cs 51) := by
  have he := eqlBp bp
  go_enter Tryf.func14, Tryf.ntmps14
  go_wp2
  go_ret
  exact ⟨rfl, _, rfl⟩
end Go.Proofs.Qxb6613844aFmt
