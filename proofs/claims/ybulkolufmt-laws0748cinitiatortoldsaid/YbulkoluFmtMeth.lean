/-
  SEAT b0748aF: which function a method call through an interface value comes to, by the program's tables: closed facts.
-/
import Derived.Test.YbulkoluFmtBase
import Derived.LaidEql
namespace Go.Proofs.YbulkoluFmt
open Go.RowKit

theorem meth57_Name (n : Nat) (p : Addr) (w : World) : (method (n + 1) 57 (.pointer (some p)) "Name").run Ybaf.prog w = .ok (41, .pointer (some p)) w := by kernel_rfl
theorem meth57_Send (p : Addr) (w : World) : (method 207 57 (.pointer (some p)) "Send").run Ybaf.prog w = .ok (44, .pointer (some p)) w := by kernel_rfl
theorem meth40_Start (p : Addr) (w : World) : (method 207 40 (.pointer (some p)) "Start").run Ybaf.prog w = .ok (36, .pointer (some p)) w := by kernel_rfl
theorem meth40_Term (p : Addr) (w : World) : (method 207 40 (.pointer (some p)) "Term").run Ybaf.prog w = .ok (37, .pointer (some p)) w := by kernel_rfl
theorem inf62 : (Ybaf.prog.info? 62).bind (fun i => i.methods.find? (·.name == "Name")) = some { name := "Name", sig := 69, path := #[⟨54, 0, true⟩], func := none } := by kernel_rfl
/-- '(*counting).Name', promoted from the embedded Env: the Env that the first cell holds is asked. -/
theorem meth62_Name (b o : Nat) (p : Addr) (w : World) (h : w.cell? ⟨b, o, none⟩ = some (.iface 57 (.pointer (some p)))) : (method 207 62 (.pointer (some ⟨b, o, none⟩)) "Name").run Ybaf.prog w = .ok (41, .pointer (some p)) w := by
  obtain ⟨i, hi, hm⟩ := Option.bind_eq_some_iff.1 inf62
  have h57 := meth57_Name 205 p w
  rw [method]
  simp [typeInfo, hi, hm, follow, Place.get, asAddr, fieldPlace, go_sem, h, h57, Addr.add]

/-- A *Diffusion as a carrier: 'send' and 'terminated' (their names as the interface's row has them). -/
theorem carrier_send {s1 s2 : String} {t1 t2 : TypeId} (h : Ybaf.prog.underlying 82 = some (.interface #[(s1, t1), (s2, t2)])) (p : Addr) (w : World) : (method 207 46 (.pointer (some p)) s1).run Ybaf.prog w = .ok (38, .pointer (some p)) w := by
  rw [Ybaf.underlying82] at h
  injection h with h
  injection h with h
  injection h with h
  injection h with h1 h2
  injection h1 with h3 h4
  subst h3
  kernel_rfl
theorem carrier_terminated {s1 s2 : String} {t1 t2 : TypeId} (h : Ybaf.prog.underlying 82 = some (.interface #[(s1, t1), (s2, t2)])) (p : Addr) (w : World) :
    (method 207 46 (.pointer (some p)) s2).run Ybaf.prog w = .ok (39, .pointer (some p)) w ∧ (nilAhead 207 46 (.pointer (some p)) s2).run Ybaf.prog w = .ok (some false) w := by
  rw [Ybaf.underlying82] at h
  injection h with h
  injection h with h
  injection h with h
  injection h with h1 h2
  injection h2 with h3 h4
  injection h3 with h5 h6
  subst h5
  exact ⟨by kernel_rfl, by kernel_rfl⟩

theorem comp62 : (Ybaf.prog.info? 62).map (·.comparable) = some true := by kernel_rfl
theorem size54 : (Ybaf.prog.info? 54).map (·.size) = some 2 := by kernel_rfl
/-- An Env that is a *counting is not unequal to itself. -/
theorem neq62 (a : Addr) (w : World) : (binOp .neq 42 (.iface 62 (.pointer (some a))) (.iface 62 (.pointer (some a)))).run Ybaf.prog w = .ok (.bool false) w := by
  obtain ⟨i, hi, hcmp⟩ := Option.map_eq_some_iff.1 comp62
  obtain ⟨j, hj, hjs⟩ := Option.map_eq_some_iff.1 size54
  simp only [binOp]
  simp [Op.equal, Op.maxDepth, run_equalIn_iface_ptr_same (P := Ybaf.prog) w 9998 a Ybaf.underlying42 Ybaf.underlying62 hi hcmp hj]
end Go.Proofs.YbulkoluFmt
