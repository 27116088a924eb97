import Derived.Test.YbulkaiieMem
import Derived.WalkSpells
namespace Go.Proofs.Ybulkaiie
open Go.RowKit
theorem mPush (w : World) (a : Addr) : (method 229 68 (.pointer (some a)) "Push").run Yba.prog w = .ok (64, .pointer (some a)) w := by kernel_rfl
theorem mTab : (Yba.t68.methods.find? (·.name == "Less")).map (fun m => (m.path.toList, m.func)) = some ([], some (62, false)) := by kernel_rfl
theorem mTabLen : (Yba.t68.methods.find? (·.name == "Len")).map (fun m => (m.path.toList, m.func)) = some ([], some (61, false)) := by kernel_rfl
theorem mTabSwap : (Yba.t68.methods.find? (·.name == "Swap")).map (fun m => (m.path.toList, m.func)) = some ([], some (63, false)) := by kernel_rfl

theorem wrapNil {P : Program} (w : World) (t : TypeId) (a : Addr) (x y : ByteArray) : (Builtin.ssaWrapNilChk_ #[t] t #[.pointer (some a), .string x, .string y]).run P w = .ok (.pointer (some a)) w := by
  rfl

theorem recvVal (w : World) (a : Addr) (v : Value) (name : String) (hl : (loadVar 50 a).run Yba.prog w = .ok v w) : (receiverAt 68 (.val (.pointer (some a))) false (some name)).run Yba.prog w = .ok v w := by
  unfold receiverAt
  simp only [Sem.run_bind, run_underlying Yba.underlying68, Result.andThen_ok, Place.get, Sem.run_pure]
  simp only [strVal, wrapNil, Result.andThen_ok, asAddr, Sem.run_pure, hl]

theorem mVal (w : World) (a : Addr) (v : Value) (name : String) (f : FuncId) (hT : (Yba.t68.methods.find? (·.name == name)).map (fun m => (m.path.toList, m.func)) = some ([], some (f, false)))
    (hl : (loadVar 50 a).run Yba.prog w = .ok v w) : (method 229 68 (.pointer (some a)) name).run Yba.prog w = .ok (f, v) w := by
  obtain ⟨m, hm, he⟩ := Option.map_eq_some_iff.1 hT
  simp only [Prod.mk.injEq] at he
  have hp : m.path.isEmpty = true := by
    have := he.1
    simpa using this
  unfold method
  simp only [Sem.run_bind, Yba.typeInfo68, Result.andThen_ok, hm, he.1, he.2, follow, Sem.run_pure, hp, if_true]
  rw [recvVal w a v _ hl]
  rfl
theorem mLess (w : World) (a : Addr) (v : Value) (hl : (loadVar 50 a).run Yba.prog w = .ok v w) : (method 229 68 (.pointer (some a)) "Less").run Yba.prog w = .ok (62, v) w := mVal w a v "Less" 62 mTab hl
theorem mLen (w : World) (a : Addr) (v : Value) (hl : (loadVar 50 a).run Yba.prog w = .ok v w) : (method 229 68 (.pointer (some a)) "Len").run Yba.prog w = .ok (61, v) w := mVal w a v "Len" 61 mTabLen hl
theorem mSwap (w : World) (a : Addr) (v : Value) (hl : (loadVar 50 a).run Yba.prog w = .ok v w) : (method 229 68 (.pointer (some a)) "Swap").run Yba.prog w = .ok (63, v) w := mVal w a v "Swap" 63 mTabSwap hl
end Go.Proofs.Ybulkaiie
