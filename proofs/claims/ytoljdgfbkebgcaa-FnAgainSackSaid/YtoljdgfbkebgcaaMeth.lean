/- SerializeTo called through the interface: which function, and what it is called on. (Printed by a program of this session.) -/
import Derived.Test.YtoljdgfbkebgcaaBase
namespace Go.Proofs.Ytoljdgfbkebgcaa
open Go.RowKit
theorem methSctp (a : Addr) (w : World) : (method 307 90 (.pointer (some a)) "SerializeTo").run Try.prog w = (do let v ← loadVar 95 a; pure (112, v) : Sem (FuncId × Value)).run Try.prog w := by kernel_rfl
theorem recvSctp (g : Nat) (w : World) (v0 v1 v2 v3 v4 v5 : Value) (k : Blk w g #[v0, v1, v2, v3, v4, v5] 95) :
    (method 307 90 (.pointer (some ⟨g, 0, none⟩)) "SerializeTo").run Try.prog w = .ok (112, .agg #[v0, v1, v2, v3, v4, v5]) w := by
  have c := k.cell
  rw [methSctp]
  simp [go_sem, c]
theorem methDat (a : Addr) (w : World) : (method 307 97 (.pointer (some a)) "SerializeTo").run Try.prog w = (do let v ← loadVar 103 a; pure (118, v) : Sem (FuncId × Value)).run Try.prog w := by kernel_rfl
theorem recvDat (g : Nat) (w : World) (v0 v1 v2 v3 v4 v5 v6 v7 v8 v9 v10 v11 v12 : Value) (k : Blk w g #[v0, v1, v2, v3, v4, v5, v6, v7, v8, v9, v10, v11, v12] 103) :
    (method 307 97 (.pointer (some ⟨g, 0, none⟩)) "SerializeTo").run Try.prog w = .ok (118, .agg #[v0, v1, v2, v3, v4, v5, v6, v7, v8, v9, v10, v11, v12]) w := by
  have c := k.cell
  rw [methDat]
  simp [go_sem, c]
theorem methIni (a : Addr) (w : World) : (method 307 105 (.pointer (some a)) "SerializeTo").run Try.prog w = (do let v ← loadVar 108 a; pure (120, v) : Sem (FuncId × Value)).run Try.prog w := by kernel_rfl
theorem recvIni (g : Nat) (w : World) (v0 v1 v2 v3 v4 v5 v6 v7 v8 v9 v10 v11 : Value) (k : Blk w g #[v0, v1, v2, v3, v4, v5, v6, v7, v8, v9, v10, v11] 108) :
    (method 307 105 (.pointer (some ⟨g, 0, none⟩)) "SerializeTo").run Try.prog w = .ok (120, .agg #[v0, v1, v2, v3, v4, v5, v6, v7, v8, v9, v10, v11]) w := by
  have c := k.cell
  rw [methIni]
  simp [go_sem, c]
theorem methSac (a : Addr) (w : World) : (method 307 115 (.pointer (some a)) "SerializeTo").run Try.prog w = (do let v ← loadVar 119 a; pure (123, v) : Sem (FuncId × Value)).run Try.prog w := by kernel_rfl
theorem recvSac (g : Nat) (w : World) (v0 v1 v2 v3 v4 v5 v6 v7 v8 v9 v10 v11 : Value) (k : Blk w g #[v0, v1, v2, v3, v4, v5, v6, v7, v8, v9, v10, v11] 119) :
    (method 307 115 (.pointer (some ⟨g, 0, none⟩)) "SerializeTo").run Try.prog w = .ok (123, .agg #[v0, v1, v2, v3, v4, v5, v6, v7, v8, v9, v10, v11]) w := by
  have c := k.cell
  rw [methSac]
  simp [go_sem, c]
theorem methHea (a : Addr) (w : World) : (method 307 120 (.pointer (some a)) "SerializeTo").run Try.prog w = (do let v ← loadVar 123 a; pure (125, v) : Sem (FuncId × Value)).run Try.prog w := by kernel_rfl
theorem recvHea (g : Nat) (w : World) (v0 v1 v2 v3 v4 v5 v6 : Value) (k : Blk w g #[v0, v1, v2, v3, v4, v5, v6] 123) :
    (method 307 120 (.pointer (some ⟨g, 0, none⟩)) "SerializeTo").run Try.prog w = .ok (125, .agg #[v0, v1, v2, v3, v4, v5, v6]) w := by
  have c := k.cell
  rw [methHea]
  simp [go_sem, c]
theorem methErr (a : Addr) (w : World) : (method 307 125 (.pointer (some a)) "SerializeTo").run Try.prog w = (do let v ← loadVar 128 a; pure (127, v) : Sem (FuncId × Value)).run Try.prog w := by kernel_rfl
theorem recvErr (g : Nat) (w : World) (v0 v1 v2 v3 v4 v5 v6 : Value) (k : Blk w g #[v0, v1, v2, v3, v4, v5, v6] 128) :
    (method 307 125 (.pointer (some ⟨g, 0, none⟩)) "SerializeTo").run Try.prog w = .ok (127, .agg #[v0, v1, v2, v3, v4, v5, v6]) w := by
  have c := k.cell
  rw [methErr]
  simp [go_sem, c]
theorem methShu (a : Addr) (w : World) : (method 307 130 (.pointer (some a)) "SerializeTo").run Try.prog w = (do let v ← loadVar 132 a; pure (129, v) : Sem (FuncId × Value)).run Try.prog w := by kernel_rfl
theorem recvShu (g : Nat) (w : World) (v0 v1 v2 v3 v4 v5 v6 : Value) (k : Blk w g #[v0, v1, v2, v3, v4, v5, v6] 132) :
    (method 307 130 (.pointer (some ⟨g, 0, none⟩)) "SerializeTo").run Try.prog w = .ok (129, .agg #[v0, v1, v2, v3, v4, v5, v6]) w := by
  have c := k.cell
  rw [methShu]
  simp [go_sem, c]
theorem methAck (a : Addr) (w : World) : (method 307 133 (.pointer (some a)) "SerializeTo").run Try.prog w = (do let v ← loadVar 135 a; pure (131, v) : Sem (FuncId × Value)).run Try.prog w := by kernel_rfl
theorem recvAck (g : Nat) (w : World) (v0 v1 v2 v3 v4 v5 : Value) (k : Blk w g #[v0, v1, v2, v3, v4, v5] 135) :
    (method 307 133 (.pointer (some ⟨g, 0, none⟩)) "SerializeTo").run Try.prog w = .ok (131, .agg #[v0, v1, v2, v3, v4, v5]) w := by
  have c := k.cell
  rw [methAck]
  simp [go_sem, c]
theorem methCoo (a : Addr) (w : World) : (method 307 136 (.pointer (some a)) "SerializeTo").run Try.prog w = (do let v ← loadVar 138 a; pure (133, v) : Sem (FuncId × Value)).run Try.prog w := by kernel_rfl
theorem recvCoo (g : Nat) (w : World) (v0 v1 v2 v3 v4 v5 v6 : Value) (k : Blk w g #[v0, v1, v2, v3, v4, v5, v6] 138) :
    (method 307 136 (.pointer (some ⟨g, 0, none⟩)) "SerializeTo").run Try.prog w = .ok (133, .agg #[v0, v1, v2, v3, v4, v5, v6]) w := by
  have c := k.cell
  rw [methCoo]
  simp [go_sem, c]
theorem methEmp (a : Addr) (w : World) : (method 307 139 (.pointer (some a)) "SerializeTo").run Try.prog w = (do let v ← loadVar 140 a; pure (135, v) : Sem (FuncId × Value)).run Try.prog w := by kernel_rfl
theorem recvEmp (g : Nat) (w : World) (v0 v1 v2 v3 v4 v5 : Value) (k : Blk w g #[v0, v1, v2, v3, v4, v5] 140) :
    (method 307 139 (.pointer (some ⟨g, 0, none⟩)) "SerializeTo").run Try.prog w = .ok (135, .agg #[v0, v1, v2, v3, v4, v5]) w := by
  have c := k.cell
  rw [methEmp]
  simp [go_sem, c]
end Go.Proofs.Ytoljdgfbkebgcaa
