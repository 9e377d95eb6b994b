/- What IsLoadingError says of each error. (seat r3.Z; printed by gen_er3.py) What IsReadOnlyError says of each error. (seat r3.Z; printed by gen_er3.py) What IsMovedError says of each error. (seat r3.Z; printed by gen_er3.py) What IsAskError says of each error. (seat r3.Z; printed by gen_er3.py) What IsClusterDownError says of each error. (seat r3.Z; printed by gen_er3.py) -/
import Derived.Test.YtkogipaaioibaaaGreatEa
namespace Go.Proofs.YtkogipaaioibaaaGreat
set_option linter.unusedVariables false
set_option linter.unusedSimpArgs false
open Go.RowKit Go.Proofs.YtkogipaaioibaaaGreatW.PrintWords
set_option maxHeartbeats 1000000 in
set_option maxRecDepth 100000 in
theorem isLoading_own (g : Nat) (w : World) : Calls Tryz.prog 16 #[.iface 53 (.pointer (some ⟨g, 0, none⟩))] w fun e w' => e = .returned (.bool true) ∧ Drawn0 w w' := by
  have t1 : ∀ w, (Instr.typeAssert (.iface 53 (.pointer (some ⟨g, 0, none⟩))) 33 53 true).run Tryz.prog w = .ok (.tuple #[.pointer (some ⟨g, 0, none⟩), .bool true]) w := fun _ => by kernel_rfl
  go_enter Tryz.func16, Tryz.ntmps16
  go_wp2_with fail
  go_ret
  exact ⟨rfl, Drawn0.refl _⟩
set_option maxHeartbeats 1000000 in
set_option maxRecDepth 100000 in
theorem isLoading_ReadOnly (m : ByteArray) (g : Nat) (w : World) (hb : w.heap[g]? = some (.cells #[.string m] 115 (0, 0))) (hz : m.size ≤ 1000) (hn : NoX m 0) : Calls Tryz.prog 16 #[.iface 57 (.pointer (some ⟨g, 0, none⟩))] w fun e w' => e = .returned (.bool false) ∧ Drawn0 w w' := by
  have HE := Lib.hid (err_ReadOnly m g w hb)
  have HP := Lib.hid (fun w => hp_no m _ (show ¬ At (pre 0) m 0 from hn) w)
  have t1 : ∀ w, (Instr.typeAssert (.iface 57 (.pointer (some ⟨g, 0, none⟩))) 33 53 true).run Tryz.prog w = .ok (.tuple #[.pointer none, .bool false]) w := fun _ => by kernel_rfl
  have t2 : ∀ w, (Instr.typeAssert (.iface 57 (.pointer (some ⟨g, 0, none⟩))) 33 55 true).run Tryz.prog w = .ok (.tuple #[.string ⟨#[]⟩, .bool false]) w := fun _ => by kernel_rfl
  have hm := meth_ReadOnly
  have ha := ahead_ReadOnly
  clear hb hn
  go_enter Tryz.func16, Tryz.ntmps16
  go_wp2_with fail
  refine HE.out.mono ?_
  rintro e w0 ⟨rfl, rfl⟩
  go_wp2_with fail
  refine (HP.out _).mono ?_
  rintro e w1 ⟨rfl, ⟨nd1, rfl⟩⟩
  go_wp2_with fail
  go_ret
  exact ⟨rfl, ⟨_, rfl⟩⟩
set_option maxHeartbeats 1000000 in
set_option maxRecDepth 100000 in
theorem isLoading_Moved (m a : ByteArray) (g : Nat) (w : World) (hb : w.heap[g]? = some (.cells #[.string m, .string a] 61 (0, 0))) (hz : m.size ≤ 1000) (hn : NoX m 0) : Calls Tryz.prog 16 #[.iface 38 (.pointer (some ⟨g, 0, none⟩))] w fun e w' => e = .returned (.bool false) ∧ Drawn0 w w' := by
  have HE := Lib.hid (err_Moved m a g w hb)
  have HP := Lib.hid (fun w => hp_no m _ (show ¬ At (pre 0) m 0 from hn) w)
  have t1 : ∀ w, (Instr.typeAssert (.iface 38 (.pointer (some ⟨g, 0, none⟩))) 33 53 true).run Tryz.prog w = .ok (.tuple #[.pointer none, .bool false]) w := fun _ => by kernel_rfl
  have t2 : ∀ w, (Instr.typeAssert (.iface 38 (.pointer (some ⟨g, 0, none⟩))) 33 55 true).run Tryz.prog w = .ok (.tuple #[.string ⟨#[]⟩, .bool false]) w := fun _ => by kernel_rfl
  have hm := meth_Moved
  have ha := ahead_Moved
  clear hb hn
  go_enter Tryz.func16, Tryz.ntmps16
  go_wp2_with fail
  refine HE.out.mono ?_
  rintro e w0 ⟨rfl, rfl⟩
  go_wp2_with fail
  refine (HP.out _).mono ?_
  rintro e w1 ⟨rfl, ⟨nd1, rfl⟩⟩
  go_wp2_with fail
  go_ret
  exact ⟨rfl, ⟨_, rfl⟩⟩
set_option maxHeartbeats 1000000 in
set_option maxRecDepth 100000 in
theorem isLoading_Ask (m a : ByteArray) (g : Nat) (w : World) (hb : w.heap[g]? = some (.cells #[.string m, .string a] 62 (0, 0))) (hz : m.size ≤ 1000) (hn : NoX m 0) : Calls Tryz.prog 16 #[.iface 42 (.pointer (some ⟨g, 0, none⟩))] w fun e w' => e = .returned (.bool false) ∧ Drawn0 w w' := by
  have HE := Lib.hid (err_Ask m a g w hb)
  have HP := Lib.hid (fun w => hp_no m _ (show ¬ At (pre 0) m 0 from hn) w)
  have t1 : ∀ w, (Instr.typeAssert (.iface 42 (.pointer (some ⟨g, 0, none⟩))) 33 53 true).run Tryz.prog w = .ok (.tuple #[.pointer none, .bool false]) w := fun _ => by kernel_rfl
  have t2 : ∀ w, (Instr.typeAssert (.iface 42 (.pointer (some ⟨g, 0, none⟩))) 33 55 true).run Tryz.prog w = .ok (.tuple #[.string ⟨#[]⟩, .bool false]) w := fun _ => by kernel_rfl
  have hm := meth_Ask
  have ha := ahead_Ask
  clear hb hn
  go_enter Tryz.func16, Tryz.ntmps16
  go_wp2_with fail
  refine HE.out.mono ?_
  rintro e w0 ⟨rfl, rfl⟩
  go_wp2_with fail
  refine (HP.out _).mono ?_
  rintro e w1 ⟨rfl, ⟨nd1, rfl⟩⟩
  go_wp2_with fail
  go_ret
  exact ⟨rfl, ⟨_, rfl⟩⟩
set_option maxHeartbeats 1000000 in
set_option maxRecDepth 100000 in
theorem isLoading_ClusterDown (m : ByteArray) (g : Nat) (w : World) (hb : w.heap[g]? = some (.cells #[.string m] 116 (0, 0))) (hz : m.size ≤ 1000) (hn : NoX m 0) : Calls Tryz.prog 16 #[.iface 63 (.pointer (some ⟨g, 0, none⟩))] w fun e w' => e = .returned (.bool false) ∧ Drawn0 w w' := by
  have HE := Lib.hid (err_ClusterDown m g w hb)
  have HP := Lib.hid (fun w => hp_no m _ (show ¬ At (pre 0) m 0 from hn) w)
  have t1 : ∀ w, (Instr.typeAssert (.iface 63 (.pointer (some ⟨g, 0, none⟩))) 33 53 true).run Tryz.prog w = .ok (.tuple #[.pointer none, .bool false]) w := fun _ => by kernel_rfl
  have t2 : ∀ w, (Instr.typeAssert (.iface 63 (.pointer (some ⟨g, 0, none⟩))) 33 55 true).run Tryz.prog w = .ok (.tuple #[.string ⟨#[]⟩, .bool false]) w := fun _ => by kernel_rfl
  have hm := meth_ClusterDown
  have ha := ahead_ClusterDown
  clear hb hn
  go_enter Tryz.func16, Tryz.ntmps16
  go_wp2_with fail
  refine HE.out.mono ?_
  rintro e w0 ⟨rfl, rfl⟩
  go_wp2_with fail
  refine (HP.out _).mono ?_
  rintro e w1 ⟨rfl, ⟨nd1, rfl⟩⟩
  go_wp2_with fail
  go_ret
  exact ⟨rfl, ⟨_, rfl⟩⟩
set_option maxHeartbeats 1000000 in
set_option maxRecDepth 100000 in
theorem isLoading_TryAgain (m : ByteArray) (g : Nat) (w : World) (hb : w.heap[g]? = some (.cells #[.string m] 117 (0, 0))) (hz : m.size ≤ 1000) (hn : NoX m 0) : Calls Tryz.prog 16 #[.iface 65 (.pointer (some ⟨g, 0, none⟩))] w fun e w' => e = .returned (.bool false) ∧ Drawn0 w w' := by
  have HE := Lib.hid (err_TryAgain m g w hb)
  have HP := Lib.hid (fun w => hp_no m _ (show ¬ At (pre 0) m 0 from hn) w)
  have t1 : ∀ w, (Instr.typeAssert (.iface 65 (.pointer (some ⟨g, 0, none⟩))) 33 53 true).run Tryz.prog w = .ok (.tuple #[.pointer none, .bool false]) w := fun _ => by kernel_rfl
  have t2 : ∀ w, (Instr.typeAssert (.iface 65 (.pointer (some ⟨g, 0, none⟩))) 33 55 true).run Tryz.prog w = .ok (.tuple #[.string ⟨#[]⟩, .bool false]) w := fun _ => by kernel_rfl
  have hm := meth_TryAgain
  have ha := ahead_TryAgain
  clear hb hn
  go_enter Tryz.func16, Tryz.ntmps16
  go_wp2_with fail
  refine HE.out.mono ?_
  rintro e w0 ⟨rfl, rfl⟩
  go_wp2_with fail
  refine (HP.out _).mono ?_
  rintro e w1 ⟨rfl, ⟨nd1, rfl⟩⟩
  go_wp2_with fail
  go_ret
  exact ⟨rfl, ⟨_, rfl⟩⟩
set_option maxHeartbeats 1000000 in
set_option maxRecDepth 100000 in
theorem isLoading_MasterDown (m : ByteArray) (g : Nat) (w : World) (hb : w.heap[g]? = some (.cells #[.string m] 118 (0, 0))) (hz : m.size ≤ 1000) (hn : NoX m 0) : Calls Tryz.prog 16 #[.iface 67 (.pointer (some ⟨g, 0, none⟩))] w fun e w' => e = .returned (.bool false) ∧ Drawn0 w w' := by
  have HE := Lib.hid (err_MasterDown m g w hb)
  have HP := Lib.hid (fun w => hp_no m _ (show ¬ At (pre 0) m 0 from hn) w)
  have t1 : ∀ w, (Instr.typeAssert (.iface 67 (.pointer (some ⟨g, 0, none⟩))) 33 53 true).run Tryz.prog w = .ok (.tuple #[.pointer none, .bool false]) w := fun _ => by kernel_rfl
  have t2 : ∀ w, (Instr.typeAssert (.iface 67 (.pointer (some ⟨g, 0, none⟩))) 33 55 true).run Tryz.prog w = .ok (.tuple #[.string ⟨#[]⟩, .bool false]) w := fun _ => by kernel_rfl
  have hm := meth_MasterDown
  have ha := ahead_MasterDown
  clear hb hn
  go_enter Tryz.func16, Tryz.ntmps16
  go_wp2_with fail
  refine HE.out.mono ?_
  rintro e w0 ⟨rfl, rfl⟩
  go_wp2_with fail
  refine (HP.out _).mono ?_
  rintro e w1 ⟨rfl, ⟨nd1, rfl⟩⟩
  go_wp2_with fail
  go_ret
  exact ⟨rfl, ⟨_, rfl⟩⟩
set_option maxHeartbeats 1000000 in
set_option maxRecDepth 100000 in
theorem isLoading_NoReplicas (m : ByteArray) (g : Nat) (w : World) (hb : w.heap[g]? = some (.cells #[.string m] 119 (0, 0))) (hz : m.size ≤ 1000) (hn : NoX m 0) : Calls Tryz.prog 16 #[.iface 79 (.pointer (some ⟨g, 0, none⟩))] w fun e w' => e = .returned (.bool false) ∧ Drawn0 w w' := by
  have HE := Lib.hid (err_NoReplicas m g w hb)
  have HP := Lib.hid (fun w => hp_no m _ (show ¬ At (pre 0) m 0 from hn) w)
  have t1 : ∀ w, (Instr.typeAssert (.iface 79 (.pointer (some ⟨g, 0, none⟩))) 33 53 true).run Tryz.prog w = .ok (.tuple #[.pointer none, .bool false]) w := fun _ => by kernel_rfl
  have t2 : ∀ w, (Instr.typeAssert (.iface 79 (.pointer (some ⟨g, 0, none⟩))) 33 55 true).run Tryz.prog w = .ok (.tuple #[.string ⟨#[]⟩, .bool false]) w := fun _ => by kernel_rfl
  have hm := meth_NoReplicas
  have ha := ahead_NoReplicas
  clear hb hn
  go_enter Tryz.func16, Tryz.ntmps16
  go_wp2_with fail
  refine HE.out.mono ?_
  rintro e w0 ⟨rfl, rfl⟩
  go_wp2_with fail
  refine (HP.out _).mono ?_
  rintro e w1 ⟨rfl, ⟨nd1, rfl⟩⟩
  go_wp2_with fail
  go_ret
  exact ⟨rfl, ⟨_, rfl⟩⟩
set_option maxHeartbeats 1000000 in
set_option maxRecDepth 100000 in
theorem isLoading_MaxClients (m : ByteArray) (g : Nat) (w : World) (hb : w.heap[g]? = some (.cells #[.string m] 120 (0, 0))) (hz : m.size ≤ 1000) (hn : NoX m 0) : Calls Tryz.prog 16 #[.iface 69 (.pointer (some ⟨g, 0, none⟩))] w fun e w' => e = .returned (.bool false) ∧ Drawn0 w w' := by
  have HE := Lib.hid (err_MaxClients m g w hb)
  have HP := Lib.hid (fun w => hp_no m _ (show ¬ At (pre 0) m 0 from hn) w)
  have t1 : ∀ w, (Instr.typeAssert (.iface 69 (.pointer (some ⟨g, 0, none⟩))) 33 53 true).run Tryz.prog w = .ok (.tuple #[.pointer none, .bool false]) w := fun _ => by kernel_rfl
  have t2 : ∀ w, (Instr.typeAssert (.iface 69 (.pointer (some ⟨g, 0, none⟩))) 33 55 true).run Tryz.prog w = .ok (.tuple #[.string ⟨#[]⟩, .bool false]) w := fun _ => by kernel_rfl
  have hm := meth_MaxClients
  have ha := ahead_MaxClients
  clear hb hn
  go_enter Tryz.func16, Tryz.ntmps16
  go_wp2_with fail
  refine HE.out.mono ?_
  rintro e w0 ⟨rfl, rfl⟩
  go_wp2_with fail
  refine (HP.out _).mono ?_
  rintro e w1 ⟨rfl, ⟨nd1, rfl⟩⟩
  go_wp2_with fail
  go_ret
  exact ⟨rfl, ⟨_, rfl⟩⟩
set_option maxHeartbeats 1000000 in
set_option maxRecDepth 100000 in
theorem isLoading_Auth (m : ByteArray) (g : Nat) (w : World) (hb : w.heap[g]? = some (.cells #[.string m] 121 (0, 0))) (hz : m.size ≤ 1000) (hn : NoX m 0) : Calls Tryz.prog 16 #[.iface 71 (.pointer (some ⟨g, 0, none⟩))] w fun e w' => e = .returned (.bool false) ∧ Drawn0 w w' := by
  have HE := Lib.hid (err_Auth m g w hb)
  have HP := Lib.hid (fun w => hp_no m _ (show ¬ At (pre 0) m 0 from hn) w)
  have t1 : ∀ w, (Instr.typeAssert (.iface 71 (.pointer (some ⟨g, 0, none⟩))) 33 53 true).run Tryz.prog w = .ok (.tuple #[.pointer none, .bool false]) w := fun _ => by kernel_rfl
  have t2 : ∀ w, (Instr.typeAssert (.iface 71 (.pointer (some ⟨g, 0, none⟩))) 33 55 true).run Tryz.prog w = .ok (.tuple #[.string ⟨#[]⟩, .bool false]) w := fun _ => by kernel_rfl
  have hm := meth_Auth
  have ha := ahead_Auth
  clear hb hn
  go_enter Tryz.func16, Tryz.ntmps16
  go_wp2_with fail
  refine HE.out.mono ?_
  rintro e w0 ⟨rfl, rfl⟩
  go_wp2_with fail
  refine (HP.out _).mono ?_
  rintro e w1 ⟨rfl, ⟨nd1, rfl⟩⟩
  go_wp2_with fail
  go_ret
  exact ⟨rfl, ⟨_, rfl⟩⟩
set_option maxHeartbeats 1000000 in
set_option maxRecDepth 100000 in
theorem isLoading_Permission (m : ByteArray) (g : Nat) (w : World) (hb : w.heap[g]? = some (.cells #[.string m] 122 (0, 0))) (hz : m.size ≤ 1000) (hn : NoX m 0) : Calls Tryz.prog 16 #[.iface 73 (.pointer (some ⟨g, 0, none⟩))] w fun e w' => e = .returned (.bool false) ∧ Drawn0 w w' := by
  have HE := Lib.hid (err_Permission m g w hb)
  have HP := Lib.hid (fun w => hp_no m _ (show ¬ At (pre 0) m 0 from hn) w)
  have t1 : ∀ w, (Instr.typeAssert (.iface 73 (.pointer (some ⟨g, 0, none⟩))) 33 53 true).run Tryz.prog w = .ok (.tuple #[.pointer none, .bool false]) w := fun _ => by kernel_rfl
  have t2 : ∀ w, (Instr.typeAssert (.iface 73 (.pointer (some ⟨g, 0, none⟩))) 33 55 true).run Tryz.prog w = .ok (.tuple #[.string ⟨#[]⟩, .bool false]) w := fun _ => by kernel_rfl
  have hm := meth_Permission
  have ha := ahead_Permission
  clear hb hn
  go_enter Tryz.func16, Tryz.ntmps16
  go_wp2_with fail
  refine HE.out.mono ?_
  rintro e w0 ⟨rfl, rfl⟩
  go_wp2_with fail
  refine (HP.out _).mono ?_
  rintro e w1 ⟨rfl, ⟨nd1, rfl⟩⟩
  go_wp2_with fail
  go_ret
  exact ⟨rfl, ⟨_, rfl⟩⟩
set_option maxHeartbeats 1000000 in
set_option maxRecDepth 100000 in
theorem isLoading_ExecAbort (m : ByteArray) (g : Nat) (w : World) (hb : w.heap[g]? = some (.cells #[.string m] 123 (0, 0))) (hz : m.size ≤ 1000) (hn : NoX m 0) : Calls Tryz.prog 16 #[.iface 75 (.pointer (some ⟨g, 0, none⟩))] w fun e w' => e = .returned (.bool false) ∧ Drawn0 w w' := by
  have HE := Lib.hid (err_ExecAbort m g w hb)
  have HP := Lib.hid (fun w => hp_no m _ (show ¬ At (pre 0) m 0 from hn) w)
  have t1 : ∀ w, (Instr.typeAssert (.iface 75 (.pointer (some ⟨g, 0, none⟩))) 33 53 true).run Tryz.prog w = .ok (.tuple #[.pointer none, .bool false]) w := fun _ => by kernel_rfl
  have t2 : ∀ w, (Instr.typeAssert (.iface 75 (.pointer (some ⟨g, 0, none⟩))) 33 55 true).run Tryz.prog w = .ok (.tuple #[.string ⟨#[]⟩, .bool false]) w := fun _ => by kernel_rfl
  have hm := meth_ExecAbort
  have ha := ahead_ExecAbort
  clear hb hn
  go_enter Tryz.func16, Tryz.ntmps16
  go_wp2_with fail
  refine HE.out.mono ?_
  rintro e w0 ⟨rfl, rfl⟩
  go_wp2_with fail
  refine (HP.out _).mono ?_
  rintro e w1 ⟨rfl, ⟨nd1, rfl⟩⟩
  go_wp2_with fail
  go_ret
  exact ⟨rfl, ⟨_, rfl⟩⟩
set_option maxHeartbeats 1000000 in
set_option maxRecDepth 100000 in
theorem isLoading_OOM (m : ByteArray) (g : Nat) (w : World) (hb : w.heap[g]? = some (.cells #[.string m] 124 (0, 0))) (hz : m.size ≤ 1000) (hn : NoX m 0) : Calls Tryz.prog 16 #[.iface 77 (.pointer (some ⟨g, 0, none⟩))] w fun e w' => e = .returned (.bool false) ∧ Drawn0 w w' := by
  have HE := Lib.hid (err_OOM m g w hb)
  have HP := Lib.hid (fun w => hp_no m _ (show ¬ At (pre 0) m 0 from hn) w)
  have t1 : ∀ w, (Instr.typeAssert (.iface 77 (.pointer (some ⟨g, 0, none⟩))) 33 53 true).run Tryz.prog w = .ok (.tuple #[.pointer none, .bool false]) w := fun _ => by kernel_rfl
  have t2 : ∀ w, (Instr.typeAssert (.iface 77 (.pointer (some ⟨g, 0, none⟩))) 33 55 true).run Tryz.prog w = .ok (.tuple #[.string ⟨#[]⟩, .bool false]) w := fun _ => by kernel_rfl
  have hm := meth_OOM
  have ha := ahead_OOM
  clear hb hn
  go_enter Tryz.func16, Tryz.ntmps16
  go_wp2_with fail
  refine HE.out.mono ?_
  rintro e w0 ⟨rfl, rfl⟩
  go_wp2_with fail
  refine (HP.out _).mono ?_
  rintro e w1 ⟨rfl, ⟨nd1, rfl⟩⟩
  go_wp2_with fail
  go_ret
  exact ⟨rfl, ⟨_, rfl⟩⟩
set_option maxHeartbeats 1000000 in
set_option maxRecDepth 100000 in
theorem isLoading_R (m : ByteArray) (w : World) (hz : m.size ≤ 1000) (hn : NoX m 0) : Calls Tryz.prog 16 #[.iface 55 (.string m)] w fun e w' => e = .returned (.bool false) ∧ Drawn0 w w' := by
  have HP := Lib.hid (fun w => hp_no m _ (show ¬ At (pre 0) m 0 from hn) w)
  have t1 : ∀ w, (Instr.typeAssert (.iface 55 (.string m)) 33 53 true).run Tryz.prog w = .ok (.tuple #[.pointer none, .bool false]) w := fun _ => by kernel_rfl
  have t2 : ∀ w, (Instr.typeAssert (.iface 55 (.string m)) 33 55 true).run Tryz.prog w = .ok (.tuple #[.string m, .bool true]) w := fun _ => by kernel_rfl
  have hm := re_meth
  have ha := re_ahead
  clear hn
  go_enter Tryz.func16, Tryz.ntmps16
  go_wp2_with fail
  refine (re_error m _).mono ?_
  rintro e w0 ⟨rfl, rfl⟩
  go_wp2_with fail
  refine (HP.out _).mono ?_
  rintro e w1 ⟨rfl, ⟨nd1, rfl⟩⟩
  go_wp2_with fail
  refine (re_error m _).mono ?_
  rintro e wa ⟨rfl, rfl⟩
  go_wp2_with fail
  refine (HP.out _).mono ?_
  rintro e w2 ⟨rfl, ⟨nd2, rfl⟩⟩
  go_wp2_with fail
  go_ret
  exact ⟨rfl, ⟨_, rfl⟩⟩
theorem isLoading_any (m a : ByteArray) (c : Nat) (v : Value) (b : Bool) (w : World) (hc : c ≤ 13) (hv : EVal w m a c v) (hz : m.size ≤ 1000) (hb : Bx m c 0 b) : Calls Tryz.prog 16 #[v] w fun e w' => e = .returned (.bool b) ∧ Drawn0 w w' := by
  rcases hb with ⟨rfl, rfl⟩ | ⟨rfl, hne, hn⟩ | ⟨h8, rfl, rfl, ha⟩
  · obtain ⟨g, rfl, hb⟩ := hv
    exact isLoading_own g w
  · have hcs : c = 1 ∨ c = 2 ∨ c = 3 ∨ c = 4 ∨ c = 5 ∨ c = 6 ∨ c = 7 ∨ c = 8 ∨ c = 9 ∨ c = 10 ∨ c = 11 ∨ c = 12 ∨ c = 13 := by omega
    rcases hcs with rfl | rfl | rfl | rfl | rfl | rfl | rfl | rfl | rfl | rfl | rfl | rfl | rfl
    · obtain ⟨g, rfl, hb⟩ := hv
      exact isLoading_ReadOnly m g w hb hz hn
    · obtain ⟨g, rfl, hb⟩ := hv
      exact isLoading_Moved m a g w hb hz hn
    · obtain ⟨g, rfl, hb⟩ := hv
      exact isLoading_Ask m a g w hb hz hn
    · obtain ⟨g, rfl, hb⟩ := hv
      exact isLoading_ClusterDown m g w hb hz hn
    · obtain ⟨g, rfl, hb⟩ := hv
      exact isLoading_TryAgain m g w hb hz hn
    · obtain ⟨g, rfl, hb⟩ := hv
      exact isLoading_MasterDown m g w hb hz hn
    · obtain ⟨g, rfl, hb⟩ := hv
      exact isLoading_NoReplicas m g w hb hz hn
    · obtain ⟨g, rfl, hb⟩ := hv
      exact isLoading_MaxClients m g w hb hz hn
    · obtain ⟨g, rfl, hb⟩ := hv
      exact isLoading_Auth m g w hb hz hn
    · obtain ⟨g, rfl, hb⟩ := hv
      exact isLoading_Permission m g w hb hz hn
    · obtain ⟨g, rfl, hb⟩ := hv
      exact isLoading_ExecAbort m g w hb hz hn
    · obtain ⟨g, rfl, hb⟩ := hv
      exact isLoading_OOM m g w hb hz hn
    · obtain rfl : v = _ := hv
      exact isLoading_R m w hz hn
  · exact absurd h8 (by decide)
end Go.Proofs.YtkogipaaioibaaaGreat

namespace Go.Proofs.YtkogipaaioibaaaGreat
set_option linter.unusedVariables false
set_option linter.unusedSimpArgs false
open Go.RowKit Go.Proofs.YtkogipaaioibaaaGreatW.PrintWords
set_option maxHeartbeats 1000000 in
set_option maxRecDepth 100000 in
theorem isReadOnly_own (g : Nat) (w : World) : Calls Tryz.prog 17 #[.iface 57 (.pointer (some ⟨g, 0, none⟩))] w fun e w' => e = .returned (.bool true) ∧ Drawn0 w w' := by
  have t1 : ∀ w, (Instr.typeAssert (.iface 57 (.pointer (some ⟨g, 0, none⟩))) 33 57 true).run Tryz.prog w = .ok (.tuple #[.pointer (some ⟨g, 0, none⟩), .bool true]) w := fun _ => by kernel_rfl
  go_enter Tryz.func17, Tryz.ntmps17
  go_wp2_with fail
  go_ret
  exact ⟨rfl, Drawn0.refl _⟩
set_option maxHeartbeats 1000000 in
set_option maxRecDepth 100000 in
theorem isReadOnly_Loading (m : ByteArray) (g : Nat) (w : World) (hb : w.heap[g]? = some (.cells #[.string m] 114 (0, 0))) (hz : m.size ≤ 1000) (hn : NoX m 1) : Calls Tryz.prog 17 #[.iface 53 (.pointer (some ⟨g, 0, none⟩))] w fun e w' => e = .returned (.bool false) ∧ Drawn0 w w' := by
  have HE := Lib.hid (err_Loading m g w hb)
  have HP := Lib.hid (fun w => hp_no m _ hn.1 w)
  have HQ := Lib.hid (fun w => ct_no m _ hz (by decide) hn.2 w)
  have t1 : ∀ w, (Instr.typeAssert (.iface 53 (.pointer (some ⟨g, 0, none⟩))) 33 57 true).run Tryz.prog w = .ok (.tuple #[.pointer none, .bool false]) w := fun _ => by kernel_rfl
  have t2 : ∀ w, (Instr.typeAssert (.iface 53 (.pointer (some ⟨g, 0, none⟩))) 33 55 true).run Tryz.prog w = .ok (.tuple #[.string ⟨#[]⟩, .bool false]) w := fun _ => by kernel_rfl
  have hm := meth_Loading
  have ha := ahead_Loading
  clear hb hn
  go_enter Tryz.func17, Tryz.ntmps17
  go_wp2_with fail
  refine HE.out.mono ?_
  rintro e w0 ⟨rfl, rfl⟩
  go_wp2_with fail
  refine (HP.out _).mono ?_
  rintro e w1 ⟨rfl, ⟨nd1, rfl⟩⟩
  go_wp2_with fail
  refine (HQ.out _).mono ?_
  rintro e w2 ⟨rfl, ⟨nd2, rfl⟩⟩
  go_wp2_with fail
  go_ret
  exact ⟨rfl, ⟨_, rfl⟩⟩
set_option maxHeartbeats 1000000 in
set_option maxRecDepth 100000 in
theorem isReadOnly_Moved (m a : ByteArray) (g : Nat) (w : World) (hb : w.heap[g]? = some (.cells #[.string m, .string a] 61 (0, 0))) (hz : m.size ≤ 1000) (hn : NoX m 1) : Calls Tryz.prog 17 #[.iface 38 (.pointer (some ⟨g, 0, none⟩))] w fun e w' => e = .returned (.bool false) ∧ Drawn0 w w' := by
  have HE := Lib.hid (err_Moved m a g w hb)
  have HP := Lib.hid (fun w => hp_no m _ hn.1 w)
  have HQ := Lib.hid (fun w => ct_no m _ hz (by decide) hn.2 w)
  have t1 : ∀ w, (Instr.typeAssert (.iface 38 (.pointer (some ⟨g, 0, none⟩))) 33 57 true).run Tryz.prog w = .ok (.tuple #[.pointer none, .bool false]) w := fun _ => by kernel_rfl
  have t2 : ∀ w, (Instr.typeAssert (.iface 38 (.pointer (some ⟨g, 0, none⟩))) 33 55 true).run Tryz.prog w = .ok (.tuple #[.string ⟨#[]⟩, .bool false]) w := fun _ => by kernel_rfl
  have hm := meth_Moved
  have ha := ahead_Moved
  clear hb hn
  go_enter Tryz.func17, Tryz.ntmps17
  go_wp2_with fail
  refine HE.out.mono ?_
  rintro e w0 ⟨rfl, rfl⟩
  go_wp2_with fail
  refine (HP.out _).mono ?_
  rintro e w1 ⟨rfl, ⟨nd1, rfl⟩⟩
  go_wp2_with fail
  refine (HQ.out _).mono ?_
  rintro e w2 ⟨rfl, ⟨nd2, rfl⟩⟩
  go_wp2_with fail
  go_ret
  exact ⟨rfl, ⟨_, rfl⟩⟩
set_option maxHeartbeats 1000000 in
set_option maxRecDepth 100000 in
theorem isReadOnly_Ask (m a : ByteArray) (g : Nat) (w : World) (hb : w.heap[g]? = some (.cells #[.string m, .string a] 62 (0, 0))) (hz : m.size ≤ 1000) (hn : NoX m 1) : Calls Tryz.prog 17 #[.iface 42 (.pointer (some ⟨g, 0, none⟩))] w fun e w' => e = .returned (.bool false) ∧ Drawn0 w w' := by
  have HE := Lib.hid (err_Ask m a g w hb)
  have HP := Lib.hid (fun w => hp_no m _ hn.1 w)
  have HQ := Lib.hid (fun w => ct_no m _ hz (by decide) hn.2 w)
  have t1 : ∀ w, (Instr.typeAssert (.iface 42 (.pointer (some ⟨g, 0, none⟩))) 33 57 true).run Tryz.prog w = .ok (.tuple #[.pointer none, .bool false]) w := fun _ => by kernel_rfl
  have t2 : ∀ w, (Instr.typeAssert (.iface 42 (.pointer (some ⟨g, 0, none⟩))) 33 55 true).run Tryz.prog w = .ok (.tuple #[.string ⟨#[]⟩, .bool false]) w := fun _ => by kernel_rfl
  have hm := meth_Ask
  have ha := ahead_Ask
  clear hb hn
  go_enter Tryz.func17, Tryz.ntmps17
  go_wp2_with fail
  refine HE.out.mono ?_
  rintro e w0 ⟨rfl, rfl⟩
  go_wp2_with fail
  refine (HP.out _).mono ?_
  rintro e w1 ⟨rfl, ⟨nd1, rfl⟩⟩
  go_wp2_with fail
  refine (HQ.out _).mono ?_
  rintro e w2 ⟨rfl, ⟨nd2, rfl⟩⟩
  go_wp2_with fail
  go_ret
  exact ⟨rfl, ⟨_, rfl⟩⟩
set_option maxHeartbeats 1000000 in
set_option maxRecDepth 100000 in
theorem isReadOnly_ClusterDown (m : ByteArray) (g : Nat) (w : World) (hb : w.heap[g]? = some (.cells #[.string m] 116 (0, 0))) (hz : m.size ≤ 1000) (hn : NoX m 1) : Calls Tryz.prog 17 #[.iface 63 (.pointer (some ⟨g, 0, none⟩))] w fun e w' => e = .returned (.bool false) ∧ Drawn0 w w' := by
  have HE := Lib.hid (err_ClusterDown m g w hb)
  have HP := Lib.hid (fun w => hp_no m _ hn.1 w)
  have HQ := Lib.hid (fun w => ct_no m _ hz (by decide) hn.2 w)
  have t1 : ∀ w, (Instr.typeAssert (.iface 63 (.pointer (some ⟨g, 0, none⟩))) 33 57 true).run Tryz.prog w = .ok (.tuple #[.pointer none, .bool false]) w := fun _ => by kernel_rfl
  have t2 : ∀ w, (Instr.typeAssert (.iface 63 (.pointer (some ⟨g, 0, none⟩))) 33 55 true).run Tryz.prog w = .ok (.tuple #[.string ⟨#[]⟩, .bool false]) w := fun _ => by kernel_rfl
  have hm := meth_ClusterDown
  have ha := ahead_ClusterDown
  clear hb hn
  go_enter Tryz.func17, Tryz.ntmps17
  go_wp2_with fail
  refine HE.out.mono ?_
  rintro e w0 ⟨rfl, rfl⟩
  go_wp2_with fail
  refine (HP.out _).mono ?_
  rintro e w1 ⟨rfl, ⟨nd1, rfl⟩⟩
  go_wp2_with fail
  refine (HQ.out _).mono ?_
  rintro e w2 ⟨rfl, ⟨nd2, rfl⟩⟩
  go_wp2_with fail
  go_ret
  exact ⟨rfl, ⟨_, rfl⟩⟩
set_option maxHeartbeats 1000000 in
set_option maxRecDepth 100000 in
theorem isReadOnly_TryAgain (m : ByteArray) (g : Nat) (w : World) (hb : w.heap[g]? = some (.cells #[.string m] 117 (0, 0))) (hz : m.size ≤ 1000) (hn : NoX m 1) : Calls Tryz.prog 17 #[.iface 65 (.pointer (some ⟨g, 0, none⟩))] w fun e w' => e = .returned (.bool false) ∧ Drawn0 w w' := by
  have HE := Lib.hid (err_TryAgain m g w hb)
  have HP := Lib.hid (fun w => hp_no m _ hn.1 w)
  have HQ := Lib.hid (fun w => ct_no m _ hz (by decide) hn.2 w)
  have t1 : ∀ w, (Instr.typeAssert (.iface 65 (.pointer (some ⟨g, 0, none⟩))) 33 57 true).run Tryz.prog w = .ok (.tuple #[.pointer none, .bool false]) w := fun _ => by kernel_rfl
  have t2 : ∀ w, (Instr.typeAssert (.iface 65 (.pointer (some ⟨g, 0, none⟩))) 33 55 true).run Tryz.prog w = .ok (.tuple #[.string ⟨#[]⟩, .bool false]) w := fun _ => by kernel_rfl
  have hm := meth_TryAgain
  have ha := ahead_TryAgain
  clear hb hn
  go_enter Tryz.func17, Tryz.ntmps17
  go_wp2_with fail
  refine HE.out.mono ?_
  rintro e w0 ⟨rfl, rfl⟩
  go_wp2_with fail
  refine (HP.out _).mono ?_
  rintro e w1 ⟨rfl, ⟨nd1, rfl⟩⟩
  go_wp2_with fail
  refine (HQ.out _).mono ?_
  rintro e w2 ⟨rfl, ⟨nd2, rfl⟩⟩
  go_wp2_with fail
  go_ret
  exact ⟨rfl, ⟨_, rfl⟩⟩
set_option maxHeartbeats 1000000 in
set_option maxRecDepth 100000 in
theorem isReadOnly_MasterDown (m : ByteArray) (g : Nat) (w : World) (hb : w.heap[g]? = some (.cells #[.string m] 118 (0, 0))) (hz : m.size ≤ 1000) (hn : NoX m 1) : Calls Tryz.prog 17 #[.iface 67 (.pointer (some ⟨g, 0, none⟩))] w fun e w' => e = .returned (.bool false) ∧ Drawn0 w w' := by
  have HE := Lib.hid (err_MasterDown m g w hb)
  have HP := Lib.hid (fun w => hp_no m _ hn.1 w)
  have HQ := Lib.hid (fun w => ct_no m _ hz (by decide) hn.2 w)
  have t1 : ∀ w, (Instr.typeAssert (.iface 67 (.pointer (some ⟨g, 0, none⟩))) 33 57 true).run Tryz.prog w = .ok (.tuple #[.pointer none, .bool false]) w := fun _ => by kernel_rfl
  have t2 : ∀ w, (Instr.typeAssert (.iface 67 (.pointer (some ⟨g, 0, none⟩))) 33 55 true).run Tryz.prog w = .ok (.tuple #[.string ⟨#[]⟩, .bool false]) w := fun _ => by kernel_rfl
  have hm := meth_MasterDown
  have ha := ahead_MasterDown
  clear hb hn
  go_enter Tryz.func17, Tryz.ntmps17
  go_wp2_with fail
  refine HE.out.mono ?_
  rintro e w0 ⟨rfl, rfl⟩
  go_wp2_with fail
  refine (HP.out _).mono ?_
  rintro e w1 ⟨rfl, ⟨nd1, rfl⟩⟩
  go_wp2_with fail
  refine (HQ.out _).mono ?_
  rintro e w2 ⟨rfl, ⟨nd2, rfl⟩⟩
  go_wp2_with fail
  go_ret
  exact ⟨rfl, ⟨_, rfl⟩⟩
set_option maxHeartbeats 1000000 in
set_option maxRecDepth 100000 in
theorem isReadOnly_NoReplicas (m : ByteArray) (g : Nat) (w : World) (hb : w.heap[g]? = some (.cells #[.string m] 119 (0, 0))) (hz : m.size ≤ 1000) (hn : NoX m 1) : Calls Tryz.prog 17 #[.iface 79 (.pointer (some ⟨g, 0, none⟩))] w fun e w' => e = .returned (.bool false) ∧ Drawn0 w w' := by
  have HE := Lib.hid (err_NoReplicas m g w hb)
  have HP := Lib.hid (fun w => hp_no m _ hn.1 w)
  have HQ := Lib.hid (fun w => ct_no m _ hz (by decide) hn.2 w)
  have t1 : ∀ w, (Instr.typeAssert (.iface 79 (.pointer (some ⟨g, 0, none⟩))) 33 57 true).run Tryz.prog w = .ok (.tuple #[.pointer none, .bool false]) w := fun _ => by kernel_rfl
  have t2 : ∀ w, (Instr.typeAssert (.iface 79 (.pointer (some ⟨g, 0, none⟩))) 33 55 true).run Tryz.prog w = .ok (.tuple #[.string ⟨#[]⟩, .bool false]) w := fun _ => by kernel_rfl
  have hm := meth_NoReplicas
  have ha := ahead_NoReplicas
  clear hb hn
  go_enter Tryz.func17, Tryz.ntmps17
  go_wp2_with fail
  refine HE.out.mono ?_
  rintro e w0 ⟨rfl, rfl⟩
  go_wp2_with fail
  refine (HP.out _).mono ?_
  rintro e w1 ⟨rfl, ⟨nd1, rfl⟩⟩
  go_wp2_with fail
  refine (HQ.out _).mono ?_
  rintro e w2 ⟨rfl, ⟨nd2, rfl⟩⟩
  go_wp2_with fail
  go_ret
  exact ⟨rfl, ⟨_, rfl⟩⟩
set_option maxHeartbeats 1000000 in
set_option maxRecDepth 100000 in
theorem isReadOnly_MaxClients (m : ByteArray) (g : Nat) (w : World) (hb : w.heap[g]? = some (.cells #[.string m] 120 (0, 0))) (hz : m.size ≤ 1000) (hn : NoX m 1) : Calls Tryz.prog 17 #[.iface 69 (.pointer (some ⟨g, 0, none⟩))] w fun e w' => e = .returned (.bool false) ∧ Drawn0 w w' := by
  have HE := Lib.hid (err_MaxClients m g w hb)
  have HP := Lib.hid (fun w => hp_no m _ hn.1 w)
  have HQ := Lib.hid (fun w => ct_no m _ hz (by decide) hn.2 w)
  have t1 : ∀ w, (Instr.typeAssert (.iface 69 (.pointer (some ⟨g, 0, none⟩))) 33 57 true).run Tryz.prog w = .ok (.tuple #[.pointer none, .bool false]) w := fun _ => by kernel_rfl
  have t2 : ∀ w, (Instr.typeAssert (.iface 69 (.pointer (some ⟨g, 0, none⟩))) 33 55 true).run Tryz.prog w = .ok (.tuple #[.string ⟨#[]⟩, .bool false]) w := fun _ => by kernel_rfl
  have hm := meth_MaxClients
  have ha := ahead_MaxClients
  clear hb hn
  go_enter Tryz.func17, Tryz.ntmps17
  go_wp2_with fail
  refine HE.out.mono ?_
  rintro e w0 ⟨rfl, rfl⟩
  go_wp2_with fail
  refine (HP.out _).mono ?_
  rintro e w1 ⟨rfl, ⟨nd1, rfl⟩⟩
  go_wp2_with fail
  refine (HQ.out _).mono ?_
  rintro e w2 ⟨rfl, ⟨nd2, rfl⟩⟩
  go_wp2_with fail
  go_ret
  exact ⟨rfl, ⟨_, rfl⟩⟩
set_option maxHeartbeats 1000000 in
set_option maxRecDepth 100000 in
theorem isReadOnly_Auth (m : ByteArray) (g : Nat) (w : World) (hb : w.heap[g]? = some (.cells #[.string m] 121 (0, 0))) (hz : m.size ≤ 1000) (hn : NoX m 1) : Calls Tryz.prog 17 #[.iface 71 (.pointer (some ⟨g, 0, none⟩))] w fun e w' => e = .returned (.bool false) ∧ Drawn0 w w' := by
  have HE := Lib.hid (err_Auth m g w hb)
  have HP := Lib.hid (fun w => hp_no m _ hn.1 w)
  have HQ := Lib.hid (fun w => ct_no m _ hz (by decide) hn.2 w)
  have t1 : ∀ w, (Instr.typeAssert (.iface 71 (.pointer (some ⟨g, 0, none⟩))) 33 57 true).run Tryz.prog w = .ok (.tuple #[.pointer none, .bool false]) w := fun _ => by kernel_rfl
  have t2 : ∀ w, (Instr.typeAssert (.iface 71 (.pointer (some ⟨g, 0, none⟩))) 33 55 true).run Tryz.prog w = .ok (.tuple #[.string ⟨#[]⟩, .bool false]) w := fun _ => by kernel_rfl
  have hm := meth_Auth
  have ha := ahead_Auth
  clear hb hn
  go_enter Tryz.func17, Tryz.ntmps17
  go_wp2_with fail
  refine HE.out.mono ?_
  rintro e w0 ⟨rfl, rfl⟩
  go_wp2_with fail
  refine (HP.out _).mono ?_
  rintro e w1 ⟨rfl, ⟨nd1, rfl⟩⟩
  go_wp2_with fail
  refine (HQ.out _).mono ?_
  rintro e w2 ⟨rfl, ⟨nd2, rfl⟩⟩
  go_wp2_with fail
  go_ret
  exact ⟨rfl, ⟨_, rfl⟩⟩
set_option maxHeartbeats 1000000 in
set_option maxRecDepth 100000 in
theorem isReadOnly_Permission (m : ByteArray) (g : Nat) (w : World) (hb : w.heap[g]? = some (.cells #[.string m] 122 (0, 0))) (hz : m.size ≤ 1000) (hn : NoX m 1) : Calls Tryz.prog 17 #[.iface 73 (.pointer (some ⟨g, 0, none⟩))] w fun e w' => e = .returned (.bool false) ∧ Drawn0 w w' := by
  have HE := Lib.hid (err_Permission m g w hb)
  have HP := Lib.hid (fun w => hp_no m _ hn.1 w)
  have HQ := Lib.hid (fun w => ct_no m _ hz (by decide) hn.2 w)
  have t1 : ∀ w, (Instr.typeAssert (.iface 73 (.pointer (some ⟨g, 0, none⟩))) 33 57 true).run Tryz.prog w = .ok (.tuple #[.pointer none, .bool false]) w := fun _ => by kernel_rfl
  have t2 : ∀ w, (Instr.typeAssert (.iface 73 (.pointer (some ⟨g, 0, none⟩))) 33 55 true).run Tryz.prog w = .ok (.tuple #[.string ⟨#[]⟩, .bool false]) w := fun _ => by kernel_rfl
  have hm := meth_Permission
  have ha := ahead_Permission
  clear hb hn
  go_enter Tryz.func17, Tryz.ntmps17
  go_wp2_with fail
  refine HE.out.mono ?_
  rintro e w0 ⟨rfl, rfl⟩
  go_wp2_with fail
  refine (HP.out _).mono ?_
  rintro e w1 ⟨rfl, ⟨nd1, rfl⟩⟩
  go_wp2_with fail
  refine (HQ.out _).mono ?_
  rintro e w2 ⟨rfl, ⟨nd2, rfl⟩⟩
  go_wp2_with fail
  go_ret
  exact ⟨rfl, ⟨_, rfl⟩⟩
set_option maxHeartbeats 1000000 in
set_option maxRecDepth 100000 in
theorem isReadOnly_ExecAbort (m : ByteArray) (g : Nat) (w : World) (hb : w.heap[g]? = some (.cells #[.string m] 123 (0, 0))) (hz : m.size ≤ 1000) (hn : NoX m 1) : Calls Tryz.prog 17 #[.iface 75 (.pointer (some ⟨g, 0, none⟩))] w fun e w' => e = .returned (.bool false) ∧ Drawn0 w w' := by
  have HE := Lib.hid (err_ExecAbort m g w hb)
  have HP := Lib.hid (fun w => hp_no m _ hn.1 w)
  have HQ := Lib.hid (fun w => ct_no m _ hz (by decide) hn.2 w)
  have t1 : ∀ w, (Instr.typeAssert (.iface 75 (.pointer (some ⟨g, 0, none⟩))) 33 57 true).run Tryz.prog w = .ok (.tuple #[.pointer none, .bool false]) w := fun _ => by kernel_rfl
  have t2 : ∀ w, (Instr.typeAssert (.iface 75 (.pointer (some ⟨g, 0, none⟩))) 33 55 true).run Tryz.prog w = .ok (.tuple #[.string ⟨#[]⟩, .bool false]) w := fun _ => by kernel_rfl
  have hm := meth_ExecAbort
  have ha := ahead_ExecAbort
  clear hb hn
  go_enter Tryz.func17, Tryz.ntmps17
  go_wp2_with fail
  refine HE.out.mono ?_
  rintro e w0 ⟨rfl, rfl⟩
  go_wp2_with fail
  refine (HP.out _).mono ?_
  rintro e w1 ⟨rfl, ⟨nd1, rfl⟩⟩
  go_wp2_with fail
  refine (HQ.out _).mono ?_
  rintro e w2 ⟨rfl, ⟨nd2, rfl⟩⟩
  go_wp2_with fail
  go_ret
  exact ⟨rfl, ⟨_, rfl⟩⟩
set_option maxHeartbeats 1000000 in
set_option maxRecDepth 100000 in
theorem isReadOnly_OOM (m : ByteArray) (g : Nat) (w : World) (hb : w.heap[g]? = some (.cells #[.string m] 124 (0, 0))) (hz : m.size ≤ 1000) (hn : NoX m 1) : Calls Tryz.prog 17 #[.iface 77 (.pointer (some ⟨g, 0, none⟩))] w fun e w' => e = .returned (.bool false) ∧ Drawn0 w w' := by
  have HE := Lib.hid (err_OOM m g w hb)
  have HP := Lib.hid (fun w => hp_no m _ hn.1 w)
  have HQ := Lib.hid (fun w => ct_no m _ hz (by decide) hn.2 w)
  have t1 : ∀ w, (Instr.typeAssert (.iface 77 (.pointer (some ⟨g, 0, none⟩))) 33 57 true).run Tryz.prog w = .ok (.tuple #[.pointer none, .bool false]) w := fun _ => by kernel_rfl
  have t2 : ∀ w, (Instr.typeAssert (.iface 77 (.pointer (some ⟨g, 0, none⟩))) 33 55 true).run Tryz.prog w = .ok (.tuple #[.string ⟨#[]⟩, .bool false]) w := fun _ => by kernel_rfl
  have hm := meth_OOM
  have ha := ahead_OOM
  clear hb hn
  go_enter Tryz.func17, Tryz.ntmps17
  go_wp2_with fail
  refine HE.out.mono ?_
  rintro e w0 ⟨rfl, rfl⟩
  go_wp2_with fail
  refine (HP.out _).mono ?_
  rintro e w1 ⟨rfl, ⟨nd1, rfl⟩⟩
  go_wp2_with fail
  refine (HQ.out _).mono ?_
  rintro e w2 ⟨rfl, ⟨nd2, rfl⟩⟩
  go_wp2_with fail
  go_ret
  exact ⟨rfl, ⟨_, rfl⟩⟩
set_option maxHeartbeats 1000000 in
set_option maxRecDepth 100000 in
theorem isReadOnly_R (m : ByteArray) (w : World) (hz : m.size ≤ 1000) (hn : NoX m 1) : Calls Tryz.prog 17 #[.iface 55 (.string m)] w fun e w' => e = .returned (.bool false) ∧ Drawn0 w w' := by
  have HP := Lib.hid (fun w => hp_no m _ hn.1 w)
  have HQ := Lib.hid (fun w => ct_no m _ hz (by decide) hn.2 w)
  have t1 : ∀ w, (Instr.typeAssert (.iface 55 (.string m)) 33 57 true).run Tryz.prog w = .ok (.tuple #[.pointer none, .bool false]) w := fun _ => by kernel_rfl
  have t2 : ∀ w, (Instr.typeAssert (.iface 55 (.string m)) 33 55 true).run Tryz.prog w = .ok (.tuple #[.string m, .bool true]) w := fun _ => by kernel_rfl
  have hm := re_meth
  have ha := re_ahead
  clear hn
  go_enter Tryz.func17, Tryz.ntmps17
  go_wp2_with fail
  refine (re_error m _).mono ?_
  rintro e w0 ⟨rfl, rfl⟩
  go_wp2_with fail
  refine (HP.out _).mono ?_
  rintro e w1 ⟨rfl, ⟨nd1, rfl⟩⟩
  go_wp2_with fail
  refine (HQ.out _).mono ?_
  rintro e w2 ⟨rfl, ⟨nd2, rfl⟩⟩
  go_wp2_with fail
  refine (re_error m _).mono ?_
  rintro e wa ⟨rfl, rfl⟩
  go_wp2_with fail
  refine (HP.out _).mono ?_
  rintro e w3 ⟨rfl, ⟨nd3, rfl⟩⟩
  go_wp2_with fail
  refine (HQ.out _).mono ?_
  rintro e w4 ⟨rfl, ⟨nd4, rfl⟩⟩
  go_wp2_with fail
  go_ret
  exact ⟨rfl, ⟨_, rfl⟩⟩
theorem isReadOnly_any (m a : ByteArray) (c : Nat) (v : Value) (b : Bool) (w : World) (hc : c ≤ 13) (hv : EVal w m a c v) (hz : m.size ≤ 1000) (hb : Bx m c 1 b) : Calls Tryz.prog 17 #[v] w fun e w' => e = .returned (.bool b) ∧ Drawn0 w w' := by
  rcases hb with ⟨rfl, rfl⟩ | ⟨rfl, hne, hn⟩ | ⟨h8, rfl, rfl, ha⟩
  · obtain ⟨g, rfl, hb⟩ := hv
    exact isReadOnly_own g w
  · have hcs : c = 0 ∨ c = 2 ∨ c = 3 ∨ c = 4 ∨ c = 5 ∨ c = 6 ∨ c = 7 ∨ c = 8 ∨ c = 9 ∨ c = 10 ∨ c = 11 ∨ c = 12 ∨ c = 13 := by omega
    rcases hcs with rfl | rfl | rfl | rfl | rfl | rfl | rfl | rfl | rfl | rfl | rfl | rfl | rfl
    · obtain ⟨g, rfl, hb⟩ := hv
      exact isReadOnly_Loading m g w hb hz hn
    · obtain ⟨g, rfl, hb⟩ := hv
      exact isReadOnly_Moved m a g w hb hz hn
    · obtain ⟨g, rfl, hb⟩ := hv
      exact isReadOnly_Ask m a g w hb hz hn
    · obtain ⟨g, rfl, hb⟩ := hv
      exact isReadOnly_ClusterDown m g w hb hz hn
    · obtain ⟨g, rfl, hb⟩ := hv
      exact isReadOnly_TryAgain m g w hb hz hn
    · obtain ⟨g, rfl, hb⟩ := hv
      exact isReadOnly_MasterDown m g w hb hz hn
    · obtain ⟨g, rfl, hb⟩ := hv
      exact isReadOnly_NoReplicas m g w hb hz hn
    · obtain ⟨g, rfl, hb⟩ := hv
      exact isReadOnly_MaxClients m g w hb hz hn
    · obtain ⟨g, rfl, hb⟩ := hv
      exact isReadOnly_Auth m g w hb hz hn
    · obtain ⟨g, rfl, hb⟩ := hv
      exact isReadOnly_Permission m g w hb hz hn
    · obtain ⟨g, rfl, hb⟩ := hv
      exact isReadOnly_ExecAbort m g w hb hz hn
    · obtain ⟨g, rfl, hb⟩ := hv
      exact isReadOnly_OOM m g w hb hz hn
    · obtain rfl : v = _ := hv
      exact isReadOnly_R m w hz hn
  · exact absurd h8 (by decide)
end Go.Proofs.YtkogipaaioibaaaGreat

namespace Go.Proofs.YtkogipaaioibaaaGreat
set_option linter.unusedVariables false
set_option linter.unusedSimpArgs false
open Go.RowKit Go.Proofs.YtkogipaaioibaaaGreatW.PrintWords
set_option maxHeartbeats 1000000 in
set_option maxRecDepth 100000 in
theorem isMoved_own (g : Nat) (w : World) : Calls Tryz.prog 18 #[.iface 38 (.pointer (some ⟨g, 0, none⟩))] w fun e w' => e = .returned (.tuple #[.pointer (some ⟨g, 0, none⟩), .bool true]) ∧ Drawn0 w w' := by
  have t1 : ∀ w, (Instr.typeAssert (.iface 38 (.pointer (some ⟨g, 0, none⟩))) 33 38 true).run Tryz.prog w = .ok (.tuple #[.pointer (some ⟨g, 0, none⟩), .bool true]) w := fun _ => by kernel_rfl
  go_enter Tryz.func18, Tryz.ntmps18
  go_wp2_with fail
  go_ret2
  exact ⟨rfl, Drawn0.refl _⟩
set_option maxHeartbeats 1000000 in
set_option maxRecDepth 100000 in
theorem isMoved_Loading (m : ByteArray) (g : Nat) (w : World) (hb : w.heap[g]? = some (.cells #[.string m] 114 (0, 0))) (hz : m.size ≤ 1000) (hn : NoX m 2) : Calls Tryz.prog 18 #[.iface 53 (.pointer (some ⟨g, 0, none⟩))] w fun e w' => e = .returned (.tuple #[.pointer (none), .bool false]) ∧ Drawn0 w w' := by
  have HE := Lib.hid (err_Loading m g w hb)
  have HP := Lib.hid (fun w => hp_no m _ (show ¬ At (pre 2) m 0 from hn) w)
  have t1 : ∀ w, (Instr.typeAssert (.iface 53 (.pointer (some ⟨g, 0, none⟩))) 33 38 true).run Tryz.prog w = .ok (.tuple #[.pointer none, .bool false]) w := fun _ => by kernel_rfl
  have hm := meth_Loading
  have ha := ahead_Loading
  clear hb hn
  go_enter Tryz.func18, Tryz.ntmps18
  go_wp2_with fail
  refine HE.out.mono ?_
  rintro e w0 ⟨rfl, rfl⟩
  go_wp2_with fail
  refine (HP.out _).mono ?_
  rintro e w1 ⟨rfl, ⟨nd1, rfl⟩⟩
  go_wp2_with fail
  go_ret2
  exact ⟨rfl, ⟨_, rfl⟩⟩
set_option maxHeartbeats 1000000 in
set_option maxRecDepth 100000 in
theorem isMoved_ReadOnly (m : ByteArray) (g : Nat) (w : World) (hb : w.heap[g]? = some (.cells #[.string m] 115 (0, 0))) (hz : m.size ≤ 1000) (hn : NoX m 2) : Calls Tryz.prog 18 #[.iface 57 (.pointer (some ⟨g, 0, none⟩))] w fun e w' => e = .returned (.tuple #[.pointer (none), .bool false]) ∧ Drawn0 w w' := by
  have HE := Lib.hid (err_ReadOnly m g w hb)
  have HP := Lib.hid (fun w => hp_no m _ (show ¬ At (pre 2) m 0 from hn) w)
  have t1 : ∀ w, (Instr.typeAssert (.iface 57 (.pointer (some ⟨g, 0, none⟩))) 33 38 true).run Tryz.prog w = .ok (.tuple #[.pointer none, .bool false]) w := fun _ => by kernel_rfl
  have hm := meth_ReadOnly
  have ha := ahead_ReadOnly
  clear hb hn
  go_enter Tryz.func18, Tryz.ntmps18
  go_wp2_with fail
  refine HE.out.mono ?_
  rintro e w0 ⟨rfl, rfl⟩
  go_wp2_with fail
  refine (HP.out _).mono ?_
  rintro e w1 ⟨rfl, ⟨nd1, rfl⟩⟩
  go_wp2_with fail
  go_ret2
  exact ⟨rfl, ⟨_, rfl⟩⟩
set_option maxHeartbeats 1000000 in
set_option maxRecDepth 100000 in
theorem isMoved_Ask (m a : ByteArray) (g : Nat) (w : World) (hb : w.heap[g]? = some (.cells #[.string m, .string a] 62 (0, 0))) (hz : m.size ≤ 1000) (hn : NoX m 2) : Calls Tryz.prog 18 #[.iface 42 (.pointer (some ⟨g, 0, none⟩))] w fun e w' => e = .returned (.tuple #[.pointer (none), .bool false]) ∧ Drawn0 w w' := by
  have HE := Lib.hid (err_Ask m a g w hb)
  have HP := Lib.hid (fun w => hp_no m _ (show ¬ At (pre 2) m 0 from hn) w)
  have t1 : ∀ w, (Instr.typeAssert (.iface 42 (.pointer (some ⟨g, 0, none⟩))) 33 38 true).run Tryz.prog w = .ok (.tuple #[.pointer none, .bool false]) w := fun _ => by kernel_rfl
  have hm := meth_Ask
  have ha := ahead_Ask
  clear hb hn
  go_enter Tryz.func18, Tryz.ntmps18
  go_wp2_with fail
  refine HE.out.mono ?_
  rintro e w0 ⟨rfl, rfl⟩
  go_wp2_with fail
  refine (HP.out _).mono ?_
  rintro e w1 ⟨rfl, ⟨nd1, rfl⟩⟩
  go_wp2_with fail
  go_ret2
  exact ⟨rfl, ⟨_, rfl⟩⟩
set_option maxHeartbeats 1000000 in
set_option maxRecDepth 100000 in
theorem isMoved_ClusterDown (m : ByteArray) (g : Nat) (w : World) (hb : w.heap[g]? = some (.cells #[.string m] 116 (0, 0))) (hz : m.size ≤ 1000) (hn : NoX m 2) : Calls Tryz.prog 18 #[.iface 63 (.pointer (some ⟨g, 0, none⟩))] w fun e w' => e = .returned (.tuple #[.pointer (none), .bool false]) ∧ Drawn0 w w' := by
  have HE := Lib.hid (err_ClusterDown m g w hb)
  have HP := Lib.hid (fun w => hp_no m _ (show ¬ At (pre 2) m 0 from hn) w)
  have t1 : ∀ w, (Instr.typeAssert (.iface 63 (.pointer (some ⟨g, 0, none⟩))) 33 38 true).run Tryz.prog w = .ok (.tuple #[.pointer none, .bool false]) w := fun _ => by kernel_rfl
  have hm := meth_ClusterDown
  have ha := ahead_ClusterDown
  clear hb hn
  go_enter Tryz.func18, Tryz.ntmps18
  go_wp2_with fail
  refine HE.out.mono ?_
  rintro e w0 ⟨rfl, rfl⟩
  go_wp2_with fail
  refine (HP.out _).mono ?_
  rintro e w1 ⟨rfl, ⟨nd1, rfl⟩⟩
  go_wp2_with fail
  go_ret2
  exact ⟨rfl, ⟨_, rfl⟩⟩
set_option maxHeartbeats 1000000 in
set_option maxRecDepth 100000 in
theorem isMoved_TryAgain (m : ByteArray) (g : Nat) (w : World) (hb : w.heap[g]? = some (.cells #[.string m] 117 (0, 0))) (hz : m.size ≤ 1000) (hn : NoX m 2) : Calls Tryz.prog 18 #[.iface 65 (.pointer (some ⟨g, 0, none⟩))] w fun e w' => e = .returned (.tuple #[.pointer (none), .bool false]) ∧ Drawn0 w w' := by
  have HE := Lib.hid (err_TryAgain m g w hb)
  have HP := Lib.hid (fun w => hp_no m _ (show ¬ At (pre 2) m 0 from hn) w)
  have t1 : ∀ w, (Instr.typeAssert (.iface 65 (.pointer (some ⟨g, 0, none⟩))) 33 38 true).run Tryz.prog w = .ok (.tuple #[.pointer none, .bool false]) w := fun _ => by kernel_rfl
  have hm := meth_TryAgain
  have ha := ahead_TryAgain
  clear hb hn
  go_enter Tryz.func18, Tryz.ntmps18
  go_wp2_with fail
  refine HE.out.mono ?_
  rintro e w0 ⟨rfl, rfl⟩
  go_wp2_with fail
  refine (HP.out _).mono ?_
  rintro e w1 ⟨rfl, ⟨nd1, rfl⟩⟩
  go_wp2_with fail
  go_ret2
  exact ⟨rfl, ⟨_, rfl⟩⟩
set_option maxHeartbeats 1000000 in
set_option maxRecDepth 100000 in
theorem isMoved_MasterDown (m : ByteArray) (g : Nat) (w : World) (hb : w.heap[g]? = some (.cells #[.string m] 118 (0, 0))) (hz : m.size ≤ 1000) (hn : NoX m 2) : Calls Tryz.prog 18 #[.iface 67 (.pointer (some ⟨g, 0, none⟩))] w fun e w' => e = .returned (.tuple #[.pointer (none), .bool false]) ∧ Drawn0 w w' := by
  have HE := Lib.hid (err_MasterDown m g w hb)
  have HP := Lib.hid (fun w => hp_no m _ (show ¬ At (pre 2) m 0 from hn) w)
  have t1 : ∀ w, (Instr.typeAssert (.iface 67 (.pointer (some ⟨g, 0, none⟩))) 33 38 true).run Tryz.prog w = .ok (.tuple #[.pointer none, .bool false]) w := fun _ => by kernel_rfl
  have hm := meth_MasterDown
  have ha := ahead_MasterDown
  clear hb hn
  go_enter Tryz.func18, Tryz.ntmps18
  go_wp2_with fail
  refine HE.out.mono ?_
  rintro e w0 ⟨rfl, rfl⟩
  go_wp2_with fail
  refine (HP.out _).mono ?_
  rintro e w1 ⟨rfl, ⟨nd1, rfl⟩⟩
  go_wp2_with fail
  go_ret2
  exact ⟨rfl, ⟨_, rfl⟩⟩
set_option maxHeartbeats 1000000 in
set_option maxRecDepth 100000 in
theorem isMoved_NoReplicas (m : ByteArray) (g : Nat) (w : World) (hb : w.heap[g]? = some (.cells #[.string m] 119 (0, 0))) (hz : m.size ≤ 1000) (hn : NoX m 2) : Calls Tryz.prog 18 #[.iface 79 (.pointer (some ⟨g, 0, none⟩))] w fun e w' => e = .returned (.tuple #[.pointer (none), .bool false]) ∧ Drawn0 w w' := by
  have HE := Lib.hid (err_NoReplicas m g w hb)
  have HP := Lib.hid (fun w => hp_no m _ (show ¬ At (pre 2) m 0 from hn) w)
  have t1 : ∀ w, (Instr.typeAssert (.iface 79 (.pointer (some ⟨g, 0, none⟩))) 33 38 true).run Tryz.prog w = .ok (.tuple #[.pointer none, .bool false]) w := fun _ => by kernel_rfl
  have hm := meth_NoReplicas
  have ha := ahead_NoReplicas
  clear hb hn
  go_enter Tryz.func18, Tryz.ntmps18
  go_wp2_with fail
  refine HE.out.mono ?_
  rintro e w0 ⟨rfl, rfl⟩
  go_wp2_with fail
  refine (HP.out _).mono ?_
  rintro e w1 ⟨rfl, ⟨nd1, rfl⟩⟩
  go_wp2_with fail
  go_ret2
  exact ⟨rfl, ⟨_, rfl⟩⟩
set_option maxHeartbeats 1000000 in
set_option maxRecDepth 100000 in
theorem isMoved_MaxClients (m : ByteArray) (g : Nat) (w : World) (hb : w.heap[g]? = some (.cells #[.string m] 120 (0, 0))) (hz : m.size ≤ 1000) (hn : NoX m 2) : Calls Tryz.prog 18 #[.iface 69 (.pointer (some ⟨g, 0, none⟩))] w fun e w' => e = .returned (.tuple #[.pointer (none), .bool false]) ∧ Drawn0 w w' := by
  have HE := Lib.hid (err_MaxClients m g w hb)
  have HP := Lib.hid (fun w => hp_no m _ (show ¬ At (pre 2) m 0 from hn) w)
  have t1 : ∀ w, (Instr.typeAssert (.iface 69 (.pointer (some ⟨g, 0, none⟩))) 33 38 true).run Tryz.prog w = .ok (.tuple #[.pointer none, .bool false]) w := fun _ => by kernel_rfl
  have hm := meth_MaxClients
  have ha := ahead_MaxClients
  clear hb hn
  go_enter Tryz.func18, Tryz.ntmps18
  go_wp2_with fail
  refine HE.out.mono ?_
  rintro e w0 ⟨rfl, rfl⟩
  go_wp2_with fail
  refine (HP.out _).mono ?_
  rintro e w1 ⟨rfl, ⟨nd1, rfl⟩⟩
  go_wp2_with fail
  go_ret2
  exact ⟨rfl, ⟨_, rfl⟩⟩
set_option maxHeartbeats 1000000 in
set_option maxRecDepth 100000 in
theorem isMoved_Auth (m : ByteArray) (g : Nat) (w : World) (hb : w.heap[g]? = some (.cells #[.string m] 121 (0, 0))) (hz : m.size ≤ 1000) (hn : NoX m 2) : Calls Tryz.prog 18 #[.iface 71 (.pointer (some ⟨g, 0, none⟩))] w fun e w' => e = .returned (.tuple #[.pointer (none), .bool false]) ∧ Drawn0 w w' := by
  have HE := Lib.hid (err_Auth m g w hb)
  have HP := Lib.hid (fun w => hp_no m _ (show ¬ At (pre 2) m 0 from hn) w)
  have t1 : ∀ w, (Instr.typeAssert (.iface 71 (.pointer (some ⟨g, 0, none⟩))) 33 38 true).run Tryz.prog w = .ok (.tuple #[.pointer none, .bool false]) w := fun _ => by kernel_rfl
  have hm := meth_Auth
  have ha := ahead_Auth
  clear hb hn
  go_enter Tryz.func18, Tryz.ntmps18
  go_wp2_with fail
  refine HE.out.mono ?_
  rintro e w0 ⟨rfl, rfl⟩
  go_wp2_with fail
  refine (HP.out _).mono ?_
  rintro e w1 ⟨rfl, ⟨nd1, rfl⟩⟩
  go_wp2_with fail
  go_ret2
  exact ⟨rfl, ⟨_, rfl⟩⟩
set_option maxHeartbeats 1000000 in
set_option maxRecDepth 100000 in
theorem isMoved_Permission (m : ByteArray) (g : Nat) (w : World) (hb : w.heap[g]? = some (.cells #[.string m] 122 (0, 0))) (hz : m.size ≤ 1000) (hn : NoX m 2) : Calls Tryz.prog 18 #[.iface 73 (.pointer (some ⟨g, 0, none⟩))] w fun e w' => e = .returned (.tuple #[.pointer (none), .bool false]) ∧ Drawn0 w w' := by
  have HE := Lib.hid (err_Permission m g w hb)
  have HP := Lib.hid (fun w => hp_no m _ (show ¬ At (pre 2) m 0 from hn) w)
  have t1 : ∀ w, (Instr.typeAssert (.iface 73 (.pointer (some ⟨g, 0, none⟩))) 33 38 true).run Tryz.prog w = .ok (.tuple #[.pointer none, .bool false]) w := fun _ => by kernel_rfl
  have hm := meth_Permission
  have ha := ahead_Permission
  clear hb hn
  go_enter Tryz.func18, Tryz.ntmps18
  go_wp2_with fail
  refine HE.out.mono ?_
  rintro e w0 ⟨rfl, rfl⟩
  go_wp2_with fail
  refine (HP.out _).mono ?_
  rintro e w1 ⟨rfl, ⟨nd1, rfl⟩⟩
  go_wp2_with fail
  go_ret2
  exact ⟨rfl, ⟨_, rfl⟩⟩
set_option maxHeartbeats 1000000 in
set_option maxRecDepth 100000 in
theorem isMoved_ExecAbort (m : ByteArray) (g : Nat) (w : World) (hb : w.heap[g]? = some (.cells #[.string m] 123 (0, 0))) (hz : m.size ≤ 1000) (hn : NoX m 2) : Calls Tryz.prog 18 #[.iface 75 (.pointer (some ⟨g, 0, none⟩))] w fun e w' => e = .returned (.tuple #[.pointer (none), .bool false]) ∧ Drawn0 w w' := by
  have HE := Lib.hid (err_ExecAbort m g w hb)
  have HP := Lib.hid (fun w => hp_no m _ (show ¬ At (pre 2) m 0 from hn) w)
  have t1 : ∀ w, (Instr.typeAssert (.iface 75 (.pointer (some ⟨g, 0, none⟩))) 33 38 true).run Tryz.prog w = .ok (.tuple #[.pointer none, .bool false]) w := fun _ => by kernel_rfl
  have hm := meth_ExecAbort
  have ha := ahead_ExecAbort
  clear hb hn
  go_enter Tryz.func18, Tryz.ntmps18
  go_wp2_with fail
  refine HE.out.mono ?_
  rintro e w0 ⟨rfl, rfl⟩
  go_wp2_with fail
  refine (HP.out _).mono ?_
  rintro e w1 ⟨rfl, ⟨nd1, rfl⟩⟩
  go_wp2_with fail
  go_ret2
  exact ⟨rfl, ⟨_, rfl⟩⟩
set_option maxHeartbeats 1000000 in
set_option maxRecDepth 100000 in
theorem isMoved_OOM (m : ByteArray) (g : Nat) (w : World) (hb : w.heap[g]? = some (.cells #[.string m] 124 (0, 0))) (hz : m.size ≤ 1000) (hn : NoX m 2) : Calls Tryz.prog 18 #[.iface 77 (.pointer (some ⟨g, 0, none⟩))] w fun e w' => e = .returned (.tuple #[.pointer (none), .bool false]) ∧ Drawn0 w w' := by
  have HE := Lib.hid (err_OOM m g w hb)
  have HP := Lib.hid (fun w => hp_no m _ (show ¬ At (pre 2) m 0 from hn) w)
  have t1 : ∀ w, (Instr.typeAssert (.iface 77 (.pointer (some ⟨g, 0, none⟩))) 33 38 true).run Tryz.prog w = .ok (.tuple #[.pointer none, .bool false]) w := fun _ => by kernel_rfl
  have hm := meth_OOM
  have ha := ahead_OOM
  clear hb hn
  go_enter Tryz.func18, Tryz.ntmps18
  go_wp2_with fail
  refine HE.out.mono ?_
  rintro e w0 ⟨rfl, rfl⟩
  go_wp2_with fail
  refine (HP.out _).mono ?_
  rintro e w1 ⟨rfl, ⟨nd1, rfl⟩⟩
  go_wp2_with fail
  go_ret2
  exact ⟨rfl, ⟨_, rfl⟩⟩
set_option maxHeartbeats 1000000 in
set_option maxRecDepth 100000 in
theorem isMoved_R (m : ByteArray) (w : World) (hz : m.size ≤ 1000) (hn : NoX m 2) : Calls Tryz.prog 18 #[.iface 55 (.string m)] w fun e w' => e = .returned (.tuple #[.pointer (none), .bool false]) ∧ Drawn0 w w' := by
  have HP := Lib.hid (fun w => hp_no m _ (show ¬ At (pre 2) m 0 from hn) w)
  have t1 : ∀ w, (Instr.typeAssert (.iface 55 (.string m)) 33 38 true).run Tryz.prog w = .ok (.tuple #[.pointer none, .bool false]) w := fun _ => by kernel_rfl
  have hm := re_meth
  have ha := re_ahead
  clear hn
  go_enter Tryz.func18, Tryz.ntmps18
  go_wp2_with fail
  refine (re_error m _).mono ?_
  rintro e w0 ⟨rfl, rfl⟩
  go_wp2_with fail
  refine (HP.out _).mono ?_
  rintro e w1 ⟨rfl, ⟨nd1, rfl⟩⟩
  go_wp2_with fail
  go_ret2
  exact ⟨rfl, ⟨_, rfl⟩⟩
/-- What the question answers: a pointer and whether it is one. -/
def IsMovedR (w : World) (m a : ByteArray) (b : Bool) (e : Ending) (w' : World) : Prop := ∃ p, e = .returned (.tuple #[.pointer p, .bool b]) ∧ (b = true → ∃ g, p = some ⟨g, 0, none⟩ ∧ w.heap[g]? = some (.cells #[.string m, .string a] 61 (0, 0))) ∧ Drawn0 w w'
theorem isMoved_any (m a : ByteArray) (c : Nat) (v : Value) (b : Bool) (w : World) (hc : c ≤ 13) (hv : EVal w m a c v) (hz : m.size ≤ 1000) (hb : Bx m c 2 b) : Calls Tryz.prog 18 #[v] w fun e w' => IsMovedR w m a b e w' := by
  rcases hb with ⟨rfl, rfl⟩ | ⟨rfl, hne, hn⟩ | ⟨h8, rfl, rfl, ha⟩
  · obtain ⟨g, rfl, hb⟩ := hv
    exact (isMoved_own g w).mono fun e w' ⟨h1, h2⟩ => ⟨_, h1, fun _ => ⟨g, rfl, hb⟩, h2⟩
  · have hcs : c = 0 ∨ c = 1 ∨ c = 3 ∨ c = 4 ∨ c = 5 ∨ c = 6 ∨ c = 7 ∨ c = 8 ∨ c = 9 ∨ c = 10 ∨ c = 11 ∨ c = 12 ∨ c = 13 := by omega
    rcases hcs with rfl | rfl | rfl | rfl | rfl | rfl | rfl | rfl | rfl | rfl | rfl | rfl | rfl
    · obtain ⟨g, rfl, hb⟩ := hv
      exact (isMoved_Loading m g w hb hz hn).mono fun e w' ⟨h1, h2⟩ => ⟨none, h1, (fun h => by cases h), h2⟩
    · obtain ⟨g, rfl, hb⟩ := hv
      exact (isMoved_ReadOnly m g w hb hz hn).mono fun e w' ⟨h1, h2⟩ => ⟨none, h1, (fun h => by cases h), h2⟩
    · obtain ⟨g, rfl, hb⟩ := hv
      exact (isMoved_Ask m a g w hb hz hn).mono fun e w' ⟨h1, h2⟩ => ⟨none, h1, (fun h => by cases h), h2⟩
    · obtain ⟨g, rfl, hb⟩ := hv
      exact (isMoved_ClusterDown m g w hb hz hn).mono fun e w' ⟨h1, h2⟩ => ⟨none, h1, (fun h => by cases h), h2⟩
    · obtain ⟨g, rfl, hb⟩ := hv
      exact (isMoved_TryAgain m g w hb hz hn).mono fun e w' ⟨h1, h2⟩ => ⟨none, h1, (fun h => by cases h), h2⟩
    · obtain ⟨g, rfl, hb⟩ := hv
      exact (isMoved_MasterDown m g w hb hz hn).mono fun e w' ⟨h1, h2⟩ => ⟨none, h1, (fun h => by cases h), h2⟩
    · obtain ⟨g, rfl, hb⟩ := hv
      exact (isMoved_NoReplicas m g w hb hz hn).mono fun e w' ⟨h1, h2⟩ => ⟨none, h1, (fun h => by cases h), h2⟩
    · obtain ⟨g, rfl, hb⟩ := hv
      exact (isMoved_MaxClients m g w hb hz hn).mono fun e w' ⟨h1, h2⟩ => ⟨none, h1, (fun h => by cases h), h2⟩
    · obtain ⟨g, rfl, hb⟩ := hv
      exact (isMoved_Auth m g w hb hz hn).mono fun e w' ⟨h1, h2⟩ => ⟨none, h1, (fun h => by cases h), h2⟩
    · obtain ⟨g, rfl, hb⟩ := hv
      exact (isMoved_Permission m g w hb hz hn).mono fun e w' ⟨h1, h2⟩ => ⟨none, h1, (fun h => by cases h), h2⟩
    · obtain ⟨g, rfl, hb⟩ := hv
      exact (isMoved_ExecAbort m g w hb hz hn).mono fun e w' ⟨h1, h2⟩ => ⟨none, h1, (fun h => by cases h), h2⟩
    · obtain ⟨g, rfl, hb⟩ := hv
      exact (isMoved_OOM m g w hb hz hn).mono fun e w' ⟨h1, h2⟩ => ⟨none, h1, (fun h => by cases h), h2⟩
    · obtain rfl : v = _ := hv
      exact (isMoved_R m w hz hn).mono fun e w' ⟨h1, h2⟩ => ⟨none, h1, (fun h => by cases h), h2⟩
  · exact absurd h8 (by decide)
end Go.Proofs.YtkogipaaioibaaaGreat

namespace Go.Proofs.YtkogipaaioibaaaGreat
set_option linter.unusedVariables false
set_option linter.unusedSimpArgs false
open Go.RowKit Go.Proofs.YtkogipaaioibaaaGreatW.PrintWords
set_option maxHeartbeats 1000000 in
set_option maxRecDepth 100000 in
theorem isAsk_own (g : Nat) (w : World) : Calls Tryz.prog 20 #[.iface 42 (.pointer (some ⟨g, 0, none⟩))] w fun e w' => e = .returned (.tuple #[.pointer (some ⟨g, 0, none⟩), .bool true]) ∧ Drawn0 w w' := by
  have t1 : ∀ w, (Instr.typeAssert (.iface 42 (.pointer (some ⟨g, 0, none⟩))) 33 42 true).run Tryz.prog w = .ok (.tuple #[.pointer (some ⟨g, 0, none⟩), .bool true]) w := fun _ => by kernel_rfl
  go_enter Tryz.func20, Tryz.ntmps20
  go_wp2_with fail
  go_ret2
  exact ⟨rfl, Drawn0.refl _⟩
set_option maxHeartbeats 1000000 in
set_option maxRecDepth 100000 in
theorem isAsk_Loading (m : ByteArray) (g : Nat) (w : World) (hb : w.heap[g]? = some (.cells #[.string m] 114 (0, 0))) (hz : m.size ≤ 1000) (hn : NoX m 3) : Calls Tryz.prog 20 #[.iface 53 (.pointer (some ⟨g, 0, none⟩))] w fun e w' => e = .returned (.tuple #[.pointer (none), .bool false]) ∧ Drawn0 w w' := by
  have HE := Lib.hid (err_Loading m g w hb)
  have HP := Lib.hid (fun w => hp_no m _ (show ¬ At (pre 3) m 0 from hn) w)
  have t1 : ∀ w, (Instr.typeAssert (.iface 53 (.pointer (some ⟨g, 0, none⟩))) 33 42 true).run Tryz.prog w = .ok (.tuple #[.pointer none, .bool false]) w := fun _ => by kernel_rfl
  have hm := meth_Loading
  have ha := ahead_Loading
  clear hb hn
  go_enter Tryz.func20, Tryz.ntmps20
  go_wp2_with fail
  refine HE.out.mono ?_
  rintro e w0 ⟨rfl, rfl⟩
  go_wp2_with fail
  refine (HP.out _).mono ?_
  rintro e w1 ⟨rfl, ⟨nd1, rfl⟩⟩
  go_wp2_with fail
  go_ret2
  exact ⟨rfl, ⟨_, rfl⟩⟩
set_option maxHeartbeats 1000000 in
set_option maxRecDepth 100000 in
theorem isAsk_ReadOnly (m : ByteArray) (g : Nat) (w : World) (hb : w.heap[g]? = some (.cells #[.string m] 115 (0, 0))) (hz : m.size ≤ 1000) (hn : NoX m 3) : Calls Tryz.prog 20 #[.iface 57 (.pointer (some ⟨g, 0, none⟩))] w fun e w' => e = .returned (.tuple #[.pointer (none), .bool false]) ∧ Drawn0 w w' := by
  have HE := Lib.hid (err_ReadOnly m g w hb)
  have HP := Lib.hid (fun w => hp_no m _ (show ¬ At (pre 3) m 0 from hn) w)
  have t1 : ∀ w, (Instr.typeAssert (.iface 57 (.pointer (some ⟨g, 0, none⟩))) 33 42 true).run Tryz.prog w = .ok (.tuple #[.pointer none, .bool false]) w := fun _ => by kernel_rfl
  have hm := meth_ReadOnly
  have ha := ahead_ReadOnly
  clear hb hn
  go_enter Tryz.func20, Tryz.ntmps20
  go_wp2_with fail
  refine HE.out.mono ?_
  rintro e w0 ⟨rfl, rfl⟩
  go_wp2_with fail
  refine (HP.out _).mono ?_
  rintro e w1 ⟨rfl, ⟨nd1, rfl⟩⟩
  go_wp2_with fail
  go_ret2
  exact ⟨rfl, ⟨_, rfl⟩⟩
set_option maxHeartbeats 1000000 in
set_option maxRecDepth 100000 in
theorem isAsk_Moved (m a : ByteArray) (g : Nat) (w : World) (hb : w.heap[g]? = some (.cells #[.string m, .string a] 61 (0, 0))) (hz : m.size ≤ 1000) (hn : NoX m 3) : Calls Tryz.prog 20 #[.iface 38 (.pointer (some ⟨g, 0, none⟩))] w fun e w' => e = .returned (.tuple #[.pointer (none), .bool false]) ∧ Drawn0 w w' := by
  have HE := Lib.hid (err_Moved m a g w hb)
  have HP := Lib.hid (fun w => hp_no m _ (show ¬ At (pre 3) m 0 from hn) w)
  have t1 : ∀ w, (Instr.typeAssert (.iface 38 (.pointer (some ⟨g, 0, none⟩))) 33 42 true).run Tryz.prog w = .ok (.tuple #[.pointer none, .bool false]) w := fun _ => by kernel_rfl
  have hm := meth_Moved
  have ha := ahead_Moved
  clear hb hn
  go_enter Tryz.func20, Tryz.ntmps20
  go_wp2_with fail
  refine HE.out.mono ?_
  rintro e w0 ⟨rfl, rfl⟩
  go_wp2_with fail
  refine (HP.out _).mono ?_
  rintro e w1 ⟨rfl, ⟨nd1, rfl⟩⟩
  go_wp2_with fail
  go_ret2
  exact ⟨rfl, ⟨_, rfl⟩⟩
set_option maxHeartbeats 1000000 in
set_option maxRecDepth 100000 in
theorem isAsk_ClusterDown (m : ByteArray) (g : Nat) (w : World) (hb : w.heap[g]? = some (.cells #[.string m] 116 (0, 0))) (hz : m.size ≤ 1000) (hn : NoX m 3) : Calls Tryz.prog 20 #[.iface 63 (.pointer (some ⟨g, 0, none⟩))] w fun e w' => e = .returned (.tuple #[.pointer (none), .bool false]) ∧ Drawn0 w w' := by
  have HE := Lib.hid (err_ClusterDown m g w hb)
  have HP := Lib.hid (fun w => hp_no m _ (show ¬ At (pre 3) m 0 from hn) w)
  have t1 : ∀ w, (Instr.typeAssert (.iface 63 (.pointer (some ⟨g, 0, none⟩))) 33 42 true).run Tryz.prog w = .ok (.tuple #[.pointer none, .bool false]) w := fun _ => by kernel_rfl
  have hm := meth_ClusterDown
  have ha := ahead_ClusterDown
  clear hb hn
  go_enter Tryz.func20, Tryz.ntmps20
  go_wp2_with fail
  refine HE.out.mono ?_
  rintro e w0 ⟨rfl, rfl⟩
  go_wp2_with fail
  refine (HP.out _).mono ?_
  rintro e w1 ⟨rfl, ⟨nd1, rfl⟩⟩
  go_wp2_with fail
  go_ret2
  exact ⟨rfl, ⟨_, rfl⟩⟩
set_option maxHeartbeats 1000000 in
set_option maxRecDepth 100000 in
theorem isAsk_TryAgain (m : ByteArray) (g : Nat) (w : World) (hb : w.heap[g]? = some (.cells #[.string m] 117 (0, 0))) (hz : m.size ≤ 1000) (hn : NoX m 3) : Calls Tryz.prog 20 #[.iface 65 (.pointer (some ⟨g, 0, none⟩))] w fun e w' => e = .returned (.tuple #[.pointer (none), .bool false]) ∧ Drawn0 w w' := by
  have HE := Lib.hid (err_TryAgain m g w hb)
  have HP := Lib.hid (fun w => hp_no m _ (show ¬ At (pre 3) m 0 from hn) w)
  have t1 : ∀ w, (Instr.typeAssert (.iface 65 (.pointer (some ⟨g, 0, none⟩))) 33 42 true).run Tryz.prog w = .ok (.tuple #[.pointer none, .bool false]) w := fun _ => by kernel_rfl
  have hm := meth_TryAgain
  have ha := ahead_TryAgain
  clear hb hn
  go_enter Tryz.func20, Tryz.ntmps20
  go_wp2_with fail
  refine HE.out.mono ?_
  rintro e w0 ⟨rfl, rfl⟩
  go_wp2_with fail
  refine (HP.out _).mono ?_
  rintro e w1 ⟨rfl, ⟨nd1, rfl⟩⟩
  go_wp2_with fail
  go_ret2
  exact ⟨rfl, ⟨_, rfl⟩⟩
set_option maxHeartbeats 1000000 in
set_option maxRecDepth 100000 in
theorem isAsk_MasterDown (m : ByteArray) (g : Nat) (w : World) (hb : w.heap[g]? = some (.cells #[.string m] 118 (0, 0))) (hz : m.size ≤ 1000) (hn : NoX m 3) : Calls Tryz.prog 20 #[.iface 67 (.pointer (some ⟨g, 0, none⟩))] w fun e w' => e = .returned (.tuple #[.pointer (none), .bool false]) ∧ Drawn0 w w' := by
  have HE := Lib.hid (err_MasterDown m g w hb)
  have HP := Lib.hid (fun w => hp_no m _ (show ¬ At (pre 3) m 0 from hn) w)
  have t1 : ∀ w, (Instr.typeAssert (.iface 67 (.pointer (some ⟨g, 0, none⟩))) 33 42 true).run Tryz.prog w = .ok (.tuple #[.pointer none, .bool false]) w := fun _ => by kernel_rfl
  have hm := meth_MasterDown
  have ha := ahead_MasterDown
  clear hb hn
  go_enter Tryz.func20, Tryz.ntmps20
  go_wp2_with fail
  refine HE.out.mono ?_
  rintro e w0 ⟨rfl, rfl⟩
  go_wp2_with fail
  refine (HP.out _).mono ?_
  rintro e w1 ⟨rfl, ⟨nd1, rfl⟩⟩
  go_wp2_with fail
  go_ret2
  exact ⟨rfl, ⟨_, rfl⟩⟩
set_option maxHeartbeats 1000000 in
set_option maxRecDepth 100000 in
theorem isAsk_NoReplicas (m : ByteArray) (g : Nat) (w : World) (hb : w.heap[g]? = some (.cells #[.string m] 119 (0, 0))) (hz : m.size ≤ 1000) (hn : NoX m 3) : Calls Tryz.prog 20 #[.iface 79 (.pointer (some ⟨g, 0, none⟩))] w fun e w' => e = .returned (.tuple #[.pointer (none), .bool false]) ∧ Drawn0 w w' := by
  have HE := Lib.hid (err_NoReplicas m g w hb)
  have HP := Lib.hid (fun w => hp_no m _ (show ¬ At (pre 3) m 0 from hn) w)
  have t1 : ∀ w, (Instr.typeAssert (.iface 79 (.pointer (some ⟨g, 0, none⟩))) 33 42 true).run Tryz.prog w = .ok (.tuple #[.pointer none, .bool false]) w := fun _ => by kernel_rfl
  have hm := meth_NoReplicas
  have ha := ahead_NoReplicas
  clear hb hn
  go_enter Tryz.func20, Tryz.ntmps20
  go_wp2_with fail
  refine HE.out.mono ?_
  rintro e w0 ⟨rfl, rfl⟩
  go_wp2_with fail
  refine (HP.out _).mono ?_
  rintro e w1 ⟨rfl, ⟨nd1, rfl⟩⟩
  go_wp2_with fail
  go_ret2
  exact ⟨rfl, ⟨_, rfl⟩⟩
set_option maxHeartbeats 1000000 in
set_option maxRecDepth 100000 in
theorem isAsk_MaxClients (m : ByteArray) (g : Nat) (w : World) (hb : w.heap[g]? = some (.cells #[.string m] 120 (0, 0))) (hz : m.size ≤ 1000) (hn : NoX m 3) : Calls Tryz.prog 20 #[.iface 69 (.pointer (some ⟨g, 0, none⟩))] w fun e w' => e = .returned (.tuple #[.pointer (none), .bool false]) ∧ Drawn0 w w' := by
  have HE := Lib.hid (err_MaxClients m g w hb)
  have HP := Lib.hid (fun w => hp_no m _ (show ¬ At (pre 3) m 0 from hn) w)
  have t1 : ∀ w, (Instr.typeAssert (.iface 69 (.pointer (some ⟨g, 0, none⟩))) 33 42 true).run Tryz.prog w = .ok (.tuple #[.pointer none, .bool false]) w := fun _ => by kernel_rfl
  have hm := meth_MaxClients
  have ha := ahead_MaxClients
  clear hb hn
  go_enter Tryz.func20, Tryz.ntmps20
  go_wp2_with fail
  refine HE.out.mono ?_
  rintro e w0 ⟨rfl, rfl⟩
  go_wp2_with fail
  refine (HP.out _).mono ?_
  rintro e w1 ⟨rfl, ⟨nd1, rfl⟩⟩
  go_wp2_with fail
  go_ret2
  exact ⟨rfl, ⟨_, rfl⟩⟩
set_option maxHeartbeats 1000000 in
set_option maxRecDepth 100000 in
theorem isAsk_Auth (m : ByteArray) (g : Nat) (w : World) (hb : w.heap[g]? = some (.cells #[.string m] 121 (0, 0))) (hz : m.size ≤ 1000) (hn : NoX m 3) : Calls Tryz.prog 20 #[.iface 71 (.pointer (some ⟨g, 0, none⟩))] w fun e w' => e = .returned (.tuple #[.pointer (none), .bool false]) ∧ Drawn0 w w' := by
  have HE := Lib.hid (err_Auth m g w hb)
  have HP := Lib.hid (fun w => hp_no m _ (show ¬ At (pre 3) m 0 from hn) w)
  have t1 : ∀ w, (Instr.typeAssert (.iface 71 (.pointer (some ⟨g, 0, none⟩))) 33 42 true).run Tryz.prog w = .ok (.tuple #[.pointer none, .bool false]) w := fun _ => by kernel_rfl
  have hm := meth_Auth
  have ha := ahead_Auth
  clear hb hn
  go_enter Tryz.func20, Tryz.ntmps20
  go_wp2_with fail
  refine HE.out.mono ?_
  rintro e w0 ⟨rfl, rfl⟩
  go_wp2_with fail
  refine (HP.out _).mono ?_
  rintro e w1 ⟨rfl, ⟨nd1, rfl⟩⟩
  go_wp2_with fail
  go_ret2
  exact ⟨rfl, ⟨_, rfl⟩⟩
set_option maxHeartbeats 1000000 in
set_option maxRecDepth 100000 in
theorem isAsk_Permission (m : ByteArray) (g : Nat) (w : World) (hb : w.heap[g]? = some (.cells #[.string m] 122 (0, 0))) (hz : m.size ≤ 1000) (hn : NoX m 3) : Calls Tryz.prog 20 #[.iface 73 (.pointer (some ⟨g, 0, none⟩))] w fun e w' => e = .returned (.tuple #[.pointer (none), .bool false]) ∧ Drawn0 w w' := by
  have HE := Lib.hid (err_Permission m g w hb)
  have HP := Lib.hid (fun w => hp_no m _ (show ¬ At (pre 3) m 0 from hn) w)
  have t1 : ∀ w, (Instr.typeAssert (.iface 73 (.pointer (some ⟨g, 0, none⟩))) 33 42 true).run Tryz.prog w = .ok (.tuple #[.pointer none, .bool false]) w := fun _ => by kernel_rfl
  have hm := meth_Permission
  have ha := ahead_Permission
  clear hb hn
  go_enter Tryz.func20, Tryz.ntmps20
  go_wp2_with fail
  refine HE.out.mono ?_
  rintro e w0 ⟨rfl, rfl⟩
  go_wp2_with fail
  refine (HP.out _).mono ?_
  rintro e w1 ⟨rfl, ⟨nd1, rfl⟩⟩
  go_wp2_with fail
  go_ret2
  exact ⟨rfl, ⟨_, rfl⟩⟩
set_option maxHeartbeats 1000000 in
set_option maxRecDepth 100000 in
theorem isAsk_ExecAbort (m : ByteArray) (g : Nat) (w : World) (hb : w.heap[g]? = some (.cells #[.string m] 123 (0, 0))) (hz : m.size ≤ 1000) (hn : NoX m 3) : Calls Tryz.prog 20 #[.iface 75 (.pointer (some ⟨g, 0, none⟩))] w fun e w' => e = .returned (.tuple #[.pointer (none), .bool false]) ∧ Drawn0 w w' := by
  have HE := Lib.hid (err_ExecAbort m g w hb)
  have HP := Lib.hid (fun w => hp_no m _ (show ¬ At (pre 3) m 0 from hn) w)
  have t1 : ∀ w, (Instr.typeAssert (.iface 75 (.pointer (some ⟨g, 0, none⟩))) 33 42 true).run Tryz.prog w = .ok (.tuple #[.pointer none, .bool false]) w := fun _ => by kernel_rfl
  have hm := meth_ExecAbort
  have ha := ahead_ExecAbort
  clear hb hn
  go_enter Tryz.func20, Tryz.ntmps20
  go_wp2_with fail
  refine HE.out.mono ?_
  rintro e w0 ⟨rfl, rfl⟩
  go_wp2_with fail
  refine (HP.out _).mono ?_
  rintro e w1 ⟨rfl, ⟨nd1, rfl⟩⟩
  go_wp2_with fail
  go_ret2
  exact ⟨rfl, ⟨_, rfl⟩⟩
set_option maxHeartbeats 1000000 in
set_option maxRecDepth 100000 in
theorem isAsk_OOM (m : ByteArray) (g : Nat) (w : World) (hb : w.heap[g]? = some (.cells #[.string m] 124 (0, 0))) (hz : m.size ≤ 1000) (hn : NoX m 3) : Calls Tryz.prog 20 #[.iface 77 (.pointer (some ⟨g, 0, none⟩))] w fun e w' => e = .returned (.tuple #[.pointer (none), .bool false]) ∧ Drawn0 w w' := by
  have HE := Lib.hid (err_OOM m g w hb)
  have HP := Lib.hid (fun w => hp_no m _ (show ¬ At (pre 3) m 0 from hn) w)
  have t1 : ∀ w, (Instr.typeAssert (.iface 77 (.pointer (some ⟨g, 0, none⟩))) 33 42 true).run Tryz.prog w = .ok (.tuple #[.pointer none, .bool false]) w := fun _ => by kernel_rfl
  have hm := meth_OOM
  have ha := ahead_OOM
  clear hb hn
  go_enter Tryz.func20, Tryz.ntmps20
  go_wp2_with fail
  refine HE.out.mono ?_
  rintro e w0 ⟨rfl, rfl⟩
  go_wp2_with fail
  refine (HP.out _).mono ?_
  rintro e w1 ⟨rfl, ⟨nd1, rfl⟩⟩
  go_wp2_with fail
  go_ret2
  exact ⟨rfl, ⟨_, rfl⟩⟩
set_option maxHeartbeats 1000000 in
set_option maxRecDepth 100000 in
theorem isAsk_R (m : ByteArray) (w : World) (hz : m.size ≤ 1000) (hn : NoX m 3) : Calls Tryz.prog 20 #[.iface 55 (.string m)] w fun e w' => e = .returned (.tuple #[.pointer (none), .bool false]) ∧ Drawn0 w w' := by
  have HP := Lib.hid (fun w => hp_no m _ (show ¬ At (pre 3) m 0 from hn) w)
  have t1 : ∀ w, (Instr.typeAssert (.iface 55 (.string m)) 33 42 true).run Tryz.prog w = .ok (.tuple #[.pointer none, .bool false]) w := fun _ => by kernel_rfl
  have hm := re_meth
  have ha := re_ahead
  clear hn
  go_enter Tryz.func20, Tryz.ntmps20
  go_wp2_with fail
  refine (re_error m _).mono ?_
  rintro e w0 ⟨rfl, rfl⟩
  go_wp2_with fail
  refine (HP.out _).mono ?_
  rintro e w1 ⟨rfl, ⟨nd1, rfl⟩⟩
  go_wp2_with fail
  go_ret2
  exact ⟨rfl, ⟨_, rfl⟩⟩
/-- What the question answers: a pointer and whether it is one. -/
def IsAskR (w : World) (m a : ByteArray) (b : Bool) (e : Ending) (w' : World) : Prop := ∃ p, e = .returned (.tuple #[.pointer p, .bool b]) ∧ (b = true → ∃ g, p = some ⟨g, 0, none⟩ ∧ w.heap[g]? = some (.cells #[.string m, .string a] 62 (0, 0))) ∧ Drawn0 w w'
theorem isAsk_any (m a : ByteArray) (c : Nat) (v : Value) (b : Bool) (w : World) (hc : c ≤ 13) (hv : EVal w m a c v) (hz : m.size ≤ 1000) (hb : Bx m c 3 b) : Calls Tryz.prog 20 #[v] w fun e w' => IsAskR w m a b e w' := by
  rcases hb with ⟨rfl, rfl⟩ | ⟨rfl, hne, hn⟩ | ⟨h8, rfl, rfl, ha⟩
  · obtain ⟨g, rfl, hb⟩ := hv
    exact (isAsk_own g w).mono fun e w' ⟨h1, h2⟩ => ⟨_, h1, fun _ => ⟨g, rfl, hb⟩, h2⟩
  · have hcs : c = 0 ∨ c = 1 ∨ c = 2 ∨ c = 4 ∨ c = 5 ∨ c = 6 ∨ c = 7 ∨ c = 8 ∨ c = 9 ∨ c = 10 ∨ c = 11 ∨ c = 12 ∨ c = 13 := by omega
    rcases hcs with rfl | rfl | rfl | rfl | rfl | rfl | rfl | rfl | rfl | rfl | rfl | rfl | rfl
    · obtain ⟨g, rfl, hb⟩ := hv
      exact (isAsk_Loading m g w hb hz hn).mono fun e w' ⟨h1, h2⟩ => ⟨none, h1, (fun h => by cases h), h2⟩
    · obtain ⟨g, rfl, hb⟩ := hv
      exact (isAsk_ReadOnly m g w hb hz hn).mono fun e w' ⟨h1, h2⟩ => ⟨none, h1, (fun h => by cases h), h2⟩
    · obtain ⟨g, rfl, hb⟩ := hv
      exact (isAsk_Moved m a g w hb hz hn).mono fun e w' ⟨h1, h2⟩ => ⟨none, h1, (fun h => by cases h), h2⟩
    · obtain ⟨g, rfl, hb⟩ := hv
      exact (isAsk_ClusterDown m g w hb hz hn).mono fun e w' ⟨h1, h2⟩ => ⟨none, h1, (fun h => by cases h), h2⟩
    · obtain ⟨g, rfl, hb⟩ := hv
      exact (isAsk_TryAgain m g w hb hz hn).mono fun e w' ⟨h1, h2⟩ => ⟨none, h1, (fun h => by cases h), h2⟩
    · obtain ⟨g, rfl, hb⟩ := hv
      exact (isAsk_MasterDown m g w hb hz hn).mono fun e w' ⟨h1, h2⟩ => ⟨none, h1, (fun h => by cases h), h2⟩
    · obtain ⟨g, rfl, hb⟩ := hv
      exact (isAsk_NoReplicas m g w hb hz hn).mono fun e w' ⟨h1, h2⟩ => ⟨none, h1, (fun h => by cases h), h2⟩
    · obtain ⟨g, rfl, hb⟩ := hv
      exact (isAsk_MaxClients m g w hb hz hn).mono fun e w' ⟨h1, h2⟩ => ⟨none, h1, (fun h => by cases h), h2⟩
    · obtain ⟨g, rfl, hb⟩ := hv
      exact (isAsk_Auth m g w hb hz hn).mono fun e w' ⟨h1, h2⟩ => ⟨none, h1, (fun h => by cases h), h2⟩
    · obtain ⟨g, rfl, hb⟩ := hv
      exact (isAsk_Permission m g w hb hz hn).mono fun e w' ⟨h1, h2⟩ => ⟨none, h1, (fun h => by cases h), h2⟩
    · obtain ⟨g, rfl, hb⟩ := hv
      exact (isAsk_ExecAbort m g w hb hz hn).mono fun e w' ⟨h1, h2⟩ => ⟨none, h1, (fun h => by cases h), h2⟩
    · obtain ⟨g, rfl, hb⟩ := hv
      exact (isAsk_OOM m g w hb hz hn).mono fun e w' ⟨h1, h2⟩ => ⟨none, h1, (fun h => by cases h), h2⟩
    · obtain rfl : v = _ := hv
      exact (isAsk_R m w hz hn).mono fun e w' ⟨h1, h2⟩ => ⟨none, h1, (fun h => by cases h), h2⟩
  · exact absurd h8 (by decide)
end Go.Proofs.YtkogipaaioibaaaGreat

namespace Go.Proofs.YtkogipaaioibaaaGreat
set_option linter.unusedVariables false
set_option linter.unusedSimpArgs false
open Go.RowKit Go.Proofs.YtkogipaaioibaaaGreatW.PrintWords
set_option maxHeartbeats 1000000 in
set_option maxRecDepth 100000 in
theorem isClusterDown_own (g : Nat) (w : World) : Calls Tryz.prog 22 #[.iface 63 (.pointer (some ⟨g, 0, none⟩))] w fun e w' => e = .returned (.bool true) ∧ Drawn0 w w' := by
  have t1 : ∀ w, (Instr.typeAssert (.iface 63 (.pointer (some ⟨g, 0, none⟩))) 33 63 true).run Tryz.prog w = .ok (.tuple #[.pointer (some ⟨g, 0, none⟩), .bool true]) w := fun _ => by kernel_rfl
  go_enter Tryz.func22, Tryz.ntmps22
  go_wp2_with fail
  go_ret
  exact ⟨rfl, Drawn0.refl _⟩
set_option maxHeartbeats 1000000 in
set_option maxRecDepth 100000 in
theorem isClusterDown_Loading (m : ByteArray) (g : Nat) (w : World) (hb : w.heap[g]? = some (.cells #[.string m] 114 (0, 0))) (hz : m.size ≤ 1000) (hn : NoX m 4) : Calls Tryz.prog 22 #[.iface 53 (.pointer (some ⟨g, 0, none⟩))] w fun e w' => e = .returned (.bool false) ∧ Drawn0 w w' := by
  have HE := Lib.hid (err_Loading m g w hb)
  have HP := Lib.hid (fun w => hp_no m _ (show ¬ At (pre 4) m 0 from hn) w)
  have t1 : ∀ w, (Instr.typeAssert (.iface 53 (.pointer (some ⟨g, 0, none⟩))) 33 63 true).run Tryz.prog w = .ok (.tuple #[.pointer none, .bool false]) w := fun _ => by kernel_rfl
  have t2 : ∀ w, (Instr.typeAssert (.iface 53 (.pointer (some ⟨g, 0, none⟩))) 33 55 true).run Tryz.prog w = .ok (.tuple #[.string ⟨#[]⟩, .bool false]) w := fun _ => by kernel_rfl
  have hm := meth_Loading
  have ha := ahead_Loading
  clear hb hn
  go_enter Tryz.func22, Tryz.ntmps22
  go_wp2_with fail
  refine HE.out.mono ?_
  rintro e w0 ⟨rfl, rfl⟩
  go_wp2_with fail
  refine (HP.out _).mono ?_
  rintro e w1 ⟨rfl, ⟨nd1, rfl⟩⟩
  go_wp2_with fail
  go_ret
  exact ⟨rfl, ⟨_, rfl⟩⟩
set_option maxHeartbeats 1000000 in
set_option maxRecDepth 100000 in
theorem isClusterDown_ReadOnly (m : ByteArray) (g : Nat) (w : World) (hb : w.heap[g]? = some (.cells #[.string m] 115 (0, 0))) (hz : m.size ≤ 1000) (hn : NoX m 4) : Calls Tryz.prog 22 #[.iface 57 (.pointer (some ⟨g, 0, none⟩))] w fun e w' => e = .returned (.bool false) ∧ Drawn0 w w' := by
  have HE := Lib.hid (err_ReadOnly m g w hb)
  have HP := Lib.hid (fun w => hp_no m _ (show ¬ At (pre 4) m 0 from hn) w)
  have t1 : ∀ w, (Instr.typeAssert (.iface 57 (.pointer (some ⟨g, 0, none⟩))) 33 63 true).run Tryz.prog w = .ok (.tuple #[.pointer none, .bool false]) w := fun _ => by kernel_rfl
  have t2 : ∀ w, (Instr.typeAssert (.iface 57 (.pointer (some ⟨g, 0, none⟩))) 33 55 true).run Tryz.prog w = .ok (.tuple #[.string ⟨#[]⟩, .bool false]) w := fun _ => by kernel_rfl
  have hm := meth_ReadOnly
  have ha := ahead_ReadOnly
  clear hb hn
  go_enter Tryz.func22, Tryz.ntmps22
  go_wp2_with fail
  refine HE.out.mono ?_
  rintro e w0 ⟨rfl, rfl⟩
  go_wp2_with fail
  refine (HP.out _).mono ?_
  rintro e w1 ⟨rfl, ⟨nd1, rfl⟩⟩
  go_wp2_with fail
  go_ret
  exact ⟨rfl, ⟨_, rfl⟩⟩
set_option maxHeartbeats 1000000 in
set_option maxRecDepth 100000 in
theorem isClusterDown_Moved (m a : ByteArray) (g : Nat) (w : World) (hb : w.heap[g]? = some (.cells #[.string m, .string a] 61 (0, 0))) (hz : m.size ≤ 1000) (hn : NoX m 4) : Calls Tryz.prog 22 #[.iface 38 (.pointer (some ⟨g, 0, none⟩))] w fun e w' => e = .returned (.bool false) ∧ Drawn0 w w' := by
  have HE := Lib.hid (err_Moved m a g w hb)
  have HP := Lib.hid (fun w => hp_no m _ (show ¬ At (pre 4) m 0 from hn) w)
  have t1 : ∀ w, (Instr.typeAssert (.iface 38 (.pointer (some ⟨g, 0, none⟩))) 33 63 true).run Tryz.prog w = .ok (.tuple #[.pointer none, .bool false]) w := fun _ => by kernel_rfl
  have t2 : ∀ w, (Instr.typeAssert (.iface 38 (.pointer (some ⟨g, 0, none⟩))) 33 55 true).run Tryz.prog w = .ok (.tuple #[.string ⟨#[]⟩, .bool false]) w := fun _ => by kernel_rfl
  have hm := meth_Moved
  have ha := ahead_Moved
  clear hb hn
  go_enter Tryz.func22, Tryz.ntmps22
  go_wp2_with fail
  refine HE.out.mono ?_
  rintro e w0 ⟨rfl, rfl⟩
  go_wp2_with fail
  refine (HP.out _).mono ?_
  rintro e w1 ⟨rfl, ⟨nd1, rfl⟩⟩
  go_wp2_with fail
  go_ret
  exact ⟨rfl, ⟨_, rfl⟩⟩
set_option maxHeartbeats 1000000 in
set_option maxRecDepth 100000 in
theorem isClusterDown_Ask (m a : ByteArray) (g : Nat) (w : World) (hb : w.heap[g]? = some (.cells #[.string m, .string a] 62 (0, 0))) (hz : m.size ≤ 1000) (hn : NoX m 4) : Calls Tryz.prog 22 #[.iface 42 (.pointer (some ⟨g, 0, none⟩))] w fun e w' => e = .returned (.bool false) ∧ Drawn0 w w' := by
  have HE := Lib.hid (err_Ask m a g w hb)
  have HP := Lib.hid (fun w => hp_no m _ (show ¬ At (pre 4) m 0 from hn) w)
  have t1 : ∀ w, (Instr.typeAssert (.iface 42 (.pointer (some ⟨g, 0, none⟩))) 33 63 true).run Tryz.prog w = .ok (.tuple #[.pointer none, .bool false]) w := fun _ => by kernel_rfl
  have t2 : ∀ w, (Instr.typeAssert (.iface 42 (.pointer (some ⟨g, 0, none⟩))) 33 55 true).run Tryz.prog w = .ok (.tuple #[.string ⟨#[]⟩, .bool false]) w := fun _ => by kernel_rfl
  have hm := meth_Ask
  have ha := ahead_Ask
  clear hb hn
  go_enter Tryz.func22, Tryz.ntmps22
  go_wp2_with fail
  refine HE.out.mono ?_
  rintro e w0 ⟨rfl, rfl⟩
  go_wp2_with fail
  refine (HP.out _).mono ?_
  rintro e w1 ⟨rfl, ⟨nd1, rfl⟩⟩
  go_wp2_with fail
  go_ret
  exact ⟨rfl, ⟨_, rfl⟩⟩
set_option maxHeartbeats 1000000 in
set_option maxRecDepth 100000 in
theorem isClusterDown_TryAgain (m : ByteArray) (g : Nat) (w : World) (hb : w.heap[g]? = some (.cells #[.string m] 117 (0, 0))) (hz : m.size ≤ 1000) (hn : NoX m 4) : Calls Tryz.prog 22 #[.iface 65 (.pointer (some ⟨g, 0, none⟩))] w fun e w' => e = .returned (.bool false) ∧ Drawn0 w w' := by
  have HE := Lib.hid (err_TryAgain m g w hb)
  have HP := Lib.hid (fun w => hp_no m _ (show ¬ At (pre 4) m 0 from hn) w)
  have t1 : ∀ w, (Instr.typeAssert (.iface 65 (.pointer (some ⟨g, 0, none⟩))) 33 63 true).run Tryz.prog w = .ok (.tuple #[.pointer none, .bool false]) w := fun _ => by kernel_rfl
  have t2 : ∀ w, (Instr.typeAssert (.iface 65 (.pointer (some ⟨g, 0, none⟩))) 33 55 true).run Tryz.prog w = .ok (.tuple #[.string ⟨#[]⟩, .bool false]) w := fun _ => by kernel_rfl
  have hm := meth_TryAgain
  have ha := ahead_TryAgain
  clear hb hn
  go_enter Tryz.func22, Tryz.ntmps22
  go_wp2_with fail
  refine HE.out.mono ?_
  rintro e w0 ⟨rfl, rfl⟩
  go_wp2_with fail
  refine (HP.out _).mono ?_
  rintro e w1 ⟨rfl, ⟨nd1, rfl⟩⟩
  go_wp2_with fail
  go_ret
  exact ⟨rfl, ⟨_, rfl⟩⟩
set_option maxHeartbeats 1000000 in
set_option maxRecDepth 100000 in
theorem isClusterDown_MasterDown (m : ByteArray) (g : Nat) (w : World) (hb : w.heap[g]? = some (.cells #[.string m] 118 (0, 0))) (hz : m.size ≤ 1000) (hn : NoX m 4) : Calls Tryz.prog 22 #[.iface 67 (.pointer (some ⟨g, 0, none⟩))] w fun e w' => e = .returned (.bool false) ∧ Drawn0 w w' := by
  have HE := Lib.hid (err_MasterDown m g w hb)
  have HP := Lib.hid (fun w => hp_no m _ (show ¬ At (pre 4) m 0 from hn) w)
  have t1 : ∀ w, (Instr.typeAssert (.iface 67 (.pointer (some ⟨g, 0, none⟩))) 33 63 true).run Tryz.prog w = .ok (.tuple #[.pointer none, .bool false]) w := fun _ => by kernel_rfl
  have t2 : ∀ w, (Instr.typeAssert (.iface 67 (.pointer (some ⟨g, 0, none⟩))) 33 55 true).run Tryz.prog w = .ok (.tuple #[.string ⟨#[]⟩, .bool false]) w := fun _ => by kernel_rfl
  have hm := meth_MasterDown
  have ha := ahead_MasterDown
  clear hb hn
  go_enter Tryz.func22, Tryz.ntmps22
  go_wp2_with fail
  refine HE.out.mono ?_
  rintro e w0 ⟨rfl, rfl⟩
  go_wp2_with fail
  refine (HP.out _).mono ?_
  rintro e w1 ⟨rfl, ⟨nd1, rfl⟩⟩
  go_wp2_with fail
  go_ret
  exact ⟨rfl, ⟨_, rfl⟩⟩
set_option maxHeartbeats 1000000 in
set_option maxRecDepth 100000 in
theorem isClusterDown_NoReplicas (m : ByteArray) (g : Nat) (w : World) (hb : w.heap[g]? = some (.cells #[.string m] 119 (0, 0))) (hz : m.size ≤ 1000) (hn : NoX m 4) : Calls Tryz.prog 22 #[.iface 79 (.pointer (some ⟨g, 0, none⟩))] w fun e w' => e = .returned (.bool false) ∧ Drawn0 w w' := by
  have HE := Lib.hid (err_NoReplicas m g w hb)
  have HP := Lib.hid (fun w => hp_no m _ (show ¬ At (pre 4) m 0 from hn) w)
  have t1 : ∀ w, (Instr.typeAssert (.iface 79 (.pointer (some ⟨g, 0, none⟩))) 33 63 true).run Tryz.prog w = .ok (.tuple #[.pointer none, .bool false]) w := fun _ => by kernel_rfl
  have t2 : ∀ w, (Instr.typeAssert (.iface 79 (.pointer (some ⟨g, 0, none⟩))) 33 55 true).run Tryz.prog w = .ok (.tuple #[.string ⟨#[]⟩, .bool false]) w := fun _ => by kernel_rfl
  have hm := meth_NoReplicas
  have ha := ahead_NoReplicas
  clear hb hn
  go_enter Tryz.func22, Tryz.ntmps22
  go_wp2_with fail
  refine HE.out.mono ?_
  rintro e w0 ⟨rfl, rfl⟩
  go_wp2_with fail
  refine (HP.out _).mono ?_
  rintro e w1 ⟨rfl, ⟨nd1, rfl⟩⟩
  go_wp2_with fail
  go_ret
  exact ⟨rfl, ⟨_, rfl⟩⟩
set_option maxHeartbeats 1000000 in
set_option maxRecDepth 100000 in
theorem isClusterDown_MaxClients (m : ByteArray) (g : Nat) (w : World) (hb : w.heap[g]? = some (.cells #[.string m] 120 (0, 0))) (hz : m.size ≤ 1000) (hn : NoX m 4) : Calls Tryz.prog 22 #[.iface 69 (.pointer (some ⟨g, 0, none⟩))] w fun e w' => e = .returned (.bool false) ∧ Drawn0 w w' := by
  have HE := Lib.hid (err_MaxClients m g w hb)
  have HP := Lib.hid (fun w => hp_no m _ (show ¬ At (pre 4) m 0 from hn) w)
  have t1 : ∀ w, (Instr.typeAssert (.iface 69 (.pointer (some ⟨g, 0, none⟩))) 33 63 true).run Tryz.prog w = .ok (.tuple #[.pointer none, .bool false]) w := fun _ => by kernel_rfl
  have t2 : ∀ w, (Instr.typeAssert (.iface 69 (.pointer (some ⟨g, 0, none⟩))) 33 55 true).run Tryz.prog w = .ok (.tuple #[.string ⟨#[]⟩, .bool false]) w := fun _ => by kernel_rfl
  have hm := meth_MaxClients
  have ha := ahead_MaxClients
  clear hb hn
  go_enter Tryz.func22, Tryz.ntmps22
  go_wp2_with fail
  refine HE.out.mono ?_
  rintro e w0 ⟨rfl, rfl⟩
  go_wp2_with fail
  refine (HP.out _).mono ?_
  rintro e w1 ⟨rfl, ⟨nd1, rfl⟩⟩
  go_wp2_with fail
  go_ret
  exact ⟨rfl, ⟨_, rfl⟩⟩
set_option maxHeartbeats 1000000 in
set_option maxRecDepth 100000 in
theorem isClusterDown_Auth (m : ByteArray) (g : Nat) (w : World) (hb : w.heap[g]? = some (.cells #[.string m] 121 (0, 0))) (hz : m.size ≤ 1000) (hn : NoX m 4) : Calls Tryz.prog 22 #[.iface 71 (.pointer (some ⟨g, 0, none⟩))] w fun e w' => e = .returned (.bool false) ∧ Drawn0 w w' := by
  have HE := Lib.hid (err_Auth m g w hb)
  have HP := Lib.hid (fun w => hp_no m _ (show ¬ At (pre 4) m 0 from hn) w)
  have t1 : ∀ w, (Instr.typeAssert (.iface 71 (.pointer (some ⟨g, 0, none⟩))) 33 63 true).run Tryz.prog w = .ok (.tuple #[.pointer none, .bool false]) w := fun _ => by kernel_rfl
  have t2 : ∀ w, (Instr.typeAssert (.iface 71 (.pointer (some ⟨g, 0, none⟩))) 33 55 true).run Tryz.prog w = .ok (.tuple #[.string ⟨#[]⟩, .bool false]) w := fun _ => by kernel_rfl
  have hm := meth_Auth
  have ha := ahead_Auth
  clear hb hn
  go_enter Tryz.func22, Tryz.ntmps22
  go_wp2_with fail
  refine HE.out.mono ?_
  rintro e w0 ⟨rfl, rfl⟩
  go_wp2_with fail
  refine (HP.out _).mono ?_
  rintro e w1 ⟨rfl, ⟨nd1, rfl⟩⟩
  go_wp2_with fail
  go_ret
  exact ⟨rfl, ⟨_, rfl⟩⟩
set_option maxHeartbeats 1000000 in
set_option maxRecDepth 100000 in
theorem isClusterDown_Permission (m : ByteArray) (g : Nat) (w : World) (hb : w.heap[g]? = some (.cells #[.string m] 122 (0, 0))) (hz : m.size ≤ 1000) (hn : NoX m 4) : Calls Tryz.prog 22 #[.iface 73 (.pointer (some ⟨g, 0, none⟩))] w fun e w' => e = .returned (.bool false) ∧ Drawn0 w w' := by
  have HE := Lib.hid (err_Permission m g w hb)
  have HP := Lib.hid (fun w => hp_no m _ (show ¬ At (pre 4) m 0 from hn) w)
  have t1 : ∀ w, (Instr.typeAssert (.iface 73 (.pointer (some ⟨g, 0, none⟩))) 33 63 true).run Tryz.prog w = .ok (.tuple #[.pointer none, .bool false]) w := fun _ => by kernel_rfl
  have t2 : ∀ w, (Instr.typeAssert (.iface 73 (.pointer (some ⟨g, 0, none⟩))) 33 55 true).run Tryz.prog w = .ok (.tuple #[.string ⟨#[]⟩, .bool false]) w := fun _ => by kernel_rfl
  have hm := meth_Permission
  have ha := ahead_Permission
  clear hb hn
  go_enter Tryz.func22, Tryz.ntmps22
  go_wp2_with fail
  refine HE.out.mono ?_
  rintro e w0 ⟨rfl, rfl⟩
  go_wp2_with fail
  refine (HP.out _).mono ?_
  rintro e w1 ⟨rfl, ⟨nd1, rfl⟩⟩
  go_wp2_with fail
  go_ret
  exact ⟨rfl, ⟨_, rfl⟩⟩
set_option maxHeartbeats 1000000 in
set_option maxRecDepth 100000 in
theorem isClusterDown_ExecAbort (m : ByteArray) (g : Nat) (w : World) (hb : w.heap[g]? = some (.cells #[.string m] 123 (0, 0))) (hz : m.size ≤ 1000) (hn : NoX m 4) : Calls Tryz.prog 22 #[.iface 75 (.pointer (some ⟨g, 0, none⟩))] w fun e w' => e = .returned (.bool false) ∧ Drawn0 w w' := by
  have HE := Lib.hid (err_ExecAbort m g w hb)
  have HP := Lib.hid (fun w => hp_no m _ (show ¬ At (pre 4) m 0 from hn) w)
  have t1 : ∀ w, (Instr.typeAssert (.iface 75 (.pointer (some ⟨g, 0, none⟩))) 33 63 true).run Tryz.prog w = .ok (.tuple #[.pointer none, .bool false]) w := fun _ => by kernel_rfl
  have t2 : ∀ w, (Instr.typeAssert (.iface 75 (.pointer (some ⟨g, 0, none⟩))) 33 55 true).run Tryz.prog w = .ok (.tuple #[.string ⟨#[]⟩, .bool false]) w := fun _ => by kernel_rfl
  have hm := meth_ExecAbort
  have ha := ahead_ExecAbort
  clear hb hn
  go_enter Tryz.func22, Tryz.ntmps22
  go_wp2_with fail
  refine HE.out.mono ?_
  rintro e w0 ⟨rfl, rfl⟩
  go_wp2_with fail
  refine (HP.out _).mono ?_
  rintro e w1 ⟨rfl, ⟨nd1, rfl⟩⟩
  go_wp2_with fail
  go_ret
  exact ⟨rfl, ⟨_, rfl⟩⟩
set_option maxHeartbeats 1000000 in
set_option maxRecDepth 100000 in
theorem isClusterDown_OOM (m : ByteArray) (g : Nat) (w : World) (hb : w.heap[g]? = some (.cells #[.string m] 124 (0, 0))) (hz : m.size ≤ 1000) (hn : NoX m 4) : Calls Tryz.prog 22 #[.iface 77 (.pointer (some ⟨g, 0, none⟩))] w fun e w' => e = .returned (.bool false) ∧ Drawn0 w w' := by
  have HE := Lib.hid (err_OOM m g w hb)
  have HP := Lib.hid (fun w => hp_no m _ (show ¬ At (pre 4) m 0 from hn) w)
  have t1 : ∀ w, (Instr.typeAssert (.iface 77 (.pointer (some ⟨g, 0, none⟩))) 33 63 true).run Tryz.prog w = .ok (.tuple #[.pointer none, .bool false]) w := fun _ => by kernel_rfl
  have t2 : ∀ w, (Instr.typeAssert (.iface 77 (.pointer (some ⟨g, 0, none⟩))) 33 55 true).run Tryz.prog w = .ok (.tuple #[.string ⟨#[]⟩, .bool false]) w := fun _ => by kernel_rfl
  have hm := meth_OOM
  have ha := ahead_OOM
  clear hb hn
  go_enter Tryz.func22, Tryz.ntmps22
  go_wp2_with fail
  refine HE.out.mono ?_
  rintro e w0 ⟨rfl, rfl⟩
  go_wp2_with fail
  refine (HP.out _).mono ?_
  rintro e w1 ⟨rfl, ⟨nd1, rfl⟩⟩
  go_wp2_with fail
  go_ret
  exact ⟨rfl, ⟨_, rfl⟩⟩
set_option maxHeartbeats 1000000 in
set_option maxRecDepth 100000 in
theorem isClusterDown_R (m : ByteArray) (w : World) (hz : m.size ≤ 1000) (hn : NoX m 4) : Calls Tryz.prog 22 #[.iface 55 (.string m)] w fun e w' => e = .returned (.bool false) ∧ Drawn0 w w' := by
  have HP := Lib.hid (fun w => hp_no m _ (show ¬ At (pre 4) m 0 from hn) w)
  have t1 : ∀ w, (Instr.typeAssert (.iface 55 (.string m)) 33 63 true).run Tryz.prog w = .ok (.tuple #[.pointer none, .bool false]) w := fun _ => by kernel_rfl
  have t2 : ∀ w, (Instr.typeAssert (.iface 55 (.string m)) 33 55 true).run Tryz.prog w = .ok (.tuple #[.string m, .bool true]) w := fun _ => by kernel_rfl
  have hm := re_meth
  have ha := re_ahead
  clear hn
  go_enter Tryz.func22, Tryz.ntmps22
  go_wp2_with fail
  refine (re_error m _).mono ?_
  rintro e w0 ⟨rfl, rfl⟩
  go_wp2_with fail
  refine (HP.out _).mono ?_
  rintro e w1 ⟨rfl, ⟨nd1, rfl⟩⟩
  go_wp2_with fail
  refine (re_error m _).mono ?_
  rintro e wa ⟨rfl, rfl⟩
  go_wp2_with fail
  refine (HP.out _).mono ?_
  rintro e w2 ⟨rfl, ⟨nd2, rfl⟩⟩
  go_wp2_with fail
  go_ret
  exact ⟨rfl, ⟨_, rfl⟩⟩
theorem isClusterDown_any (m a : ByteArray) (c : Nat) (v : Value) (b : Bool) (w : World) (hc : c ≤ 13) (hv : EVal w m a c v) (hz : m.size ≤ 1000) (hb : Bx m c 4 b) : Calls Tryz.prog 22 #[v] w fun e w' => e = .returned (.bool b) ∧ Drawn0 w w' := by
  rcases hb with ⟨rfl, rfl⟩ | ⟨rfl, hne, hn⟩ | ⟨h8, rfl, rfl, ha⟩
  · obtain ⟨g, rfl, hb⟩ := hv
    exact isClusterDown_own g w
  · have hcs : c = 0 ∨ c = 1 ∨ c = 2 ∨ c = 3 ∨ c = 5 ∨ c = 6 ∨ c = 7 ∨ c = 8 ∨ c = 9 ∨ c = 10 ∨ c = 11 ∨ c = 12 ∨ c = 13 := by omega
    rcases hcs with rfl | rfl | rfl | rfl | rfl | rfl | rfl | rfl | rfl | rfl | rfl | rfl | rfl
    · obtain ⟨g, rfl, hb⟩ := hv
      exact isClusterDown_Loading m g w hb hz hn
    · obtain ⟨g, rfl, hb⟩ := hv
      exact isClusterDown_ReadOnly m g w hb hz hn
    · obtain ⟨g, rfl, hb⟩ := hv
      exact isClusterDown_Moved m a g w hb hz hn
    · obtain ⟨g, rfl, hb⟩ := hv
      exact isClusterDown_Ask m a g w hb hz hn
    · obtain ⟨g, rfl, hb⟩ := hv
      exact isClusterDown_TryAgain m g w hb hz hn
    · obtain ⟨g, rfl, hb⟩ := hv
      exact isClusterDown_MasterDown m g w hb hz hn
    · obtain ⟨g, rfl, hb⟩ := hv
      exact isClusterDown_NoReplicas m g w hb hz hn
    · obtain ⟨g, rfl, hb⟩ := hv
      exact isClusterDown_MaxClients m g w hb hz hn
    · obtain ⟨g, rfl, hb⟩ := hv
      exact isClusterDown_Auth m g w hb hz hn
    · obtain ⟨g, rfl, hb⟩ := hv
      exact isClusterDown_Permission m g w hb hz hn
    · obtain ⟨g, rfl, hb⟩ := hv
      exact isClusterDown_ExecAbort m g w hb hz hn
    · obtain ⟨g, rfl, hb⟩ := hv
      exact isClusterDown_OOM m g w hb hz hn
    · obtain rfl : v = _ := hv
      exact isClusterDown_R m w hz hn
  · exact absurd h8 (by decide)
end Go.Proofs.YtkogipaaioibaaaGreat
