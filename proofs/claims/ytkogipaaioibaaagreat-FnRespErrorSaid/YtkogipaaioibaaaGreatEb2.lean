/- What IsTryAgainError says of each error. (seat r3.Z; printed by gen_er3.py) What IsMasterDownError says of each error. (seat r3.Z; printed by gen_er3.py) What IsNoReplicasError says of each error. (seat r3.Z; printed by gen_er3.py) What IsMaxClientsError says of each error. (seat r3.Z; printed by gen_er3.py) -/
import Derived.Test.YtkogipaaioibaaaGreatEa
namespace Go.Proofs.YtkogipaaioibaaaGreat
set_option linter.unusedVariables false
set_option linter.unusedSimpArgs false
open Go.RowKit Go.Proofs.YtkogipaaioibaaaGreatW.PrintWords
set_option maxHeartbeats 1000000 in
set_option maxRecDepth 100000 in
theorem isTryAgain_own (g : Nat) (w : World) : Calls Tryz.prog 23 #[.iface 65 (.pointer (some ⟨g, 0, none⟩))] w fun e w' => e = .returned (.bool true) ∧ Drawn0 w w' := by
  have t1 : ∀ w, (Instr.typeAssert (.iface 65 (.pointer (some ⟨g, 0, none⟩))) 33 65 true).run Tryz.prog w = .ok (.tuple #[.pointer (some ⟨g, 0, none⟩), .bool true]) w := fun _ => by kernel_rfl
  go_enter Tryz.func23, Tryz.ntmps23
  go_wp2_with fail
  go_ret
  exact ⟨rfl, Drawn0.refl _⟩
set_option maxHeartbeats 1000000 in
set_option maxRecDepth 100000 in
theorem isTryAgain_Loading (m : ByteArray) (g : Nat) (w : World) (hb : w.heap[g]? = some (.cells #[.string m] 114 (0, 0))) (hz : m.size ≤ 1000) (hn : NoX m 5) : Calls Tryz.prog 23 #[.iface 53 (.pointer (some ⟨g, 0, none⟩))] w fun e w' => e = .returned (.bool false) ∧ Drawn0 w w' := by
  have HE := Lib.hid (err_Loading m g w hb)
  have HP := Lib.hid (fun w => hp_no m _ (show ¬ At (pre 5) m 0 from hn) w)
  have t1 : ∀ w, (Instr.typeAssert (.iface 53 (.pointer (some ⟨g, 0, none⟩))) 33 65 true).run Tryz.prog w = .ok (.tuple #[.pointer none, .bool false]) w := fun _ => by kernel_rfl
  have t2 : ∀ w, (Instr.typeAssert (.iface 53 (.pointer (some ⟨g, 0, none⟩))) 33 55 true).run Tryz.prog w = .ok (.tuple #[.string ⟨#[]⟩, .bool false]) w := fun _ => by kernel_rfl
  have hm := meth_Loading
  have ha := ahead_Loading
  clear hb hn
  go_enter Tryz.func23, Tryz.ntmps23
  go_wp2_with fail
  refine HE.out.mono ?_
  rintro e w0 ⟨rfl, rfl⟩
  go_wp2_with fail
  refine (HP.out _).mono ?_
  rintro e w1 ⟨rfl, ⟨nd1, rfl⟩⟩
  go_wp2_with fail
  go_ret
  exact ⟨rfl, ⟨_, rfl⟩⟩
set_option maxHeartbeats 1000000 in
set_option maxRecDepth 100000 in
theorem isTryAgain_ReadOnly (m : ByteArray) (g : Nat) (w : World) (hb : w.heap[g]? = some (.cells #[.string m] 115 (0, 0))) (hz : m.size ≤ 1000) (hn : NoX m 5) : Calls Tryz.prog 23 #[.iface 57 (.pointer (some ⟨g, 0, none⟩))] w fun e w' => e = .returned (.bool false) ∧ Drawn0 w w' := by
  have HE := Lib.hid (err_ReadOnly m g w hb)
  have HP := Lib.hid (fun w => hp_no m _ (show ¬ At (pre 5) m 0 from hn) w)
  have t1 : ∀ w, (Instr.typeAssert (.iface 57 (.pointer (some ⟨g, 0, none⟩))) 33 65 true).run Tryz.prog w = .ok (.tuple #[.pointer none, .bool false]) w := fun _ => by kernel_rfl
  have t2 : ∀ w, (Instr.typeAssert (.iface 57 (.pointer (some ⟨g, 0, none⟩))) 33 55 true).run Tryz.prog w = .ok (.tuple #[.string ⟨#[]⟩, .bool false]) w := fun _ => by kernel_rfl
  have hm := meth_ReadOnly
  have ha := ahead_ReadOnly
  clear hb hn
  go_enter Tryz.func23, Tryz.ntmps23
  go_wp2_with fail
  refine HE.out.mono ?_
  rintro e w0 ⟨rfl, rfl⟩
  go_wp2_with fail
  refine (HP.out _).mono ?_
  rintro e w1 ⟨rfl, ⟨nd1, rfl⟩⟩
  go_wp2_with fail
  go_ret
  exact ⟨rfl, ⟨_, rfl⟩⟩
set_option maxHeartbeats 1000000 in
set_option maxRecDepth 100000 in
theorem isTryAgain_Moved (m a : ByteArray) (g : Nat) (w : World) (hb : w.heap[g]? = some (.cells #[.string m, .string a] 61 (0, 0))) (hz : m.size ≤ 1000) (hn : NoX m 5) : Calls Tryz.prog 23 #[.iface 38 (.pointer (some ⟨g, 0, none⟩))] w fun e w' => e = .returned (.bool false) ∧ Drawn0 w w' := by
  have HE := Lib.hid (err_Moved m a g w hb)
  have HP := Lib.hid (fun w => hp_no m _ (show ¬ At (pre 5) m 0 from hn) w)
  have t1 : ∀ w, (Instr.typeAssert (.iface 38 (.pointer (some ⟨g, 0, none⟩))) 33 65 true).run Tryz.prog w = .ok (.tuple #[.pointer none, .bool false]) w := fun _ => by kernel_rfl
  have t2 : ∀ w, (Instr.typeAssert (.iface 38 (.pointer (some ⟨g, 0, none⟩))) 33 55 true).run Tryz.prog w = .ok (.tuple #[.string ⟨#[]⟩, .bool false]) w := fun _ => by kernel_rfl
  have hm := meth_Moved
  have ha := ahead_Moved
  clear hb hn
  go_enter Tryz.func23, Tryz.ntmps23
  go_wp2_with fail
  refine HE.out.mono ?_
  rintro e w0 ⟨rfl, rfl⟩
  go_wp2_with fail
  refine (HP.out _).mono ?_
  rintro e w1 ⟨rfl, ⟨nd1, rfl⟩⟩
  go_wp2_with fail
  go_ret
  exact ⟨rfl, ⟨_, rfl⟩⟩
set_option maxHeartbeats 1000000 in
set_option maxRecDepth 100000 in
theorem isTryAgain_Ask (m a : ByteArray) (g : Nat) (w : World) (hb : w.heap[g]? = some (.cells #[.string m, .string a] 62 (0, 0))) (hz : m.size ≤ 1000) (hn : NoX m 5) : Calls Tryz.prog 23 #[.iface 42 (.pointer (some ⟨g, 0, none⟩))] w fun e w' => e = .returned (.bool false) ∧ Drawn0 w w' := by
  have HE := Lib.hid (err_Ask m a g w hb)
  have HP := Lib.hid (fun w => hp_no m _ (show ¬ At (pre 5) m 0 from hn) w)
  have t1 : ∀ w, (Instr.typeAssert (.iface 42 (.pointer (some ⟨g, 0, none⟩))) 33 65 true).run Tryz.prog w = .ok (.tuple #[.pointer none, .bool false]) w := fun _ => by kernel_rfl
  have t2 : ∀ w, (Instr.typeAssert (.iface 42 (.pointer (some ⟨g, 0, none⟩))) 33 55 true).run Tryz.prog w = .ok (.tuple #[.string ⟨#[]⟩, .bool false]) w := fun _ => by kernel_rfl
  have hm := meth_Ask
  have ha := ahead_Ask
  clear hb hn
  go_enter Tryz.func23, Tryz.ntmps23
  go_wp2_with fail
  refine HE.out.mono ?_
  rintro e w0 ⟨rfl, rfl⟩
  go_wp2_with fail
  refine (HP.out _).mono ?_
  rintro e w1 ⟨rfl, ⟨nd1, rfl⟩⟩
  go_wp2_with fail
  go_ret
  exact ⟨rfl, ⟨_, rfl⟩⟩
set_option maxHeartbeats 1000000 in
set_option maxRecDepth 100000 in
theorem isTryAgain_ClusterDown (m : ByteArray) (g : Nat) (w : World) (hb : w.heap[g]? = some (.cells #[.string m] 116 (0, 0))) (hz : m.size ≤ 1000) (hn : NoX m 5) : Calls Tryz.prog 23 #[.iface 63 (.pointer (some ⟨g, 0, none⟩))] w fun e w' => e = .returned (.bool false) ∧ Drawn0 w w' := by
  have HE := Lib.hid (err_ClusterDown m g w hb)
  have HP := Lib.hid (fun w => hp_no m _ (show ¬ At (pre 5) m 0 from hn) w)
  have t1 : ∀ w, (Instr.typeAssert (.iface 63 (.pointer (some ⟨g, 0, none⟩))) 33 65 true).run Tryz.prog w = .ok (.tuple #[.pointer none, .bool false]) w := fun _ => by kernel_rfl
  have t2 : ∀ w, (Instr.typeAssert (.iface 63 (.pointer (some ⟨g, 0, none⟩))) 33 55 true).run Tryz.prog w = .ok (.tuple #[.string ⟨#[]⟩, .bool false]) w := fun _ => by kernel_rfl
  have hm := meth_ClusterDown
  have ha := ahead_ClusterDown
  clear hb hn
  go_enter Tryz.func23, Tryz.ntmps23
  go_wp2_with fail
  refine HE.out.mono ?_
  rintro e w0 ⟨rfl, rfl⟩
  go_wp2_with fail
  refine (HP.out _).mono ?_
  rintro e w1 ⟨rfl, ⟨nd1, rfl⟩⟩
  go_wp2_with fail
  go_ret
  exact ⟨rfl, ⟨_, rfl⟩⟩
set_option maxHeartbeats 1000000 in
set_option maxRecDepth 100000 in
theorem isTryAgain_MasterDown (m : ByteArray) (g : Nat) (w : World) (hb : w.heap[g]? = some (.cells #[.string m] 118 (0, 0))) (hz : m.size ≤ 1000) (hn : NoX m 5) : Calls Tryz.prog 23 #[.iface 67 (.pointer (some ⟨g, 0, none⟩))] w fun e w' => e = .returned (.bool false) ∧ Drawn0 w w' := by
  have HE := Lib.hid (err_MasterDown m g w hb)
  have HP := Lib.hid (fun w => hp_no m _ (show ¬ At (pre 5) m 0 from hn) w)
  have t1 : ∀ w, (Instr.typeAssert (.iface 67 (.pointer (some ⟨g, 0, none⟩))) 33 65 true).run Tryz.prog w = .ok (.tuple #[.pointer none, .bool false]) w := fun _ => by kernel_rfl
  have t2 : ∀ w, (Instr.typeAssert (.iface 67 (.pointer (some ⟨g, 0, none⟩))) 33 55 true).run Tryz.prog w = .ok (.tuple #[.string ⟨#[]⟩, .bool false]) w := fun _ => by kernel_rfl
  have hm := meth_MasterDown
  have ha := ahead_MasterDown
  clear hb hn
  go_enter Tryz.func23, Tryz.ntmps23
  go_wp2_with fail
  refine HE.out.mono ?_
  rintro e w0 ⟨rfl, rfl⟩
  go_wp2_with fail
  refine (HP.out _).mono ?_
  rintro e w1 ⟨rfl, ⟨nd1, rfl⟩⟩
  go_wp2_with fail
  go_ret
  exact ⟨rfl, ⟨_, rfl⟩⟩
set_option maxHeartbeats 1000000 in
set_option maxRecDepth 100000 in
theorem isTryAgain_NoReplicas (m : ByteArray) (g : Nat) (w : World) (hb : w.heap[g]? = some (.cells #[.string m] 119 (0, 0))) (hz : m.size ≤ 1000) (hn : NoX m 5) : Calls Tryz.prog 23 #[.iface 79 (.pointer (some ⟨g, 0, none⟩))] w fun e w' => e = .returned (.bool false) ∧ Drawn0 w w' := by
  have HE := Lib.hid (err_NoReplicas m g w hb)
  have HP := Lib.hid (fun w => hp_no m _ (show ¬ At (pre 5) m 0 from hn) w)
  have t1 : ∀ w, (Instr.typeAssert (.iface 79 (.pointer (some ⟨g, 0, none⟩))) 33 65 true).run Tryz.prog w = .ok (.tuple #[.pointer none, .bool false]) w := fun _ => by kernel_rfl
  have t2 : ∀ w, (Instr.typeAssert (.iface 79 (.pointer (some ⟨g, 0, none⟩))) 33 55 true).run Tryz.prog w = .ok (.tuple #[.string ⟨#[]⟩, .bool false]) w := fun _ => by kernel_rfl
  have hm := meth_NoReplicas
  have ha := ahead_NoReplicas
  clear hb hn
  go_enter Tryz.func23, Tryz.ntmps23
  go_wp2_with fail
  refine HE.out.mono ?_
  rintro e w0 ⟨rfl, rfl⟩
  go_wp2_with fail
  refine (HP.out _).mono ?_
  rintro e w1 ⟨rfl, ⟨nd1, rfl⟩⟩
  go_wp2_with fail
  go_ret
  exact ⟨rfl, ⟨_, rfl⟩⟩
set_option maxHeartbeats 1000000 in
set_option maxRecDepth 100000 in
theorem isTryAgain_MaxClients (m : ByteArray) (g : Nat) (w : World) (hb : w.heap[g]? = some (.cells #[.string m] 120 (0, 0))) (hz : m.size ≤ 1000) (hn : NoX m 5) : Calls Tryz.prog 23 #[.iface 69 (.pointer (some ⟨g, 0, none⟩))] w fun e w' => e = .returned (.bool false) ∧ Drawn0 w w' := by
  have HE := Lib.hid (err_MaxClients m g w hb)
  have HP := Lib.hid (fun w => hp_no m _ (show ¬ At (pre 5) m 0 from hn) w)
  have t1 : ∀ w, (Instr.typeAssert (.iface 69 (.pointer (some ⟨g, 0, none⟩))) 33 65 true).run Tryz.prog w = .ok (.tuple #[.pointer none, .bool false]) w := fun _ => by kernel_rfl
  have t2 : ∀ w, (Instr.typeAssert (.iface 69 (.pointer (some ⟨g, 0, none⟩))) 33 55 true).run Tryz.prog w = .ok (.tuple #[.string ⟨#[]⟩, .bool false]) w := fun _ => by kernel_rfl
  have hm := meth_MaxClients
  have ha := ahead_MaxClients
  clear hb hn
  go_enter Tryz.func23, Tryz.ntmps23
  go_wp2_with fail
  refine HE.out.mono ?_
  rintro e w0 ⟨rfl, rfl⟩
  go_wp2_with fail
  refine (HP.out _).mono ?_
  rintro e w1 ⟨rfl, ⟨nd1, rfl⟩⟩
  go_wp2_with fail
  go_ret
  exact ⟨rfl, ⟨_, rfl⟩⟩
set_option maxHeartbeats 1000000 in
set_option maxRecDepth 100000 in
theorem isTryAgain_Auth (m : ByteArray) (g : Nat) (w : World) (hb : w.heap[g]? = some (.cells #[.string m] 121 (0, 0))) (hz : m.size ≤ 1000) (hn : NoX m 5) : Calls Tryz.prog 23 #[.iface 71 (.pointer (some ⟨g, 0, none⟩))] w fun e w' => e = .returned (.bool false) ∧ Drawn0 w w' := by
  have HE := Lib.hid (err_Auth m g w hb)
  have HP := Lib.hid (fun w => hp_no m _ (show ¬ At (pre 5) m 0 from hn) w)
  have t1 : ∀ w, (Instr.typeAssert (.iface 71 (.pointer (some ⟨g, 0, none⟩))) 33 65 true).run Tryz.prog w = .ok (.tuple #[.pointer none, .bool false]) w := fun _ => by kernel_rfl
  have t2 : ∀ w, (Instr.typeAssert (.iface 71 (.pointer (some ⟨g, 0, none⟩))) 33 55 true).run Tryz.prog w = .ok (.tuple #[.string ⟨#[]⟩, .bool false]) w := fun _ => by kernel_rfl
  have hm := meth_Auth
  have ha := ahead_Auth
  clear hb hn
  go_enter Tryz.func23, Tryz.ntmps23
  go_wp2_with fail
  refine HE.out.mono ?_
  rintro e w0 ⟨rfl, rfl⟩
  go_wp2_with fail
  refine (HP.out _).mono ?_
  rintro e w1 ⟨rfl, ⟨nd1, rfl⟩⟩
  go_wp2_with fail
  go_ret
  exact ⟨rfl, ⟨_, rfl⟩⟩
set_option maxHeartbeats 1000000 in
set_option maxRecDepth 100000 in
theorem isTryAgain_Permission (m : ByteArray) (g : Nat) (w : World) (hb : w.heap[g]? = some (.cells #[.string m] 122 (0, 0))) (hz : m.size ≤ 1000) (hn : NoX m 5) : Calls Tryz.prog 23 #[.iface 73 (.pointer (some ⟨g, 0, none⟩))] w fun e w' => e = .returned (.bool false) ∧ Drawn0 w w' := by
  have HE := Lib.hid (err_Permission m g w hb)
  have HP := Lib.hid (fun w => hp_no m _ (show ¬ At (pre 5) m 0 from hn) w)
  have t1 : ∀ w, (Instr.typeAssert (.iface 73 (.pointer (some ⟨g, 0, none⟩))) 33 65 true).run Tryz.prog w = .ok (.tuple #[.pointer none, .bool false]) w := fun _ => by kernel_rfl
  have t2 : ∀ w, (Instr.typeAssert (.iface 73 (.pointer (some ⟨g, 0, none⟩))) 33 55 true).run Tryz.prog w = .ok (.tuple #[.string ⟨#[]⟩, .bool false]) w := fun _ => by kernel_rfl
  have hm := meth_Permission
  have ha := ahead_Permission
  clear hb hn
  go_enter Tryz.func23, Tryz.ntmps23
  go_wp2_with fail
  refine HE.out.mono ?_
  rintro e w0 ⟨rfl, rfl⟩
  go_wp2_with fail
  refine (HP.out _).mono ?_
  rintro e w1 ⟨rfl, ⟨nd1, rfl⟩⟩
  go_wp2_with fail
  go_ret
  exact ⟨rfl, ⟨_, rfl⟩⟩
set_option maxHeartbeats 1000000 in
set_option maxRecDepth 100000 in
theorem isTryAgain_ExecAbort (m : ByteArray) (g : Nat) (w : World) (hb : w.heap[g]? = some (.cells #[.string m] 123 (0, 0))) (hz : m.size ≤ 1000) (hn : NoX m 5) : Calls Tryz.prog 23 #[.iface 75 (.pointer (some ⟨g, 0, none⟩))] w fun e w' => e = .returned (.bool false) ∧ Drawn0 w w' := by
  have HE := Lib.hid (err_ExecAbort m g w hb)
  have HP := Lib.hid (fun w => hp_no m _ (show ¬ At (pre 5) m 0 from hn) w)
  have t1 : ∀ w, (Instr.typeAssert (.iface 75 (.pointer (some ⟨g, 0, none⟩))) 33 65 true).run Tryz.prog w = .ok (.tuple #[.pointer none, .bool false]) w := fun _ => by kernel_rfl
  have t2 : ∀ w, (Instr.typeAssert (.iface 75 (.pointer (some ⟨g, 0, none⟩))) 33 55 true).run Tryz.prog w = .ok (.tuple #[.string ⟨#[]⟩, .bool false]) w := fun _ => by kernel_rfl
  have hm := meth_ExecAbort
  have ha := ahead_ExecAbort
  clear hb hn
  go_enter Tryz.func23, Tryz.ntmps23
  go_wp2_with fail
  refine HE.out.mono ?_
  rintro e w0 ⟨rfl, rfl⟩
  go_wp2_with fail
  refine (HP.out _).mono ?_
  rintro e w1 ⟨rfl, ⟨nd1, rfl⟩⟩
  go_wp2_with fail
  go_ret
  exact ⟨rfl, ⟨_, rfl⟩⟩
set_option maxHeartbeats 1000000 in
set_option maxRecDepth 100000 in
theorem isTryAgain_OOM (m : ByteArray) (g : Nat) (w : World) (hb : w.heap[g]? = some (.cells #[.string m] 124 (0, 0))) (hz : m.size ≤ 1000) (hn : NoX m 5) : Calls Tryz.prog 23 #[.iface 77 (.pointer (some ⟨g, 0, none⟩))] w fun e w' => e = .returned (.bool false) ∧ Drawn0 w w' := by
  have HE := Lib.hid (err_OOM m g w hb)
  have HP := Lib.hid (fun w => hp_no m _ (show ¬ At (pre 5) m 0 from hn) w)
  have t1 : ∀ w, (Instr.typeAssert (.iface 77 (.pointer (some ⟨g, 0, none⟩))) 33 65 true).run Tryz.prog w = .ok (.tuple #[.pointer none, .bool false]) w := fun _ => by kernel_rfl
  have t2 : ∀ w, (Instr.typeAssert (.iface 77 (.pointer (some ⟨g, 0, none⟩))) 33 55 true).run Tryz.prog w = .ok (.tuple #[.string ⟨#[]⟩, .bool false]) w := fun _ => by kernel_rfl
  have hm := meth_OOM
  have ha := ahead_OOM
  clear hb hn
  go_enter Tryz.func23, Tryz.ntmps23
  go_wp2_with fail
  refine HE.out.mono ?_
  rintro e w0 ⟨rfl, rfl⟩
  go_wp2_with fail
  refine (HP.out _).mono ?_
  rintro e w1 ⟨rfl, ⟨nd1, rfl⟩⟩
  go_wp2_with fail
  go_ret
  exact ⟨rfl, ⟨_, rfl⟩⟩
set_option maxHeartbeats 1000000 in
set_option maxRecDepth 100000 in
theorem isTryAgain_R (m : ByteArray) (w : World) (hz : m.size ≤ 1000) (hn : NoX m 5) : Calls Tryz.prog 23 #[.iface 55 (.string m)] w fun e w' => e = .returned (.bool false) ∧ Drawn0 w w' := by
  have HP := Lib.hid (fun w => hp_no m _ (show ¬ At (pre 5) m 0 from hn) w)
  have t1 : ∀ w, (Instr.typeAssert (.iface 55 (.string m)) 33 65 true).run Tryz.prog w = .ok (.tuple #[.pointer none, .bool false]) w := fun _ => by kernel_rfl
  have t2 : ∀ w, (Instr.typeAssert (.iface 55 (.string m)) 33 55 true).run Tryz.prog w = .ok (.tuple #[.string m, .bool true]) w := fun _ => by kernel_rfl
  have hm := re_meth
  have ha := re_ahead
  clear hn
  go_enter Tryz.func23, Tryz.ntmps23
  go_wp2_with fail
  refine (re_error m _).mono ?_
  rintro e w0 ⟨rfl, rfl⟩
  go_wp2_with fail
  refine (HP.out _).mono ?_
  rintro e w1 ⟨rfl, ⟨nd1, rfl⟩⟩
  go_wp2_with fail
  refine (re_error m _).mono ?_
  rintro e wa ⟨rfl, rfl⟩
  go_wp2_with fail
  refine (HP.out _).mono ?_
  rintro e w2 ⟨rfl, ⟨nd2, rfl⟩⟩
  go_wp2_with fail
  go_ret
  exact ⟨rfl, ⟨_, rfl⟩⟩
theorem isTryAgain_any (m a : ByteArray) (c : Nat) (v : Value) (b : Bool) (w : World) (hc : c ≤ 13) (hv : EVal w m a c v) (hz : m.size ≤ 1000) (hb : Bx m c 5 b) : Calls Tryz.prog 23 #[v] w fun e w' => e = .returned (.bool b) ∧ Drawn0 w w' := by
  rcases hb with ⟨rfl, rfl⟩ | ⟨rfl, hne, hn⟩ | ⟨h8, rfl, rfl, ha⟩
  · obtain ⟨g, rfl, hb⟩ := hv
    exact isTryAgain_own g w
  · have hcs : c = 0 ∨ c = 1 ∨ c = 2 ∨ c = 3 ∨ c = 4 ∨ c = 6 ∨ c = 7 ∨ c = 8 ∨ c = 9 ∨ c = 10 ∨ c = 11 ∨ c = 12 ∨ c = 13 := by omega
    rcases hcs with rfl | rfl | rfl | rfl | rfl | rfl | rfl | rfl | rfl | rfl | rfl | rfl | rfl
    · obtain ⟨g, rfl, hb⟩ := hv
      exact isTryAgain_Loading m g w hb hz hn
    · obtain ⟨g, rfl, hb⟩ := hv
      exact isTryAgain_ReadOnly m g w hb hz hn
    · obtain ⟨g, rfl, hb⟩ := hv
      exact isTryAgain_Moved m a g w hb hz hn
    · obtain ⟨g, rfl, hb⟩ := hv
      exact isTryAgain_Ask m a g w hb hz hn
    · obtain ⟨g, rfl, hb⟩ := hv
      exact isTryAgain_ClusterDown m g w hb hz hn
    · obtain ⟨g, rfl, hb⟩ := hv
      exact isTryAgain_MasterDown m g w hb hz hn
    · obtain ⟨g, rfl, hb⟩ := hv
      exact isTryAgain_NoReplicas m g w hb hz hn
    · obtain ⟨g, rfl, hb⟩ := hv
      exact isTryAgain_MaxClients m g w hb hz hn
    · obtain ⟨g, rfl, hb⟩ := hv
      exact isTryAgain_Auth m g w hb hz hn
    · obtain ⟨g, rfl, hb⟩ := hv
      exact isTryAgain_Permission m g w hb hz hn
    · obtain ⟨g, rfl, hb⟩ := hv
      exact isTryAgain_ExecAbort m g w hb hz hn
    · obtain ⟨g, rfl, hb⟩ := hv
      exact isTryAgain_OOM m g w hb hz hn
    · obtain rfl : v = _ := hv
      exact isTryAgain_R m w hz hn
  · exact absurd h8 (by decide)
end Go.Proofs.YtkogipaaioibaaaGreat

namespace Go.Proofs.YtkogipaaioibaaaGreat
set_option linter.unusedVariables false
set_option linter.unusedSimpArgs false
open Go.RowKit Go.Proofs.YtkogipaaioibaaaGreatW.PrintWords
set_option maxHeartbeats 1000000 in
set_option maxRecDepth 100000 in
theorem isMasterDown_own (g : Nat) (w : World) : Calls Tryz.prog 24 #[.iface 67 (.pointer (some ⟨g, 0, none⟩))] w fun e w' => e = .returned (.bool true) ∧ Drawn0 w w' := by
  have t1 : ∀ w, (Instr.typeAssert (.iface 67 (.pointer (some ⟨g, 0, none⟩))) 33 67 true).run Tryz.prog w = .ok (.tuple #[.pointer (some ⟨g, 0, none⟩), .bool true]) w := fun _ => by kernel_rfl
  go_enter Tryz.func24, Tryz.ntmps24
  go_wp2_with fail
  go_ret
  exact ⟨rfl, Drawn0.refl _⟩
set_option maxHeartbeats 1000000 in
set_option maxRecDepth 100000 in
theorem isMasterDown_Loading (m : ByteArray) (g : Nat) (w : World) (hb : w.heap[g]? = some (.cells #[.string m] 114 (0, 0))) (hz : m.size ≤ 1000) (hn : NoX m 6) : Calls Tryz.prog 24 #[.iface 53 (.pointer (some ⟨g, 0, none⟩))] w fun e w' => e = .returned (.bool false) ∧ Drawn0 w w' := by
  have HE := Lib.hid (err_Loading m g w hb)
  have HP := Lib.hid (fun w => hp_no m _ (show ¬ At (pre 6) m 0 from hn) w)
  have t1 : ∀ w, (Instr.typeAssert (.iface 53 (.pointer (some ⟨g, 0, none⟩))) 33 67 true).run Tryz.prog w = .ok (.tuple #[.pointer none, .bool false]) w := fun _ => by kernel_rfl
  have t2 : ∀ w, (Instr.typeAssert (.iface 53 (.pointer (some ⟨g, 0, none⟩))) 33 55 true).run Tryz.prog w = .ok (.tuple #[.string ⟨#[]⟩, .bool false]) w := fun _ => by kernel_rfl
  have hm := meth_Loading
  have ha := ahead_Loading
  clear hb hn
  go_enter Tryz.func24, Tryz.ntmps24
  go_wp2_with fail
  refine HE.out.mono ?_
  rintro e w0 ⟨rfl, rfl⟩
  go_wp2_with fail
  refine (HP.out _).mono ?_
  rintro e w1 ⟨rfl, ⟨nd1, rfl⟩⟩
  go_wp2_with fail
  go_ret
  exact ⟨rfl, ⟨_, rfl⟩⟩
set_option maxHeartbeats 1000000 in
set_option maxRecDepth 100000 in
theorem isMasterDown_ReadOnly (m : ByteArray) (g : Nat) (w : World) (hb : w.heap[g]? = some (.cells #[.string m] 115 (0, 0))) (hz : m.size ≤ 1000) (hn : NoX m 6) : Calls Tryz.prog 24 #[.iface 57 (.pointer (some ⟨g, 0, none⟩))] w fun e w' => e = .returned (.bool false) ∧ Drawn0 w w' := by
  have HE := Lib.hid (err_ReadOnly m g w hb)
  have HP := Lib.hid (fun w => hp_no m _ (show ¬ At (pre 6) m 0 from hn) w)
  have t1 : ∀ w, (Instr.typeAssert (.iface 57 (.pointer (some ⟨g, 0, none⟩))) 33 67 true).run Tryz.prog w = .ok (.tuple #[.pointer none, .bool false]) w := fun _ => by kernel_rfl
  have t2 : ∀ w, (Instr.typeAssert (.iface 57 (.pointer (some ⟨g, 0, none⟩))) 33 55 true).run Tryz.prog w = .ok (.tuple #[.string ⟨#[]⟩, .bool false]) w := fun _ => by kernel_rfl
  have hm := meth_ReadOnly
  have ha := ahead_ReadOnly
  clear hb hn
  go_enter Tryz.func24, Tryz.ntmps24
  go_wp2_with fail
  refine HE.out.mono ?_
  rintro e w0 ⟨rfl, rfl⟩
  go_wp2_with fail
  refine (HP.out _).mono ?_
  rintro e w1 ⟨rfl, ⟨nd1, rfl⟩⟩
  go_wp2_with fail
  go_ret
  exact ⟨rfl, ⟨_, rfl⟩⟩
set_option maxHeartbeats 1000000 in
set_option maxRecDepth 100000 in
theorem isMasterDown_Moved (m a : ByteArray) (g : Nat) (w : World) (hb : w.heap[g]? = some (.cells #[.string m, .string a] 61 (0, 0))) (hz : m.size ≤ 1000) (hn : NoX m 6) : Calls Tryz.prog 24 #[.iface 38 (.pointer (some ⟨g, 0, none⟩))] w fun e w' => e = .returned (.bool false) ∧ Drawn0 w w' := by
  have HE := Lib.hid (err_Moved m a g w hb)
  have HP := Lib.hid (fun w => hp_no m _ (show ¬ At (pre 6) m 0 from hn) w)
  have t1 : ∀ w, (Instr.typeAssert (.iface 38 (.pointer (some ⟨g, 0, none⟩))) 33 67 true).run Tryz.prog w = .ok (.tuple #[.pointer none, .bool false]) w := fun _ => by kernel_rfl
  have t2 : ∀ w, (Instr.typeAssert (.iface 38 (.pointer (some ⟨g, 0, none⟩))) 33 55 true).run Tryz.prog w = .ok (.tuple #[.string ⟨#[]⟩, .bool false]) w := fun _ => by kernel_rfl
  have hm := meth_Moved
  have ha := ahead_Moved
  clear hb hn
  go_enter Tryz.func24, Tryz.ntmps24
  go_wp2_with fail
  refine HE.out.mono ?_
  rintro e w0 ⟨rfl, rfl⟩
  go_wp2_with fail
  refine (HP.out _).mono ?_
  rintro e w1 ⟨rfl, ⟨nd1, rfl⟩⟩
  go_wp2_with fail
  go_ret
  exact ⟨rfl, ⟨_, rfl⟩⟩
set_option maxHeartbeats 1000000 in
set_option maxRecDepth 100000 in
theorem isMasterDown_Ask (m a : ByteArray) (g : Nat) (w : World) (hb : w.heap[g]? = some (.cells #[.string m, .string a] 62 (0, 0))) (hz : m.size ≤ 1000) (hn : NoX m 6) : Calls Tryz.prog 24 #[.iface 42 (.pointer (some ⟨g, 0, none⟩))] w fun e w' => e = .returned (.bool false) ∧ Drawn0 w w' := by
  have HE := Lib.hid (err_Ask m a g w hb)
  have HP := Lib.hid (fun w => hp_no m _ (show ¬ At (pre 6) m 0 from hn) w)
  have t1 : ∀ w, (Instr.typeAssert (.iface 42 (.pointer (some ⟨g, 0, none⟩))) 33 67 true).run Tryz.prog w = .ok (.tuple #[.pointer none, .bool false]) w := fun _ => by kernel_rfl
  have t2 : ∀ w, (Instr.typeAssert (.iface 42 (.pointer (some ⟨g, 0, none⟩))) 33 55 true).run Tryz.prog w = .ok (.tuple #[.string ⟨#[]⟩, .bool false]) w := fun _ => by kernel_rfl
  have hm := meth_Ask
  have ha := ahead_Ask
  clear hb hn
  go_enter Tryz.func24, Tryz.ntmps24
  go_wp2_with fail
  refine HE.out.mono ?_
  rintro e w0 ⟨rfl, rfl⟩
  go_wp2_with fail
  refine (HP.out _).mono ?_
  rintro e w1 ⟨rfl, ⟨nd1, rfl⟩⟩
  go_wp2_with fail
  go_ret
  exact ⟨rfl, ⟨_, rfl⟩⟩
set_option maxHeartbeats 1000000 in
set_option maxRecDepth 100000 in
theorem isMasterDown_ClusterDown (m : ByteArray) (g : Nat) (w : World) (hb : w.heap[g]? = some (.cells #[.string m] 116 (0, 0))) (hz : m.size ≤ 1000) (hn : NoX m 6) : Calls Tryz.prog 24 #[.iface 63 (.pointer (some ⟨g, 0, none⟩))] w fun e w' => e = .returned (.bool false) ∧ Drawn0 w w' := by
  have HE := Lib.hid (err_ClusterDown m g w hb)
  have HP := Lib.hid (fun w => hp_no m _ (show ¬ At (pre 6) m 0 from hn) w)
  have t1 : ∀ w, (Instr.typeAssert (.iface 63 (.pointer (some ⟨g, 0, none⟩))) 33 67 true).run Tryz.prog w = .ok (.tuple #[.pointer none, .bool false]) w := fun _ => by kernel_rfl
  have t2 : ∀ w, (Instr.typeAssert (.iface 63 (.pointer (some ⟨g, 0, none⟩))) 33 55 true).run Tryz.prog w = .ok (.tuple #[.string ⟨#[]⟩, .bool false]) w := fun _ => by kernel_rfl
  have hm := meth_ClusterDown
  have ha := ahead_ClusterDown
  clear hb hn
  go_enter Tryz.func24, Tryz.ntmps24
  go_wp2_with fail
  refine HE.out.mono ?_
  rintro e w0 ⟨rfl, rfl⟩
  go_wp2_with fail
  refine (HP.out _).mono ?_
  rintro e w1 ⟨rfl, ⟨nd1, rfl⟩⟩
  go_wp2_with fail
  go_ret
  exact ⟨rfl, ⟨_, rfl⟩⟩
set_option maxHeartbeats 1000000 in
set_option maxRecDepth 100000 in
theorem isMasterDown_TryAgain (m : ByteArray) (g : Nat) (w : World) (hb : w.heap[g]? = some (.cells #[.string m] 117 (0, 0))) (hz : m.size ≤ 1000) (hn : NoX m 6) : Calls Tryz.prog 24 #[.iface 65 (.pointer (some ⟨g, 0, none⟩))] w fun e w' => e = .returned (.bool false) ∧ Drawn0 w w' := by
  have HE := Lib.hid (err_TryAgain m g w hb)
  have HP := Lib.hid (fun w => hp_no m _ (show ¬ At (pre 6) m 0 from hn) w)
  have t1 : ∀ w, (Instr.typeAssert (.iface 65 (.pointer (some ⟨g, 0, none⟩))) 33 67 true).run Tryz.prog w = .ok (.tuple #[.pointer none, .bool false]) w := fun _ => by kernel_rfl
  have t2 : ∀ w, (Instr.typeAssert (.iface 65 (.pointer (some ⟨g, 0, none⟩))) 33 55 true).run Tryz.prog w = .ok (.tuple #[.string ⟨#[]⟩, .bool false]) w := fun _ => by kernel_rfl
  have hm := meth_TryAgain
  have ha := ahead_TryAgain
  clear hb hn
  go_enter Tryz.func24, Tryz.ntmps24
  go_wp2_with fail
  refine HE.out.mono ?_
  rintro e w0 ⟨rfl, rfl⟩
  go_wp2_with fail
  refine (HP.out _).mono ?_
  rintro e w1 ⟨rfl, ⟨nd1, rfl⟩⟩
  go_wp2_with fail
  go_ret
  exact ⟨rfl, ⟨_, rfl⟩⟩
set_option maxHeartbeats 1000000 in
set_option maxRecDepth 100000 in
theorem isMasterDown_NoReplicas (m : ByteArray) (g : Nat) (w : World) (hb : w.heap[g]? = some (.cells #[.string m] 119 (0, 0))) (hz : m.size ≤ 1000) (hn : NoX m 6) : Calls Tryz.prog 24 #[.iface 79 (.pointer (some ⟨g, 0, none⟩))] w fun e w' => e = .returned (.bool false) ∧ Drawn0 w w' := by
  have HE := Lib.hid (err_NoReplicas m g w hb)
  have HP := Lib.hid (fun w => hp_no m _ (show ¬ At (pre 6) m 0 from hn) w)
  have t1 : ∀ w, (Instr.typeAssert (.iface 79 (.pointer (some ⟨g, 0, none⟩))) 33 67 true).run Tryz.prog w = .ok (.tuple #[.pointer none, .bool false]) w := fun _ => by kernel_rfl
  have t2 : ∀ w, (Instr.typeAssert (.iface 79 (.pointer (some ⟨g, 0, none⟩))) 33 55 true).run Tryz.prog w = .ok (.tuple #[.string ⟨#[]⟩, .bool false]) w := fun _ => by kernel_rfl
  have hm := meth_NoReplicas
  have ha := ahead_NoReplicas
  clear hb hn
  go_enter Tryz.func24, Tryz.ntmps24
  go_wp2_with fail
  refine HE.out.mono ?_
  rintro e w0 ⟨rfl, rfl⟩
  go_wp2_with fail
  refine (HP.out _).mono ?_
  rintro e w1 ⟨rfl, ⟨nd1, rfl⟩⟩
  go_wp2_with fail
  go_ret
  exact ⟨rfl, ⟨_, rfl⟩⟩
set_option maxHeartbeats 1000000 in
set_option maxRecDepth 100000 in
theorem isMasterDown_MaxClients (m : ByteArray) (g : Nat) (w : World) (hb : w.heap[g]? = some (.cells #[.string m] 120 (0, 0))) (hz : m.size ≤ 1000) (hn : NoX m 6) : Calls Tryz.prog 24 #[.iface 69 (.pointer (some ⟨g, 0, none⟩))] w fun e w' => e = .returned (.bool false) ∧ Drawn0 w w' := by
  have HE := Lib.hid (err_MaxClients m g w hb)
  have HP := Lib.hid (fun w => hp_no m _ (show ¬ At (pre 6) m 0 from hn) w)
  have t1 : ∀ w, (Instr.typeAssert (.iface 69 (.pointer (some ⟨g, 0, none⟩))) 33 67 true).run Tryz.prog w = .ok (.tuple #[.pointer none, .bool false]) w := fun _ => by kernel_rfl
  have t2 : ∀ w, (Instr.typeAssert (.iface 69 (.pointer (some ⟨g, 0, none⟩))) 33 55 true).run Tryz.prog w = .ok (.tuple #[.string ⟨#[]⟩, .bool false]) w := fun _ => by kernel_rfl
  have hm := meth_MaxClients
  have ha := ahead_MaxClients
  clear hb hn
  go_enter Tryz.func24, Tryz.ntmps24
  go_wp2_with fail
  refine HE.out.mono ?_
  rintro e w0 ⟨rfl, rfl⟩
  go_wp2_with fail
  refine (HP.out _).mono ?_
  rintro e w1 ⟨rfl, ⟨nd1, rfl⟩⟩
  go_wp2_with fail
  go_ret
  exact ⟨rfl, ⟨_, rfl⟩⟩
set_option maxHeartbeats 1000000 in
set_option maxRecDepth 100000 in
theorem isMasterDown_Auth (m : ByteArray) (g : Nat) (w : World) (hb : w.heap[g]? = some (.cells #[.string m] 121 (0, 0))) (hz : m.size ≤ 1000) (hn : NoX m 6) : Calls Tryz.prog 24 #[.iface 71 (.pointer (some ⟨g, 0, none⟩))] w fun e w' => e = .returned (.bool false) ∧ Drawn0 w w' := by
  have HE := Lib.hid (err_Auth m g w hb)
  have HP := Lib.hid (fun w => hp_no m _ (show ¬ At (pre 6) m 0 from hn) w)
  have t1 : ∀ w, (Instr.typeAssert (.iface 71 (.pointer (some ⟨g, 0, none⟩))) 33 67 true).run Tryz.prog w = .ok (.tuple #[.pointer none, .bool false]) w := fun _ => by kernel_rfl
  have t2 : ∀ w, (Instr.typeAssert (.iface 71 (.pointer (some ⟨g, 0, none⟩))) 33 55 true).run Tryz.prog w = .ok (.tuple #[.string ⟨#[]⟩, .bool false]) w := fun _ => by kernel_rfl
  have hm := meth_Auth
  have ha := ahead_Auth
  clear hb hn
  go_enter Tryz.func24, Tryz.ntmps24
  go_wp2_with fail
  refine HE.out.mono ?_
  rintro e w0 ⟨rfl, rfl⟩
  go_wp2_with fail
  refine (HP.out _).mono ?_
  rintro e w1 ⟨rfl, ⟨nd1, rfl⟩⟩
  go_wp2_with fail
  go_ret
  exact ⟨rfl, ⟨_, rfl⟩⟩
set_option maxHeartbeats 1000000 in
set_option maxRecDepth 100000 in
theorem isMasterDown_Permission (m : ByteArray) (g : Nat) (w : World) (hb : w.heap[g]? = some (.cells #[.string m] 122 (0, 0))) (hz : m.size ≤ 1000) (hn : NoX m 6) : Calls Tryz.prog 24 #[.iface 73 (.pointer (some ⟨g, 0, none⟩))] w fun e w' => e = .returned (.bool false) ∧ Drawn0 w w' := by
  have HE := Lib.hid (err_Permission m g w hb)
  have HP := Lib.hid (fun w => hp_no m _ (show ¬ At (pre 6) m 0 from hn) w)
  have t1 : ∀ w, (Instr.typeAssert (.iface 73 (.pointer (some ⟨g, 0, none⟩))) 33 67 true).run Tryz.prog w = .ok (.tuple #[.pointer none, .bool false]) w := fun _ => by kernel_rfl
  have t2 : ∀ w, (Instr.typeAssert (.iface 73 (.pointer (some ⟨g, 0, none⟩))) 33 55 true).run Tryz.prog w = .ok (.tuple #[.string ⟨#[]⟩, .bool false]) w := fun _ => by kernel_rfl
  have hm := meth_Permission
  have ha := ahead_Permission
  clear hb hn
  go_enter Tryz.func24, Tryz.ntmps24
  go_wp2_with fail
  refine HE.out.mono ?_
  rintro e w0 ⟨rfl, rfl⟩
  go_wp2_with fail
  refine (HP.out _).mono ?_
  rintro e w1 ⟨rfl, ⟨nd1, rfl⟩⟩
  go_wp2_with fail
  go_ret
  exact ⟨rfl, ⟨_, rfl⟩⟩
set_option maxHeartbeats 1000000 in
set_option maxRecDepth 100000 in
theorem isMasterDown_ExecAbort (m : ByteArray) (g : Nat) (w : World) (hb : w.heap[g]? = some (.cells #[.string m] 123 (0, 0))) (hz : m.size ≤ 1000) (hn : NoX m 6) : Calls Tryz.prog 24 #[.iface 75 (.pointer (some ⟨g, 0, none⟩))] w fun e w' => e = .returned (.bool false) ∧ Drawn0 w w' := by
  have HE := Lib.hid (err_ExecAbort m g w hb)
  have HP := Lib.hid (fun w => hp_no m _ (show ¬ At (pre 6) m 0 from hn) w)
  have t1 : ∀ w, (Instr.typeAssert (.iface 75 (.pointer (some ⟨g, 0, none⟩))) 33 67 true).run Tryz.prog w = .ok (.tuple #[.pointer none, .bool false]) w := fun _ => by kernel_rfl
  have t2 : ∀ w, (Instr.typeAssert (.iface 75 (.pointer (some ⟨g, 0, none⟩))) 33 55 true).run Tryz.prog w = .ok (.tuple #[.string ⟨#[]⟩, .bool false]) w := fun _ => by kernel_rfl
  have hm := meth_ExecAbort
  have ha := ahead_ExecAbort
  clear hb hn
  go_enter Tryz.func24, Tryz.ntmps24
  go_wp2_with fail
  refine HE.out.mono ?_
  rintro e w0 ⟨rfl, rfl⟩
  go_wp2_with fail
  refine (HP.out _).mono ?_
  rintro e w1 ⟨rfl, ⟨nd1, rfl⟩⟩
  go_wp2_with fail
  go_ret
  exact ⟨rfl, ⟨_, rfl⟩⟩
set_option maxHeartbeats 1000000 in
set_option maxRecDepth 100000 in
theorem isMasterDown_OOM (m : ByteArray) (g : Nat) (w : World) (hb : w.heap[g]? = some (.cells #[.string m] 124 (0, 0))) (hz : m.size ≤ 1000) (hn : NoX m 6) : Calls Tryz.prog 24 #[.iface 77 (.pointer (some ⟨g, 0, none⟩))] w fun e w' => e = .returned (.bool false) ∧ Drawn0 w w' := by
  have HE := Lib.hid (err_OOM m g w hb)
  have HP := Lib.hid (fun w => hp_no m _ (show ¬ At (pre 6) m 0 from hn) w)
  have t1 : ∀ w, (Instr.typeAssert (.iface 77 (.pointer (some ⟨g, 0, none⟩))) 33 67 true).run Tryz.prog w = .ok (.tuple #[.pointer none, .bool false]) w := fun _ => by kernel_rfl
  have t2 : ∀ w, (Instr.typeAssert (.iface 77 (.pointer (some ⟨g, 0, none⟩))) 33 55 true).run Tryz.prog w = .ok (.tuple #[.string ⟨#[]⟩, .bool false]) w := fun _ => by kernel_rfl
  have hm := meth_OOM
  have ha := ahead_OOM
  clear hb hn
  go_enter Tryz.func24, Tryz.ntmps24
  go_wp2_with fail
  refine HE.out.mono ?_
  rintro e w0 ⟨rfl, rfl⟩
  go_wp2_with fail
  refine (HP.out _).mono ?_
  rintro e w1 ⟨rfl, ⟨nd1, rfl⟩⟩
  go_wp2_with fail
  go_ret
  exact ⟨rfl, ⟨_, rfl⟩⟩
set_option maxHeartbeats 1000000 in
set_option maxRecDepth 100000 in
theorem isMasterDown_R (m : ByteArray) (w : World) (hz : m.size ≤ 1000) (hn : NoX m 6) : Calls Tryz.prog 24 #[.iface 55 (.string m)] w fun e w' => e = .returned (.bool false) ∧ Drawn0 w w' := by
  have HP := Lib.hid (fun w => hp_no m _ (show ¬ At (pre 6) m 0 from hn) w)
  have t1 : ∀ w, (Instr.typeAssert (.iface 55 (.string m)) 33 67 true).run Tryz.prog w = .ok (.tuple #[.pointer none, .bool false]) w := fun _ => by kernel_rfl
  have t2 : ∀ w, (Instr.typeAssert (.iface 55 (.string m)) 33 55 true).run Tryz.prog w = .ok (.tuple #[.string m, .bool true]) w := fun _ => by kernel_rfl
  have hm := re_meth
  have ha := re_ahead
  clear hn
  go_enter Tryz.func24, Tryz.ntmps24
  go_wp2_with fail
  refine (re_error m _).mono ?_
  rintro e w0 ⟨rfl, rfl⟩
  go_wp2_with fail
  refine (HP.out _).mono ?_
  rintro e w1 ⟨rfl, ⟨nd1, rfl⟩⟩
  go_wp2_with fail
  refine (re_error m _).mono ?_
  rintro e wa ⟨rfl, rfl⟩
  go_wp2_with fail
  refine (HP.out _).mono ?_
  rintro e w2 ⟨rfl, ⟨nd2, rfl⟩⟩
  go_wp2_with fail
  go_ret
  exact ⟨rfl, ⟨_, rfl⟩⟩
theorem isMasterDown_any (m a : ByteArray) (c : Nat) (v : Value) (b : Bool) (w : World) (hc : c ≤ 13) (hv : EVal w m a c v) (hz : m.size ≤ 1000) (hb : Bx m c 6 b) : Calls Tryz.prog 24 #[v] w fun e w' => e = .returned (.bool b) ∧ Drawn0 w w' := by
  rcases hb with ⟨rfl, rfl⟩ | ⟨rfl, hne, hn⟩ | ⟨h8, rfl, rfl, ha⟩
  · obtain ⟨g, rfl, hb⟩ := hv
    exact isMasterDown_own g w
  · have hcs : c = 0 ∨ c = 1 ∨ c = 2 ∨ c = 3 ∨ c = 4 ∨ c = 5 ∨ c = 7 ∨ c = 8 ∨ c = 9 ∨ c = 10 ∨ c = 11 ∨ c = 12 ∨ c = 13 := by omega
    rcases hcs with rfl | rfl | rfl | rfl | rfl | rfl | rfl | rfl | rfl | rfl | rfl | rfl | rfl
    · obtain ⟨g, rfl, hb⟩ := hv
      exact isMasterDown_Loading m g w hb hz hn
    · obtain ⟨g, rfl, hb⟩ := hv
      exact isMasterDown_ReadOnly m g w hb hz hn
    · obtain ⟨g, rfl, hb⟩ := hv
      exact isMasterDown_Moved m a g w hb hz hn
    · obtain ⟨g, rfl, hb⟩ := hv
      exact isMasterDown_Ask m a g w hb hz hn
    · obtain ⟨g, rfl, hb⟩ := hv
      exact isMasterDown_ClusterDown m g w hb hz hn
    · obtain ⟨g, rfl, hb⟩ := hv
      exact isMasterDown_TryAgain m g w hb hz hn
    · obtain ⟨g, rfl, hb⟩ := hv
      exact isMasterDown_NoReplicas m g w hb hz hn
    · obtain ⟨g, rfl, hb⟩ := hv
      exact isMasterDown_MaxClients m g w hb hz hn
    · obtain ⟨g, rfl, hb⟩ := hv
      exact isMasterDown_Auth m g w hb hz hn
    · obtain ⟨g, rfl, hb⟩ := hv
      exact isMasterDown_Permission m g w hb hz hn
    · obtain ⟨g, rfl, hb⟩ := hv
      exact isMasterDown_ExecAbort m g w hb hz hn
    · obtain ⟨g, rfl, hb⟩ := hv
      exact isMasterDown_OOM m g w hb hz hn
    · obtain rfl : v = _ := hv
      exact isMasterDown_R m w hz hn
  · exact absurd h8 (by decide)
end Go.Proofs.YtkogipaaioibaaaGreat

namespace Go.Proofs.YtkogipaaioibaaaGreat
set_option linter.unusedVariables false
set_option linter.unusedSimpArgs false
open Go.RowKit Go.Proofs.YtkogipaaioibaaaGreatW.PrintWords
set_option maxHeartbeats 1000000 in
set_option maxRecDepth 100000 in
theorem isNoReplicas_own (g : Nat) (w : World) : Calls Tryz.prog 30 #[.iface 79 (.pointer (some ⟨g, 0, none⟩))] w fun e w' => e = .returned (.bool true) ∧ Drawn0 w w' := by
  have t1 : ∀ w, (Instr.typeAssert (.iface 79 (.pointer (some ⟨g, 0, none⟩))) 33 79 true).run Tryz.prog w = .ok (.tuple #[.pointer (some ⟨g, 0, none⟩), .bool true]) w := fun _ => by kernel_rfl
  go_enter Tryz.func30, Tryz.ntmps30
  go_wp2_with fail
  go_ret
  exact ⟨rfl, Drawn0.refl _⟩
set_option maxHeartbeats 1000000 in
set_option maxRecDepth 100000 in
theorem isNoReplicas_Loading (m : ByteArray) (g : Nat) (w : World) (hb : w.heap[g]? = some (.cells #[.string m] 114 (0, 0))) (hz : m.size ≤ 1000) (hn : NoX m 7) : Calls Tryz.prog 30 #[.iface 53 (.pointer (some ⟨g, 0, none⟩))] w fun e w' => e = .returned (.bool false) ∧ Drawn0 w w' := by
  have HE := Lib.hid (err_Loading m g w hb)
  have HP := Lib.hid (fun w => hp_no m _ (show ¬ At (pre 7) m 0 from hn) w)
  have t1 : ∀ w, (Instr.typeAssert (.iface 53 (.pointer (some ⟨g, 0, none⟩))) 33 79 true).run Tryz.prog w = .ok (.tuple #[.pointer none, .bool false]) w := fun _ => by kernel_rfl
  have t2 : ∀ w, (Instr.typeAssert (.iface 53 (.pointer (some ⟨g, 0, none⟩))) 33 55 true).run Tryz.prog w = .ok (.tuple #[.string ⟨#[]⟩, .bool false]) w := fun _ => by kernel_rfl
  have hm := meth_Loading
  have ha := ahead_Loading
  clear hb hn
  go_enter Tryz.func30, Tryz.ntmps30
  go_wp2_with fail
  refine HE.out.mono ?_
  rintro e w0 ⟨rfl, rfl⟩
  go_wp2_with fail
  refine (HP.out _).mono ?_
  rintro e w1 ⟨rfl, ⟨nd1, rfl⟩⟩
  go_wp2_with fail
  go_ret
  exact ⟨rfl, ⟨_, rfl⟩⟩
set_option maxHeartbeats 1000000 in
set_option maxRecDepth 100000 in
theorem isNoReplicas_ReadOnly (m : ByteArray) (g : Nat) (w : World) (hb : w.heap[g]? = some (.cells #[.string m] 115 (0, 0))) (hz : m.size ≤ 1000) (hn : NoX m 7) : Calls Tryz.prog 30 #[.iface 57 (.pointer (some ⟨g, 0, none⟩))] w fun e w' => e = .returned (.bool false) ∧ Drawn0 w w' := by
  have HE := Lib.hid (err_ReadOnly m g w hb)
  have HP := Lib.hid (fun w => hp_no m _ (show ¬ At (pre 7) m 0 from hn) w)
  have t1 : ∀ w, (Instr.typeAssert (.iface 57 (.pointer (some ⟨g, 0, none⟩))) 33 79 true).run Tryz.prog w = .ok (.tuple #[.pointer none, .bool false]) w := fun _ => by kernel_rfl
  have t2 : ∀ w, (Instr.typeAssert (.iface 57 (.pointer (some ⟨g, 0, none⟩))) 33 55 true).run Tryz.prog w = .ok (.tuple #[.string ⟨#[]⟩, .bool false]) w := fun _ => by kernel_rfl
  have hm := meth_ReadOnly
  have ha := ahead_ReadOnly
  clear hb hn
  go_enter Tryz.func30, Tryz.ntmps30
  go_wp2_with fail
  refine HE.out.mono ?_
  rintro e w0 ⟨rfl, rfl⟩
  go_wp2_with fail
  refine (HP.out _).mono ?_
  rintro e w1 ⟨rfl, ⟨nd1, rfl⟩⟩
  go_wp2_with fail
  go_ret
  exact ⟨rfl, ⟨_, rfl⟩⟩
set_option maxHeartbeats 1000000 in
set_option maxRecDepth 100000 in
theorem isNoReplicas_Moved (m a : ByteArray) (g : Nat) (w : World) (hb : w.heap[g]? = some (.cells #[.string m, .string a] 61 (0, 0))) (hz : m.size ≤ 1000) (hn : NoX m 7) : Calls Tryz.prog 30 #[.iface 38 (.pointer (some ⟨g, 0, none⟩))] w fun e w' => e = .returned (.bool false) ∧ Drawn0 w w' := by
  have HE := Lib.hid (err_Moved m a g w hb)
  have HP := Lib.hid (fun w => hp_no m _ (show ¬ At (pre 7) m 0 from hn) w)
  have t1 : ∀ w, (Instr.typeAssert (.iface 38 (.pointer (some ⟨g, 0, none⟩))) 33 79 true).run Tryz.prog w = .ok (.tuple #[.pointer none, .bool false]) w := fun _ => by kernel_rfl
  have t2 : ∀ w, (Instr.typeAssert (.iface 38 (.pointer (some ⟨g, 0, none⟩))) 33 55 true).run Tryz.prog w = .ok (.tuple #[.string ⟨#[]⟩, .bool false]) w := fun _ => by kernel_rfl
  have hm := meth_Moved
  have ha := ahead_Moved
  clear hb hn
  go_enter Tryz.func30, Tryz.ntmps30
  go_wp2_with fail
  refine HE.out.mono ?_
  rintro e w0 ⟨rfl, rfl⟩
  go_wp2_with fail
  refine (HP.out _).mono ?_
  rintro e w1 ⟨rfl, ⟨nd1, rfl⟩⟩
  go_wp2_with fail
  go_ret
  exact ⟨rfl, ⟨_, rfl⟩⟩
set_option maxHeartbeats 1000000 in
set_option maxRecDepth 100000 in
theorem isNoReplicas_Ask (m a : ByteArray) (g : Nat) (w : World) (hb : w.heap[g]? = some (.cells #[.string m, .string a] 62 (0, 0))) (hz : m.size ≤ 1000) (hn : NoX m 7) : Calls Tryz.prog 30 #[.iface 42 (.pointer (some ⟨g, 0, none⟩))] w fun e w' => e = .returned (.bool false) ∧ Drawn0 w w' := by
  have HE := Lib.hid (err_Ask m a g w hb)
  have HP := Lib.hid (fun w => hp_no m _ (show ¬ At (pre 7) m 0 from hn) w)
  have t1 : ∀ w, (Instr.typeAssert (.iface 42 (.pointer (some ⟨g, 0, none⟩))) 33 79 true).run Tryz.prog w = .ok (.tuple #[.pointer none, .bool false]) w := fun _ => by kernel_rfl
  have t2 : ∀ w, (Instr.typeAssert (.iface 42 (.pointer (some ⟨g, 0, none⟩))) 33 55 true).run Tryz.prog w = .ok (.tuple #[.string ⟨#[]⟩, .bool false]) w := fun _ => by kernel_rfl
  have hm := meth_Ask
  have ha := ahead_Ask
  clear hb hn
  go_enter Tryz.func30, Tryz.ntmps30
  go_wp2_with fail
  refine HE.out.mono ?_
  rintro e w0 ⟨rfl, rfl⟩
  go_wp2_with fail
  refine (HP.out _).mono ?_
  rintro e w1 ⟨rfl, ⟨nd1, rfl⟩⟩
  go_wp2_with fail
  go_ret
  exact ⟨rfl, ⟨_, rfl⟩⟩
set_option maxHeartbeats 1000000 in
set_option maxRecDepth 100000 in
theorem isNoReplicas_ClusterDown (m : ByteArray) (g : Nat) (w : World) (hb : w.heap[g]? = some (.cells #[.string m] 116 (0, 0))) (hz : m.size ≤ 1000) (hn : NoX m 7) : Calls Tryz.prog 30 #[.iface 63 (.pointer (some ⟨g, 0, none⟩))] w fun e w' => e = .returned (.bool false) ∧ Drawn0 w w' := by
  have HE := Lib.hid (err_ClusterDown m g w hb)
  have HP := Lib.hid (fun w => hp_no m _ (show ¬ At (pre 7) m 0 from hn) w)
  have t1 : ∀ w, (Instr.typeAssert (.iface 63 (.pointer (some ⟨g, 0, none⟩))) 33 79 true).run Tryz.prog w = .ok (.tuple #[.pointer none, .bool false]) w := fun _ => by kernel_rfl
  have t2 : ∀ w, (Instr.typeAssert (.iface 63 (.pointer (some ⟨g, 0, none⟩))) 33 55 true).run Tryz.prog w = .ok (.tuple #[.string ⟨#[]⟩, .bool false]) w := fun _ => by kernel_rfl
  have hm := meth_ClusterDown
  have ha := ahead_ClusterDown
  clear hb hn
  go_enter Tryz.func30, Tryz.ntmps30
  go_wp2_with fail
  refine HE.out.mono ?_
  rintro e w0 ⟨rfl, rfl⟩
  go_wp2_with fail
  refine (HP.out _).mono ?_
  rintro e w1 ⟨rfl, ⟨nd1, rfl⟩⟩
  go_wp2_with fail
  go_ret
  exact ⟨rfl, ⟨_, rfl⟩⟩
set_option maxHeartbeats 1000000 in
set_option maxRecDepth 100000 in
theorem isNoReplicas_TryAgain (m : ByteArray) (g : Nat) (w : World) (hb : w.heap[g]? = some (.cells #[.string m] 117 (0, 0))) (hz : m.size ≤ 1000) (hn : NoX m 7) : Calls Tryz.prog 30 #[.iface 65 (.pointer (some ⟨g, 0, none⟩))] w fun e w' => e = .returned (.bool false) ∧ Drawn0 w w' := by
  have HE := Lib.hid (err_TryAgain m g w hb)
  have HP := Lib.hid (fun w => hp_no m _ (show ¬ At (pre 7) m 0 from hn) w)
  have t1 : ∀ w, (Instr.typeAssert (.iface 65 (.pointer (some ⟨g, 0, none⟩))) 33 79 true).run Tryz.prog w = .ok (.tuple #[.pointer none, .bool false]) w := fun _ => by kernel_rfl
  have t2 : ∀ w, (Instr.typeAssert (.iface 65 (.pointer (some ⟨g, 0, none⟩))) 33 55 true).run Tryz.prog w = .ok (.tuple #[.string ⟨#[]⟩, .bool false]) w := fun _ => by kernel_rfl
  have hm := meth_TryAgain
  have ha := ahead_TryAgain
  clear hb hn
  go_enter Tryz.func30, Tryz.ntmps30
  go_wp2_with fail
  refine HE.out.mono ?_
  rintro e w0 ⟨rfl, rfl⟩
  go_wp2_with fail
  refine (HP.out _).mono ?_
  rintro e w1 ⟨rfl, ⟨nd1, rfl⟩⟩
  go_wp2_with fail
  go_ret
  exact ⟨rfl, ⟨_, rfl⟩⟩
set_option maxHeartbeats 1000000 in
set_option maxRecDepth 100000 in
theorem isNoReplicas_MasterDown (m : ByteArray) (g : Nat) (w : World) (hb : w.heap[g]? = some (.cells #[.string m] 118 (0, 0))) (hz : m.size ≤ 1000) (hn : NoX m 7) : Calls Tryz.prog 30 #[.iface 67 (.pointer (some ⟨g, 0, none⟩))] w fun e w' => e = .returned (.bool false) ∧ Drawn0 w w' := by
  have HE := Lib.hid (err_MasterDown m g w hb)
  have HP := Lib.hid (fun w => hp_no m _ (show ¬ At (pre 7) m 0 from hn) w)
  have t1 : ∀ w, (Instr.typeAssert (.iface 67 (.pointer (some ⟨g, 0, none⟩))) 33 79 true).run Tryz.prog w = .ok (.tuple #[.pointer none, .bool false]) w := fun _ => by kernel_rfl
  have t2 : ∀ w, (Instr.typeAssert (.iface 67 (.pointer (some ⟨g, 0, none⟩))) 33 55 true).run Tryz.prog w = .ok (.tuple #[.string ⟨#[]⟩, .bool false]) w := fun _ => by kernel_rfl
  have hm := meth_MasterDown
  have ha := ahead_MasterDown
  clear hb hn
  go_enter Tryz.func30, Tryz.ntmps30
  go_wp2_with fail
  refine HE.out.mono ?_
  rintro e w0 ⟨rfl, rfl⟩
  go_wp2_with fail
  refine (HP.out _).mono ?_
  rintro e w1 ⟨rfl, ⟨nd1, rfl⟩⟩
  go_wp2_with fail
  go_ret
  exact ⟨rfl, ⟨_, rfl⟩⟩
set_option maxHeartbeats 1000000 in
set_option maxRecDepth 100000 in
theorem isNoReplicas_MaxClients (m : ByteArray) (g : Nat) (w : World) (hb : w.heap[g]? = some (.cells #[.string m] 120 (0, 0))) (hz : m.size ≤ 1000) (hn : NoX m 7) : Calls Tryz.prog 30 #[.iface 69 (.pointer (some ⟨g, 0, none⟩))] w fun e w' => e = .returned (.bool false) ∧ Drawn0 w w' := by
  have HE := Lib.hid (err_MaxClients m g w hb)
  have HP := Lib.hid (fun w => hp_no m _ (show ¬ At (pre 7) m 0 from hn) w)
  have t1 : ∀ w, (Instr.typeAssert (.iface 69 (.pointer (some ⟨g, 0, none⟩))) 33 79 true).run Tryz.prog w = .ok (.tuple #[.pointer none, .bool false]) w := fun _ => by kernel_rfl
  have t2 : ∀ w, (Instr.typeAssert (.iface 69 (.pointer (some ⟨g, 0, none⟩))) 33 55 true).run Tryz.prog w = .ok (.tuple #[.string ⟨#[]⟩, .bool false]) w := fun _ => by kernel_rfl
  have hm := meth_MaxClients
  have ha := ahead_MaxClients
  clear hb hn
  go_enter Tryz.func30, Tryz.ntmps30
  go_wp2_with fail
  refine HE.out.mono ?_
  rintro e w0 ⟨rfl, rfl⟩
  go_wp2_with fail
  refine (HP.out _).mono ?_
  rintro e w1 ⟨rfl, ⟨nd1, rfl⟩⟩
  go_wp2_with fail
  go_ret
  exact ⟨rfl, ⟨_, rfl⟩⟩
set_option maxHeartbeats 1000000 in
set_option maxRecDepth 100000 in
theorem isNoReplicas_Auth (m : ByteArray) (g : Nat) (w : World) (hb : w.heap[g]? = some (.cells #[.string m] 121 (0, 0))) (hz : m.size ≤ 1000) (hn : NoX m 7) : Calls Tryz.prog 30 #[.iface 71 (.pointer (some ⟨g, 0, none⟩))] w fun e w' => e = .returned (.bool false) ∧ Drawn0 w w' := by
  have HE := Lib.hid (err_Auth m g w hb)
  have HP := Lib.hid (fun w => hp_no m _ (show ¬ At (pre 7) m 0 from hn) w)
  have t1 : ∀ w, (Instr.typeAssert (.iface 71 (.pointer (some ⟨g, 0, none⟩))) 33 79 true).run Tryz.prog w = .ok (.tuple #[.pointer none, .bool false]) w := fun _ => by kernel_rfl
  have t2 : ∀ w, (Instr.typeAssert (.iface 71 (.pointer (some ⟨g, 0, none⟩))) 33 55 true).run Tryz.prog w = .ok (.tuple #[.string ⟨#[]⟩, .bool false]) w := fun _ => by kernel_rfl
  have hm := meth_Auth
  have ha := ahead_Auth
  clear hb hn
  go_enter Tryz.func30, Tryz.ntmps30
  go_wp2_with fail
  refine HE.out.mono ?_
  rintro e w0 ⟨rfl, rfl⟩
  go_wp2_with fail
  refine (HP.out _).mono ?_
  rintro e w1 ⟨rfl, ⟨nd1, rfl⟩⟩
  go_wp2_with fail
  go_ret
  exact ⟨rfl, ⟨_, rfl⟩⟩
set_option maxHeartbeats 1000000 in
set_option maxRecDepth 100000 in
theorem isNoReplicas_Permission (m : ByteArray) (g : Nat) (w : World) (hb : w.heap[g]? = some (.cells #[.string m] 122 (0, 0))) (hz : m.size ≤ 1000) (hn : NoX m 7) : Calls Tryz.prog 30 #[.iface 73 (.pointer (some ⟨g, 0, none⟩))] w fun e w' => e = .returned (.bool false) ∧ Drawn0 w w' := by
  have HE := Lib.hid (err_Permission m g w hb)
  have HP := Lib.hid (fun w => hp_no m _ (show ¬ At (pre 7) m 0 from hn) w)
  have t1 : ∀ w, (Instr.typeAssert (.iface 73 (.pointer (some ⟨g, 0, none⟩))) 33 79 true).run Tryz.prog w = .ok (.tuple #[.pointer none, .bool false]) w := fun _ => by kernel_rfl
  have t2 : ∀ w, (Instr.typeAssert (.iface 73 (.pointer (some ⟨g, 0, none⟩))) 33 55 true).run Tryz.prog w = .ok (.tuple #[.string ⟨#[]⟩, .bool false]) w := fun _ => by kernel_rfl
  have hm := meth_Permission
  have ha := ahead_Permission
  clear hb hn
  go_enter Tryz.func30, Tryz.ntmps30
  go_wp2_with fail
  refine HE.out.mono ?_
  rintro e w0 ⟨rfl, rfl⟩
  go_wp2_with fail
  refine (HP.out _).mono ?_
  rintro e w1 ⟨rfl, ⟨nd1, rfl⟩⟩
  go_wp2_with fail
  go_ret
  exact ⟨rfl, ⟨_, rfl⟩⟩
set_option maxHeartbeats 1000000 in
set_option maxRecDepth 100000 in
theorem isNoReplicas_ExecAbort (m : ByteArray) (g : Nat) (w : World) (hb : w.heap[g]? = some (.cells #[.string m] 123 (0, 0))) (hz : m.size ≤ 1000) (hn : NoX m 7) : Calls Tryz.prog 30 #[.iface 75 (.pointer (some ⟨g, 0, none⟩))] w fun e w' => e = .returned (.bool false) ∧ Drawn0 w w' := by
  have HE := Lib.hid (err_ExecAbort m g w hb)
  have HP := Lib.hid (fun w => hp_no m _ (show ¬ At (pre 7) m 0 from hn) w)
  have t1 : ∀ w, (Instr.typeAssert (.iface 75 (.pointer (some ⟨g, 0, none⟩))) 33 79 true).run Tryz.prog w = .ok (.tuple #[.pointer none, .bool false]) w := fun _ => by kernel_rfl
  have t2 : ∀ w, (Instr.typeAssert (.iface 75 (.pointer (some ⟨g, 0, none⟩))) 33 55 true).run Tryz.prog w = .ok (.tuple #[.string ⟨#[]⟩, .bool false]) w := fun _ => by kernel_rfl
  have hm := meth_ExecAbort
  have ha := ahead_ExecAbort
  clear hb hn
  go_enter Tryz.func30, Tryz.ntmps30
  go_wp2_with fail
  refine HE.out.mono ?_
  rintro e w0 ⟨rfl, rfl⟩
  go_wp2_with fail
  refine (HP.out _).mono ?_
  rintro e w1 ⟨rfl, ⟨nd1, rfl⟩⟩
  go_wp2_with fail
  go_ret
  exact ⟨rfl, ⟨_, rfl⟩⟩
set_option maxHeartbeats 1000000 in
set_option maxRecDepth 100000 in
theorem isNoReplicas_OOM (m : ByteArray) (g : Nat) (w : World) (hb : w.heap[g]? = some (.cells #[.string m] 124 (0, 0))) (hz : m.size ≤ 1000) (hn : NoX m 7) : Calls Tryz.prog 30 #[.iface 77 (.pointer (some ⟨g, 0, none⟩))] w fun e w' => e = .returned (.bool false) ∧ Drawn0 w w' := by
  have HE := Lib.hid (err_OOM m g w hb)
  have HP := Lib.hid (fun w => hp_no m _ (show ¬ At (pre 7) m 0 from hn) w)
  have t1 : ∀ w, (Instr.typeAssert (.iface 77 (.pointer (some ⟨g, 0, none⟩))) 33 79 true).run Tryz.prog w = .ok (.tuple #[.pointer none, .bool false]) w := fun _ => by kernel_rfl
  have t2 : ∀ w, (Instr.typeAssert (.iface 77 (.pointer (some ⟨g, 0, none⟩))) 33 55 true).run Tryz.prog w = .ok (.tuple #[.string ⟨#[]⟩, .bool false]) w := fun _ => by kernel_rfl
  have hm := meth_OOM
  have ha := ahead_OOM
  clear hb hn
  go_enter Tryz.func30, Tryz.ntmps30
  go_wp2_with fail
  refine HE.out.mono ?_
  rintro e w0 ⟨rfl, rfl⟩
  go_wp2_with fail
  refine (HP.out _).mono ?_
  rintro e w1 ⟨rfl, ⟨nd1, rfl⟩⟩
  go_wp2_with fail
  go_ret
  exact ⟨rfl, ⟨_, rfl⟩⟩
set_option maxHeartbeats 1000000 in
set_option maxRecDepth 100000 in
theorem isNoReplicas_R (m : ByteArray) (w : World) (hz : m.size ≤ 1000) (hn : NoX m 7) : Calls Tryz.prog 30 #[.iface 55 (.string m)] w fun e w' => e = .returned (.bool false) ∧ Drawn0 w w' := by
  have HP := Lib.hid (fun w => hp_no m _ (show ¬ At (pre 7) m 0 from hn) w)
  have t1 : ∀ w, (Instr.typeAssert (.iface 55 (.string m)) 33 79 true).run Tryz.prog w = .ok (.tuple #[.pointer none, .bool false]) w := fun _ => by kernel_rfl
  have t2 : ∀ w, (Instr.typeAssert (.iface 55 (.string m)) 33 55 true).run Tryz.prog w = .ok (.tuple #[.string m, .bool true]) w := fun _ => by kernel_rfl
  have hm := re_meth
  have ha := re_ahead
  clear hn
  go_enter Tryz.func30, Tryz.ntmps30
  go_wp2_with fail
  refine (re_error m _).mono ?_
  rintro e w0 ⟨rfl, rfl⟩
  go_wp2_with fail
  refine (HP.out _).mono ?_
  rintro e w1 ⟨rfl, ⟨nd1, rfl⟩⟩
  go_wp2_with fail
  refine (re_error m _).mono ?_
  rintro e wa ⟨rfl, rfl⟩
  go_wp2_with fail
  refine (HP.out _).mono ?_
  rintro e w2 ⟨rfl, ⟨nd2, rfl⟩⟩
  go_wp2_with fail
  go_ret
  exact ⟨rfl, ⟨_, rfl⟩⟩
theorem isNoReplicas_any (m a : ByteArray) (c : Nat) (v : Value) (b : Bool) (w : World) (hc : c ≤ 13) (hv : EVal w m a c v) (hz : m.size ≤ 1000) (hb : Bx m c 7 b) : Calls Tryz.prog 30 #[v] w fun e w' => e = .returned (.bool b) ∧ Drawn0 w w' := by
  rcases hb with ⟨rfl, rfl⟩ | ⟨rfl, hne, hn⟩ | ⟨h8, rfl, rfl, ha⟩
  · obtain ⟨g, rfl, hb⟩ := hv
    exact isNoReplicas_own g w
  · have hcs : c = 0 ∨ c = 1 ∨ c = 2 ∨ c = 3 ∨ c = 4 ∨ c = 5 ∨ c = 6 ∨ c = 8 ∨ c = 9 ∨ c = 10 ∨ c = 11 ∨ c = 12 ∨ c = 13 := by omega
    rcases hcs with rfl | rfl | rfl | rfl | rfl | rfl | rfl | rfl | rfl | rfl | rfl | rfl | rfl
    · obtain ⟨g, rfl, hb⟩ := hv
      exact isNoReplicas_Loading m g w hb hz hn
    · obtain ⟨g, rfl, hb⟩ := hv
      exact isNoReplicas_ReadOnly m g w hb hz hn
    · obtain ⟨g, rfl, hb⟩ := hv
      exact isNoReplicas_Moved m a g w hb hz hn
    · obtain ⟨g, rfl, hb⟩ := hv
      exact isNoReplicas_Ask m a g w hb hz hn
    · obtain ⟨g, rfl, hb⟩ := hv
      exact isNoReplicas_ClusterDown m g w hb hz hn
    · obtain ⟨g, rfl, hb⟩ := hv
      exact isNoReplicas_TryAgain m g w hb hz hn
    · obtain ⟨g, rfl, hb⟩ := hv
      exact isNoReplicas_MasterDown m g w hb hz hn
    · obtain ⟨g, rfl, hb⟩ := hv
      exact isNoReplicas_MaxClients m g w hb hz hn
    · obtain ⟨g, rfl, hb⟩ := hv
      exact isNoReplicas_Auth m g w hb hz hn
    · obtain ⟨g, rfl, hb⟩ := hv
      exact isNoReplicas_Permission m g w hb hz hn
    · obtain ⟨g, rfl, hb⟩ := hv
      exact isNoReplicas_ExecAbort m g w hb hz hn
    · obtain ⟨g, rfl, hb⟩ := hv
      exact isNoReplicas_OOM m g w hb hz hn
    · obtain rfl : v = _ := hv
      exact isNoReplicas_R m w hz hn
  · exact absurd h8 (by decide)
end Go.Proofs.YtkogipaaioibaaaGreat

namespace Go.Proofs.YtkogipaaioibaaaGreat
set_option linter.unusedVariables false
set_option linter.unusedSimpArgs false
open Go.RowKit Go.Proofs.YtkogipaaioibaaaGreatW.PrintWords
set_option maxHeartbeats 1000000 in
set_option maxRecDepth 100000 in
theorem isMaxClients_own (g : Nat) (w : World) : Calls Tryz.prog 25 #[.iface 69 (.pointer (some ⟨g, 0, none⟩))] w fun e w' => e = .returned (.bool true) ∧ Drawn0 w w' := by
  have t1 : ∀ w, (Instr.typeAssert (.iface 69 (.pointer (some ⟨g, 0, none⟩))) 33 69 true).run Tryz.prog w = .ok (.tuple #[.pointer (some ⟨g, 0, none⟩), .bool true]) w := fun _ => by kernel_rfl
  go_enter Tryz.func25, Tryz.ntmps25
  go_wp2_with fail
  go_ret
  exact ⟨rfl, Drawn0.refl _⟩
set_option maxHeartbeats 1000000 in
set_option maxRecDepth 100000 in
theorem isMaxClients_Loading (m : ByteArray) (g : Nat) (w : World) (hb : w.heap[g]? = some (.cells #[.string m] 114 (0, 0))) (hz : m.size ≤ 1000) (hn : NoX m 8) : Calls Tryz.prog 25 #[.iface 53 (.pointer (some ⟨g, 0, none⟩))] w fun e w' => e = .returned (.bool false) ∧ Drawn0 w w' := by
  have HE := Lib.hid (err_Loading m g w hb)
  have HP := Lib.hid (fun w => hp_no m _ (show ¬ At (pre 8) m 0 from hn) w)
  have t1 : ∀ w, (Instr.typeAssert (.iface 53 (.pointer (some ⟨g, 0, none⟩))) 33 69 true).run Tryz.prog w = .ok (.tuple #[.pointer none, .bool false]) w := fun _ => by kernel_rfl
  have t2 : ∀ w, (Instr.typeAssert (.iface 53 (.pointer (some ⟨g, 0, none⟩))) 33 55 true).run Tryz.prog w = .ok (.tuple #[.string ⟨#[]⟩, .bool false]) w := fun _ => by kernel_rfl
  have hm := meth_Loading
  have ha := ahead_Loading
  clear hb hn
  go_enter Tryz.func25, Tryz.ntmps25
  go_wp2_with fail
  refine HE.out.mono ?_
  rintro e w0 ⟨rfl, rfl⟩
  go_wp2_with fail
  refine (HP.out _).mono ?_
  rintro e w1 ⟨rfl, ⟨nd1, rfl⟩⟩
  go_wp2_with fail
  go_ret
  exact ⟨rfl, ⟨_, rfl⟩⟩
set_option maxHeartbeats 1000000 in
set_option maxRecDepth 100000 in
theorem isMaxClients_ReadOnly (m : ByteArray) (g : Nat) (w : World) (hb : w.heap[g]? = some (.cells #[.string m] 115 (0, 0))) (hz : m.size ≤ 1000) (hn : NoX m 8) : Calls Tryz.prog 25 #[.iface 57 (.pointer (some ⟨g, 0, none⟩))] w fun e w' => e = .returned (.bool false) ∧ Drawn0 w w' := by
  have HE := Lib.hid (err_ReadOnly m g w hb)
  have HP := Lib.hid (fun w => hp_no m _ (show ¬ At (pre 8) m 0 from hn) w)
  have t1 : ∀ w, (Instr.typeAssert (.iface 57 (.pointer (some ⟨g, 0, none⟩))) 33 69 true).run Tryz.prog w = .ok (.tuple #[.pointer none, .bool false]) w := fun _ => by kernel_rfl
  have t2 : ∀ w, (Instr.typeAssert (.iface 57 (.pointer (some ⟨g, 0, none⟩))) 33 55 true).run Tryz.prog w = .ok (.tuple #[.string ⟨#[]⟩, .bool false]) w := fun _ => by kernel_rfl
  have hm := meth_ReadOnly
  have ha := ahead_ReadOnly
  clear hb hn
  go_enter Tryz.func25, Tryz.ntmps25
  go_wp2_with fail
  refine HE.out.mono ?_
  rintro e w0 ⟨rfl, rfl⟩
  go_wp2_with fail
  refine (HP.out _).mono ?_
  rintro e w1 ⟨rfl, ⟨nd1, rfl⟩⟩
  go_wp2_with fail
  go_ret
  exact ⟨rfl, ⟨_, rfl⟩⟩
set_option maxHeartbeats 1000000 in
set_option maxRecDepth 100000 in
theorem isMaxClients_Moved (m a : ByteArray) (g : Nat) (w : World) (hb : w.heap[g]? = some (.cells #[.string m, .string a] 61 (0, 0))) (hz : m.size ≤ 1000) (hn : NoX m 8) : Calls Tryz.prog 25 #[.iface 38 (.pointer (some ⟨g, 0, none⟩))] w fun e w' => e = .returned (.bool false) ∧ Drawn0 w w' := by
  have HE := Lib.hid (err_Moved m a g w hb)
  have HP := Lib.hid (fun w => hp_no m _ (show ¬ At (pre 8) m 0 from hn) w)
  have t1 : ∀ w, (Instr.typeAssert (.iface 38 (.pointer (some ⟨g, 0, none⟩))) 33 69 true).run Tryz.prog w = .ok (.tuple #[.pointer none, .bool false]) w := fun _ => by kernel_rfl
  have t2 : ∀ w, (Instr.typeAssert (.iface 38 (.pointer (some ⟨g, 0, none⟩))) 33 55 true).run Tryz.prog w = .ok (.tuple #[.string ⟨#[]⟩, .bool false]) w := fun _ => by kernel_rfl
  have hm := meth_Moved
  have ha := ahead_Moved
  clear hb hn
  go_enter Tryz.func25, Tryz.ntmps25
  go_wp2_with fail
  refine HE.out.mono ?_
  rintro e w0 ⟨rfl, rfl⟩
  go_wp2_with fail
  refine (HP.out _).mono ?_
  rintro e w1 ⟨rfl, ⟨nd1, rfl⟩⟩
  go_wp2_with fail
  go_ret
  exact ⟨rfl, ⟨_, rfl⟩⟩
set_option maxHeartbeats 1000000 in
set_option maxRecDepth 100000 in
theorem isMaxClients_Ask (m a : ByteArray) (g : Nat) (w : World) (hb : w.heap[g]? = some (.cells #[.string m, .string a] 62 (0, 0))) (hz : m.size ≤ 1000) (hn : NoX m 8) : Calls Tryz.prog 25 #[.iface 42 (.pointer (some ⟨g, 0, none⟩))] w fun e w' => e = .returned (.bool false) ∧ Drawn0 w w' := by
  have HE := Lib.hid (err_Ask m a g w hb)
  have HP := Lib.hid (fun w => hp_no m _ (show ¬ At (pre 8) m 0 from hn) w)
  have t1 : ∀ w, (Instr.typeAssert (.iface 42 (.pointer (some ⟨g, 0, none⟩))) 33 69 true).run Tryz.prog w = .ok (.tuple #[.pointer none, .bool false]) w := fun _ => by kernel_rfl
  have t2 : ∀ w, (Instr.typeAssert (.iface 42 (.pointer (some ⟨g, 0, none⟩))) 33 55 true).run Tryz.prog w = .ok (.tuple #[.string ⟨#[]⟩, .bool false]) w := fun _ => by kernel_rfl
  have hm := meth_Ask
  have ha := ahead_Ask
  clear hb hn
  go_enter Tryz.func25, Tryz.ntmps25
  go_wp2_with fail
  refine HE.out.mono ?_
  rintro e w0 ⟨rfl, rfl⟩
  go_wp2_with fail
  refine (HP.out _).mono ?_
  rintro e w1 ⟨rfl, ⟨nd1, rfl⟩⟩
  go_wp2_with fail
  go_ret
  exact ⟨rfl, ⟨_, rfl⟩⟩
set_option maxHeartbeats 1000000 in
set_option maxRecDepth 100000 in
theorem isMaxClients_ClusterDown (m : ByteArray) (g : Nat) (w : World) (hb : w.heap[g]? = some (.cells #[.string m] 116 (0, 0))) (hz : m.size ≤ 1000) (hn : NoX m 8) : Calls Tryz.prog 25 #[.iface 63 (.pointer (some ⟨g, 0, none⟩))] w fun e w' => e = .returned (.bool false) ∧ Drawn0 w w' := by
  have HE := Lib.hid (err_ClusterDown m g w hb)
  have HP := Lib.hid (fun w => hp_no m _ (show ¬ At (pre 8) m 0 from hn) w)
  have t1 : ∀ w, (Instr.typeAssert (.iface 63 (.pointer (some ⟨g, 0, none⟩))) 33 69 true).run Tryz.prog w = .ok (.tuple #[.pointer none, .bool false]) w := fun _ => by kernel_rfl
  have t2 : ∀ w, (Instr.typeAssert (.iface 63 (.pointer (some ⟨g, 0, none⟩))) 33 55 true).run Tryz.prog w = .ok (.tuple #[.string ⟨#[]⟩, .bool false]) w := fun _ => by kernel_rfl
  have hm := meth_ClusterDown
  have ha := ahead_ClusterDown
  clear hb hn
  go_enter Tryz.func25, Tryz.ntmps25
  go_wp2_with fail
  refine HE.out.mono ?_
  rintro e w0 ⟨rfl, rfl⟩
  go_wp2_with fail
  refine (HP.out _).mono ?_
  rintro e w1 ⟨rfl, ⟨nd1, rfl⟩⟩
  go_wp2_with fail
  go_ret
  exact ⟨rfl, ⟨_, rfl⟩⟩
set_option maxHeartbeats 1000000 in
set_option maxRecDepth 100000 in
theorem isMaxClients_TryAgain (m : ByteArray) (g : Nat) (w : World) (hb : w.heap[g]? = some (.cells #[.string m] 117 (0, 0))) (hz : m.size ≤ 1000) (hn : NoX m 8) : Calls Tryz.prog 25 #[.iface 65 (.pointer (some ⟨g, 0, none⟩))] w fun e w' => e = .returned (.bool false) ∧ Drawn0 w w' := by
  have HE := Lib.hid (err_TryAgain m g w hb)
  have HP := Lib.hid (fun w => hp_no m _ (show ¬ At (pre 8) m 0 from hn) w)
  have t1 : ∀ w, (Instr.typeAssert (.iface 65 (.pointer (some ⟨g, 0, none⟩))) 33 69 true).run Tryz.prog w = .ok (.tuple #[.pointer none, .bool false]) w := fun _ => by kernel_rfl
  have t2 : ∀ w, (Instr.typeAssert (.iface 65 (.pointer (some ⟨g, 0, none⟩))) 33 55 true).run Tryz.prog w = .ok (.tuple #[.string ⟨#[]⟩, .bool false]) w := fun _ => by kernel_rfl
  have hm := meth_TryAgain
  have ha := ahead_TryAgain
  clear hb hn
  go_enter Tryz.func25, Tryz.ntmps25
  go_wp2_with fail
  refine HE.out.mono ?_
  rintro e w0 ⟨rfl, rfl⟩
  go_wp2_with fail
  refine (HP.out _).mono ?_
  rintro e w1 ⟨rfl, ⟨nd1, rfl⟩⟩
  go_wp2_with fail
  go_ret
  exact ⟨rfl, ⟨_, rfl⟩⟩
set_option maxHeartbeats 1000000 in
set_option maxRecDepth 100000 in
theorem isMaxClients_MasterDown (m : ByteArray) (g : Nat) (w : World) (hb : w.heap[g]? = some (.cells #[.string m] 118 (0, 0))) (hz : m.size ≤ 1000) (hn : NoX m 8) : Calls Tryz.prog 25 #[.iface 67 (.pointer (some ⟨g, 0, none⟩))] w fun e w' => e = .returned (.bool false) ∧ Drawn0 w w' := by
  have HE := Lib.hid (err_MasterDown m g w hb)
  have HP := Lib.hid (fun w => hp_no m _ (show ¬ At (pre 8) m 0 from hn) w)
  have t1 : ∀ w, (Instr.typeAssert (.iface 67 (.pointer (some ⟨g, 0, none⟩))) 33 69 true).run Tryz.prog w = .ok (.tuple #[.pointer none, .bool false]) w := fun _ => by kernel_rfl
  have t2 : ∀ w, (Instr.typeAssert (.iface 67 (.pointer (some ⟨g, 0, none⟩))) 33 55 true).run Tryz.prog w = .ok (.tuple #[.string ⟨#[]⟩, .bool false]) w := fun _ => by kernel_rfl
  have hm := meth_MasterDown
  have ha := ahead_MasterDown
  clear hb hn
  go_enter Tryz.func25, Tryz.ntmps25
  go_wp2_with fail
  refine HE.out.mono ?_
  rintro e w0 ⟨rfl, rfl⟩
  go_wp2_with fail
  refine (HP.out _).mono ?_
  rintro e w1 ⟨rfl, ⟨nd1, rfl⟩⟩
  go_wp2_with fail
  go_ret
  exact ⟨rfl, ⟨_, rfl⟩⟩
set_option maxHeartbeats 1000000 in
set_option maxRecDepth 100000 in
theorem isMaxClients_NoReplicas (m : ByteArray) (g : Nat) (w : World) (hb : w.heap[g]? = some (.cells #[.string m] 119 (0, 0))) (hz : m.size ≤ 1000) (hn : NoX m 8) : Calls Tryz.prog 25 #[.iface 79 (.pointer (some ⟨g, 0, none⟩))] w fun e w' => e = .returned (.bool false) ∧ Drawn0 w w' := by
  have HE := Lib.hid (err_NoReplicas m g w hb)
  have HP := Lib.hid (fun w => hp_no m _ (show ¬ At (pre 8) m 0 from hn) w)
  have t1 : ∀ w, (Instr.typeAssert (.iface 79 (.pointer (some ⟨g, 0, none⟩))) 33 69 true).run Tryz.prog w = .ok (.tuple #[.pointer none, .bool false]) w := fun _ => by kernel_rfl
  have t2 : ∀ w, (Instr.typeAssert (.iface 79 (.pointer (some ⟨g, 0, none⟩))) 33 55 true).run Tryz.prog w = .ok (.tuple #[.string ⟨#[]⟩, .bool false]) w := fun _ => by kernel_rfl
  have hm := meth_NoReplicas
  have ha := ahead_NoReplicas
  clear hb hn
  go_enter Tryz.func25, Tryz.ntmps25
  go_wp2_with fail
  refine HE.out.mono ?_
  rintro e w0 ⟨rfl, rfl⟩
  go_wp2_with fail
  refine (HP.out _).mono ?_
  rintro e w1 ⟨rfl, ⟨nd1, rfl⟩⟩
  go_wp2_with fail
  go_ret
  exact ⟨rfl, ⟨_, rfl⟩⟩
set_option maxHeartbeats 1000000 in
set_option maxRecDepth 100000 in
theorem isMaxClients_Auth (m : ByteArray) (g : Nat) (w : World) (hb : w.heap[g]? = some (.cells #[.string m] 121 (0, 0))) (hz : m.size ≤ 1000) (hn : NoX m 8) : Calls Tryz.prog 25 #[.iface 71 (.pointer (some ⟨g, 0, none⟩))] w fun e w' => e = .returned (.bool false) ∧ Drawn0 w w' := by
  have HE := Lib.hid (err_Auth m g w hb)
  have HP := Lib.hid (fun w => hp_no m _ (show ¬ At (pre 8) m 0 from hn) w)
  have t1 : ∀ w, (Instr.typeAssert (.iface 71 (.pointer (some ⟨g, 0, none⟩))) 33 69 true).run Tryz.prog w = .ok (.tuple #[.pointer none, .bool false]) w := fun _ => by kernel_rfl
  have t2 : ∀ w, (Instr.typeAssert (.iface 71 (.pointer (some ⟨g, 0, none⟩))) 33 55 true).run Tryz.prog w = .ok (.tuple #[.string ⟨#[]⟩, .bool false]) w := fun _ => by kernel_rfl
  have hm := meth_Auth
  have ha := ahead_Auth
  clear hb hn
  go_enter Tryz.func25, Tryz.ntmps25
  go_wp2_with fail
  refine HE.out.mono ?_
  rintro e w0 ⟨rfl, rfl⟩
  go_wp2_with fail
  refine (HP.out _).mono ?_
  rintro e w1 ⟨rfl, ⟨nd1, rfl⟩⟩
  go_wp2_with fail
  go_ret
  exact ⟨rfl, ⟨_, rfl⟩⟩
set_option maxHeartbeats 1000000 in
set_option maxRecDepth 100000 in
theorem isMaxClients_Permission (m : ByteArray) (g : Nat) (w : World) (hb : w.heap[g]? = some (.cells #[.string m] 122 (0, 0))) (hz : m.size ≤ 1000) (hn : NoX m 8) : Calls Tryz.prog 25 #[.iface 73 (.pointer (some ⟨g, 0, none⟩))] w fun e w' => e = .returned (.bool false) ∧ Drawn0 w w' := by
  have HE := Lib.hid (err_Permission m g w hb)
  have HP := Lib.hid (fun w => hp_no m _ (show ¬ At (pre 8) m 0 from hn) w)
  have t1 : ∀ w, (Instr.typeAssert (.iface 73 (.pointer (some ⟨g, 0, none⟩))) 33 69 true).run Tryz.prog w = .ok (.tuple #[.pointer none, .bool false]) w := fun _ => by kernel_rfl
  have t2 : ∀ w, (Instr.typeAssert (.iface 73 (.pointer (some ⟨g, 0, none⟩))) 33 55 true).run Tryz.prog w = .ok (.tuple #[.string ⟨#[]⟩, .bool false]) w := fun _ => by kernel_rfl
  have hm := meth_Permission
  have ha := ahead_Permission
  clear hb hn
  go_enter Tryz.func25, Tryz.ntmps25
  go_wp2_with fail
  refine HE.out.mono ?_
  rintro e w0 ⟨rfl, rfl⟩
  go_wp2_with fail
  refine (HP.out _).mono ?_
  rintro e w1 ⟨rfl, ⟨nd1, rfl⟩⟩
  go_wp2_with fail
  go_ret
  exact ⟨rfl, ⟨_, rfl⟩⟩
set_option maxHeartbeats 1000000 in
set_option maxRecDepth 100000 in
theorem isMaxClients_ExecAbort (m : ByteArray) (g : Nat) (w : World) (hb : w.heap[g]? = some (.cells #[.string m] 123 (0, 0))) (hz : m.size ≤ 1000) (hn : NoX m 8) : Calls Tryz.prog 25 #[.iface 75 (.pointer (some ⟨g, 0, none⟩))] w fun e w' => e = .returned (.bool false) ∧ Drawn0 w w' := by
  have HE := Lib.hid (err_ExecAbort m g w hb)
  have HP := Lib.hid (fun w => hp_no m _ (show ¬ At (pre 8) m 0 from hn) w)
  have t1 : ∀ w, (Instr.typeAssert (.iface 75 (.pointer (some ⟨g, 0, none⟩))) 33 69 true).run Tryz.prog w = .ok (.tuple #[.pointer none, .bool false]) w := fun _ => by kernel_rfl
  have t2 : ∀ w, (Instr.typeAssert (.iface 75 (.pointer (some ⟨g, 0, none⟩))) 33 55 true).run Tryz.prog w = .ok (.tuple #[.string ⟨#[]⟩, .bool false]) w := fun _ => by kernel_rfl
  have hm := meth_ExecAbort
  have ha := ahead_ExecAbort
  clear hb hn
  go_enter Tryz.func25, Tryz.ntmps25
  go_wp2_with fail
  refine HE.out.mono ?_
  rintro e w0 ⟨rfl, rfl⟩
  go_wp2_with fail
  refine (HP.out _).mono ?_
  rintro e w1 ⟨rfl, ⟨nd1, rfl⟩⟩
  go_wp2_with fail
  go_ret
  exact ⟨rfl, ⟨_, rfl⟩⟩
set_option maxHeartbeats 1000000 in
set_option maxRecDepth 100000 in
theorem isMaxClients_OOM (m : ByteArray) (g : Nat) (w : World) (hb : w.heap[g]? = some (.cells #[.string m] 124 (0, 0))) (hz : m.size ≤ 1000) (hn : NoX m 8) : Calls Tryz.prog 25 #[.iface 77 (.pointer (some ⟨g, 0, none⟩))] w fun e w' => e = .returned (.bool false) ∧ Drawn0 w w' := by
  have HE := Lib.hid (err_OOM m g w hb)
  have HP := Lib.hid (fun w => hp_no m _ (show ¬ At (pre 8) m 0 from hn) w)
  have t1 : ∀ w, (Instr.typeAssert (.iface 77 (.pointer (some ⟨g, 0, none⟩))) 33 69 true).run Tryz.prog w = .ok (.tuple #[.pointer none, .bool false]) w := fun _ => by kernel_rfl
  have t2 : ∀ w, (Instr.typeAssert (.iface 77 (.pointer (some ⟨g, 0, none⟩))) 33 55 true).run Tryz.prog w = .ok (.tuple #[.string ⟨#[]⟩, .bool false]) w := fun _ => by kernel_rfl
  have hm := meth_OOM
  have ha := ahead_OOM
  clear hb hn
  go_enter Tryz.func25, Tryz.ntmps25
  go_wp2_with fail
  refine HE.out.mono ?_
  rintro e w0 ⟨rfl, rfl⟩
  go_wp2_with fail
  refine (HP.out _).mono ?_
  rintro e w1 ⟨rfl, ⟨nd1, rfl⟩⟩
  go_wp2_with fail
  go_ret
  exact ⟨rfl, ⟨_, rfl⟩⟩
set_option maxHeartbeats 1000000 in
set_option maxRecDepth 100000 in
theorem isMaxClients_R (m : ByteArray) (w : World) (hz : m.size ≤ 1000) (hn : NoX m 8) : Calls Tryz.prog 25 #[.iface 55 (.string m)] w fun e w' => e = .returned (.bool false) ∧ Drawn0 w w' := by
  have HP := Lib.hid (fun w => hp_no m _ (show ¬ At (pre 8) m 0 from hn) w)
  have t1 : ∀ w, (Instr.typeAssert (.iface 55 (.string m)) 33 69 true).run Tryz.prog w = .ok (.tuple #[.pointer none, .bool false]) w := fun _ => by kernel_rfl
  have t2 : ∀ w, (Instr.typeAssert (.iface 55 (.string m)) 33 55 true).run Tryz.prog w = .ok (.tuple #[.string m, .bool true]) w := fun _ => by kernel_rfl
  have hm := re_meth
  have ha := re_ahead
  clear hn
  go_enter Tryz.func25, Tryz.ntmps25
  go_wp2_with fail
  refine (re_error m _).mono ?_
  rintro e w0 ⟨rfl, rfl⟩
  go_wp2_with fail
  refine (HP.out _).mono ?_
  rintro e w1 ⟨rfl, ⟨nd1, rfl⟩⟩
  go_wp2_with fail
  refine (re_error m _).mono ?_
  rintro e wa ⟨rfl, rfl⟩
  go_wp2_with fail
  refine (HP.out _).mono ?_
  rintro e w2 ⟨rfl, ⟨nd2, rfl⟩⟩
  go_wp2_with fail
  go_ret
  exact ⟨rfl, ⟨_, rfl⟩⟩
set_option maxHeartbeats 1000000 in
set_option maxRecDepth 100000 in
theorem isMaxClients_RY (m : ByteArray) (w : World) (hn : At (pre 8) m 0) : Calls Tryz.prog 25 #[.iface 55 (.string m)] w fun e w' => e = .returned (.bool true) ∧ Drawn0 w w' := by
  have HP := Lib.hid (fun w => hp_yes m _ hn w)
  have t1 : ∀ w, (Instr.typeAssert (.iface 55 (.string m)) 33 69 true).run Tryz.prog w = .ok (.tuple #[.pointer none, .bool false]) w := fun _ => by kernel_rfl
  have t2 : ∀ w, (Instr.typeAssert (.iface 55 (.string m)) 33 55 true).run Tryz.prog w = .ok (.tuple #[.string m, .bool true]) w := fun _ => by kernel_rfl
  clear hn
  go_enter Tryz.func25, Tryz.ntmps25
  go_wp2_with fail
  refine (re_error m _).mono ?_
  rintro e w0 ⟨rfl, rfl⟩
  go_wp2_with fail
  refine (HP.out _).mono ?_
  rintro e w1 ⟨rfl, ⟨nd1, rfl⟩⟩
  go_wp2_with fail
  go_ret
  exact ⟨rfl, ⟨_, rfl⟩⟩
theorem isMaxClients_any (m a : ByteArray) (c : Nat) (v : Value) (b : Bool) (w : World) (hc : c ≤ 13) (hv : EVal w m a c v) (hz : m.size ≤ 1000) (hb : Bx m c 8 b) : Calls Tryz.prog 25 #[v] w fun e w' => e = .returned (.bool b) ∧ Drawn0 w w' := by
  rcases hb with ⟨rfl, rfl⟩ | ⟨rfl, hne, hn⟩ | ⟨h8, rfl, rfl, ha⟩
  · obtain ⟨g, rfl, hb⟩ := hv
    exact isMaxClients_own g w
  · have hcs : c = 0 ∨ c = 1 ∨ c = 2 ∨ c = 3 ∨ c = 4 ∨ c = 5 ∨ c = 6 ∨ c = 7 ∨ c = 9 ∨ c = 10 ∨ c = 11 ∨ c = 12 ∨ c = 13 := by omega
    rcases hcs with rfl | rfl | rfl | rfl | rfl | rfl | rfl | rfl | rfl | rfl | rfl | rfl | rfl
    · obtain ⟨g, rfl, hb⟩ := hv
      exact isMaxClients_Loading m g w hb hz hn
    · obtain ⟨g, rfl, hb⟩ := hv
      exact isMaxClients_ReadOnly m g w hb hz hn
    · obtain ⟨g, rfl, hb⟩ := hv
      exact isMaxClients_Moved m a g w hb hz hn
    · obtain ⟨g, rfl, hb⟩ := hv
      exact isMaxClients_Ask m a g w hb hz hn
    · obtain ⟨g, rfl, hb⟩ := hv
      exact isMaxClients_ClusterDown m g w hb hz hn
    · obtain ⟨g, rfl, hb⟩ := hv
      exact isMaxClients_TryAgain m g w hb hz hn
    · obtain ⟨g, rfl, hb⟩ := hv
      exact isMaxClients_MasterDown m g w hb hz hn
    · obtain ⟨g, rfl, hb⟩ := hv
      exact isMaxClients_NoReplicas m g w hb hz hn
    · obtain ⟨g, rfl, hb⟩ := hv
      exact isMaxClients_Auth m g w hb hz hn
    · obtain ⟨g, rfl, hb⟩ := hv
      exact isMaxClients_Permission m g w hb hz hn
    · obtain ⟨g, rfl, hb⟩ := hv
      exact isMaxClients_ExecAbort m g w hb hz hn
    · obtain ⟨g, rfl, hb⟩ := hv
      exact isMaxClients_OOM m g w hb hz hn
    · obtain rfl : v = _ := hv
      exact isMaxClients_R m w hz hn
  · obtain rfl : v = _ := hv
    exact isMaxClients_RY m w ha
end Go.Proofs.YtkogipaaioibaaaGreat
