/- What IsAuthError says of each error. (seat r3.Z; printed by gen_er3.py) What IsPermissionError says of each error. (seat r3.Z; printed by gen_er3.py) What IsExecAbortError says of each error. (seat r3.Z; printed by gen_er3.py) What IsOOMError says of each error. (seat r3.Z; printed by gen_er3.py) -/
import Derived.Test.YtkogipaaioibaaaGreatEa
namespace Go.Proofs.YtkogipaaioibaaaGreat
set_option linter.unusedVariables false
set_option linter.unusedSimpArgs false
open Go.RowKit Go.Proofs.YtkogipaaioibaaaGreatW.PrintWords
set_option maxHeartbeats 1000000 in
set_option maxRecDepth 100000 in
theorem isAuth_own (g : Nat) (w : World) : Calls Tryz.prog 26 #[.iface 71 (.pointer (some ⟨g, 0, none⟩))] w fun e w' => e = .returned (.bool true) ∧ Drawn0 w w' := by
  have t1 : ∀ w, (Instr.typeAssert (.iface 71 (.pointer (some ⟨g, 0, none⟩))) 33 71 true).run Tryz.prog w = .ok (.tuple #[.pointer (some ⟨g, 0, none⟩), .bool true]) w := fun _ => by kernel_rfl
  go_enter Tryz.func26, Tryz.ntmps26
  go_wp2_with fail
  go_ret
  exact ⟨rfl, Drawn0.refl _⟩
set_option maxHeartbeats 1000000 in
set_option maxRecDepth 100000 in
theorem isAuth_Loading (m : ByteArray) (g : Nat) (w : World) (hb : w.heap[g]? = some (.cells #[.string m] 114 (0, 0))) (hz : m.size ≤ 1000) (hn : NoX m 9) : Calls Tryz.prog 26 #[.iface 53 (.pointer (some ⟨g, 0, none⟩))] w fun e w' => e = .returned (.bool false) ∧ Drawn0 w w' := by
  have HE := Lib.hid (err_Loading m g w hb)
  have HP := Lib.hid (fun w => hp_no m _ hn.1 w)
  have HQ := Lib.hid (fun w => hp_no m _ hn.2.1 w)
  have HS := Lib.hid (fun w => ct_no m _ hz (by decide) hn.2.2 w)
  have t1 : ∀ w, (Instr.typeAssert (.iface 53 (.pointer (some ⟨g, 0, none⟩))) 33 71 true).run Tryz.prog w = .ok (.tuple #[.pointer none, .bool false]) w := fun _ => by kernel_rfl
  have t2 : ∀ w, (Instr.typeAssert (.iface 53 (.pointer (some ⟨g, 0, none⟩))) 33 55 true).run Tryz.prog w = .ok (.tuple #[.string ⟨#[]⟩, .bool false]) w := fun _ => by kernel_rfl
  have hm := meth_Loading
  have ha := ahead_Loading
  clear hb hn
  go_enter Tryz.func26, Tryz.ntmps26
  go_wp2_with fail
  refine HE.out.mono ?_
  rintro e w0 ⟨rfl, rfl⟩
  go_wp2_with fail
  refine (HP.out _).mono ?_
  rintro e w1 ⟨rfl, ⟨nd1, rfl⟩⟩
  go_wp2_with fail
  refine (HQ.out _).mono ?_
  rintro e w2 ⟨rfl, ⟨nd2, rfl⟩⟩
  go_wp2_with fail
  refine (HS.out _).mono ?_
  rintro e w3 ⟨rfl, ⟨nd3, rfl⟩⟩
  go_wp2_with fail
  go_ret
  exact ⟨rfl, ⟨_, rfl⟩⟩
set_option maxHeartbeats 1000000 in
set_option maxRecDepth 100000 in
theorem isAuth_ReadOnly (m : ByteArray) (g : Nat) (w : World) (hb : w.heap[g]? = some (.cells #[.string m] 115 (0, 0))) (hz : m.size ≤ 1000) (hn : NoX m 9) : Calls Tryz.prog 26 #[.iface 57 (.pointer (some ⟨g, 0, none⟩))] w fun e w' => e = .returned (.bool false) ∧ Drawn0 w w' := by
  have HE := Lib.hid (err_ReadOnly m g w hb)
  have HP := Lib.hid (fun w => hp_no m _ hn.1 w)
  have HQ := Lib.hid (fun w => hp_no m _ hn.2.1 w)
  have HS := Lib.hid (fun w => ct_no m _ hz (by decide) hn.2.2 w)
  have t1 : ∀ w, (Instr.typeAssert (.iface 57 (.pointer (some ⟨g, 0, none⟩))) 33 71 true).run Tryz.prog w = .ok (.tuple #[.pointer none, .bool false]) w := fun _ => by kernel_rfl
  have t2 : ∀ w, (Instr.typeAssert (.iface 57 (.pointer (some ⟨g, 0, none⟩))) 33 55 true).run Tryz.prog w = .ok (.tuple #[.string ⟨#[]⟩, .bool false]) w := fun _ => by kernel_rfl
  have hm := meth_ReadOnly
  have ha := ahead_ReadOnly
  clear hb hn
  go_enter Tryz.func26, Tryz.ntmps26
  go_wp2_with fail
  refine HE.out.mono ?_
  rintro e w0 ⟨rfl, rfl⟩
  go_wp2_with fail
  refine (HP.out _).mono ?_
  rintro e w1 ⟨rfl, ⟨nd1, rfl⟩⟩
  go_wp2_with fail
  refine (HQ.out _).mono ?_
  rintro e w2 ⟨rfl, ⟨nd2, rfl⟩⟩
  go_wp2_with fail
  refine (HS.out _).mono ?_
  rintro e w3 ⟨rfl, ⟨nd3, rfl⟩⟩
  go_wp2_with fail
  go_ret
  exact ⟨rfl, ⟨_, rfl⟩⟩
set_option maxHeartbeats 1000000 in
set_option maxRecDepth 100000 in
theorem isAuth_Moved (m a : ByteArray) (g : Nat) (w : World) (hb : w.heap[g]? = some (.cells #[.string m, .string a] 61 (0, 0))) (hz : m.size ≤ 1000) (hn : NoX m 9) : Calls Tryz.prog 26 #[.iface 38 (.pointer (some ⟨g, 0, none⟩))] w fun e w' => e = .returned (.bool false) ∧ Drawn0 w w' := by
  have HE := Lib.hid (err_Moved m a g w hb)
  have HP := Lib.hid (fun w => hp_no m _ hn.1 w)
  have HQ := Lib.hid (fun w => hp_no m _ hn.2.1 w)
  have HS := Lib.hid (fun w => ct_no m _ hz (by decide) hn.2.2 w)
  have t1 : ∀ w, (Instr.typeAssert (.iface 38 (.pointer (some ⟨g, 0, none⟩))) 33 71 true).run Tryz.prog w = .ok (.tuple #[.pointer none, .bool false]) w := fun _ => by kernel_rfl
  have t2 : ∀ w, (Instr.typeAssert (.iface 38 (.pointer (some ⟨g, 0, none⟩))) 33 55 true).run Tryz.prog w = .ok (.tuple #[.string ⟨#[]⟩, .bool false]) w := fun _ => by kernel_rfl
  have hm := meth_Moved
  have ha := ahead_Moved
  clear hb hn
  go_enter Tryz.func26, Tryz.ntmps26
  go_wp2_with fail
  refine HE.out.mono ?_
  rintro e w0 ⟨rfl, rfl⟩
  go_wp2_with fail
  refine (HP.out _).mono ?_
  rintro e w1 ⟨rfl, ⟨nd1, rfl⟩⟩
  go_wp2_with fail
  refine (HQ.out _).mono ?_
  rintro e w2 ⟨rfl, ⟨nd2, rfl⟩⟩
  go_wp2_with fail
  refine (HS.out _).mono ?_
  rintro e w3 ⟨rfl, ⟨nd3, rfl⟩⟩
  go_wp2_with fail
  go_ret
  exact ⟨rfl, ⟨_, rfl⟩⟩
set_option maxHeartbeats 1000000 in
set_option maxRecDepth 100000 in
theorem isAuth_Ask (m a : ByteArray) (g : Nat) (w : World) (hb : w.heap[g]? = some (.cells #[.string m, .string a] 62 (0, 0))) (hz : m.size ≤ 1000) (hn : NoX m 9) : Calls Tryz.prog 26 #[.iface 42 (.pointer (some ⟨g, 0, none⟩))] w fun e w' => e = .returned (.bool false) ∧ Drawn0 w w' := by
  have HE := Lib.hid (err_Ask m a g w hb)
  have HP := Lib.hid (fun w => hp_no m _ hn.1 w)
  have HQ := Lib.hid (fun w => hp_no m _ hn.2.1 w)
  have HS := Lib.hid (fun w => ct_no m _ hz (by decide) hn.2.2 w)
  have t1 : ∀ w, (Instr.typeAssert (.iface 42 (.pointer (some ⟨g, 0, none⟩))) 33 71 true).run Tryz.prog w = .ok (.tuple #[.pointer none, .bool false]) w := fun _ => by kernel_rfl
  have t2 : ∀ w, (Instr.typeAssert (.iface 42 (.pointer (some ⟨g, 0, none⟩))) 33 55 true).run Tryz.prog w = .ok (.tuple #[.string ⟨#[]⟩, .bool false]) w := fun _ => by kernel_rfl
  have hm := meth_Ask
  have ha := ahead_Ask
  clear hb hn
  go_enter Tryz.func26, Tryz.ntmps26
  go_wp2_with fail
  refine HE.out.mono ?_
  rintro e w0 ⟨rfl, rfl⟩
  go_wp2_with fail
  refine (HP.out _).mono ?_
  rintro e w1 ⟨rfl, ⟨nd1, rfl⟩⟩
  go_wp2_with fail
  refine (HQ.out _).mono ?_
  rintro e w2 ⟨rfl, ⟨nd2, rfl⟩⟩
  go_wp2_with fail
  refine (HS.out _).mono ?_
  rintro e w3 ⟨rfl, ⟨nd3, rfl⟩⟩
  go_wp2_with fail
  go_ret
  exact ⟨rfl, ⟨_, rfl⟩⟩
set_option maxHeartbeats 1000000 in
set_option maxRecDepth 100000 in
theorem isAuth_ClusterDown (m : ByteArray) (g : Nat) (w : World) (hb : w.heap[g]? = some (.cells #[.string m] 116 (0, 0))) (hz : m.size ≤ 1000) (hn : NoX m 9) : Calls Tryz.prog 26 #[.iface 63 (.pointer (some ⟨g, 0, none⟩))] w fun e w' => e = .returned (.bool false) ∧ Drawn0 w w' := by
  have HE := Lib.hid (err_ClusterDown m g w hb)
  have HP := Lib.hid (fun w => hp_no m _ hn.1 w)
  have HQ := Lib.hid (fun w => hp_no m _ hn.2.1 w)
  have HS := Lib.hid (fun w => ct_no m _ hz (by decide) hn.2.2 w)
  have t1 : ∀ w, (Instr.typeAssert (.iface 63 (.pointer (some ⟨g, 0, none⟩))) 33 71 true).run Tryz.prog w = .ok (.tuple #[.pointer none, .bool false]) w := fun _ => by kernel_rfl
  have t2 : ∀ w, (Instr.typeAssert (.iface 63 (.pointer (some ⟨g, 0, none⟩))) 33 55 true).run Tryz.prog w = .ok (.tuple #[.string ⟨#[]⟩, .bool false]) w := fun _ => by kernel_rfl
  have hm := meth_ClusterDown
  have ha := ahead_ClusterDown
  clear hb hn
  go_enter Tryz.func26, Tryz.ntmps26
  go_wp2_with fail
  refine HE.out.mono ?_
  rintro e w0 ⟨rfl, rfl⟩
  go_wp2_with fail
  refine (HP.out _).mono ?_
  rintro e w1 ⟨rfl, ⟨nd1, rfl⟩⟩
  go_wp2_with fail
  refine (HQ.out _).mono ?_
  rintro e w2 ⟨rfl, ⟨nd2, rfl⟩⟩
  go_wp2_with fail
  refine (HS.out _).mono ?_
  rintro e w3 ⟨rfl, ⟨nd3, rfl⟩⟩
  go_wp2_with fail
  go_ret
  exact ⟨rfl, ⟨_, rfl⟩⟩
set_option maxHeartbeats 1000000 in
set_option maxRecDepth 100000 in
theorem isAuth_TryAgain (m : ByteArray) (g : Nat) (w : World) (hb : w.heap[g]? = some (.cells #[.string m] 117 (0, 0))) (hz : m.size ≤ 1000) (hn : NoX m 9) : Calls Tryz.prog 26 #[.iface 65 (.pointer (some ⟨g, 0, none⟩))] w fun e w' => e = .returned (.bool false) ∧ Drawn0 w w' := by
  have HE := Lib.hid (err_TryAgain m g w hb)
  have HP := Lib.hid (fun w => hp_no m _ hn.1 w)
  have HQ := Lib.hid (fun w => hp_no m _ hn.2.1 w)
  have HS := Lib.hid (fun w => ct_no m _ hz (by decide) hn.2.2 w)
  have t1 : ∀ w, (Instr.typeAssert (.iface 65 (.pointer (some ⟨g, 0, none⟩))) 33 71 true).run Tryz.prog w = .ok (.tuple #[.pointer none, .bool false]) w := fun _ => by kernel_rfl
  have t2 : ∀ w, (Instr.typeAssert (.iface 65 (.pointer (some ⟨g, 0, none⟩))) 33 55 true).run Tryz.prog w = .ok (.tuple #[.string ⟨#[]⟩, .bool false]) w := fun _ => by kernel_rfl
  have hm := meth_TryAgain
  have ha := ahead_TryAgain
  clear hb hn
  go_enter Tryz.func26, Tryz.ntmps26
  go_wp2_with fail
  refine HE.out.mono ?_
  rintro e w0 ⟨rfl, rfl⟩
  go_wp2_with fail
  refine (HP.out _).mono ?_
  rintro e w1 ⟨rfl, ⟨nd1, rfl⟩⟩
  go_wp2_with fail
  refine (HQ.out _).mono ?_
  rintro e w2 ⟨rfl, ⟨nd2, rfl⟩⟩
  go_wp2_with fail
  refine (HS.out _).mono ?_
  rintro e w3 ⟨rfl, ⟨nd3, rfl⟩⟩
  go_wp2_with fail
  go_ret
  exact ⟨rfl, ⟨_, rfl⟩⟩
set_option maxHeartbeats 1000000 in
set_option maxRecDepth 100000 in
theorem isAuth_MasterDown (m : ByteArray) (g : Nat) (w : World) (hb : w.heap[g]? = some (.cells #[.string m] 118 (0, 0))) (hz : m.size ≤ 1000) (hn : NoX m 9) : Calls Tryz.prog 26 #[.iface 67 (.pointer (some ⟨g, 0, none⟩))] w fun e w' => e = .returned (.bool false) ∧ Drawn0 w w' := by
  have HE := Lib.hid (err_MasterDown m g w hb)
  have HP := Lib.hid (fun w => hp_no m _ hn.1 w)
  have HQ := Lib.hid (fun w => hp_no m _ hn.2.1 w)
  have HS := Lib.hid (fun w => ct_no m _ hz (by decide) hn.2.2 w)
  have t1 : ∀ w, (Instr.typeAssert (.iface 67 (.pointer (some ⟨g, 0, none⟩))) 33 71 true).run Tryz.prog w = .ok (.tuple #[.pointer none, .bool false]) w := fun _ => by kernel_rfl
  have t2 : ∀ w, (Instr.typeAssert (.iface 67 (.pointer (some ⟨g, 0, none⟩))) 33 55 true).run Tryz.prog w = .ok (.tuple #[.string ⟨#[]⟩, .bool false]) w := fun _ => by kernel_rfl
  have hm := meth_MasterDown
  have ha := ahead_MasterDown
  clear hb hn
  go_enter Tryz.func26, Tryz.ntmps26
  go_wp2_with fail
  refine HE.out.mono ?_
  rintro e w0 ⟨rfl, rfl⟩
  go_wp2_with fail
  refine (HP.out _).mono ?_
  rintro e w1 ⟨rfl, ⟨nd1, rfl⟩⟩
  go_wp2_with fail
  refine (HQ.out _).mono ?_
  rintro e w2 ⟨rfl, ⟨nd2, rfl⟩⟩
  go_wp2_with fail
  refine (HS.out _).mono ?_
  rintro e w3 ⟨rfl, ⟨nd3, rfl⟩⟩
  go_wp2_with fail
  go_ret
  exact ⟨rfl, ⟨_, rfl⟩⟩
set_option maxHeartbeats 1000000 in
set_option maxRecDepth 100000 in
theorem isAuth_NoReplicas (m : ByteArray) (g : Nat) (w : World) (hb : w.heap[g]? = some (.cells #[.string m] 119 (0, 0))) (hz : m.size ≤ 1000) (hn : NoX m 9) : Calls Tryz.prog 26 #[.iface 79 (.pointer (some ⟨g, 0, none⟩))] w fun e w' => e = .returned (.bool false) ∧ Drawn0 w w' := by
  have HE := Lib.hid (err_NoReplicas m g w hb)
  have HP := Lib.hid (fun w => hp_no m _ hn.1 w)
  have HQ := Lib.hid (fun w => hp_no m _ hn.2.1 w)
  have HS := Lib.hid (fun w => ct_no m _ hz (by decide) hn.2.2 w)
  have t1 : ∀ w, (Instr.typeAssert (.iface 79 (.pointer (some ⟨g, 0, none⟩))) 33 71 true).run Tryz.prog w = .ok (.tuple #[.pointer none, .bool false]) w := fun _ => by kernel_rfl
  have t2 : ∀ w, (Instr.typeAssert (.iface 79 (.pointer (some ⟨g, 0, none⟩))) 33 55 true).run Tryz.prog w = .ok (.tuple #[.string ⟨#[]⟩, .bool false]) w := fun _ => by kernel_rfl
  have hm := meth_NoReplicas
  have ha := ahead_NoReplicas
  clear hb hn
  go_enter Tryz.func26, Tryz.ntmps26
  go_wp2_with fail
  refine HE.out.mono ?_
  rintro e w0 ⟨rfl, rfl⟩
  go_wp2_with fail
  refine (HP.out _).mono ?_
  rintro e w1 ⟨rfl, ⟨nd1, rfl⟩⟩
  go_wp2_with fail
  refine (HQ.out _).mono ?_
  rintro e w2 ⟨rfl, ⟨nd2, rfl⟩⟩
  go_wp2_with fail
  refine (HS.out _).mono ?_
  rintro e w3 ⟨rfl, ⟨nd3, rfl⟩⟩
  go_wp2_with fail
  go_ret
  exact ⟨rfl, ⟨_, rfl⟩⟩
set_option maxHeartbeats 1000000 in
set_option maxRecDepth 100000 in
theorem isAuth_MaxClients (m : ByteArray) (g : Nat) (w : World) (hb : w.heap[g]? = some (.cells #[.string m] 120 (0, 0))) (hz : m.size ≤ 1000) (hn : NoX m 9) : Calls Tryz.prog 26 #[.iface 69 (.pointer (some ⟨g, 0, none⟩))] w fun e w' => e = .returned (.bool false) ∧ Drawn0 w w' := by
  have HE := Lib.hid (err_MaxClients m g w hb)
  have HP := Lib.hid (fun w => hp_no m _ hn.1 w)
  have HQ := Lib.hid (fun w => hp_no m _ hn.2.1 w)
  have HS := Lib.hid (fun w => ct_no m _ hz (by decide) hn.2.2 w)
  have t1 : ∀ w, (Instr.typeAssert (.iface 69 (.pointer (some ⟨g, 0, none⟩))) 33 71 true).run Tryz.prog w = .ok (.tuple #[.pointer none, .bool false]) w := fun _ => by kernel_rfl
  have t2 : ∀ w, (Instr.typeAssert (.iface 69 (.pointer (some ⟨g, 0, none⟩))) 33 55 true).run Tryz.prog w = .ok (.tuple #[.string ⟨#[]⟩, .bool false]) w := fun _ => by kernel_rfl
  have hm := meth_MaxClients
  have ha := ahead_MaxClients
  clear hb hn
  go_enter Tryz.func26, Tryz.ntmps26
  go_wp2_with fail
  refine HE.out.mono ?_
  rintro e w0 ⟨rfl, rfl⟩
  go_wp2_with fail
  refine (HP.out _).mono ?_
  rintro e w1 ⟨rfl, ⟨nd1, rfl⟩⟩
  go_wp2_with fail
  refine (HQ.out _).mono ?_
  rintro e w2 ⟨rfl, ⟨nd2, rfl⟩⟩
  go_wp2_with fail
  refine (HS.out _).mono ?_
  rintro e w3 ⟨rfl, ⟨nd3, rfl⟩⟩
  go_wp2_with fail
  go_ret
  exact ⟨rfl, ⟨_, rfl⟩⟩
set_option maxHeartbeats 1000000 in
set_option maxRecDepth 100000 in
theorem isAuth_Permission (m : ByteArray) (g : Nat) (w : World) (hb : w.heap[g]? = some (.cells #[.string m] 122 (0, 0))) (hz : m.size ≤ 1000) (hn : NoX m 9) : Calls Tryz.prog 26 #[.iface 73 (.pointer (some ⟨g, 0, none⟩))] w fun e w' => e = .returned (.bool false) ∧ Drawn0 w w' := by
  have HE := Lib.hid (err_Permission m g w hb)
  have HP := Lib.hid (fun w => hp_no m _ hn.1 w)
  have HQ := Lib.hid (fun w => hp_no m _ hn.2.1 w)
  have HS := Lib.hid (fun w => ct_no m _ hz (by decide) hn.2.2 w)
  have t1 : ∀ w, (Instr.typeAssert (.iface 73 (.pointer (some ⟨g, 0, none⟩))) 33 71 true).run Tryz.prog w = .ok (.tuple #[.pointer none, .bool false]) w := fun _ => by kernel_rfl
  have t2 : ∀ w, (Instr.typeAssert (.iface 73 (.pointer (some ⟨g, 0, none⟩))) 33 55 true).run Tryz.prog w = .ok (.tuple #[.string ⟨#[]⟩, .bool false]) w := fun _ => by kernel_rfl
  have hm := meth_Permission
  have ha := ahead_Permission
  clear hb hn
  go_enter Tryz.func26, Tryz.ntmps26
  go_wp2_with fail
  refine HE.out.mono ?_
  rintro e w0 ⟨rfl, rfl⟩
  go_wp2_with fail
  refine (HP.out _).mono ?_
  rintro e w1 ⟨rfl, ⟨nd1, rfl⟩⟩
  go_wp2_with fail
  refine (HQ.out _).mono ?_
  rintro e w2 ⟨rfl, ⟨nd2, rfl⟩⟩
  go_wp2_with fail
  refine (HS.out _).mono ?_
  rintro e w3 ⟨rfl, ⟨nd3, rfl⟩⟩
  go_wp2_with fail
  go_ret
  exact ⟨rfl, ⟨_, rfl⟩⟩
set_option maxHeartbeats 1000000 in
set_option maxRecDepth 100000 in
theorem isAuth_ExecAbort (m : ByteArray) (g : Nat) (w : World) (hb : w.heap[g]? = some (.cells #[.string m] 123 (0, 0))) (hz : m.size ≤ 1000) (hn : NoX m 9) : Calls Tryz.prog 26 #[.iface 75 (.pointer (some ⟨g, 0, none⟩))] w fun e w' => e = .returned (.bool false) ∧ Drawn0 w w' := by
  have HE := Lib.hid (err_ExecAbort m g w hb)
  have HP := Lib.hid (fun w => hp_no m _ hn.1 w)
  have HQ := Lib.hid (fun w => hp_no m _ hn.2.1 w)
  have HS := Lib.hid (fun w => ct_no m _ hz (by decide) hn.2.2 w)
  have t1 : ∀ w, (Instr.typeAssert (.iface 75 (.pointer (some ⟨g, 0, none⟩))) 33 71 true).run Tryz.prog w = .ok (.tuple #[.pointer none, .bool false]) w := fun _ => by kernel_rfl
  have t2 : ∀ w, (Instr.typeAssert (.iface 75 (.pointer (some ⟨g, 0, none⟩))) 33 55 true).run Tryz.prog w = .ok (.tuple #[.string ⟨#[]⟩, .bool false]) w := fun _ => by kernel_rfl
  have hm := meth_ExecAbort
  have ha := ahead_ExecAbort
  clear hb hn
  go_enter Tryz.func26, Tryz.ntmps26
  go_wp2_with fail
  refine HE.out.mono ?_
  rintro e w0 ⟨rfl, rfl⟩
  go_wp2_with fail
  refine (HP.out _).mono ?_
  rintro e w1 ⟨rfl, ⟨nd1, rfl⟩⟩
  go_wp2_with fail
  refine (HQ.out _).mono ?_
  rintro e w2 ⟨rfl, ⟨nd2, rfl⟩⟩
  go_wp2_with fail
  refine (HS.out _).mono ?_
  rintro e w3 ⟨rfl, ⟨nd3, rfl⟩⟩
  go_wp2_with fail
  go_ret
  exact ⟨rfl, ⟨_, rfl⟩⟩
set_option maxHeartbeats 1000000 in
set_option maxRecDepth 100000 in
theorem isAuth_OOM (m : ByteArray) (g : Nat) (w : World) (hb : w.heap[g]? = some (.cells #[.string m] 124 (0, 0))) (hz : m.size ≤ 1000) (hn : NoX m 9) : Calls Tryz.prog 26 #[.iface 77 (.pointer (some ⟨g, 0, none⟩))] w fun e w' => e = .returned (.bool false) ∧ Drawn0 w w' := by
  have HE := Lib.hid (err_OOM m g w hb)
  have HP := Lib.hid (fun w => hp_no m _ hn.1 w)
  have HQ := Lib.hid (fun w => hp_no m _ hn.2.1 w)
  have HS := Lib.hid (fun w => ct_no m _ hz (by decide) hn.2.2 w)
  have t1 : ∀ w, (Instr.typeAssert (.iface 77 (.pointer (some ⟨g, 0, none⟩))) 33 71 true).run Tryz.prog w = .ok (.tuple #[.pointer none, .bool false]) w := fun _ => by kernel_rfl
  have t2 : ∀ w, (Instr.typeAssert (.iface 77 (.pointer (some ⟨g, 0, none⟩))) 33 55 true).run Tryz.prog w = .ok (.tuple #[.string ⟨#[]⟩, .bool false]) w := fun _ => by kernel_rfl
  have hm := meth_OOM
  have ha := ahead_OOM
  clear hb hn
  go_enter Tryz.func26, Tryz.ntmps26
  go_wp2_with fail
  refine HE.out.mono ?_
  rintro e w0 ⟨rfl, rfl⟩
  go_wp2_with fail
  refine (HP.out _).mono ?_
  rintro e w1 ⟨rfl, ⟨nd1, rfl⟩⟩
  go_wp2_with fail
  refine (HQ.out _).mono ?_
  rintro e w2 ⟨rfl, ⟨nd2, rfl⟩⟩
  go_wp2_with fail
  refine (HS.out _).mono ?_
  rintro e w3 ⟨rfl, ⟨nd3, rfl⟩⟩
  go_wp2_with fail
  go_ret
  exact ⟨rfl, ⟨_, rfl⟩⟩
set_option maxHeartbeats 1000000 in
set_option maxRecDepth 100000 in
theorem isAuth_R (m : ByteArray) (w : World) (hz : m.size ≤ 1000) (hn : NoX m 9) : Calls Tryz.prog 26 #[.iface 55 (.string m)] w fun e w' => e = .returned (.bool false) ∧ Drawn0 w w' := by
  have HP := Lib.hid (fun w => hp_no m _ hn.1 w)
  have HQ := Lib.hid (fun w => hp_no m _ hn.2.1 w)
  have HS := Lib.hid (fun w => ct_no m _ hz (by decide) hn.2.2 w)
  have t1 : ∀ w, (Instr.typeAssert (.iface 55 (.string m)) 33 71 true).run Tryz.prog w = .ok (.tuple #[.pointer none, .bool false]) w := fun _ => by kernel_rfl
  have t2 : ∀ w, (Instr.typeAssert (.iface 55 (.string m)) 33 55 true).run Tryz.prog w = .ok (.tuple #[.string m, .bool true]) w := fun _ => by kernel_rfl
  have hm := re_meth
  have ha := re_ahead
  clear hn
  go_enter Tryz.func26, Tryz.ntmps26
  go_wp2_with fail
  refine (re_error m _).mono ?_
  rintro e w0 ⟨rfl, rfl⟩
  go_wp2_with fail
  refine (HP.out _).mono ?_
  rintro e w1 ⟨rfl, ⟨nd1, rfl⟩⟩
  go_wp2_with fail
  refine (HQ.out _).mono ?_
  rintro e w2 ⟨rfl, ⟨nd2, rfl⟩⟩
  go_wp2_with fail
  refine (HS.out _).mono ?_
  rintro e w3 ⟨rfl, ⟨nd3, rfl⟩⟩
  go_wp2_with fail
  go_ret
  exact ⟨rfl, ⟨_, rfl⟩⟩
theorem isAuth_any (m a : ByteArray) (c : Nat) (v : Value) (b : Bool) (w : World) (hc : c ≤ 13) (hv : EVal w m a c v) (hz : m.size ≤ 1000) (hb : Bx m c 9 b) : Calls Tryz.prog 26 #[v] w fun e w' => e = .returned (.bool b) ∧ Drawn0 w w' := by
  rcases hb with ⟨rfl, rfl⟩ | ⟨rfl, hne, hn⟩ | ⟨h8, rfl, rfl, ha⟩
  · obtain ⟨g, rfl, hb⟩ := hv
    exact isAuth_own g w
  · have hcs : c = 0 ∨ c = 1 ∨ c = 2 ∨ c = 3 ∨ c = 4 ∨ c = 5 ∨ c = 6 ∨ c = 7 ∨ c = 8 ∨ c = 10 ∨ c = 11 ∨ c = 12 ∨ c = 13 := by omega
    rcases hcs with rfl | rfl | rfl | rfl | rfl | rfl | rfl | rfl | rfl | rfl | rfl | rfl | rfl
    · obtain ⟨g, rfl, hb⟩ := hv
      exact isAuth_Loading m g w hb hz hn
    · obtain ⟨g, rfl, hb⟩ := hv
      exact isAuth_ReadOnly m g w hb hz hn
    · obtain ⟨g, rfl, hb⟩ := hv
      exact isAuth_Moved m a g w hb hz hn
    · obtain ⟨g, rfl, hb⟩ := hv
      exact isAuth_Ask m a g w hb hz hn
    · obtain ⟨g, rfl, hb⟩ := hv
      exact isAuth_ClusterDown m g w hb hz hn
    · obtain ⟨g, rfl, hb⟩ := hv
      exact isAuth_TryAgain m g w hb hz hn
    · obtain ⟨g, rfl, hb⟩ := hv
      exact isAuth_MasterDown m g w hb hz hn
    · obtain ⟨g, rfl, hb⟩ := hv
      exact isAuth_NoReplicas m g w hb hz hn
    · obtain ⟨g, rfl, hb⟩ := hv
      exact isAuth_MaxClients m g w hb hz hn
    · obtain ⟨g, rfl, hb⟩ := hv
      exact isAuth_Permission m g w hb hz hn
    · obtain ⟨g, rfl, hb⟩ := hv
      exact isAuth_ExecAbort m g w hb hz hn
    · obtain ⟨g, rfl, hb⟩ := hv
      exact isAuth_OOM m g w hb hz hn
    · obtain rfl : v = _ := hv
      exact isAuth_R m w hz hn
  · exact absurd h8 (by decide)
end Go.Proofs.YtkogipaaioibaaaGreat

namespace Go.Proofs.YtkogipaaioibaaaGreat
set_option linter.unusedVariables false
set_option linter.unusedSimpArgs false
open Go.RowKit Go.Proofs.YtkogipaaioibaaaGreatW.PrintWords
set_option maxHeartbeats 1000000 in
set_option maxRecDepth 100000 in
theorem isPermission_own (g : Nat) (w : World) : Calls Tryz.prog 27 #[.iface 73 (.pointer (some ⟨g, 0, none⟩))] w fun e w' => e = .returned (.bool true) ∧ Drawn0 w w' := by
  have t1 : ∀ w, (Instr.typeAssert (.iface 73 (.pointer (some ⟨g, 0, none⟩))) 33 73 true).run Tryz.prog w = .ok (.tuple #[.pointer (some ⟨g, 0, none⟩), .bool true]) w := fun _ => by kernel_rfl
  go_enter Tryz.func27, Tryz.ntmps27
  go_wp2_with fail
  go_ret
  exact ⟨rfl, Drawn0.refl _⟩
set_option maxHeartbeats 1000000 in
set_option maxRecDepth 100000 in
theorem isPermission_Loading (m : ByteArray) (g : Nat) (w : World) (hb : w.heap[g]? = some (.cells #[.string m] 114 (0, 0))) (hz : m.size ≤ 1000) (hn : NoX m 10) : Calls Tryz.prog 27 #[.iface 53 (.pointer (some ⟨g, 0, none⟩))] w fun e w' => e = .returned (.bool false) ∧ Drawn0 w w' := by
  have HE := Lib.hid (err_Loading m g w hb)
  have HP := Lib.hid (fun w => hp_no m _ (show ¬ At (pre 11) m 0 from hn) w)
  have t1 : ∀ w, (Instr.typeAssert (.iface 53 (.pointer (some ⟨g, 0, none⟩))) 33 73 true).run Tryz.prog w = .ok (.tuple #[.pointer none, .bool false]) w := fun _ => by kernel_rfl
  have t2 : ∀ w, (Instr.typeAssert (.iface 53 (.pointer (some ⟨g, 0, none⟩))) 33 55 true).run Tryz.prog w = .ok (.tuple #[.string ⟨#[]⟩, .bool false]) w := fun _ => by kernel_rfl
  have hm := meth_Loading
  have ha := ahead_Loading
  clear hb hn
  go_enter Tryz.func27, Tryz.ntmps27
  go_wp2_with fail
  refine HE.out.mono ?_
  rintro e w0 ⟨rfl, rfl⟩
  go_wp2_with fail
  refine (HP.out _).mono ?_
  rintro e w1 ⟨rfl, ⟨nd1, rfl⟩⟩
  go_wp2_with fail
  go_ret
  exact ⟨rfl, ⟨_, rfl⟩⟩
set_option maxHeartbeats 1000000 in
set_option maxRecDepth 100000 in
theorem isPermission_ReadOnly (m : ByteArray) (g : Nat) (w : World) (hb : w.heap[g]? = some (.cells #[.string m] 115 (0, 0))) (hz : m.size ≤ 1000) (hn : NoX m 10) : Calls Tryz.prog 27 #[.iface 57 (.pointer (some ⟨g, 0, none⟩))] w fun e w' => e = .returned (.bool false) ∧ Drawn0 w w' := by
  have HE := Lib.hid (err_ReadOnly m g w hb)
  have HP := Lib.hid (fun w => hp_no m _ (show ¬ At (pre 11) m 0 from hn) w)
  have t1 : ∀ w, (Instr.typeAssert (.iface 57 (.pointer (some ⟨g, 0, none⟩))) 33 73 true).run Tryz.prog w = .ok (.tuple #[.pointer none, .bool false]) w := fun _ => by kernel_rfl
  have t2 : ∀ w, (Instr.typeAssert (.iface 57 (.pointer (some ⟨g, 0, none⟩))) 33 55 true).run Tryz.prog w = .ok (.tuple #[.string ⟨#[]⟩, .bool false]) w := fun _ => by kernel_rfl
  have hm := meth_ReadOnly
  have ha := ahead_ReadOnly
  clear hb hn
  go_enter Tryz.func27, Tryz.ntmps27
  go_wp2_with fail
  refine HE.out.mono ?_
  rintro e w0 ⟨rfl, rfl⟩
  go_wp2_with fail
  refine (HP.out _).mono ?_
  rintro e w1 ⟨rfl, ⟨nd1, rfl⟩⟩
  go_wp2_with fail
  go_ret
  exact ⟨rfl, ⟨_, rfl⟩⟩
set_option maxHeartbeats 1000000 in
set_option maxRecDepth 100000 in
theorem isPermission_Moved (m a : ByteArray) (g : Nat) (w : World) (hb : w.heap[g]? = some (.cells #[.string m, .string a] 61 (0, 0))) (hz : m.size ≤ 1000) (hn : NoX m 10) : Calls Tryz.prog 27 #[.iface 38 (.pointer (some ⟨g, 0, none⟩))] w fun e w' => e = .returned (.bool false) ∧ Drawn0 w w' := by
  have HE := Lib.hid (err_Moved m a g w hb)
  have HP := Lib.hid (fun w => hp_no m _ (show ¬ At (pre 11) m 0 from hn) w)
  have t1 : ∀ w, (Instr.typeAssert (.iface 38 (.pointer (some ⟨g, 0, none⟩))) 33 73 true).run Tryz.prog w = .ok (.tuple #[.pointer none, .bool false]) w := fun _ => by kernel_rfl
  have t2 : ∀ w, (Instr.typeAssert (.iface 38 (.pointer (some ⟨g, 0, none⟩))) 33 55 true).run Tryz.prog w = .ok (.tuple #[.string ⟨#[]⟩, .bool false]) w := fun _ => by kernel_rfl
  have hm := meth_Moved
  have ha := ahead_Moved
  clear hb hn
  go_enter Tryz.func27, Tryz.ntmps27
  go_wp2_with fail
  refine HE.out.mono ?_
  rintro e w0 ⟨rfl, rfl⟩
  go_wp2_with fail
  refine (HP.out _).mono ?_
  rintro e w1 ⟨rfl, ⟨nd1, rfl⟩⟩
  go_wp2_with fail
  go_ret
  exact ⟨rfl, ⟨_, rfl⟩⟩
set_option maxHeartbeats 1000000 in
set_option maxRecDepth 100000 in
theorem isPermission_Ask (m a : ByteArray) (g : Nat) (w : World) (hb : w.heap[g]? = some (.cells #[.string m, .string a] 62 (0, 0))) (hz : m.size ≤ 1000) (hn : NoX m 10) : Calls Tryz.prog 27 #[.iface 42 (.pointer (some ⟨g, 0, none⟩))] w fun e w' => e = .returned (.bool false) ∧ Drawn0 w w' := by
  have HE := Lib.hid (err_Ask m a g w hb)
  have HP := Lib.hid (fun w => hp_no m _ (show ¬ At (pre 11) m 0 from hn) w)
  have t1 : ∀ w, (Instr.typeAssert (.iface 42 (.pointer (some ⟨g, 0, none⟩))) 33 73 true).run Tryz.prog w = .ok (.tuple #[.pointer none, .bool false]) w := fun _ => by kernel_rfl
  have t2 : ∀ w, (Instr.typeAssert (.iface 42 (.pointer (some ⟨g, 0, none⟩))) 33 55 true).run Tryz.prog w = .ok (.tuple #[.string ⟨#[]⟩, .bool false]) w := fun _ => by kernel_rfl
  have hm := meth_Ask
  have ha := ahead_Ask
  clear hb hn
  go_enter Tryz.func27, Tryz.ntmps27
  go_wp2_with fail
  refine HE.out.mono ?_
  rintro e w0 ⟨rfl, rfl⟩
  go_wp2_with fail
  refine (HP.out _).mono ?_
  rintro e w1 ⟨rfl, ⟨nd1, rfl⟩⟩
  go_wp2_with fail
  go_ret
  exact ⟨rfl, ⟨_, rfl⟩⟩
set_option maxHeartbeats 1000000 in
set_option maxRecDepth 100000 in
theorem isPermission_ClusterDown (m : ByteArray) (g : Nat) (w : World) (hb : w.heap[g]? = some (.cells #[.string m] 116 (0, 0))) (hz : m.size ≤ 1000) (hn : NoX m 10) : Calls Tryz.prog 27 #[.iface 63 (.pointer (some ⟨g, 0, none⟩))] w fun e w' => e = .returned (.bool false) ∧ Drawn0 w w' := by
  have HE := Lib.hid (err_ClusterDown m g w hb)
  have HP := Lib.hid (fun w => hp_no m _ (show ¬ At (pre 11) m 0 from hn) w)
  have t1 : ∀ w, (Instr.typeAssert (.iface 63 (.pointer (some ⟨g, 0, none⟩))) 33 73 true).run Tryz.prog w = .ok (.tuple #[.pointer none, .bool false]) w := fun _ => by kernel_rfl
  have t2 : ∀ w, (Instr.typeAssert (.iface 63 (.pointer (some ⟨g, 0, none⟩))) 33 55 true).run Tryz.prog w = .ok (.tuple #[.string ⟨#[]⟩, .bool false]) w := fun _ => by kernel_rfl
  have hm := meth_ClusterDown
  have ha := ahead_ClusterDown
  clear hb hn
  go_enter Tryz.func27, Tryz.ntmps27
  go_wp2_with fail
  refine HE.out.mono ?_
  rintro e w0 ⟨rfl, rfl⟩
  go_wp2_with fail
  refine (HP.out _).mono ?_
  rintro e w1 ⟨rfl, ⟨nd1, rfl⟩⟩
  go_wp2_with fail
  go_ret
  exact ⟨rfl, ⟨_, rfl⟩⟩
set_option maxHeartbeats 1000000 in
set_option maxRecDepth 100000 in
theorem isPermission_TryAgain (m : ByteArray) (g : Nat) (w : World) (hb : w.heap[g]? = some (.cells #[.string m] 117 (0, 0))) (hz : m.size ≤ 1000) (hn : NoX m 10) : Calls Tryz.prog 27 #[.iface 65 (.pointer (some ⟨g, 0, none⟩))] w fun e w' => e = .returned (.bool false) ∧ Drawn0 w w' := by
  have HE := Lib.hid (err_TryAgain m g w hb)
  have HP := Lib.hid (fun w => hp_no m _ (show ¬ At (pre 11) m 0 from hn) w)
  have t1 : ∀ w, (Instr.typeAssert (.iface 65 (.pointer (some ⟨g, 0, none⟩))) 33 73 true).run Tryz.prog w = .ok (.tuple #[.pointer none, .bool false]) w := fun _ => by kernel_rfl
  have t2 : ∀ w, (Instr.typeAssert (.iface 65 (.pointer (some ⟨g, 0, none⟩))) 33 55 true).run Tryz.prog w = .ok (.tuple #[.string ⟨#[]⟩, .bool false]) w := fun _ => by kernel_rfl
  have hm := meth_TryAgain
  have ha := ahead_TryAgain
  clear hb hn
  go_enter Tryz.func27, Tryz.ntmps27
  go_wp2_with fail
  refine HE.out.mono ?_
  rintro e w0 ⟨rfl, rfl⟩
  go_wp2_with fail
  refine (HP.out _).mono ?_
  rintro e w1 ⟨rfl, ⟨nd1, rfl⟩⟩
  go_wp2_with fail
  go_ret
  exact ⟨rfl, ⟨_, rfl⟩⟩
set_option maxHeartbeats 1000000 in
set_option maxRecDepth 100000 in
theorem isPermission_MasterDown (m : ByteArray) (g : Nat) (w : World) (hb : w.heap[g]? = some (.cells #[.string m] 118 (0, 0))) (hz : m.size ≤ 1000) (hn : NoX m 10) : Calls Tryz.prog 27 #[.iface 67 (.pointer (some ⟨g, 0, none⟩))] w fun e w' => e = .returned (.bool false) ∧ Drawn0 w w' := by
  have HE := Lib.hid (err_MasterDown m g w hb)
  have HP := Lib.hid (fun w => hp_no m _ (show ¬ At (pre 11) m 0 from hn) w)
  have t1 : ∀ w, (Instr.typeAssert (.iface 67 (.pointer (some ⟨g, 0, none⟩))) 33 73 true).run Tryz.prog w = .ok (.tuple #[.pointer none, .bool false]) w := fun _ => by kernel_rfl
  have t2 : ∀ w, (Instr.typeAssert (.iface 67 (.pointer (some ⟨g, 0, none⟩))) 33 55 true).run Tryz.prog w = .ok (.tuple #[.string ⟨#[]⟩, .bool false]) w := fun _ => by kernel_rfl
  have hm := meth_MasterDown
  have ha := ahead_MasterDown
  clear hb hn
  go_enter Tryz.func27, Tryz.ntmps27
  go_wp2_with fail
  refine HE.out.mono ?_
  rintro e w0 ⟨rfl, rfl⟩
  go_wp2_with fail
  refine (HP.out _).mono ?_
  rintro e w1 ⟨rfl, ⟨nd1, rfl⟩⟩
  go_wp2_with fail
  go_ret
  exact ⟨rfl, ⟨_, rfl⟩⟩
set_option maxHeartbeats 1000000 in
set_option maxRecDepth 100000 in
theorem isPermission_NoReplicas (m : ByteArray) (g : Nat) (w : World) (hb : w.heap[g]? = some (.cells #[.string m] 119 (0, 0))) (hz : m.size ≤ 1000) (hn : NoX m 10) : Calls Tryz.prog 27 #[.iface 79 (.pointer (some ⟨g, 0, none⟩))] w fun e w' => e = .returned (.bool false) ∧ Drawn0 w w' := by
  have HE := Lib.hid (err_NoReplicas m g w hb)
  have HP := Lib.hid (fun w => hp_no m _ (show ¬ At (pre 11) m 0 from hn) w)
  have t1 : ∀ w, (Instr.typeAssert (.iface 79 (.pointer (some ⟨g, 0, none⟩))) 33 73 true).run Tryz.prog w = .ok (.tuple #[.pointer none, .bool false]) w := fun _ => by kernel_rfl
  have t2 : ∀ w, (Instr.typeAssert (.iface 79 (.pointer (some ⟨g, 0, none⟩))) 33 55 true).run Tryz.prog w = .ok (.tuple #[.string ⟨#[]⟩, .bool false]) w := fun _ => by kernel_rfl
  have hm := meth_NoReplicas
  have ha := ahead_NoReplicas
  clear hb hn
  go_enter Tryz.func27, Tryz.ntmps27
  go_wp2_with fail
  refine HE.out.mono ?_
  rintro e w0 ⟨rfl, rfl⟩
  go_wp2_with fail
  refine (HP.out _).mono ?_
  rintro e w1 ⟨rfl, ⟨nd1, rfl⟩⟩
  go_wp2_with fail
  go_ret
  exact ⟨rfl, ⟨_, rfl⟩⟩
set_option maxHeartbeats 1000000 in
set_option maxRecDepth 100000 in
theorem isPermission_MaxClients (m : ByteArray) (g : Nat) (w : World) (hb : w.heap[g]? = some (.cells #[.string m] 120 (0, 0))) (hz : m.size ≤ 1000) (hn : NoX m 10) : Calls Tryz.prog 27 #[.iface 69 (.pointer (some ⟨g, 0, none⟩))] w fun e w' => e = .returned (.bool false) ∧ Drawn0 w w' := by
  have HE := Lib.hid (err_MaxClients m g w hb)
  have HP := Lib.hid (fun w => hp_no m _ (show ¬ At (pre 11) m 0 from hn) w)
  have t1 : ∀ w, (Instr.typeAssert (.iface 69 (.pointer (some ⟨g, 0, none⟩))) 33 73 true).run Tryz.prog w = .ok (.tuple #[.pointer none, .bool false]) w := fun _ => by kernel_rfl
  have t2 : ∀ w, (Instr.typeAssert (.iface 69 (.pointer (some ⟨g, 0, none⟩))) 33 55 true).run Tryz.prog w = .ok (.tuple #[.string ⟨#[]⟩, .bool false]) w := fun _ => by kernel_rfl
  have hm := meth_MaxClients
  have ha := ahead_MaxClients
  clear hb hn
  go_enter Tryz.func27, Tryz.ntmps27
  go_wp2_with fail
  refine HE.out.mono ?_
  rintro e w0 ⟨rfl, rfl⟩
  go_wp2_with fail
  refine (HP.out _).mono ?_
  rintro e w1 ⟨rfl, ⟨nd1, rfl⟩⟩
  go_wp2_with fail
  go_ret
  exact ⟨rfl, ⟨_, rfl⟩⟩
set_option maxHeartbeats 1000000 in
set_option maxRecDepth 100000 in
theorem isPermission_Auth (m : ByteArray) (g : Nat) (w : World) (hb : w.heap[g]? = some (.cells #[.string m] 121 (0, 0))) (hz : m.size ≤ 1000) (hn : NoX m 10) : Calls Tryz.prog 27 #[.iface 71 (.pointer (some ⟨g, 0, none⟩))] w fun e w' => e = .returned (.bool false) ∧ Drawn0 w w' := by
  have HE := Lib.hid (err_Auth m g w hb)
  have HP := Lib.hid (fun w => hp_no m _ (show ¬ At (pre 11) m 0 from hn) w)
  have t1 : ∀ w, (Instr.typeAssert (.iface 71 (.pointer (some ⟨g, 0, none⟩))) 33 73 true).run Tryz.prog w = .ok (.tuple #[.pointer none, .bool false]) w := fun _ => by kernel_rfl
  have t2 : ∀ w, (Instr.typeAssert (.iface 71 (.pointer (some ⟨g, 0, none⟩))) 33 55 true).run Tryz.prog w = .ok (.tuple #[.string ⟨#[]⟩, .bool false]) w := fun _ => by kernel_rfl
  have hm := meth_Auth
  have ha := ahead_Auth
  clear hb hn
  go_enter Tryz.func27, Tryz.ntmps27
  go_wp2_with fail
  refine HE.out.mono ?_
  rintro e w0 ⟨rfl, rfl⟩
  go_wp2_with fail
  refine (HP.out _).mono ?_
  rintro e w1 ⟨rfl, ⟨nd1, rfl⟩⟩
  go_wp2_with fail
  go_ret
  exact ⟨rfl, ⟨_, rfl⟩⟩
set_option maxHeartbeats 1000000 in
set_option maxRecDepth 100000 in
theorem isPermission_ExecAbort (m : ByteArray) (g : Nat) (w : World) (hb : w.heap[g]? = some (.cells #[.string m] 123 (0, 0))) (hz : m.size ≤ 1000) (hn : NoX m 10) : Calls Tryz.prog 27 #[.iface 75 (.pointer (some ⟨g, 0, none⟩))] w fun e w' => e = .returned (.bool false) ∧ Drawn0 w w' := by
  have HE := Lib.hid (err_ExecAbort m g w hb)
  have HP := Lib.hid (fun w => hp_no m _ (show ¬ At (pre 11) m 0 from hn) w)
  have t1 : ∀ w, (Instr.typeAssert (.iface 75 (.pointer (some ⟨g, 0, none⟩))) 33 73 true).run Tryz.prog w = .ok (.tuple #[.pointer none, .bool false]) w := fun _ => by kernel_rfl
  have t2 : ∀ w, (Instr.typeAssert (.iface 75 (.pointer (some ⟨g, 0, none⟩))) 33 55 true).run Tryz.prog w = .ok (.tuple #[.string ⟨#[]⟩, .bool false]) w := fun _ => by kernel_rfl
  have hm := meth_ExecAbort
  have ha := ahead_ExecAbort
  clear hb hn
  go_enter Tryz.func27, Tryz.ntmps27
  go_wp2_with fail
  refine HE.out.mono ?_
  rintro e w0 ⟨rfl, rfl⟩
  go_wp2_with fail
  refine (HP.out _).mono ?_
  rintro e w1 ⟨rfl, ⟨nd1, rfl⟩⟩
  go_wp2_with fail
  go_ret
  exact ⟨rfl, ⟨_, rfl⟩⟩
set_option maxHeartbeats 1000000 in
set_option maxRecDepth 100000 in
theorem isPermission_OOM (m : ByteArray) (g : Nat) (w : World) (hb : w.heap[g]? = some (.cells #[.string m] 124 (0, 0))) (hz : m.size ≤ 1000) (hn : NoX m 10) : Calls Tryz.prog 27 #[.iface 77 (.pointer (some ⟨g, 0, none⟩))] w fun e w' => e = .returned (.bool false) ∧ Drawn0 w w' := by
  have HE := Lib.hid (err_OOM m g w hb)
  have HP := Lib.hid (fun w => hp_no m _ (show ¬ At (pre 11) m 0 from hn) w)
  have t1 : ∀ w, (Instr.typeAssert (.iface 77 (.pointer (some ⟨g, 0, none⟩))) 33 73 true).run Tryz.prog w = .ok (.tuple #[.pointer none, .bool false]) w := fun _ => by kernel_rfl
  have t2 : ∀ w, (Instr.typeAssert (.iface 77 (.pointer (some ⟨g, 0, none⟩))) 33 55 true).run Tryz.prog w = .ok (.tuple #[.string ⟨#[]⟩, .bool false]) w := fun _ => by kernel_rfl
  have hm := meth_OOM
  have ha := ahead_OOM
  clear hb hn
  go_enter Tryz.func27, Tryz.ntmps27
  go_wp2_with fail
  refine HE.out.mono ?_
  rintro e w0 ⟨rfl, rfl⟩
  go_wp2_with fail
  refine (HP.out _).mono ?_
  rintro e w1 ⟨rfl, ⟨nd1, rfl⟩⟩
  go_wp2_with fail
  go_ret
  exact ⟨rfl, ⟨_, rfl⟩⟩
set_option maxHeartbeats 1000000 in
set_option maxRecDepth 100000 in
theorem isPermission_R (m : ByteArray) (w : World) (hz : m.size ≤ 1000) (hn : NoX m 10) : Calls Tryz.prog 27 #[.iface 55 (.string m)] w fun e w' => e = .returned (.bool false) ∧ Drawn0 w w' := by
  have HP := Lib.hid (fun w => hp_no m _ (show ¬ At (pre 11) m 0 from hn) w)
  have t1 : ∀ w, (Instr.typeAssert (.iface 55 (.string m)) 33 73 true).run Tryz.prog w = .ok (.tuple #[.pointer none, .bool false]) w := fun _ => by kernel_rfl
  have t2 : ∀ w, (Instr.typeAssert (.iface 55 (.string m)) 33 55 true).run Tryz.prog w = .ok (.tuple #[.string m, .bool true]) w := fun _ => by kernel_rfl
  have hm := re_meth
  have ha := re_ahead
  clear hn
  go_enter Tryz.func27, Tryz.ntmps27
  go_wp2_with fail
  refine (re_error m _).mono ?_
  rintro e w0 ⟨rfl, rfl⟩
  go_wp2_with fail
  refine (HP.out _).mono ?_
  rintro e w1 ⟨rfl, ⟨nd1, rfl⟩⟩
  go_wp2_with fail
  refine (re_error m _).mono ?_
  rintro e wa ⟨rfl, rfl⟩
  go_wp2_with fail
  refine (HP.out _).mono ?_
  rintro e w2 ⟨rfl, ⟨nd2, rfl⟩⟩
  go_wp2_with fail
  go_ret
  exact ⟨rfl, ⟨_, rfl⟩⟩
theorem isPermission_any (m a : ByteArray) (c : Nat) (v : Value) (b : Bool) (w : World) (hc : c ≤ 13) (hv : EVal w m a c v) (hz : m.size ≤ 1000) (hb : Bx m c 10 b) : Calls Tryz.prog 27 #[v] w fun e w' => e = .returned (.bool b) ∧ Drawn0 w w' := by
  rcases hb with ⟨rfl, rfl⟩ | ⟨rfl, hne, hn⟩ | ⟨h8, rfl, rfl, ha⟩
  · obtain ⟨g, rfl, hb⟩ := hv
    exact isPermission_own g w
  · have hcs : c = 0 ∨ c = 1 ∨ c = 2 ∨ c = 3 ∨ c = 4 ∨ c = 5 ∨ c = 6 ∨ c = 7 ∨ c = 8 ∨ c = 9 ∨ c = 11 ∨ c = 12 ∨ c = 13 := by omega
    rcases hcs with rfl | rfl | rfl | rfl | rfl | rfl | rfl | rfl | rfl | rfl | rfl | rfl | rfl
    · obtain ⟨g, rfl, hb⟩ := hv
      exact isPermission_Loading m g w hb hz hn
    · obtain ⟨g, rfl, hb⟩ := hv
      exact isPermission_ReadOnly m g w hb hz hn
    · obtain ⟨g, rfl, hb⟩ := hv
      exact isPermission_Moved m a g w hb hz hn
    · obtain ⟨g, rfl, hb⟩ := hv
      exact isPermission_Ask m a g w hb hz hn
    · obtain ⟨g, rfl, hb⟩ := hv
      exact isPermission_ClusterDown m g w hb hz hn
    · obtain ⟨g, rfl, hb⟩ := hv
      exact isPermission_TryAgain m g w hb hz hn
    · obtain ⟨g, rfl, hb⟩ := hv
      exact isPermission_MasterDown m g w hb hz hn
    · obtain ⟨g, rfl, hb⟩ := hv
      exact isPermission_NoReplicas m g w hb hz hn
    · obtain ⟨g, rfl, hb⟩ := hv
      exact isPermission_MaxClients m g w hb hz hn
    · obtain ⟨g, rfl, hb⟩ := hv
      exact isPermission_Auth m g w hb hz hn
    · obtain ⟨g, rfl, hb⟩ := hv
      exact isPermission_ExecAbort m g w hb hz hn
    · obtain ⟨g, rfl, hb⟩ := hv
      exact isPermission_OOM m g w hb hz hn
    · obtain rfl : v = _ := hv
      exact isPermission_R m w hz hn
  · exact absurd h8 (by decide)
end Go.Proofs.YtkogipaaioibaaaGreat

namespace Go.Proofs.YtkogipaaioibaaaGreat
set_option linter.unusedVariables false
set_option linter.unusedSimpArgs false
open Go.RowKit Go.Proofs.YtkogipaaioibaaaGreatW.PrintWords
set_option maxHeartbeats 1000000 in
set_option maxRecDepth 100000 in
theorem isExecAbort_own (g : Nat) (w : World) : Calls Tryz.prog 28 #[.iface 75 (.pointer (some ⟨g, 0, none⟩))] w fun e w' => e = .returned (.bool true) ∧ Drawn0 w w' := by
  have t1 : ∀ w, (Instr.typeAssert (.iface 75 (.pointer (some ⟨g, 0, none⟩))) 33 75 true).run Tryz.prog w = .ok (.tuple #[.pointer (some ⟨g, 0, none⟩), .bool true]) w := fun _ => by kernel_rfl
  go_enter Tryz.func28, Tryz.ntmps28
  go_wp2_with fail
  go_ret
  exact ⟨rfl, Drawn0.refl _⟩
set_option maxHeartbeats 1000000 in
set_option maxRecDepth 100000 in
theorem isExecAbort_Loading (m : ByteArray) (g : Nat) (w : World) (hb : w.heap[g]? = some (.cells #[.string m] 114 (0, 0))) (hz : m.size ≤ 1000) (hn : NoX m 11) : Calls Tryz.prog 28 #[.iface 53 (.pointer (some ⟨g, 0, none⟩))] w fun e w' => e = .returned (.bool false) ∧ Drawn0 w w' := by
  have HE := Lib.hid (err_Loading m g w hb)
  have HP := Lib.hid (fun w => hp_no m _ (show ¬ At (pre 12) m 0 from hn) w)
  have t1 : ∀ w, (Instr.typeAssert (.iface 53 (.pointer (some ⟨g, 0, none⟩))) 33 75 true).run Tryz.prog w = .ok (.tuple #[.pointer none, .bool false]) w := fun _ => by kernel_rfl
  have t2 : ∀ w, (Instr.typeAssert (.iface 53 (.pointer (some ⟨g, 0, none⟩))) 33 55 true).run Tryz.prog w = .ok (.tuple #[.string ⟨#[]⟩, .bool false]) w := fun _ => by kernel_rfl
  have hm := meth_Loading
  have ha := ahead_Loading
  clear hb hn
  go_enter Tryz.func28, Tryz.ntmps28
  go_wp2_with fail
  refine HE.out.mono ?_
  rintro e w0 ⟨rfl, rfl⟩
  go_wp2_with fail
  refine (HP.out _).mono ?_
  rintro e w1 ⟨rfl, ⟨nd1, rfl⟩⟩
  go_wp2_with fail
  go_ret
  exact ⟨rfl, ⟨_, rfl⟩⟩
set_option maxHeartbeats 1000000 in
set_option maxRecDepth 100000 in
theorem isExecAbort_ReadOnly (m : ByteArray) (g : Nat) (w : World) (hb : w.heap[g]? = some (.cells #[.string m] 115 (0, 0))) (hz : m.size ≤ 1000) (hn : NoX m 11) : Calls Tryz.prog 28 #[.iface 57 (.pointer (some ⟨g, 0, none⟩))] w fun e w' => e = .returned (.bool false) ∧ Drawn0 w w' := by
  have HE := Lib.hid (err_ReadOnly m g w hb)
  have HP := Lib.hid (fun w => hp_no m _ (show ¬ At (pre 12) m 0 from hn) w)
  have t1 : ∀ w, (Instr.typeAssert (.iface 57 (.pointer (some ⟨g, 0, none⟩))) 33 75 true).run Tryz.prog w = .ok (.tuple #[.pointer none, .bool false]) w := fun _ => by kernel_rfl
  have t2 : ∀ w, (Instr.typeAssert (.iface 57 (.pointer (some ⟨g, 0, none⟩))) 33 55 true).run Tryz.prog w = .ok (.tuple #[.string ⟨#[]⟩, .bool false]) w := fun _ => by kernel_rfl
  have hm := meth_ReadOnly
  have ha := ahead_ReadOnly
  clear hb hn
  go_enter Tryz.func28, Tryz.ntmps28
  go_wp2_with fail
  refine HE.out.mono ?_
  rintro e w0 ⟨rfl, rfl⟩
  go_wp2_with fail
  refine (HP.out _).mono ?_
  rintro e w1 ⟨rfl, ⟨nd1, rfl⟩⟩
  go_wp2_with fail
  go_ret
  exact ⟨rfl, ⟨_, rfl⟩⟩
set_option maxHeartbeats 1000000 in
set_option maxRecDepth 100000 in
theorem isExecAbort_Moved (m a : ByteArray) (g : Nat) (w : World) (hb : w.heap[g]? = some (.cells #[.string m, .string a] 61 (0, 0))) (hz : m.size ≤ 1000) (hn : NoX m 11) : Calls Tryz.prog 28 #[.iface 38 (.pointer (some ⟨g, 0, none⟩))] w fun e w' => e = .returned (.bool false) ∧ Drawn0 w w' := by
  have HE := Lib.hid (err_Moved m a g w hb)
  have HP := Lib.hid (fun w => hp_no m _ (show ¬ At (pre 12) m 0 from hn) w)
  have t1 : ∀ w, (Instr.typeAssert (.iface 38 (.pointer (some ⟨g, 0, none⟩))) 33 75 true).run Tryz.prog w = .ok (.tuple #[.pointer none, .bool false]) w := fun _ => by kernel_rfl
  have t2 : ∀ w, (Instr.typeAssert (.iface 38 (.pointer (some ⟨g, 0, none⟩))) 33 55 true).run Tryz.prog w = .ok (.tuple #[.string ⟨#[]⟩, .bool false]) w := fun _ => by kernel_rfl
  have hm := meth_Moved
  have ha := ahead_Moved
  clear hb hn
  go_enter Tryz.func28, Tryz.ntmps28
  go_wp2_with fail
  refine HE.out.mono ?_
  rintro e w0 ⟨rfl, rfl⟩
  go_wp2_with fail
  refine (HP.out _).mono ?_
  rintro e w1 ⟨rfl, ⟨nd1, rfl⟩⟩
  go_wp2_with fail
  go_ret
  exact ⟨rfl, ⟨_, rfl⟩⟩
set_option maxHeartbeats 1000000 in
set_option maxRecDepth 100000 in
theorem isExecAbort_Ask (m a : ByteArray) (g : Nat) (w : World) (hb : w.heap[g]? = some (.cells #[.string m, .string a] 62 (0, 0))) (hz : m.size ≤ 1000) (hn : NoX m 11) : Calls Tryz.prog 28 #[.iface 42 (.pointer (some ⟨g, 0, none⟩))] w fun e w' => e = .returned (.bool false) ∧ Drawn0 w w' := by
  have HE := Lib.hid (err_Ask m a g w hb)
  have HP := Lib.hid (fun w => hp_no m _ (show ¬ At (pre 12) m 0 from hn) w)
  have t1 : ∀ w, (Instr.typeAssert (.iface 42 (.pointer (some ⟨g, 0, none⟩))) 33 75 true).run Tryz.prog w = .ok (.tuple #[.pointer none, .bool false]) w := fun _ => by kernel_rfl
  have t2 : ∀ w, (Instr.typeAssert (.iface 42 (.pointer (some ⟨g, 0, none⟩))) 33 55 true).run Tryz.prog w = .ok (.tuple #[.string ⟨#[]⟩, .bool false]) w := fun _ => by kernel_rfl
  have hm := meth_Ask
  have ha := ahead_Ask
  clear hb hn
  go_enter Tryz.func28, Tryz.ntmps28
  go_wp2_with fail
  refine HE.out.mono ?_
  rintro e w0 ⟨rfl, rfl⟩
  go_wp2_with fail
  refine (HP.out _).mono ?_
  rintro e w1 ⟨rfl, ⟨nd1, rfl⟩⟩
  go_wp2_with fail
  go_ret
  exact ⟨rfl, ⟨_, rfl⟩⟩
set_option maxHeartbeats 1000000 in
set_option maxRecDepth 100000 in
theorem isExecAbort_ClusterDown (m : ByteArray) (g : Nat) (w : World) (hb : w.heap[g]? = some (.cells #[.string m] 116 (0, 0))) (hz : m.size ≤ 1000) (hn : NoX m 11) : Calls Tryz.prog 28 #[.iface 63 (.pointer (some ⟨g, 0, none⟩))] w fun e w' => e = .returned (.bool false) ∧ Drawn0 w w' := by
  have HE := Lib.hid (err_ClusterDown m g w hb)
  have HP := Lib.hid (fun w => hp_no m _ (show ¬ At (pre 12) m 0 from hn) w)
  have t1 : ∀ w, (Instr.typeAssert (.iface 63 (.pointer (some ⟨g, 0, none⟩))) 33 75 true).run Tryz.prog w = .ok (.tuple #[.pointer none, .bool false]) w := fun _ => by kernel_rfl
  have t2 : ∀ w, (Instr.typeAssert (.iface 63 (.pointer (some ⟨g, 0, none⟩))) 33 55 true).run Tryz.prog w = .ok (.tuple #[.string ⟨#[]⟩, .bool false]) w := fun _ => by kernel_rfl
  have hm := meth_ClusterDown
  have ha := ahead_ClusterDown
  clear hb hn
  go_enter Tryz.func28, Tryz.ntmps28
  go_wp2_with fail
  refine HE.out.mono ?_
  rintro e w0 ⟨rfl, rfl⟩
  go_wp2_with fail
  refine (HP.out _).mono ?_
  rintro e w1 ⟨rfl, ⟨nd1, rfl⟩⟩
  go_wp2_with fail
  go_ret
  exact ⟨rfl, ⟨_, rfl⟩⟩
set_option maxHeartbeats 1000000 in
set_option maxRecDepth 100000 in
theorem isExecAbort_TryAgain (m : ByteArray) (g : Nat) (w : World) (hb : w.heap[g]? = some (.cells #[.string m] 117 (0, 0))) (hz : m.size ≤ 1000) (hn : NoX m 11) : Calls Tryz.prog 28 #[.iface 65 (.pointer (some ⟨g, 0, none⟩))] w fun e w' => e = .returned (.bool false) ∧ Drawn0 w w' := by
  have HE := Lib.hid (err_TryAgain m g w hb)
  have HP := Lib.hid (fun w => hp_no m _ (show ¬ At (pre 12) m 0 from hn) w)
  have t1 : ∀ w, (Instr.typeAssert (.iface 65 (.pointer (some ⟨g, 0, none⟩))) 33 75 true).run Tryz.prog w = .ok (.tuple #[.pointer none, .bool false]) w := fun _ => by kernel_rfl
  have t2 : ∀ w, (Instr.typeAssert (.iface 65 (.pointer (some ⟨g, 0, none⟩))) 33 55 true).run Tryz.prog w = .ok (.tuple #[.string ⟨#[]⟩, .bool false]) w := fun _ => by kernel_rfl
  have hm := meth_TryAgain
  have ha := ahead_TryAgain
  clear hb hn
  go_enter Tryz.func28, Tryz.ntmps28
  go_wp2_with fail
  refine HE.out.mono ?_
  rintro e w0 ⟨rfl, rfl⟩
  go_wp2_with fail
  refine (HP.out _).mono ?_
  rintro e w1 ⟨rfl, ⟨nd1, rfl⟩⟩
  go_wp2_with fail
  go_ret
  exact ⟨rfl, ⟨_, rfl⟩⟩
set_option maxHeartbeats 1000000 in
set_option maxRecDepth 100000 in
theorem isExecAbort_MasterDown (m : ByteArray) (g : Nat) (w : World) (hb : w.heap[g]? = some (.cells #[.string m] 118 (0, 0))) (hz : m.size ≤ 1000) (hn : NoX m 11) : Calls Tryz.prog 28 #[.iface 67 (.pointer (some ⟨g, 0, none⟩))] w fun e w' => e = .returned (.bool false) ∧ Drawn0 w w' := by
  have HE := Lib.hid (err_MasterDown m g w hb)
  have HP := Lib.hid (fun w => hp_no m _ (show ¬ At (pre 12) m 0 from hn) w)
  have t1 : ∀ w, (Instr.typeAssert (.iface 67 (.pointer (some ⟨g, 0, none⟩))) 33 75 true).run Tryz.prog w = .ok (.tuple #[.pointer none, .bool false]) w := fun _ => by kernel_rfl
  have t2 : ∀ w, (Instr.typeAssert (.iface 67 (.pointer (some ⟨g, 0, none⟩))) 33 55 true).run Tryz.prog w = .ok (.tuple #[.string ⟨#[]⟩, .bool false]) w := fun _ => by kernel_rfl
  have hm := meth_MasterDown
  have ha := ahead_MasterDown
  clear hb hn
  go_enter Tryz.func28, Tryz.ntmps28
  go_wp2_with fail
  refine HE.out.mono ?_
  rintro e w0 ⟨rfl, rfl⟩
  go_wp2_with fail
  refine (HP.out _).mono ?_
  rintro e w1 ⟨rfl, ⟨nd1, rfl⟩⟩
  go_wp2_with fail
  go_ret
  exact ⟨rfl, ⟨_, rfl⟩⟩
set_option maxHeartbeats 1000000 in
set_option maxRecDepth 100000 in
theorem isExecAbort_NoReplicas (m : ByteArray) (g : Nat) (w : World) (hb : w.heap[g]? = some (.cells #[.string m] 119 (0, 0))) (hz : m.size ≤ 1000) (hn : NoX m 11) : Calls Tryz.prog 28 #[.iface 79 (.pointer (some ⟨g, 0, none⟩))] w fun e w' => e = .returned (.bool false) ∧ Drawn0 w w' := by
  have HE := Lib.hid (err_NoReplicas m g w hb)
  have HP := Lib.hid (fun w => hp_no m _ (show ¬ At (pre 12) m 0 from hn) w)
  have t1 : ∀ w, (Instr.typeAssert (.iface 79 (.pointer (some ⟨g, 0, none⟩))) 33 75 true).run Tryz.prog w = .ok (.tuple #[.pointer none, .bool false]) w := fun _ => by kernel_rfl
  have t2 : ∀ w, (Instr.typeAssert (.iface 79 (.pointer (some ⟨g, 0, none⟩))) 33 55 true).run Tryz.prog w = .ok (.tuple #[.string ⟨#[]⟩, .bool false]) w := fun _ => by kernel_rfl
  have hm := meth_NoReplicas
  have ha := ahead_NoReplicas
  clear hb hn
  go_enter Tryz.func28, Tryz.ntmps28
  go_wp2_with fail
  refine HE.out.mono ?_
  rintro e w0 ⟨rfl, rfl⟩
  go_wp2_with fail
  refine (HP.out _).mono ?_
  rintro e w1 ⟨rfl, ⟨nd1, rfl⟩⟩
  go_wp2_with fail
  go_ret
  exact ⟨rfl, ⟨_, rfl⟩⟩
set_option maxHeartbeats 1000000 in
set_option maxRecDepth 100000 in
theorem isExecAbort_MaxClients (m : ByteArray) (g : Nat) (w : World) (hb : w.heap[g]? = some (.cells #[.string m] 120 (0, 0))) (hz : m.size ≤ 1000) (hn : NoX m 11) : Calls Tryz.prog 28 #[.iface 69 (.pointer (some ⟨g, 0, none⟩))] w fun e w' => e = .returned (.bool false) ∧ Drawn0 w w' := by
  have HE := Lib.hid (err_MaxClients m g w hb)
  have HP := Lib.hid (fun w => hp_no m _ (show ¬ At (pre 12) m 0 from hn) w)
  have t1 : ∀ w, (Instr.typeAssert (.iface 69 (.pointer (some ⟨g, 0, none⟩))) 33 75 true).run Tryz.prog w = .ok (.tuple #[.pointer none, .bool false]) w := fun _ => by kernel_rfl
  have t2 : ∀ w, (Instr.typeAssert (.iface 69 (.pointer (some ⟨g, 0, none⟩))) 33 55 true).run Tryz.prog w = .ok (.tuple #[.string ⟨#[]⟩, .bool false]) w := fun _ => by kernel_rfl
  have hm := meth_MaxClients
  have ha := ahead_MaxClients
  clear hb hn
  go_enter Tryz.func28, Tryz.ntmps28
  go_wp2_with fail
  refine HE.out.mono ?_
  rintro e w0 ⟨rfl, rfl⟩
  go_wp2_with fail
  refine (HP.out _).mono ?_
  rintro e w1 ⟨rfl, ⟨nd1, rfl⟩⟩
  go_wp2_with fail
  go_ret
  exact ⟨rfl, ⟨_, rfl⟩⟩
set_option maxHeartbeats 1000000 in
set_option maxRecDepth 100000 in
theorem isExecAbort_Auth (m : ByteArray) (g : Nat) (w : World) (hb : w.heap[g]? = some (.cells #[.string m] 121 (0, 0))) (hz : m.size ≤ 1000) (hn : NoX m 11) : Calls Tryz.prog 28 #[.iface 71 (.pointer (some ⟨g, 0, none⟩))] w fun e w' => e = .returned (.bool false) ∧ Drawn0 w w' := by
  have HE := Lib.hid (err_Auth m g w hb)
  have HP := Lib.hid (fun w => hp_no m _ (show ¬ At (pre 12) m 0 from hn) w)
  have t1 : ∀ w, (Instr.typeAssert (.iface 71 (.pointer (some ⟨g, 0, none⟩))) 33 75 true).run Tryz.prog w = .ok (.tuple #[.pointer none, .bool false]) w := fun _ => by kernel_rfl
  have t2 : ∀ w, (Instr.typeAssert (.iface 71 (.pointer (some ⟨g, 0, none⟩))) 33 55 true).run Tryz.prog w = .ok (.tuple #[.string ⟨#[]⟩, .bool false]) w := fun _ => by kernel_rfl
  have hm := meth_Auth
  have ha := ahead_Auth
  clear hb hn
  go_enter Tryz.func28, Tryz.ntmps28
  go_wp2_with fail
  refine HE.out.mono ?_
  rintro e w0 ⟨rfl, rfl⟩
  go_wp2_with fail
  refine (HP.out _).mono ?_
  rintro e w1 ⟨rfl, ⟨nd1, rfl⟩⟩
  go_wp2_with fail
  go_ret
  exact ⟨rfl, ⟨_, rfl⟩⟩
set_option maxHeartbeats 1000000 in
set_option maxRecDepth 100000 in
theorem isExecAbort_Permission (m : ByteArray) (g : Nat) (w : World) (hb : w.heap[g]? = some (.cells #[.string m] 122 (0, 0))) (hz : m.size ≤ 1000) (hn : NoX m 11) : Calls Tryz.prog 28 #[.iface 73 (.pointer (some ⟨g, 0, none⟩))] w fun e w' => e = .returned (.bool false) ∧ Drawn0 w w' := by
  have HE := Lib.hid (err_Permission m g w hb)
  have HP := Lib.hid (fun w => hp_no m _ (show ¬ At (pre 12) m 0 from hn) w)
  have t1 : ∀ w, (Instr.typeAssert (.iface 73 (.pointer (some ⟨g, 0, none⟩))) 33 75 true).run Tryz.prog w = .ok (.tuple #[.pointer none, .bool false]) w := fun _ => by kernel_rfl
  have t2 : ∀ w, (Instr.typeAssert (.iface 73 (.pointer (some ⟨g, 0, none⟩))) 33 55 true).run Tryz.prog w = .ok (.tuple #[.string ⟨#[]⟩, .bool false]) w := fun _ => by kernel_rfl
  have hm := meth_Permission
  have ha := ahead_Permission
  clear hb hn
  go_enter Tryz.func28, Tryz.ntmps28
  go_wp2_with fail
  refine HE.out.mono ?_
  rintro e w0 ⟨rfl, rfl⟩
  go_wp2_with fail
  refine (HP.out _).mono ?_
  rintro e w1 ⟨rfl, ⟨nd1, rfl⟩⟩
  go_wp2_with fail
  go_ret
  exact ⟨rfl, ⟨_, rfl⟩⟩
set_option maxHeartbeats 1000000 in
set_option maxRecDepth 100000 in
theorem isExecAbort_OOM (m : ByteArray) (g : Nat) (w : World) (hb : w.heap[g]? = some (.cells #[.string m] 124 (0, 0))) (hz : m.size ≤ 1000) (hn : NoX m 11) : Calls Tryz.prog 28 #[.iface 77 (.pointer (some ⟨g, 0, none⟩))] w fun e w' => e = .returned (.bool false) ∧ Drawn0 w w' := by
  have HE := Lib.hid (err_OOM m g w hb)
  have HP := Lib.hid (fun w => hp_no m _ (show ¬ At (pre 12) m 0 from hn) w)
  have t1 : ∀ w, (Instr.typeAssert (.iface 77 (.pointer (some ⟨g, 0, none⟩))) 33 75 true).run Tryz.prog w = .ok (.tuple #[.pointer none, .bool false]) w := fun _ => by kernel_rfl
  have t2 : ∀ w, (Instr.typeAssert (.iface 77 (.pointer (some ⟨g, 0, none⟩))) 33 55 true).run Tryz.prog w = .ok (.tuple #[.string ⟨#[]⟩, .bool false]) w := fun _ => by kernel_rfl
  have hm := meth_OOM
  have ha := ahead_OOM
  clear hb hn
  go_enter Tryz.func28, Tryz.ntmps28
  go_wp2_with fail
  refine HE.out.mono ?_
  rintro e w0 ⟨rfl, rfl⟩
  go_wp2_with fail
  refine (HP.out _).mono ?_
  rintro e w1 ⟨rfl, ⟨nd1, rfl⟩⟩
  go_wp2_with fail
  go_ret
  exact ⟨rfl, ⟨_, rfl⟩⟩
set_option maxHeartbeats 1000000 in
set_option maxRecDepth 100000 in
theorem isExecAbort_R (m : ByteArray) (w : World) (hz : m.size ≤ 1000) (hn : NoX m 11) : Calls Tryz.prog 28 #[.iface 55 (.string m)] w fun e w' => e = .returned (.bool false) ∧ Drawn0 w w' := by
  have HP := Lib.hid (fun w => hp_no m _ (show ¬ At (pre 12) m 0 from hn) w)
  have t1 : ∀ w, (Instr.typeAssert (.iface 55 (.string m)) 33 75 true).run Tryz.prog w = .ok (.tuple #[.pointer none, .bool false]) w := fun _ => by kernel_rfl
  have t2 : ∀ w, (Instr.typeAssert (.iface 55 (.string m)) 33 55 true).run Tryz.prog w = .ok (.tuple #[.string m, .bool true]) w := fun _ => by kernel_rfl
  have hm := re_meth
  have ha := re_ahead
  clear hn
  go_enter Tryz.func28, Tryz.ntmps28
  go_wp2_with fail
  refine (re_error m _).mono ?_
  rintro e w0 ⟨rfl, rfl⟩
  go_wp2_with fail
  refine (HP.out _).mono ?_
  rintro e w1 ⟨rfl, ⟨nd1, rfl⟩⟩
  go_wp2_with fail
  refine (re_error m _).mono ?_
  rintro e wa ⟨rfl, rfl⟩
  go_wp2_with fail
  refine (HP.out _).mono ?_
  rintro e w2 ⟨rfl, ⟨nd2, rfl⟩⟩
  go_wp2_with fail
  go_ret
  exact ⟨rfl, ⟨_, rfl⟩⟩
theorem isExecAbort_any (m a : ByteArray) (c : Nat) (v : Value) (b : Bool) (w : World) (hc : c ≤ 13) (hv : EVal w m a c v) (hz : m.size ≤ 1000) (hb : Bx m c 11 b) : Calls Tryz.prog 28 #[v] w fun e w' => e = .returned (.bool b) ∧ Drawn0 w w' := by
  rcases hb with ⟨rfl, rfl⟩ | ⟨rfl, hne, hn⟩ | ⟨h8, rfl, rfl, ha⟩
  · obtain ⟨g, rfl, hb⟩ := hv
    exact isExecAbort_own g w
  · have hcs : c = 0 ∨ c = 1 ∨ c = 2 ∨ c = 3 ∨ c = 4 ∨ c = 5 ∨ c = 6 ∨ c = 7 ∨ c = 8 ∨ c = 9 ∨ c = 10 ∨ c = 12 ∨ c = 13 := by omega
    rcases hcs with rfl | rfl | rfl | rfl | rfl | rfl | rfl | rfl | rfl | rfl | rfl | rfl | rfl
    · obtain ⟨g, rfl, hb⟩ := hv
      exact isExecAbort_Loading m g w hb hz hn
    · obtain ⟨g, rfl, hb⟩ := hv
      exact isExecAbort_ReadOnly m g w hb hz hn
    · obtain ⟨g, rfl, hb⟩ := hv
      exact isExecAbort_Moved m a g w hb hz hn
    · obtain ⟨g, rfl, hb⟩ := hv
      exact isExecAbort_Ask m a g w hb hz hn
    · obtain ⟨g, rfl, hb⟩ := hv
      exact isExecAbort_ClusterDown m g w hb hz hn
    · obtain ⟨g, rfl, hb⟩ := hv
      exact isExecAbort_TryAgain m g w hb hz hn
    · obtain ⟨g, rfl, hb⟩ := hv
      exact isExecAbort_MasterDown m g w hb hz hn
    · obtain ⟨g, rfl, hb⟩ := hv
      exact isExecAbort_NoReplicas m g w hb hz hn
    · obtain ⟨g, rfl, hb⟩ := hv
      exact isExecAbort_MaxClients m g w hb hz hn
    · obtain ⟨g, rfl, hb⟩ := hv
      exact isExecAbort_Auth m g w hb hz hn
    · obtain ⟨g, rfl, hb⟩ := hv
      exact isExecAbort_Permission m g w hb hz hn
    · obtain ⟨g, rfl, hb⟩ := hv
      exact isExecAbort_OOM m g w hb hz hn
    · obtain rfl : v = _ := hv
      exact isExecAbort_R m w hz hn
  · exact absurd h8 (by decide)
end Go.Proofs.YtkogipaaioibaaaGreat

namespace Go.Proofs.YtkogipaaioibaaaGreat
set_option linter.unusedVariables false
set_option linter.unusedSimpArgs false
open Go.RowKit Go.Proofs.YtkogipaaioibaaaGreatW.PrintWords
set_option maxHeartbeats 1000000 in
set_option maxRecDepth 100000 in
theorem isOOM_own (g : Nat) (w : World) : Calls Tryz.prog 29 #[.iface 77 (.pointer (some ⟨g, 0, none⟩))] w fun e w' => e = .returned (.bool true) ∧ Drawn0 w w' := by
  have t1 : ∀ w, (Instr.typeAssert (.iface 77 (.pointer (some ⟨g, 0, none⟩))) 33 77 true).run Tryz.prog w = .ok (.tuple #[.pointer (some ⟨g, 0, none⟩), .bool true]) w := fun _ => by kernel_rfl
  go_enter Tryz.func29, Tryz.ntmps29
  go_wp2_with fail
  go_ret
  exact ⟨rfl, Drawn0.refl _⟩
set_option maxHeartbeats 1000000 in
set_option maxRecDepth 100000 in
theorem isOOM_Loading (m : ByteArray) (g : Nat) (w : World) (hb : w.heap[g]? = some (.cells #[.string m] 114 (0, 0))) (hz : m.size ≤ 1000) (hn : NoX m 12) : Calls Tryz.prog 29 #[.iface 53 (.pointer (some ⟨g, 0, none⟩))] w fun e w' => e = .returned (.bool false) ∧ Drawn0 w w' := by
  have HE := Lib.hid (err_Loading m g w hb)
  have HP := Lib.hid (fun w => hp_no m _ (show ¬ At (pre 13) m 0 from hn) w)
  have t1 : ∀ w, (Instr.typeAssert (.iface 53 (.pointer (some ⟨g, 0, none⟩))) 33 77 true).run Tryz.prog w = .ok (.tuple #[.pointer none, .bool false]) w := fun _ => by kernel_rfl
  have t2 : ∀ w, (Instr.typeAssert (.iface 53 (.pointer (some ⟨g, 0, none⟩))) 33 55 true).run Tryz.prog w = .ok (.tuple #[.string ⟨#[]⟩, .bool false]) w := fun _ => by kernel_rfl
  have hm := meth_Loading
  have ha := ahead_Loading
  clear hb hn
  go_enter Tryz.func29, Tryz.ntmps29
  go_wp2_with fail
  refine HE.out.mono ?_
  rintro e w0 ⟨rfl, rfl⟩
  go_wp2_with fail
  refine (HP.out _).mono ?_
  rintro e w1 ⟨rfl, ⟨nd1, rfl⟩⟩
  go_wp2_with fail
  go_ret
  exact ⟨rfl, ⟨_, rfl⟩⟩
set_option maxHeartbeats 1000000 in
set_option maxRecDepth 100000 in
theorem isOOM_ReadOnly (m : ByteArray) (g : Nat) (w : World) (hb : w.heap[g]? = some (.cells #[.string m] 115 (0, 0))) (hz : m.size ≤ 1000) (hn : NoX m 12) : Calls Tryz.prog 29 #[.iface 57 (.pointer (some ⟨g, 0, none⟩))] w fun e w' => e = .returned (.bool false) ∧ Drawn0 w w' := by
  have HE := Lib.hid (err_ReadOnly m g w hb)
  have HP := Lib.hid (fun w => hp_no m _ (show ¬ At (pre 13) m 0 from hn) w)
  have t1 : ∀ w, (Instr.typeAssert (.iface 57 (.pointer (some ⟨g, 0, none⟩))) 33 77 true).run Tryz.prog w = .ok (.tuple #[.pointer none, .bool false]) w := fun _ => by kernel_rfl
  have t2 : ∀ w, (Instr.typeAssert (.iface 57 (.pointer (some ⟨g, 0, none⟩))) 33 55 true).run Tryz.prog w = .ok (.tuple #[.string ⟨#[]⟩, .bool false]) w := fun _ => by kernel_rfl
  have hm := meth_ReadOnly
  have ha := ahead_ReadOnly
  clear hb hn
  go_enter Tryz.func29, Tryz.ntmps29
  go_wp2_with fail
  refine HE.out.mono ?_
  rintro e w0 ⟨rfl, rfl⟩
  go_wp2_with fail
  refine (HP.out _).mono ?_
  rintro e w1 ⟨rfl, ⟨nd1, rfl⟩⟩
  go_wp2_with fail
  go_ret
  exact ⟨rfl, ⟨_, rfl⟩⟩
set_option maxHeartbeats 1000000 in
set_option maxRecDepth 100000 in
theorem isOOM_Moved (m a : ByteArray) (g : Nat) (w : World) (hb : w.heap[g]? = some (.cells #[.string m, .string a] 61 (0, 0))) (hz : m.size ≤ 1000) (hn : NoX m 12) : Calls Tryz.prog 29 #[.iface 38 (.pointer (some ⟨g, 0, none⟩))] w fun e w' => e = .returned (.bool false) ∧ Drawn0 w w' := by
  have HE := Lib.hid (err_Moved m a g w hb)
  have HP := Lib.hid (fun w => hp_no m _ (show ¬ At (pre 13) m 0 from hn) w)
  have t1 : ∀ w, (Instr.typeAssert (.iface 38 (.pointer (some ⟨g, 0, none⟩))) 33 77 true).run Tryz.prog w = .ok (.tuple #[.pointer none, .bool false]) w := fun _ => by kernel_rfl
  have t2 : ∀ w, (Instr.typeAssert (.iface 38 (.pointer (some ⟨g, 0, none⟩))) 33 55 true).run Tryz.prog w = .ok (.tuple #[.string ⟨#[]⟩, .bool false]) w := fun _ => by kernel_rfl
  have hm := meth_Moved
  have ha := ahead_Moved
  clear hb hn
  go_enter Tryz.func29, Tryz.ntmps29
  go_wp2_with fail
  refine HE.out.mono ?_
  rintro e w0 ⟨rfl, rfl⟩
  go_wp2_with fail
  refine (HP.out _).mono ?_
  rintro e w1 ⟨rfl, ⟨nd1, rfl⟩⟩
  go_wp2_with fail
  go_ret
  exact ⟨rfl, ⟨_, rfl⟩⟩
set_option maxHeartbeats 1000000 in
set_option maxRecDepth 100000 in
theorem isOOM_Ask (m a : ByteArray) (g : Nat) (w : World) (hb : w.heap[g]? = some (.cells #[.string m, .string a] 62 (0, 0))) (hz : m.size ≤ 1000) (hn : NoX m 12) : Calls Tryz.prog 29 #[.iface 42 (.pointer (some ⟨g, 0, none⟩))] w fun e w' => e = .returned (.bool false) ∧ Drawn0 w w' := by
  have HE := Lib.hid (err_Ask m a g w hb)
  have HP := Lib.hid (fun w => hp_no m _ (show ¬ At (pre 13) m 0 from hn) w)
  have t1 : ∀ w, (Instr.typeAssert (.iface 42 (.pointer (some ⟨g, 0, none⟩))) 33 77 true).run Tryz.prog w = .ok (.tuple #[.pointer none, .bool false]) w := fun _ => by kernel_rfl
  have t2 : ∀ w, (Instr.typeAssert (.iface 42 (.pointer (some ⟨g, 0, none⟩))) 33 55 true).run Tryz.prog w = .ok (.tuple #[.string ⟨#[]⟩, .bool false]) w := fun _ => by kernel_rfl
  have hm := meth_Ask
  have ha := ahead_Ask
  clear hb hn
  go_enter Tryz.func29, Tryz.ntmps29
  go_wp2_with fail
  refine HE.out.mono ?_
  rintro e w0 ⟨rfl, rfl⟩
  go_wp2_with fail
  refine (HP.out _).mono ?_
  rintro e w1 ⟨rfl, ⟨nd1, rfl⟩⟩
  go_wp2_with fail
  go_ret
  exact ⟨rfl, ⟨_, rfl⟩⟩
set_option maxHeartbeats 1000000 in
set_option maxRecDepth 100000 in
theorem isOOM_ClusterDown (m : ByteArray) (g : Nat) (w : World) (hb : w.heap[g]? = some (.cells #[.string m] 116 (0, 0))) (hz : m.size ≤ 1000) (hn : NoX m 12) : Calls Tryz.prog 29 #[.iface 63 (.pointer (some ⟨g, 0, none⟩))] w fun e w' => e = .returned (.bool false) ∧ Drawn0 w w' := by
  have HE := Lib.hid (err_ClusterDown m g w hb)
  have HP := Lib.hid (fun w => hp_no m _ (show ¬ At (pre 13) m 0 from hn) w)
  have t1 : ∀ w, (Instr.typeAssert (.iface 63 (.pointer (some ⟨g, 0, none⟩))) 33 77 true).run Tryz.prog w = .ok (.tuple #[.pointer none, .bool false]) w := fun _ => by kernel_rfl
  have t2 : ∀ w, (Instr.typeAssert (.iface 63 (.pointer (some ⟨g, 0, none⟩))) 33 55 true).run Tryz.prog w = .ok (.tuple #[.string ⟨#[]⟩, .bool false]) w := fun _ => by kernel_rfl
  have hm := meth_ClusterDown
  have ha := ahead_ClusterDown
  clear hb hn
  go_enter Tryz.func29, Tryz.ntmps29
  go_wp2_with fail
  refine HE.out.mono ?_
  rintro e w0 ⟨rfl, rfl⟩
  go_wp2_with fail
  refine (HP.out _).mono ?_
  rintro e w1 ⟨rfl, ⟨nd1, rfl⟩⟩
  go_wp2_with fail
  go_ret
  exact ⟨rfl, ⟨_, rfl⟩⟩
set_option maxHeartbeats 1000000 in
set_option maxRecDepth 100000 in
theorem isOOM_TryAgain (m : ByteArray) (g : Nat) (w : World) (hb : w.heap[g]? = some (.cells #[.string m] 117 (0, 0))) (hz : m.size ≤ 1000) (hn : NoX m 12) : Calls Tryz.prog 29 #[.iface 65 (.pointer (some ⟨g, 0, none⟩))] w fun e w' => e = .returned (.bool false) ∧ Drawn0 w w' := by
  have HE := Lib.hid (err_TryAgain m g w hb)
  have HP := Lib.hid (fun w => hp_no m _ (show ¬ At (pre 13) m 0 from hn) w)
  have t1 : ∀ w, (Instr.typeAssert (.iface 65 (.pointer (some ⟨g, 0, none⟩))) 33 77 true).run Tryz.prog w = .ok (.tuple #[.pointer none, .bool false]) w := fun _ => by kernel_rfl
  have t2 : ∀ w, (Instr.typeAssert (.iface 65 (.pointer (some ⟨g, 0, none⟩))) 33 55 true).run Tryz.prog w = .ok (.tuple #[.string ⟨#[]⟩, .bool false]) w := fun _ => by kernel_rfl
  have hm := meth_TryAgain
  have ha := ahead_TryAgain
  clear hb hn
  go_enter Tryz.func29, Tryz.ntmps29
  go_wp2_with fail
  refine HE.out.mono ?_
  rintro e w0 ⟨rfl, rfl⟩
  go_wp2_with fail
  refine (HP.out _).mono ?_
  rintro e w1 ⟨rfl, ⟨nd1, rfl⟩⟩
  go_wp2_with fail
  go_ret
  exact ⟨rfl, ⟨_, rfl⟩⟩
set_option maxHeartbeats 1000000 in
set_option maxRecDepth 100000 in
theorem isOOM_MasterDown (m : ByteArray) (g : Nat) (w : World) (hb : w.heap[g]? = some (.cells #[.string m] 118 (0, 0))) (hz : m.size ≤ 1000) (hn : NoX m 12) : Calls Tryz.prog 29 #[.iface 67 (.pointer (some ⟨g, 0, none⟩))] w fun e w' => e = .returned (.bool false) ∧ Drawn0 w w' := by
  have HE := Lib.hid (err_MasterDown m g w hb)
  have HP := Lib.hid (fun w => hp_no m _ (show ¬ At (pre 13) m 0 from hn) w)
  have t1 : ∀ w, (Instr.typeAssert (.iface 67 (.pointer (some ⟨g, 0, none⟩))) 33 77 true).run Tryz.prog w = .ok (.tuple #[.pointer none, .bool false]) w := fun _ => by kernel_rfl
  have t2 : ∀ w, (Instr.typeAssert (.iface 67 (.pointer (some ⟨g, 0, none⟩))) 33 55 true).run Tryz.prog w = .ok (.tuple #[.string ⟨#[]⟩, .bool false]) w := fun _ => by kernel_rfl
  have hm := meth_MasterDown
  have ha := ahead_MasterDown
  clear hb hn
  go_enter Tryz.func29, Tryz.ntmps29
  go_wp2_with fail
  refine HE.out.mono ?_
  rintro e w0 ⟨rfl, rfl⟩
  go_wp2_with fail
  refine (HP.out _).mono ?_
  rintro e w1 ⟨rfl, ⟨nd1, rfl⟩⟩
  go_wp2_with fail
  go_ret
  exact ⟨rfl, ⟨_, rfl⟩⟩
set_option maxHeartbeats 1000000 in
set_option maxRecDepth 100000 in
theorem isOOM_NoReplicas (m : ByteArray) (g : Nat) (w : World) (hb : w.heap[g]? = some (.cells #[.string m] 119 (0, 0))) (hz : m.size ≤ 1000) (hn : NoX m 12) : Calls Tryz.prog 29 #[.iface 79 (.pointer (some ⟨g, 0, none⟩))] w fun e w' => e = .returned (.bool false) ∧ Drawn0 w w' := by
  have HE := Lib.hid (err_NoReplicas m g w hb)
  have HP := Lib.hid (fun w => hp_no m _ (show ¬ At (pre 13) m 0 from hn) w)
  have t1 : ∀ w, (Instr.typeAssert (.iface 79 (.pointer (some ⟨g, 0, none⟩))) 33 77 true).run Tryz.prog w = .ok (.tuple #[.pointer none, .bool false]) w := fun _ => by kernel_rfl
  have t2 : ∀ w, (Instr.typeAssert (.iface 79 (.pointer (some ⟨g, 0, none⟩))) 33 55 true).run Tryz.prog w = .ok (.tuple #[.string ⟨#[]⟩, .bool false]) w := fun _ => by kernel_rfl
  have hm := meth_NoReplicas
  have ha := ahead_NoReplicas
  clear hb hn
  go_enter Tryz.func29, Tryz.ntmps29
  go_wp2_with fail
  refine HE.out.mono ?_
  rintro e w0 ⟨rfl, rfl⟩
  go_wp2_with fail
  refine (HP.out _).mono ?_
  rintro e w1 ⟨rfl, ⟨nd1, rfl⟩⟩
  go_wp2_with fail
  go_ret
  exact ⟨rfl, ⟨_, rfl⟩⟩
set_option maxHeartbeats 1000000 in
set_option maxRecDepth 100000 in
theorem isOOM_MaxClients (m : ByteArray) (g : Nat) (w : World) (hb : w.heap[g]? = some (.cells #[.string m] 120 (0, 0))) (hz : m.size ≤ 1000) (hn : NoX m 12) : Calls Tryz.prog 29 #[.iface 69 (.pointer (some ⟨g, 0, none⟩))] w fun e w' => e = .returned (.bool false) ∧ Drawn0 w w' := by
  have HE := Lib.hid (err_MaxClients m g w hb)
  have HP := Lib.hid (fun w => hp_no m _ (show ¬ At (pre 13) m 0 from hn) w)
  have t1 : ∀ w, (Instr.typeAssert (.iface 69 (.pointer (some ⟨g, 0, none⟩))) 33 77 true).run Tryz.prog w = .ok (.tuple #[.pointer none, .bool false]) w := fun _ => by kernel_rfl
  have t2 : ∀ w, (Instr.typeAssert (.iface 69 (.pointer (some ⟨g, 0, none⟩))) 33 55 true).run Tryz.prog w = .ok (.tuple #[.string ⟨#[]⟩, .bool false]) w := fun _ => by kernel_rfl
  have hm := meth_MaxClients
  have ha := ahead_MaxClients
  clear hb hn
  go_enter Tryz.func29, Tryz.ntmps29
  go_wp2_with fail
  refine HE.out.mono ?_
  rintro e w0 ⟨rfl, rfl⟩
  go_wp2_with fail
  refine (HP.out _).mono ?_
  rintro e w1 ⟨rfl, ⟨nd1, rfl⟩⟩
  go_wp2_with fail
  go_ret
  exact ⟨rfl, ⟨_, rfl⟩⟩
set_option maxHeartbeats 1000000 in
set_option maxRecDepth 100000 in
theorem isOOM_Auth (m : ByteArray) (g : Nat) (w : World) (hb : w.heap[g]? = some (.cells #[.string m] 121 (0, 0))) (hz : m.size ≤ 1000) (hn : NoX m 12) : Calls Tryz.prog 29 #[.iface 71 (.pointer (some ⟨g, 0, none⟩))] w fun e w' => e = .returned (.bool false) ∧ Drawn0 w w' := by
  have HE := Lib.hid (err_Auth m g w hb)
  have HP := Lib.hid (fun w => hp_no m _ (show ¬ At (pre 13) m 0 from hn) w)
  have t1 : ∀ w, (Instr.typeAssert (.iface 71 (.pointer (some ⟨g, 0, none⟩))) 33 77 true).run Tryz.prog w = .ok (.tuple #[.pointer none, .bool false]) w := fun _ => by kernel_rfl
  have t2 : ∀ w, (Instr.typeAssert (.iface 71 (.pointer (some ⟨g, 0, none⟩))) 33 55 true).run Tryz.prog w = .ok (.tuple #[.string ⟨#[]⟩, .bool false]) w := fun _ => by kernel_rfl
  have hm := meth_Auth
  have ha := ahead_Auth
  clear hb hn
  go_enter Tryz.func29, Tryz.ntmps29
  go_wp2_with fail
  refine HE.out.mono ?_
  rintro e w0 ⟨rfl, rfl⟩
  go_wp2_with fail
  refine (HP.out _).mono ?_
  rintro e w1 ⟨rfl, ⟨nd1, rfl⟩⟩
  go_wp2_with fail
  go_ret
  exact ⟨rfl, ⟨_, rfl⟩⟩
set_option maxHeartbeats 1000000 in
set_option maxRecDepth 100000 in
theorem isOOM_Permission (m : ByteArray) (g : Nat) (w : World) (hb : w.heap[g]? = some (.cells #[.string m] 122 (0, 0))) (hz : m.size ≤ 1000) (hn : NoX m 12) : Calls Tryz.prog 29 #[.iface 73 (.pointer (some ⟨g, 0, none⟩))] w fun e w' => e = .returned (.bool false) ∧ Drawn0 w w' := by
  have HE := Lib.hid (err_Permission m g w hb)
  have HP := Lib.hid (fun w => hp_no m _ (show ¬ At (pre 13) m 0 from hn) w)
  have t1 : ∀ w, (Instr.typeAssert (.iface 73 (.pointer (some ⟨g, 0, none⟩))) 33 77 true).run Tryz.prog w = .ok (.tuple #[.pointer none, .bool false]) w := fun _ => by kernel_rfl
  have t2 : ∀ w, (Instr.typeAssert (.iface 73 (.pointer (some ⟨g, 0, none⟩))) 33 55 true).run Tryz.prog w = .ok (.tuple #[.string ⟨#[]⟩, .bool false]) w := fun _ => by kernel_rfl
  have hm := meth_Permission
  have ha := ahead_Permission
  clear hb hn
  go_enter Tryz.func29, Tryz.ntmps29
  go_wp2_with fail
  refine HE.out.mono ?_
  rintro e w0 ⟨rfl, rfl⟩
  go_wp2_with fail
  refine (HP.out _).mono ?_
  rintro e w1 ⟨rfl, ⟨nd1, rfl⟩⟩
  go_wp2_with fail
  go_ret
  exact ⟨rfl, ⟨_, rfl⟩⟩
set_option maxHeartbeats 1000000 in
set_option maxRecDepth 100000 in
theorem isOOM_ExecAbort (m : ByteArray) (g : Nat) (w : World) (hb : w.heap[g]? = some (.cells #[.string m] 123 (0, 0))) (hz : m.size ≤ 1000) (hn : NoX m 12) : Calls Tryz.prog 29 #[.iface 75 (.pointer (some ⟨g, 0, none⟩))] w fun e w' => e = .returned (.bool false) ∧ Drawn0 w w' := by
  have HE := Lib.hid (err_ExecAbort m g w hb)
  have HP := Lib.hid (fun w => hp_no m _ (show ¬ At (pre 13) m 0 from hn) w)
  have t1 : ∀ w, (Instr.typeAssert (.iface 75 (.pointer (some ⟨g, 0, none⟩))) 33 77 true).run Tryz.prog w = .ok (.tuple #[.pointer none, .bool false]) w := fun _ => by kernel_rfl
  have t2 : ∀ w, (Instr.typeAssert (.iface 75 (.pointer (some ⟨g, 0, none⟩))) 33 55 true).run Tryz.prog w = .ok (.tuple #[.string ⟨#[]⟩, .bool false]) w := fun _ => by kernel_rfl
  have hm := meth_ExecAbort
  have ha := ahead_ExecAbort
  clear hb hn
  go_enter Tryz.func29, Tryz.ntmps29
  go_wp2_with fail
  refine HE.out.mono ?_
  rintro e w0 ⟨rfl, rfl⟩
  go_wp2_with fail
  refine (HP.out _).mono ?_
  rintro e w1 ⟨rfl, ⟨nd1, rfl⟩⟩
  go_wp2_with fail
  go_ret
  exact ⟨rfl, ⟨_, rfl⟩⟩
set_option maxHeartbeats 1000000 in
set_option maxRecDepth 100000 in
theorem isOOM_R (m : ByteArray) (w : World) (hz : m.size ≤ 1000) (hn : NoX m 12) : Calls Tryz.prog 29 #[.iface 55 (.string m)] w fun e w' => e = .returned (.bool false) ∧ Drawn0 w w' := by
  have HP := Lib.hid (fun w => hp_no m _ (show ¬ At (pre 13) m 0 from hn) w)
  have t1 : ∀ w, (Instr.typeAssert (.iface 55 (.string m)) 33 77 true).run Tryz.prog w = .ok (.tuple #[.pointer none, .bool false]) w := fun _ => by kernel_rfl
  have t2 : ∀ w, (Instr.typeAssert (.iface 55 (.string m)) 33 55 true).run Tryz.prog w = .ok (.tuple #[.string m, .bool true]) w := fun _ => by kernel_rfl
  have hm := re_meth
  have ha := re_ahead
  clear hn
  go_enter Tryz.func29, Tryz.ntmps29
  go_wp2_with fail
  refine (re_error m _).mono ?_
  rintro e w0 ⟨rfl, rfl⟩
  go_wp2_with fail
  refine (HP.out _).mono ?_
  rintro e w1 ⟨rfl, ⟨nd1, rfl⟩⟩
  go_wp2_with fail
  refine (re_error m _).mono ?_
  rintro e wa ⟨rfl, rfl⟩
  go_wp2_with fail
  refine (HP.out _).mono ?_
  rintro e w2 ⟨rfl, ⟨nd2, rfl⟩⟩
  go_wp2_with fail
  go_ret
  exact ⟨rfl, ⟨_, rfl⟩⟩
theorem isOOM_any (m a : ByteArray) (c : Nat) (v : Value) (b : Bool) (w : World) (hc : c ≤ 13) (hv : EVal w m a c v) (hz : m.size ≤ 1000) (hb : Bx m c 12 b) : Calls Tryz.prog 29 #[v] w fun e w' => e = .returned (.bool b) ∧ Drawn0 w w' := by
  rcases hb with ⟨rfl, rfl⟩ | ⟨rfl, hne, hn⟩ | ⟨h8, rfl, rfl, ha⟩
  · obtain ⟨g, rfl, hb⟩ := hv
    exact isOOM_own g w
  · have hcs : c = 0 ∨ c = 1 ∨ c = 2 ∨ c = 3 ∨ c = 4 ∨ c = 5 ∨ c = 6 ∨ c = 7 ∨ c = 8 ∨ c = 9 ∨ c = 10 ∨ c = 11 ∨ c = 13 := by omega
    rcases hcs with rfl | rfl | rfl | rfl | rfl | rfl | rfl | rfl | rfl | rfl | rfl | rfl | rfl
    · obtain ⟨g, rfl, hb⟩ := hv
      exact isOOM_Loading m g w hb hz hn
    · obtain ⟨g, rfl, hb⟩ := hv
      exact isOOM_ReadOnly m g w hb hz hn
    · obtain ⟨g, rfl, hb⟩ := hv
      exact isOOM_Moved m a g w hb hz hn
    · obtain ⟨g, rfl, hb⟩ := hv
      exact isOOM_Ask m a g w hb hz hn
    · obtain ⟨g, rfl, hb⟩ := hv
      exact isOOM_ClusterDown m g w hb hz hn
    · obtain ⟨g, rfl, hb⟩ := hv
      exact isOOM_TryAgain m g w hb hz hn
    · obtain ⟨g, rfl, hb⟩ := hv
      exact isOOM_MasterDown m g w hb hz hn
    · obtain ⟨g, rfl, hb⟩ := hv
      exact isOOM_NoReplicas m g w hb hz hn
    · obtain ⟨g, rfl, hb⟩ := hv
      exact isOOM_MaxClients m g w hb hz hn
    · obtain ⟨g, rfl, hb⟩ := hv
      exact isOOM_Auth m g w hb hz hn
    · obtain ⟨g, rfl, hb⟩ := hv
      exact isOOM_Permission m g w hb hz hn
    · obtain ⟨g, rfl, hb⟩ := hv
      exact isOOM_ExecAbort m g w hb hz hn
    · obtain rfl : v = _ := hv
      exact isOOM_R m w hz hn
  · exact absurd h8 (by decide)
end Go.Proofs.YtkogipaaioibaaaGreat
