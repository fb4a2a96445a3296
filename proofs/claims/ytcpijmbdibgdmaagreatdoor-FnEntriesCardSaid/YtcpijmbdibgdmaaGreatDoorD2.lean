/-
  Type assertions, the comma-ok way, to the package's own kinds of objects.
-/
import Derived.Test.YtcpijmbdibgdmaaGreatDoorD1
import Derived.WalkLawsBesides
import Derived.WalkSpells
import Derived.Outline
namespace Go.Proofs.YtcpijmbdibgdmaaGreatDoor
open Go Go.RowKit

def notIface : TypeDesc → Bool
  | .interface _ => false
  | _ => true

theorem ta_hit {T : TypeId} {d : TypeDesc} (hu : Tryz.prog.underlying T = some d) (hn : notIface d = true) (v : Value) (w : World) :
    (Instr.typeAssert (.iface T v) 51 T true).run Tryz.prog w = .ok (.tuple #[v, .bool true]) w := by
  cases d <;> first | (simp [notIface] at hn; done) | simp [Instr.typeAssert, run_underlying hu]

theorem ta_miss {T : TypeId} {d : TypeDesc} (hu : Tryz.prog.underlying T = some d) (hn : notIface d = true) {z : Value} (t : TypeId) (ht : t ≠ T) (v : Value) (w : World) (hz : (zeroValue T).run Tryz.prog w = .ok z w) :
    (Instr.typeAssert (.iface t v) 51 T true).run Tryz.prog w = .ok (.tuple #[z, .bool false]) w := by
  cases d <;> first | (simp [notIface] at hn; done) | simp [Instr.typeAssert, run_underlying hu, ht, hz, Result.andThen]

theorem ta_nil {T : TypeId} {d : TypeDesc} (hu : Tryz.prog.underlying T = some d) (hn : notIface d = true) {z : Value} (w : World) (hz : (zeroValue T).run Tryz.prog w = .ok z w) :
    (Instr.typeAssert .nilIface 51 T true).run Tryz.prog w = .ok (.tuple #[z, .bool false]) w := by
  cases d <;> first | (simp [notIface] at hn; done) | simp [Instr.typeAssert, run_underlying hu, hz, Result.andThen]

theorem zero66 (w : World) : (zeroValue 66).run Tryz.prog w = .ok (.bool false) w := by kernel_rfl
@[go_sem] theorem hit66 (v : Value) (w : World) : (Instr.typeAssert (.iface 66 v) 51 66 true).run Tryz.prog w = .ok (.tuple #[v, .bool true]) w := ta_hit Tryz.underlying66 rfl v w
@[go_sem] theorem miss66 (t : TypeId) (v : Value) (w : World) (h : t ≠ 66) : (Instr.typeAssert (.iface t v) 51 66 true).run Tryz.prog w = .ok (.tuple #[.bool false, .bool false]) w := ta_miss Tryz.underlying66 rfl t h v w (zero66 w)
@[go_sem] theorem none66 (w : World) : (Instr.typeAssert .nilIface 51 66 true).run Tryz.prog w = .ok (.tuple #[.bool false, .bool false]) w := ta_nil Tryz.underlying66 rfl w (zero66 w)

theorem zero68 (w : World) : (zeroValue 68).run Tryz.prog w = .ok (.int .i64 0) w := by kernel_rfl
@[go_sem] theorem hit68 (v : Value) (w : World) : (Instr.typeAssert (.iface 68 v) 51 68 true).run Tryz.prog w = .ok (.tuple #[v, .bool true]) w := ta_hit Tryz.underlying68 rfl v w
@[go_sem] theorem miss68 (t : TypeId) (v : Value) (w : World) (h : t ≠ 68) : (Instr.typeAssert (.iface t v) 51 68 true).run Tryz.prog w = .ok (.tuple #[.int .i64 0, .bool false]) w := ta_miss Tryz.underlying68 rfl t h v w (zero68 w)
@[go_sem] theorem none68 (w : World) : (Instr.typeAssert .nilIface 51 68 true).run Tryz.prog w = .ok (.tuple #[.int .i64 0, .bool false]) w := ta_nil Tryz.underlying68 rfl w (zero68 w)

theorem zero97 (w : World) : (zeroValue 97).run Tryz.prog w = .ok (.float .f64 0) w := by kernel_rfl
@[go_sem] theorem hit97 (v : Value) (w : World) : (Instr.typeAssert (.iface 97 v) 51 97 true).run Tryz.prog w = .ok (.tuple #[v, .bool true]) w := ta_hit Tryz.underlying97 rfl v w
@[go_sem] theorem miss97 (t : TypeId) (v : Value) (w : World) (h : t ≠ 97) : (Instr.typeAssert (.iface t v) 51 97 true).run Tryz.prog w = .ok (.tuple #[.float .f64 0, .bool false]) w := ta_miss Tryz.underlying97 rfl t h v w (zero97 w)
@[go_sem] theorem none97 (w : World) : (Instr.typeAssert .nilIface 51 97 true).run Tryz.prog w = .ok (.tuple #[.float .f64 0, .bool false]) w := ta_nil Tryz.underlying97 rfl w (zero97 w)

theorem zero76 (w : World) : (zeroValue 76).run Tryz.prog w = .ok (.string ByteArray.empty) w := by kernel_rfl
@[go_sem] theorem hit76 (v : Value) (w : World) : (Instr.typeAssert (.iface 76 v) 51 76 true).run Tryz.prog w = .ok (.tuple #[v, .bool true]) w := ta_hit Tryz.underlying76 rfl v w
@[go_sem] theorem miss76 (t : TypeId) (v : Value) (w : World) (h : t ≠ 76) : (Instr.typeAssert (.iface t v) 51 76 true).run Tryz.prog w = .ok (.tuple #[.string ByteArray.empty, .bool false]) w := ta_miss Tryz.underlying76 rfl t h v w (zero76 w)
@[go_sem] theorem none76 (w : World) : (Instr.typeAssert .nilIface 51 76 true).run Tryz.prog w = .ok (.tuple #[.string ByteArray.empty, .bool false]) w := ta_nil Tryz.underlying76 rfl w (zero76 w)

theorem zero79 (w : World) : (zeroValue 79).run Tryz.prog w = .ok (.string ByteArray.empty) w := by kernel_rfl
@[go_sem] theorem hit79 (v : Value) (w : World) : (Instr.typeAssert (.iface 79 v) 51 79 true).run Tryz.prog w = .ok (.tuple #[v, .bool true]) w := ta_hit Tryz.underlying79 rfl v w
@[go_sem] theorem miss79 (t : TypeId) (v : Value) (w : World) (h : t ≠ 79) : (Instr.typeAssert (.iface t v) 51 79 true).run Tryz.prog w = .ok (.tuple #[.string ByteArray.empty, .bool false]) w := ta_miss Tryz.underlying79 rfl t h v w (zero79 w)
@[go_sem] theorem none79 (w : World) : (Instr.typeAssert .nilIface 51 79 true).run Tryz.prog w = .ok (.tuple #[.string ByteArray.empty, .bool false]) w := ta_nil Tryz.underlying79 rfl w (zero79 w)

theorem zero73 (w : World) : (zeroValue 73).run Tryz.prog w = .ok (.string ByteArray.empty) w := by kernel_rfl
@[go_sem] theorem hit73 (v : Value) (w : World) : (Instr.typeAssert (.iface 73 v) 51 73 true).run Tryz.prog w = .ok (.tuple #[v, .bool true]) w := ta_hit Tryz.underlying73 rfl v w
@[go_sem] theorem miss73 (t : TypeId) (v : Value) (w : World) (h : t ≠ 73) : (Instr.typeAssert (.iface t v) 51 73 true).run Tryz.prog w = .ok (.tuple #[.string ByteArray.empty, .bool false]) w := ta_miss Tryz.underlying73 rfl t h v w (zero73 w)
@[go_sem] theorem none73 (w : World) : (Instr.typeAssert .nilIface 51 73 true).run Tryz.prog w = .ok (.tuple #[.string ByteArray.empty, .bool false]) w := ta_nil Tryz.underlying73 rfl w (zero73 w)

theorem zero86 (w : World) : (zeroValue 86).run Tryz.prog w = .ok (.agg #[.int .i64 0, .int .i64 0]) w := by kernel_rfl
@[go_sem] theorem hit86 (v : Value) (w : World) : (Instr.typeAssert (.iface 86 v) 51 86 true).run Tryz.prog w = .ok (.tuple #[v, .bool true]) w := ta_hit Tryz.underlying86 rfl v w
@[go_sem] theorem miss86 (t : TypeId) (v : Value) (w : World) (h : t ≠ 86) : (Instr.typeAssert (.iface t v) 51 86 true).run Tryz.prog w = .ok (.tuple #[.agg #[.int .i64 0, .int .i64 0], .bool false]) w := ta_miss Tryz.underlying86 rfl t h v w (zero86 w)
@[go_sem] theorem none86 (w : World) : (Instr.typeAssert .nilIface 51 86 true).run Tryz.prog w = .ok (.tuple #[.agg #[.int .i64 0, .int .i64 0], .bool false]) w := ta_nil Tryz.underlying86 rfl w (zero86 w)

theorem zero80 (w : World) : (zeroValue 80).run Tryz.prog w = .ok (.slice none 0 0) w := by kernel_rfl
@[go_sem] theorem hit80 (v : Value) (w : World) : (Instr.typeAssert (.iface 80 v) 51 80 true).run Tryz.prog w = .ok (.tuple #[v, .bool true]) w := ta_hit Tryz.underlying80 rfl v w
@[go_sem] theorem miss80 (t : TypeId) (v : Value) (w : World) (h : t ≠ 80) : (Instr.typeAssert (.iface t v) 51 80 true).run Tryz.prog w = .ok (.tuple #[.slice none 0 0, .bool false]) w := ta_miss Tryz.underlying80 rfl t h v w (zero80 w)
@[go_sem] theorem none80 (w : World) : (Instr.typeAssert .nilIface 51 80 true).run Tryz.prog w = .ok (.tuple #[.slice none 0 0, .bool false]) w := ta_nil Tryz.underlying80 rfl w (zero80 w)

theorem zero61 (w : World) : (zeroValue 61).run Tryz.prog w = .ok (.map none) w := by kernel_rfl
@[go_sem] theorem hit61 (v : Value) (w : World) : (Instr.typeAssert (.iface 61 v) 51 61 true).run Tryz.prog w = .ok (.tuple #[v, .bool true]) w := ta_hit Tryz.underlying61 rfl v w
@[go_sem] theorem miss61 (t : TypeId) (v : Value) (w : World) (h : t ≠ 61) : (Instr.typeAssert (.iface t v) 51 61 true).run Tryz.prog w = .ok (.tuple #[.map none, .bool false]) w := ta_miss Tryz.underlying61 rfl t h v w (zero61 w)
@[go_sem] theorem none61 (w : World) : (Instr.typeAssert .nilIface 51 61 true).run Tryz.prog w = .ok (.tuple #[.map none, .bool false]) w := ta_nil Tryz.underlying61 rfl w (zero61 w)


end Go.Proofs.YtcpijmbdibgdmaaGreatDoor
