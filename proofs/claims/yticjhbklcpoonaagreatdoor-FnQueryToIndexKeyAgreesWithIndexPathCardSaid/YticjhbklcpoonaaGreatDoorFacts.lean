/- Closed facts on this translation's types: type assertions, comparisons of interface values. -/
import Derived.Test.YticjhbklcpoonaaGreatDoorProg
import Derived.Test.YticjhbklcpoonaaGreatDoorSlices
namespace Go.Proofs.YticjhbklcpoonaaGreatDoor
open Go.RowKit Go.Gq
@[go_sem] theorem fact1 (w : World) : (Instr.typeAssert .nilIface 20 3 true).run Tryz.prog w = .ok (.tuple #[.int .i64 0, .bool false]) w := by kernel_rfl
@[go_sem] theorem fact2 (v : Value) (w : World) : (Instr.typeAssert (.iface 3 v) 20 3 true).run Tryz.prog w = .ok (.tuple #[v, .bool true]) w := by kernel_rfl
@[go_sem] theorem fact3 (v : Value) (w : World) : (Instr.typeAssert (.iface 9 v) 20 3 true).run Tryz.prog w = .ok (.tuple #[.int .i64 0, .bool false]) w := by kernel_rfl
@[go_sem] theorem fact4 (v : Value) (w : World) : (Instr.typeAssert (.iface 62 v) 20 3 true).run Tryz.prog w = .ok (.tuple #[.int .i64 0, .bool false]) w := by kernel_rfl
@[go_sem] theorem fact5 (v : Value) (w : World) : (Instr.typeAssert (.iface 113 v) 20 3 true).run Tryz.prog w = .ok (.tuple #[.int .i64 0, .bool false]) w := by kernel_rfl
@[go_sem] theorem fact6 (v : Value) (w : World) : (Instr.typeAssert (.iface 69 v) 20 3 true).run Tryz.prog w = .ok (.tuple #[.int .i64 0, .bool false]) w := by kernel_rfl
@[go_sem] theorem fact7 (v : Value) (w : World) : (Instr.typeAssert (.iface 4 v) 20 3 true).run Tryz.prog w = .ok (.tuple #[.int .i64 0, .bool false]) w := by kernel_rfl
@[go_sem] theorem fact8 (v : Value) (w : World) : (Instr.typeAssert (.iface 141 v) 20 3 true).run Tryz.prog w = .ok (.tuple #[.int .i64 0, .bool false]) w := by kernel_rfl
@[go_sem] theorem fact9 (v : Value) (w : World) : (Instr.typeAssert (.iface 154 v) 20 3 true).run Tryz.prog w = .ok (.tuple #[.int .i64 0, .bool false]) w := by kernel_rfl
@[go_sem] theorem fact10 (v : Value) (w : World) : (Instr.typeAssert (.iface 157 v) 20 3 true).run Tryz.prog w = .ok (.tuple #[.int .i64 0, .bool false]) w := by kernel_rfl
@[go_sem] theorem fact11 (v : Value) (w : World) : (Instr.typeAssert (.iface 160 v) 20 3 true).run Tryz.prog w = .ok (.tuple #[.int .i64 0, .bool false]) w := by kernel_rfl
@[go_sem] theorem fact12 (v : Value) (w : World) : (Instr.typeAssert (.iface 167 v) 20 3 true).run Tryz.prog w = .ok (.tuple #[.int .i64 0, .bool false]) w := by kernel_rfl
@[go_sem] theorem fact13 (w : World) : (Instr.typeAssert .nilIface 20 9 true).run Tryz.prog w = .ok (.tuple #[.string ⟨#[]⟩, .bool false]) w := by kernel_rfl
@[go_sem] theorem fact14 (v : Value) (w : World) : (Instr.typeAssert (.iface 3 v) 20 9 true).run Tryz.prog w = .ok (.tuple #[.string ⟨#[]⟩, .bool false]) w := by kernel_rfl
@[go_sem] theorem fact15 (v : Value) (w : World) : (Instr.typeAssert (.iface 9 v) 20 9 true).run Tryz.prog w = .ok (.tuple #[v, .bool true]) w := by kernel_rfl
@[go_sem] theorem fact16 (v : Value) (w : World) : (Instr.typeAssert (.iface 62 v) 20 9 true).run Tryz.prog w = .ok (.tuple #[.string ⟨#[]⟩, .bool false]) w := by kernel_rfl
@[go_sem] theorem fact17 (v : Value) (w : World) : (Instr.typeAssert (.iface 113 v) 20 9 true).run Tryz.prog w = .ok (.tuple #[.string ⟨#[]⟩, .bool false]) w := by kernel_rfl
@[go_sem] theorem fact18 (v : Value) (w : World) : (Instr.typeAssert (.iface 69 v) 20 9 true).run Tryz.prog w = .ok (.tuple #[.string ⟨#[]⟩, .bool false]) w := by kernel_rfl
@[go_sem] theorem fact19 (v : Value) (w : World) : (Instr.typeAssert (.iface 4 v) 20 9 true).run Tryz.prog w = .ok (.tuple #[.string ⟨#[]⟩, .bool false]) w := by kernel_rfl
@[go_sem] theorem fact20 (v : Value) (w : World) : (Instr.typeAssert (.iface 141 v) 20 9 true).run Tryz.prog w = .ok (.tuple #[.string ⟨#[]⟩, .bool false]) w := by kernel_rfl
@[go_sem] theorem fact21 (v : Value) (w : World) : (Instr.typeAssert (.iface 154 v) 20 9 true).run Tryz.prog w = .ok (.tuple #[.string ⟨#[]⟩, .bool false]) w := by kernel_rfl
@[go_sem] theorem fact22 (v : Value) (w : World) : (Instr.typeAssert (.iface 157 v) 20 9 true).run Tryz.prog w = .ok (.tuple #[.string ⟨#[]⟩, .bool false]) w := by kernel_rfl
@[go_sem] theorem fact23 (v : Value) (w : World) : (Instr.typeAssert (.iface 160 v) 20 9 true).run Tryz.prog w = .ok (.tuple #[.string ⟨#[]⟩, .bool false]) w := by kernel_rfl
@[go_sem] theorem fact24 (v : Value) (w : World) : (Instr.typeAssert (.iface 167 v) 20 9 true).run Tryz.prog w = .ok (.tuple #[.string ⟨#[]⟩, .bool false]) w := by kernel_rfl
@[go_sem] theorem fact25 (w : World) : (Instr.typeAssert .nilIface 20 62 true).run Tryz.prog w = .ok (.tuple #[.slice none 0 0, .bool false]) w := by kernel_rfl
@[go_sem] theorem fact26 (v : Value) (w : World) : (Instr.typeAssert (.iface 3 v) 20 62 true).run Tryz.prog w = .ok (.tuple #[.slice none 0 0, .bool false]) w := by kernel_rfl
@[go_sem] theorem fact27 (v : Value) (w : World) : (Instr.typeAssert (.iface 9 v) 20 62 true).run Tryz.prog w = .ok (.tuple #[.slice none 0 0, .bool false]) w := by kernel_rfl
@[go_sem] theorem fact28 (v : Value) (w : World) : (Instr.typeAssert (.iface 62 v) 20 62 true).run Tryz.prog w = .ok (.tuple #[v, .bool true]) w := by kernel_rfl
@[go_sem] theorem fact29 (v : Value) (w : World) : (Instr.typeAssert (.iface 113 v) 20 62 true).run Tryz.prog w = .ok (.tuple #[.slice none 0 0, .bool false]) w := by kernel_rfl
@[go_sem] theorem fact30 (v : Value) (w : World) : (Instr.typeAssert (.iface 69 v) 20 62 true).run Tryz.prog w = .ok (.tuple #[.slice none 0 0, .bool false]) w := by kernel_rfl
@[go_sem] theorem fact31 (v : Value) (w : World) : (Instr.typeAssert (.iface 4 v) 20 62 true).run Tryz.prog w = .ok (.tuple #[.slice none 0 0, .bool false]) w := by kernel_rfl
@[go_sem] theorem fact32 (v : Value) (w : World) : (Instr.typeAssert (.iface 141 v) 20 62 true).run Tryz.prog w = .ok (.tuple #[.slice none 0 0, .bool false]) w := by kernel_rfl
@[go_sem] theorem fact33 (v : Value) (w : World) : (Instr.typeAssert (.iface 154 v) 20 62 true).run Tryz.prog w = .ok (.tuple #[.slice none 0 0, .bool false]) w := by kernel_rfl
@[go_sem] theorem fact34 (v : Value) (w : World) : (Instr.typeAssert (.iface 157 v) 20 62 true).run Tryz.prog w = .ok (.tuple #[.slice none 0 0, .bool false]) w := by kernel_rfl
@[go_sem] theorem fact35 (v : Value) (w : World) : (Instr.typeAssert (.iface 160 v) 20 62 true).run Tryz.prog w = .ok (.tuple #[.slice none 0 0, .bool false]) w := by kernel_rfl
@[go_sem] theorem fact36 (v : Value) (w : World) : (Instr.typeAssert (.iface 167 v) 20 62 true).run Tryz.prog w = .ok (.tuple #[.slice none 0 0, .bool false]) w := by kernel_rfl
@[go_sem] theorem fact37 (w : World) : (Instr.typeAssert .nilIface 20 113 true).run Tryz.prog w = .ok (.tuple #[.map none, .bool false]) w := by kernel_rfl
@[go_sem] theorem fact38 (v : Value) (w : World) : (Instr.typeAssert (.iface 3 v) 20 113 true).run Tryz.prog w = .ok (.tuple #[.map none, .bool false]) w := by kernel_rfl
@[go_sem] theorem fact39 (v : Value) (w : World) : (Instr.typeAssert (.iface 9 v) 20 113 true).run Tryz.prog w = .ok (.tuple #[.map none, .bool false]) w := by kernel_rfl
@[go_sem] theorem fact40 (v : Value) (w : World) : (Instr.typeAssert (.iface 62 v) 20 113 true).run Tryz.prog w = .ok (.tuple #[.map none, .bool false]) w := by kernel_rfl
@[go_sem] theorem fact41 (v : Value) (w : World) : (Instr.typeAssert (.iface 113 v) 20 113 true).run Tryz.prog w = .ok (.tuple #[v, .bool true]) w := by kernel_rfl
@[go_sem] theorem fact42 (v : Value) (w : World) : (Instr.typeAssert (.iface 69 v) 20 113 true).run Tryz.prog w = .ok (.tuple #[.map none, .bool false]) w := by kernel_rfl
@[go_sem] theorem fact43 (v : Value) (w : World) : (Instr.typeAssert (.iface 4 v) 20 113 true).run Tryz.prog w = .ok (.tuple #[.map none, .bool false]) w := by kernel_rfl
@[go_sem] theorem fact44 (v : Value) (w : World) : (Instr.typeAssert (.iface 141 v) 20 113 true).run Tryz.prog w = .ok (.tuple #[.map none, .bool false]) w := by kernel_rfl
@[go_sem] theorem fact45 (v : Value) (w : World) : (Instr.typeAssert (.iface 154 v) 20 113 true).run Tryz.prog w = .ok (.tuple #[.map none, .bool false]) w := by kernel_rfl
@[go_sem] theorem fact46 (v : Value) (w : World) : (Instr.typeAssert (.iface 157 v) 20 113 true).run Tryz.prog w = .ok (.tuple #[.map none, .bool false]) w := by kernel_rfl
@[go_sem] theorem fact47 (v : Value) (w : World) : (Instr.typeAssert (.iface 160 v) 20 113 true).run Tryz.prog w = .ok (.tuple #[.map none, .bool false]) w := by kernel_rfl
@[go_sem] theorem fact48 (v : Value) (w : World) : (Instr.typeAssert (.iface 167 v) 20 113 true).run Tryz.prog w = .ok (.tuple #[.map none, .bool false]) w := by kernel_rfl
@[go_sem] theorem fact49 (w : World) : (Instr.typeAssert .nilIface 20 69 true).run Tryz.prog w = .ok (.tuple #[.float .f64 0, .bool false]) w := by kernel_rfl
@[go_sem] theorem fact50 (v : Value) (w : World) : (Instr.typeAssert (.iface 3 v) 20 69 true).run Tryz.prog w = .ok (.tuple #[.float .f64 0, .bool false]) w := by kernel_rfl
@[go_sem] theorem fact51 (v : Value) (w : World) : (Instr.typeAssert (.iface 9 v) 20 69 true).run Tryz.prog w = .ok (.tuple #[.float .f64 0, .bool false]) w := by kernel_rfl
@[go_sem] theorem fact52 (v : Value) (w : World) : (Instr.typeAssert (.iface 62 v) 20 69 true).run Tryz.prog w = .ok (.tuple #[.float .f64 0, .bool false]) w := by kernel_rfl
@[go_sem] theorem fact53 (v : Value) (w : World) : (Instr.typeAssert (.iface 113 v) 20 69 true).run Tryz.prog w = .ok (.tuple #[.float .f64 0, .bool false]) w := by kernel_rfl
@[go_sem] theorem fact54 (v : Value) (w : World) : (Instr.typeAssert (.iface 69 v) 20 69 true).run Tryz.prog w = .ok (.tuple #[v, .bool true]) w := by kernel_rfl
@[go_sem] theorem fact55 (v : Value) (w : World) : (Instr.typeAssert (.iface 4 v) 20 69 true).run Tryz.prog w = .ok (.tuple #[.float .f64 0, .bool false]) w := by kernel_rfl
@[go_sem] theorem fact56 (v : Value) (w : World) : (Instr.typeAssert (.iface 141 v) 20 69 true).run Tryz.prog w = .ok (.tuple #[.float .f64 0, .bool false]) w := by kernel_rfl
@[go_sem] theorem fact57 (v : Value) (w : World) : (Instr.typeAssert (.iface 154 v) 20 69 true).run Tryz.prog w = .ok (.tuple #[.float .f64 0, .bool false]) w := by kernel_rfl
@[go_sem] theorem fact58 (v : Value) (w : World) : (Instr.typeAssert (.iface 157 v) 20 69 true).run Tryz.prog w = .ok (.tuple #[.float .f64 0, .bool false]) w := by kernel_rfl
@[go_sem] theorem fact59 (v : Value) (w : World) : (Instr.typeAssert (.iface 160 v) 20 69 true).run Tryz.prog w = .ok (.tuple #[.float .f64 0, .bool false]) w := by kernel_rfl
@[go_sem] theorem fact60 (v : Value) (w : World) : (Instr.typeAssert (.iface 167 v) 20 69 true).run Tryz.prog w = .ok (.tuple #[.float .f64 0, .bool false]) w := by kernel_rfl
@[go_sem] theorem fact61 (w : World) : (Instr.typeAssert .nilIface 20 167 true).run Tryz.prog w = .ok (.tuple #[.pointer none, .bool false]) w := by kernel_rfl
@[go_sem] theorem fact62 (v : Value) (w : World) : (Instr.typeAssert (.iface 3 v) 20 167 true).run Tryz.prog w = .ok (.tuple #[.pointer none, .bool false]) w := by kernel_rfl
@[go_sem] theorem fact63 (v : Value) (w : World) : (Instr.typeAssert (.iface 9 v) 20 167 true).run Tryz.prog w = .ok (.tuple #[.pointer none, .bool false]) w := by kernel_rfl
@[go_sem] theorem fact64 (v : Value) (w : World) : (Instr.typeAssert (.iface 62 v) 20 167 true).run Tryz.prog w = .ok (.tuple #[.pointer none, .bool false]) w := by kernel_rfl
@[go_sem] theorem fact65 (v : Value) (w : World) : (Instr.typeAssert (.iface 113 v) 20 167 true).run Tryz.prog w = .ok (.tuple #[.pointer none, .bool false]) w := by kernel_rfl
@[go_sem] theorem fact66 (v : Value) (w : World) : (Instr.typeAssert (.iface 69 v) 20 167 true).run Tryz.prog w = .ok (.tuple #[.pointer none, .bool false]) w := by kernel_rfl
@[go_sem] theorem fact67 (v : Value) (w : World) : (Instr.typeAssert (.iface 4 v) 20 167 true).run Tryz.prog w = .ok (.tuple #[.pointer none, .bool false]) w := by kernel_rfl
@[go_sem] theorem fact68 (v : Value) (w : World) : (Instr.typeAssert (.iface 141 v) 20 167 true).run Tryz.prog w = .ok (.tuple #[.pointer none, .bool false]) w := by kernel_rfl
@[go_sem] theorem fact69 (v : Value) (w : World) : (Instr.typeAssert (.iface 154 v) 20 167 true).run Tryz.prog w = .ok (.tuple #[.pointer none, .bool false]) w := by kernel_rfl
@[go_sem] theorem fact70 (v : Value) (w : World) : (Instr.typeAssert (.iface 157 v) 20 167 true).run Tryz.prog w = .ok (.tuple #[.pointer none, .bool false]) w := by kernel_rfl
@[go_sem] theorem fact71 (v : Value) (w : World) : (Instr.typeAssert (.iface 160 v) 20 167 true).run Tryz.prog w = .ok (.tuple #[.pointer none, .bool false]) w := by kernel_rfl
@[go_sem] theorem fact72 (v : Value) (w : World) : (Instr.typeAssert (.iface 167 v) 20 167 true).run Tryz.prog w = .ok (.tuple #[v, .bool true]) w := by kernel_rfl
@[go_sem] theorem fact73 (w : World) : (Instr.typeAssert .nilIface 20 160 true).run Tryz.prog w = .ok (.tuple #[.string ⟨#[]⟩, .bool false]) w := by kernel_rfl
@[go_sem] theorem fact74 (v : Value) (w : World) : (Instr.typeAssert (.iface 3 v) 20 160 true).run Tryz.prog w = .ok (.tuple #[.string ⟨#[]⟩, .bool false]) w := by kernel_rfl
@[go_sem] theorem fact75 (v : Value) (w : World) : (Instr.typeAssert (.iface 9 v) 20 160 true).run Tryz.prog w = .ok (.tuple #[.string ⟨#[]⟩, .bool false]) w := by kernel_rfl
@[go_sem] theorem fact76 (v : Value) (w : World) : (Instr.typeAssert (.iface 62 v) 20 160 true).run Tryz.prog w = .ok (.tuple #[.string ⟨#[]⟩, .bool false]) w := by kernel_rfl
@[go_sem] theorem fact77 (v : Value) (w : World) : (Instr.typeAssert (.iface 113 v) 20 160 true).run Tryz.prog w = .ok (.tuple #[.string ⟨#[]⟩, .bool false]) w := by kernel_rfl
@[go_sem] theorem fact78 (v : Value) (w : World) : (Instr.typeAssert (.iface 69 v) 20 160 true).run Tryz.prog w = .ok (.tuple #[.string ⟨#[]⟩, .bool false]) w := by kernel_rfl
@[go_sem] theorem fact79 (v : Value) (w : World) : (Instr.typeAssert (.iface 4 v) 20 160 true).run Tryz.prog w = .ok (.tuple #[.string ⟨#[]⟩, .bool false]) w := by kernel_rfl
@[go_sem] theorem fact80 (v : Value) (w : World) : (Instr.typeAssert (.iface 141 v) 20 160 true).run Tryz.prog w = .ok (.tuple #[.string ⟨#[]⟩, .bool false]) w := by kernel_rfl
@[go_sem] theorem fact81 (v : Value) (w : World) : (Instr.typeAssert (.iface 154 v) 20 160 true).run Tryz.prog w = .ok (.tuple #[.string ⟨#[]⟩, .bool false]) w := by kernel_rfl
@[go_sem] theorem fact82 (v : Value) (w : World) : (Instr.typeAssert (.iface 157 v) 20 160 true).run Tryz.prog w = .ok (.tuple #[.string ⟨#[]⟩, .bool false]) w := by kernel_rfl
@[go_sem] theorem fact83 (v : Value) (w : World) : (Instr.typeAssert (.iface 160 v) 20 160 true).run Tryz.prog w = .ok (.tuple #[v, .bool true]) w := by kernel_rfl
@[go_sem] theorem fact84 (v : Value) (w : World) : (Instr.typeAssert (.iface 167 v) 20 160 true).run Tryz.prog w = .ok (.tuple #[.string ⟨#[]⟩, .bool false]) w := by kernel_rfl
@[go_sem] theorem fact85 (w : World) : (Instr.typeAssert .nilIface 20 4 true).run Tryz.prog w = .ok (.tuple #[.bool false, .bool false]) w := by kernel_rfl
@[go_sem] theorem fact86 (v : Value) (w : World) : (Instr.typeAssert (.iface 3 v) 20 4 true).run Tryz.prog w = .ok (.tuple #[.bool false, .bool false]) w := by kernel_rfl
@[go_sem] theorem fact87 (v : Value) (w : World) : (Instr.typeAssert (.iface 9 v) 20 4 true).run Tryz.prog w = .ok (.tuple #[.bool false, .bool false]) w := by kernel_rfl
@[go_sem] theorem fact88 (v : Value) (w : World) : (Instr.typeAssert (.iface 62 v) 20 4 true).run Tryz.prog w = .ok (.tuple #[.bool false, .bool false]) w := by kernel_rfl
@[go_sem] theorem fact89 (v : Value) (w : World) : (Instr.typeAssert (.iface 113 v) 20 4 true).run Tryz.prog w = .ok (.tuple #[.bool false, .bool false]) w := by kernel_rfl
@[go_sem] theorem fact90 (v : Value) (w : World) : (Instr.typeAssert (.iface 69 v) 20 4 true).run Tryz.prog w = .ok (.tuple #[.bool false, .bool false]) w := by kernel_rfl
@[go_sem] theorem fact91 (v : Value) (w : World) : (Instr.typeAssert (.iface 4 v) 20 4 true).run Tryz.prog w = .ok (.tuple #[v, .bool true]) w := by kernel_rfl
@[go_sem] theorem fact92 (v : Value) (w : World) : (Instr.typeAssert (.iface 141 v) 20 4 true).run Tryz.prog w = .ok (.tuple #[.bool false, .bool false]) w := by kernel_rfl
@[go_sem] theorem fact93 (v : Value) (w : World) : (Instr.typeAssert (.iface 154 v) 20 4 true).run Tryz.prog w = .ok (.tuple #[.bool false, .bool false]) w := by kernel_rfl
@[go_sem] theorem fact94 (v : Value) (w : World) : (Instr.typeAssert (.iface 157 v) 20 4 true).run Tryz.prog w = .ok (.tuple #[.bool false, .bool false]) w := by kernel_rfl
@[go_sem] theorem fact95 (v : Value) (w : World) : (Instr.typeAssert (.iface 160 v) 20 4 true).run Tryz.prog w = .ok (.tuple #[.bool false, .bool false]) w := by kernel_rfl
@[go_sem] theorem fact96 (v : Value) (w : World) : (Instr.typeAssert (.iface 167 v) 20 4 true).run Tryz.prog w = .ok (.tuple #[.bool false, .bool false]) w := by kernel_rfl
@[go_sem] theorem fact97 (w : World) : (Instr.typeAssert .nilIface 128 141 true).run Tryz.prog w = .ok (.tuple #[.pointer none, .bool false]) w := by kernel_rfl
@[go_sem] theorem fact98 (v : Value) (w : World) : (Instr.typeAssert (.iface 141 v) 128 141 true).run Tryz.prog w = .ok (.tuple #[v, .bool true]) w := by kernel_rfl
@[go_sem] theorem fact99 (v : Value) (w : World) : (Instr.typeAssert (.iface 154 v) 128 141 true).run Tryz.prog w = .ok (.tuple #[.pointer none, .bool false]) w := by kernel_rfl
@[go_sem] theorem fact100 (w : World) : (Instr.typeAssert .nilIface 128 154 true).run Tryz.prog w = .ok (.tuple #[.pointer none, .bool false]) w := by kernel_rfl
@[go_sem] theorem fact101 (v : Value) (w : World) : (Instr.typeAssert (.iface 141 v) 128 154 true).run Tryz.prog w = .ok (.tuple #[.pointer none, .bool false]) w := by kernel_rfl
@[go_sem] theorem fact102 (v : Value) (w : World) : (Instr.typeAssert (.iface 154 v) 128 154 true).run Tryz.prog w = .ok (.tuple #[v, .bool true]) w := by kernel_rfl
@[go_sem] theorem fact103 (v : Value) (w : World) : (Instr.typeAssert (.iface 3 v) 20 128 true).run Tryz.prog w = .ok (.tuple #[.nilIface, .bool false]) w := run_typeAssert_lacksB Tryz.underlying128 (by kernel_rfl) (by kernel_rfl) v 20 w
@[go_sem] theorem fact104 (v : Value) (w : World) : (Instr.typeAssert (.iface 9 v) 20 128 true).run Tryz.prog w = .ok (.tuple #[.nilIface, .bool false]) w := run_typeAssert_lacksB Tryz.underlying128 (by kernel_rfl) (by kernel_rfl) v 20 w
@[go_sem] theorem fact105 (v : Value) (w : World) : (Instr.typeAssert (.iface 62 v) 20 128 true).run Tryz.prog w = .ok (.tuple #[.nilIface, .bool false]) w := run_typeAssert_lacksB Tryz.underlying128 (by kernel_rfl) (by kernel_rfl) v 20 w
@[go_sem] theorem fact106 (v : Value) (w : World) : (Instr.typeAssert (.iface 113 v) 20 128 true).run Tryz.prog w = .ok (.tuple #[.nilIface, .bool false]) w := run_typeAssert_lacksB Tryz.underlying128 (by kernel_rfl) (by kernel_rfl) v 20 w
@[go_sem] theorem fact107 (v : Value) (w : World) : (Instr.typeAssert (.iface 69 v) 20 128 true).run Tryz.prog w = .ok (.tuple #[.nilIface, .bool false]) w := run_typeAssert_lacksB Tryz.underlying128 (by kernel_rfl) (by kernel_rfl) v 20 w
@[go_sem] theorem fact108 (v : Value) (w : World) : (Instr.typeAssert (.iface 4 v) 20 128 true).run Tryz.prog w = .ok (.tuple #[.nilIface, .bool false]) w := run_typeAssert_lacksB Tryz.underlying128 (by kernel_rfl) (by kernel_rfl) v 20 w
@[go_sem] theorem fact109 (v : Value) (w : World) : (Instr.typeAssert (.iface 141 v) 20 128 true).run Tryz.prog w = .ok (.tuple #[.iface 141 v, .bool true]) w := run_typeAssert_hasB Tryz.underlying128 (by kernel_rfl) v 20 w
@[go_sem] theorem fact110 (v : Value) (w : World) : (Instr.typeAssert (.iface 154 v) 20 128 true).run Tryz.prog w = .ok (.tuple #[.iface 154 v, .bool true]) w := run_typeAssert_hasB Tryz.underlying128 (by kernel_rfl) v 20 w
@[go_sem] theorem fact111 (v : Value) (w : World) : (Instr.typeAssert (.iface 157 v) 20 128 true).run Tryz.prog w = .ok (.tuple #[.iface 157 v, .bool true]) w := run_typeAssert_hasB Tryz.underlying128 (by kernel_rfl) v 20 w
@[go_sem] theorem fact112 (v : Value) (w : World) : (Instr.typeAssert (.iface 160 v) 20 128 true).run Tryz.prog w = .ok (.tuple #[.nilIface, .bool false]) w := run_typeAssert_lacksB Tryz.underlying128 (by kernel_rfl) (by kernel_rfl) v 20 w
@[go_sem] theorem fact113 (v : Value) (w : World) : (Instr.typeAssert (.iface 167 v) 20 128 true).run Tryz.prog w = .ok (.tuple #[.nilIface, .bool false]) w := run_typeAssert_lacksB Tryz.underlying128 (by kernel_rfl) (by kernel_rfl) v 20 w
@[go_sem] theorem fact114 (v : Value) (w : World) : (Instr.typeAssert (.iface 141 v) 20 128 true).run Tryz.prog w = .ok (.tuple #[.iface 141 v, .bool true]) w := run_typeAssert_hasB Tryz.underlying128 (by kernel_rfl) v 20 w
@[go_sem] theorem fact115 (v : Value) (w : World) : (Instr.typeAssert (.iface 154 v) 20 128 true).run Tryz.prog w = .ok (.tuple #[.iface 154 v, .bool true]) w := run_typeAssert_hasB Tryz.underlying128 (by kernel_rfl) v 20 w
@[go_sem] theorem fact116 (w : World) : (Instr.typeAssert .nilIface 20 128 true).run Tryz.prog w = .ok (.tuple #[.nilIface, .bool false]) w := by kernel_rfl
@[go_sem] theorem fact117 (v : Value) (w : World) : (binOp .eql 20 (.iface 3 v) .nilIface).run Tryz.prog w = .ok (.bool false) w := by kernel_rfl
@[go_sem] theorem fact118 (v : Value) (w : World) : (binOp .eql 20 (.iface 9 v) .nilIface).run Tryz.prog w = .ok (.bool false) w := by kernel_rfl
@[go_sem] theorem fact119 (v : Value) (w : World) : (binOp .eql 20 (.iface 62 v) .nilIface).run Tryz.prog w = .ok (.bool false) w := by kernel_rfl
@[go_sem] theorem fact120 (v : Value) (w : World) : (binOp .eql 20 (.iface 113 v) .nilIface).run Tryz.prog w = .ok (.bool false) w := by kernel_rfl
@[go_sem] theorem fact121 (v : Value) (w : World) : (binOp .eql 20 (.iface 69 v) .nilIface).run Tryz.prog w = .ok (.bool false) w := by kernel_rfl
@[go_sem] theorem fact122 (v : Value) (w : World) : (binOp .eql 20 (.iface 4 v) .nilIface).run Tryz.prog w = .ok (.bool false) w := by kernel_rfl
@[go_sem] theorem fact123 (v : Value) (w : World) : (binOp .eql 20 (.iface 141 v) .nilIface).run Tryz.prog w = .ok (.bool false) w := by kernel_rfl
@[go_sem] theorem fact124 (v : Value) (w : World) : (binOp .eql 20 (.iface 154 v) .nilIface).run Tryz.prog w = .ok (.bool false) w := by kernel_rfl
@[go_sem] theorem fact125 (v : Value) (w : World) : (binOp .eql 20 (.iface 157 v) .nilIface).run Tryz.prog w = .ok (.bool false) w := by kernel_rfl
@[go_sem] theorem fact126 (v : Value) (w : World) : (binOp .eql 20 (.iface 160 v) .nilIface).run Tryz.prog w = .ok (.bool false) w := by kernel_rfl
@[go_sem] theorem fact127 (v : Value) (w : World) : (binOp .eql 20 (.iface 167 v) .nilIface).run Tryz.prog w = .ok (.bool false) w := by kernel_rfl
@[go_sem] theorem fact128 (w : World) : (binOp .eql 20 .nilIface .nilIface).run Tryz.prog w = .ok (.bool true) w := by kernel_rfl
@[go_sem] theorem fact129 (v : Value) (w : World) : (binOp .eql 128 (.iface 141 v) .nilIface).run Tryz.prog w = .ok (.bool false) w := by kernel_rfl
@[go_sem] theorem fact130 (v : Value) (w : World) : (binOp .eql 128 (.iface 154 v) .nilIface).run Tryz.prog w = .ok (.bool false) w := by kernel_rfl
@[go_sem] theorem fact131 (w : World) : (binOp .eql 128 .nilIface .nilIface).run Tryz.prog w = .ok (.bool true) w := by kernel_rfl
@[go_sem] theorem fact132 (v : Value) (w : World) : (binOp .neq 20 (.iface 3 v) .nilIface).run Tryz.prog w = .ok (.bool true) w := by kernel_rfl
@[go_sem] theorem fact133 (v : Value) (w : World) : (binOp .neq 20 (.iface 9 v) .nilIface).run Tryz.prog w = .ok (.bool true) w := by kernel_rfl
@[go_sem] theorem fact134 (v : Value) (w : World) : (binOp .neq 20 (.iface 62 v) .nilIface).run Tryz.prog w = .ok (.bool true) w := by kernel_rfl
@[go_sem] theorem fact135 (v : Value) (w : World) : (binOp .neq 20 (.iface 113 v) .nilIface).run Tryz.prog w = .ok (.bool true) w := by kernel_rfl
@[go_sem] theorem fact136 (v : Value) (w : World) : (binOp .neq 20 (.iface 69 v) .nilIface).run Tryz.prog w = .ok (.bool true) w := by kernel_rfl
@[go_sem] theorem fact137 (v : Value) (w : World) : (binOp .neq 20 (.iface 4 v) .nilIface).run Tryz.prog w = .ok (.bool true) w := by kernel_rfl
@[go_sem] theorem fact138 (v : Value) (w : World) : (binOp .neq 20 (.iface 141 v) .nilIface).run Tryz.prog w = .ok (.bool true) w := by kernel_rfl
@[go_sem] theorem fact139 (v : Value) (w : World) : (binOp .neq 20 (.iface 154 v) .nilIface).run Tryz.prog w = .ok (.bool true) w := by kernel_rfl
@[go_sem] theorem fact140 (v : Value) (w : World) : (binOp .neq 20 (.iface 157 v) .nilIface).run Tryz.prog w = .ok (.bool true) w := by kernel_rfl
@[go_sem] theorem fact141 (v : Value) (w : World) : (binOp .neq 20 (.iface 160 v) .nilIface).run Tryz.prog w = .ok (.bool true) w := by kernel_rfl
@[go_sem] theorem fact142 (v : Value) (w : World) : (binOp .neq 20 (.iface 167 v) .nilIface).run Tryz.prog w = .ok (.bool true) w := by kernel_rfl
@[go_sem] theorem fact143 (w : World) : (binOp .neq 20 .nilIface .nilIface).run Tryz.prog w = .ok (.bool false) w := by kernel_rfl
@[go_sem] theorem fact144 (v : Value) (w : World) : (binOp .neq 128 (.iface 141 v) .nilIface).run Tryz.prog w = .ok (.bool true) w := by kernel_rfl
@[go_sem] theorem fact145 (v : Value) (w : World) : (binOp .neq 128 (.iface 154 v) .nilIface).run Tryz.prog w = .ok (.bool true) w := by kernel_rfl
@[go_sem] theorem fact146 (w : World) : (binOp .neq 128 .nilIface .nilIface).run Tryz.prog w = .ok (.bool false) w := by kernel_rfl
@[go_sem] theorem fact147 (m : Option Nat) (w : World) : (binOp .eql 113 (.map m) (.map none)).run Tryz.prog w = .ok (.bool m.isNone) w := eql_map_nil w 113 9 20 m Tryz.underlying113
@[go_sem] theorem fact148 (m : Option Nat) (w : World) : (binOp .neq 113 (.map m) (.map none)).run Tryz.prog w = .ok (.bool (!m.isNone)) w := run_neq_map_nil w 113 9 20 m Tryz.underlying113
@[go_sem] theorem fact149 (a : Option Addr) (l c : Nat) (w : World) : (binOp .eql 62 (.slice a l c) (.slice none 0 0)).run Tryz.prog w = .ok (.bool a.isNone) w := eql_slice_nil w 62 20 a l c Tryz.underlying62
@[go_sem] theorem fact150 (a : Option Addr) (l c : Nat) (w : World) : (binOp .neq 62 (.slice a l c) (.slice none 0 0)).run Tryz.prog w = .ok (.bool (!a.isNone)) w := run_neq_slice_nil w 62 20 a l c Tryz.underlying62
@[go_sem] theorem fact151 (a : Option Addr) (l c : Nat) (w : World) : (binOp .eql 64 (.slice a l c) (.slice none 0 0)).run Tryz.prog w = .ok (.bool a.isNone) w := eql_slice_nil w 64 3 a l c Tryz.underlying64
@[go_sem] theorem fact152 (a : Option Addr) (l c : Nat) (w : World) : (binOp .neq 64 (.slice a l c) (.slice none 0 0)).run Tryz.prog w = .ok (.bool (!a.isNone)) w := run_neq_slice_nil w 64 3 a l c Tryz.underlying64
@[go_sem] theorem fact153 (a : Option Addr) (l c : Nat) (w : World) : (binOp .eql 29 (.slice a l c) (.slice none 0 0)).run Tryz.prog w = .ok (.bool a.isNone) w := eql_slice_nil w 29 9 a l c Tryz.underlying29
@[go_sem] theorem fact154 (a : Option Addr) (l c : Nat) (w : World) : (binOp .neq 29 (.slice a l c) (.slice none 0 0)).run Tryz.prog w = .ok (.bool (!a.isNone)) w := run_neq_slice_nil w 29 9 a l c Tryz.underlying29
@[go_sem] theorem fact155 (a : Option Addr) (l c : Nat) (w : World) : (binOp .eql 100 (.slice a l c) (.slice none 0 0)).run Tryz.prog w = .ok (.bool a.isNone) w := eql_slice_nil w 100 5 a l c Tryz.underlying100
@[go_sem] theorem fact156 (a : Option Addr) (l c : Nat) (w : World) : (binOp .neq 100 (.slice a l c) (.slice none 0 0)).run Tryz.prog w = .ok (.bool (!a.isNone)) w := run_neq_slice_nil w 100 5 a l c Tryz.underlying100
end Go.Proofs.YticjhbklcpoonaaGreatDoor
