/- Closed facts on this translation's types: type assertions, comparisons of interface values. -/
import Derived.Test.YtdlmdmpkjhnbmaaGreatDoorProg
import Derived.Test.YtdlmdmpkjhnbmaaGreatDoorSlices
namespace Go.Proofs.YtdlmdmpkjhnbmaaGreatDoor
open Go.RowKit Go.Gq
@[go_sem] theorem fact1 (w : World) : (Instr.typeAssert .nilIface 20 3 true).run Tryz.prog w = .ok (.tuple #[.int .i64 0, .bool false]) w := by kernel_rfl
@[go_sem] theorem fact2 (v : Value) (w : World) : (Instr.typeAssert (.iface 3 v) 20 3 true).run Tryz.prog w = .ok (.tuple #[v, .bool true]) w := by kernel_rfl
@[go_sem] theorem fact3 (v : Value) (w : World) : (Instr.typeAssert (.iface 9 v) 20 3 true).run Tryz.prog w = .ok (.tuple #[.int .i64 0, .bool false]) w := by kernel_rfl
@[go_sem] theorem fact4 (v : Value) (w : World) : (Instr.typeAssert (.iface 92 v) 20 3 true).run Tryz.prog w = .ok (.tuple #[.int .i64 0, .bool false]) w := by kernel_rfl
@[go_sem] theorem fact5 (v : Value) (w : World) : (Instr.typeAssert (.iface 84 v) 20 3 true).run Tryz.prog w = .ok (.tuple #[.int .i64 0, .bool false]) w := by kernel_rfl
@[go_sem] theorem fact6 (v : Value) (w : World) : (Instr.typeAssert (.iface 98 v) 20 3 true).run Tryz.prog w = .ok (.tuple #[.int .i64 0, .bool false]) w := by kernel_rfl
@[go_sem] theorem fact7 (v : Value) (w : World) : (Instr.typeAssert (.iface 130 v) 20 3 true).run Tryz.prog w = .ok (.tuple #[.int .i64 0, .bool false]) w := by kernel_rfl
@[go_sem] theorem fact8 (v : Value) (w : World) : (Instr.typeAssert (.iface 4 v) 20 3 true).run Tryz.prog w = .ok (.tuple #[.int .i64 0, .bool false]) w := by kernel_rfl
@[go_sem] theorem fact9 (v : Value) (w : World) : (Instr.typeAssert (.iface 124 v) 20 3 true).run Tryz.prog w = .ok (.tuple #[.int .i64 0, .bool false]) w := by kernel_rfl
@[go_sem] theorem fact10 (v : Value) (w : World) : (Instr.typeAssert (.iface 121 v) 20 3 true).run Tryz.prog w = .ok (.tuple #[.int .i64 0, .bool false]) w := by kernel_rfl
@[go_sem] theorem fact11 (v : Value) (w : World) : (Instr.typeAssert (.iface 108 v) 20 3 true).run Tryz.prog w = .ok (.tuple #[.int .i64 0, .bool false]) w := by kernel_rfl
@[go_sem] theorem fact12 (v : Value) (w : World) : (Instr.typeAssert (.iface 132 v) 20 3 true).run Tryz.prog w = .ok (.tuple #[.int .i64 0, .bool false]) w := by kernel_rfl
@[go_sem] theorem fact13 (v : Value) (w : World) : (Instr.typeAssert (.iface 131 v) 20 3 true).run Tryz.prog w = .ok (.tuple #[.int .i64 0, .bool false]) w := by kernel_rfl
@[go_sem] theorem fact14 (w : World) : (Instr.typeAssert .nilIface 20 9 true).run Tryz.prog w = .ok (.tuple #[.string ⟨#[]⟩, .bool false]) w := by kernel_rfl
@[go_sem] theorem fact15 (v : Value) (w : World) : (Instr.typeAssert (.iface 3 v) 20 9 true).run Tryz.prog w = .ok (.tuple #[.string ⟨#[]⟩, .bool false]) w := by kernel_rfl
@[go_sem] theorem fact16 (v : Value) (w : World) : (Instr.typeAssert (.iface 9 v) 20 9 true).run Tryz.prog w = .ok (.tuple #[v, .bool true]) w := by kernel_rfl
@[go_sem] theorem fact17 (v : Value) (w : World) : (Instr.typeAssert (.iface 92 v) 20 9 true).run Tryz.prog w = .ok (.tuple #[.string ⟨#[]⟩, .bool false]) w := by kernel_rfl
@[go_sem] theorem fact18 (v : Value) (w : World) : (Instr.typeAssert (.iface 84 v) 20 9 true).run Tryz.prog w = .ok (.tuple #[.string ⟨#[]⟩, .bool false]) w := by kernel_rfl
@[go_sem] theorem fact19 (v : Value) (w : World) : (Instr.typeAssert (.iface 98 v) 20 9 true).run Tryz.prog w = .ok (.tuple #[.string ⟨#[]⟩, .bool false]) w := by kernel_rfl
@[go_sem] theorem fact20 (v : Value) (w : World) : (Instr.typeAssert (.iface 130 v) 20 9 true).run Tryz.prog w = .ok (.tuple #[.string ⟨#[]⟩, .bool false]) w := by kernel_rfl
@[go_sem] theorem fact21 (v : Value) (w : World) : (Instr.typeAssert (.iface 4 v) 20 9 true).run Tryz.prog w = .ok (.tuple #[.string ⟨#[]⟩, .bool false]) w := by kernel_rfl
@[go_sem] theorem fact22 (v : Value) (w : World) : (Instr.typeAssert (.iface 124 v) 20 9 true).run Tryz.prog w = .ok (.tuple #[.string ⟨#[]⟩, .bool false]) w := by kernel_rfl
@[go_sem] theorem fact23 (v : Value) (w : World) : (Instr.typeAssert (.iface 121 v) 20 9 true).run Tryz.prog w = .ok (.tuple #[.string ⟨#[]⟩, .bool false]) w := by kernel_rfl
@[go_sem] theorem fact24 (v : Value) (w : World) : (Instr.typeAssert (.iface 108 v) 20 9 true).run Tryz.prog w = .ok (.tuple #[.string ⟨#[]⟩, .bool false]) w := by kernel_rfl
@[go_sem] theorem fact25 (v : Value) (w : World) : (Instr.typeAssert (.iface 132 v) 20 9 true).run Tryz.prog w = .ok (.tuple #[.string ⟨#[]⟩, .bool false]) w := by kernel_rfl
@[go_sem] theorem fact26 (v : Value) (w : World) : (Instr.typeAssert (.iface 131 v) 20 9 true).run Tryz.prog w = .ok (.tuple #[.string ⟨#[]⟩, .bool false]) w := by kernel_rfl
@[go_sem] theorem fact27 (w : World) : (Instr.typeAssert .nilIface 20 92 true).run Tryz.prog w = .ok (.tuple #[.slice none 0 0, .bool false]) w := by kernel_rfl
@[go_sem] theorem fact28 (v : Value) (w : World) : (Instr.typeAssert (.iface 3 v) 20 92 true).run Tryz.prog w = .ok (.tuple #[.slice none 0 0, .bool false]) w := by kernel_rfl
@[go_sem] theorem fact29 (v : Value) (w : World) : (Instr.typeAssert (.iface 9 v) 20 92 true).run Tryz.prog w = .ok (.tuple #[.slice none 0 0, .bool false]) w := by kernel_rfl
@[go_sem] theorem fact30 (v : Value) (w : World) : (Instr.typeAssert (.iface 92 v) 20 92 true).run Tryz.prog w = .ok (.tuple #[v, .bool true]) w := by kernel_rfl
@[go_sem] theorem fact31 (v : Value) (w : World) : (Instr.typeAssert (.iface 84 v) 20 92 true).run Tryz.prog w = .ok (.tuple #[.slice none 0 0, .bool false]) w := by kernel_rfl
@[go_sem] theorem fact32 (v : Value) (w : World) : (Instr.typeAssert (.iface 98 v) 20 92 true).run Tryz.prog w = .ok (.tuple #[.slice none 0 0, .bool false]) w := by kernel_rfl
@[go_sem] theorem fact33 (v : Value) (w : World) : (Instr.typeAssert (.iface 130 v) 20 92 true).run Tryz.prog w = .ok (.tuple #[.slice none 0 0, .bool false]) w := by kernel_rfl
@[go_sem] theorem fact34 (v : Value) (w : World) : (Instr.typeAssert (.iface 4 v) 20 92 true).run Tryz.prog w = .ok (.tuple #[.slice none 0 0, .bool false]) w := by kernel_rfl
@[go_sem] theorem fact35 (v : Value) (w : World) : (Instr.typeAssert (.iface 124 v) 20 92 true).run Tryz.prog w = .ok (.tuple #[.slice none 0 0, .bool false]) w := by kernel_rfl
@[go_sem] theorem fact36 (v : Value) (w : World) : (Instr.typeAssert (.iface 121 v) 20 92 true).run Tryz.prog w = .ok (.tuple #[.slice none 0 0, .bool false]) w := by kernel_rfl
@[go_sem] theorem fact37 (v : Value) (w : World) : (Instr.typeAssert (.iface 108 v) 20 92 true).run Tryz.prog w = .ok (.tuple #[.slice none 0 0, .bool false]) w := by kernel_rfl
@[go_sem] theorem fact38 (v : Value) (w : World) : (Instr.typeAssert (.iface 132 v) 20 92 true).run Tryz.prog w = .ok (.tuple #[.slice none 0 0, .bool false]) w := by kernel_rfl
@[go_sem] theorem fact39 (v : Value) (w : World) : (Instr.typeAssert (.iface 131 v) 20 92 true).run Tryz.prog w = .ok (.tuple #[.slice none 0 0, .bool false]) w := by kernel_rfl
@[go_sem] theorem fact40 (w : World) : (Instr.typeAssert .nilIface 20 84 true).run Tryz.prog w = .ok (.tuple #[.map none, .bool false]) w := by kernel_rfl
@[go_sem] theorem fact41 (v : Value) (w : World) : (Instr.typeAssert (.iface 3 v) 20 84 true).run Tryz.prog w = .ok (.tuple #[.map none, .bool false]) w := by kernel_rfl
@[go_sem] theorem fact42 (v : Value) (w : World) : (Instr.typeAssert (.iface 9 v) 20 84 true).run Tryz.prog w = .ok (.tuple #[.map none, .bool false]) w := by kernel_rfl
@[go_sem] theorem fact43 (v : Value) (w : World) : (Instr.typeAssert (.iface 92 v) 20 84 true).run Tryz.prog w = .ok (.tuple #[.map none, .bool false]) w := by kernel_rfl
@[go_sem] theorem fact44 (v : Value) (w : World) : (Instr.typeAssert (.iface 84 v) 20 84 true).run Tryz.prog w = .ok (.tuple #[v, .bool true]) w := by kernel_rfl
@[go_sem] theorem fact45 (v : Value) (w : World) : (Instr.typeAssert (.iface 98 v) 20 84 true).run Tryz.prog w = .ok (.tuple #[.map none, .bool false]) w := by kernel_rfl
@[go_sem] theorem fact46 (v : Value) (w : World) : (Instr.typeAssert (.iface 130 v) 20 84 true).run Tryz.prog w = .ok (.tuple #[.map none, .bool false]) w := by kernel_rfl
@[go_sem] theorem fact47 (v : Value) (w : World) : (Instr.typeAssert (.iface 4 v) 20 84 true).run Tryz.prog w = .ok (.tuple #[.map none, .bool false]) w := by kernel_rfl
@[go_sem] theorem fact48 (v : Value) (w : World) : (Instr.typeAssert (.iface 124 v) 20 84 true).run Tryz.prog w = .ok (.tuple #[.map none, .bool false]) w := by kernel_rfl
@[go_sem] theorem fact49 (v : Value) (w : World) : (Instr.typeAssert (.iface 121 v) 20 84 true).run Tryz.prog w = .ok (.tuple #[.map none, .bool false]) w := by kernel_rfl
@[go_sem] theorem fact50 (v : Value) (w : World) : (Instr.typeAssert (.iface 108 v) 20 84 true).run Tryz.prog w = .ok (.tuple #[.map none, .bool false]) w := by kernel_rfl
@[go_sem] theorem fact51 (v : Value) (w : World) : (Instr.typeAssert (.iface 132 v) 20 84 true).run Tryz.prog w = .ok (.tuple #[.map none, .bool false]) w := by kernel_rfl
@[go_sem] theorem fact52 (v : Value) (w : World) : (Instr.typeAssert (.iface 131 v) 20 84 true).run Tryz.prog w = .ok (.tuple #[.map none, .bool false]) w := by kernel_rfl
@[go_sem] theorem fact53 (w : World) : (Instr.typeAssert .nilIface 20 98 true).run Tryz.prog w = .ok (.tuple #[.agg #[], .bool false]) w := by kernel_rfl
@[go_sem] theorem fact54 (v : Value) (w : World) : (Instr.typeAssert (.iface 3 v) 20 98 true).run Tryz.prog w = .ok (.tuple #[.agg #[], .bool false]) w := by kernel_rfl
@[go_sem] theorem fact55 (v : Value) (w : World) : (Instr.typeAssert (.iface 9 v) 20 98 true).run Tryz.prog w = .ok (.tuple #[.agg #[], .bool false]) w := by kernel_rfl
@[go_sem] theorem fact56 (v : Value) (w : World) : (Instr.typeAssert (.iface 92 v) 20 98 true).run Tryz.prog w = .ok (.tuple #[.agg #[], .bool false]) w := by kernel_rfl
@[go_sem] theorem fact57 (v : Value) (w : World) : (Instr.typeAssert (.iface 84 v) 20 98 true).run Tryz.prog w = .ok (.tuple #[.agg #[], .bool false]) w := by kernel_rfl
@[go_sem] theorem fact58 (v : Value) (w : World) : (Instr.typeAssert (.iface 98 v) 20 98 true).run Tryz.prog w = .ok (.tuple #[v, .bool true]) w := by kernel_rfl
@[go_sem] theorem fact59 (v : Value) (w : World) : (Instr.typeAssert (.iface 130 v) 20 98 true).run Tryz.prog w = .ok (.tuple #[.agg #[], .bool false]) w := by kernel_rfl
@[go_sem] theorem fact60 (v : Value) (w : World) : (Instr.typeAssert (.iface 4 v) 20 98 true).run Tryz.prog w = .ok (.tuple #[.agg #[], .bool false]) w := by kernel_rfl
@[go_sem] theorem fact61 (v : Value) (w : World) : (Instr.typeAssert (.iface 124 v) 20 98 true).run Tryz.prog w = .ok (.tuple #[.agg #[], .bool false]) w := by kernel_rfl
@[go_sem] theorem fact62 (v : Value) (w : World) : (Instr.typeAssert (.iface 121 v) 20 98 true).run Tryz.prog w = .ok (.tuple #[.agg #[], .bool false]) w := by kernel_rfl
@[go_sem] theorem fact63 (v : Value) (w : World) : (Instr.typeAssert (.iface 108 v) 20 98 true).run Tryz.prog w = .ok (.tuple #[.agg #[], .bool false]) w := by kernel_rfl
@[go_sem] theorem fact64 (v : Value) (w : World) : (Instr.typeAssert (.iface 132 v) 20 98 true).run Tryz.prog w = .ok (.tuple #[.agg #[], .bool false]) w := by kernel_rfl
@[go_sem] theorem fact65 (v : Value) (w : World) : (Instr.typeAssert (.iface 131 v) 20 98 true).run Tryz.prog w = .ok (.tuple #[.agg #[], .bool false]) w := by kernel_rfl
@[go_sem] theorem fact66 (w : World) : (Instr.typeAssert .nilIface 20 130 true).run Tryz.prog w = .ok (.tuple #[.float .f64 0, .bool false]) w := by kernel_rfl
@[go_sem] theorem fact67 (v : Value) (w : World) : (Instr.typeAssert (.iface 3 v) 20 130 true).run Tryz.prog w = .ok (.tuple #[.float .f64 0, .bool false]) w := by kernel_rfl
@[go_sem] theorem fact68 (v : Value) (w : World) : (Instr.typeAssert (.iface 9 v) 20 130 true).run Tryz.prog w = .ok (.tuple #[.float .f64 0, .bool false]) w := by kernel_rfl
@[go_sem] theorem fact69 (v : Value) (w : World) : (Instr.typeAssert (.iface 92 v) 20 130 true).run Tryz.prog w = .ok (.tuple #[.float .f64 0, .bool false]) w := by kernel_rfl
@[go_sem] theorem fact70 (v : Value) (w : World) : (Instr.typeAssert (.iface 84 v) 20 130 true).run Tryz.prog w = .ok (.tuple #[.float .f64 0, .bool false]) w := by kernel_rfl
@[go_sem] theorem fact71 (v : Value) (w : World) : (Instr.typeAssert (.iface 98 v) 20 130 true).run Tryz.prog w = .ok (.tuple #[.float .f64 0, .bool false]) w := by kernel_rfl
@[go_sem] theorem fact72 (v : Value) (w : World) : (Instr.typeAssert (.iface 130 v) 20 130 true).run Tryz.prog w = .ok (.tuple #[v, .bool true]) w := by kernel_rfl
@[go_sem] theorem fact73 (v : Value) (w : World) : (Instr.typeAssert (.iface 4 v) 20 130 true).run Tryz.prog w = .ok (.tuple #[.float .f64 0, .bool false]) w := by kernel_rfl
@[go_sem] theorem fact74 (v : Value) (w : World) : (Instr.typeAssert (.iface 124 v) 20 130 true).run Tryz.prog w = .ok (.tuple #[.float .f64 0, .bool false]) w := by kernel_rfl
@[go_sem] theorem fact75 (v : Value) (w : World) : (Instr.typeAssert (.iface 121 v) 20 130 true).run Tryz.prog w = .ok (.tuple #[.float .f64 0, .bool false]) w := by kernel_rfl
@[go_sem] theorem fact76 (v : Value) (w : World) : (Instr.typeAssert (.iface 108 v) 20 130 true).run Tryz.prog w = .ok (.tuple #[.float .f64 0, .bool false]) w := by kernel_rfl
@[go_sem] theorem fact77 (v : Value) (w : World) : (Instr.typeAssert (.iface 132 v) 20 130 true).run Tryz.prog w = .ok (.tuple #[.float .f64 0, .bool false]) w := by kernel_rfl
@[go_sem] theorem fact78 (v : Value) (w : World) : (Instr.typeAssert (.iface 131 v) 20 130 true).run Tryz.prog w = .ok (.tuple #[.float .f64 0, .bool false]) w := by kernel_rfl
@[go_sem] theorem fact79 (w : World) : (Instr.typeAssert .nilIface 20 131 true).run Tryz.prog w = .ok (.tuple #[.pointer none, .bool false]) w := by kernel_rfl
@[go_sem] theorem fact80 (v : Value) (w : World) : (Instr.typeAssert (.iface 3 v) 20 131 true).run Tryz.prog w = .ok (.tuple #[.pointer none, .bool false]) w := by kernel_rfl
@[go_sem] theorem fact81 (v : Value) (w : World) : (Instr.typeAssert (.iface 9 v) 20 131 true).run Tryz.prog w = .ok (.tuple #[.pointer none, .bool false]) w := by kernel_rfl
@[go_sem] theorem fact82 (v : Value) (w : World) : (Instr.typeAssert (.iface 92 v) 20 131 true).run Tryz.prog w = .ok (.tuple #[.pointer none, .bool false]) w := by kernel_rfl
@[go_sem] theorem fact83 (v : Value) (w : World) : (Instr.typeAssert (.iface 84 v) 20 131 true).run Tryz.prog w = .ok (.tuple #[.pointer none, .bool false]) w := by kernel_rfl
@[go_sem] theorem fact84 (v : Value) (w : World) : (Instr.typeAssert (.iface 98 v) 20 131 true).run Tryz.prog w = .ok (.tuple #[.pointer none, .bool false]) w := by kernel_rfl
@[go_sem] theorem fact85 (v : Value) (w : World) : (Instr.typeAssert (.iface 130 v) 20 131 true).run Tryz.prog w = .ok (.tuple #[.pointer none, .bool false]) w := by kernel_rfl
@[go_sem] theorem fact86 (v : Value) (w : World) : (Instr.typeAssert (.iface 4 v) 20 131 true).run Tryz.prog w = .ok (.tuple #[.pointer none, .bool false]) w := by kernel_rfl
@[go_sem] theorem fact87 (v : Value) (w : World) : (Instr.typeAssert (.iface 124 v) 20 131 true).run Tryz.prog w = .ok (.tuple #[.pointer none, .bool false]) w := by kernel_rfl
@[go_sem] theorem fact88 (v : Value) (w : World) : (Instr.typeAssert (.iface 121 v) 20 131 true).run Tryz.prog w = .ok (.tuple #[.pointer none, .bool false]) w := by kernel_rfl
@[go_sem] theorem fact89 (v : Value) (w : World) : (Instr.typeAssert (.iface 108 v) 20 131 true).run Tryz.prog w = .ok (.tuple #[.pointer none, .bool false]) w := by kernel_rfl
@[go_sem] theorem fact90 (v : Value) (w : World) : (Instr.typeAssert (.iface 132 v) 20 131 true).run Tryz.prog w = .ok (.tuple #[.pointer none, .bool false]) w := by kernel_rfl
@[go_sem] theorem fact91 (v : Value) (w : World) : (Instr.typeAssert (.iface 131 v) 20 131 true).run Tryz.prog w = .ok (.tuple #[v, .bool true]) w := by kernel_rfl
@[go_sem] theorem fact92 (w : World) : (Instr.typeAssert .nilIface 20 132 true).run Tryz.prog w = .ok (.tuple #[.string ⟨#[]⟩, .bool false]) w := by kernel_rfl
@[go_sem] theorem fact93 (v : Value) (w : World) : (Instr.typeAssert (.iface 3 v) 20 132 true).run Tryz.prog w = .ok (.tuple #[.string ⟨#[]⟩, .bool false]) w := by kernel_rfl
@[go_sem] theorem fact94 (v : Value) (w : World) : (Instr.typeAssert (.iface 9 v) 20 132 true).run Tryz.prog w = .ok (.tuple #[.string ⟨#[]⟩, .bool false]) w := by kernel_rfl
@[go_sem] theorem fact95 (v : Value) (w : World) : (Instr.typeAssert (.iface 92 v) 20 132 true).run Tryz.prog w = .ok (.tuple #[.string ⟨#[]⟩, .bool false]) w := by kernel_rfl
@[go_sem] theorem fact96 (v : Value) (w : World) : (Instr.typeAssert (.iface 84 v) 20 132 true).run Tryz.prog w = .ok (.tuple #[.string ⟨#[]⟩, .bool false]) w := by kernel_rfl
@[go_sem] theorem fact97 (v : Value) (w : World) : (Instr.typeAssert (.iface 98 v) 20 132 true).run Tryz.prog w = .ok (.tuple #[.string ⟨#[]⟩, .bool false]) w := by kernel_rfl
@[go_sem] theorem fact98 (v : Value) (w : World) : (Instr.typeAssert (.iface 130 v) 20 132 true).run Tryz.prog w = .ok (.tuple #[.string ⟨#[]⟩, .bool false]) w := by kernel_rfl
@[go_sem] theorem fact99 (v : Value) (w : World) : (Instr.typeAssert (.iface 4 v) 20 132 true).run Tryz.prog w = .ok (.tuple #[.string ⟨#[]⟩, .bool false]) w := by kernel_rfl
@[go_sem] theorem fact100 (v : Value) (w : World) : (Instr.typeAssert (.iface 124 v) 20 132 true).run Tryz.prog w = .ok (.tuple #[.string ⟨#[]⟩, .bool false]) w := by kernel_rfl
@[go_sem] theorem fact101 (v : Value) (w : World) : (Instr.typeAssert (.iface 121 v) 20 132 true).run Tryz.prog w = .ok (.tuple #[.string ⟨#[]⟩, .bool false]) w := by kernel_rfl
@[go_sem] theorem fact102 (v : Value) (w : World) : (Instr.typeAssert (.iface 108 v) 20 132 true).run Tryz.prog w = .ok (.tuple #[.string ⟨#[]⟩, .bool false]) w := by kernel_rfl
@[go_sem] theorem fact103 (v : Value) (w : World) : (Instr.typeAssert (.iface 132 v) 20 132 true).run Tryz.prog w = .ok (.tuple #[v, .bool true]) w := by kernel_rfl
@[go_sem] theorem fact104 (v : Value) (w : World) : (Instr.typeAssert (.iface 131 v) 20 132 true).run Tryz.prog w = .ok (.tuple #[.string ⟨#[]⟩, .bool false]) w := by kernel_rfl
@[go_sem] theorem fact105 (w : World) : (Instr.typeAssert .nilIface 20 4 true).run Tryz.prog w = .ok (.tuple #[.bool false, .bool false]) w := by kernel_rfl
@[go_sem] theorem fact106 (v : Value) (w : World) : (Instr.typeAssert (.iface 3 v) 20 4 true).run Tryz.prog w = .ok (.tuple #[.bool false, .bool false]) w := by kernel_rfl
@[go_sem] theorem fact107 (v : Value) (w : World) : (Instr.typeAssert (.iface 9 v) 20 4 true).run Tryz.prog w = .ok (.tuple #[.bool false, .bool false]) w := by kernel_rfl
@[go_sem] theorem fact108 (v : Value) (w : World) : (Instr.typeAssert (.iface 92 v) 20 4 true).run Tryz.prog w = .ok (.tuple #[.bool false, .bool false]) w := by kernel_rfl
@[go_sem] theorem fact109 (v : Value) (w : World) : (Instr.typeAssert (.iface 84 v) 20 4 true).run Tryz.prog w = .ok (.tuple #[.bool false, .bool false]) w := by kernel_rfl
@[go_sem] theorem fact110 (v : Value) (w : World) : (Instr.typeAssert (.iface 98 v) 20 4 true).run Tryz.prog w = .ok (.tuple #[.bool false, .bool false]) w := by kernel_rfl
@[go_sem] theorem fact111 (v : Value) (w : World) : (Instr.typeAssert (.iface 130 v) 20 4 true).run Tryz.prog w = .ok (.tuple #[.bool false, .bool false]) w := by kernel_rfl
@[go_sem] theorem fact112 (v : Value) (w : World) : (Instr.typeAssert (.iface 4 v) 20 4 true).run Tryz.prog w = .ok (.tuple #[v, .bool true]) w := by kernel_rfl
@[go_sem] theorem fact113 (v : Value) (w : World) : (Instr.typeAssert (.iface 124 v) 20 4 true).run Tryz.prog w = .ok (.tuple #[.bool false, .bool false]) w := by kernel_rfl
@[go_sem] theorem fact114 (v : Value) (w : World) : (Instr.typeAssert (.iface 121 v) 20 4 true).run Tryz.prog w = .ok (.tuple #[.bool false, .bool false]) w := by kernel_rfl
@[go_sem] theorem fact115 (v : Value) (w : World) : (Instr.typeAssert (.iface 108 v) 20 4 true).run Tryz.prog w = .ok (.tuple #[.bool false, .bool false]) w := by kernel_rfl
@[go_sem] theorem fact116 (v : Value) (w : World) : (Instr.typeAssert (.iface 132 v) 20 4 true).run Tryz.prog w = .ok (.tuple #[.bool false, .bool false]) w := by kernel_rfl
@[go_sem] theorem fact117 (v : Value) (w : World) : (Instr.typeAssert (.iface 131 v) 20 4 true).run Tryz.prog w = .ok (.tuple #[.bool false, .bool false]) w := by kernel_rfl
@[go_sem] theorem fact118 (w : World) : (Instr.typeAssert .nilIface 87 145 true).run Tryz.prog w = .ok (.tuple #[.pointer none, .bool false]) w := by kernel_rfl
@[go_sem] theorem fact119 (v : Value) (w : World) : (Instr.typeAssert (.iface 145 v) 87 145 true).run Tryz.prog w = .ok (.tuple #[v, .bool true]) w := by kernel_rfl
@[go_sem] theorem fact120 (v : Value) (w : World) : (Instr.typeAssert (.iface 148 v) 87 145 true).run Tryz.prog w = .ok (.tuple #[.pointer none, .bool false]) w := by kernel_rfl
@[go_sem] theorem fact121 (v : Value) (w : World) : (Instr.typeAssert (.iface 128 v) 87 145 true).run Tryz.prog w = .ok (.tuple #[.pointer none, .bool false]) w := by kernel_rfl
@[go_sem] theorem fact122 (v : Value) (w : World) : (Instr.typeAssert (.iface 124 v) 87 145 true).run Tryz.prog w = .ok (.tuple #[.pointer none, .bool false]) w := by kernel_rfl
@[go_sem] theorem fact123 (v : Value) (w : World) : (Instr.typeAssert (.iface 121 v) 87 145 true).run Tryz.prog w = .ok (.tuple #[.pointer none, .bool false]) w := by kernel_rfl
@[go_sem] theorem fact124 (v : Value) (w : World) : (Instr.typeAssert (.iface 134 v) 87 145 true).run Tryz.prog w = .ok (.tuple #[.pointer none, .bool false]) w := by kernel_rfl
@[go_sem] theorem fact125 (v : Value) (w : World) : (Instr.typeAssert (.iface 116 v) 87 145 true).run Tryz.prog w = .ok (.tuple #[.pointer none, .bool false]) w := by kernel_rfl
@[go_sem] theorem fact126 (w : World) : (Instr.typeAssert .nilIface 87 148 true).run Tryz.prog w = .ok (.tuple #[.pointer none, .bool false]) w := by kernel_rfl
@[go_sem] theorem fact127 (v : Value) (w : World) : (Instr.typeAssert (.iface 145 v) 87 148 true).run Tryz.prog w = .ok (.tuple #[.pointer none, .bool false]) w := by kernel_rfl
@[go_sem] theorem fact128 (v : Value) (w : World) : (Instr.typeAssert (.iface 148 v) 87 148 true).run Tryz.prog w = .ok (.tuple #[v, .bool true]) w := by kernel_rfl
@[go_sem] theorem fact129 (v : Value) (w : World) : (Instr.typeAssert (.iface 128 v) 87 148 true).run Tryz.prog w = .ok (.tuple #[.pointer none, .bool false]) w := by kernel_rfl
@[go_sem] theorem fact130 (v : Value) (w : World) : (Instr.typeAssert (.iface 124 v) 87 148 true).run Tryz.prog w = .ok (.tuple #[.pointer none, .bool false]) w := by kernel_rfl
@[go_sem] theorem fact131 (v : Value) (w : World) : (Instr.typeAssert (.iface 121 v) 87 148 true).run Tryz.prog w = .ok (.tuple #[.pointer none, .bool false]) w := by kernel_rfl
@[go_sem] theorem fact132 (v : Value) (w : World) : (Instr.typeAssert (.iface 134 v) 87 148 true).run Tryz.prog w = .ok (.tuple #[.pointer none, .bool false]) w := by kernel_rfl
@[go_sem] theorem fact133 (v : Value) (w : World) : (Instr.typeAssert (.iface 116 v) 87 148 true).run Tryz.prog w = .ok (.tuple #[.pointer none, .bool false]) w := by kernel_rfl
@[go_sem] theorem fact134 (w : World) : (Instr.typeAssert .nilIface 87 128 true).run Tryz.prog w = .ok (.tuple #[.pointer none, .bool false]) w := by kernel_rfl
@[go_sem] theorem fact135 (v : Value) (w : World) : (Instr.typeAssert (.iface 145 v) 87 128 true).run Tryz.prog w = .ok (.tuple #[.pointer none, .bool false]) w := by kernel_rfl
@[go_sem] theorem fact136 (v : Value) (w : World) : (Instr.typeAssert (.iface 148 v) 87 128 true).run Tryz.prog w = .ok (.tuple #[.pointer none, .bool false]) w := by kernel_rfl
@[go_sem] theorem fact137 (v : Value) (w : World) : (Instr.typeAssert (.iface 128 v) 87 128 true).run Tryz.prog w = .ok (.tuple #[v, .bool true]) w := by kernel_rfl
@[go_sem] theorem fact138 (v : Value) (w : World) : (Instr.typeAssert (.iface 124 v) 87 128 true).run Tryz.prog w = .ok (.tuple #[.pointer none, .bool false]) w := by kernel_rfl
@[go_sem] theorem fact139 (v : Value) (w : World) : (Instr.typeAssert (.iface 121 v) 87 128 true).run Tryz.prog w = .ok (.tuple #[.pointer none, .bool false]) w := by kernel_rfl
@[go_sem] theorem fact140 (v : Value) (w : World) : (Instr.typeAssert (.iface 134 v) 87 128 true).run Tryz.prog w = .ok (.tuple #[.pointer none, .bool false]) w := by kernel_rfl
@[go_sem] theorem fact141 (v : Value) (w : World) : (Instr.typeAssert (.iface 116 v) 87 128 true).run Tryz.prog w = .ok (.tuple #[.pointer none, .bool false]) w := by kernel_rfl
@[go_sem] theorem fact142 (w : World) : (Instr.typeAssert .nilIface 87 124 true).run Tryz.prog w = .ok (.tuple #[.pointer none, .bool false]) w := by kernel_rfl
@[go_sem] theorem fact143 (v : Value) (w : World) : (Instr.typeAssert (.iface 145 v) 87 124 true).run Tryz.prog w = .ok (.tuple #[.pointer none, .bool false]) w := by kernel_rfl
@[go_sem] theorem fact144 (v : Value) (w : World) : (Instr.typeAssert (.iface 148 v) 87 124 true).run Tryz.prog w = .ok (.tuple #[.pointer none, .bool false]) w := by kernel_rfl
@[go_sem] theorem fact145 (v : Value) (w : World) : (Instr.typeAssert (.iface 128 v) 87 124 true).run Tryz.prog w = .ok (.tuple #[.pointer none, .bool false]) w := by kernel_rfl
@[go_sem] theorem fact146 (v : Value) (w : World) : (Instr.typeAssert (.iface 124 v) 87 124 true).run Tryz.prog w = .ok (.tuple #[v, .bool true]) w := by kernel_rfl
@[go_sem] theorem fact147 (v : Value) (w : World) : (Instr.typeAssert (.iface 121 v) 87 124 true).run Tryz.prog w = .ok (.tuple #[.pointer none, .bool false]) w := by kernel_rfl
@[go_sem] theorem fact148 (v : Value) (w : World) : (Instr.typeAssert (.iface 134 v) 87 124 true).run Tryz.prog w = .ok (.tuple #[.pointer none, .bool false]) w := by kernel_rfl
@[go_sem] theorem fact149 (v : Value) (w : World) : (Instr.typeAssert (.iface 116 v) 87 124 true).run Tryz.prog w = .ok (.tuple #[.pointer none, .bool false]) w := by kernel_rfl
@[go_sem] theorem fact150 (w : World) : (Instr.typeAssert .nilIface 87 121 true).run Tryz.prog w = .ok (.tuple #[.pointer none, .bool false]) w := by kernel_rfl
@[go_sem] theorem fact151 (v : Value) (w : World) : (Instr.typeAssert (.iface 145 v) 87 121 true).run Tryz.prog w = .ok (.tuple #[.pointer none, .bool false]) w := by kernel_rfl
@[go_sem] theorem fact152 (v : Value) (w : World) : (Instr.typeAssert (.iface 148 v) 87 121 true).run Tryz.prog w = .ok (.tuple #[.pointer none, .bool false]) w := by kernel_rfl
@[go_sem] theorem fact153 (v : Value) (w : World) : (Instr.typeAssert (.iface 128 v) 87 121 true).run Tryz.prog w = .ok (.tuple #[.pointer none, .bool false]) w := by kernel_rfl
@[go_sem] theorem fact154 (v : Value) (w : World) : (Instr.typeAssert (.iface 124 v) 87 121 true).run Tryz.prog w = .ok (.tuple #[.pointer none, .bool false]) w := by kernel_rfl
@[go_sem] theorem fact155 (v : Value) (w : World) : (Instr.typeAssert (.iface 121 v) 87 121 true).run Tryz.prog w = .ok (.tuple #[v, .bool true]) w := by kernel_rfl
@[go_sem] theorem fact156 (v : Value) (w : World) : (Instr.typeAssert (.iface 134 v) 87 121 true).run Tryz.prog w = .ok (.tuple #[.pointer none, .bool false]) w := by kernel_rfl
@[go_sem] theorem fact157 (v : Value) (w : World) : (Instr.typeAssert (.iface 116 v) 87 121 true).run Tryz.prog w = .ok (.tuple #[.pointer none, .bool false]) w := by kernel_rfl
@[go_sem] theorem fact158 (w : World) : (Instr.typeAssert .nilIface 87 134 true).run Tryz.prog w = .ok (.tuple #[.pointer none, .bool false]) w := by kernel_rfl
@[go_sem] theorem fact159 (v : Value) (w : World) : (Instr.typeAssert (.iface 145 v) 87 134 true).run Tryz.prog w = .ok (.tuple #[.pointer none, .bool false]) w := by kernel_rfl
@[go_sem] theorem fact160 (v : Value) (w : World) : (Instr.typeAssert (.iface 148 v) 87 134 true).run Tryz.prog w = .ok (.tuple #[.pointer none, .bool false]) w := by kernel_rfl
@[go_sem] theorem fact161 (v : Value) (w : World) : (Instr.typeAssert (.iface 128 v) 87 134 true).run Tryz.prog w = .ok (.tuple #[.pointer none, .bool false]) w := by kernel_rfl
@[go_sem] theorem fact162 (v : Value) (w : World) : (Instr.typeAssert (.iface 124 v) 87 134 true).run Tryz.prog w = .ok (.tuple #[.pointer none, .bool false]) w := by kernel_rfl
@[go_sem] theorem fact163 (v : Value) (w : World) : (Instr.typeAssert (.iface 121 v) 87 134 true).run Tryz.prog w = .ok (.tuple #[.pointer none, .bool false]) w := by kernel_rfl
@[go_sem] theorem fact164 (v : Value) (w : World) : (Instr.typeAssert (.iface 134 v) 87 134 true).run Tryz.prog w = .ok (.tuple #[v, .bool true]) w := by kernel_rfl
@[go_sem] theorem fact165 (v : Value) (w : World) : (Instr.typeAssert (.iface 116 v) 87 134 true).run Tryz.prog w = .ok (.tuple #[.pointer none, .bool false]) w := by kernel_rfl
@[go_sem] theorem fact166 (w : World) : (Instr.typeAssert .nilIface 87 116 true).run Tryz.prog w = .ok (.tuple #[.pointer none, .bool false]) w := by kernel_rfl
@[go_sem] theorem fact167 (v : Value) (w : World) : (Instr.typeAssert (.iface 145 v) 87 116 true).run Tryz.prog w = .ok (.tuple #[.pointer none, .bool false]) w := by kernel_rfl
@[go_sem] theorem fact168 (v : Value) (w : World) : (Instr.typeAssert (.iface 148 v) 87 116 true).run Tryz.prog w = .ok (.tuple #[.pointer none, .bool false]) w := by kernel_rfl
@[go_sem] theorem fact169 (v : Value) (w : World) : (Instr.typeAssert (.iface 128 v) 87 116 true).run Tryz.prog w = .ok (.tuple #[.pointer none, .bool false]) w := by kernel_rfl
@[go_sem] theorem fact170 (v : Value) (w : World) : (Instr.typeAssert (.iface 124 v) 87 116 true).run Tryz.prog w = .ok (.tuple #[.pointer none, .bool false]) w := by kernel_rfl
@[go_sem] theorem fact171 (v : Value) (w : World) : (Instr.typeAssert (.iface 121 v) 87 116 true).run Tryz.prog w = .ok (.tuple #[.pointer none, .bool false]) w := by kernel_rfl
@[go_sem] theorem fact172 (v : Value) (w : World) : (Instr.typeAssert (.iface 134 v) 87 116 true).run Tryz.prog w = .ok (.tuple #[.pointer none, .bool false]) w := by kernel_rfl
@[go_sem] theorem fact173 (v : Value) (w : World) : (Instr.typeAssert (.iface 116 v) 87 116 true).run Tryz.prog w = .ok (.tuple #[v, .bool true]) w := by kernel_rfl
@[go_sem] theorem fact174 (v : Value) (w : World) : (Instr.typeAssert (.iface 108 v) 20 108 false).run Tryz.prog w = .ok v w := by kernel_rfl
@[go_sem] theorem fact175 (v : Value) (w : World) : (Instr.typeAssert (.iface 3 v) 20 87 true).run Tryz.prog w = .ok (.tuple #[.nilIface, .bool false]) w := run_typeAssert_lacksB Tryz.underlying87 (by kernel_rfl) (by kernel_rfl) v 20 w
@[go_sem] theorem fact176 (v : Value) (w : World) : (Instr.typeAssert (.iface 9 v) 20 87 true).run Tryz.prog w = .ok (.tuple #[.nilIface, .bool false]) w := run_typeAssert_lacksB Tryz.underlying87 (by kernel_rfl) (by kernel_rfl) v 20 w
@[go_sem] theorem fact177 (v : Value) (w : World) : (Instr.typeAssert (.iface 92 v) 20 87 true).run Tryz.prog w = .ok (.tuple #[.nilIface, .bool false]) w := run_typeAssert_lacksB Tryz.underlying87 (by kernel_rfl) (by kernel_rfl) v 20 w
@[go_sem] theorem fact178 (v : Value) (w : World) : (Instr.typeAssert (.iface 84 v) 20 87 true).run Tryz.prog w = .ok (.tuple #[.nilIface, .bool false]) w := run_typeAssert_lacksB Tryz.underlying87 (by kernel_rfl) (by kernel_rfl) v 20 w
@[go_sem] theorem fact179 (v : Value) (w : World) : (Instr.typeAssert (.iface 98 v) 20 87 true).run Tryz.prog w = .ok (.tuple #[.nilIface, .bool false]) w := run_typeAssert_lacksB Tryz.underlying87 (by kernel_rfl) (by kernel_rfl) v 20 w
@[go_sem] theorem fact180 (v : Value) (w : World) : (Instr.typeAssert (.iface 130 v) 20 87 true).run Tryz.prog w = .ok (.tuple #[.nilIface, .bool false]) w := run_typeAssert_lacksB Tryz.underlying87 (by kernel_rfl) (by kernel_rfl) v 20 w
@[go_sem] theorem fact181 (v : Value) (w : World) : (Instr.typeAssert (.iface 4 v) 20 87 true).run Tryz.prog w = .ok (.tuple #[.nilIface, .bool false]) w := run_typeAssert_lacksB Tryz.underlying87 (by kernel_rfl) (by kernel_rfl) v 20 w
@[go_sem] theorem fact182 (v : Value) (w : World) : (Instr.typeAssert (.iface 124 v) 20 87 true).run Tryz.prog w = .ok (.tuple #[.iface 124 v, .bool true]) w := run_typeAssert_hasB Tryz.underlying87 (by kernel_rfl) v 20 w
@[go_sem] theorem fact183 (v : Value) (w : World) : (Instr.typeAssert (.iface 121 v) 20 87 true).run Tryz.prog w = .ok (.tuple #[.iface 121 v, .bool true]) w := run_typeAssert_hasB Tryz.underlying87 (by kernel_rfl) v 20 w
@[go_sem] theorem fact184 (v : Value) (w : World) : (Instr.typeAssert (.iface 108 v) 20 87 true).run Tryz.prog w = .ok (.tuple #[.nilIface, .bool false]) w := run_typeAssert_lacksB Tryz.underlying87 (by kernel_rfl) (by kernel_rfl) v 20 w
@[go_sem] theorem fact185 (v : Value) (w : World) : (Instr.typeAssert (.iface 132 v) 20 87 true).run Tryz.prog w = .ok (.tuple #[.nilIface, .bool false]) w := run_typeAssert_lacksB Tryz.underlying87 (by kernel_rfl) (by kernel_rfl) v 20 w
@[go_sem] theorem fact186 (v : Value) (w : World) : (Instr.typeAssert (.iface 131 v) 20 87 true).run Tryz.prog w = .ok (.tuple #[.nilIface, .bool false]) w := run_typeAssert_lacksB Tryz.underlying87 (by kernel_rfl) (by kernel_rfl) v 20 w
@[go_sem] theorem fact187 (v : Value) (w : World) : (Instr.typeAssert (.iface 145 v) 20 87 true).run Tryz.prog w = .ok (.tuple #[.iface 145 v, .bool true]) w := run_typeAssert_hasB Tryz.underlying87 (by kernel_rfl) v 20 w
@[go_sem] theorem fact188 (v : Value) (w : World) : (Instr.typeAssert (.iface 148 v) 20 87 true).run Tryz.prog w = .ok (.tuple #[.iface 148 v, .bool true]) w := run_typeAssert_hasB Tryz.underlying87 (by kernel_rfl) v 20 w
@[go_sem] theorem fact189 (v : Value) (w : World) : (Instr.typeAssert (.iface 128 v) 20 87 true).run Tryz.prog w = .ok (.tuple #[.iface 128 v, .bool true]) w := run_typeAssert_hasB Tryz.underlying87 (by kernel_rfl) v 20 w
@[go_sem] theorem fact190 (v : Value) (w : World) : (Instr.typeAssert (.iface 124 v) 20 87 true).run Tryz.prog w = .ok (.tuple #[.iface 124 v, .bool true]) w := run_typeAssert_hasB Tryz.underlying87 (by kernel_rfl) v 20 w
@[go_sem] theorem fact191 (v : Value) (w : World) : (Instr.typeAssert (.iface 121 v) 20 87 true).run Tryz.prog w = .ok (.tuple #[.iface 121 v, .bool true]) w := run_typeAssert_hasB Tryz.underlying87 (by kernel_rfl) v 20 w
@[go_sem] theorem fact192 (v : Value) (w : World) : (Instr.typeAssert (.iface 134 v) 20 87 true).run Tryz.prog w = .ok (.tuple #[.iface 134 v, .bool true]) w := run_typeAssert_hasB Tryz.underlying87 (by kernel_rfl) v 20 w
@[go_sem] theorem fact193 (v : Value) (w : World) : (Instr.typeAssert (.iface 116 v) 20 87 true).run Tryz.prog w = .ok (.tuple #[.iface 116 v, .bool true]) w := run_typeAssert_hasB Tryz.underlying87 (by kernel_rfl) v 20 w
@[go_sem] theorem fact194 (w : World) : (Instr.typeAssert .nilIface 20 87 true).run Tryz.prog w = .ok (.tuple #[.nilIface, .bool false]) w := by kernel_rfl
@[go_sem] theorem fact195 (v : Value) (w : World) : (binOp .eql 20 (.iface 3 v) (.iface 98 (.agg #[]))).run Tryz.prog w = .ok (.bool false) w := by kernel_rfl
@[go_sem] theorem fact196 (v : Value) (w : World) : (binOp .eql 20 (.iface 3 v) .nilIface).run Tryz.prog w = .ok (.bool false) w := by kernel_rfl
@[go_sem] theorem fact197 (v : Value) (w : World) : (binOp .eql 20 (.iface 9 v) (.iface 98 (.agg #[]))).run Tryz.prog w = .ok (.bool false) w := by kernel_rfl
@[go_sem] theorem fact198 (v : Value) (w : World) : (binOp .eql 20 (.iface 9 v) .nilIface).run Tryz.prog w = .ok (.bool false) w := by kernel_rfl
@[go_sem] theorem fact199 (v : Value) (w : World) : (binOp .eql 20 (.iface 92 v) (.iface 98 (.agg #[]))).run Tryz.prog w = .ok (.bool false) w := by kernel_rfl
@[go_sem] theorem fact200 (v : Value) (w : World) : (binOp .eql 20 (.iface 92 v) .nilIface).run Tryz.prog w = .ok (.bool false) w := by kernel_rfl
@[go_sem] theorem fact201 (v : Value) (w : World) : (binOp .eql 20 (.iface 84 v) (.iface 98 (.agg #[]))).run Tryz.prog w = .ok (.bool false) w := by kernel_rfl
@[go_sem] theorem fact202 (v : Value) (w : World) : (binOp .eql 20 (.iface 84 v) .nilIface).run Tryz.prog w = .ok (.bool false) w := by kernel_rfl
@[go_sem] theorem fact203 (w : World) : (binOp .eql 20 (.iface 98 (.agg #[])) (.iface 98 (.agg #[]))).run Tryz.prog w = .ok (.bool true) w := by kernel_rfl
@[go_sem] theorem fact204 (v : Value) (w : World) : (binOp .eql 20 (.iface 98 v) .nilIface).run Tryz.prog w = .ok (.bool false) w := by kernel_rfl
@[go_sem] theorem fact205 (v : Value) (w : World) : (binOp .eql 20 (.iface 130 v) (.iface 98 (.agg #[]))).run Tryz.prog w = .ok (.bool false) w := by kernel_rfl
@[go_sem] theorem fact206 (v : Value) (w : World) : (binOp .eql 20 (.iface 130 v) .nilIface).run Tryz.prog w = .ok (.bool false) w := by kernel_rfl
@[go_sem] theorem fact207 (v : Value) (w : World) : (binOp .eql 20 (.iface 4 v) (.iface 98 (.agg #[]))).run Tryz.prog w = .ok (.bool false) w := by kernel_rfl
@[go_sem] theorem fact208 (v : Value) (w : World) : (binOp .eql 20 (.iface 4 v) .nilIface).run Tryz.prog w = .ok (.bool false) w := by kernel_rfl
@[go_sem] theorem fact209 (v : Value) (w : World) : (binOp .eql 20 (.iface 124 v) (.iface 98 (.agg #[]))).run Tryz.prog w = .ok (.bool false) w := by kernel_rfl
@[go_sem] theorem fact210 (v : Value) (w : World) : (binOp .eql 20 (.iface 124 v) .nilIface).run Tryz.prog w = .ok (.bool false) w := by kernel_rfl
@[go_sem] theorem fact211 (v : Value) (w : World) : (binOp .eql 20 (.iface 121 v) (.iface 98 (.agg #[]))).run Tryz.prog w = .ok (.bool false) w := by kernel_rfl
@[go_sem] theorem fact212 (v : Value) (w : World) : (binOp .eql 20 (.iface 121 v) .nilIface).run Tryz.prog w = .ok (.bool false) w := by kernel_rfl
@[go_sem] theorem fact213 (v : Value) (w : World) : (binOp .eql 20 (.iface 108 v) (.iface 98 (.agg #[]))).run Tryz.prog w = .ok (.bool false) w := by kernel_rfl
@[go_sem] theorem fact214 (v : Value) (w : World) : (binOp .eql 20 (.iface 108 v) .nilIface).run Tryz.prog w = .ok (.bool false) w := by kernel_rfl
@[go_sem] theorem fact215 (v : Value) (w : World) : (binOp .eql 20 (.iface 132 v) .nilIface).run Tryz.prog w = .ok (.bool false) w := by kernel_rfl
@[go_sem] theorem fact216 (v : Value) (w : World) : (binOp .eql 20 (.iface 131 v) .nilIface).run Tryz.prog w = .ok (.bool false) w := by kernel_rfl
@[go_sem] theorem fact217 (w : World) : (binOp .eql 20 .nilIface (.iface 98 (.agg #[]))).run Tryz.prog w = .ok (.bool false) w := by kernel_rfl
@[go_sem] theorem fact218 (w : World) : (binOp .eql 20 .nilIface .nilIface).run Tryz.prog w = .ok (.bool true) w := by kernel_rfl
@[go_sem] theorem fact219 (v : Value) (w : World) : (binOp .eql 87 (.iface 145 v) .nilIface).run Tryz.prog w = .ok (.bool false) w := by kernel_rfl
@[go_sem] theorem fact220 (v : Value) (w : World) : (binOp .eql 87 (.iface 148 v) .nilIface).run Tryz.prog w = .ok (.bool false) w := by kernel_rfl
@[go_sem] theorem fact221 (v : Value) (w : World) : (binOp .eql 87 (.iface 128 v) .nilIface).run Tryz.prog w = .ok (.bool false) w := by kernel_rfl
@[go_sem] theorem fact222 (v : Value) (w : World) : (binOp .eql 87 (.iface 124 v) .nilIface).run Tryz.prog w = .ok (.bool false) w := by kernel_rfl
@[go_sem] theorem fact223 (v : Value) (w : World) : (binOp .eql 87 (.iface 121 v) .nilIface).run Tryz.prog w = .ok (.bool false) w := by kernel_rfl
@[go_sem] theorem fact224 (v : Value) (w : World) : (binOp .eql 87 (.iface 134 v) .nilIface).run Tryz.prog w = .ok (.bool false) w := by kernel_rfl
@[go_sem] theorem fact225 (v : Value) (w : World) : (binOp .eql 87 (.iface 116 v) .nilIface).run Tryz.prog w = .ok (.bool false) w := by kernel_rfl
@[go_sem] theorem fact226 (w : World) : (binOp .eql 87 .nilIface .nilIface).run Tryz.prog w = .ok (.bool true) w := by kernel_rfl
@[go_sem] theorem fact227 (v : Value) (w : World) : (binOp .neq 20 (.iface 3 v) (.iface 98 (.agg #[]))).run Tryz.prog w = .ok (.bool true) w := by kernel_rfl
@[go_sem] theorem fact228 (v : Value) (w : World) : (binOp .neq 20 (.iface 3 v) .nilIface).run Tryz.prog w = .ok (.bool true) w := by kernel_rfl
@[go_sem] theorem fact229 (v : Value) (w : World) : (binOp .neq 20 (.iface 9 v) (.iface 98 (.agg #[]))).run Tryz.prog w = .ok (.bool true) w := by kernel_rfl
@[go_sem] theorem fact230 (v : Value) (w : World) : (binOp .neq 20 (.iface 9 v) .nilIface).run Tryz.prog w = .ok (.bool true) w := by kernel_rfl
@[go_sem] theorem fact231 (v : Value) (w : World) : (binOp .neq 20 (.iface 92 v) (.iface 98 (.agg #[]))).run Tryz.prog w = .ok (.bool true) w := by kernel_rfl
@[go_sem] theorem fact232 (v : Value) (w : World) : (binOp .neq 20 (.iface 92 v) .nilIface).run Tryz.prog w = .ok (.bool true) w := by kernel_rfl
@[go_sem] theorem fact233 (v : Value) (w : World) : (binOp .neq 20 (.iface 84 v) (.iface 98 (.agg #[]))).run Tryz.prog w = .ok (.bool true) w := by kernel_rfl
@[go_sem] theorem fact234 (v : Value) (w : World) : (binOp .neq 20 (.iface 84 v) .nilIface).run Tryz.prog w = .ok (.bool true) w := by kernel_rfl
@[go_sem] theorem fact235 (w : World) : (binOp .neq 20 (.iface 98 (.agg #[])) (.iface 98 (.agg #[]))).run Tryz.prog w = .ok (.bool false) w := by kernel_rfl
@[go_sem] theorem fact236 (v : Value) (w : World) : (binOp .neq 20 (.iface 98 v) .nilIface).run Tryz.prog w = .ok (.bool true) w := by kernel_rfl
@[go_sem] theorem fact237 (v : Value) (w : World) : (binOp .neq 20 (.iface 130 v) (.iface 98 (.agg #[]))).run Tryz.prog w = .ok (.bool true) w := by kernel_rfl
@[go_sem] theorem fact238 (v : Value) (w : World) : (binOp .neq 20 (.iface 130 v) .nilIface).run Tryz.prog w = .ok (.bool true) w := by kernel_rfl
@[go_sem] theorem fact239 (v : Value) (w : World) : (binOp .neq 20 (.iface 4 v) (.iface 98 (.agg #[]))).run Tryz.prog w = .ok (.bool true) w := by kernel_rfl
@[go_sem] theorem fact240 (v : Value) (w : World) : (binOp .neq 20 (.iface 4 v) .nilIface).run Tryz.prog w = .ok (.bool true) w := by kernel_rfl
@[go_sem] theorem fact241 (v : Value) (w : World) : (binOp .neq 20 (.iface 124 v) (.iface 98 (.agg #[]))).run Tryz.prog w = .ok (.bool true) w := by kernel_rfl
@[go_sem] theorem fact242 (v : Value) (w : World) : (binOp .neq 20 (.iface 124 v) .nilIface).run Tryz.prog w = .ok (.bool true) w := by kernel_rfl
@[go_sem] theorem fact243 (v : Value) (w : World) : (binOp .neq 20 (.iface 121 v) (.iface 98 (.agg #[]))).run Tryz.prog w = .ok (.bool true) w := by kernel_rfl
@[go_sem] theorem fact244 (v : Value) (w : World) : (binOp .neq 20 (.iface 121 v) .nilIface).run Tryz.prog w = .ok (.bool true) w := by kernel_rfl
@[go_sem] theorem fact245 (v : Value) (w : World) : (binOp .neq 20 (.iface 108 v) (.iface 98 (.agg #[]))).run Tryz.prog w = .ok (.bool true) w := by kernel_rfl
@[go_sem] theorem fact246 (v : Value) (w : World) : (binOp .neq 20 (.iface 108 v) .nilIface).run Tryz.prog w = .ok (.bool true) w := by kernel_rfl
@[go_sem] theorem fact247 (v : Value) (w : World) : (binOp .neq 20 (.iface 132 v) .nilIface).run Tryz.prog w = .ok (.bool true) w := by kernel_rfl
@[go_sem] theorem fact248 (v : Value) (w : World) : (binOp .neq 20 (.iface 131 v) .nilIface).run Tryz.prog w = .ok (.bool true) w := by kernel_rfl
@[go_sem] theorem fact249 (w : World) : (binOp .neq 20 .nilIface (.iface 98 (.agg #[]))).run Tryz.prog w = .ok (.bool true) w := by kernel_rfl
@[go_sem] theorem fact250 (w : World) : (binOp .neq 20 .nilIface .nilIface).run Tryz.prog w = .ok (.bool false) w := by kernel_rfl
@[go_sem] theorem fact251 (v : Value) (w : World) : (binOp .neq 87 (.iface 145 v) .nilIface).run Tryz.prog w = .ok (.bool true) w := by kernel_rfl
@[go_sem] theorem fact252 (v : Value) (w : World) : (binOp .neq 87 (.iface 148 v) .nilIface).run Tryz.prog w = .ok (.bool true) w := by kernel_rfl
@[go_sem] theorem fact253 (v : Value) (w : World) : (binOp .neq 87 (.iface 128 v) .nilIface).run Tryz.prog w = .ok (.bool true) w := by kernel_rfl
@[go_sem] theorem fact254 (v : Value) (w : World) : (binOp .neq 87 (.iface 124 v) .nilIface).run Tryz.prog w = .ok (.bool true) w := by kernel_rfl
@[go_sem] theorem fact255 (v : Value) (w : World) : (binOp .neq 87 (.iface 121 v) .nilIface).run Tryz.prog w = .ok (.bool true) w := by kernel_rfl
@[go_sem] theorem fact256 (v : Value) (w : World) : (binOp .neq 87 (.iface 134 v) .nilIface).run Tryz.prog w = .ok (.bool true) w := by kernel_rfl
@[go_sem] theorem fact257 (v : Value) (w : World) : (binOp .neq 87 (.iface 116 v) .nilIface).run Tryz.prog w = .ok (.bool true) w := by kernel_rfl
@[go_sem] theorem fact258 (w : World) : (binOp .neq 87 .nilIface .nilIface).run Tryz.prog w = .ok (.bool false) w := by kernel_rfl
@[go_sem] theorem fact259 (m : Option Nat) (w : World) : (binOp .eql 84 (.map m) (.map none)).run Tryz.prog w = .ok (.bool m.isNone) w := eql_map_nil w 84 9 20 m Tryz.underlying84
@[go_sem] theorem fact260 (m : Option Nat) (w : World) : (binOp .neq 84 (.map m) (.map none)).run Tryz.prog w = .ok (.bool (!m.isNone)) w := run_neq_map_nil w 84 9 20 m Tryz.underlying84
@[go_sem] theorem fact261 (m : Option Nat) (w : World) : (binOp .eql 108 (.map m) (.map none)).run Tryz.prog w = .ok (.bool m.isNone) w := eql_map_nil w 108 3 20 m Tryz.underlying108
@[go_sem] theorem fact262 (m : Option Nat) (w : World) : (binOp .neq 108 (.map m) (.map none)).run Tryz.prog w = .ok (.bool (!m.isNone)) w := run_neq_map_nil w 108 3 20 m Tryz.underlying108
@[go_sem] theorem fact263 (a : Option Addr) (l c : Nat) (w : World) : (binOp .eql 92 (.slice a l c) (.slice none 0 0)).run Tryz.prog w = .ok (.bool a.isNone) w := eql_slice_nil w 92 20 a l c Tryz.underlying92
@[go_sem] theorem fact264 (a : Option Addr) (l c : Nat) (w : World) : (binOp .neq 92 (.slice a l c) (.slice none 0 0)).run Tryz.prog w = .ok (.bool (!a.isNone)) w := run_neq_slice_nil w 92 20 a l c Tryz.underlying92
@[go_sem] theorem fact265 (a : Option Addr) (l c : Nat) (w : World) : (binOp .eql 23 (.slice a l c) (.slice none 0 0)).run Tryz.prog w = .ok (.bool a.isNone) w := eql_slice_nil w 23 3 a l c Tryz.underlying23
@[go_sem] theorem fact266 (a : Option Addr) (l c : Nat) (w : World) : (binOp .neq 23 (.slice a l c) (.slice none 0 0)).run Tryz.prog w = .ok (.bool (!a.isNone)) w := run_neq_slice_nil w 23 3 a l c Tryz.underlying23
@[go_sem] theorem fact267 (a : Option Addr) (l c : Nat) (w : World) : (binOp .eql 22 (.slice a l c) (.slice none 0 0)).run Tryz.prog w = .ok (.bool a.isNone) w := eql_slice_nil w 22 9 a l c Tryz.underlying22
@[go_sem] theorem fact268 (a : Option Addr) (l c : Nat) (w : World) : (binOp .neq 22 (.slice a l c) (.slice none 0 0)).run Tryz.prog w = .ok (.bool (!a.isNone)) w := run_neq_slice_nil w 22 9 a l c Tryz.underlying22
@[go_sem] theorem fact269 (a : Option Addr) (l c : Nat) (w : World) : (binOp .eql 34 (.slice a l c) (.slice none 0 0)).run Tryz.prog w = .ok (.bool a.isNone) w := eql_slice_nil w 34 4 a l c Tryz.underlying34
@[go_sem] theorem fact270 (a : Option Addr) (l c : Nat) (w : World) : (binOp .neq 34 (.slice a l c) (.slice none 0 0)).run Tryz.prog w = .ok (.bool (!a.isNone)) w := run_neq_slice_nil w 34 4 a l c Tryz.underlying34
@[go_sem] theorem fact271 (a : Option Addr) (l c : Nat) (w : World) : (binOp .eql 231 (.slice a l c) (.slice none 0 0)).run Tryz.prog w = .ok (.bool a.isNone) w := eql_slice_nil w 231 5 a l c Tryz.underlying231
@[go_sem] theorem fact272 (a : Option Addr) (l c : Nat) (w : World) : (binOp .neq 231 (.slice a l c) (.slice none 0 0)).run Tryz.prog w = .ok (.bool (!a.isNone)) w := run_neq_slice_nil w 231 5 a l c Tryz.underlying231
end Go.Proofs.YtdlmdmpkjhnbmaaGreatDoor
