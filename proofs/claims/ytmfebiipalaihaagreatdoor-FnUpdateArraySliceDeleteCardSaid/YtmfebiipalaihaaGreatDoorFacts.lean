/- Closed facts on this translation's types: type assertions, comparisons of interface values. -/
import Derived.Test.YtmfebiipalaihaaGreatDoorProg
import Derived.Test.YtmfebiipalaihaaGreatDoorSlices
namespace Go.Proofs.YtmfebiipalaihaaGreatDoor
open Go.RowKit Go.Gq
@[go_sem] theorem fact1 (w : World) : (Instr.typeAssert .nilIface 20 3 true).run Tryz.prog w = .ok (.tuple #[.int .i64 0, .bool false]) w := by kernel_rfl
@[go_sem] theorem fact2 (v : Value) (w : World) : (Instr.typeAssert (.iface 3 v) 20 3 true).run Tryz.prog w = .ok (.tuple #[v, .bool true]) w := by kernel_rfl
@[go_sem] theorem fact3 (v : Value) (w : World) : (Instr.typeAssert (.iface 9 v) 20 3 true).run Tryz.prog w = .ok (.tuple #[.int .i64 0, .bool false]) w := by kernel_rfl
@[go_sem] theorem fact4 (v : Value) (w : World) : (Instr.typeAssert (.iface 39 v) 20 3 true).run Tryz.prog w = .ok (.tuple #[.int .i64 0, .bool false]) w := by kernel_rfl
@[go_sem] theorem fact5 (v : Value) (w : World) : (Instr.typeAssert (.iface 41 v) 20 3 true).run Tryz.prog w = .ok (.tuple #[.int .i64 0, .bool false]) w := by kernel_rfl
@[go_sem] theorem fact6 (v : Value) (w : World) : (Instr.typeAssert (.iface 43 v) 20 3 true).run Tryz.prog w = .ok (.tuple #[.int .i64 0, .bool false]) w := by kernel_rfl
@[go_sem] theorem fact7 (v : Value) (w : World) : (Instr.typeAssert (.iface 70 v) 20 3 true).run Tryz.prog w = .ok (.tuple #[.int .i64 0, .bool false]) w := by kernel_rfl
@[go_sem] theorem fact8 (v : Value) (w : World) : (Instr.typeAssert (.iface 4 v) 20 3 true).run Tryz.prog w = .ok (.tuple #[.int .i64 0, .bool false]) w := by kernel_rfl
@[go_sem] theorem fact9 (v : Value) (w : World) : (Instr.typeAssert (.iface 62 v) 20 3 true).run Tryz.prog w = .ok (.tuple #[.int .i64 0, .bool false]) w := by kernel_rfl
@[go_sem] theorem fact10 (v : Value) (w : World) : (Instr.typeAssert (.iface 57 v) 20 3 true).run Tryz.prog w = .ok (.tuple #[.int .i64 0, .bool false]) w := by kernel_rfl
@[go_sem] theorem fact11 (v : Value) (w : World) : (Instr.typeAssert (.iface 49 v) 20 3 true).run Tryz.prog w = .ok (.tuple #[.int .i64 0, .bool false]) w := by kernel_rfl
@[go_sem] theorem fact12 (v : Value) (w : World) : (Instr.typeAssert (.iface 76 v) 20 3 true).run Tryz.prog w = .ok (.tuple #[.int .i64 0, .bool false]) w := by kernel_rfl
@[go_sem] theorem fact13 (v : Value) (w : World) : (Instr.typeAssert (.iface 72 v) 20 3 true).run Tryz.prog w = .ok (.tuple #[.int .i64 0, .bool false]) w := by kernel_rfl
@[go_sem] theorem fact14 (w : World) : (Instr.typeAssert .nilIface 20 9 true).run Tryz.prog w = .ok (.tuple #[.string ⟨#[]⟩, .bool false]) w := by kernel_rfl
@[go_sem] theorem fact15 (v : Value) (w : World) : (Instr.typeAssert (.iface 3 v) 20 9 true).run Tryz.prog w = .ok (.tuple #[.string ⟨#[]⟩, .bool false]) w := by kernel_rfl
@[go_sem] theorem fact16 (v : Value) (w : World) : (Instr.typeAssert (.iface 9 v) 20 9 true).run Tryz.prog w = .ok (.tuple #[v, .bool true]) w := by kernel_rfl
@[go_sem] theorem fact17 (v : Value) (w : World) : (Instr.typeAssert (.iface 39 v) 20 9 true).run Tryz.prog w = .ok (.tuple #[.string ⟨#[]⟩, .bool false]) w := by kernel_rfl
@[go_sem] theorem fact18 (v : Value) (w : World) : (Instr.typeAssert (.iface 41 v) 20 9 true).run Tryz.prog w = .ok (.tuple #[.string ⟨#[]⟩, .bool false]) w := by kernel_rfl
@[go_sem] theorem fact19 (v : Value) (w : World) : (Instr.typeAssert (.iface 43 v) 20 9 true).run Tryz.prog w = .ok (.tuple #[.string ⟨#[]⟩, .bool false]) w := by kernel_rfl
@[go_sem] theorem fact20 (v : Value) (w : World) : (Instr.typeAssert (.iface 70 v) 20 9 true).run Tryz.prog w = .ok (.tuple #[.string ⟨#[]⟩, .bool false]) w := by kernel_rfl
@[go_sem] theorem fact21 (v : Value) (w : World) : (Instr.typeAssert (.iface 4 v) 20 9 true).run Tryz.prog w = .ok (.tuple #[.string ⟨#[]⟩, .bool false]) w := by kernel_rfl
@[go_sem] theorem fact22 (v : Value) (w : World) : (Instr.typeAssert (.iface 62 v) 20 9 true).run Tryz.prog w = .ok (.tuple #[.string ⟨#[]⟩, .bool false]) w := by kernel_rfl
@[go_sem] theorem fact23 (v : Value) (w : World) : (Instr.typeAssert (.iface 57 v) 20 9 true).run Tryz.prog w = .ok (.tuple #[.string ⟨#[]⟩, .bool false]) w := by kernel_rfl
@[go_sem] theorem fact24 (v : Value) (w : World) : (Instr.typeAssert (.iface 49 v) 20 9 true).run Tryz.prog w = .ok (.tuple #[.string ⟨#[]⟩, .bool false]) w := by kernel_rfl
@[go_sem] theorem fact25 (v : Value) (w : World) : (Instr.typeAssert (.iface 76 v) 20 9 true).run Tryz.prog w = .ok (.tuple #[.string ⟨#[]⟩, .bool false]) w := by kernel_rfl
@[go_sem] theorem fact26 (v : Value) (w : World) : (Instr.typeAssert (.iface 72 v) 20 9 true).run Tryz.prog w = .ok (.tuple #[.string ⟨#[]⟩, .bool false]) w := by kernel_rfl
@[go_sem] theorem fact27 (w : World) : (Instr.typeAssert .nilIface 20 39 true).run Tryz.prog w = .ok (.tuple #[.slice none 0 0, .bool false]) w := by kernel_rfl
@[go_sem] theorem fact28 (v : Value) (w : World) : (Instr.typeAssert (.iface 3 v) 20 39 true).run Tryz.prog w = .ok (.tuple #[.slice none 0 0, .bool false]) w := by kernel_rfl
@[go_sem] theorem fact29 (v : Value) (w : World) : (Instr.typeAssert (.iface 9 v) 20 39 true).run Tryz.prog w = .ok (.tuple #[.slice none 0 0, .bool false]) w := by kernel_rfl
@[go_sem] theorem fact30 (v : Value) (w : World) : (Instr.typeAssert (.iface 39 v) 20 39 true).run Tryz.prog w = .ok (.tuple #[v, .bool true]) w := by kernel_rfl
@[go_sem] theorem fact31 (v : Value) (w : World) : (Instr.typeAssert (.iface 41 v) 20 39 true).run Tryz.prog w = .ok (.tuple #[.slice none 0 0, .bool false]) w := by kernel_rfl
@[go_sem] theorem fact32 (v : Value) (w : World) : (Instr.typeAssert (.iface 43 v) 20 39 true).run Tryz.prog w = .ok (.tuple #[.slice none 0 0, .bool false]) w := by kernel_rfl
@[go_sem] theorem fact33 (v : Value) (w : World) : (Instr.typeAssert (.iface 70 v) 20 39 true).run Tryz.prog w = .ok (.tuple #[.slice none 0 0, .bool false]) w := by kernel_rfl
@[go_sem] theorem fact34 (v : Value) (w : World) : (Instr.typeAssert (.iface 4 v) 20 39 true).run Tryz.prog w = .ok (.tuple #[.slice none 0 0, .bool false]) w := by kernel_rfl
@[go_sem] theorem fact35 (v : Value) (w : World) : (Instr.typeAssert (.iface 62 v) 20 39 true).run Tryz.prog w = .ok (.tuple #[.slice none 0 0, .bool false]) w := by kernel_rfl
@[go_sem] theorem fact36 (v : Value) (w : World) : (Instr.typeAssert (.iface 57 v) 20 39 true).run Tryz.prog w = .ok (.tuple #[.slice none 0 0, .bool false]) w := by kernel_rfl
@[go_sem] theorem fact37 (v : Value) (w : World) : (Instr.typeAssert (.iface 49 v) 20 39 true).run Tryz.prog w = .ok (.tuple #[.slice none 0 0, .bool false]) w := by kernel_rfl
@[go_sem] theorem fact38 (v : Value) (w : World) : (Instr.typeAssert (.iface 76 v) 20 39 true).run Tryz.prog w = .ok (.tuple #[.slice none 0 0, .bool false]) w := by kernel_rfl
@[go_sem] theorem fact39 (v : Value) (w : World) : (Instr.typeAssert (.iface 72 v) 20 39 true).run Tryz.prog w = .ok (.tuple #[.slice none 0 0, .bool false]) w := by kernel_rfl
@[go_sem] theorem fact40 (w : World) : (Instr.typeAssert .nilIface 20 41 true).run Tryz.prog w = .ok (.tuple #[.map none, .bool false]) w := by kernel_rfl
@[go_sem] theorem fact41 (v : Value) (w : World) : (Instr.typeAssert (.iface 3 v) 20 41 true).run Tryz.prog w = .ok (.tuple #[.map none, .bool false]) w := by kernel_rfl
@[go_sem] theorem fact42 (v : Value) (w : World) : (Instr.typeAssert (.iface 9 v) 20 41 true).run Tryz.prog w = .ok (.tuple #[.map none, .bool false]) w := by kernel_rfl
@[go_sem] theorem fact43 (v : Value) (w : World) : (Instr.typeAssert (.iface 39 v) 20 41 true).run Tryz.prog w = .ok (.tuple #[.map none, .bool false]) w := by kernel_rfl
@[go_sem] theorem fact44 (v : Value) (w : World) : (Instr.typeAssert (.iface 41 v) 20 41 true).run Tryz.prog w = .ok (.tuple #[v, .bool true]) w := by kernel_rfl
@[go_sem] theorem fact45 (v : Value) (w : World) : (Instr.typeAssert (.iface 43 v) 20 41 true).run Tryz.prog w = .ok (.tuple #[.map none, .bool false]) w := by kernel_rfl
@[go_sem] theorem fact46 (v : Value) (w : World) : (Instr.typeAssert (.iface 70 v) 20 41 true).run Tryz.prog w = .ok (.tuple #[.map none, .bool false]) w := by kernel_rfl
@[go_sem] theorem fact47 (v : Value) (w : World) : (Instr.typeAssert (.iface 4 v) 20 41 true).run Tryz.prog w = .ok (.tuple #[.map none, .bool false]) w := by kernel_rfl
@[go_sem] theorem fact48 (v : Value) (w : World) : (Instr.typeAssert (.iface 62 v) 20 41 true).run Tryz.prog w = .ok (.tuple #[.map none, .bool false]) w := by kernel_rfl
@[go_sem] theorem fact49 (v : Value) (w : World) : (Instr.typeAssert (.iface 57 v) 20 41 true).run Tryz.prog w = .ok (.tuple #[.map none, .bool false]) w := by kernel_rfl
@[go_sem] theorem fact50 (v : Value) (w : World) : (Instr.typeAssert (.iface 49 v) 20 41 true).run Tryz.prog w = .ok (.tuple #[.map none, .bool false]) w := by kernel_rfl
@[go_sem] theorem fact51 (v : Value) (w : World) : (Instr.typeAssert (.iface 76 v) 20 41 true).run Tryz.prog w = .ok (.tuple #[.map none, .bool false]) w := by kernel_rfl
@[go_sem] theorem fact52 (v : Value) (w : World) : (Instr.typeAssert (.iface 72 v) 20 41 true).run Tryz.prog w = .ok (.tuple #[.map none, .bool false]) w := by kernel_rfl
@[go_sem] theorem fact53 (w : World) : (Instr.typeAssert .nilIface 20 43 true).run Tryz.prog w = .ok (.tuple #[.agg #[], .bool false]) w := by kernel_rfl
@[go_sem] theorem fact54 (v : Value) (w : World) : (Instr.typeAssert (.iface 3 v) 20 43 true).run Tryz.prog w = .ok (.tuple #[.agg #[], .bool false]) w := by kernel_rfl
@[go_sem] theorem fact55 (v : Value) (w : World) : (Instr.typeAssert (.iface 9 v) 20 43 true).run Tryz.prog w = .ok (.tuple #[.agg #[], .bool false]) w := by kernel_rfl
@[go_sem] theorem fact56 (v : Value) (w : World) : (Instr.typeAssert (.iface 39 v) 20 43 true).run Tryz.prog w = .ok (.tuple #[.agg #[], .bool false]) w := by kernel_rfl
@[go_sem] theorem fact57 (v : Value) (w : World) : (Instr.typeAssert (.iface 41 v) 20 43 true).run Tryz.prog w = .ok (.tuple #[.agg #[], .bool false]) w := by kernel_rfl
@[go_sem] theorem fact58 (v : Value) (w : World) : (Instr.typeAssert (.iface 43 v) 20 43 true).run Tryz.prog w = .ok (.tuple #[v, .bool true]) w := by kernel_rfl
@[go_sem] theorem fact59 (v : Value) (w : World) : (Instr.typeAssert (.iface 70 v) 20 43 true).run Tryz.prog w = .ok (.tuple #[.agg #[], .bool false]) w := by kernel_rfl
@[go_sem] theorem fact60 (v : Value) (w : World) : (Instr.typeAssert (.iface 4 v) 20 43 true).run Tryz.prog w = .ok (.tuple #[.agg #[], .bool false]) w := by kernel_rfl
@[go_sem] theorem fact61 (v : Value) (w : World) : (Instr.typeAssert (.iface 62 v) 20 43 true).run Tryz.prog w = .ok (.tuple #[.agg #[], .bool false]) w := by kernel_rfl
@[go_sem] theorem fact62 (v : Value) (w : World) : (Instr.typeAssert (.iface 57 v) 20 43 true).run Tryz.prog w = .ok (.tuple #[.agg #[], .bool false]) w := by kernel_rfl
@[go_sem] theorem fact63 (v : Value) (w : World) : (Instr.typeAssert (.iface 49 v) 20 43 true).run Tryz.prog w = .ok (.tuple #[.agg #[], .bool false]) w := by kernel_rfl
@[go_sem] theorem fact64 (v : Value) (w : World) : (Instr.typeAssert (.iface 76 v) 20 43 true).run Tryz.prog w = .ok (.tuple #[.agg #[], .bool false]) w := by kernel_rfl
@[go_sem] theorem fact65 (v : Value) (w : World) : (Instr.typeAssert (.iface 72 v) 20 43 true).run Tryz.prog w = .ok (.tuple #[.agg #[], .bool false]) w := by kernel_rfl
@[go_sem] theorem fact66 (w : World) : (Instr.typeAssert .nilIface 20 70 true).run Tryz.prog w = .ok (.tuple #[.float .f64 0, .bool false]) w := by kernel_rfl
@[go_sem] theorem fact67 (v : Value) (w : World) : (Instr.typeAssert (.iface 3 v) 20 70 true).run Tryz.prog w = .ok (.tuple #[.float .f64 0, .bool false]) w := by kernel_rfl
@[go_sem] theorem fact68 (v : Value) (w : World) : (Instr.typeAssert (.iface 9 v) 20 70 true).run Tryz.prog w = .ok (.tuple #[.float .f64 0, .bool false]) w := by kernel_rfl
@[go_sem] theorem fact69 (v : Value) (w : World) : (Instr.typeAssert (.iface 39 v) 20 70 true).run Tryz.prog w = .ok (.tuple #[.float .f64 0, .bool false]) w := by kernel_rfl
@[go_sem] theorem fact70 (v : Value) (w : World) : (Instr.typeAssert (.iface 41 v) 20 70 true).run Tryz.prog w = .ok (.tuple #[.float .f64 0, .bool false]) w := by kernel_rfl
@[go_sem] theorem fact71 (v : Value) (w : World) : (Instr.typeAssert (.iface 43 v) 20 70 true).run Tryz.prog w = .ok (.tuple #[.float .f64 0, .bool false]) w := by kernel_rfl
@[go_sem] theorem fact72 (v : Value) (w : World) : (Instr.typeAssert (.iface 70 v) 20 70 true).run Tryz.prog w = .ok (.tuple #[v, .bool true]) w := by kernel_rfl
@[go_sem] theorem fact73 (v : Value) (w : World) : (Instr.typeAssert (.iface 4 v) 20 70 true).run Tryz.prog w = .ok (.tuple #[.float .f64 0, .bool false]) w := by kernel_rfl
@[go_sem] theorem fact74 (v : Value) (w : World) : (Instr.typeAssert (.iface 62 v) 20 70 true).run Tryz.prog w = .ok (.tuple #[.float .f64 0, .bool false]) w := by kernel_rfl
@[go_sem] theorem fact75 (v : Value) (w : World) : (Instr.typeAssert (.iface 57 v) 20 70 true).run Tryz.prog w = .ok (.tuple #[.float .f64 0, .bool false]) w := by kernel_rfl
@[go_sem] theorem fact76 (v : Value) (w : World) : (Instr.typeAssert (.iface 49 v) 20 70 true).run Tryz.prog w = .ok (.tuple #[.float .f64 0, .bool false]) w := by kernel_rfl
@[go_sem] theorem fact77 (v : Value) (w : World) : (Instr.typeAssert (.iface 76 v) 20 70 true).run Tryz.prog w = .ok (.tuple #[.float .f64 0, .bool false]) w := by kernel_rfl
@[go_sem] theorem fact78 (v : Value) (w : World) : (Instr.typeAssert (.iface 72 v) 20 70 true).run Tryz.prog w = .ok (.tuple #[.float .f64 0, .bool false]) w := by kernel_rfl
@[go_sem] theorem fact79 (w : World) : (Instr.typeAssert .nilIface 20 72 true).run Tryz.prog w = .ok (.tuple #[.pointer none, .bool false]) w := by kernel_rfl
@[go_sem] theorem fact80 (v : Value) (w : World) : (Instr.typeAssert (.iface 3 v) 20 72 true).run Tryz.prog w = .ok (.tuple #[.pointer none, .bool false]) w := by kernel_rfl
@[go_sem] theorem fact81 (v : Value) (w : World) : (Instr.typeAssert (.iface 9 v) 20 72 true).run Tryz.prog w = .ok (.tuple #[.pointer none, .bool false]) w := by kernel_rfl
@[go_sem] theorem fact82 (v : Value) (w : World) : (Instr.typeAssert (.iface 39 v) 20 72 true).run Tryz.prog w = .ok (.tuple #[.pointer none, .bool false]) w := by kernel_rfl
@[go_sem] theorem fact83 (v : Value) (w : World) : (Instr.typeAssert (.iface 41 v) 20 72 true).run Tryz.prog w = .ok (.tuple #[.pointer none, .bool false]) w := by kernel_rfl
@[go_sem] theorem fact84 (v : Value) (w : World) : (Instr.typeAssert (.iface 43 v) 20 72 true).run Tryz.prog w = .ok (.tuple #[.pointer none, .bool false]) w := by kernel_rfl
@[go_sem] theorem fact85 (v : Value) (w : World) : (Instr.typeAssert (.iface 70 v) 20 72 true).run Tryz.prog w = .ok (.tuple #[.pointer none, .bool false]) w := by kernel_rfl
@[go_sem] theorem fact86 (v : Value) (w : World) : (Instr.typeAssert (.iface 4 v) 20 72 true).run Tryz.prog w = .ok (.tuple #[.pointer none, .bool false]) w := by kernel_rfl
@[go_sem] theorem fact87 (v : Value) (w : World) : (Instr.typeAssert (.iface 62 v) 20 72 true).run Tryz.prog w = .ok (.tuple #[.pointer none, .bool false]) w := by kernel_rfl
@[go_sem] theorem fact88 (v : Value) (w : World) : (Instr.typeAssert (.iface 57 v) 20 72 true).run Tryz.prog w = .ok (.tuple #[.pointer none, .bool false]) w := by kernel_rfl
@[go_sem] theorem fact89 (v : Value) (w : World) : (Instr.typeAssert (.iface 49 v) 20 72 true).run Tryz.prog w = .ok (.tuple #[.pointer none, .bool false]) w := by kernel_rfl
@[go_sem] theorem fact90 (v : Value) (w : World) : (Instr.typeAssert (.iface 76 v) 20 72 true).run Tryz.prog w = .ok (.tuple #[.pointer none, .bool false]) w := by kernel_rfl
@[go_sem] theorem fact91 (v : Value) (w : World) : (Instr.typeAssert (.iface 72 v) 20 72 true).run Tryz.prog w = .ok (.tuple #[v, .bool true]) w := by kernel_rfl
@[go_sem] theorem fact92 (w : World) : (Instr.typeAssert .nilIface 20 76 true).run Tryz.prog w = .ok (.tuple #[.string ⟨#[]⟩, .bool false]) w := by kernel_rfl
@[go_sem] theorem fact93 (v : Value) (w : World) : (Instr.typeAssert (.iface 3 v) 20 76 true).run Tryz.prog w = .ok (.tuple #[.string ⟨#[]⟩, .bool false]) w := by kernel_rfl
@[go_sem] theorem fact94 (v : Value) (w : World) : (Instr.typeAssert (.iface 9 v) 20 76 true).run Tryz.prog w = .ok (.tuple #[.string ⟨#[]⟩, .bool false]) w := by kernel_rfl
@[go_sem] theorem fact95 (v : Value) (w : World) : (Instr.typeAssert (.iface 39 v) 20 76 true).run Tryz.prog w = .ok (.tuple #[.string ⟨#[]⟩, .bool false]) w := by kernel_rfl
@[go_sem] theorem fact96 (v : Value) (w : World) : (Instr.typeAssert (.iface 41 v) 20 76 true).run Tryz.prog w = .ok (.tuple #[.string ⟨#[]⟩, .bool false]) w := by kernel_rfl
@[go_sem] theorem fact97 (v : Value) (w : World) : (Instr.typeAssert (.iface 43 v) 20 76 true).run Tryz.prog w = .ok (.tuple #[.string ⟨#[]⟩, .bool false]) w := by kernel_rfl
@[go_sem] theorem fact98 (v : Value) (w : World) : (Instr.typeAssert (.iface 70 v) 20 76 true).run Tryz.prog w = .ok (.tuple #[.string ⟨#[]⟩, .bool false]) w := by kernel_rfl
@[go_sem] theorem fact99 (v : Value) (w : World) : (Instr.typeAssert (.iface 4 v) 20 76 true).run Tryz.prog w = .ok (.tuple #[.string ⟨#[]⟩, .bool false]) w := by kernel_rfl
@[go_sem] theorem fact100 (v : Value) (w : World) : (Instr.typeAssert (.iface 62 v) 20 76 true).run Tryz.prog w = .ok (.tuple #[.string ⟨#[]⟩, .bool false]) w := by kernel_rfl
@[go_sem] theorem fact101 (v : Value) (w : World) : (Instr.typeAssert (.iface 57 v) 20 76 true).run Tryz.prog w = .ok (.tuple #[.string ⟨#[]⟩, .bool false]) w := by kernel_rfl
@[go_sem] theorem fact102 (v : Value) (w : World) : (Instr.typeAssert (.iface 49 v) 20 76 true).run Tryz.prog w = .ok (.tuple #[.string ⟨#[]⟩, .bool false]) w := by kernel_rfl
@[go_sem] theorem fact103 (v : Value) (w : World) : (Instr.typeAssert (.iface 76 v) 20 76 true).run Tryz.prog w = .ok (.tuple #[v, .bool true]) w := by kernel_rfl
@[go_sem] theorem fact104 (v : Value) (w : World) : (Instr.typeAssert (.iface 72 v) 20 76 true).run Tryz.prog w = .ok (.tuple #[.string ⟨#[]⟩, .bool false]) w := by kernel_rfl
@[go_sem] theorem fact105 (w : World) : (Instr.typeAssert .nilIface 20 4 true).run Tryz.prog w = .ok (.tuple #[.bool false, .bool false]) w := by kernel_rfl
@[go_sem] theorem fact106 (v : Value) (w : World) : (Instr.typeAssert (.iface 3 v) 20 4 true).run Tryz.prog w = .ok (.tuple #[.bool false, .bool false]) w := by kernel_rfl
@[go_sem] theorem fact107 (v : Value) (w : World) : (Instr.typeAssert (.iface 9 v) 20 4 true).run Tryz.prog w = .ok (.tuple #[.bool false, .bool false]) w := by kernel_rfl
@[go_sem] theorem fact108 (v : Value) (w : World) : (Instr.typeAssert (.iface 39 v) 20 4 true).run Tryz.prog w = .ok (.tuple #[.bool false, .bool false]) w := by kernel_rfl
@[go_sem] theorem fact109 (v : Value) (w : World) : (Instr.typeAssert (.iface 41 v) 20 4 true).run Tryz.prog w = .ok (.tuple #[.bool false, .bool false]) w := by kernel_rfl
@[go_sem] theorem fact110 (v : Value) (w : World) : (Instr.typeAssert (.iface 43 v) 20 4 true).run Tryz.prog w = .ok (.tuple #[.bool false, .bool false]) w := by kernel_rfl
@[go_sem] theorem fact111 (v : Value) (w : World) : (Instr.typeAssert (.iface 70 v) 20 4 true).run Tryz.prog w = .ok (.tuple #[.bool false, .bool false]) w := by kernel_rfl
@[go_sem] theorem fact112 (v : Value) (w : World) : (Instr.typeAssert (.iface 4 v) 20 4 true).run Tryz.prog w = .ok (.tuple #[v, .bool true]) w := by kernel_rfl
@[go_sem] theorem fact113 (v : Value) (w : World) : (Instr.typeAssert (.iface 62 v) 20 4 true).run Tryz.prog w = .ok (.tuple #[.bool false, .bool false]) w := by kernel_rfl
@[go_sem] theorem fact114 (v : Value) (w : World) : (Instr.typeAssert (.iface 57 v) 20 4 true).run Tryz.prog w = .ok (.tuple #[.bool false, .bool false]) w := by kernel_rfl
@[go_sem] theorem fact115 (v : Value) (w : World) : (Instr.typeAssert (.iface 49 v) 20 4 true).run Tryz.prog w = .ok (.tuple #[.bool false, .bool false]) w := by kernel_rfl
@[go_sem] theorem fact116 (v : Value) (w : World) : (Instr.typeAssert (.iface 76 v) 20 4 true).run Tryz.prog w = .ok (.tuple #[.bool false, .bool false]) w := by kernel_rfl
@[go_sem] theorem fact117 (v : Value) (w : World) : (Instr.typeAssert (.iface 72 v) 20 4 true).run Tryz.prog w = .ok (.tuple #[.bool false, .bool false]) w := by kernel_rfl
@[go_sem] theorem fact118 (w : World) : (Instr.typeAssert .nilIface 36 65 true).run Tryz.prog w = .ok (.tuple #[.pointer none, .bool false]) w := by kernel_rfl
@[go_sem] theorem fact119 (v : Value) (w : World) : (Instr.typeAssert (.iface 65 v) 36 65 true).run Tryz.prog w = .ok (.tuple #[v, .bool true]) w := by kernel_rfl
@[go_sem] theorem fact120 (v : Value) (w : World) : (Instr.typeAssert (.iface 68 v) 36 65 true).run Tryz.prog w = .ok (.tuple #[.pointer none, .bool false]) w := by kernel_rfl
@[go_sem] theorem fact121 (v : Value) (w : World) : (Instr.typeAssert (.iface 81 v) 36 65 true).run Tryz.prog w = .ok (.tuple #[.pointer none, .bool false]) w := by kernel_rfl
@[go_sem] theorem fact122 (v : Value) (w : World) : (Instr.typeAssert (.iface 62 v) 36 65 true).run Tryz.prog w = .ok (.tuple #[.pointer none, .bool false]) w := by kernel_rfl
@[go_sem] theorem fact123 (v : Value) (w : World) : (Instr.typeAssert (.iface 57 v) 36 65 true).run Tryz.prog w = .ok (.tuple #[.pointer none, .bool false]) w := by kernel_rfl
@[go_sem] theorem fact124 (v : Value) (w : World) : (Instr.typeAssert (.iface 83 v) 36 65 true).run Tryz.prog w = .ok (.tuple #[.pointer none, .bool false]) w := by kernel_rfl
@[go_sem] theorem fact125 (v : Value) (w : World) : (Instr.typeAssert (.iface 51 v) 36 65 true).run Tryz.prog w = .ok (.tuple #[.pointer none, .bool false]) w := by kernel_rfl
@[go_sem] theorem fact126 (w : World) : (Instr.typeAssert .nilIface 36 68 true).run Tryz.prog w = .ok (.tuple #[.pointer none, .bool false]) w := by kernel_rfl
@[go_sem] theorem fact127 (v : Value) (w : World) : (Instr.typeAssert (.iface 65 v) 36 68 true).run Tryz.prog w = .ok (.tuple #[.pointer none, .bool false]) w := by kernel_rfl
@[go_sem] theorem fact128 (v : Value) (w : World) : (Instr.typeAssert (.iface 68 v) 36 68 true).run Tryz.prog w = .ok (.tuple #[v, .bool true]) w := by kernel_rfl
@[go_sem] theorem fact129 (v : Value) (w : World) : (Instr.typeAssert (.iface 81 v) 36 68 true).run Tryz.prog w = .ok (.tuple #[.pointer none, .bool false]) w := by kernel_rfl
@[go_sem] theorem fact130 (v : Value) (w : World) : (Instr.typeAssert (.iface 62 v) 36 68 true).run Tryz.prog w = .ok (.tuple #[.pointer none, .bool false]) w := by kernel_rfl
@[go_sem] theorem fact131 (v : Value) (w : World) : (Instr.typeAssert (.iface 57 v) 36 68 true).run Tryz.prog w = .ok (.tuple #[.pointer none, .bool false]) w := by kernel_rfl
@[go_sem] theorem fact132 (v : Value) (w : World) : (Instr.typeAssert (.iface 83 v) 36 68 true).run Tryz.prog w = .ok (.tuple #[.pointer none, .bool false]) w := by kernel_rfl
@[go_sem] theorem fact133 (v : Value) (w : World) : (Instr.typeAssert (.iface 51 v) 36 68 true).run Tryz.prog w = .ok (.tuple #[.pointer none, .bool false]) w := by kernel_rfl
@[go_sem] theorem fact134 (w : World) : (Instr.typeAssert .nilIface 36 81 true).run Tryz.prog w = .ok (.tuple #[.pointer none, .bool false]) w := by kernel_rfl
@[go_sem] theorem fact135 (v : Value) (w : World) : (Instr.typeAssert (.iface 65 v) 36 81 true).run Tryz.prog w = .ok (.tuple #[.pointer none, .bool false]) w := by kernel_rfl
@[go_sem] theorem fact136 (v : Value) (w : World) : (Instr.typeAssert (.iface 68 v) 36 81 true).run Tryz.prog w = .ok (.tuple #[.pointer none, .bool false]) w := by kernel_rfl
@[go_sem] theorem fact137 (v : Value) (w : World) : (Instr.typeAssert (.iface 81 v) 36 81 true).run Tryz.prog w = .ok (.tuple #[v, .bool true]) w := by kernel_rfl
@[go_sem] theorem fact138 (v : Value) (w : World) : (Instr.typeAssert (.iface 62 v) 36 81 true).run Tryz.prog w = .ok (.tuple #[.pointer none, .bool false]) w := by kernel_rfl
@[go_sem] theorem fact139 (v : Value) (w : World) : (Instr.typeAssert (.iface 57 v) 36 81 true).run Tryz.prog w = .ok (.tuple #[.pointer none, .bool false]) w := by kernel_rfl
@[go_sem] theorem fact140 (v : Value) (w : World) : (Instr.typeAssert (.iface 83 v) 36 81 true).run Tryz.prog w = .ok (.tuple #[.pointer none, .bool false]) w := by kernel_rfl
@[go_sem] theorem fact141 (v : Value) (w : World) : (Instr.typeAssert (.iface 51 v) 36 81 true).run Tryz.prog w = .ok (.tuple #[.pointer none, .bool false]) w := by kernel_rfl
@[go_sem] theorem fact142 (w : World) : (Instr.typeAssert .nilIface 36 62 true).run Tryz.prog w = .ok (.tuple #[.pointer none, .bool false]) w := by kernel_rfl
@[go_sem] theorem fact143 (v : Value) (w : World) : (Instr.typeAssert (.iface 65 v) 36 62 true).run Tryz.prog w = .ok (.tuple #[.pointer none, .bool false]) w := by kernel_rfl
@[go_sem] theorem fact144 (v : Value) (w : World) : (Instr.typeAssert (.iface 68 v) 36 62 true).run Tryz.prog w = .ok (.tuple #[.pointer none, .bool false]) w := by kernel_rfl
@[go_sem] theorem fact145 (v : Value) (w : World) : (Instr.typeAssert (.iface 81 v) 36 62 true).run Tryz.prog w = .ok (.tuple #[.pointer none, .bool false]) w := by kernel_rfl
@[go_sem] theorem fact146 (v : Value) (w : World) : (Instr.typeAssert (.iface 62 v) 36 62 true).run Tryz.prog w = .ok (.tuple #[v, .bool true]) w := by kernel_rfl
@[go_sem] theorem fact147 (v : Value) (w : World) : (Instr.typeAssert (.iface 57 v) 36 62 true).run Tryz.prog w = .ok (.tuple #[.pointer none, .bool false]) w := by kernel_rfl
@[go_sem] theorem fact148 (v : Value) (w : World) : (Instr.typeAssert (.iface 83 v) 36 62 true).run Tryz.prog w = .ok (.tuple #[.pointer none, .bool false]) w := by kernel_rfl
@[go_sem] theorem fact149 (v : Value) (w : World) : (Instr.typeAssert (.iface 51 v) 36 62 true).run Tryz.prog w = .ok (.tuple #[.pointer none, .bool false]) w := by kernel_rfl
@[go_sem] theorem fact150 (w : World) : (Instr.typeAssert .nilIface 36 57 true).run Tryz.prog w = .ok (.tuple #[.pointer none, .bool false]) w := by kernel_rfl
@[go_sem] theorem fact151 (v : Value) (w : World) : (Instr.typeAssert (.iface 65 v) 36 57 true).run Tryz.prog w = .ok (.tuple #[.pointer none, .bool false]) w := by kernel_rfl
@[go_sem] theorem fact152 (v : Value) (w : World) : (Instr.typeAssert (.iface 68 v) 36 57 true).run Tryz.prog w = .ok (.tuple #[.pointer none, .bool false]) w := by kernel_rfl
@[go_sem] theorem fact153 (v : Value) (w : World) : (Instr.typeAssert (.iface 81 v) 36 57 true).run Tryz.prog w = .ok (.tuple #[.pointer none, .bool false]) w := by kernel_rfl
@[go_sem] theorem fact154 (v : Value) (w : World) : (Instr.typeAssert (.iface 62 v) 36 57 true).run Tryz.prog w = .ok (.tuple #[.pointer none, .bool false]) w := by kernel_rfl
@[go_sem] theorem fact155 (v : Value) (w : World) : (Instr.typeAssert (.iface 57 v) 36 57 true).run Tryz.prog w = .ok (.tuple #[v, .bool true]) w := by kernel_rfl
@[go_sem] theorem fact156 (v : Value) (w : World) : (Instr.typeAssert (.iface 83 v) 36 57 true).run Tryz.prog w = .ok (.tuple #[.pointer none, .bool false]) w := by kernel_rfl
@[go_sem] theorem fact157 (v : Value) (w : World) : (Instr.typeAssert (.iface 51 v) 36 57 true).run Tryz.prog w = .ok (.tuple #[.pointer none, .bool false]) w := by kernel_rfl
@[go_sem] theorem fact158 (w : World) : (Instr.typeAssert .nilIface 36 83 true).run Tryz.prog w = .ok (.tuple #[.pointer none, .bool false]) w := by kernel_rfl
@[go_sem] theorem fact159 (v : Value) (w : World) : (Instr.typeAssert (.iface 65 v) 36 83 true).run Tryz.prog w = .ok (.tuple #[.pointer none, .bool false]) w := by kernel_rfl
@[go_sem] theorem fact160 (v : Value) (w : World) : (Instr.typeAssert (.iface 68 v) 36 83 true).run Tryz.prog w = .ok (.tuple #[.pointer none, .bool false]) w := by kernel_rfl
@[go_sem] theorem fact161 (v : Value) (w : World) : (Instr.typeAssert (.iface 81 v) 36 83 true).run Tryz.prog w = .ok (.tuple #[.pointer none, .bool false]) w := by kernel_rfl
@[go_sem] theorem fact162 (v : Value) (w : World) : (Instr.typeAssert (.iface 62 v) 36 83 true).run Tryz.prog w = .ok (.tuple #[.pointer none, .bool false]) w := by kernel_rfl
@[go_sem] theorem fact163 (v : Value) (w : World) : (Instr.typeAssert (.iface 57 v) 36 83 true).run Tryz.prog w = .ok (.tuple #[.pointer none, .bool false]) w := by kernel_rfl
@[go_sem] theorem fact164 (v : Value) (w : World) : (Instr.typeAssert (.iface 83 v) 36 83 true).run Tryz.prog w = .ok (.tuple #[v, .bool true]) w := by kernel_rfl
@[go_sem] theorem fact165 (v : Value) (w : World) : (Instr.typeAssert (.iface 51 v) 36 83 true).run Tryz.prog w = .ok (.tuple #[.pointer none, .bool false]) w := by kernel_rfl
@[go_sem] theorem fact166 (w : World) : (Instr.typeAssert .nilIface 36 51 true).run Tryz.prog w = .ok (.tuple #[.pointer none, .bool false]) w := by kernel_rfl
@[go_sem] theorem fact167 (v : Value) (w : World) : (Instr.typeAssert (.iface 65 v) 36 51 true).run Tryz.prog w = .ok (.tuple #[.pointer none, .bool false]) w := by kernel_rfl
@[go_sem] theorem fact168 (v : Value) (w : World) : (Instr.typeAssert (.iface 68 v) 36 51 true).run Tryz.prog w = .ok (.tuple #[.pointer none, .bool false]) w := by kernel_rfl
@[go_sem] theorem fact169 (v : Value) (w : World) : (Instr.typeAssert (.iface 81 v) 36 51 true).run Tryz.prog w = .ok (.tuple #[.pointer none, .bool false]) w := by kernel_rfl
@[go_sem] theorem fact170 (v : Value) (w : World) : (Instr.typeAssert (.iface 62 v) 36 51 true).run Tryz.prog w = .ok (.tuple #[.pointer none, .bool false]) w := by kernel_rfl
@[go_sem] theorem fact171 (v : Value) (w : World) : (Instr.typeAssert (.iface 57 v) 36 51 true).run Tryz.prog w = .ok (.tuple #[.pointer none, .bool false]) w := by kernel_rfl
@[go_sem] theorem fact172 (v : Value) (w : World) : (Instr.typeAssert (.iface 83 v) 36 51 true).run Tryz.prog w = .ok (.tuple #[.pointer none, .bool false]) w := by kernel_rfl
@[go_sem] theorem fact173 (v : Value) (w : World) : (Instr.typeAssert (.iface 51 v) 36 51 true).run Tryz.prog w = .ok (.tuple #[v, .bool true]) w := by kernel_rfl
@[go_sem] theorem fact174 (v : Value) (w : World) : (Instr.typeAssert (.iface 49 v) 20 49 false).run Tryz.prog w = .ok v w := by kernel_rfl
@[go_sem] theorem fact175 (v : Value) (w : World) : (Instr.typeAssert (.iface 3 v) 20 36 true).run Tryz.prog w = .ok (.tuple #[.nilIface, .bool false]) w := run_typeAssert_lacksB Tryz.underlying36 (by kernel_rfl) (by kernel_rfl) v 20 w
@[go_sem] theorem fact176 (v : Value) (w : World) : (Instr.typeAssert (.iface 9 v) 20 36 true).run Tryz.prog w = .ok (.tuple #[.nilIface, .bool false]) w := run_typeAssert_lacksB Tryz.underlying36 (by kernel_rfl) (by kernel_rfl) v 20 w
@[go_sem] theorem fact177 (v : Value) (w : World) : (Instr.typeAssert (.iface 39 v) 20 36 true).run Tryz.prog w = .ok (.tuple #[.nilIface, .bool false]) w := run_typeAssert_lacksB Tryz.underlying36 (by kernel_rfl) (by kernel_rfl) v 20 w
@[go_sem] theorem fact178 (v : Value) (w : World) : (Instr.typeAssert (.iface 41 v) 20 36 true).run Tryz.prog w = .ok (.tuple #[.nilIface, .bool false]) w := run_typeAssert_lacksB Tryz.underlying36 (by kernel_rfl) (by kernel_rfl) v 20 w
@[go_sem] theorem fact179 (v : Value) (w : World) : (Instr.typeAssert (.iface 43 v) 20 36 true).run Tryz.prog w = .ok (.tuple #[.nilIface, .bool false]) w := run_typeAssert_lacksB Tryz.underlying36 (by kernel_rfl) (by kernel_rfl) v 20 w
@[go_sem] theorem fact180 (v : Value) (w : World) : (Instr.typeAssert (.iface 70 v) 20 36 true).run Tryz.prog w = .ok (.tuple #[.nilIface, .bool false]) w := run_typeAssert_lacksB Tryz.underlying36 (by kernel_rfl) (by kernel_rfl) v 20 w
@[go_sem] theorem fact181 (v : Value) (w : World) : (Instr.typeAssert (.iface 4 v) 20 36 true).run Tryz.prog w = .ok (.tuple #[.nilIface, .bool false]) w := run_typeAssert_lacksB Tryz.underlying36 (by kernel_rfl) (by kernel_rfl) v 20 w
@[go_sem] theorem fact182 (v : Value) (w : World) : (Instr.typeAssert (.iface 62 v) 20 36 true).run Tryz.prog w = .ok (.tuple #[.iface 62 v, .bool true]) w := run_typeAssert_hasB Tryz.underlying36 (by kernel_rfl) v 20 w
@[go_sem] theorem fact183 (v : Value) (w : World) : (Instr.typeAssert (.iface 57 v) 20 36 true).run Tryz.prog w = .ok (.tuple #[.iface 57 v, .bool true]) w := run_typeAssert_hasB Tryz.underlying36 (by kernel_rfl) v 20 w
@[go_sem] theorem fact184 (v : Value) (w : World) : (Instr.typeAssert (.iface 49 v) 20 36 true).run Tryz.prog w = .ok (.tuple #[.nilIface, .bool false]) w := run_typeAssert_lacksB Tryz.underlying36 (by kernel_rfl) (by kernel_rfl) v 20 w
@[go_sem] theorem fact185 (v : Value) (w : World) : (Instr.typeAssert (.iface 76 v) 20 36 true).run Tryz.prog w = .ok (.tuple #[.nilIface, .bool false]) w := run_typeAssert_lacksB Tryz.underlying36 (by kernel_rfl) (by kernel_rfl) v 20 w
@[go_sem] theorem fact186 (v : Value) (w : World) : (Instr.typeAssert (.iface 72 v) 20 36 true).run Tryz.prog w = .ok (.tuple #[.nilIface, .bool false]) w := run_typeAssert_lacksB Tryz.underlying36 (by kernel_rfl) (by kernel_rfl) v 20 w
@[go_sem] theorem fact187 (v : Value) (w : World) : (Instr.typeAssert (.iface 65 v) 20 36 true).run Tryz.prog w = .ok (.tuple #[.iface 65 v, .bool true]) w := run_typeAssert_hasB Tryz.underlying36 (by kernel_rfl) v 20 w
@[go_sem] theorem fact188 (v : Value) (w : World) : (Instr.typeAssert (.iface 68 v) 20 36 true).run Tryz.prog w = .ok (.tuple #[.iface 68 v, .bool true]) w := run_typeAssert_hasB Tryz.underlying36 (by kernel_rfl) v 20 w
@[go_sem] theorem fact189 (v : Value) (w : World) : (Instr.typeAssert (.iface 81 v) 20 36 true).run Tryz.prog w = .ok (.tuple #[.iface 81 v, .bool true]) w := run_typeAssert_hasB Tryz.underlying36 (by kernel_rfl) v 20 w
@[go_sem] theorem fact190 (v : Value) (w : World) : (Instr.typeAssert (.iface 62 v) 20 36 true).run Tryz.prog w = .ok (.tuple #[.iface 62 v, .bool true]) w := run_typeAssert_hasB Tryz.underlying36 (by kernel_rfl) v 20 w
@[go_sem] theorem fact191 (v : Value) (w : World) : (Instr.typeAssert (.iface 57 v) 20 36 true).run Tryz.prog w = .ok (.tuple #[.iface 57 v, .bool true]) w := run_typeAssert_hasB Tryz.underlying36 (by kernel_rfl) v 20 w
@[go_sem] theorem fact192 (v : Value) (w : World) : (Instr.typeAssert (.iface 83 v) 20 36 true).run Tryz.prog w = .ok (.tuple #[.iface 83 v, .bool true]) w := run_typeAssert_hasB Tryz.underlying36 (by kernel_rfl) v 20 w
@[go_sem] theorem fact193 (v : Value) (w : World) : (Instr.typeAssert (.iface 51 v) 20 36 true).run Tryz.prog w = .ok (.tuple #[.iface 51 v, .bool true]) w := run_typeAssert_hasB Tryz.underlying36 (by kernel_rfl) v 20 w
@[go_sem] theorem fact194 (w : World) : (Instr.typeAssert .nilIface 20 36 true).run Tryz.prog w = .ok (.tuple #[.nilIface, .bool false]) w := by kernel_rfl
@[go_sem] theorem fact195 (v : Value) (w : World) : (binOp .eql 20 (.iface 3 v) (.iface 43 (.agg #[]))).run Tryz.prog w = .ok (.bool false) w := by kernel_rfl
@[go_sem] theorem fact196 (v : Value) (w : World) : (binOp .eql 20 (.iface 3 v) .nilIface).run Tryz.prog w = .ok (.bool false) w := by kernel_rfl
@[go_sem] theorem fact197 (v : Value) (w : World) : (binOp .eql 20 (.iface 9 v) (.iface 43 (.agg #[]))).run Tryz.prog w = .ok (.bool false) w := by kernel_rfl
@[go_sem] theorem fact198 (v : Value) (w : World) : (binOp .eql 20 (.iface 9 v) .nilIface).run Tryz.prog w = .ok (.bool false) w := by kernel_rfl
@[go_sem] theorem fact199 (v : Value) (w : World) : (binOp .eql 20 (.iface 39 v) (.iface 43 (.agg #[]))).run Tryz.prog w = .ok (.bool false) w := by kernel_rfl
@[go_sem] theorem fact200 (v : Value) (w : World) : (binOp .eql 20 (.iface 39 v) .nilIface).run Tryz.prog w = .ok (.bool false) w := by kernel_rfl
@[go_sem] theorem fact201 (v : Value) (w : World) : (binOp .eql 20 (.iface 41 v) (.iface 43 (.agg #[]))).run Tryz.prog w = .ok (.bool false) w := by kernel_rfl
@[go_sem] theorem fact202 (v : Value) (w : World) : (binOp .eql 20 (.iface 41 v) .nilIface).run Tryz.prog w = .ok (.bool false) w := by kernel_rfl
@[go_sem] theorem fact203 (w : World) : (binOp .eql 20 (.iface 43 (.agg #[])) (.iface 43 (.agg #[]))).run Tryz.prog w = .ok (.bool true) w := by kernel_rfl
@[go_sem] theorem fact204 (v : Value) (w : World) : (binOp .eql 20 (.iface 43 v) .nilIface).run Tryz.prog w = .ok (.bool false) w := by kernel_rfl
@[go_sem] theorem fact205 (v : Value) (w : World) : (binOp .eql 20 (.iface 70 v) (.iface 43 (.agg #[]))).run Tryz.prog w = .ok (.bool false) w := by kernel_rfl
@[go_sem] theorem fact206 (v : Value) (w : World) : (binOp .eql 20 (.iface 70 v) .nilIface).run Tryz.prog w = .ok (.bool false) w := by kernel_rfl
@[go_sem] theorem fact207 (v : Value) (w : World) : (binOp .eql 20 (.iface 4 v) (.iface 43 (.agg #[]))).run Tryz.prog w = .ok (.bool false) w := by kernel_rfl
@[go_sem] theorem fact208 (v : Value) (w : World) : (binOp .eql 20 (.iface 4 v) .nilIface).run Tryz.prog w = .ok (.bool false) w := by kernel_rfl
@[go_sem] theorem fact209 (v : Value) (w : World) : (binOp .eql 20 (.iface 62 v) (.iface 43 (.agg #[]))).run Tryz.prog w = .ok (.bool false) w := by kernel_rfl
@[go_sem] theorem fact210 (v : Value) (w : World) : (binOp .eql 20 (.iface 62 v) .nilIface).run Tryz.prog w = .ok (.bool false) w := by kernel_rfl
@[go_sem] theorem fact211 (v : Value) (w : World) : (binOp .eql 20 (.iface 57 v) (.iface 43 (.agg #[]))).run Tryz.prog w = .ok (.bool false) w := by kernel_rfl
@[go_sem] theorem fact212 (v : Value) (w : World) : (binOp .eql 20 (.iface 57 v) .nilIface).run Tryz.prog w = .ok (.bool false) w := by kernel_rfl
@[go_sem] theorem fact213 (v : Value) (w : World) : (binOp .eql 20 (.iface 49 v) (.iface 43 (.agg #[]))).run Tryz.prog w = .ok (.bool false) w := by kernel_rfl
@[go_sem] theorem fact214 (v : Value) (w : World) : (binOp .eql 20 (.iface 49 v) .nilIface).run Tryz.prog w = .ok (.bool false) w := by kernel_rfl
@[go_sem] theorem fact215 (v : Value) (w : World) : (binOp .eql 20 (.iface 76 v) .nilIface).run Tryz.prog w = .ok (.bool false) w := by kernel_rfl
@[go_sem] theorem fact216 (v : Value) (w : World) : (binOp .eql 20 (.iface 72 v) .nilIface).run Tryz.prog w = .ok (.bool false) w := by kernel_rfl
@[go_sem] theorem fact217 (w : World) : (binOp .eql 20 .nilIface (.iface 43 (.agg #[]))).run Tryz.prog w = .ok (.bool false) w := by kernel_rfl
@[go_sem] theorem fact218 (w : World) : (binOp .eql 20 .nilIface .nilIface).run Tryz.prog w = .ok (.bool true) w := by kernel_rfl
@[go_sem] theorem fact219 (v : Value) (w : World) : (binOp .eql 36 (.iface 65 v) .nilIface).run Tryz.prog w = .ok (.bool false) w := by kernel_rfl
@[go_sem] theorem fact220 (v : Value) (w : World) : (binOp .eql 36 (.iface 68 v) .nilIface).run Tryz.prog w = .ok (.bool false) w := by kernel_rfl
@[go_sem] theorem fact221 (v : Value) (w : World) : (binOp .eql 36 (.iface 81 v) .nilIface).run Tryz.prog w = .ok (.bool false) w := by kernel_rfl
@[go_sem] theorem fact222 (v : Value) (w : World) : (binOp .eql 36 (.iface 62 v) .nilIface).run Tryz.prog w = .ok (.bool false) w := by kernel_rfl
@[go_sem] theorem fact223 (v : Value) (w : World) : (binOp .eql 36 (.iface 57 v) .nilIface).run Tryz.prog w = .ok (.bool false) w := by kernel_rfl
@[go_sem] theorem fact224 (v : Value) (w : World) : (binOp .eql 36 (.iface 83 v) .nilIface).run Tryz.prog w = .ok (.bool false) w := by kernel_rfl
@[go_sem] theorem fact225 (v : Value) (w : World) : (binOp .eql 36 (.iface 51 v) .nilIface).run Tryz.prog w = .ok (.bool false) w := by kernel_rfl
@[go_sem] theorem fact226 (w : World) : (binOp .eql 36 .nilIface .nilIface).run Tryz.prog w = .ok (.bool true) w := by kernel_rfl
@[go_sem] theorem fact227 (v : Value) (w : World) : (binOp .neq 20 (.iface 3 v) (.iface 43 (.agg #[]))).run Tryz.prog w = .ok (.bool true) w := by kernel_rfl
@[go_sem] theorem fact228 (v : Value) (w : World) : (binOp .neq 20 (.iface 3 v) .nilIface).run Tryz.prog w = .ok (.bool true) w := by kernel_rfl
@[go_sem] theorem fact229 (v : Value) (w : World) : (binOp .neq 20 (.iface 9 v) (.iface 43 (.agg #[]))).run Tryz.prog w = .ok (.bool true) w := by kernel_rfl
@[go_sem] theorem fact230 (v : Value) (w : World) : (binOp .neq 20 (.iface 9 v) .nilIface).run Tryz.prog w = .ok (.bool true) w := by kernel_rfl
@[go_sem] theorem fact231 (v : Value) (w : World) : (binOp .neq 20 (.iface 39 v) (.iface 43 (.agg #[]))).run Tryz.prog w = .ok (.bool true) w := by kernel_rfl
@[go_sem] theorem fact232 (v : Value) (w : World) : (binOp .neq 20 (.iface 39 v) .nilIface).run Tryz.prog w = .ok (.bool true) w := by kernel_rfl
@[go_sem] theorem fact233 (v : Value) (w : World) : (binOp .neq 20 (.iface 41 v) (.iface 43 (.agg #[]))).run Tryz.prog w = .ok (.bool true) w := by kernel_rfl
@[go_sem] theorem fact234 (v : Value) (w : World) : (binOp .neq 20 (.iface 41 v) .nilIface).run Tryz.prog w = .ok (.bool true) w := by kernel_rfl
@[go_sem] theorem fact235 (w : World) : (binOp .neq 20 (.iface 43 (.agg #[])) (.iface 43 (.agg #[]))).run Tryz.prog w = .ok (.bool false) w := by kernel_rfl
@[go_sem] theorem fact236 (v : Value) (w : World) : (binOp .neq 20 (.iface 43 v) .nilIface).run Tryz.prog w = .ok (.bool true) w := by kernel_rfl
@[go_sem] theorem fact237 (v : Value) (w : World) : (binOp .neq 20 (.iface 70 v) (.iface 43 (.agg #[]))).run Tryz.prog w = .ok (.bool true) w := by kernel_rfl
@[go_sem] theorem fact238 (v : Value) (w : World) : (binOp .neq 20 (.iface 70 v) .nilIface).run Tryz.prog w = .ok (.bool true) w := by kernel_rfl
@[go_sem] theorem fact239 (v : Value) (w : World) : (binOp .neq 20 (.iface 4 v) (.iface 43 (.agg #[]))).run Tryz.prog w = .ok (.bool true) w := by kernel_rfl
@[go_sem] theorem fact240 (v : Value) (w : World) : (binOp .neq 20 (.iface 4 v) .nilIface).run Tryz.prog w = .ok (.bool true) w := by kernel_rfl
@[go_sem] theorem fact241 (v : Value) (w : World) : (binOp .neq 20 (.iface 62 v) (.iface 43 (.agg #[]))).run Tryz.prog w = .ok (.bool true) w := by kernel_rfl
@[go_sem] theorem fact242 (v : Value) (w : World) : (binOp .neq 20 (.iface 62 v) .nilIface).run Tryz.prog w = .ok (.bool true) w := by kernel_rfl
@[go_sem] theorem fact243 (v : Value) (w : World) : (binOp .neq 20 (.iface 57 v) (.iface 43 (.agg #[]))).run Tryz.prog w = .ok (.bool true) w := by kernel_rfl
@[go_sem] theorem fact244 (v : Value) (w : World) : (binOp .neq 20 (.iface 57 v) .nilIface).run Tryz.prog w = .ok (.bool true) w := by kernel_rfl
@[go_sem] theorem fact245 (v : Value) (w : World) : (binOp .neq 20 (.iface 49 v) (.iface 43 (.agg #[]))).run Tryz.prog w = .ok (.bool true) w := by kernel_rfl
@[go_sem] theorem fact246 (v : Value) (w : World) : (binOp .neq 20 (.iface 49 v) .nilIface).run Tryz.prog w = .ok (.bool true) w := by kernel_rfl
@[go_sem] theorem fact247 (v : Value) (w : World) : (binOp .neq 20 (.iface 76 v) .nilIface).run Tryz.prog w = .ok (.bool true) w := by kernel_rfl
@[go_sem] theorem fact248 (v : Value) (w : World) : (binOp .neq 20 (.iface 72 v) .nilIface).run Tryz.prog w = .ok (.bool true) w := by kernel_rfl
@[go_sem] theorem fact249 (w : World) : (binOp .neq 20 .nilIface (.iface 43 (.agg #[]))).run Tryz.prog w = .ok (.bool true) w := by kernel_rfl
@[go_sem] theorem fact250 (w : World) : (binOp .neq 20 .nilIface .nilIface).run Tryz.prog w = .ok (.bool false) w := by kernel_rfl
@[go_sem] theorem fact251 (v : Value) (w : World) : (binOp .neq 36 (.iface 65 v) .nilIface).run Tryz.prog w = .ok (.bool true) w := by kernel_rfl
@[go_sem] theorem fact252 (v : Value) (w : World) : (binOp .neq 36 (.iface 68 v) .nilIface).run Tryz.prog w = .ok (.bool true) w := by kernel_rfl
@[go_sem] theorem fact253 (v : Value) (w : World) : (binOp .neq 36 (.iface 81 v) .nilIface).run Tryz.prog w = .ok (.bool true) w := by kernel_rfl
@[go_sem] theorem fact254 (v : Value) (w : World) : (binOp .neq 36 (.iface 62 v) .nilIface).run Tryz.prog w = .ok (.bool true) w := by kernel_rfl
@[go_sem] theorem fact255 (v : Value) (w : World) : (binOp .neq 36 (.iface 57 v) .nilIface).run Tryz.prog w = .ok (.bool true) w := by kernel_rfl
@[go_sem] theorem fact256 (v : Value) (w : World) : (binOp .neq 36 (.iface 83 v) .nilIface).run Tryz.prog w = .ok (.bool true) w := by kernel_rfl
@[go_sem] theorem fact257 (v : Value) (w : World) : (binOp .neq 36 (.iface 51 v) .nilIface).run Tryz.prog w = .ok (.bool true) w := by kernel_rfl
@[go_sem] theorem fact258 (w : World) : (binOp .neq 36 .nilIface .nilIface).run Tryz.prog w = .ok (.bool false) w := by kernel_rfl
@[go_sem] theorem fact259 (m : Option Nat) (w : World) : (binOp .eql 41 (.map m) (.map none)).run Tryz.prog w = .ok (.bool m.isNone) w := eql_map_nil w 41 9 20 m Tryz.underlying41
@[go_sem] theorem fact260 (m : Option Nat) (w : World) : (binOp .neq 41 (.map m) (.map none)).run Tryz.prog w = .ok (.bool (!m.isNone)) w := run_neq_map_nil w 41 9 20 m Tryz.underlying41
@[go_sem] theorem fact261 (m : Option Nat) (w : World) : (binOp .eql 49 (.map m) (.map none)).run Tryz.prog w = .ok (.bool m.isNone) w := eql_map_nil w 49 3 20 m Tryz.underlying49
@[go_sem] theorem fact262 (m : Option Nat) (w : World) : (binOp .neq 49 (.map m) (.map none)).run Tryz.prog w = .ok (.bool (!m.isNone)) w := run_neq_map_nil w 49 3 20 m Tryz.underlying49
@[go_sem] theorem fact263 (a : Option Addr) (l c : Nat) (w : World) : (binOp .eql 39 (.slice a l c) (.slice none 0 0)).run Tryz.prog w = .ok (.bool a.isNone) w := eql_slice_nil w 39 20 a l c Tryz.underlying39
@[go_sem] theorem fact264 (a : Option Addr) (l c : Nat) (w : World) : (binOp .neq 39 (.slice a l c) (.slice none 0 0)).run Tryz.prog w = .ok (.bool (!a.isNone)) w := run_neq_slice_nil w 39 20 a l c Tryz.underlying39
@[go_sem] theorem fact265 (a : Option Addr) (l c : Nat) (w : World) : (binOp .eql 22 (.slice a l c) (.slice none 0 0)).run Tryz.prog w = .ok (.bool a.isNone) w := eql_slice_nil w 22 3 a l c Tryz.underlying22
@[go_sem] theorem fact266 (a : Option Addr) (l c : Nat) (w : World) : (binOp .neq 22 (.slice a l c) (.slice none 0 0)).run Tryz.prog w = .ok (.bool (!a.isNone)) w := run_neq_slice_nil w 22 3 a l c Tryz.underlying22
@[go_sem] theorem fact267 (a : Option Addr) (l c : Nat) (w : World) : (binOp .eql 27 (.slice a l c) (.slice none 0 0)).run Tryz.prog w = .ok (.bool a.isNone) w := eql_slice_nil w 27 4 a l c Tryz.underlying27
@[go_sem] theorem fact268 (a : Option Addr) (l c : Nat) (w : World) : (binOp .neq 27 (.slice a l c) (.slice none 0 0)).run Tryz.prog w = .ok (.bool (!a.isNone)) w := run_neq_slice_nil w 27 4 a l c Tryz.underlying27
@[go_sem] theorem fact269 (a : Option Addr) (l c : Nat) (w : World) : (binOp .eql 142 (.slice a l c) (.slice none 0 0)).run Tryz.prog w = .ok (.bool a.isNone) w := eql_slice_nil w 142 5 a l c Tryz.underlying142
@[go_sem] theorem fact270 (a : Option Addr) (l c : Nat) (w : World) : (binOp .neq 142 (.slice a l c) (.slice none 0 0)).run Tryz.prog w = .ok (.bool (!a.isNone)) w := run_neq_slice_nil w 142 5 a l c Tryz.underlying142
end Go.Proofs.YtmfebiipalaihaaGreatDoor
