/-
  What a type assertion with a second result gives, for each dynamic type that the values have and each type that is asked for: closed facts. Printed by gen_ta.py.
-/
import Derived.Test.YtpamlgdcnmcedaaGreatDoorProg
import Derived.WalkKit
namespace Go.Proofs.YtpamlgdcnmcedaaGreatDoor
set_option linter.unusedVariables false
set_option linter.unusedSimpArgs false

theorem missing_one (sig : TypeId) : ∃ m, Instr.missingMethod #[("Error", sig)] #[] = some m := by
  unfold Instr.missingMethod
  cases h : ("Error".contains (Char.ofNat 46)) <;> simp [List.partition, List.partition.loop, h, Instr.least]
theorem ta_err {P : Program} {a x t sig : TypeId} (hu : P.underlying a = some (.interface #[("Error", sig)])) (hi : (P.info? t).map (fun i => i.methods) = some #[]) (hz : ∀ w, (zeroValue a).run P w = .ok .nilIface w) (v : Value) (w : World) :
    (Instr.typeAssert (.iface t v) x a true).run P w = .ok (.tuple #[.nilIface, .bool false]) w := by
  obtain ⟨m, hm⟩ := missing_one sig
  obtain ⟨i, hi', hmm⟩ := Option.map_eq_some_iff.1 hi
  simp [Instr.typeAssert, run_underlying hu, typeInfo, hi', hmm, hm, hz]

@[go_sem ↓] theorem taBoolBool (v : Value) (w : World) : (Instr.typeAssert (.iface 4 v) 20 4 true).run Tryz.prog w = .ok (.tuple #[v, .bool true]) w := by kernel_rfl
@[go_sem ↓] theorem taBoolInt (v : Value) (w : World) : (Instr.typeAssert (.iface 4 v) 20 3 true).run Tryz.prog w = .ok (.tuple #[.int .i64 0, .bool false]) w := by kernel_rfl
@[go_sem ↓] theorem taBoolFloat (v : Value) (w : World) : (Instr.typeAssert (.iface 4 v) 20 60 true).run Tryz.prog w = .ok (.tuple #[.float .f64 0, .bool false]) w := by kernel_rfl
@[go_sem ↓] theorem taBoolString (v : Value) (w : World) : (Instr.typeAssert (.iface 4 v) 20 9 true).run Tryz.prog w = .ok (.tuple #[.string ⟨#[]⟩, .bool false]) w := by kernel_rfl
@[go_sem ↓] theorem taBoolList (v : Value) (w : World) : (Instr.typeAssert (.iface 4 v) 20 61 true).run Tryz.prog w = .ok (.tuple #[.slice none 0 0, .bool false]) w := by kernel_rfl
@[go_sem ↓] theorem taBoolMap (v : Value) (w : World) : (Instr.typeAssert (.iface 4 v) 20 64 true).run Tryz.prog w = .ok (.tuple #[.map none, .bool false]) w := by kernel_rfl
@[go_sem ↓] theorem taBoolBig (v : Value) (w : World) : (Instr.typeAssert (.iface 4 v) 20 93 true).run Tryz.prog w = .ok (.tuple #[.pointer none, .bool false]) w := by kernel_rfl
@[go_sem ↓] theorem taBoolJson (v : Value) (w : World) : (Instr.typeAssert (.iface 4 v) 20 95 true).run Tryz.prog w = .ok (.tuple #[.string ⟨#[]⟩, .bool false]) w := by kernel_rfl
@[go_sem ↓] theorem taBoolError (v : Value) (w : World) : (Instr.typeAssert (.iface 4 v) 20 47 true).run Tryz.prog w = .ok (.tuple #[.nilIface, .bool false]) w := ta_err (t := 4) Tryz.underlying47 (by kernel_rfl) (fun _ => by kernel_rfl) v w
@[go_sem ↓] theorem taIntBool (v : Value) (w : World) : (Instr.typeAssert (.iface 3 v) 20 4 true).run Tryz.prog w = .ok (.tuple #[.bool false, .bool false]) w := by kernel_rfl
@[go_sem ↓] theorem taIntInt (v : Value) (w : World) : (Instr.typeAssert (.iface 3 v) 20 3 true).run Tryz.prog w = .ok (.tuple #[v, .bool true]) w := by kernel_rfl
@[go_sem ↓] theorem taIntFloat (v : Value) (w : World) : (Instr.typeAssert (.iface 3 v) 20 60 true).run Tryz.prog w = .ok (.tuple #[.float .f64 0, .bool false]) w := by kernel_rfl
@[go_sem ↓] theorem taIntString (v : Value) (w : World) : (Instr.typeAssert (.iface 3 v) 20 9 true).run Tryz.prog w = .ok (.tuple #[.string ⟨#[]⟩, .bool false]) w := by kernel_rfl
@[go_sem ↓] theorem taIntList (v : Value) (w : World) : (Instr.typeAssert (.iface 3 v) 20 61 true).run Tryz.prog w = .ok (.tuple #[.slice none 0 0, .bool false]) w := by kernel_rfl
@[go_sem ↓] theorem taIntMap (v : Value) (w : World) : (Instr.typeAssert (.iface 3 v) 20 64 true).run Tryz.prog w = .ok (.tuple #[.map none, .bool false]) w := by kernel_rfl
@[go_sem ↓] theorem taIntBig (v : Value) (w : World) : (Instr.typeAssert (.iface 3 v) 20 93 true).run Tryz.prog w = .ok (.tuple #[.pointer none, .bool false]) w := by kernel_rfl
@[go_sem ↓] theorem taIntJson (v : Value) (w : World) : (Instr.typeAssert (.iface 3 v) 20 95 true).run Tryz.prog w = .ok (.tuple #[.string ⟨#[]⟩, .bool false]) w := by kernel_rfl
@[go_sem ↓] theorem taIntError (v : Value) (w : World) : (Instr.typeAssert (.iface 3 v) 20 47 true).run Tryz.prog w = .ok (.tuple #[.nilIface, .bool false]) w := ta_err (t := 3) Tryz.underlying47 (by kernel_rfl) (fun _ => by kernel_rfl) v w
@[go_sem ↓] theorem taFloatBool (v : Value) (w : World) : (Instr.typeAssert (.iface 60 v) 20 4 true).run Tryz.prog w = .ok (.tuple #[.bool false, .bool false]) w := by kernel_rfl
@[go_sem ↓] theorem taFloatInt (v : Value) (w : World) : (Instr.typeAssert (.iface 60 v) 20 3 true).run Tryz.prog w = .ok (.tuple #[.int .i64 0, .bool false]) w := by kernel_rfl
@[go_sem ↓] theorem taFloatFloat (v : Value) (w : World) : (Instr.typeAssert (.iface 60 v) 20 60 true).run Tryz.prog w = .ok (.tuple #[v, .bool true]) w := by kernel_rfl
@[go_sem ↓] theorem taFloatString (v : Value) (w : World) : (Instr.typeAssert (.iface 60 v) 20 9 true).run Tryz.prog w = .ok (.tuple #[.string ⟨#[]⟩, .bool false]) w := by kernel_rfl
@[go_sem ↓] theorem taFloatList (v : Value) (w : World) : (Instr.typeAssert (.iface 60 v) 20 61 true).run Tryz.prog w = .ok (.tuple #[.slice none 0 0, .bool false]) w := by kernel_rfl
@[go_sem ↓] theorem taFloatMap (v : Value) (w : World) : (Instr.typeAssert (.iface 60 v) 20 64 true).run Tryz.prog w = .ok (.tuple #[.map none, .bool false]) w := by kernel_rfl
@[go_sem ↓] theorem taFloatBig (v : Value) (w : World) : (Instr.typeAssert (.iface 60 v) 20 93 true).run Tryz.prog w = .ok (.tuple #[.pointer none, .bool false]) w := by kernel_rfl
@[go_sem ↓] theorem taFloatJson (v : Value) (w : World) : (Instr.typeAssert (.iface 60 v) 20 95 true).run Tryz.prog w = .ok (.tuple #[.string ⟨#[]⟩, .bool false]) w := by kernel_rfl
@[go_sem ↓] theorem taFloatError (v : Value) (w : World) : (Instr.typeAssert (.iface 60 v) 20 47 true).run Tryz.prog w = .ok (.tuple #[.nilIface, .bool false]) w := ta_err (t := 60) Tryz.underlying47 (by kernel_rfl) (fun _ => by kernel_rfl) v w
@[go_sem ↓] theorem taStringBool (v : Value) (w : World) : (Instr.typeAssert (.iface 9 v) 20 4 true).run Tryz.prog w = .ok (.tuple #[.bool false, .bool false]) w := by kernel_rfl
@[go_sem ↓] theorem taStringInt (v : Value) (w : World) : (Instr.typeAssert (.iface 9 v) 20 3 true).run Tryz.prog w = .ok (.tuple #[.int .i64 0, .bool false]) w := by kernel_rfl
@[go_sem ↓] theorem taStringFloat (v : Value) (w : World) : (Instr.typeAssert (.iface 9 v) 20 60 true).run Tryz.prog w = .ok (.tuple #[.float .f64 0, .bool false]) w := by kernel_rfl
@[go_sem ↓] theorem taStringString (v : Value) (w : World) : (Instr.typeAssert (.iface 9 v) 20 9 true).run Tryz.prog w = .ok (.tuple #[v, .bool true]) w := by kernel_rfl
@[go_sem ↓] theorem taStringList (v : Value) (w : World) : (Instr.typeAssert (.iface 9 v) 20 61 true).run Tryz.prog w = .ok (.tuple #[.slice none 0 0, .bool false]) w := by kernel_rfl
@[go_sem ↓] theorem taStringMap (v : Value) (w : World) : (Instr.typeAssert (.iface 9 v) 20 64 true).run Tryz.prog w = .ok (.tuple #[.map none, .bool false]) w := by kernel_rfl
@[go_sem ↓] theorem taStringBig (v : Value) (w : World) : (Instr.typeAssert (.iface 9 v) 20 93 true).run Tryz.prog w = .ok (.tuple #[.pointer none, .bool false]) w := by kernel_rfl
@[go_sem ↓] theorem taStringJson (v : Value) (w : World) : (Instr.typeAssert (.iface 9 v) 20 95 true).run Tryz.prog w = .ok (.tuple #[.string ⟨#[]⟩, .bool false]) w := by kernel_rfl
@[go_sem ↓] theorem taStringError (v : Value) (w : World) : (Instr.typeAssert (.iface 9 v) 20 47 true).run Tryz.prog w = .ok (.tuple #[.nilIface, .bool false]) w := ta_err (t := 9) Tryz.underlying47 (by kernel_rfl) (fun _ => by kernel_rfl) v w
@[go_sem ↓] theorem taListBool (v : Value) (w : World) : (Instr.typeAssert (.iface 61 v) 20 4 true).run Tryz.prog w = .ok (.tuple #[.bool false, .bool false]) w := by kernel_rfl
@[go_sem ↓] theorem taListInt (v : Value) (w : World) : (Instr.typeAssert (.iface 61 v) 20 3 true).run Tryz.prog w = .ok (.tuple #[.int .i64 0, .bool false]) w := by kernel_rfl
@[go_sem ↓] theorem taListFloat (v : Value) (w : World) : (Instr.typeAssert (.iface 61 v) 20 60 true).run Tryz.prog w = .ok (.tuple #[.float .f64 0, .bool false]) w := by kernel_rfl
@[go_sem ↓] theorem taListString (v : Value) (w : World) : (Instr.typeAssert (.iface 61 v) 20 9 true).run Tryz.prog w = .ok (.tuple #[.string ⟨#[]⟩, .bool false]) w := by kernel_rfl
@[go_sem ↓] theorem taListList (v : Value) (w : World) : (Instr.typeAssert (.iface 61 v) 20 61 true).run Tryz.prog w = .ok (.tuple #[v, .bool true]) w := by kernel_rfl
@[go_sem ↓] theorem taListMap (v : Value) (w : World) : (Instr.typeAssert (.iface 61 v) 20 64 true).run Tryz.prog w = .ok (.tuple #[.map none, .bool false]) w := by kernel_rfl
@[go_sem ↓] theorem taListBig (v : Value) (w : World) : (Instr.typeAssert (.iface 61 v) 20 93 true).run Tryz.prog w = .ok (.tuple #[.pointer none, .bool false]) w := by kernel_rfl
@[go_sem ↓] theorem taListJson (v : Value) (w : World) : (Instr.typeAssert (.iface 61 v) 20 95 true).run Tryz.prog w = .ok (.tuple #[.string ⟨#[]⟩, .bool false]) w := by kernel_rfl
@[go_sem ↓] theorem taListError (v : Value) (w : World) : (Instr.typeAssert (.iface 61 v) 20 47 true).run Tryz.prog w = .ok (.tuple #[.nilIface, .bool false]) w := ta_err (t := 61) Tryz.underlying47 (by kernel_rfl) (fun _ => by kernel_rfl) v w
@[go_sem ↓] theorem taMapBool (v : Value) (w : World) : (Instr.typeAssert (.iface 64 v) 20 4 true).run Tryz.prog w = .ok (.tuple #[.bool false, .bool false]) w := by kernel_rfl
@[go_sem ↓] theorem taMapInt (v : Value) (w : World) : (Instr.typeAssert (.iface 64 v) 20 3 true).run Tryz.prog w = .ok (.tuple #[.int .i64 0, .bool false]) w := by kernel_rfl
@[go_sem ↓] theorem taMapFloat (v : Value) (w : World) : (Instr.typeAssert (.iface 64 v) 20 60 true).run Tryz.prog w = .ok (.tuple #[.float .f64 0, .bool false]) w := by kernel_rfl
@[go_sem ↓] theorem taMapString (v : Value) (w : World) : (Instr.typeAssert (.iface 64 v) 20 9 true).run Tryz.prog w = .ok (.tuple #[.string ⟨#[]⟩, .bool false]) w := by kernel_rfl
@[go_sem ↓] theorem taMapList (v : Value) (w : World) : (Instr.typeAssert (.iface 64 v) 20 61 true).run Tryz.prog w = .ok (.tuple #[.slice none 0 0, .bool false]) w := by kernel_rfl
@[go_sem ↓] theorem taMapMap (v : Value) (w : World) : (Instr.typeAssert (.iface 64 v) 20 64 true).run Tryz.prog w = .ok (.tuple #[v, .bool true]) w := by kernel_rfl
@[go_sem ↓] theorem taMapBig (v : Value) (w : World) : (Instr.typeAssert (.iface 64 v) 20 93 true).run Tryz.prog w = .ok (.tuple #[.pointer none, .bool false]) w := by kernel_rfl
@[go_sem ↓] theorem taMapJson (v : Value) (w : World) : (Instr.typeAssert (.iface 64 v) 20 95 true).run Tryz.prog w = .ok (.tuple #[.string ⟨#[]⟩, .bool false]) w := by kernel_rfl
@[go_sem ↓] theorem taMapError (v : Value) (w : World) : (Instr.typeAssert (.iface 64 v) 20 47 true).run Tryz.prog w = .ok (.tuple #[.nilIface, .bool false]) w := ta_err (t := 64) Tryz.underlying47 (by kernel_rfl) (fun _ => by kernel_rfl) v w
@[go_sem ↓] theorem taNilBool (w : World) : (Instr.typeAssert .nilIface 20 4 true).run Tryz.prog w = .ok (.tuple #[.bool false, .bool false]) w := by kernel_rfl
@[go_sem ↓] theorem taNilInt (w : World) : (Instr.typeAssert .nilIface 20 3 true).run Tryz.prog w = .ok (.tuple #[.int .i64 0, .bool false]) w := by kernel_rfl
@[go_sem ↓] theorem taNilFloat (w : World) : (Instr.typeAssert .nilIface 20 60 true).run Tryz.prog w = .ok (.tuple #[.float .f64 0, .bool false]) w := by kernel_rfl
@[go_sem ↓] theorem taNilString (w : World) : (Instr.typeAssert .nilIface 20 9 true).run Tryz.prog w = .ok (.tuple #[.string ⟨#[]⟩, .bool false]) w := by kernel_rfl
@[go_sem ↓] theorem taNilList (w : World) : (Instr.typeAssert .nilIface 20 61 true).run Tryz.prog w = .ok (.tuple #[.slice none 0 0, .bool false]) w := by kernel_rfl
@[go_sem ↓] theorem taNilMap (w : World) : (Instr.typeAssert .nilIface 20 64 true).run Tryz.prog w = .ok (.tuple #[.map none, .bool false]) w := by kernel_rfl
@[go_sem ↓] theorem taNilBig (w : World) : (Instr.typeAssert .nilIface 20 93 true).run Tryz.prog w = .ok (.tuple #[.pointer none, .bool false]) w := by kernel_rfl
@[go_sem ↓] theorem taNilJson (w : World) : (Instr.typeAssert .nilIface 20 95 true).run Tryz.prog w = .ok (.tuple #[.string ⟨#[]⟩, .bool false]) w := by kernel_rfl
@[go_sem ↓] theorem taNilError (w : World) : (Instr.typeAssert .nilIface 20 47 true).run Tryz.prog w = .ok (.tuple #[.nilIface, .bool false]) w := by kernel_rfl
end Go.Proofs.YtpamlgdcnmcedaaGreatDoor
