/- Maps from message ids to levels, by what they read as; the fill of a list of ids with one level. No program in it but the types. -/
import Derived.Test.YtolajhmfhndamaaMps
import Derived.Test.YtolajhmfhndamaaSls
import Derived.Test.YtolajhmfhndamaaProg
import Derived.Maps.RangeWalk
import Derived.Maps.Ext
import Derived.Maps.OwnSet
import Derived.WalkSpells
import Derived.WalkLawsBesides
namespace Go.Proofs.Ytolajhmfhndamaa.LoA
open Go.RowKit Go.Maps Go.ChangeMaps Go.MapKept Go.Proofs.Ytolajhmfhndamaa.Base Go.Proofs.Ytolajhmfhndamaa.Mps
set_option linter.unusedVariables false
theorem law5 : Keyed Try.prog 5 := int_keyed Try.underlying5
theorem law9 : Keyed Try.prog 9 := string_keyed Try.underlying9
def kI (x : Int) : Lit := .int .u8 x
theorem kI_key (x : Int) : WideAt.IsKeyLit (kI x) := trivial
theorem kI_inj {x y : Int} (h : kI x = kI y) : x = y := by unfold kI at h; injection h
theorem kI_mk (x : Int) (h0 : 0 ≤ x) (h1 : x ≤ 255) : keyOf Try.prog 5 (.int .u8 x) = some (kI x) := keyOf_int_mk Try.underlying5 (by simp [Lit.wf, IntKind.min, IntKind.max, IntKind.signed, IntKind.bits]; omega)
def lv (v : Int) : DataW Value := .held (.int .i8 v)
abbrev OM (w : World) (b n : Nat) (D : DataW Value) : Prop := w.ownsMap Try.prog 5 self b n D
def fill (S : List Int) (v : Int) (D : DataW Value) : DataW Value := S.foldl (fun D x => D.put (kI x) (lv v)) D
theorem fill_snoc (S : List Int) (x v : Int) (D : DataW Value) : fill (S ++ [x]) v D = (fill S v D).put (kI x) (lv v) := by unfold fill; rw [List.foldl_append]; rfl
/-- What StringToMsgIDs does with this text: it lays the level at the ids of S. -/
def Sto (s : ByteArray) (S : List Int) : Prop := ∀ (w : World) (b n : Nat) (D : DataW Value) (v : Int), OM w b n D → n ≤ 16777216 →
  Calls Try.prog 11 #[.string s, .int .i8 v, .map (some b)] w fun e w' => e = .returned (.tuple #[]) ∧ OM w' b (n + 16) (fill S v D) ∧ w.grownBy w' (some b)
theorem om_more {w : World} {b n m : Nat} {D : DataW Value} (h : OM w b n D) (hn : n ≤ m) : OM w b m D := World.ownsMap.mono h hn
end Go.Proofs.Ytolajhmfhndamaa.LoA
