import Derived.Shelf.Strconv.ParseIntPublic10
import Derived.Shelf.Lay
import Derived.Ground.NamesProg
import Derived.Test.Qxb6630312aDoorProg
import Derived.WalkKit
import Derived.BigCall
namespace Go.Proofs
open Go.Shelf Go.RowKit

shelf_lay LaysC.n174 Nm 174 at Tryd as Tryd.laysPI
theorem Tryd.parseInt_ok (s : ByteArray) (hmax : s.size ≤ 9223372036854775806) (v : Int) (h : Lib.parseIntB 64 s.data.toList = .ok v) (w : World) :
    Calls Tryd.prog 10 #[.string s, .int .i64 10, .int .i64 64] w fun e w' => e = .returned (.tuple #[.int .i64 v, .nilIface]) ∧ (w' = w ∨ ∃ t, w' = Lib.bytesWorld w 5 t) := Any.strconv_ParseInt_10_at64_ok Tryd.laysPI s hmax v h w
theorem Tryd.parseInt_noNumber (s : ByteArray) (hlim : s.size ≤ 281474976710656) (h : Lib.parseIntB 64 s.data.toList = Lib.parseIntB 64 []) (ev : Value) (w : World) (hv : w.cell? ⟨0, 0, none⟩ = some ev) (hev : ev = .nilIface ∨ ∃ te pe, ev = .iface te pe) :
    Calls Tryd.prog 10 #[.string s, .int .i64 10, .int .i64 64] w fun e w' => ∃ t N, e = .returned (.tuple #[.int .i64 (0), .iface t (.pointer (some ⟨N, 0, none⟩))]) ∧ RowKit.Below w.heap.size w w' := (Any.strconv_ParseInt_10_at64_syntax Tryd.laysPI s hlim h ev w hv hev).mono fun _ _ ⟨N, he, _, _, hb⟩ => ⟨_, N, he, hb⟩
theorem Tryd.parseInt_range (s : ByteArray) (hlim : s.size ≤ 281474976710656) (h : Lib.parseIntB 64 s.data.toList = .range) (ev : Value) (w : World) (hv : w.cell? ⟨1, 0, none⟩ = some ev) (hev : ev = .nilIface ∨ ∃ te pe, ev = .iface te pe) :
    Calls Tryd.prog 10 #[.string s, .int .i64 10, .int .i64 64] w fun e w' => ∃ t N, e = .returned (.tuple #[.int .i64 (Lib.intSat 64 s.data.toList), .iface t (.pointer (some ⟨N, 0, none⟩))]) ∧ RowKit.Below w.heap.size w w' := (Any.strconv_ParseInt_10_at64_range Tryd.laysPI s hlim h ev w hv hev).mono fun _ _ ⟨N, he, _, _, hb⟩ => ⟨_, N, he, hb⟩
end Go.Proofs
