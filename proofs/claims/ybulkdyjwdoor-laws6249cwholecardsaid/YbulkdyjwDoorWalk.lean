import Derived.Test.YbulkdyjwDoorLaw2
import Derived.Test.YbulkdyjwDoorLaw3
import Derived.Test.YbulkdyjwDoorLaw4
import Derived.Test.YbulkdyjwDoorLaw5
namespace Go.Proofs.YbulkdyjwDoor
open Go.RowKit

set_option maxHeartbeats 2000000 in
theorem law_long (verb key : ByteArray) (vao : Option Addr) (n vc : Nat) (a3 a5 a6 : Value) (final fail : Bool) (W : World) (h1 : verb.size ≤ 140737488355328) (h2 : key.size ≤ 140737488355328) (h3 : n ≤ 140737488355328)
    (hlen : 1048576 < verb.size + key.size + n) :
    Calls Ybad.prog 3 #[.string verb, .string key, .slice vao n vc, a3, .bool final, a5, a6, .bool fail] W fun e W' => e = .returned (.bool true) ∧ Below W.heap.size W W' := by
  have hlen' : (1048576 : Int) < (verb.size : Int) + (key.size : Int) + (n : Int) := by omega
  go_enter Ybad.func3, Ybad.ntmps3
  go_wp2
  go_ret
  exact ⟨rfl, Below.refl _ _⟩

theorem law_all (verb key : ByteArray) (vao : Option Addr) (n vc : Nat) (val : List UInt8) (hops sil bs : Int) (final fail : Bool) (W : World) (hv : VIn W W.heap.size vao n vc val)
    (ho0 : -9223372036854775808 ≤ hops) (ho1 : hops ≤ 9223372036854775807) (hi0 : -9223372036854775808 ≤ sil) (hi1 : sil ≤ 9223372036854775807) (hb0 : 0 ≤ bs) (hb1 : bs ≤ 65535)
    (h1 : verb.size ≤ 140737488355328) (h2 : key.size ≤ 140737488355328) (h3 : n ≤ 140737488355328) (htab : Lib.TabIs Ybad.prog W "internal/strconv.uint64pow10" .u64 Lib.pow10Tab) :
    Calls Ybad.prog 3 #[.string verb, .string key, .slice vao n vc, .int .i64 hops, .bool final, .int .i64 sil, .int .u16 bs, .bool fail] W fun e W' => e = .returned (.bool true) ∧ Below W.heap.size W W' := by
  by_cases hlen : 1048576 < verb.size + key.size + n
  · exact law_long verb key vao n vc _ _ _ final fail W h1 h2 h3 hlen
  · cases final <;> cases fail
    · exact law_ff verb key vao n vc val hops sil bs W hv ho0 ho1 hi0 hi1 hb0 hb1 (by omega) htab
    · exact law_ft verb key vao n vc val hops sil bs W hv ho0 ho1 hi0 hi1 hb0 hb1 (by omega) htab
    · exact law_tf verb key vao n vc val hops sil bs W hv ho0 ho1 hi0 hi1 hb0 hb1 (by omega) htab
    · exact law_tt verb key vao n vc val hops sil bs W hv ho0 ho1 hi0 hi1 hb0 hb1 (by omega) htab

end Go.Proofs.YbulkdyjwDoor
