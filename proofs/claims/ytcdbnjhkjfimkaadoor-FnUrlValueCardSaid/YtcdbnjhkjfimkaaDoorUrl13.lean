/-
  BuildJDBC, impl.Jdbc.
-/
import Derived.Test.YtcdbnjhkjfimkaaDoorUrl12
namespace Go.Proofs.YtcdbnjhkjfimkaaDoor
open Go Go.RowKit

def csK : ByteArray := ⟨#[99, 111, 110, 110, 83, 116, 114]⟩
set_option maxRecDepth 100000 in
set_option maxHeartbeats 4000000 in
theorem buildJdbc_any (us pw conn : ByteArray) (w : World) (ht : UTab w) (hsp : spTab w) (hi : ItoaAt 0 w) (h2 : us.size ≤ 300) (h3 : pw.size ≤ 300) (hv : conn.size ≤ 300) (hvp : ∀ c ∈ conn.data.toList, printB c = true) :
    Calls Tryd.prog 81 #[.string us, .string pw, .string conn, .map none] w (OneUrl (headS ⟨#[]⟩ 0 ⟨#[]⟩ us pw).data.toList csK.data.toList conn.data.toList w) := by
  have C := Lib.hid (fun b w1 (hk : Kp w w1) (ho : oneMap b csK.data.toList conn.data.toList w1) => buildUrl_one ⟨#[]⟩ ⟨#[]⟩ us pw csK conn 0 b w1 (ht.kp hk) (hsp.kp hk) (fun w2 h => hi w2 (hk.trans h)) (by decide) (by decide) h2 h3 (by omega) (by omega) (by decide) (by decide) (by decide +kernel) hv hvp ho)
  have hmm := @run_makeMap Tryd.prog
  have hnil := fun (w : World) => run_eql_map_nil (P := Tryd.prog) w 143 9 9 none Tryd.underlying143
  have HV := Lib.hid hv
  clear ht hsp hi h2 h3 hvp hv
  go_enter Tryd.func81, Tryd.ntmps81
  have hown := World.ownsMap_made (H := Unit) w Tryd.prog 9 (plainElem Tryd.prog 9)
  have hval : plainElem (H := Unit) Tryd.prog 9 (.string conn) = some (.lit (.string conn.data.toList), []) := plainElem_string Tryd.underlying9 (by have := HV.out; unfold maxLen; omega)
  have hkey : keyOf Tryd.prog 9 (.string csK) = some (.string csK.data.toList) := by
    have hz : csK.size ≤ 9223372036854775807 := by decide
    simp [keyOf, Tryd.underlying9, mapKey, maxLen, hz]
  go_wp2_with (first
    | (at_mapUpdate; refine wpList_mapUpdate_own _ rfl _ _ _ 143 rfl 9 9 (Maps.string_keyed Tryd.underlying9) Tryd.underlying143 _ w.heap.size 0 _ rfl hown (by unfold maxLen; omega) _ _ _ rfl rfl hkey _ [] hval ?_; intro w1 ho1 hg1)
    | fail)
  have hk1 : Kp w w1 := ((Kp.refl w).alloc (.map #[] 0)).grown hg1 (fun k hk => by injection hk with hk; omega)
  have HK1 := Lib.hid hk1
  have ho : oneMap w.heap.size csK.data.toList conn.data.toList w1 := ho1
  refine (C.out _ w1 hk1 ho).mono ?_
  rintro e w2 ⟨X, rfl, hX, hk2⟩
  have HX := Lib.hid hX
  have HK2 := Lib.hid (HK1.out.trans hk2)
  clear hX hk2 hk1 ho ho1 hg1 hown
  go_wp2_with fail
  go_ret
  exact ⟨X, rfl, HX.out, HK2.out⟩
set_option maxRecDepth 100000 in
theorem jdbc_any (us pw conn : ByteArray) (w : World) (ht : UTab w) (hsp : spTab w) (hi : ItoaAt 0 w) (h2 : us.size ≤ 300) (h3 : pw.size ≤ 300) (hv : conn.size ≤ 300) (hvp : ∀ c ∈ conn.data.toList, printB c = true) :
    Calls Tryd.prog 45 #[.string us, .string pw, .string conn, .slice none 0 0] w (OneUrl (headS ⟨#[]⟩ 0 ⟨#[]⟩ us pw).data.toList csK.data.toList conn.data.toList w) := by
  have C := Lib.hid (buildJdbc_any us pw conn w ht hsp hi h2 h3 hv hvp)
  clear ht hsp hi h2 h3 hv hvp
  go_enter Tryd.func45, Tryd.ntmps45
  go_wp2_with fail
  refine (options_none none 0 w).mono ?_
  rintro e w1 ⟨rfl, rfl⟩
  go_wp2_with fail
  refine C.out.mono ?_
  rintro e w2 ⟨X, rfl, hX, hk2⟩
  have HX := Lib.hid hX
  have HK2 := Lib.hid hk2
  clear hX hk2
  go_wp2_with fail
  go_ret
  exact ⟨X, rfl, HX.out, HK2.out⟩
end Go.Proofs.YtcdbnjhkjfimkaaDoor
