/-
  An extended glob laid out as the parser lays it: every argument, by cases.
-/
import Derived.Test.YtccnpgmceoojmabExtgL
namespace Go.Proofs.Ytccnpgmceoojmab.extg
open Go.RowKit

set_option maxRecDepth 100000 in
theorem law7 (o ln c op : Int) (s : ByteArray) (w : World) (ho : 0 ≤ o ∧ o ≤ 4294967295) (hl : 0 ≤ ln ∧ ln ≤ 4294967295) (hc : 0 ≤ c ∧ c ≤ 4294967295) (hop : 0 ≤ op ∧ op ≤ 255) (hs : s.size ≤ maxLen) :
    Calls Try.prog 7 #[.int .u32 o, .int .u32 ln, .int .u32 c, .int .u8 op, .string s] w fun e w' => e = .returned (.bool true) ∧ Below w.heap.size w w' := by
  unfold maxLen at hs
  by_cases h1 : (1048576 : Int) < (s.size : Int)
  · go_enter Try.func7, Try.ntmps7
    go_wp2_with go_in
    go_ret
    exact ⟨rfl, by go_grown⟩
  by_cases h2 : ln = 0
  · have q : (ln == 0) = true := by simp; omega
    clear h2
    go_enter Try.func7, Try.ntmps7
    go_wp2_with go_in
    go_ret
    exact ⟨rfl, by go_grown⟩
  have q : (ln == 0) = false := by simp; omega
  by_cases h3 : 262143 < ln
  · clear h2
    go_enter Try.func7, Try.ntmps7
    go_wp2_with go_in
    go_ret
    exact ⟨rfl, by go_grown⟩
  by_cases h4 : 16383 < c
  · clear h2
    go_enter Try.func7, Try.ntmps7
    go_wp2_with go_in
    go_ret
    exact ⟨rfl, by go_grown⟩
  by_cases h5 : 4294967284 < o + 3 + (s.size : Int)
  · clear h2
    go_enter Try.func7, Try.ntmps7
    go_wp2_with go_in
    go_ret
    exact ⟨rfl, by go_grown⟩
  by_cases h6 : c = 0
  · subst h6
    exact mainA o ln op s.size s w rfl (by omega) (by omega) (by omega) (by omega) (by omega) hop
  by_cases h7 : 16383 < c + 2
  · exact mainB o ln c op s.size s w rfl (by omega) (by omega) (by omega) (by omega) (by omega) hop (by omega) (by omega) (by omega)
  by_cases h8 : 16383 < c + 2 + (s.size : Int)
  · exact mainC o ln c op s.size s w rfl (by omega) (by omega) (by omega) (by omega) (by omega) hop (by omega) (by omega) (by omega)
  by_cases h9 : 16383 < c + 3 + (s.size : Int)
  · exact mainD o ln c op s.size s w rfl (by omega) (by omega) (by omega) (by omega) (by omega) hop (by omega) (by omega) (by omega)
  exact mainE o ln c op s.size s w rfl (by omega) (by omega) (by omega) (by omega) (by omega) hop (by omega) (by omega)
end Go.Proofs.Ytccnpgmceoojmab.extg
