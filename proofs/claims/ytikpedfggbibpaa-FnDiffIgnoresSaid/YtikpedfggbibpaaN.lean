/- Walks: asInt. -/
import Derived.Test.YtikpedfggbibpaaT
namespace Go.Proofs.Ytikpedfggbibpaa
open Go.RowKit
set_option linter.unusedVariables false

def asI : J → Int × Bool
  | .int n => (n, true)
  | _ => (0, false)

set_option maxRecDepth 100000 in
set_option maxHeartbeats 2000000 in
theorem asInt_any (lo : Nat) (j : J) (hj : j.nofl) (v : Value) (w : World) (h : RA w lo j v) :
    Calls Try.prog 83 #[v] w (Gives (.tuple #[.int .i64 (asI j).1, .bool (asI j).2]) w) := by
  cases j with
  | flt b => unfold J.nofl at hj; exact hj.elim
  | null =>
    unfold RA at h; subst h; clear hj
    go_enter Try.func83, Try.ntmps83
    go_wp2

    go_ret2
    exact .mk rfl (.refl _)
  | bool b =>
    unfold RA at h; subst h; clear hj
    go_enter Try.func83, Try.ntmps83
    go_wp2
    go_ret2
    exact .mk rfl (.refl _)
  | int n =>
    unfold RA at h; subst h; clear hj
    go_enter Try.func83, Try.ntmps83
    go_wp2
    go_ret2
    exact .mk rfl (.refl _)
  | str s =>
    unfold RA at h; subst h; clear hj
    go_enter Try.func83, Try.ntmps83
    go_wp2
    go_ret2
    exact .mk rfl (.refl _)
  | arr l =>
    unfold RA at h; obtain ⟨b, cap, rfl, _⟩ := h; clear hj
    go_enter Try.func83, Try.ntmps83
    go_wp2
    go_ret2
    exact .mk rfl (.refl _)
  | obj ks l =>
    unfold RA at h; obtain ⟨b, cap, rfl, _⟩ := h; clear hj
    go_enter Try.func83, Try.ntmps83
    go_wp2
    go_ret2
    exact .mk rfl (.refl _)
end Go.Proofs.Ytikpedfggbibpaa
