/- Walks: Match. -/
import Derived.Test.YtikpedfggbibpaaN
import Derived.Maps.RangeRun
namespace Go.Proofs.Ytikpedfggbibpaa
open Go.RowKit
set_option linter.unusedVariables false
set_option linter.unusedSimpArgs false

/-- the member of a key; null if there is none -/
def look : List ByteArray → List J → ByteArray → J
  | k :: ks, x :: xs, q => if k = q then x else look ks xs q
  | _, _, _ => .null

mutual
/-- what fits -/
def jm : J → J → Bool
  | .null, .null => true
  | .bool a, .bool b => a == b
  | .int a, .int b => a == b
  | .str a, .str b => decide (a = b)
  | .arr l, .arr m => jms l m
  | .obj ks l, .obj ks' l' => jmo ks l ks' l'
  | _, _ => false
def jms : List J → List J → Bool
  | [], [] => true
  | x :: xs, y :: ys => jm x y && jms xs ys
  | _, _ => false
def jmo : List ByteArray → List J → List ByteArray → List J → Bool
  | k :: ks, x :: xs, ks', l' => jm x (look ks' l' k) && jmo ks xs ks' l'
  | _, _, _, _ => true
end
theorem bytes_eq (p q : ByteArray) : (p.toList = q.toList) = (p = q) := propext ⟨fun h => by
  have := bytes_beq p q
  rw [beq_iff_eq.2 h] at this
  simpa using this.symm, fun h => by rw [h]⟩
theorem jms_len : ∀ {l m : List J}, jms l m = true → l.length = m.length
  | [], [], _ => rfl
  | x :: xs, y :: ys, h => by
    unfold jms at h
    simp only [Bool.and_eq_true] at h
    simp [jms_len h.2]
  | [], _ :: _, h => by unfold jms at h; cases h
  | _ :: _, [], h => by unfold jms at h; cases h
theorem jms_get : ∀ {l m : List J}, jms l m = true → ∀ q (h : q < l.length) (h' : q < m.length), jm l[q] m[q] = true
  | x :: xs, y :: ys, h, 0, _, _ => by
    unfold jms at h
    simp only [Bool.and_eq_true] at h
    exact h.1
  | x :: xs, y :: ys, h, q + 1, h1, h2 => by
    unfold jms at h
    simp only [Bool.and_eq_true] at h
    exact jms_get h.2 q (by simpa using h1) (by simpa using h2)
theorem jms_of : ∀ {l m : List J}, l.length = m.length → (∀ q (h : q < l.length) (h' : q < m.length), jm l[q] m[q] = true) → jms l m = true
  | [], [], _, _ => by unfold jms; rfl
  | x :: xs, y :: ys, hl, h => by
    unfold jms
    rw [Bool.and_eq_true]
    exact ⟨h 0 (by simp) (by simp), jms_of (by simpa using hl) fun q h1 h2 => h (q + 1) (by simpa using h1) (by simpa using h2)⟩
  | [], _ :: _, hl, _ => by simp at hl
  | _ :: _, [], hl, _ => by simp at hl
theorem jmo_get {ks' : List ByteArray} {l' : List J} : ∀ {ks : List ByteArray} {l : List J}, jmo ks l ks' l' = true → ∀ q (h : q < ks.length) (h' : q < l.length), jm l[q] (look ks' l' ks[q]) = true
  | k :: ks, x :: xs, h, 0, _, _ => by
    unfold jmo at h
    simp only [Bool.and_eq_true] at h
    exact h.1
  | k :: ks, x :: xs, h, q + 1, h1, h2 => by
    unfold jmo at h
    simp only [Bool.and_eq_true] at h
    exact jmo_get h.2 q (by simpa using h1) (by simpa using h2)
theorem jmo_of {ks' : List ByteArray} {l' : List J} : ∀ {ks : List ByteArray} {l : List J}, (∀ q (h : q < ks.length) (h' : q < l.length), jm l[q] (look ks' l' ks[q]) = true) → jmo ks l ks' l' = true
  | k :: ks, x :: xs, h => by
    unfold jmo
    rw [Bool.and_eq_true]
    exact ⟨h 0 (by simp) (by simp), jmo_of fun q h1 h2 => h (q + 1) (by simpa using h1) (by simpa using h2)⟩
  | [], _, _ => by unfold jmo; rfl
  | _ :: _, [], _ => by unfold jmo; rfl

theorem look_miss {k : ByteArray} : ∀ {ks : List ByteArray} {l : List J}, k ∉ ks → look ks l k = .null
  | [], _, _ => by unfold look; rfl
  | _ :: _, [], _ => by unfold look; rfl
  | a :: ks, x :: xs, h => by
    unfold look
    rw [if_neg (fun e => h (by simp [e]))]
    exact look_miss (fun e => h (by simp [e]))
theorem look_hit {k : ByteArray} : ∀ {ks : List ByteArray} {l : List J} {q : Nat} (hq : q < l.length), ks[q]? = some k → ks.Nodup → look ks l k = l[q]
  | a :: ks, x :: xs, 0, _, h, _ => by
    simp at h
    unfold look
    simp [h]
  | a :: ks, x :: xs, q + 1, hq, h, hn => by
    unfold look
    have h2 : ks[q]? = some k := by simpa using h
    rw [if_neg (fun e => (List.nodup_cons.1 hn).1 (by rw [e]; exact List.mem_of_getElem? h2))]
    exact look_hit (by simpa using hq) h2 (List.nodup_cons.1 hn).2

theorem J.nodesL_len : ∀ (l : List J), l.length ≤ J.nodesL l
  | [] => by simp [J.nodesL]
  | x :: xs => by
    have := J.nodesL_len xs
    have := J.nodes_pos x
    simp only [J.nodesL, List.length_cons]
    omega

def MatchAt (N : Nat) : Prop := ∀ (f t : J), f.nodes ≤ N → f.nodes ≤ 1000 → f.ok → f.nofl → t.ok → t.nofl → ∀ (va vt : Value) (w : World), RA w 0 f va → RA w 0 t vt →
    Calls Try.prog 39 #[va, vt] w (Gives (.bool (jm f t)) w)

set_option maxRecDepth 100000 in
set_option maxHeartbeats 4000000 in
theorem match_null (t : J) (htn : t.nofl) (vt : Value) (w : World) (h : RA w 0 t vt) :
    Calls Try.prog 39 #[.nilIface, vt] w (Gives (.bool (jm .null t)) w) := by
  cases t with
  | flt b => unfold J.nofl at htn; exact htn.elim
  | null =>
    unfold RA at h; subst h; clear htn
    go_enter Try.func39, Try.ntmps39
    go_wp2
    go_ret
    exact .mk (by simp [jm]) (.refl _)
  | bool c =>
    unfold RA at h; subst h; clear htn
    go_enter Try.func39, Try.ntmps39
    go_wp2
    go_ret
    exact .mk (by simp [jm]) (.refl _)
  | int c =>
    unfold RA at h; subst h; clear htn
    go_enter Try.func39, Try.ntmps39
    go_wp2
    go_ret
    exact .mk (by simp [jm]) (.refl _)
  | str c =>
    unfold RA at h; subst h; clear htn
    go_enter Try.func39, Try.ntmps39
    go_wp2
    go_ret
    exact .mk (by simp [jm]) (.refl _)
  | arr l =>
    unfold RA at h; obtain ⟨b, cap, rfl, _⟩ := h; clear htn
    go_enter Try.func39, Try.ntmps39
    go_wp2
    go_ret
    exact .mk (by simp [jm]) (.refl _)
  | obj ks l =>
    unfold RA at h; obtain ⟨b, cap, rfl, _⟩ := h; clear htn
    go_enter Try.func39, Try.ntmps39
    go_wp2
    go_ret
    exact .mk (by simp [jm]) (.refl _)

set_option maxRecDepth 100000 in
set_option maxHeartbeats 4000000 in
theorem match_bool (a : Bool) (t : J) (htn : t.nofl) (vt : Value) (w : World) (h : RA w 0 t vt) :
    Calls Try.prog 39 #[.iface 4 (.bool a), vt] w (Gives (.bool (jm (.bool a) t)) w) := by
  cases t with
  | flt b => unfold J.nofl at htn; exact htn.elim
  | null =>
    unfold RA at h; subst h; clear htn
    go_enter Try.func39, Try.ntmps39
    go_wp2
    all_goals go_ret
    all_goals exact .mk (by simp_all [jm, bytes_eq]) (.refl _)
  | bool c =>
    unfold RA at h; subst h; clear htn
    go_enter Try.func39, Try.ntmps39
    go_wp2
    all_goals go_ret
    all_goals exact .mk (by simp_all [jm, bytes_eq]) (.refl _)
  | int c =>
    unfold RA at h; subst h; clear htn
    go_enter Try.func39, Try.ntmps39
    go_wp2
    all_goals go_ret
    all_goals exact .mk (by simp_all [jm, bytes_eq]) (.refl _)
  | str c =>
    unfold RA at h; subst h; clear htn
    go_enter Try.func39, Try.ntmps39
    go_wp2
    all_goals go_ret
    all_goals exact .mk (by simp_all [jm, bytes_eq]) (.refl _)
  | arr l =>
    unfold RA at h; obtain ⟨b, cap, rfl, _⟩ := h; clear htn
    go_enter Try.func39, Try.ntmps39
    go_wp2
    go_ret
    exact .mk (by simp [jm]) (.refl _)
  | obj ks l =>
    unfold RA at h; obtain ⟨b, cap, rfl, _⟩ := h; clear htn
    go_enter Try.func39, Try.ntmps39
    go_wp2
    go_ret
    exact .mk (by simp [jm]) (.refl _)

set_option maxRecDepth 100000 in
set_option maxHeartbeats 4000000 in
theorem match_str (a : ByteArray) (t : J) (htn : t.nofl) (vt : Value) (w : World) (h : RA w 0 t vt) :
    Calls Try.prog 39 #[.iface 9 (.string a), vt] w (Gives (.bool (jm (.str a) t)) w) := by
  cases t with
  | flt b => unfold J.nofl at htn; exact htn.elim
  | null =>
    unfold RA at h; subst h; clear htn
    go_enter Try.func39, Try.ntmps39
    go_wp2
    all_goals go_ret
    all_goals exact .mk (by simp_all [jm, bytes_eq]) (.refl _)
  | bool c =>
    unfold RA at h; subst h; clear htn
    go_enter Try.func39, Try.ntmps39
    go_wp2
    all_goals go_ret
    all_goals exact .mk (by simp_all [jm, bytes_eq]) (.refl _)
  | int c =>
    unfold RA at h; subst h; clear htn
    go_enter Try.func39, Try.ntmps39
    go_wp2
    all_goals go_ret
    all_goals exact .mk (by simp_all [jm, bytes_eq]) (.refl _)
  | str c =>
    unfold RA at h; subst h; clear htn
    go_enter Try.func39, Try.ntmps39
    go_wp2
    all_goals go_ret
    all_goals exact .mk (by simp_all [jm, bytes_eq]) (.refl _)
  | arr l =>
    unfold RA at h; obtain ⟨b, cap, rfl, _⟩ := h; clear htn
    go_enter Try.func39, Try.ntmps39
    go_wp2
    go_ret
    exact .mk (by simp [jm]) (.refl _)
  | obj ks l =>
    unfold RA at h; obtain ⟨b, cap, rfl, _⟩ := h; clear htn
    go_enter Try.func39, Try.ntmps39
    go_wp2
    go_ret
    exact .mk (by simp [jm]) (.refl _)

end Go.Proofs.Ytikpedfggbibpaa
