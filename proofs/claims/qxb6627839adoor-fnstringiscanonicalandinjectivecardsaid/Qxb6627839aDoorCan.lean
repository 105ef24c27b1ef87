/-
  The plain laws of reading a text back: no Go in sight.
-/
import Derived.Test.Qxb6627839aDoorPlain
namespace Go.Proofs.Qxb6627839aDoor

/-- The value of a row of decimal digits. -/
def val (l : List UInt8) : Nat := l.foldl (fun a b => a * 10 + (b.toNat - 48)) 0

theorem val_snoc (l : List UInt8) (b : UInt8) : val (l ++ [b]) = val l * 10 + (b.toNat - 48) := by simp [val]

theorem val_dec (u : Nat) : val (Lib.decDigits u) = u := by
  induction u using Nat.strongRecOn with
  | _ u ih =>
    by_cases h : u < 10
    · rw [Lib.decDigits_one h]
      simp only [val, List.foldl_cons, List.foldl_nil]
      rw [UInt8.toNat_ofNat']; omega
    · rw [Lib.decDigits, dif_neg h, val_snoc, ih (u / 10) (by omega), UInt8.toNat_ofNat']; omega

theorem fold_ge (r : List UInt8) : ∀ a : Nat, a ≤ r.foldl (fun a b => a * 10 + (b.toNat - 48)) a := by
  induction r with
  | nil => intro a; exact Nat.le_refl _
  | cons b r ih => intro a; rw [List.foldl_cons]; exact Nat.le_trans (by omega) (ih _)

theorem val_mono (l r : List UInt8) : val l ≤ val (l ++ r) := by
  unfold val
  rw [List.foldl_append]
  exact fold_ge r _

theorem val_take (l : List UInt8) (t : Nat) : val (l.take t) ≤ val l := by
  have := val_mono (l.take t) (l.drop t)
  rwa [List.take_append_drop] at this

theorem val_take_succ (l : List UInt8) (t : Nat) (h : t < l.length) : val (l.take (t + 1)) = val (l.take t) * 10 + (l[t].toNat - 48) := by
  rw [List.take_add_one, List.getElem?_eq_getElem h, Option.toList_some, val_snoc]

theorem dd_pos (u : Nat) : 0 < (Lib.decDigits u).length := by rw [Lib.decDigits_length]; exact Lib.nDigits_pos u

/-- No leading zero. -/
theorem dd_lead (u : Nat) : ∀ d ds, Lib.decDigits u = d :: ds → ds ≠ [] → d.toNat ≠ 48 := by
  induction u using Nat.strongRecOn with
  | _ u ih =>
    intro d ds e hds
    by_cases h : u < 10
    · rw [Lib.decDigits_one h] at e
      simp at e
      exact absurd e.2 hds
    · rw [Lib.decDigits, dif_neg h] at e
      cases hx : Lib.decDigits (u / 10) with
      | nil =>
        have := dd_pos (u / 10)
        rw [hx] at this; simp at this
      | cons d' ds' =>
        rw [hx, List.cons_append] at e
        injection e with e1 e2
        subst e1
        cases ds' with
        | cons a b => exact ih (u / 10) (by omega) d' (a :: b) hx (by simp)
        | nil =>
          by_cases h10 : u / 10 < 10
          · rw [Lib.decDigits_one h10] at hx
            injection hx with hx1
            rw [← hx1, UInt8.toNat_ofNat']; omega
          · have := congrArg List.length hx
            rw [Lib.decDigits_length, Lib.nDigits_big h10] at this
            have hp := Lib.nDigits_pos (u / 10 / 10)
            simp at this; omega

/-- What stands behind the first numeral. -/
def tl (r : List Nat) : List UInt8 := match r with
  | [] => []
  | _ :: _ => 46 :: vt r
theorem vt_split (x : Nat) (r : List Nat) : vt (x :: r) = Lib.decDigits x ++ tl r := by
  cases r with
  | nil => simp [vt_one, tl]
  | cons y r => rw [vt_cons]; rfl

theorem dd_ne46 (u : Nat) : ∀ b ∈ Lib.decDigits u, (b != 46) = true := by
  intro b hb
  have := dd_bytes u b hb
  simp only [bne_iff_ne, ne_eq]
  intro e
  rw [e] at this; simp at this

theorem tl_stop (r : List Nat) : (tl r).takeWhile (fun b => b != 46) = [] := by
  cases r with
  | nil => rfl
  | cons y r => simp [tl]

theorem vt_head (x : Nat) (r : List Nat) : (vt (x :: r)).takeWhile (fun b => b != 46) = Lib.decDigits x := by
  rw [vt_split, List.takeWhile_append_of_pos (dd_ne46 x), tl_stop, List.append_nil]

theorem vt_inj : ∀ A B : List Nat, vt A = vt B → A = B
  | [], [], _ => rfl
  | [], y :: r, h => by
    have := congrArg List.length h
    rw [vt_split, List.length_append] at this
    have hp := dd_pos y
    rw [vt_nil, List.length_nil] at this; omega
  | x :: r, [], h => by
    have := congrArg List.length h
    rw [vt_split, List.length_append] at this
    have hp := dd_pos x
    rw [vt_nil, List.length_nil] at this; omega
  | x :: r, y :: r', h => by
    have h1 : Lib.decDigits x = Lib.decDigits y := by rw [← vt_head x r, ← vt_head y r', h]
    have hxy : x = y := by rw [← val_dec x, ← val_dec y, h1]
    subst hxy
    rw [vt_split, vt_split] at h
    have h2 := List.append_cancel_left h
    cases r with
    | nil =>
      cases r' with
      | nil => rfl
      | cons z s => simp [tl] at h2
    | cons z s =>
      cases r' with
      | nil => simp [tl] at h2
      | cons z' s' =>
        have h3 : vt (z :: s) = vt (z' :: s') := by simpa [tl] using h2
        rw [vt_inj _ _ h3]

end Go.Proofs.Qxb6627839aDoor
