import Derived.Test.Qxb6612460aGreatFmtNewQ
namespace Go.Proofs.Qxb6612460aGreatFmt
open Go.RowKit
attribute [local go_sem] Option.isNone_none Option.isNone_some
attribute [local go_sem] sUpon mUpon
attribute [local go_sem] Mix.isVal Mix.makes

/-! ### The plain law: where there is room -/
def okD (across : Bool) (nm : ByteArray) (d : ByteArray × Bool) : Bool := !d.2 && (across || decide (d.1 = nm))
def RoomAt (ds : List (ByteArray × Bool)) (across : Bool) (k i : Nat) : Prop := ∃ d, ds[i]? = some d ∧ d.2 = false ∧ k ≤ (ds.drop i).countP (okD across d.1)

theorem count_eq {f : ByteArray × Bool → Bool} {g : Nat × Bool → Bool} {R : ByteArray × Bool → Nat × Bool → Prop} (hfg : ∀ d p, R d p → f d = g p) : ∀ (ds : List (ByteArray × Bool)) (ps : List (Nat × Bool)), ps.length = ds.length → (∀ (i : Nat) d, ds[i]? = some d → ∃ p, ps[i]? = some p ∧ R d p) → ds.countP f = ps.countP g
  | [], [], _, _ => rfl
  | [], _ :: _, h, _ => by simp at h
  | _ :: _, [], h, _ => by simp at h
  | d :: r, p :: s, h, hR => by
    obtain ⟨p', h1, h2⟩ := hR 0 d rfl
    simp only [List.getElem?_cons_zero, Option.some.injEq] at h1
    subst h1
    have ih := count_eq hfg r s (by simpa using h) (fun i d' hd => by simpa using hR (i + 1) d' (by simpa using hd))
    rw [List.countP_cons, List.countP_cons, ih, hfg d p h2]
theorem count_first (f : ByteArray × Bool → Bool) : ∀ (ds : List (ByteArray × Bool)), 0 < ds.countP f → ∃ (i : Nat) (d : ByteArray × Bool), ds[i]? = some d ∧ f d = true ∧ (ds.drop i).countP f = ds.countP f
  | [], h => by simp at h
  | d :: r, h => by
    by_cases hd : f d = true
    · exact ⟨0, d, rfl, hd, rfl⟩
    · rw [List.countP_cons, if_neg hd, Nat.add_zero] at h
      obtain ⟨i, e, h1, h2, h3⟩ := count_first f r h
      exact ⟨i + 1, e, h1, h2, by rw [List.drop_succ_cons, h3, List.countP_cons, if_neg hd]; rfl⟩

theorem St.total {ds : List (ByteArray × Bool)} {nms : List ByteArray} {ps : List (Nat × Bool)} {fr : List Nat} (h : St ds nms ps fr) : ds.countP (fun d => !d.2) = sumN fr := by
  rw [h.fr.2.2]
  exact count_eq (R := fun d p => p.2 = !d.2) (fun d p e => by rw [e]) ds ps h.plen (fun i d hd => by obtain ⟨p, h1, h2, _⟩ := h.at' i d hd; exact ⟨p, h1, h2⟩)
theorem St.island {ds : List (ByteArray × Bool)} {nms : List ByteArray} {ps : List (Nat × Bool)} {fr : List Nat} (h : St ds nms ps fr) {c : Nat} {nm : ByteArray} (hc : nms[c]? = some nm) : ds.countP (okD false nm) = fr[c]?.getD 0 := by
  rw [h.fr.1 c]
  refine count_eq (R := fun d p => p.2 = (!d.2) ∧ nms[p.1]? = some d.1) (fun d p e => ?_) ds ps h.plen (fun i d hd => by obtain ⟨p, h1, h2, h3⟩ := h.at' i d hd; exact ⟨p, h1, h2, h3⟩)
  unfold okD
  rw [e.1, Bool.false_or]
  congr 1
  have hl := (List.getElem?_eq_some_iff.1 hc).1
  have hi : (d.1 = nm) ↔ p.1 = c := by
    constructor
    · intro e1
      have h1 := e.2
      rw [e1, ← hc] at h1
      exact ((List.getElem?_inj hl h.nodup).1 h1.symm).symm
    · intro e1
      have h1 := e.2
      rw [e1, hc] at h1
      exact (Option.some.inj h1).symm
  by_cases hp : p.1 = c
  · simp [hi.2 hp, hp]
  · have h1 : ¬ d.1 = nm := fun e => hp (hi.1 e)
    have h2 : ((p.1 : Int) == (c : Int)) = false := beq_false_of_ne (by omega)
    rw [decide_eq_false h1, h2]

theorem room_iff {ds : List (ByteArray × Bool)} {nms : List ByteArray} {ps : List (Nat × Bool)} {fr : List Nat} (h : St ds nms ps fr) (across : Bool) (k : Nat) :
    (k = 0 ∨ ∃ i, RoomAt ds across k i) ↔ (k ≤ sumN fr ∧ (k = 0 ∨ (∃ c, c < fr.length ∧ k ≤ fr[c]?.getD 0) ∨ across = true)) := by
  have hle : ∀ c : Nat, fr[c]?.getD 0 ≤ sumN fr := fun c => by
    rw [h.fr.1 c, h.fr.2.2]
    exact List.countP_mono_left (fun p _ hp => by simp at hp; exact hp.1)
  constructor
  · rintro (h0 | ⟨i, d, hd, hf, hk⟩)
    · exact ⟨by omega, .inl h0⟩
    · have hk' := Nat.le_trans hk ((List.drop_sublist i ds).countP_le)
      cases across with
      | true =>
        refine ⟨?_, .inr (.inr rfl)⟩
        rw [← h.total]
        refine Nat.le_trans hk' (List.countP_mono_left (fun x _ hx => ?_))
        simp only [okD, Bool.and_eq_true] at hx
        exact hx.1
      | false =>
        obtain ⟨p, h1, h2, h3⟩ := h.at' i d hd
        rw [h.island h3] at hk'
        exact ⟨Nat.le_trans hk' (hle _), .inr (.inl ⟨p.1, h.fr.2.1 p (List.mem_of_getElem? h1), hk'⟩)⟩
  · rintro ⟨hs, h0 | ⟨c, hc, hk⟩ | ha⟩
    · exact .inl h0
    · by_cases hk0 : k = 0
      · exact .inl hk0
      refine .inr ?_
      have hcn : c < nms.length := by rw [← h.len]; exact hc
      have hnm : nms[c]? = some nms[c] := List.getElem?_eq_getElem hcn
      rw [← h.island hnm] at hk
      obtain ⟨i, d, h1, h2, h3⟩ := count_first (okD false nms[c]) ds (by omega)
      simp only [okD, Bool.false_or, Bool.and_eq_true, Bool.not_eq_true', decide_eq_true_eq] at h2
      refine ⟨i, d, h1, h2.1, ?_⟩
      rw [← h3] at hk
      refine Nat.le_trans hk (List.countP_mono_left (fun x _ hx => ?_))
      simp only [okD, Bool.false_or, Bool.and_eq_true, Bool.not_eq_true', decide_eq_true_eq] at hx
      simp [okD, hx.1, hx.2, h2.2]
    · by_cases hk0 : k = 0
      · exact .inl hk0
      refine .inr ?_
      subst ha
      rw [← h.total] at hs
      obtain ⟨i, d, h1, h2, h3⟩ := count_first (fun d => !d.2) ds (by omega)
      refine ⟨i, d, h1, by simpa using h2, ?_⟩
      rw [← h3] at hs
      refine Nat.le_trans hs (List.countP_mono_left (fun x _ hx => ?_))
      simp only [Bool.not_eq_true'] at hx
      simp [okD, hx]

/-- The node takes the request exactly where the law says so. -/
theorem fits_iff {ds : List (ByteArray × Bool)} {nms : List ByteArray} {ps : List (Nat × Bool)} {fr : List Nat} (h : St ds nms ps fr) (cpu mem rc rm : Int) (across : Bool) (k : Nat) :
    Fits cpu mem rc rm k across fr ↔ (rc ≤ cpu ∧ rm ≤ mem ∧ (k = 0 ∨ ∃ i, RoomAt ds across k i)) := by
  rw [room_iff h]
  unfold Fits
  constructor
  · rintro ⟨h1, h2⟩
    exact ⟨by omega, by omega, h2⟩
  · rintro ⟨h1, h2, h3⟩
    exact ⟨by omega, h3⟩

end Go.Proofs.Qxb6612460aGreatFmt
