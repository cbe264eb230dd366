import PyProof.Rows.All
import Wide.All
import OpenK.AllK
import Wide.FinOn
import PySem.Challenge.RW_jg0015_01
set_option Elab.async false
set_option maxRecDepth 100000
set_option maxHeartbeats 8000000
set_option rowWalk.seconds 0
set_option compiler.extract_closed false
-- part P0
namespace Mine
/-! the plain parser: over the octets from a place on, as ints -/
structure R where
  first : Int
  tag : Int
  hdr : Nat
  len : Nat
  tr : Nat
noncomputable def R.tot (r : R) : Nat := r.hdr + r.len + r.tr
noncomputable def beV (ks : List Int) : Int := ks.foldl (fun a k => a * 256 + k) 0
noncomputable def tagL : List Int → Int → Option (Int × Nat)
  | [], _ => none
  | b :: l, t =>
    if b = 128 ∧ t = 0 then none
    else if b < 128 then some (t * 128 + b % 128, 1)
    else (tagL l (t * 128 + b % 128)).map fun x => (x.1, x.2 + 1)
noncomputable def tagP (b : Int) (l : List Int) : Option (Int × Nat) :=
  if b % 32 = 31 then (match tagL l 0 with
    | none => none
    | some x => if x.1 < 31 then none else some x)
  else some (b % 32, 0)
noncomputable def seqL (f : List Int → Option R) : Nat → List Int → Option Nat
  | 0, _ => none
  | m + 1, l => if l.take 2 = [0, 0] then some 0 else match f l with
    | none => none
    | some r => (seqL f m (l.drop r.tot)).map (· + r.tot)
noncomputable def lenP (f : List Int → Option R) (b tag : Int) (u : Nat) : List Int → Option R
  | [] => none
  | lo :: l =>
    if lo < 128 then (if lo.toNat ≤ l.length then some ⟨b, tag, u + 1, lo.toNat, 0⟩ else none)
    else if lo % 128 ≠ 0 then
      (if l.length < (lo % 128).toNat then none
       else if (beV (l.take (lo % 128).toNat)).toNat ≤ l.length - (lo % 128).toNat then some ⟨b, tag, u + 1 + (lo % 128).toNat, (beV (l.take (lo % 128).toNat)).toNat, 0⟩ else none)
    else if b / 32 % 2 = 0 then none
    else (seqL f (l.length + 1) l).map fun e => ⟨b, tag, u + 1, e, 2⟩
noncomputable def ppL : Nat → List Int → Option R
  | 0, _ => none
  | _ + 1, [] => none
  | k + 1, b :: l => match tagP b l with
    | none => none
    | some x => lenP (ppL k) b x.1 (x.2 + 1) (l.drop x.2)
end Mine
-- part P1
namespace Mine
theorem tagL_len : ∀ {l : List Int} {t : Int} {x : Int × Nat}, tagL l t = some x → 1 ≤ x.2 ∧ x.2 ≤ l.length
  | [], _, _, h => by simp [tagL] at h
  | b :: l, t, x, h => by
    unfold tagL at h
    split at h
    · cases h
    · split at h
      · cases h
        simp
      · obtain ⟨y, hy, rfl⟩ := Option.map_eq_some_iff.mp h
        have := tagL_len hy
        simp only [List.length_cons]
        omega
theorem tagP_len {b : Int} {l : List Int} {x : Int × Nat} (h : tagP b l = some x) : x.2 ≤ l.length := by
  unfold tagP at h
  split at h
  · split at h
    · cases h
    · split at h
      · cases h
      · cases h
        rename_i hy _
        exact (tagL_len hy).2
  · cases h
    exact Nat.zero_le _
theorem seqL_len {f : List Int → Option R} (hf : ∀ l r, f l = some r → r.tot ≤ l.length) : ∀ {m : Nat} {l : List Int} {e : Nat}, seqL f m l = some e → e + 2 ≤ l.length
  | 0, _, _, h => by simp [seqL] at h
  | m + 1, l, e, h => by
    unfold seqL at h
    split at h
    · cases h
      rename_i h2
      have := congrArg List.length h2
      simp only [List.length_take, List.length_cons, List.length_nil] at this
      omega
    · split at h
      · cases h
      · rename_i r hr
        obtain ⟨y, hy, rfl⟩ := Option.map_eq_some_iff.mp h
        have h1 := seqL_len hf hy
        have h2 := hf _ _ hr
        simp only [List.length_drop] at h1
        omega
theorem lenP_len {f : List Int → Option R} (hf : ∀ l r, f l = some r → r.tot ≤ l.length) {b t : Int} {u : Nat} {l : List Int} {r : R} (h : lenP f b t u l = some r) : u + 1 ≤ r.tot ∧ r.tot ≤ u + l.length := by
  cases l with
  | nil => simp [lenP] at h
  | cons lo l =>
    simp only [lenP] at h
    split at h
    · split at h
      · cases h
        simp only [R.tot, List.length_cons]; omega
      · cases h
    · split at h
      · split at h
        · cases h
        · split at h
          · cases h
            simp only [R.tot, List.length_cons]; omega
          · cases h
      · split at h
        · cases h
        · obtain ⟨y, hy, rfl⟩ := Option.map_eq_some_iff.mp h
          have := seqL_len hf hy
          simp only [R.tot, List.length_cons]; omega
theorem ppL_len : ∀ (k : Nat) (l : List Int) (r : R), ppL k l = some r → 2 ≤ r.tot ∧ r.tot ≤ l.length
  | 0, _, _, h => by simp [ppL] at h
  | k + 1, [], _, h => by simp [ppL] at h
  | k + 1, b :: l, r, h => by
    simp only [ppL] at h
    split at h
    · cases h
    · rename_i x hx
      have h1 := tagP_len hx
      have h2 := lenP_len (fun l r h => (ppL_len k l r h).2) h
      simp only [List.length_drop, List.length_cons] at h2 ⊢
      omega
theorem seqL_fuel {f : List Int → Option R} (hf : ∀ l r, f l = some r → 2 ≤ r.tot ∧ r.tot ≤ l.length) : ∀ (m1 m2 : Nat) (l : List Int), l.length < m1 → l.length < m2 → seqL f m1 l = seqL f m2 l
  | 0, _, _, h, _ => absurd h (Nat.not_lt_zero _)
  | _, 0, _, _, h => absurd h (Nat.not_lt_zero _)
  | m1 + 1, m2 + 1, l, h1, h2 => by
    unfold seqL
    split
    · rfl
    · split
      · rfl
      · rename_i r hr
        have := hf _ _ hr
        rw [seqL_fuel hf m1 m2 (l.drop r.tot) (by rw [List.length_drop]; omega) (by rw [List.length_drop]; omega)]
theorem seqL_stop {f : List Int → Option R} {l : List Int} (h : l.take 2 = [0, 0]) (m : Nat) : seqL f (m + 1) l = some 0 := by
  unfold seqL; rw [if_pos h]
theorem seqL_none {f : List Int → Option R} {l : List Int} (h : l.take 2 ≠ [0, 0]) (hf : f l = none) (m : Nat) : seqL f (m + 1) l = none := by
  unfold seqL; rw [if_neg h, hf]
theorem seqL_step {f : List Int → Option R} {l : List Int} {r : R} (h : l.take 2 ≠ [0, 0]) (hf : f l = some r) (m : Nat) : seqL f (m + 1) l = (seqL f m (l.drop r.tot)).map (· + r.tot) := by
  unfold seqL; rw [if_neg h, hf]; cases m <;> rfl
end Mine
-- part P2
namespace Mine
/-! what is read of a list depends on the octets read alone -/
theorem ag_le {n m : Nat} {l l' : List Int} (h : l'.take m = l.take m) (hn : n ≤ m) : l'.take n = l.take n := by
  have := congrArg (List.take n) h
  rwa [List.take_take, List.take_take, Nat.min_eq_left hn] at this
theorem ag_drop {a n : Nat} {l l' : List Int} (h : l'.take (a + n) = l.take (a + n)) : (l'.drop a).take n = (l.drop a).take n := by
  rw [List.take_drop, List.take_drop, h]
theorem ag_len {n : Nat} {l l' : List Int} (h : l'.take n = l.take n) (hn : n ≤ l.length) : n ≤ l'.length := by
  have := congrArg List.length h
  rw [List.length_take, List.length_take] at this
  omega
theorem ag_cons {n : Nat} {b : Int} {l l' : List Int} (h : l'.take (n + 1) = (b :: l).take (n + 1)) : ∃ l0, l' = b :: l0 ∧ l0.take n = l.take n := by
  cases l' with
  | nil => simp at h
  | cons c l0 =>
    simp only [List.take_succ_cons, List.cons.injEq] at h
    exact ⟨l0, by rw [h.1], h.2⟩
theorem tagL_tr : ∀ {l l' : List Int} {t : Int} {x : Int × Nat}, tagL l t = some x → l'.take x.2 = l.take x.2 → tagL l' t = some x
  | [], _, _, _, h, _ => by simp [tagL] at h
  | b :: l, l', t, x, h, ha => by
    have h1 := (tagL_len h).1
    obtain ⟨n, hn⟩ : ∃ n, x.2 = n + 1 := ⟨x.2 - 1, by omega⟩
    rw [hn] at ha
    obtain ⟨l0, rfl, h0⟩ := ag_cons ha
    unfold tagL at h ⊢
    split at h
    · cases h
    · rename_i c1
      rw [if_neg c1]
      split at h
      · rename_i c2
        rw [if_pos c2]
        exact h
      · rename_i c2
        rw [if_neg c2]
        obtain ⟨y, hy, rfl⟩ := Option.map_eq_some_iff.mp h
        have hy2 : y.2 = n := by simpa using hn
        rw [tagL_tr hy (by rw [hy2]; exact h0)]
        rfl
theorem tagP_tr {b : Int} {l l' : List Int} {x : Int × Nat} (h : tagP b l = some x) (ha : l'.take x.2 = l.take x.2) : tagP b l' = some x := by
  unfold tagP at h ⊢
  split at h
  · rename_i c1
    rw [if_pos c1]
    split at h
    · cases h
    · rename_i y hy
      split at h
      · cases h
      · rename_i c2
        cases h
        rw [tagL_tr hy ha]
        simp only
        rw [if_neg c2]
  · rename_i c1
    rw [if_neg c1]
    exact h
theorem seqL_tr {f f' : List Int → Option R} (hf : ∀ l r, f l = some r → 2 ≤ r.tot ∧ r.tot ≤ l.length) {E : Nat} (hff : ∀ l l' r, f l = some r → r.tot ≤ E → l'.take r.tot = l.take r.tot → f' l' = some r) :
    ∀ {m m' : Nat} {l l' : List Int} {e : Nat}, seqL f m l = some e → e ≤ E → l'.length < m' → l'.take (e + 2) = l.take (e + 2) → seqL f' m' l' = some e
  | 0, _, _, _, _, h, _, _, _ => by simp [seqL] at h
  | m + 1, 0, _, _, _, _, _, hm, _ => absurd hm (Nat.not_lt_zero _)
  | m + 1, m' + 1, l, l', e, h, hE, hm, ha => by
    unfold seqL at h ⊢
    split at h
    · cases h
      rename_i c1
      have := ag_le (n := 2) ha (by omega)
      rw [if_pos (this.trans c1)]
    · rename_i c1
      have h2 := ag_le (n := 2) ha (by omega)
      rw [if_neg (fun q => c1 (h2.symm.trans q))]
      split at h
      · cases h
      · rename_i r hr
        obtain ⟨y, hy, rfl⟩ := Option.map_eq_some_iff.mp h
        have hr2 := hf _ _ hr
        have hfr := hff l l' r hr (by omega) (ag_le ha (by omega))
        rw [hfr]
        simp only
        have hsl := seqL_len (fun l r h => (hf l r h).2) hy
        rw [List.length_drop] at hsl
        have hl2 := ag_len (n := 2) h2 (by omega)
        rw [seqL_tr hf hff hy (by omega) (by rw [List.length_drop]; omega) (ag_drop (by rw [show r.tot + (y + 2) = y + r.tot + 2 by omega]; exact ha))]
        rfl
theorem lenP_tr {f f' : List Int → Option R} (hf : ∀ l r, f l = some r → 2 ≤ r.tot ∧ r.tot ≤ l.length) {b t : Int} {u : Nat} {l l' : List Int} {r : R}
    (hff : ∀ l l' q, f l = some q → q.tot + 4 ≤ r.tot → l'.take q.tot = l.take q.tot → f' l' = some q) (hu : 1 ≤ u) (h : lenP f b t u l = some r) (ha : l'.take (r.tot - u) = l.take (r.tot - u)) : lenP f' b t u l' = some r := by
  have hlen := lenP_len (fun l r h => (hf l r h).2) h
  cases l with
  | nil => simp [lenP] at h
  | cons lo l =>
    obtain ⟨n, hn⟩ : ∃ n, r.tot - u = n + 1 := ⟨r.tot - u - 1, by omega⟩
    rw [hn] at ha
    obtain ⟨l0, rfl, h0⟩ := ag_cons ha
    simp only [lenP] at h ⊢
    split at h
    · rename_i c1
      rw [if_pos c1]
      split at h
      · rename_i c2
        cases h
        simp only [R.tot] at hn
        have : lo.toNat ≤ l0.length := by
          have := ag_len (n := lo.toNat) (ag_le h0 (by omega)) c2
          exact this
        rw [if_pos this]
      · cases h
    · rename_i c1
      rw [if_neg c1]
      split at h
      · rename_i c2
        rw [if_pos c2]
        split at h
        · cases h
        · rename_i c3
          split at h
          · rename_i c4
            cases h
            simp only [R.tot] at hn
            have e1 : l0.take (lo % 128).toNat = l.take (lo % 128).toNat := ag_le h0 (by omega)
            have e2 := ag_len h0 (by omega)
            rw [e1, if_neg (by omega), if_pos (by omega)]
          · cases h
      · rename_i c2
        rw [if_neg c2]
        split at h
        · cases h
        · rename_i c3
          rw [if_neg c3]
          obtain ⟨y, hy, rfl⟩ := Option.map_eq_some_iff.mp h
          have hT : R.tot ⟨b, t, u + 1, y, 2⟩ = u + 1 + y + 2 := rfl
          rw [hT] at hn hff
          rw [seqL_tr hf (E := y) (fun l l' q hq hE hag => hff l l' q hq (by omega) hag) hy (Nat.le_refl _) (Nat.lt_succ_self _) (ag_le h0 (by omega))]
          rfl
theorem ppL_tr : ∀ (k' k : Nat) (l l' : List Int) (r : R), ppL k l = some r → r.tot + 2 ≤ 4 * k' → l'.take r.tot = l.take r.tot → ppL k' l' = some r
  | 0, k, l, _, r, h, hk, _ => by have := (ppL_len k l r h).1; omega
  | k' + 1, 0, _, _, _, h, _, _ => by simp [ppL] at h
  | k' + 1, k + 1, [], _, _, h, _, _ => by simp [ppL] at h
  | k' + 1, k + 1, b :: l, l', r, h, hk, ha => by
    have h2 := (ppL_len _ _ _ h)
    obtain ⟨n, hn⟩ : ∃ n, r.tot = n + 1 := ⟨r.tot - 1, by omega⟩
    rw [hn] at ha
    obtain ⟨l0, rfl, h0⟩ := ag_cons ha
    simp only [ppL] at h ⊢
    split at h
    · cases h
    · rename_i x hx
      have h3 := lenP_len (fun l r h => (ppL_len k l r h).2) h
      rw [tagP_tr hx (ag_le h0 (by omega))]
      simp only
      exact lenP_tr (ppL_len k) (fun m m' q hq hE hag => ppL_tr k' k m m' q hq (by omega) hag) (by omega) h (ag_drop (by rw [show x.2 + (r.tot - (x.2 + 1)) = n by omega]; exact h0))
end Mine
-- part P3
namespace Mine
def Piece (q : List Int) : Prop := (∃ r, ppL 11 q = some r ∧ r.tot = q.length) ∧ q.length ≤ 24 ∧ q.head? ≠ some 0
theorem pp_cut {k' : Nat} {l : List Int} {r : R} (h : ppL 11 l = some r) (hk : r.tot + 2 ≤ 4 * k') : ppL k' (l.take r.tot) = some r :=
  ppL_tr k' 11 l _ r h hk (by rw [List.take_take, Nat.min_self])
theorem pp_more {k' : Nat} {l z : List Int} {r : R} (h : ppL 11 l = some r) (hk : r.tot + 2 ≤ 4 * k') : ppL k' (l.take r.tot ++ z) = some r := by
  have h2 := ppL_len _ _ _ h
  refine ppL_tr k' 11 l _ r h hk ?_
  rw [List.take_append_of_le_length (by rw [List.length_take]; omega), List.take_take, Nat.min_self]
theorem pp_short {l : List Int} {r : R} {n : Nat} (h : ppL 11 l = some r) (hk : l.length ≤ 24) (hn : n < r.tot) : ppL 11 (l.take n) = none := by
  have h2 := ppL_len _ _ _ h
  match hq : ppL 11 (l.take n) with
  | none => rfl
  | some q =>
    have h3 := ppL_len _ _ _ hq
    rw [List.length_take] at h3
    have h4 := ppL_tr 11 11 _ l q hq (by omega) (by rw [List.take_take, Nat.min_eq_left (by omega)])
    rw [h] at h4
    cases h4
    omega
theorem seqL_end {f : List Int → Option R} (hf : ∀ l r, f l = some r → 2 ≤ r.tot ∧ r.tot ≤ l.length) : ∀ {m : Nat} {l : List Int} {e : Nat}, seqL f m l = some e → (l.drop e).take 2 = [0, 0]
  | 0, _, _, h => by simp [seqL] at h
  | m + 1, l, e, h => by
    unfold seqL at h
    split at h
    · cases h
      rename_i c1
      exact c1
    · split at h
      · cases h
      · rename_i r hr
        obtain ⟨y, hy, rfl⟩ := Option.map_eq_some_iff.mp h
        have := seqL_end hf hy
        rw [List.drop_drop] at this
        rw [Nat.add_comm]
        exact this
theorem lenP_tr0 {f : List Int → Option R} (hf : ∀ l r, f l = some r → 2 ≤ r.tot ∧ r.tot ≤ l.length) {b t : Int} {u : Nat} {l : List Int} {r : R} (h : lenP f b t u l = some r) : u + 1 ≤ r.hdr ∧ r.tag = t ∧ r.first = b ∧ (r.tr = 0 ∨ (r.tr = 2 ∧ (l.drop (r.hdr + r.len - u)).take 2 = [0, 0])) := by
  cases l with
  | nil => simp [lenP] at h
  | cons lo l =>
    simp only [lenP] at h
    split at h
    · split at h
      · cases h
        exact ⟨Nat.le_refl _, rfl, rfl, .inl rfl⟩
      · cases h
    · split at h
      · split at h
        · cases h
        · split at h
          · cases h
            exact ⟨Nat.le_add_right _ _, rfl, rfl, .inl rfl⟩
          · cases h
      · split at h
        · cases h
        · obtain ⟨y, hy, rfl⟩ := Option.map_eq_some_iff.mp h
          refine ⟨Nat.le_refl _, rfl, rfl, .inr ⟨rfl, ?_⟩⟩
          have := seqL_end hf hy
          show ((lo :: l).drop (u + 1 + y - u)).take 2 = _
          rw [show u + 1 + y - u = y + 1 by omega, List.drop_succ_cons]
          exact this
/-- what a parsed value says of its octets -/
theorem pp_parts {k : Nat} {l : List Int} {r : R} (h : ppL k l = some r) : (∃ l0, l = r.first :: l0) ∧ 2 ≤ r.hdr ∧ (r.tr = 0 ∨ (r.tr = 2 ∧ (l.drop (r.hdr + r.len)).take 2 = [0, 0])) ∧ (r.first = 0 → r.tag = 0) := by
  cases k with
  | zero => simp [ppL] at h
  | succ k =>
    cases l with
    | nil => simp [ppL] at h
    | cons b l =>
      simp only [ppL] at h
      split at h
      · cases h
      · rename_i x hx
        obtain ⟨h1, h2, h3, h4⟩ := lenP_tr0 (ppL_len k) h
        have h5 := lenP_len (fun l r h => (ppL_len k l r h).2) h
        refine ⟨⟨l, by rw [h3]⟩, by omega, ?_, ?_⟩
        · rcases h4 with h4 | ⟨h4, h6⟩
          · exact .inl h4
          · refine .inr ⟨h4, ?_⟩
            rw [List.drop_drop, show x.2 + (r.hdr + r.len - (x.2 + 1)) = r.hdr + r.len - 1 by omega] at h6
            rw [show r.hdr + r.len = (r.hdr + r.len - 1) + 1 by omega, List.drop_succ_cons]
            exact h6
        · intro h0
          rw [h3] at h0
          subst h0
          rw [h2]
          unfold tagP at hx
          rw [if_neg (by decide)] at hx
          cases hx
          rfl
/-- the three parts of a parsed value, laid end to end, are its octets -/
theorem pp_whole {k : Nat} {l : List Int} {r : R} (h : ppL k l = some r) : l.take r.hdr ++ (l.drop r.hdr).take r.len ++ List.replicate r.tr 0 = l.take r.tot := by
  have h2 := (pp_parts h).2.2.1
  have e : l.take r.hdr ++ (l.drop r.hdr).take r.len = l.take (r.hdr + r.len) := (List.take_add ..).symm
  rw [e]
  rcases h2 with h2 | ⟨h2, h3⟩
  · rw [h2]
    simp only [R.tot, h2, List.replicate_zero, List.append_nil, Nat.add_zero]
  · rw [show r.tot = r.hdr + r.len + 2 by rw [R.tot, h2], List.take_add (i := r.hdr + r.len) (j := 2), h3, h2]
    rfl
theorem piece_cut {l : List Int} {r : R} (h : ppL 11 l = some r) (hl : l.length ≤ 24) (h0 : ¬ (r.first / 64 = 0 ∧ r.first / 32 % 2 = 0 ∧ r.tag = 0)) : Piece (l.take r.tot) := by
  have h2 := ppL_len _ _ _ h
  refine ⟨⟨r, pp_cut h (by omega), by rw [List.length_take]; omega⟩, by rw [List.length_take]; omega, fun hh => h0 ?_⟩
  obtain ⟨⟨l0, e⟩, _, _, ht⟩ := pp_parts h
  have : r.first = 0 := by
    rw [e] at hh
    obtain ⟨n, hn⟩ : ∃ n, r.tot = n + 1 := ⟨r.tot - 1, by omega⟩
    rw [hn, List.take_succ_cons] at hh
    simpa using hh
  rw [this, ht this]
  decide
theorem seq_pieces {k : Nat} (hk : 26 ≤ 4 * k) (z : List Int) : ∀ (pcs : List (List Int)) (m : Nat), (∀ q ∈ pcs, Piece q) → (pcs.flatten ++ ([0, 0] ++ z)).length < m → seqL (ppL k) m (pcs.flatten ++ ([0, 0] ++ z)) = some pcs.flatten.length
  | _, 0, _, hm => absurd hm (Nat.not_lt_zero _)
  | [], m + 1, _, _ => seqL_stop rfl m
  | q :: pcs, m + 1, hq, hm => by
    obtain ⟨⟨r, h1, h2⟩, h3, h4⟩ := hq q (.head _)
    have hl := ppL_len _ _ _ h1
    have hs := pp_more (k' := k) (z := pcs.flatten ++ ([0, 0] ++ z)) h1 (by omega)
    rw [h2, List.take_length] at hs
    have e : (q :: pcs).flatten ++ ([0, 0] ++ z) = q ++ (pcs.flatten ++ ([0, 0] ++ z)) := by
      rw [List.flatten_cons, List.append_assoc]
    rw [e] at hm ⊢
    have hne : (q ++ (pcs.flatten ++ ([0, 0] ++ z))).take 2 ≠ [0, 0] := by
      intro hh
      apply h4
      match q, h2, hl with
      | [], _, hl => simp at hl; omega
      | a :: q', _, _ =>
        rw [List.cons_append, List.take_succ_cons] at hh
        simp only [List.cons.injEq] at hh
        rw [List.head?_cons, hh.1]
    rw [seqL_step hne hs, h2, List.drop_left, seq_pieces hk z pcs m (fun x hx => hq x (.tail _ hx)) (by rw [List.length_append] at hm; omega)]
    simp only [Option.map_some, List.flatten_cons, List.length_append, Option.some.injEq]
    omega
end Mine
-- part P4
namespace Mine
theorem pp_told {J z : List Int} (hJ : J.length ≤ 24) : ppL 11 (48 :: (J.length : Int) :: (J ++ z)) = some ⟨48, 16, 2, J.length, 0⟩ := by
  have e : tagP 48 ((J.length : Int) :: (J ++ z)) = some (16, 0) := by
    unfold tagP
    rw [if_neg (by decide)]
    rfl
  simp only [ppL, e, List.drop_zero, lenP]
  rw [if_pos (by omega), if_pos (by simp)]
  simp
theorem pp_long {J z : List Int} (hJ : J.length ≤ 24) : ppL 11 (127 :: 129 :: 3 :: 130 :: 0 :: (J.length : Int) :: (J ++ z)) = some ⟨127, 131, 6, J.length, 0⟩ := by
  have e : ∀ l : List Int, tagP 127 (129 :: 3 :: l) = some (131, 2) := by
    intro l
    unfold tagP
    rw [if_pos (by decide)]
    rfl
  simp only [ppL, e, List.drop_succ_cons, List.drop_zero, lenP]
  have h2 : ((130 : Int) % 128).toNat = 2 := by decide
  have hb : beV [0, (J.length : Int)] = (J.length : Int) := by simp [beV]
  rw [if_neg (by decide), if_pos (by decide), h2]
  simp only [List.take_succ_cons, List.take_zero, hb, List.length_cons]
  rw [if_neg (by omega), if_pos (by simp)]
  simp
theorem pp_endless {pcs : List (List Int)} {z : List Int} {k : Nat} (hk : 26 ≤ 4 * k) (hp : ∀ q ∈ pcs, Piece q) (b : Int) (hb : b % 32 ≠ 31) (hc : b / 32 % 2 ≠ 0) :
    ppL (k + 1) (b :: 128 :: (pcs.flatten ++ ([0, 0] ++ z))) = some ⟨b, b % 32, 2, pcs.flatten.length, 2⟩ := by
  have e : ∀ l : List Int, tagP b l = some (b % 32, 0) := by
    intro l
    unfold tagP
    rw [if_neg hb]
  simp only [ppL, e, List.drop_zero, lenP]
  rw [if_neg (by decide), if_neg (by decide), if_neg hc, seq_pieces hk z pcs _ hp (Nat.lt_succ_self _)]
  rfl
theorem pp_nested {pcs : List (List Int)} {z : List Int} (hp : ∀ q ∈ pcs, Piece q) :
    ppL 11 (48 :: 128 :: 36 :: 128 :: (pcs.flatten ++ ([0, 0, 0, 0] ++ z))) = some ⟨48, 16, 2, pcs.flatten.length + 4, 2⟩ := by
  have e : ∀ l : List Int, tagP 48 l = some (16, 0) := by
    intro l
    unfold tagP
    rw [if_neg (by decide)]
    rfl
  have h1 := pp_endless (k := 9) (z := [0, 0] ++ z) (by decide) hp 36 (by decide) (by decide)
  have e2 : pcs.flatten ++ ([0, 0] ++ ([0, 0] ++ z)) = pcs.flatten ++ ([0, 0, 0, 0] ++ z) := rfl
  rw [e2] at h1
  rw [show (11 : Nat) = 10 + 1 from rfl]
  simp only [ppL, e, List.drop_zero, lenP] at h1 ⊢
  have hs : seqL (ppL 10) ((36 :: 128 :: (pcs.flatten ++ ([0, 0, 0, 0] ++ z))).length + 1) (36 :: 128 :: (pcs.flatten ++ ([0, 0, 0, 0] ++ z))) = some (pcs.flatten.length + 4) := by
    have h3 := pp_endless (k := 9) (z := [0, 0] ++ z) (by decide) hp 36 (by decide) (by decide)
    rw [e2] at h3
    rw [seqL_step (by simp) h3]
    have hd : (36 :: 128 :: (pcs.flatten ++ ([0, 0, 0, 0] ++ z))).drop (R.tot ⟨36, 36 % 32, 2, pcs.flatten.length, 2⟩) = [0, 0] ++ z := by
      show (36 :: 128 :: (pcs.flatten ++ ([0, 0] ++ ([0, 0] ++ z)))).drop (2 + pcs.flatten.length + 2) = _
      rw [show 2 + pcs.flatten.length + 2 = (pcs.flatten.length + 2) + 1 + 1 by omega, List.drop_succ_cons, List.drop_succ_cons, ← List.append_assoc, List.drop_left' (by simp)]
    rw [hd]
    rw [List.length_cons, seqL_stop rfl]
    show some _ = some _
    simp only [Option.some.injEq, R.tot]
    omega
  rw [if_neg (by decide), if_neg (by decide), if_neg (by decide), hs]
  rfl
end Mine
-- part W0
open PySem PySem.W PyProof.Rows
namespace Mine
inductive Cut (P : Prop) : Prop
  | a (h : P) : Cut P
  | b (h : P) : Cut P
theorem Cut.out {P : Prop} (h : Cut P) : P := by cases h <;> assumption
section
variable {prog : Program} {w : World} {A : Around} {E : Value → Shared → Prop} {Q : Flow → Shared → Prop} {s : Shared} {env : Env}
theorem execs_append_wp {M : Model} {Γ : Ctx} (hΓ : Γ.In A) {l2 : List Stmt} : ∀ {l1 : List Stmt} {p : Pos} {s : Shared}, Sem.wp M Γ (execs l1 env) (fun f _ s' => match f with | .next => wpAny M A (execs l2 env) Q E s' | f => Q f s') (fun e _ s' => E e s') p s → Sem.wp M Γ (execs (l1 ++ l2) env) (fun f _ s' => Q f s') (fun e _ s' => E e s') p s
  | [], p, s, h => h Γ p hΓ
  | st :: r, p, s, h => by
    rw [execs_cons, Sem.wp_bind'] at h
    rw [List.cons_append, execs_cons, Sem.wp_bind']
    refine Sem.wp_mono M Γ _ (fun f p' s' h' => ?_) (fun _ _ _ h' => h') _ _ h
    cases f with
    | next => exact execs_append_wp hΓ h'
    | _ => exact h'
theorem execs_append {M : Model} {l1 l2 : List Stmt} {s : Shared} (h : wpAny M A (execs l1 env) (fun f s' => match f with | .next => wpAny M A (execs l2 env) Q E s' | f => Q f s') E s) : wpAny M A (execs (l1 ++ l2) env) Q E s :=
  fun Γ p hΓ => execs_append_wp hΓ (h Γ p hΓ)
theorem execs_cut {M : Model} (k : Nat) {l : List Stmt} {s : Shared} (h : wpAny M A (execs (l.take k) env) (fun f s' => Cut (match f with | .next => wpAny M A (execs (l.drop k) env) Q E s' | f => Q f s')) E s) : wpAny M A (execs l env) Q E s := by
  rw [← List.take_append_drop k l]
  exact execs_append (wpAny_mono h (fun _ _ x => x.out) fun _ _ x => x)
theorem execs_join {M : Model} (k : Nat) (I : Shared → Prop) {l : List Stmt} {s : Shared} (h : wpAny M A (execs (l.take k) env) (fun f s' => Cut (f = .next ∧ I s')) E s)
    (h2 : ∀ s', I s' → wpAny M A (execs (l.drop k) env) Q E s') : wpAny M A (execs l env) Q E s := by
  refine execs_cut k (wpAny_mono h (fun f s' h' => Cut.a ?_) fun _ _ x => x)
  obtain ⟨rfl, hI⟩ := h'.out
  exact h2 s' hI

theorem while_my {test : Expr} {body : List Stmt} {pos : Pos} (J : Nat → Shared → Prop) (n₀ : Nat) (hJ : J n₀ s)
    (turn : ∀ n s, J n s →
      wpAny (model prog w) A (isTrue test env (eval test env)) (fun b s₂ =>
        if b = true then wpAny (model prog w) A (execs body env) (fun f s₃ => Cut (match f with
            | .next | .cont => ∃ m, m < n ∧ J m s₃
            | .brk => Q .next s₃
            | .ret v => Q (.ret v) s₃)) E s₂ else Q .next s₂) E s)
    (hE : PassesOwn (model prog w) A env E) :
    wpAny (model prog w) A (exec (.While test body [] pos) env) Q E s := by
  refine wpAny_While (codeAny_whileLoop J (fun n s' hI => ?_) n₀ hJ)
  refine wpAny_mono (turn n s' hI) (fun b s₂ h₂ => ?_) hE
  cases b with
  | false =>
    simp only [Bool.false_eq_true, if_false] at h₂ ⊢
    exact wpAny_execs_nil h₂
  | true =>
    simp only [if_true] at h₂ ⊢
    refine wpAny_mono h₂ (fun f s₃ h₃ => ?_) hE
    have h₃ := h₃.out
    cases f <;> exact h₃
end
theorem Fr.congr {h₀ h : Heap} {L : Addr} {m m' : PySem.Str → Option Value} (F : Fr h₀ L h m) (e : ∀ y, m y = m' y) : Fr h₀ L h m' := by
  have : m = m' := funext e
  subst this
  exact F
end Mine
-- part W1
open PySem PySem.W PyProof.Rows
namespace Mine
def Short (n : Int) : Prop := n.natAbs.log2 < 1920
theorem short_len {n : Int} (h : Short n) : (PySem.Str.ofString (toString n)).length ≤ 2000 := by
  have e := int_text_length_le (k := 1920) (by decide) h
  rw [PySem.ofString_length]
  omega
local macro_rules | `(tactic| kpt_len) => `(tactic| exact short_len (by assumption))
local macro_rules | `(tactic| kpt_hd) => `(tactic| first | (unfold Short at *; assumption) | exact KPt.hd2 (by (unfold Short at *; assumption)))
local macro_rules | `(tactic| kpt_piece) => `(tactic| first
  | (refine KPc.after_add0 (by kpc_g) (by kpc_text) (by kpc_obj) ?_; intro _ _)
  | (refine KPc.after_add (by kpc_g) (by kpc_text) (by kpc_obj) ?_; intro _ _)
  | (refine KPc.after_str0 (by kpc_g) (by kpt_len) (by kpc_obj) ?_; intro _ _)
  | (refine KPc.after_str (by kpc_g) (by kpt_len) (by kpc_obj) ?_; intro _ _))
theorem msg2 {prog : Program} {w : World} {A : Around} {E : Value → Shared → Prop} {Q : Value → Shared → Prop} {s : Shared} {h₀ : Heap} {L b : Addr} {news : List (Addr × Obj)} {a1 a2 : Int} {u1 u2 t : Tok} {n : Nat}
    (N : News h₀ L s.heap news) (hb : (b, ({ cls := .type "tuple", data := .seq #[.int a1 u1, .int a2 u2] n } : Obj)) ∈ news) (h1 : Short a1) (h2 : Short a2)
    (h : ∀ T t' k, Q (.str T t') { s with toks := k }) :
    wpAny (model prog w) A (binaryOp .Mod (.str (PySem.Str.ofString "Insufficient data - %s bytes requested but only %s available") t) (.ref b)) Q E s := by
  refine' KPt.mod_tuple N hb ?F ?m ?r
  case F => kpt_eq
  case m => k_dflt (kpt_run)
  case r => exact fun t' k => h _ t' k
end Mine
-- part W2
open PySem PySem.W PyProof.Rows
namespace Mine
noncomputable def look : List (PySem.Str × Option Value) → PySem.Str → Option Value
  | [], _ => none
  | (x, o) :: l, y => if y = x then o else look l y
theorem look_lookup (l : List (PySem.Str × Value)) (y : PySem.Str) : List.lookup y l = look (l.map fun x => (x.1, some x.2)) y := by
  induction l with
  | nil => rfl
  | cons x l ih =>
    obtain ⟨k, v⟩ := x
    simp only [List.lookup_cons, List.map_cons, look]
    by_cases h : y = k
    · subst h; simp
    · have h2 : (y == k) = false := by simp [h]
      rw [h2, if_neg h]
      exact ih
theorem look_map (m : PySem.Str → Option Value) (y : PySem.Str) : ∀ ns : List PySem.Str, look (ns.map fun x => (x, m x)) y = if y ∈ ns then m y else none
  | [] => rfl
  | x :: r => by
    simp only [List.map_cons, look, List.mem_cons, look_map m y r]
    by_cases h : y = x
    · subst h; simp
    · simp only [h, if_false, false_or]
theorem Fr.canon {h₀ h : Heap} {L : Addr} {m : PySem.Str → Option Value} (ns : List PySem.Str) (F : Fr h₀ L h m) (hn : ∀ y, y ∉ ns → m y = none) : Fr h₀ L h (look (ns.map fun x => (x, m x))) :=
  Fr.congr F fun y => by
    rw [look_map]
    by_cases h : y ∈ ns
    · rw [if_pos h]
    · rw [if_neg h, hn y h]
theorem short_lt {n : Int} (h1 : -1000000 < n) (h2 : n < 1000000) : Short n :=
  shown (N := 1000000) h1 h2 (by decide +kernel)
theorem RaisedN.sub {base : Heap} {l : List Env} {e : Addr} {cls : Value} {news news' : List (Addr × Obj)} {h : Heap} (x : RaisedN base l e cls news' h) (hs : ∀ q ∈ news, q ∈ news') : RaisedN base l e cls news h := by
  obtain ⟨B, a0, h1, h2, h3⟩ := x
  exact ⟨B, a0, h1, fun q hq => h2 q (hs q hq), h3⟩
theorem fin_all {P : Int → Prop} [DecidablePred P] (h : ∀ n : Fin 256, P ((n.val : Nat) : Int)) {b : Int} (h0 : 0 ≤ b) (h1 : b < 256) : P b := by
  have := h ⟨b.toNat, by omega⟩
  simpa [Int.toNat_of_nonneg h0] using this
section
variable {b : Int}
theorem b_and31 (h0 : 0 ≤ b) (h1 : b < 256) : Builtin.bitAnd b 31 = b % 32 := fin_all (P := fun b => Builtin.bitAnd b 31 = b % 32) (by decide +kernel) h0 h1
theorem b_and127 (h0 : 0 ≤ b) (h1 : b < 256) : Builtin.bitAnd b 127 = b % 128 := fin_all (P := fun b => Builtin.bitAnd b 127 = b % 128) (by decide +kernel) h0 h1
theorem b_con (h0 : 0 ≤ b) (h1 : b < 256) : Builtin.bitAnd (b.fdiv (2 ^ Int.toNat 5)) 1 = b / 32 % 2 := fin_all (P := fun b => Builtin.bitAnd (b.fdiv (2 ^ Int.toNat 5)) 1 = b / 32 % 2) (by decide +kernel) h0 h1
theorem b_shr7 (h0 : 0 ≤ b) (h1 : b < 256) : b.fdiv (2 ^ Int.toNat 7) = b / 128 := fin_all (P := fun b => b.fdiv (2 ^ Int.toNat 7) = b / 128) (by decide +kernel) h0 h1
theorem b_shr6 (h0 : 0 ≤ b) (h1 : b < 256) : b.fdiv (2 ^ Int.toNat 6) = b / 64 := fin_all (P := fun b => b.fdiv (2 ^ Int.toNat 6) = b / 64) (by decide +kernel) h0 h1
end
theorem drop_getD {ks : List Int} {p : Nat} (h : p < ks.length) : ks.drop p = ks.getD p 0 :: ks.drop (p + 1) := by
  rw [List.drop_eq_getElem_cons h, List.getD_eq_getElem?_getD, List.getElem?_eq_getElem h]
  rfl
theorem ppL_at {ks : List Int} {p k : Nat} (h : p < ks.length) : ppL (k + 1) (ks.drop p) = match tagP (ks.getD p 0) (ks.drop (p + 1)) with
    | none => none
    | some x => lenP (ppL k) (ks.getD p 0) x.1 (x.2 + 1) (ks.drop (p + 1 + x.2)) := by
  rw [drop_getD h]
  simp only [ppL, List.drop_drop]
  try (cases tagP (ks.getD p 0) (List.drop (p + 1) ks) <;> rfl)
theorem tagL_at {ks : List Int} {q : Nat} {t : Int} (h : q < ks.length) : tagL (ks.drop q) t = if ks.getD q 0 = 128 ∧ t = 0 then none
    else if ks.getD q 0 < 128 then some (t * 128 + ks.getD q 0 % 128, 1)
    else (tagL (ks.drop (q + 1)) (t * 128 + ks.getD q 0 % 128)).map fun x => (x.1, x.2 + 1) := by
  rw [drop_getD h]
  rfl
theorem tagL_end {ks : List Int} {q : Nat} {t : Int} (h : ks.length ≤ q) : tagL (ks.drop q) t = none := by
  rw [List.drop_eq_nil_of_le h]
  rfl
theorem pp_tag_none {ks : List Int} {p k : Nat} (h : p < ks.length) (hb : ks.getD p 0 % 32 = 31) (ht : tagL (ks.drop (p + 1)) 0 = none) : ppL k (ks.drop p) = none := by
  cases k with
  | zero => rfl
  | succ k => rw [ppL_at h]; unfold tagP; rw [if_pos hb, ht]
theorem pp_tag_small {ks : List Int} {p k : Nat} {x : Int × Nat} (h : p < ks.length) (hb : ks.getD p 0 % 32 = 31) (ht : tagL (ks.drop (p + 1)) 0 = some x) (hx : x.1 < 31) : ppL k (ks.drop p) = none := by
  cases k with
  | zero => rfl
  | succ k => rw [ppL_at h]; unfold tagP; rw [if_pos hb, ht]; simp only [if_pos hx]
theorem tagP_of {b : Int} {l : List Int} {x : Int × Nat} (hb : b % 32 = 31) (ht : tagL l 0 = some x) (hx : ¬ x.1 < 31) : tagP b l = some x := by
  unfold tagP; rw [if_pos hb, ht]; simp only [if_neg hx]
theorem pp_len_end {ks : List Int} {p k : Nat} {x : Int × Nat} (h : p < ks.length) (hx : tagP (ks.getD p 0) (ks.drop (p + 1)) = some x) (hq : ks.length ≤ p + 1 + x.2) : ppL k (ks.drop p) = none := by
  cases k with
  | zero => rfl
  | succ k => rw [ppL_at h, hx]; simp only; rw [List.drop_eq_nil_of_le hq]; rfl
theorem pp_len {ks : List Int} {p k : Nat} {x : Int × Nat} (h : p < ks.length) (hx : tagP (ks.getD p 0) (ks.drop (p + 1)) = some x) : ppL (k + 1) (ks.drop p) = lenP (ppL k) (ks.getD p 0) x.1 (x.2 + 1) (ks.drop (p + 1 + x.2)) := by
  rw [ppL_at h, hx]
theorem lenP_at {f : List Int → Option R} {b t : Int} {u : Nat} {ks : List Int} {q : Nat} (h : q < ks.length) : lenP f b t u (ks.drop q) =
    if ks.getD q 0 < 128 then (if (ks.getD q 0).toNat ≤ ks.length - (q + 1) then some ⟨b, t, u + 1, (ks.getD q 0).toNat, 0⟩ else none)
    else if ks.getD q 0 % 128 ≠ 0 then
      (if ks.length - (q + 1) < (ks.getD q 0 % 128).toNat then none
       else if (beV ((ks.drop (q + 1)).take (ks.getD q 0 % 128).toNat)).toNat ≤ ks.length - (q + 1) - (ks.getD q 0 % 128).toNat then some ⟨b, t, u + 1 + (ks.getD q 0 % 128).toNat, (beV ((ks.drop (q + 1)).take (ks.getD q 0 % 128).toNat)).toNat, 0⟩ else none)
    else if b / 32 % 2 = 0 then none
    else (seqL f (ks.length - (q + 1) + 1) (ks.drop (q + 1))).map fun e => ⟨b, t, u + 1, e, 2⟩ := by
  rw [drop_getD h]
  simp only [lenP, List.length_drop]
theorem ppL_end {ks : List Int} {p k : Nat} (h : ks.length ≤ p) : ppL k (ks.drop p) = none := by
  rw [List.drop_eq_nil_of_le h]
  cases k <;> rfl
end Mine
-- part W3
open PySem PySem.W PyProof.Rows
namespace Mine
open PySem.Calls
section
variable {prog : Program} {w : World} {M : Model} {A : Around} {E : Value → Shared → Prop} {s : Shared} {h₀ : Heap} {L : Addr} {m : PySem.Str → Option Value} {news : List (Addr × Obj)}
theorem keeps_bound {u : Addr} (h : Heap) (X : KFB.StandsAt u h) : ∃ k, (k = Keeper.frame ∨ k = Keeper.machine ∨ k = Keeper.boundFrame) ∧ Looks M h (keeperOf (.ref u)) k :=
  ⟨.machine, .inr (.inl rfl), (Looks.ld (part := none) X).andThen .now⟩
theorem callWith_boundKW {pos : Pos} {u : Addr} {first : List Value} {env : Env} {e : Expr} {rest : List Expr} {kws : List Keyword} {Q : Value → Shared → Prop} (_N : News h₀ L s.heap news) (_hm : (u, KFB.bound) ∈ news)
    (hall : (backToKw pos (keywordEach kws env)).all (·.1.isSome) = true)
    (h : wpAny M A (spliced (backTo pos (starEach (e :: rest) env))) (fun vs s₁ => wpAny M A (evalAll ((backToKw pos (keywordEach kws env)).map (·.2)))
      (fun ks s₂ => KFB.StandsAt u s₂.heap ∧ wpAny M A (call (.ref u) (first ++ vs) (((backToKw pos (keywordEach kws env)).filterMap (·.1)).zip ks)) Q E s₂) E s₁) E s)
    (hplain : ((backTo pos (starEach (e :: rest) env)).any (·.1) || (backToKw pos (keywordEach kws env)).any (·.1.isNone)) = false := by rfl) (he : starEach (e :: rest) env = (false, eval e env) :: starEach rest env := by rfl) :
    wpAny M A (callWith pos (.ref u) first (backTo pos (starEach (e :: rest) env)) (backToKw pos (keywordEach kws env))) Q E s :=
  callWith_of hplain keeps_bound (evalArgs_kw2 hall h he)
theorem grownB {n : Nat} {Q : Value → Shared → Prop} (hn : n < 2 ^ 1024) (h : Q (.int (n : Int) s.toks) { s with toks := s.toks + 1 }) : wpAny M A (mkIntGrown (n : Int)) Q E s := by
  unfold mkIntGrown
  have hl : ¬ ((n : Int).natAbs.log2 ≥ bitsLine) := by
    rw [Int.natAbs_natCast]
    have hb : bitsLine = 134217728 := by first | rfl | decide
    by_cases hz : n = 0
    · subst hz
      rw [hb]
      decide
    · have h1 := (Nat.log2_lt hz).mpr hn
      omega
  rw [if_neg hl]
  exact wpAny_mkInt h
theorem tree_kw {b : Array UInt8} {t u : Tok} {P : Fin → Shared → Prop} (hl : b.size ≤ 128) (h : P (.done (.ret (.int (beV (KBw.bInts b)) s.toks))) { s with toks := s.toks + 1 }) :
    wpAny M A (Builtin.«int.from_bytes» ⟨[.type "int", .bytes b t, .str (PySem.Str.ofString "big") u], [(PySem.Str.ofString "signed", .bool false)]⟩) P E s := by
  have hv : ((b.toList.foldl (fun (acc : Nat) (b : UInt8) => acc * 256 + b.toNat) 0 : Nat) : Int) = beV (KBw.bInts b) := KFB.fold_cast b.toList 0
  have hn : b.toList.foldl (fun (acc : Nat) (b : UInt8) => acc * 256 + b.toNat) 0 < 2 ^ 1024 := by
    have h1 := KFB.fold_lt b.toList 0
    rw [Nat.zero_add, Nat.one_mul, Array.length_toList] at h1
    have h2 : 256 ^ b.size ≤ 256 ^ 128 := Nat.pow_le_pow_right (by decide) hl
    have h3 : (256 : Nat) ^ 128 = 2 ^ 1024 := by decide +kernel
    rw [← h3]
    exact Nat.lt_of_lt_of_le h1 h2
  unfold Builtin.«int.from_bytes»
  refine wpAny_bind (wpAny_of_eq (a := true) KFB.type_int ?_)
  refine KFB.if_not rfl ?_
  refine wpAny_bind (wpAny_of_eq (a := true) F.conv_sub_int ?_)
  refine KFB.if_not rfl ?_
  refine wpAny_bind (wpAny_of_eq (a := [some (.bytes b t), some (.str (PySem.Str.ofString "big") u), some (.bool false)]) (by kernel_rfl) ?_)
  refine wpAny_bind (wpAny_of_eq (a := PySem.Str.ofString "big") (by kernel_rfl) ?_)
  refine wpAny_bind (wpAny_of_eq (a := false) rfl ?_)
  refine wpAny_bind (wpAny_of_eq (a := false) (by kernel_rfl) ?_)
  refine wpAny_bind (wpAny_of_eq (a := b) rfl ?_)
  show wpAny _ _ (mkIntGrown (b.toList.foldl (fun (acc : Int) (b : UInt8) => acc * 256 + (b.toNat : Int)) ((0 : Nat) : Int)) >>= fun v => _) _ _ _
  rw [KFB.foldI_eq]
  refine wpAny_bind (grownB hn ?_)
  rw [hv]
  refine KFB.if_so (by decide +kernel) ?_
  exact wpAny_bind (wpAny_pure (wpAny_pure h))
theorem clip_in {n : Nat} {i : Int} (h0 : 0 ≤ i) (h1 : i ≤ n) : clipAt n i = i.toNat := by
  have h := clipAt_cast n i
  rw [if_neg (by omega)] at h
  omega
theorem use_lookup {K : Frag} {a : Addr} {oc : Value} {od : Option Addr} {fd : FuncData} {sl : Array (Option Value)} {P : FuncData → Prop} (h1 : K.lookup a = some ⟨oc, od, .func fd, sl⟩) (h2 : P fd) :
    ∀ fd' oc' od' sl', K.lookup a = some ⟨oc', od', .func fd', sl'⟩ → P fd' := by
  intro fd' oc' od' sl' h
  rw [h1] at h
  cases h
  exact h2
theorem bInts_inj {a b : Array UInt8} (h : KBw.bInts a = KBw.bInts b) : a = b := by
  have hm : ∀ x y : UInt8, ((x.toNat : Nat) : Int) = ((y.toNat : Nat) : Int) → x = y := fun x y e => UInt8.toNat.inj (Int.ofNat.inj e)
  have : a.toList = b.toList := by
    unfold KBw.bInts at h
    generalize a.toList = l at h
    generalize b.toList = l' at h
    induction l generalizing l' with
    | nil => cases l' with
      | nil => rfl
      | cons y l' => cases h
    | cons x l ih => cases l' with
      | nil => cases h
      | cons y l' =>
        simp only [List.map_cons, List.cons.injEq] at h
        rw [hm _ _ h.1, ih _ h.2]
  exact Array.ext' this
theorem picked_nat {d : Array UInt8} {i j : Nat} (hj : j ≤ d.size) (hij : i ≤ j) : KBy.picked d (some (i : Int)) (some (j : Int)) = ((d.toList.drop i).take (j - i)).toArray := by
  rw [KBc.picked_eq]
  simp only [Option.elim]
  rw [clip_in (by omega) (by omega), clip_in (by omega) (by omega), Int.toNat_natCast, Int.toNat_natCast]
theorem clip_diff {n : Nat} {i j : Int} (h0 : 0 ≤ i) (h1 : i ≤ j) : clipAt n j - clipAt n i ≤ (j - i).toNat := by
  have h := clipAt_cast n i
  have h' := clipAt_cast n j
  rw [if_neg (by omega)] at h h'
  omega
theorem clip_len {n : Nat} {i j : Int} {l : List Int} {k : Nat} (h0 : 0 ≤ i) (h1 : i ≤ j) (h2 : j - i ≤ k) : (l.take (clipAt n j - clipAt n i)).length ≤ k := by
  rw [List.length_take]
  have := clip_diff (n := n) h0 h1
  omega
theorem beV_short {ks : List Int} {b : Array UInt8} (h : KBw.bInts b = ks) (hl : ks.length ≤ 128) : 0 ≤ beV ks ∧ Short (beV ks) := by
  subst h
  have hv : ((b.toList.foldl (fun (acc : Nat) (b : UInt8) => acc * 256 + b.toNat) 0 : Nat) : Int) = beV (KBw.bInts b) := KFB.fold_cast b.toList 0
  have hn : b.toList.foldl (fun (acc : Nat) (b : UInt8) => acc * 256 + b.toNat) 0 < 2 ^ 1024 := by
    have h1 := KFB.fold_lt b.toList 0
    rw [Nat.zero_add, Nat.one_mul, Array.length_toList] at h1
    have h2 : 256 ^ b.size ≤ 256 ^ 128 := Nat.pow_le_pow_right (by decide) (by rw [← KBw.ints_length]; exact hl)
    have h3 : (256 : Nat) ^ 128 = 2 ^ 1024 := by decide +kernel
    rw [← h3]
    exact Nat.lt_of_lt_of_le h1 h2
  rw [← hv]
  refine ⟨Int.natCast_nonneg _, ?_⟩
  unfold Short
  rw [Int.natAbs_natCast]
  generalize b.toList.foldl (fun (acc : Nat) (b : UInt8) => acc * 256 + b.toNat) 0 = n at hn
  by_cases hz : n = 0
  · subst hz; decide
  · have h1 := (Nat.log2_lt hz).mpr hn
    omega
theorem check_fbkw {b : Array UInt8} {t u : Tok} {o : PySem.Str} : checkBoundCall "int.from_bytes" ⟨[.type "int", .bytes b t, .str o u], [(PySem.Str.ofString "signed", .bool false)]⟩ = pure () := by first | kernel_rfl | rfl
theorem call_bigkw {x : Addr} {b : Array UInt8} {t u : Tok} {ks : List Int} {Q : Value → Shared → Prop} (N : News h₀ L s.heap news) (hm : (x, KFB.bound) ∈ news) (hb : KBw.bInts b = ks) (hl : ks.length ≤ 128)
    (h : ∀ t' k, Q (.int (beV ks) t') { s with toks := k }) : wpAny (model prog w) A (call (.ref x) [.bytes b t, .str (PySem.Str.ofString "big") u] [(PySem.Str.ofString "signed", .bool false)]) Q E s := by
  subst hb
  have ho := KFB.at_of N hm
  refine wpAny_call (codeAny_of_tree ?_)
  show wpAny _ A.in1 (callAny (.ref x) ⟨[.bytes b t, .str (PySem.Str.ofString "big") u], [(PySem.Str.ofString "signed", .bool false)]⟩) _ _ s
  simp only [callAny]
  refine wpAny_bind (wpAny_load ho ?_)
  simp only [KFB.bound, show (Value.type "builtin_function_or_method" == Value.type "method" || Value.type "builtin_function_or_method" == Value.type "builtin_function_or_method" || Value.type "builtin_function_or_method" == Value.type "method-wrapper") = true by decide, if_true]
  refine KFB.if_so (by decide) ?_
  refine wpAny_bind (wpAny_of_eq (a := ()) check_fbkw ?_)
  refine wpAny_bind (wpAny_pure (wpAny_pure ?_))
  exact ⟨KFB.quiet_fb, codeAny_builtin KFB.entry_fb (tree_kw (by rw [← KBw.ints_length]; exact hl) (h _ _))⟩
end
end Mine
-- part W4
open PySem PySem.W PyProof.Rows
namespace Mine
open PySem.Calls
section
variable {prog : Program} {w : World} {A : Around} {E : Value → Shared → Prop} {s : Shared} {b c : Array UInt8} {t u : Tok} {Q : Value → Shared → Prop}
theorem no_iadd : typeLookup (.type "bytes") (dunderI "add") = pure none := by rw [typeLookup_type, builtinLookup_eq_fast]; kernel_rfl
theorem iadd_bytes (hsz : b.size + c.size ≤ 16777216) (h : ∀ t' k, Q (.bytes (b ++ c) t') { s with toks := k }) : wpAny (model prog w) A (inplaceOp .Add (.bytes b t) (.bytes c u)) Q E s := by
  refine wpAny_inplaceOp_concat (typeIs_bytes s b t) (typeIs_bytes s c u) no_iadd KBy.noFill_bytes_add KBy.seq_bytes_add (call_gives FB.slot_bytes_add (typeIs_bytes s b t) FB.entry_bytes_add (FB.args_bytes_add_2 _ _) (KBy.gives_bytes_add (KBy.tooLong_not hsz)) ?_)
  by_cases hb : b.isEmpty = true
  · rw [if_pos hb]
    have e : b = #[] := Array.isEmpty_iff.1 hb
    have h' := h u s.toks
    rw [e, Array.empty_append] at h'
    exact h'
  · rw [if_neg hb]
    by_cases hc : c.isEmpty = true
    · rw [if_pos hc]
      have e : c = #[] := Array.isEmpty_iff.1 hc
      have h' := h t s.toks
      rw [e, Array.append_empty] at h'
      exact h'
    · rw [if_neg hc]
      exact ⟨by rw [Array.size_append, sizeLine_eq]; exact hsz, h s.toks (s.toks + 1)⟩
theorem iadd_K {ks ls : List Int} (hb : KBw.bInts b = ks) (hc : KBw.bInts c = ls) (hsz : ks.length + ls.length ≤ 16777216) (h : ∀ t' k, KBw.bInts (b ++ c) = ks ++ ls → Q (.bytes (b ++ c) t') { s with toks := k }) : wpAny (model prog w) A (inplaceOp .Add (.bytes b t) (.bytes c u)) Q E s :=
  iadd_bytes (by rw [← KBw.ints_length b, ← KBw.ints_length c, hb, hc]; exact hsz) fun t' k => h t' k (KBw.ints_app hb hc)
end
end Mine
-- part W5
open PySem PySem.W PyProof.Rows
namespace Mine
open PySem.Calls
section
variable {prog : Program} {w : World} {A A₀ : Around} {s : Shared} {K : Frag} {L : Addr} {h₀ base : Heap} {m mg mb : PySem.Str → Option Value} {news : List (Addr × Obj)} {p : Program} {loose : List PySem.Str} {mean : ExcName → Option Value}
/-- a def is entered; its body may end by leaving, or by what the caller asks outright -/
theorem code_defT {env : Env} {outer : List Env} {R : Result → Shared → Prop} {name qual : PySem.Str} {params : Arguments} {body : List Stmt} {scope : Scope} {dV kV doc pm cdv ct oc : Value} {an od : Option Addr} {osl : Array (Option Value)} {f : Addr} {args : Args} {binds : List (PySem.Str × Value)}
    (B : Below A₀ base outer h₀) (F : Fr h₀ L s.heap m) (X₀ : K.In h₀) (N : News h₀ L s.heap news) (T : Top p loose mean mg mb h₀) (hA : A.frames = some (env :: outer)) (hf : env.frame = some L) (hke : env.scope.kind = .function)
    (ho : K.lookup f = some ⟨oc, od, .func (fnOf name qual params body scope dV kV doc pm an cdv ct), osl⟩) (hcd : codeIn K cdv qual = true) (hroom : A.depth < recursionLimit)
    (hbind : BindsTo s (fnOf name qual params body scope dV kV doc pm an cdv ct) args binds) (hloc : ∀ y ∈ binds, scope.names.lookup y.1 = some .local)
    (h : ∀ g L' h₁, Fr h₀ L g m → Fr g L' h₁ (fun y => binds.reverse.lookup y) → News g L' h₁ news → Below A base (env :: outer) g → K.In g → Top p loose mean mg mb g → (∀ p ∈ news, p.1 < L') → L < L' →
      wpAny (model prog w) (A.deeper (envOf qual scope L' f cdv)) (execs body (envOf qual scope L' f cdv))
        (fun fl s' => Cut (LeaveK h₀ L m g R (match fl with | .ret v => v | _ => .none) s' ∨ R (.ok (.ret (match fl with | .ret v => v | _ => .none))) s'))
        (fun e s' => wpAny (model prog w) (A.deeper (envOf qual scope L' f cdv)) (leaving (envOf qual scope L' f cdv) e) (fun _ s'' => R (.error e) s'') (fun e' s'' => R (.error e') s'') s')
        { s with heap := h₁, toks := s.toks + binds.length })
    (hco : scope.isCoroutine = false) (hgen : scope.isGenerator = false) (hk : scope.kind = .function)
    (hcell : ∀ x ∈ scope.names, x.2 ≠ .cell) : codeAny (model prog w) A (.call (.ref f) args) R s := by
  obtain ⟨FG, BG, st, lv⟩ := groundX (R := R) B F N hA hf hke
  refine codeAny_call_def (fd := fnOf name qual params body scope dV kV doc pm an cdv ct) (body := body) (binds := binds) hroom ((X₀.keeps F.keep) _ _ ho) rfl (T.nolimit.keeps F.keep) (codeRec_of (X₀.keeps F.keep) hcd) rfl hbind hcell hloc (fun h₁ hns hk₁ => ?_) hco hgen hk
  have F₁ : Fr (hideAll s.heap (news.map (·.1))) s.heap.objs.size h₁ (fun y => binds.reverse.lookup y) := ⟨hns, fun b o e => hk₁ b o (of_hideAll _ e), Nat.le_of_eq (hideAll_size _ _)⟩
  have N₁ : News (hideAll s.heap (news.map (·.1))) s.heap.objs.size h₁ news := fun p hp => ⟨hk₁ _ _ (N p hp).1, Nat.ne_of_lt (Heap.lt_size (N p hp).1), hideAll_none _ (List.mem_map_of_mem hp)⟩
  exact wpAny_mono (h _ s.heap.objs.size h₁ FG F₁ N₁ BG (X₀.keeps st) (T.keeps st) (fun p hp => Heap.lt_size (N p hp).1) F.ns.lt) (fun fl s' hl => hl.out.elim (lv _ _) fun x => x) fun _ _ y => y
end
section
variable {prog : Program} {w : World} {A₀ : Around} {E : Value → Shared → Prop} {s' : Shared} {b h : Heap} {outer : List Env} {L a e : Addr} {m : PySem.Str → Option Value} {name : PySem.Str} {scope : Scope} {cd : Value}
  {b₀ : Stmt} {suite : List Stmt} {pos np : Pos} {rest : List ExceptHandler} {Q : Flow → Shared → Prop} {news : List (Addr × Obj)}
  {p : Program} {loose : List PySem.Str} {mg mb : PySem.Str → Option Value} {x : PySem.Str} {X T' : String}
/-- an exception of a callee's, caught in a def's own frame; only the frames' stack is asked of the callers -/
theorem caught_mine (hst : A₀.frames = some outer) (F : Fr b L h m) (hsm : h.UpToSlots s'.heap) (R : RaisedN b (envOf name scope L a cd :: outer) e (.type X) news s'.heap)
    (T : TopRead p loose mg mb b) (hv : bootBuiltins x = some (.type T'))
    (hexc : isSubtype (.type T') (.type "BaseException") = pure true) (hnt : isSubtype (.type ((Manifest.find? T').elim "type" fun y => y.metatype)) (.type "tuple") = pure false) (hsub : isSubtype (.type X) (.type T') = pure true)
    (k : ∀ h', Fr b L h' m → News b L h' news → h.UpToSlots h' →
      wpAny (model prog w) ((A₀.deeper (envOf name scope L a cd)).mark (some (.ref e))) (execs (b₀ :: suite) (envOf name scope L a cd)) Q E { s' with heap := h' })
    (h1 : x ∉ startupNames := by decide +kernel) (h2 : x ∉ loose := by decide +kernel) (h3 : x ∉ (recsOf p).map (·.name) := by decide +kernel) (h4 : x ∉ (litsOf p).map (·.1) := by decide +kernel) (h4c : x ∉ (clssOf p loose).map (·.name) := by decide +kernel) (hn : x ≠ "__name__" := by decide +kernel)
    (hk : scope.kind = .function := by rfl) (hx : (envOf name scope L a cd).kindOf x = some .globalImplicit := by rfl) (hd : (x == ("__debug__" : PySem.Str)) = false := by decide)
    (hE : PassesOwnAt (model prog w) ((A₀.deeper (envOf name scope L a cd)).mark (some (.ref e))) (A₀.deeper (envOf name scope L a cd)) (envOf name scope L a cd) E := by passes_own) :
    wpAny (model prog w) (A₀.deeper (envOf name scope L a cd)) (noteFrame (.ref e) (envOf name scope L a cd))
      (fun _ s₂ => wpAny (model prog w) (A₀.deeper (envOf name scope L a cd)) (setFlight (.ref e) none) (fun _ s₃ =>
        wpAny (model prog w) (A₀.deeper (envOf name scope L a cd)) (handleBy (.ref e) (envOf name scope L a cd) (.ExceptHandler (some (.Name x np)) none (b₀ :: suite) pos :: rest)) Q E s₃) E s₂) E s' := by
  obtain ⟨C, a0, hC, hl, hfl⟩ := R
  have hL : C.get? L = none := by
    obtain ⟨_, ⟨L1, _, q1, q2, _⟩, _⟩ := hfl.2.2.1
    cases Option.some.inj q1
    exact q2
  refine wpAny_looks_onW (Around.frames_deeper hst) rfl hfl fun i₁ y₁ u₁ => ?_
  refine wpAny_landsW y₁ fun i₂ y₂ u₂ => ?_
  have u₃ := hsm.trans (u₁.trans u₂)
  have z₂ := flyingW_base hC y₂
  obtain ⟨ob, hob, hobc⟩ := z₂.there
  refine wpAny_handleBy_builtin (X := X) (T := T') (b := true) hexc hnt hsub (ld_builtin_at (F.of_stays z₂.1 u₃) T.g (T.free x h1 h2 h3 h4 h4c) T.b ((T.builtins x hn).trans hv) ⟨rfl, ⟨ob, hob, hobc⟩, ?_⟩ hk hx hd)
  refine lands_againW y₂ fun i₃ y₃ u₄ => ?_
  have keepN : News b L i₃ news := fun q hq => by
    obtain ⟨g1, g2⟩ := hl q hq
    refine ⟨y₃.1 _ _ g1, fun z => ?_, g2⟩
    rw [z, hL] at g1
    cases g1
  exact wpAny_passesOwnAt hE (k i₃ (F.of_stays (flyingW_base hC y₃).1 (u₃.trans u₄)) keepN (u₃.trans u₄))
end
section
variable {M : Model} {A : Around} {E : Value → Shared → Prop} {s : Shared} {env : Env} {pos : Pos} {first : List Value} {Q : Value → Shared → Prop}
theorem callWith_fn0 {f : Addr} {o : Obj} {fd : FuncData} (ho : s.heap.get? f = some o) (hd : o.data = .func fd) (h : wpAny M A (call (.ref f) (first ++ [])) Q E s) :
    wpAny M A (callWith pos (.ref f) first (backTo pos (starEach [] env)) []) Q E s := by
  refine callWith_of (P := fun h => h.get? f = some o) rfl (fun h X => ⟨.frame, .inl rfl, (Looks.ld (part := none) X).andThen ?_⟩) (evalArgs_nil3 ⟨ho, h⟩)
  rw [hd]
  exact .now
end
end Mine
-- part W6
open PySem PySem.W PyProof.Rows
namespace Mine
open PySem.Calls
theorem codeAmong_app {pos : Pos} {a b : Int} {c cv : Value} (l : List Value) (h : TriplesOk l) (hc : codeAmong pos (l ++ [rawInt a, rawInt b, c]) = some cv) : codeAmong pos l = some cv ∨ cv = c := by
  fun_induction TriplesOk l with
  | case1 =>
    simp only [List.nil_append, codeAmong, rawInt] at hc
    split at hc
    · exact .inr (Option.some.inj hc).symm
    · cases hc
  | case2 a' t b' u x rest ih =>
    simp only [List.cons_append, codeAmong] at hc ⊢
    split at hc
    · rename_i q
      rw [if_pos q]
      exact .inl hc
    · rename_i q
      rw [if_neg q]
      exact ih h hc
  | case3 l h1 h2 => exact h.elim
def TabWf (ps : Array Value) (codes : List (Addr × Obj)) (q : PySem.Str) : Prop :=
  TriplesOk ps.toList ∧ ∀ pos cv, codeAmong pos ps.toList = some cv → ∃ c' oc vs t, cv = .ref c' ∧ (c', oc) ∈ codes ∧ oc.data = .fields vs ∧ vs[1]? = some (.str q t)
theorem TabWf.nil {codes : List (Addr × Obj)} {q : PySem.Str} : TabWf #[] codes q := ⟨True.intro, fun pos cv h => by cases h⟩
theorem updF_pre {P : Addr} {o : Obj} {post : List (Addr × Obj)} (hpost : ∀ q ∈ post, q.1 ≠ P) : ∀ {pre : List (Addr × Obj)}, (∀ q ∈ pre, q.1 ≠ P) → UpdF P o (pre ++ (P, o) :: post) (fun o' => pre ++ (P, o') :: post)
  | [], _ => .head hpost
  | x :: r, h => .tail (h x (.head _)) (updF_pre hpost fun q hq => h q (.tail _ hq))
section
variable {M : Model} {A : Around} {E : Value → Shared → Prop} {s : Shared} {h₀ : Heap} {L a c P : Addr} {m mg mb : PySem.Str → Option Value} {cn : PySem.Str} {cs : Scope} {ccd : Value} {cl : List (PySem.Str × Addr)}
  {p : Program} {loose : List PySem.Str} {mean : ExcName → Option Value} {name qual : PySem.Str} {params : Arguments} {body : Expr} {scope : Scope} {ps : Array Value} {pos : Pos} {firstLine : Nat} {clos : List (PySem.Str × Addr)}
  {pre codes : List (Addr × Obj)} {M0 : Addr}
/-- a lambda is made: its code stands in the table, or is laid there now -/
theorem lam_any {Q : Value → Shared → Prop} (F : Fr h₀ L s.heap m) (N : News h₀ L s.heap (pre ++ (P, tabObj ps) :: codes)) (T : Top p loose mean mg mb h₀) (C : CodeHd h₀ c P) (hcd : ccd = .ref c)
    (hpre : ∀ q ∈ pre, q.1 ≠ P) (hPM : P < M0) (hM : ∃ o, (M0, o) ∈ pre) (hco : ∀ q ∈ codes, M0 < q.1) (W : TabWf ps codes qual)
    (hcl : closureFor scope (envX cn cs L a ccd cl) = pure clos)
    (h : ∀ f c' oc vs t ctv ps' codes' h' tk, Fr h₀ L h' m →
      News h₀ L h' ((f, kla_obj name qual params body scope clos ((mg "__name__").getD .none) c' ctv) :: (pre ++ (P, tabObj ps') :: codes')) → (c', oc) ∈ codes' →
      oc.data = .fields vs → vs[1]? = some (.str qual t) → TabWf ps' codes' qual → (∀ q ∈ codes', M0 < q.1) → (∀ q ∈ pre ++ (P, tabObj ps') :: codes', q.1 < f) → Q (.ref f) { s with heap := h', toks := tk }) :
    wpAny M A (makeFunction name qual params (.expr body) scope (envX cn cs L a ccd cl) [] [] [] pos firstLine) Q E s := by
  have hcoP : ∀ q ∈ codes, q.1 ≠ P := fun q hq => Nat.ne_of_gt (Nat.lt_trans hPM (hco q hq))
  cases hf : codeAmong pos ps.toList with
  | none =>
    refine kla_nest F N T C hcd (updF_pre hcoP hpre) W.1 hf hcl fun f c' oc vs t ctv h' tk F' N' d1 d2 l1 l2 => ?_
    obtain ⟨o, ho⟩ := hM
    have hM' : M0 < c' := l1 _ (List.mem_append_left _ ho)
    refine h f c' oc vs t ctv (ps ++ #[rawInt pos.line, rawInt pos.col, .ref c']) ((c', oc) :: codes) h' tk F' (cb_drop N' fun q hq => ?_) (.head _) d1 d2 ?_ ?_ ?_
    · rcases List.mem_cons.mp hq with rfl | hq
      · exact .head _
      · rcases List.mem_append.mp hq with hq | hq
        · exact .tail _ (.tail _ (List.mem_append_left _ hq))
        · rcases List.mem_cons.mp hq with rfl | hq
          · exact .tail _ (.tail _ (List.mem_append_right _ (.head _)))
          · rcases List.mem_cons.mp hq with rfl | hq
            · exact .tail _ (.head _)
            · exact .tail _ (.tail _ (List.mem_append_right _ (.tail _ hq)))
    · refine ⟨?_, fun pos' cv hcv => ?_⟩
      · simp only [Array.toList_append]
        exact TriplesOk_snoc _ _ _ _ W.1
      · simp only [Array.toList_append] at hcv
        rcases codeAmong_app _ W.1 hcv with hh | hh
        · obtain ⟨c2, oc2, vs2, t2, e1, e2, e3, e4⟩ := W.2 pos' cv hh
          exact ⟨c2, oc2, vs2, t2, e1, .tail _ e2, e3, e4⟩
        · exact ⟨c', oc, vs, t, hh, .head _, d1, d2⟩
    · intro q hq
      rcases List.mem_cons.mp hq with rfl | hq
      · exact hM'
      · exact hco q hq
    · intro q hq
      rcases List.mem_append.mp hq with hq | hq
      · exact Nat.lt_trans (l1 q (List.mem_append_left _ hq)) l2
      · rcases List.mem_cons.mp hq with rfl | hq
        · exact Nat.lt_trans (Nat.lt_trans hPM hM') l2
        · rcases List.mem_cons.mp hq with rfl | hq
          · exact l2
          · exact Nat.lt_trans (l1 q (List.mem_append_right _ (.tail _ hq))) l2
  | some cv =>
    obtain ⟨c', oc, vs, t, rfl, e2, e3, e4⟩ := W.2 pos cv hf
    refine kla_hit F N T C hcd (List.mem_append_right _ (.head _)) W.1 hf hcl fun f ctv h' tk F' N' l1 => ?_
    exact h f c' oc vs t ctv ps codes h' tk F' N' e2 e3 e4 W hco l1
end
end Mine
-- part W7
open PySem PySem.W PyProof.Rows
namespace Mine
theorem lit_ints {h₀ h : Heap} {L D : Addr} {n : Nat} {rest : List (Addr × Obj)} {vs : List Value} (ns : List Int) (_ : News h₀ L h ((D, PySem.W.listOf (List.toArray vs) n) :: rest)) (hi : IntsAre vs ns) : IntsAre vs ns := hi
theorem drop5 {h₀ h : Heap} {L : Addr} {x a b c d e : Addr × Obj} {r : List (Addr × Obj)} (N : News h₀ L h (x :: a :: b :: c :: d :: e :: r)) : News h₀ L h (x :: r) := fun p hp => N p (by
  rcases List.mem_cons.mp hp with rfl | hp
  · exact .head _
  · exact .tail _ (.tail _ (.tail _ (.tail _ (.tail _ (.tail _ hp))))))
theorem clip_drop {l : List Int} {i : Int} (h : 0 ≤ i) : (l.drop (clipAt l.length i)).take (l.length - clipAt l.length i) = l.drop i.toNat := by
  have h1 := clipAt_cast l.length i
  rw [if_neg (by omega)] at h1
  rw [List.take_of_length_le (by rw [List.length_drop]; omega)]
  rcases Nat.le_total i.toNat l.length with h2 | h2
  · have : clipAt l.length i = i.toNat := by omega
    rw [this]
  · have : clipAt l.length i = l.length := by omega
    rw [this, List.drop_of_length_le (Nat.le_refl _), List.drop_of_length_le h2]
theorem clip_take {l : List Int} {i : Int} (h : 0 ≤ i) : l.take (clipAt l.length i) = l.take i.toNat := by
  have h1 := clipAt_cast l.length i
  rw [if_neg (by omega)] at h1
  rcases Nat.le_total i.toNat l.length with h2 | h2
  · have : clipAt l.length i = i.toNat := by omega
    rw [this]
  · have : clipAt l.length i = l.length := by omega
    rw [this, List.take_of_length_le (Nat.le_refl _), List.take_of_length_le h2]
theorem bInts_dropA (d : Array UInt8) (n : Nat) : KBw.bInts (d.toList.drop n).toArray = (KBw.bInts d).drop n := by
  unfold KBw.bInts
  rw [List.map_drop]
theorem bInts_takeA (d : Array UInt8) (n : Nat) : KBw.bInts (d.toList.take n).toArray = (KBw.bInts d).take n := by
  unfold KBw.bInts
  rw [List.map_take]
end Mine
-- part W8
open PySem PySem.W PyProof.Rows
namespace Mine
open PySem.SeqAt
theorem eqAt_bytes {A : Around} {s : Shared} (b c : Array UInt8) (t u : Tok) : EqAt A s (.bytes b t) (.bytes c u) (b == c) := fun prog w E Q h => by
  unfold eqBool
  show wpAny _ _ (if (Value.bytes b t == Value.bytes c u) = true then _ else _) Q E s
  by_cases hab : (Value.bytes b t == Value.bytes c u) = true
  · rw [if_pos hab]
    have e : b = c := by have := eq_of_beq hab; injection this
    subst e
    rw [beq_self_eq_true] at h
    exact wpAny_bind (wpAny_rule (wpAny_pure h))
  · rw [if_neg hab]
    refine wpAny_bind (PySem.W.eq_bytes (t := t) (u := u) (wpAny_truthy_bool ?_))
    have e : (b.toList == c.toList) = (b == c) := by
      by_cases e : b = c
      · subst e; simp
      · have : b.toList ≠ c.toList := fun h => e (Array.toList_inj.mp h)
        rw [beq_eq_false_iff_ne.mpr e, beq_eq_false_iff_ne.mpr this]
    rw [e]
    exact h
/-- two items of a tuple that compare at once -/
inductive CmpV : Value → Value → Bool → Prop
  | int (a b : Int) (t u : Tok) : CmpV (.int a t) (.int b u) (a == b)
  | bytes (a b : Array UInt8) (t u : Tok) : CmpV (.bytes a t) (.bytes b u) (a == b)
theorem CmpV.at {A : Around} {s : Shared} {x y : Value} {b : Bool} (h : CmpV x y b) : EqAt A s x y b := by
  cases h with
  | int a b t u => exact EqAt.int_int a t b u
  | bytes a b t u => exact eqAt_bytes a b t u
inductive CmpL : List Value → List Value → List Bool → Prop
  | nil : CmpL [] [] []
  | cons {x y b xs ys bs} (h : CmpV x y b) (r : CmpL xs ys bs) : CmpL (x :: xs) (y :: ys) (b :: bs)
theorem CmpL.len {xs ys : List Value} {bs : List Bool} (h : CmpL xs ys bs) : xs.length = bs.length ∧ ys.length = bs.length := by
  induction h with
  | nil => exact ⟨rfl, rfl⟩
  | cons _ _ ih => exact ⟨congrArg (· + 1) ih.1, congrArg (· + 1) ih.2⟩
theorem CmpL.get {xs ys : List Value} {bs : List Bool} (h : CmpL xs ys bs) : ∀ (j : Nat) (h1 : j < xs.length) (h2 : j < ys.length), CmpV xs[j] ys[j] (bs.getD j true) := by
  induction h with
  | nil => intro j h1; exact absurd h1 (Nat.not_lt_zero _)
  | cons h r ih =>
    intro j h1 h2
    cases j with
    | zero => exact h
    | succ j => exact ih j (Nat.lt_of_succ_lt_succ h1) (Nat.lt_of_succ_lt_succ h2)
theorem all_getD : ∀ (bs : List Bool), (List.range bs.length).all (fun j => bs.getD j true) = bs.all id
  | [] => rfl
  | b :: bs => by
    rw [List.length_cons, List.range_succ_eq_map, List.all_cons, List.all_map, List.all_cons]
    have := all_getD bs
    show (b && _) = (b && _)
    rw [← this]
    rfl
section
variable {prog : Program} {w : World} {A : Around} {E : Value → Shared → Prop} {s : Shared} {Q : Value → Shared → Prop} {g : Heap} {L : Addr} {news : List (Addr × Obj)}
theorem tup_of (N : News g L s.heap news) {D : Addr} {vs : Array Value} {n : Nat} (h : (D, ({ cls := .type "tuple", data := .seq vs n } : Obj)) ∈ news) : s.heap.IsTuple D vs := ⟨_, N.get h, rfl, n, rfl⟩
theorem cmpL_all {xs ys : List Value} {bs : List Bool} (h : CmpL xs ys bs) : ((List.range (min xs.toArray.size ys.toArray.size)).all (fun j => bs.getD j true) && xs.toArray.size == ys.toArray.size) = bs.all id := by
  rw [List.size_toArray, List.size_toArray, h.len.1, h.len.2, Nat.min_self, all_getD, beq_self_eq_true, Bool.and_true]
theorem tup_eq {D D2 : Addr} {xs ys : List Value} {bs : List Bool} (h1 : s.heap.IsTuple D xs.toArray) (h2 : s.heap.IsTuple D2 ys.toArray) (hc : CmpL xs ys bs) (hu : A.units < cLine) (h : Q (.bool (bs.all id)) s) :
    wpAny (model prog w) A (compareOp .Eq (.ref D) (.ref D2)) Q E s := by
  refine RcAt.tuples h1 h2 hu (e := fun j => bs.getD j true) (fun j a b => ?_) prog w E Q ?_
  · exact (hc.get j a b).at
  · rw [cmpL_all hc]
    exact h
theorem tup_ne {D D2 : Addr} {xs ys : List Value} {bs : List Bool} (h1 : s.heap.IsTuple D xs.toArray) (h2 : s.heap.IsTuple D2 ys.toArray) (hc : CmpL xs ys bs) (hu : A.units < cLine) (h : Q (.bool (!bs.all id)) s) :
    wpAny (model prog w) A (compareOp .NotEq (.ref D) (.ref D2)) Q E s := by
  refine RcNeAt.tuples h1 h2 hu (e := fun j => bs.getD j true) (fun j a b => ?_) prog w E Q ?_
  · exact (hc.get j a b).at
  · rw [cmpL_all hc]
    exact h
end
end Mine
-- part W9
open PySem PySem.W PyProof.Rows
namespace Mine
open PySem.Builtin
theorem slot_bytes_join : Slot "bytes" "join" "bytes.join" :=
  .of (owner := "bytes") (n := "join") (by rw [typeLookup_type, builtinLookup_eq_fast]; kernel_rfl) (by decide +kernel) (by decide +kernel) (by decide +kernel)
    (by first | exact .inl (by decide +kernel) | exact .inr (by decide +kernel)) (by rw [isSubtype_type]; kernel_rfl)
theorem type_bytes_join : typeOf (.builtin "bytes.join") = pure (.type "method_descriptor") := by show builtinType _ = _; rw [builtinType_eq_fast]; kernel_rfl
theorem entry_bytes_join : entryFor table "bytes.join" = some Builtin.«bytes.join» := entryFor_of_tree (by kernel_rfl)
theorem args_bytes_join_2 (a b : Value) : argsOk "bytes.join" ⟨[a, b], []⟩ := by
  unfold argsOk; rw [signature?_of (id := "bytes.join") (n := ['n', 'i', 'o', 'j']) (o := ['s', 'e', 't', 'y', 'b']) (by kernel_rfl) FB.owner_bytes]; kernel_rfl
section
variable {M : Model} {A : Around} {s : Shared}
theorem take_eq {id : String} {b : Array UInt8} {t : Tok} {f : Int} : Bytes.takeBuffer? id (.bytes b t) f = (fun x => x.map (·, none)) <$> Bytes.buffer? id (.bytes b t) (full := f == Bytes.fullReadOnly) := by
  unfold Bytes.takeBuffer?
  rw [KBy.special_eq KBy.look_buffer, KBy.own_buffer]
  kernel_rfl
theorem takeQ_eq {id : String} {b : Array UInt8} {t : Tok} : Bytes.takeBufferQuiet? id (.bytes b t) 0 = pure (some (b, none)) := by
  unfold Bytes.takeBufferQuiet?
  rw [take_eq, show ((0 : Int) == Bytes.fullReadOnly) = false from by decide +kernel, KBy.buffer_eq]
  rfl
noncomputable abbrev bvals (l : List (Array UInt8 × Tok)) : List Value := l.map fun p => .bytes p.1 p.2
noncomputable abbrev btook (l : List (Array UInt8 × Tok)) : List (Value × Option Value) := l.map fun p => (.bytes p.1 p.2, none)
theorem letgo_join {E : Value → Shared → Prop} {Q : Unit → Shared → Prop} : ∀ {l : List (Array UInt8 × Tok)} {keep : List Value}, Q () s → wpAny M A (Bytes.joinLetGo (btook l) keep) Q E s
  | [], _, h => by
    unfold Bytes.joinLetGo
    exact wpAny_pure h
  | p :: l, keep, h => by
    unfold Bytes.joinLetGo
    exact wpAny_bind (wpAny_letGo (letgo_join h))
theorem took_any (l : List (Array UInt8 × Tok)) : (btook l).any (fun x => x.1.onHeap) = false := by
  induction l with
  | nil => rfl
  | cons p l ih =>
    show (false || (btook l).any (fun x => x.1.onHeap)) = false
    rw [ih]
    rfl
theorem joined_flat (xs : List (Array UInt8)) : (Bytes.joined #[] xs).toList = (xs.map (·.toList)).flatten := by
  have h : ∀ (xs : List (Array UInt8)) (k : Nat) (acc : Array UInt8), ((xs.zipIdx k).foldl (fun out (p, i) => (if i > 0 then out ++ (#[] : Array UInt8) else out) ++ p) acc).toList = acc.toList ++ (xs.map (·.toList)).flatten := by
    intro xs
    induction xs with
    | nil => intro k acc; simp
    | cons x xs ih =>
      intro k acc
      rw [List.zipIdx_cons, List.foldl_cons, ih]
      simp
  have := h xs 0 #[]
  simpa [Bytes.joined] using this
theorem parts_size (xs : List (Array UInt8)) : xs.toArray.foldl (fun (n : Nat) (x : Array UInt8) => n + x.size) 0 = (xs.map (·.size)).sum := by
  have h : ∀ (xs : List (Array UInt8)) (k : Nat), xs.foldl (fun (n : Nat) (x : Array UInt8) => n + x.size) k = k + (xs.map (·.size)).sum := by
    intro xs
    induction xs with
    | nil => intro k; simp
    | cons x xs ih => intro k; rw [List.foldl_cons, ih, List.map_cons, List.sum_cons]; omega
  rw [List.foldl_toArray, h xs 0, Nat.zero_add]
theorem bytes_new {E : Value → Shared → Prop} {b : Array UInt8} {Q : Value → Shared → Prop} (hs : b.size ≤ 10000) (h : ∀ t' k, Q (.bytes b t') { s with toks := k }) : wpAny M A (Bytes.Kind.bytes.new b) Q E s := by
  show wpAny M A (mkBytes b) Q E s
  exact wpAny_mkBytes (h _ _) (by rw [sizeLine_eq]; omega)
theorem getD_b (l : List (Array UInt8 × Tok)) (i : Nat) (h : i < l.length) : (bvals l).toArray.getD i Value.none = .bytes l[i].1 l[i].2 := by
  simp [bvals, Array.getD, h]
theorem meets_join (t : Tok) (a : Addr) (l : List (Array UInt8 × Tok)) (n : Nat) (hsz : (l.map (·.1.size)).sum ≤ 10000) :
    Meets (Builtin.«bytes.join» ⟨[.bytes #[] t, .ref a], []⟩) (fun _ R s => s.heap.get? a = some (PySem.W.listOf (bvals l).toArray n) ∧ ∀ J t' k, J.toList = (l.map (·.1.toList)).flatten → R (.ok (.ret (.bytes J t'))) { s with toks := k }) := by
  intro prog w A R s ⟨hp, h⟩
  unfold Builtin.«bytes.join» Bytes.joinM
  have hT : s.TypeIs (.ref a) "list" := ⟨_, hp, rfl⟩
  refine wpAny_bind (wpAny_of_eq (a := (Value.bytes #[] t, Value.ref a)) rfl ?_)
  show wpAny _ _ (Bytes.joinItems (.ref a) >>= fun seq => _) _ _ _
  unfold Bytes.joinItems
  refine wpAny_bind (wpAny_bind (wpAny_typeOf hT ?_))
  refine KFB.if_so rfl ?_
  refine wpAny_pure ?_
  unfold seqItems?
  refine wpAny_bind (wpAny_bind (wpAny_load hp ?_))
  refine wpAny_pure ?_
  match l, hp, h, hsz with
  | [p], hp, h, hsz =>
    refine wpAny_bind (wpAny_typeOf (show s.TypeIs (.bytes p.1 p.2) "bytes" from rfl) ?_)
    refine KFB.if_so rfl ?_
    refine wpAny_bind (wpAny_rule (wpAny_pure ?_))
    exact h p.1 p.2 s.toks (by simp)
  | [], hp, h, hsz =>
    show wpAny _ _ (forIn [:0] _ _ >>= fun x => _) _ _ _
    rw [Std.Legacy.Range.forIn_eq_forIn_range']
    refine wpAny_bind (wpAny_of_eq (a := ((#[] : Array (Array UInt8)), ([] : List (Value × Option Value)))) rfl ?_)
    show wpAny _ _ (Bytes.Kind.bytes.new #[] >>= fun x => _) _ _ _
    refine wpAny_bind (bytes_new (by decide) fun t' k => ?_)
    refine wpAny_bind (wpAny_point ?_)
    refine wpAny_bind (wpAny_pure ?_)
    exact wpAny_pure (h _ _ _ rfl)
  | p :: q :: r, hp, h, hsz =>
    show wpAny _ _ (forIn [:(bvals (p :: q :: r)).toArray.size] _ _ >>= fun x => _) _ _ _
    revert hp h hsz
    generalize p :: q :: r = l
    intro hp h hsz
    rw [Std.Legacy.Range.forIn_eq_forIn_range']
    refine wpAny_bind (wpAny_forIn_list _ (fun rest b s' => s' = s ∧ ∃ i, rest = List.range' i (l.length - i) ∧ i ≤ l.length ∧ b = (((List.take i l).map (fun (p : Array UInt8 × Tok) => p.1)).toArray, btook (List.take i l))) _ ?turn ?fin _ _ ?h)
    case h => exact ⟨rfl, 0, by simp [Std.Legacy.Range.size, bvals], Nat.zero_le _, rfl⟩
    case turn =>
      rintro i rest b s' ⟨rfl, j, hr, hj, rfl⟩
      have hlt : j < l.length := by
        rcases Nat.lt_or_ge j l.length with h | h
        · exact h
        · rw [show l.length - j = 0 from by omega] at hr
          cases hr
      have hi : i = j ∧ rest = List.range' (j + 1) (l.length - (j + 1)) := by
        rw [show l.length - j = (l.length - (j + 1)) + 1 from by omega, List.range'_succ] at hr
        injection hr with h1 h2
        exact ⟨h1, h2⟩
      obtain ⟨rfl, hrest⟩ := hi
      refine wpAny_bind (wpAny_bind (wpAny_load hp ?_))
      refine wpAny_pure ?_
      show wpAny _ _ (if (false || (btook (List.take i l)).any (fun x => x.1.onHeap)) = true then _ else _) _ _ _
      rw [took_any]
      refine KFB.if_not rfl ?_
      dsimp only
      rw [getD_b l i hlt]
      refine wpAny_bind (wpAny_holding (wpAny_of_eq takeQ_eq ?_))
      refine wpAny_bind (wpAny_bind (wpAny_load hp ?_))
      refine wpAny_pure ?_
      refine KFB.if_not (by simp) ?_
      refine wpAny_pure ?_
      refine ⟨rfl, i + 1, hrest, hlt, ?_⟩
      rw [List.take_succ_eq_append_getElem hlt]
      simp only [btook, List.map_append, List.map_cons, List.map_nil, List.push_toArray]
    case fin =>
      rintro b s' ⟨rfl, j, hr, hj, rfl⟩
      have hjl : j = l.length := by
        rcases Nat.lt_or_ge j l.length with h | h
        · rw [show l.length - j = (l.length - (j + 1)) + 1 from by omega, List.range'_succ] at hr
          cases hr
        · omega
      subst hjl
      rw [List.take_length]
      refine wpAny_bind (wpAny_of_eq (a := (#[] : Array UInt8)) rfl ?_)
      have hz : (List.map (fun (x : Array UInt8) => x.size) (List.map (fun (p : Array UInt8 × Tok) => p.1) l)).sum ≤ 10000 := by rw [List.map_map]; exact hsz
      refine KFB.if_not ?_ ?_
      · show Bytes.tooLong (Array.foldl (fun (x1 : Nat) (x2 : Array UInt8) => x1 + x2.size) (0 * _) (List.map (fun (p : Array UInt8 × Tok) => p.1) l).toArray) = false
        rw [Nat.zero_mul, parts_size]
        exact KBy.tooLong_not (by omega)
      · have hj2 := joined_flat (List.map (fun (p : Array UInt8 × Tok) => p.1) l)
        refine wpAny_bind (bytes_new ?_ fun t' k => ?_)
        · rw [← Array.length_toList, hj2, List.length_flatten, List.map_map, List.map_map]
          simpa [Function.comp_def] using hsz
        · refine wpAny_bind (wpAny_holding (wpAny_point ?_))
          refine wpAny_bind (letgo_join ?_)
          refine wpAny_pure (h _ _ _ ?_)
          rw [hj2, List.map_map]
          rfl
end
section
variable {prog : Program} {w : World} {A : Around} {E : Value → Shared → Prop} {s : Shared} {Q : Value → Shared → Prop} {g : Heap} {L : Addr} {news : List (Addr × Obj)}
theorem call_join {pos : Pos} {t : Tok} {a : Addr} {l : List (Array UInt8 × Tok)} {n : Nat} {x : Sem Value} (hsz : (l.map (·.1.size)).sum ≤ 10000)
    (h : wpAny (model prog w) A x (fun v s₁ => v = .ref a ∧ s₁.heap.get? a = some (PySem.W.listOf (bvals l).toArray n) ∧ ∀ J t' k, J.toList = (l.map (·.1.toList)).flatten → Q (.bytes J t') { s₁ with toks := k }) E s) :
    wpAny (model prog w) A (callWith pos (.builtin "bytes.join") [.bytes #[] t] [(false, x)] []) Q E s := by
  refine method1_meets slot_bytes_join entry_bytes_join (wpAny_mono h (fun v s₁ h₁ => ?_) fun _ _ e => e)
  obtain ⟨rfl, hp, hq⟩ := h₁
  exact ⟨typeIs_bytes _ _ _, args_bytes_join_2 _ _, _, meets_join t a l n hsz, hp, fun J t' k e => hq J t' k e⟩
theorem get_join {t : Tok} {b : Array UInt8} {pl : Sem Bool} {Q : Value × List Value → Shared → Prop} (h : Q (.builtin "bytes.join", [.bytes b t]) s) : wpAny (model prog w) A (getMethod (.bytes b t) "join" pl) Q E s :=
  getMethod_builtin (typeIs_bytes s b t) FB.plainAttrs_bytes slot_bytes_join type_bytes_join (fun _ e => nomatch e) h
end
end Mine
-- part W10
open PySem PySem.W PyProof.Rows
namespace Mine
section
variable {prog : Program} {w : World} {A : Around} {E : Value → Shared → Prop} {s : Shared} {env : Env} {h₀ : Heap} {body : List Stmt} {Q : Flow → Shared → Prop}
noncomputable abbrev rangeIt (x left : Int) : Obj := { cls := .type "range_iterator", dict := none, data := .fields #[rawInt x, rawInt left, rawInt 1], slots := #[] }
/-- a loop over range(n), its target in a cell, its body without a local of its own -/
theorem iter_rangeT {r : Addr} {n : Nat} {t u v : Tok} {x : PySem.Str} {px : Pos} {m : PySem.Str → Option Value} {news : List (Addr × Obj)} (J : Nat → List (Addr × Obj) → Prop)
    (hh : A.handled = none) (hr : IsRange s.heap r 0 n 1 t u v) (hn : n ≤ 1000) (F : Fr h₀ env.locals s.heap m) (N : News h₀ env.locals s.heap news) (hj : J 0 news)
    (turn : ∀ i t news₁ s₁ I io, i < n → J i news₁ → (∀ p ∈ news, p.1 < I) → (∀ p ∈ news₁, p.1 ≠ I) → (∃ a b, io = rangeIt a b) → Fr h₀ env.locals s₁.heap m → News h₀ env.locals s₁.heap ((I, io) :: news₁) →
      wpAny (model prog w) A (assign (.Name x px) env (.int (i : Int) t)) (fun _ s₃ => wpAny (model prog w) A (execs body env) (fun f s' => Cut (f = .next ∧ ∃ h' tk' news₂, s' = { s₁ with heap := h', toks := tk' } ∧ Fr h₀ env.locals h' m ∧ News h₀ env.locals h' ((I, io) :: news₂) ∧ (∀ p ∈ news₂, p.1 ≠ I) ∧ J (i + 1) news₂)) E s₃) E s₁)
    (done : ∀ news₁ h tk, J n news₁ → Fr h₀ env.locals h m → News h₀ env.locals h news₁ → Q .next { s with heap := h, toks := tk }) :
    wpAny (model prog w) A (pyIter (.ref r)) (fun it s₂ => LoopAtT prog w A h₀ env (.Name x px) body Q E it s₂) E s := by
  have hsz : Builtin.Range.rangeSize 0 (n : Int) 1 = (n : Int) := by
    unfold Builtin.Range.rangeSize
    rw [if_pos (by decide)]
    split
    · omega
    · omega
  have hsm : Builtin.Range.small 0 (n : Int) 1 = true := small_one (by decide) (by decide) (by omega) (by omega)
  refine wpAny_pyIter_range hr hsm ?_
  have W : Walks prog w A s.heap.objs.size [s.heap.objs.size] [s.heap.objs.size] n (fun i v => i < n ∧ ∃ t, v = .int (0 + i * 1) t)
      (fun i h => IsRangeIter h s.heap.objs.size (0 + (i : Nat) * 1) ((n : Int) - (i : Nat)) 1) := (Walks.range hh _ 0 1 n).bound
  refine ⟨_, _, _, n, _, _, m, news, (fun i m' nx => m' = m ∧ J i nx), rfl, W, ?_, ?_, ?_, ?_, F.push _, (fun p hp => ⟨Heap.get?_push_of_some _ (N p hp).1, (N p hp).2⟩), ?_, ⟨rfl, hj⟩, ?_, ?_⟩
  · intro hm
    exact absurd F.ns.lt ((List.mem_singleton.mp hm) ▸ Nat.lt_irrefl _)
  · intro b hb
    rw [List.mem_singleton.mp hb]
    exact next_is_new F
  · intro p hp hI
    exact absurd (Heap.lt_size (N p hp).1) ((List.mem_singleton.mp hI) ▸ Nat.lt_irrefl _)
  · show IsRangeIter _ _ _ _ _
    rw [hsz]
    simpa using Heap.get?_push_size _ rfl
  · intro i s' v Q' _ h
    exact wpAny_pure h
  · rintro i v m₁ news₁ s₁ own hin ⟨_, t, rfl⟩ ⟨rfl, hJ⟩ hoff hsub hget hfp hst F₁ N₁
    have hmem := hfp _ (.head _) (next_is_new F) _ hst
    have hown : ∀ p ∈ own, p = (s.heap.objs.size, rangeIt (0 + ((i + 1 : Nat) : Int) * 1) ((n : Int) - ((i + 1 : Nat) : Int))) := by
      intro p hp
      have e1 : p.1 = s.heap.objs.size := List.mem_singleton.mp (hsub p hp)
      have e2 : s₁.heap.get? p.1 = some p.2 := hget p hp
      have e3 : s₁.heap.get? s.heap.objs.size = some (rangeIt (0 + ((i + 1 : Nat) : Int) * 1) ((n : Int) - ((i + 1 : Nat) : Int))) := hst
      rw [e1, e3] at e2
      exact Prod.ext e1 (Option.some.inj e2).symm
    have e0 : (0 + (i : Int) * 1) = (i : Int) := by omega
    rw [e0]
    refine wpAny_mono (turn i t news₁ s₁ s.heap.objs.size (rangeIt (0 + ((i + 1 : Nat) : Int) * 1) ((n : Int) - ((i + 1 : Nat) : Int))) hin hJ (fun p hp => Heap.lt_size (N p hp).1) (fun p hp e => hoff p hp (by rw [e]; exact .head _)) ⟨_, _, rfl⟩ F₁ (fun p hp => ?_)) (fun _ s₃ h₃ => wpAny_mono h₃ (fun f s₄ h₄ => ?_) fun _ _ e => e) fun _ _ e => e
    · rcases List.mem_cons.mp hp with rfl | hp
      · exact N₁ _ (List.mem_append_left _ hmem)
      · exact N₁ _ (List.mem_append_right _ hp)
    · obtain ⟨rfl, h', tk', news₂, rfl, F₂, N₂, hoff₂, hJ₂⟩ := h₄.out
      refine ⟨rfl, h', tk', _, news₂, rfl, F₂, fun p hp => ?_, fun p hp e => hoff₂ p hp (List.mem_singleton.mp e), rfl, hJ₂⟩
      rcases List.mem_append.mp hp with hp | hp
      · rw [hown p hp]
        exact N₂ _ (.head _)
      · exact N₂ _ (.tail _ hp)
  · rintro h' tk m' news' F' N' _ ⟨rfl, hJ⟩
    exact done news' h' tk hJ F' N'
end
/-- what stands at another place than the loop's own is left -/
theorem TabWf.off {ps : Array Value} {codes : List (Addr × Obj)} {q : PySem.Str} {g h : Heap} {L I : Addr} {a b : Int} {news : List (Addr × Obj)} (W : TabWf ps codes q) (N : News g L h news) (hc : ∀ p ∈ codes, p ∈ news) (hI : (I, rangeIt a b) ∈ news) :
    TabWf ps (codes.filter fun p => decide (p.1 ≠ I)) q := by
  refine ⟨W.1, fun pos cv hcv => ?_⟩
  obtain ⟨c', oc, vs, t, e1, e2, e3, e4⟩ := W.2 pos cv hcv
  refine ⟨c', oc, vs, t, e1, List.mem_filter.mpr ⟨e2, decide_eq_true fun e => ?_⟩, e3, e4⟩
  have h1 : h.get? c' = some oc := (N _ (hc _ e2)).1
  have h2 : h.get? I = some (rangeIt a b) := (N _ hI).1
  have e' : c' = I := e
  rw [e', h2] at h1
  cases h1
  have e3' : Data.fields #[rawInt a, rawInt b, rawInt 1] = Data.fields vs := e3
  cases e3'
  cases e4
end Mine
-- part W11
open PySem PySem.W PyProof.Rows
namespace Mine
section
variable {prog : Program} {w : World} {A : Around} {E : Value → Shared → Prop} {s : Shared} {h₀ : Heap} {L : Addr} {m : PySem.Str → Option Value} {news : List (Addr × Obj)}
theorem sliceApplied_03 {sl : Addr} {a b : Tok} {Q : Int × Int × Nat → Shared → Prop} (hs : s.heap.IsSliceOf sl (.int 0 a) (.int 3 b) .none) (h : Q (0, 1, 3) s) :
    wpAny (model prog w) A (Builtin.Slice.sliceApplied (.ref sl) (pure ((6 : Nat) : Int))) Q E s := by
  obtain ⟨os, hos, hcs, hds⟩ := id hs
  unfold Builtin.Slice.sliceApplied Builtin.Slice.sliceFields
  refine wpAny_bind (wpAny_bind (wpAny_field hos hds (x := .int 0 a) rfl (wpAny_bind (wpAny_field hos hds (x := .int 3 b) rfl (wpAny_bind (wpAny_field hos hds (x := .none) rfl (wpAny_pure ?_)))))))
  refine wpAny_bind (slicePart_none ?_)
  show wpAny _ _ (if ((1 : Int) == 0) = true then _ else _) _ _ s
  rw [if_neg (by decide)]
  refine wpAny_bind (slicePart_int (wpAny_bind (slicePart_int (wpAny_bind (wpAny_pure ?_)))))
  exact wpAny_of_eq (a := ((0 : Int), (1 : Int), 3)) rfl h
theorem getItem_tuple_03 {t sl : Addr} {v0 v1 v2 v3 v4 v5 : Value} {a b : Tok} {Q : Value → Shared → Prop} (ht : IsTup s.heap t #[v0, v1, v2, v3, v4, v5]) (hs : s.heap.IsSliceOf sl (.int 0 a) (.int 3 b) .none)
    (h : Q (.ref s.heap.objs.size) { s with heap := s.heap.push { cls := .type "tuple", data := .seq #[v0, v1, v2] } }) : wpAny (model prog w) A (getItem (.ref t) (.ref sl)) Q E s := by
  obtain ⟨os, hos, hcs, hds⟩ := id hs
  have hTs : s.TypeIs (.ref sl) "slice" := ⟨os, hos, hcs⟩
  have hdrop : sizeOk (.seq #[v0, v1, v2]) := by
    show (3 : Nat) ≤ sizeLine
    rw [sizeLine_eq]
    decide
  unfold getItem
  try with_reducible refine wpAny_holding ?_
  first | refine wpAny_bind (wpAny_pure ?_) | skip
  refine wpAny_bind (wpAny_sequenceKey ht.typeIs (by decide) ?_)
  refine wpAny_bind (wpAny_callSpecial?_slot (name := PySem.Str.ofString "__getitem__") ht.typeIs slot_tuple_getitem
    (wpAny_call_entry slot_tuple_getitem ht.typeIs entry_tuple_getitem ?_ (args_tuple_getitem _ _)))
  show wpAny _ _ (Builtin.Tuple.tupleItemsOf (.ref t) >>= _) _ _ s
  refine wpAny_bind (tupleItemsOf_ ht ?_)
  refine wpAny_bind (wpAny_typeOf hTs ?_)
  rw [if_pos (by decide)]
  refine wpAny_bind (sliceApplied_03 hs ?_)
  show wpAny _ _ (Builtin.Tuple.tupleExact #[v0, v1, v2] >>= _) _ _ s
  first
    | exact wpAny_bind (m := Builtin.Tuple.tupleExact _) (wpAny_newObj_type (wpAny_pure ⟨_, rfl, wpAny_pure h⟩) hdrop)
    | exact wpAny_bind (m := Builtin.Tuple.tupleExact _) (wpAny_newObj_type (wpAny_bind (wpAny_pure (wpAny_pure ⟨_, rfl, wpAny_pure h⟩))) hdrop)
    | exact wpAny_bind (wpAny_bind (m := Builtin.Tuple.tupleExact _) (wpAny_newObj_type (wpAny_pure (wpAny_pure ⟨_, rfl, wpAny_pure h⟩)) hdrop))
    | exact wpAny_bind (wpAny_bind (m := Builtin.Tuple.tupleExact _) (wpAny_newObj_type (wpAny_pure ⟨_, rfl, wpAny_pure h⟩) hdrop))
theorem slice_tuple_03 {value slice : Expr} {t : Addr} {v0 v1 v2 v3 v4 v5 : Value} {n : Nat} {a b : Tok} {Q : Value → Shared → Prop}
    (F : Fr h₀ L s.heap m) (N : News h₀ L s.heap news) (ht : (t, ({ cls := .type "tuple", data := .seq #[v0, v1, v2, v3, v4, v5] n } : Obj)) ∈ news)
    (h : ∀ D h', Fr h₀ L h' m → News h₀ L h' ((D, { cls := .type "tuple", data := .seq #[v0, v1, v2] }) :: news) → (∀ p ∈ news, p.1 < D) → Q (.ref D) { s with heap := h' })
    (hs : subscripted slice false (.ref t) (.ref s.heap.objs.size) = operate [.ref s.heap.objs.size, .ref t] (getItem (.ref t) (.ref s.heap.objs.size)))
    (hg : ∀ r, letTemporaryGo value (.ref t) r = pure ()) :
    wpAny (model prog w) A (subscriptTail value slice (.ref t) (.ref s.heap.objs.size)) Q E { s with heap := s.heap.push { cls := .type "slice", data := .fields #[.int 0 a, .int 3 b, .none] } } := by
  have ht0 : IsTup s.heap t #[v0, v1, v2, v3, v4, v5] := ⟨_, (N _ ht).1, rfl, n, rfl⟩
  have ht' : IsTup (s.heap.push { cls := .type "slice", data := .fields #[.int 0 a, .int 3 b, .none] }) t #[v0, v1, v2, v3, v4, v5] := ht0.keeps fun _ _ e => Heap.get?_push_of_some _ e
  refine subscriptTail_ops (s := { s with heap := s.heap.push { cls := .type "slice", data := .fields #[.int 0 a, .int 3 b, .none] } }) ht'.typeIs slot_tuple_getitem.lookup
    (getItem_tuple_03 ht' (Heap.IsSliceOf.new ..) ?_) hs hg
  have N1 := News.push (F.push { cls := .type "slice", data := .fields #[.int 0 a, .int 3 b, .none] }) (N.grown fun _ _ e => Heap.get?_push_of_some _ e) { cls := .type "tuple", data := .seq #[v0, v1, v2] }
  rw [Heap.size_push] at N1
  show Q (.ref (s.heap.push _).objs.size) _
  rw [Heap.size_push]
  exact h _ _ ((F.push _).push _) N1 fun p hp => Nat.lt_succ_of_lt (Heap.lt_size (N p hp).1)
end
end Mine
-- part J0
open PySem PySem.W PyProof.Rows
namespace Mine
open_top hd for PySem.Challenge.rw_jg0015_01
end Mine
-- part L0
open PySem PySem.W PyProof.Rows
namespace Mine
theorem woff_L0 : True := by
  w_top off
  trivial
noncomputable def lawR : { r : DefRec // (recsOf hd.view_39).find? (fun d => d.name == PySem.Str.ofString "law") = some r } := ⟨_, rfl⟩
end Mine
-- part J1a
open PySem PySem.W PyProof.Rows
namespace Mine
theorem woff_J1a : True := by
  w_top off
  trivial
theorem fillx0 : (∃ x : OpenLaw, x = PySem.Challenge.rw_jg0015_01) ∧ (∃ k : Params → Frag, k = hd.heap_39) := by
  k_fill
  exact ⟨⟨_, rfl⟩, ⟨_, rfl⟩⟩
local macro_rules | `(tactic| walk_at "callWith ref") => `(tactic| (k_here; k_dflt (refine' callWith_boundKW ?k1 ?k2 ?k3 ?_; (case k1 => k_asm); (case k2 => k_mem); (case k3 => exact rfl); k_whole)))
local macro_rules | `(tactic| walk_at "call ref") => `(tactic| (k_here; k_dflt (refine' call_bigkw ?k1 ?k2 ?k3 ?k4 ?_; (case k1 => k_asm); (case k2 => k_mem); (case k3 => assumption); (case k4 => omega); k_whole); intro _ _))
theorem fromb_ctc {w : World} {pv9 : Program} {loose : List PySem.Str} {mean : ExcName → Option Value} {mg mb : PySem.Str → Option Value}
  {dp un : Nat} {gd : Option (List Code)} {cn : PySem.Str} {cs : Scope} {a : Addr} {ccd : Value} {cl : List (PySem.Str × Addr)} {outer : List Env} {A₀ : Around} {base h₀ : Heap} {L : Addr} {m : PySem.Str → Option Value} {news : List (Addr × Obj)} {s : Shared} 
    {b : Array UInt8} {t : Tok} {ks : List Int}
    {Q E : Value → Shared → Prop}
    (B : Below A₀ base outer h₀) (F : Fr h₀ L s.heap m) (X : (hd.heap_39 w.params).In h₀) (N : News h₀ L s.heap news) (T : Top pv9 loose mean mg mb h₀) (hk : cs.kind = .function)
    (hdp : dp + 5 < recursionLimit) (_hun : un + 50 < cLine)
    (hks : KBw.bInts b = ks) (hlen : ks.length ≤ 128)
    (hret : ∀ t h' tk, Fr h₀ L h' m → News h₀ L h' news → Q (.int (beV ks) t) { s with heap := h', toks := tk }) :
    wpAny (model PySem.Challenge.rw_jg0015_01.row.prog w) (ktrTop dp un gd cn cs L a ccd cl outer) (call (.ref 44) [.bytes b t] [(PySem.Str.ofString "signed", .bool false)]) Q E s := by
  refine wpAny_call ?_
  k_dflt (refine' code_def ?k1 ?k2 ?k3 ?k4 ?k5 ?kA ?kF ?kK ?k6 ?k7 ?k8 ?k9 ?kB ?_ ?c2 ?c3 ?c4 ?c5; (case kA => exact rfl); (case kF => exact rfl); (case kK => assumption); (case k1 => k_asm); (case k2 => k_asm); (case k3 => k_asm); (case k4 => k_asm); (case k5 => k_asm); (case k6 => k_is); (case k7 => k_is); (case k8 => ktr_room); (case k9 => first | exact BindsTo.of_eq rfl | exact binds_K (by k_in) rfl (by k_is) rfl rfl rfl); (case c5 => decide); (case kB => exact locs rfl); (case c2 => exact rfl); (case c3 => exact rfl); (case c4 => exact rfl); k_whole; intro g' L' h' FG' F' N' B' X' T'; (try dsimp only); (try k_lift B'); (try k_fold))
  k_steps
  exact hret _ _ _ (by k_asm) (cb_drop (by assumption) fun _ h => .tail _ h)
end Mine
-- part J1b
open PySem PySem.W PyProof.Rows
namespace Mine
theorem woff_J1b : True := by
  w_top off
  trivial
theorem fillxb : (∃ x : OpenLaw, x = PySem.Challenge.rw_jg0015_01) ∧ (∃ k : Params → Frag, k = hd.heap_39) := by
  k_fill
  exact ⟨⟨_, rfl⟩, ⟨_, rfl⟩⟩
theorem BindsTo.congr {s : Shared} {fd : FuncData} {args : Args} {binds binds' : List (PySem.Str × Value)} (h : BindsTo s fd args binds') (e : binds' = binds) : BindsTo s fd args binds := e ▸ h
theorem binds74k {w : World} {s : Shared} (X : (hd.heap_39 w.params).In s.heap) {d : Array UInt8} {n p e : Int} {b : Bool} {t1 t2 t3 t4 : Tok} :
    ∀ fd oc od sl, (hd.heap_39 w.params).lookup 74 = some ⟨oc, od, .func fd, sl⟩ → BindsTo s fd ⟨[.bytes d t1, .int n t2, .int p t3], [(PySem.Str.ofString "lengths_only", .bool b), (PySem.Str.ofString "depth", .int e t4)]⟩ [(PySem.Str.ofString "encoded_data", .bytes d t1), (PySem.Str.ofString "data_len", .int n t2), (PySem.Str.ofString "pointer", .int p t3), (PySem.Str.ofString "lengths_only", .bool b), (PySem.Str.ofString "depth", .int e t4)] := by
  refine' use_lookup (P := fun fd => BindsTo _ fd _ _) ?k1 ?k2
  case k1 => k_is
  case k2 =>
    refine' BindsTo.congr ?a ?b
    case a => exact binds_K (by k_in) rfl (by k_is) rfl rfl rfl
    case b => rfl
theorem binds74p (w : World) (d : Array UInt8) (n : Int) (t1 t2 : Tok) :
    ∃ t3 t4, ∀ s : Shared, (hd.heap_39 w.params).In s.heap → ∀ fd oc od sl, (hd.heap_39 w.params).lookup 74 = some ⟨oc, od, .func fd, sl⟩ → BindsTo s fd ⟨[.bytes d t1, .int n t2], []⟩ [(PySem.Str.ofString "encoded_data", .bytes d t1), (PySem.Str.ofString "data_len", .int n t2), (PySem.Str.ofString "pointer", .int 0 t3), (PySem.Str.ofString "lengths_only", .bool false), (PySem.Str.ofString "depth", .int 0 t4)] := by
  refine' ⟨_, _, fun s X => use_lookup (P := fun fd => BindsTo _ fd _ _) ?k1 ?k2⟩
  case k1 => k_is
  case k2 =>
    refine' BindsTo.congr ?a ?b
    case a => exact binds_K X rfl (by k_is) rfl rfl rfl
    case b => rfl
end Mine
-- part J1
open PySem PySem.W PyProof.Rows
namespace Mine
theorem woff_J1 : True := by
  w_top off
  trivial
theorem fillx : (∃ x : OpenLaw, x = PySem.Challenge.rw_jg0015_01) ∧ (∃ k : Params → Frag, k = hd.heap_39) := by
  k_fill
  exact ⟨⟨_, rfl⟩, ⟨_, rfl⟩⟩
local macro_rules | `(tactic| walk_at "binaryOp Mod str ref") => `(tactic| (k_here; (with_reducible show wpAny _ _ (binaryOp Operator.Mod (Value.str _ _) (Value.ref _)) _ _ _); k_dflt (refine' msg2 ?kptN ?kptb ?kpt1 ?kpt2 ?_; (case kptN => k_asm); (case kptb => k_mem); (case kpt1 => first | assumption | exact short_lt (by omega) (by omega)); (case kpt2 => first | assumption | exact short_lt (by omega) (by omega))); intro _ _ _))

noncomputable abbrev tupO (vs : Array Value) (n : Nat) : Obj := { cls := .type "tuple", data := .seq vs n }

def Outs (h₀ h : Heap) (L : Addr) (news : List (Addr × Obj)) (d : Array UInt8) (p : Nat) (lo : Bool) (r : R) (D : Addr) : Prop :=
  (lo = true → ∃ t1 t2 n, News h₀ L h ((D, tupO #[.int ((p + r.hdr : Nat) : Int) t1, .int ((p + r.tot : Nat) : Int) t2] n) :: news)) ∧
  (lo = false → ∃ D' t1 t2 t3 t4 t5 t6 t7 n n', D' < D ∧ (∀ p ∈ news, p.1 < D') ∧ News h₀ L h ((D, tupO #[.ref D', .int ((p + r.tot : Nat) : Int) t7] n) ::
    (D', tupO #[.int (r.first / 64) t1, .int (r.first / 32 % 2) t2, .int r.tag t3, .bytes ((d.toList.drop p).take r.hdr).toArray t4, .bytes ((d.toList.drop (p + r.hdr)).take r.len).toArray t5, .bytes (List.replicate r.tr 0).toArray t6] n') :: news))

local macro_rules | `(tactic| walk_at "exec While Constant cons nil") => `(tactic| refine Cut.out ?_)
local macro_rules | `(tactic| walk_at "exec While BoolOp cons nil") => `(tactic| refine Cut.out ?_)
local macro_rules | `(tactic| walk_at "call ref") => `(tactic| (k_here; k_dflt (refine' fromb_ctc (s := ⟨_, _, _, _, _⟩) ?k1 ?k2 ?k3 ?k4 ?k5 ?kK ?kd ?ku ?kks ?kl ?_; (case k1 => k_asm); (case k2 => k_asm); (case k3 => k_asm); (case k4 => k_asm); (case k5 => k_asm); (case kK => first | exact rfl | assumption); (case kd => ktr_room); (case ku => ktr_units); (case kks => assumption); (case kl => exact clip_len (by omega) (by omega) (by omega)); k_whole); intro t9 h9 tk9 F9 N9; (try dsimp only); (try k_fold)))
local macro_rules | `(tactic| walk_at "call ref") => `(tactic| ((with_reducible show wpAny _ _ (call (Value.ref 74) _ _) _ _ _); refine Cut.out ?_))
def PC (w : World) (dep : Nat) : Prop := ∀ ⦃pv9 : Program⦄ ⦃loose : List PySem.Str⦄ ⦃mean : ExcName → Option Value⦄ ⦃mg mb : PySem.Str → Option Value⦄
  ⦃dp un : Nat⦄ ⦃gd : Option (List Code)⦄ ⦃cn : PySem.Str⦄ ⦃cs : Scope⦄ ⦃a : Addr⦄ ⦃ccd : Value⦄ ⦃cl : List (PySem.Str × Addr)⦄ ⦃outer : List Env⦄ ⦃A₀ : Around⦄ ⦃base h₀ : Heap⦄ ⦃L : Addr⦄ ⦃m : PySem.Str → Option Value⦄ ⦃news : List (Addr × Obj)⦄ ⦃s : Shared⦄ 
    ⦃d : Array UInt8⦄ ⦃ks : List Int⦄ ⦃p : Nat⦄ ⦃pv dv : Int⦄ ⦃lo : Bool⦄ ⦃t1 t2 t3 t4 : Tok⦄ ⦃pos : List Value⦄ ⦃kw : List (PySem.Str × Value)⦄
    ⦃Q E : Value → Shared → Prop⦄
    (_ : Below A₀ base outer h₀) (_ : Fr h₀ L s.heap m) (_ : (hd.heap_39 w.params).In h₀) (_ : News h₀ L s.heap news) (_ : Top pv9 loose mean mg mb h₀) (_ : cs.kind = .function)
    (_ : dp + (11 - dep) + 5 < recursionLimit) (_ : un + 8 * (11 - dep) + 50 < cLine)
    (_ : KBw.bInts d = ks) (_ : ks.length ≤ 4096) (_ : p ≤ ks.length) (_ : pv = (p : Int)) (_ : dv = (dep : Int))
    (_ : ∀ r D h' tk, ppL (11 - dep) (ks.drop p) = some r → Fr h₀ L h' m → Outs h₀ h' L news d p lo r D → (∀ p ∈ news, p.1 < D) → Q (.ref D) { s with heap := h', toks := tk })
    (_ : ∀ e g' h' tk, ppL (11 - dep) (ks.drop p) = none → Fr h₀ L g' m → RaisedN base (envX cn cs L a ccd cl :: outer) e (.type "ValueError") news h' → g'.UpToSlots h' → E (.ref e) { s with heap := h', toks := tk })
    (_ : ∀ fd oc od sl, (hd.heap_39 w.params).lookup 74 = some ⟨oc, od, .func fd, sl⟩ → BindsTo s fd ⟨pos, kw⟩ [(PySem.Str.ofString "encoded_data", .bytes d t1), (PySem.Str.ofString "data_len", .int (ks.length : Nat) t2), (PySem.Str.ofString "pointer", .int pv t3), (PySem.Str.ofString "lengths_only", .bool lo), (PySem.Str.ofString "depth", .int dv t4)]),
    wpAny (model PySem.Challenge.rw_jg0015_01.row.prog w) (ktrTop dp un gd cn cs L a ccd cl outer) (call (.ref 74) pos kw) Q E s
theorem parse_step (w : World) (dep : Nat) (hdep : dep ≤ 11) (IH : dep ≤ 10 → PC w (dep + 1)) : PC w dep := by
  unfold PC
  intro pv9 loose mean mg mb dp un gd cn cs a ccd cl outer A₀ base h₀ L m news s d ks p pv dv lo t1 t2 t3 t4 pos kw Q E B F X N T hk hdp hun hks hlen hp hpv0 hdv0 hret hexc hbind
  subst hpv0 hdv0
  refine wpAny_call ?_
  k_dflt (refine' code_def ?k1 ?k2 ?k3 ?k4 ?k5 ?kA ?kF ?kK ?k6 ?k7 ?k8 ?k9 ?kB ?_ ?c2 ?c3 ?c4 ?c5; (case kA => exact rfl); (case kF => exact rfl); (case kK => assumption); (case k1 => k_asm); (case k2 => k_asm); (case k3 => k_asm); (case k4 => k_asm); (case k5 => k_asm); (case k6 => k_is); (case k7 => k_is); (case k8 => ktr_room); (case k9 => exact hbind _ _ _ _ (by k_is)); (case c5 => decide); (case kB => exact locs rfl); (case c2 => exact rfl); (case c3 => exact rfl); (case c4 => exact rfl); k_whole; intro g' L' h' FG' F' N' B' X' T'; (try dsimp only); (try k_lift B'); (try k_fold))
  generalize hb : ks.getD p 0 = b
  refine execs_join 7 (fun s' => p < ks.length ∧ dep ≤ 10 ∧ 0 ≤ b ∧ b < 256 ∧ ∃ h₁ tk tc tt tp tf, s' = { s with heap := h₁, toks := tk } ∧ News g' L' h₁ news ∧ Fr g' L' h₁ (look [(PySem.Str.ofString "constructed", some (.int (b / 32 % 2) tc)), (PySem.Str.ofString "tag", some (.int (b % 32) tt)), (PySem.Str.ofString "pointer", some (.int (p + 1) tp)), (PySem.Str.ofString "first_octet", some (.int b tf)), (PySem.Str.ofString "start", some (.int p t3)), 
     (PySem.Str.ofString "depth", some (.int dep t4)), (PySem.Str.ofString "lengths_only", some (.bool lo)), (PySem.Str.ofString "pointer", some (.int p t3)), (PySem.Str.ofString "data_len", some (.int (ks.length : Nat) t2)), (PySem.Str.ofString "encoded_data", some (.bytes d t1))])) ?seg1 ?rest1
  case seg1 =>
    have F2 := Fr.congr F' (fun y => look_lookup _ y)
    clear F'
    simp only [List.take]
    (try k_fold)
    k_steps
    · refine hexc _ _ _ _ ?_ FG' (RaisedN.sub (by assumption) fun _ h => h) (by assumption)
      rw [show 11 - dep = 0 by omega]
      rfl
    · refine hexc _ _ _ _ (ppL_end (by omega)) FG' (RaisedN.sub (by assumption) fun _ h => .tail _ h) (by assumption)
    · rename Fr g' L' _ _ => F1
      rename News g' L' _ _ => N1
      rename 0 ≤ ks.getD _ 0 => hLo
      rename ks.getD _ 0 < 256 => hHi
      simp only [Int.toNat_natCast, hb] at F1 hLo hHi
      rw [b_con (by assumption) (by assumption), b_and31 (by assumption) (by assumption)] at F1
      exact Cut.a ⟨rfl, by omega, by omega, by assumption, by assumption, _, _, _, _, _, _, rfl, N1, F1⟩
  case rest1 =>
    rintro s' ⟨hpl, hde, hb0, hb1, h₁, tk, tc, tt, tp, tf, rfl, N1, F1⟩
    clear F' N'
    simp only [List.drop]
    refine execs_join 1 (fun s' => ∃ x pv, tagP b (ks.drop (p+1)) = some x ∧ p + 1 + x.2 ≤ ks.length ∧ pv = ((p + 1 + x.2 : Nat) : Int) ∧ ∃ h₁ tk tc tt tp tf nv, s' = { s with heap := h₁, toks := tk } ∧ News g' L' h₁ news ∧ Fr g' L' h₁ (look [(PySem.Str.ofString "num", nv), (PySem.Str.ofString "pointer", some (.int pv tp)), (PySem.Str.ofString "tag", some (.int x.1 tt)), (PySem.Str.ofString "constructed", some (.int (b / 32 % 2) tc)), (PySem.Str.ofString "first_octet", some (.int b tf)), (PySem.Str.ofString "start", some (.int p t3)), 
     (PySem.Str.ofString "depth", some (.int dep t4)), (PySem.Str.ofString "lengths_only", some (.bool lo)), (PySem.Str.ofString "data_len", some (.int (ks.length : Nat) t2)), (PySem.Str.ofString "encoded_data", some (.bytes d t1))])) ?seg2 ?rest2
    case seg2 =>
      simp only [List.take]
      k_fold
      k_steps
      · rename Fr g' L' _ _ => F2
        rename News g' L' _ _ => N2
        rename b % 32 = 31 => hb31
        refine Cut.a ?_
        refine wpAny_mono (Q := fun f s' => Cut (f = Flow.next ∧ ∃ q tg pv, q ≤ ks.length ∧ p+1 ≤ q ∧ tagL (ks.drop (p+1)) 0 = some (tg, q - (p+1)) ∧ pv = (q:Int) ∧ ∃ h₁ tk tc tt tp tf nv, s' = { s with heap := h₁, toks := tk } ∧ News g' L' h₁ news ∧ Fr g' L' h₁ (look [(PySem.Str.ofString "num", nv), (PySem.Str.ofString "pointer", some (.int pv tp)), (PySem.Str.ofString "tag", some (.int tg tt)), (PySem.Str.ofString "constructed", some (.int (b / 32 % 2) tc)), (PySem.Str.ofString "first_octet", some (.int b tf)), (PySem.Str.ofString "start", some (.int p t3)), 
     (PySem.Str.ofString "depth", some (.int dep t4)), (PySem.Str.ofString "lengths_only", some (.bool lo)), (PySem.Str.ofString "data_len", some (.int (ks.length : Nat) t2)), (PySem.Str.ofString "encoded_data", some (.bytes d t1))]))) ?loop ?cont (fun _ _ x => x)
        case loop =>
          refine while_my (fun n s' => ∃ q tg pv, p + 1 ≤ q ∧ q ≤ ks.length ∧ 0 ≤ tg ∧ n = ks.length - q ∧ tagL (ks.drop (p+1)) 0 = (tagL (ks.drop q) tg).map (fun x => (x.1, x.2 + (q - (p+1)))) ∧ pv = (q : Int) ∧
            ∃ h₁ tk tc tt tp tf nv, s' = { s with heap := h₁, toks := tk } ∧ News g' L' h₁ news ∧ Fr g' L' h₁ (look [(PySem.Str.ofString "num", nv), (PySem.Str.ofString "pointer", some (.int pv tp)), (PySem.Str.ofString "tag", some (.int tg tt)), (PySem.Str.ofString "constructed", some (.int (b / 32 % 2) tc)), (PySem.Str.ofString "first_octet", some (.int b tf)), (PySem.Str.ofString "start", some (.int p t3)), 
     (PySem.Str.ofString "depth", some (.int dep t4)), (PySem.Str.ofString "lengths_only", some (.bool lo)), (PySem.Str.ofString "data_len", some (.int (ks.length : Nat) t2)), (PySem.Str.ofString "encoded_data", some (.bytes d t1))])) (ks.length - (p+1)) ?j0 ?turn ?hE
          case hE => first | passes_own | with_unfolding_all passes_own
          case j0 => 
            refine ⟨p + 1, 0, _, by omega, by omega, by omega, rfl, ?_, ?_, _, _, _, _, _, _, _, rfl, N2, Fr.canon ["num", "pointer", "tag", "constructed", "first_octet", "start", "depth", "lengths_only", "data_len", "encoded_data"] F2 ?_⟩
            · rw [Nat.sub_self]; cases tagL (ks.drop (p+1)) 0 <;> rfl
            · omega
            · intro y hy
              simp only [List.mem_cons, List.not_mem_nil, or_false, not_or] at hy
              simp only [look, hy, if_false]
          case turn =>
            clear F2 N2
            rintro n s' ⟨q, tg, pv, hq1, hq2, htg, rfl, htl, rfl, h₁, tk, tc, tt, tp, tf, nv, rfl, N1, F1⟩
            k_fold
            k_steps
            all_goals (try (rename 0 ≤ ks.getD _ 0 => hLo; rename ks.getD _ 0 < 256 => hHi; simp only [Int.toNat_natCast] at *))
            · refine hexc _ _ _ _ (pp_tag_none hpl (hb ▸ hb31) ?_) FG' (RaisedN.sub (by assumption) fun _ h => .tail _ h) (by assumption)
              rw [htl, tagL_end (by omega)]; rfl
            · refine hexc _ _ _ _ (pp_tag_none hpl (hb ▸ hb31) ?_) FG' (RaisedN.sub (by assumption) fun _ h => h) (by assumption)
              rw [htl, tagL_at (by omega), if_pos ⟨by assumption, by assumption⟩]; rfl
            · exfalso
              rename Int.fdiv _ _ = 0 => h7
              rw [b_shr7 hLo hHi] at h7
              omega
            · rename Fr g' L' _ _ => F2
              rename News g' L' _ _ => N2
              rename Int.fdiv _ _ ≠ 0 => h7
              rw [b_shr7 hLo hHi] at h7
              rw [b_and127 hLo hHi] at F2
              refine Cut.a ⟨ks.length - (q+1), by omega, q + 1, _, _, by omega, by omega, ?_, rfl, ?_, ?_, _, _, _, _, _, _, _, rfl, N2, Fr.canon ["num", "pointer", "tag", "constructed", "first_octet", "start", "depth", "lengths_only", "data_len", "encoded_data"] F2 ?_⟩
              · omega
              · rw [htl, tagL_at (by omega), if_neg (by omega), if_neg (by omega), Option.map_map]
                congr 1
                funext x
                simp only [Function.comp, Prod.mk.injEq, true_and]
                omega
              · omega
              · intro y hy
                simp only [List.mem_cons, List.not_mem_nil, or_false, not_or] at hy
                simp only [look, hy, if_false]
            · rename Fr g' L' _ _ => F2
              rename News g' L' _ _ => N2
              rename Int.fdiv _ _ = 0 => h7
              rw [b_shr7 hLo hHi] at h7
              rw [b_and127 hLo hHi] at F2
              refine Cut.a <| Cut.a ⟨by first | rfl | trivial, q + 1, _, _, by omega, by omega, ?_, ?_, _, _, _, _, _, _, _, rfl, N2, Fr.canon ["num", "pointer", "tag", "constructed", "first_octet", "start", "depth", "lengths_only", "data_len", "encoded_data"] F2 ?_⟩
              · rw [htl, tagL_at (by omega), if_neg (by omega), if_pos (by omega)]
                simp only [Option.map_some, Option.some.injEq, Prod.mk.injEq, true_and]
                omega
              · omega
              · intro y hy
                simp only [List.mem_cons, List.not_mem_nil, or_false, not_or] at hy
                simp only [look, hy, if_false]
            · rename Fr g' L' _ _ => F2
              rename News g' L' _ _ => N2
              rename Int.fdiv _ _ ≠ 0 => h7
              rw [b_shr7 hLo hHi] at h7
              rw [b_and127 hLo hHi] at F2
              refine Cut.a ⟨ks.length - (q+1), by omega, q + 1, _, _, by omega, by omega, ?_, rfl, ?_, ?_, _, _, _, _, _, _, _, rfl, N2, Fr.canon ["num", "pointer", "tag", "constructed", "first_octet", "start", "depth", "lengths_only", "data_len", "encoded_data"] F2 ?_⟩
              · omega
              · rw [htl, tagL_at (by omega), if_neg (by omega), if_neg (by omega), Option.map_map]
                congr 1
                funext x
                simp only [Function.comp, Prod.mk.injEq, true_and]
                omega
              · omega
              · intro y hy
                simp only [List.mem_cons, List.not_mem_nil, or_false, not_or] at hy
                simp only [look, hy, if_false]
        case cont =>
          clear F2 N2
          intro f s' hcut
          obtain ⟨rfl, q, tg, pv, hq2, hq1, htl, rfl, h₁, tk, tc, tt, tp, tf, nv, rfl, N1, F1⟩ := hcut.out
          dsimp only
          k_steps
          · exact hexc _ _ _ _ (pp_tag_small hpl (hb ▸ hb31) htl (by assumption)) FG' (RaisedN.sub (by assumption) fun _ h => h) (by assumption)
          · exact Cut.a ⟨rfl, _, _, tagP_of hb31 htl (by assumption), by dsimp only; omega, by dsimp only; omega, _, _, _, _, _, _, _, rfl, N1, F1⟩
      · refine Cut.a ⟨rfl, (b % 32, 0), _, ?_, by omega, ?_, _, _, _, _, _, _, _, rfl, N1, Fr.canon ["num", "pointer", "tag", "constructed", "first_octet", "start", "depth", "lengths_only", "data_len", "encoded_data"] F1 ?_⟩
        · unfold tagP; rw [if_neg (by assumption)]
        · dsimp only; omega
        · intro y hy
          simp only [List.mem_cons, List.not_mem_nil, or_false, not_or] at hy
          simp only [look, hy, if_false]
    case rest2 =>
      clear F1 N1
      rintro s' ⟨x, pv, hx, hxl, hpv, h₁, tk, tc, tt, tp, tf, nv, rfl, N1, F1⟩
      simp only [List.drop]
      generalize hq : p + 1 + x.2 = q at hxl hpv
      generalize ho : ks.getD q 0 = o
      refine execs_join 4 (fun s' => ∃ pv, q < ks.length ∧ 0 ≤ o ∧ o < 256 ∧ pv = ((q + 1 : Nat) : Int) ∧ ∃ h₁ tk tc tt tp tf tr tl nv, s' = { s with heap := h₁, toks := tk } ∧ News g' L' h₁ news ∧ Fr g' L' h₁ (look [(PySem.Str.ofString "num", nv), (PySem.Str.ofString "trailer", some (.bytes #[] tr)), (PySem.Str.ofString "pointer", some (.int pv tp)), (PySem.Str.ofString "length_octet", some (.int o tl)), (PySem.Str.ofString "tag", some (.int x.1 tt)), (PySem.Str.ofString "constructed", some (.int (b / 32 % 2) tc)), (PySem.Str.ofString "first_octet", some (.int b tf)), (PySem.Str.ofString "start", some (.int p t3)), 
     (PySem.Str.ofString "depth", some (.int dep t4)), (PySem.Str.ofString "lengths_only", some (.bool lo)), (PySem.Str.ofString "data_len", some (.int (ks.length : Nat) t2)), (PySem.Str.ofString "encoded_data", some (.bytes d t1))])) ?seg3 ?rest3
      case seg3 =>
        simp only [List.take]
        k_fold
        k_steps
        · refine hexc _ _ _ _ ?_ FG' (RaisedN.sub (by assumption) fun _ h => .tail _ h) (by assumption)
          refine pp_len_end hpl (hb ▸ hx) ?_
          omega
        · rename Fr g' L' _ _ => F2
          rename News g' L' _ _ => N2
          rename 0 ≤ ks.getD _ 0 => hLo
          rename ks.getD _ 0 < 256 => hHi
          subst hpv
          simp only [Int.toNat_natCast, ho] at hLo hHi F2
          refine Cut.a ⟨rfl, _, by omega, hLo, hHi, ?_, _, _, _, _, _, _, _, _, _, rfl, N2, Fr.canon ["num", "trailer", "pointer", "length_octet", "tag", "constructed", "first_octet", "start", "depth", "lengths_only", "data_len", "encoded_data"] F2 ?_⟩
          · omega
          · intro y hy
            simp only [List.mem_cons, List.not_mem_nil, or_false, not_or] at hy
            simp only [look, hy, if_false]
      case rest3 =>
        clear F1 N1 hpv pv
        rintro s' ⟨pv, hql, ho0, ho1, hpv, h₁, tk, tc, tt, tp, tf, tr, tl, nv, rfl, N1, F1⟩
        simp only [List.drop]
        have hand : Builtin.bitAnd o 127 = o % 128 := b_and127 ho0 ho1
        have hshr : o.fdiv (2 ^ Int.toNat 7) = o / 128 := b_shr7 ho0 ho1
        have hpp : ppL (11 - dep) (ks.drop p) = lenP (ppL (10 - dep)) b x.1 (x.2 + 1) (ks.drop q) := by
          rw [show 11 - dep = (10 - dep) + 1 by omega, pp_len hpl (by rw [hb]; exact hx), hb, hq]
        refine execs_join 1 (fun s' => ∃ ce ptr trn, Short (ce - ptr) ∧ trn ≤ 2 ∧ 0 ≤ ptr ∧ ptr ≤ ks.length ∧ (((ks.length : Int) < ce ∧ ppL (11 - dep) (ks.drop p) = none) ∨ (∃ r, ppL (11 - dep) (ks.drop p) = some r ∧ r.tr = trn ∧ ptr = ((p + r.hdr : Nat) : Int) ∧ ce = ((p + r.tot : Nat) : Int) ∧ r.first = b ∧ r.tag = x.1 ∧ p + r.tot ≤ ks.length)) ∧
          ∃ h₁ tk te lv uv nv tr tp ov tt tc tf, s' = { s with heap := h₁, toks := tk } ∧ News g' L' h₁ news ∧ Fr g' L' h₁ (look [(PySem.Str.ofString "contents_end", some (.int ce te)), (PySem.Str.ofString "length_octets", lv), (PySem.Str.ofString "_", uv), (PySem.Str.ofString "num", nv), (PySem.Str.ofString "trailer", some (.bytes (List.replicate trn 0).toArray tr)), (PySem.Str.ofString "pointer", some (.int ptr tp)), (PySem.Str.ofString "length_octet", ov), (PySem.Str.ofString "tag", some (.int x.1 tt)), (PySem.Str.ofString "constructed", some (.int (b / 32 % 2) tc)), (PySem.Str.ofString "first_octet", some (.int b tf)), (PySem.Str.ofString "start", some (.int p t3)), 
     (PySem.Str.ofString "depth", some (.int dep t4)), (PySem.Str.ofString "lengths_only", some (.bool lo)), (PySem.Str.ofString "data_len", some (.int (ks.length : Nat) t2)), (PySem.Str.ofString "encoded_data", some (.bytes d t1))])) ?seg4 ?rest4
        case seg4 =>
          simp only [List.take]
          k_fold
          k_steps
          · rename Fr g' L' _ _ => F2
            rename News g' L' _ _ => N2
            rename Int.fdiv _ _ = 0 => h7
            rw [hshr] at h7
            rw [hand] at F2
            have hlp := lenP_at (f := ppL (10 - dep)) (b := b) (t := x.1) (u := x.2 + 1) hql
            rw [ho, if_pos (by omega)] at hlp
            refine Cut.a ⟨rfl, _, _, 0, ?_, by omega, ?_, ?_, ?_, _, _, _, _, _, _, _, _, _, _, _, _, rfl, N2, Fr.canon ["contents_end", "length_octets", "_", "num", "trailer", "pointer", "length_octet", "tag", "constructed", "first_octet", "start", "depth", "lengths_only", "data_len", "encoded_data"] F2 ?_⟩
            · exact short_lt (by omega) (by omega)
            · omega
            · omega
            · rw [hpp, hlp]
              by_cases hle : o.toNat ≤ ks.length - (q + 1)
              · rw [if_pos hle]
                refine .inr ⟨_, rfl, rfl, ?_, ?_, rfl, rfl, ?_⟩ <;> simp only [R.tot] <;> omega
              · rw [if_neg hle]
                exact .inl ⟨by omega, rfl⟩
            · intro y hy
              simp only [List.mem_cons, List.not_mem_nil, or_false, not_or] at hy
              simp only [look, hy, if_false]
          · refine hexc _ _ _ _ ?_ FG' (RaisedN.sub (by assumption) fun _ h => .tail _ h) (by assumption)
            have hlp := lenP_at (f := ppL (10 - dep)) (b := b) (t := x.1) (u := x.2 + 1) hql
            rw [ho, if_neg (by omega), if_pos (by omega), if_pos (by omega)] at hlp
            rw [hpp, hlp]
          · rename Fr g' L' _ _ => F2
            rename News g' L' _ _ => N2
            rename KBw.bInts _ = _ => kbcK
            have hlp := lenP_at (f := ppL (10 - dep)) (b := b) (t := x.1) (u := x.2 + 1) hql
            rw [ho, if_neg (by omega), if_pos (by omega), if_neg (by omega)] at hlp
            have e1 : clipAt ks.length (pv + Builtin.bitAnd o 127) = q + 1 + (o % 128).toNat := by rw [clip_in (by omega) (by omega)]; omega
            have e2 : clipAt ks.length (pv + Builtin.bitAnd o 127 - Builtin.bitAnd o 127) = q + 1 := by rw [clip_in (by omega) (by omega)]; omega
            rw [e1, e2, Nat.add_sub_cancel_left] at kbcK F2
            have hbv := beV_short kbcK (by rw [List.length_take]; omega)
            generalize beV ((ks.drop (q + 1)).take (o % 128).toNat) = v at hlp hbv F2
            refine Cut.a ⟨rfl, _, _, 0, ?_, by omega, ?_, ?_, ?_, _, _, _, _, _, _, _, _, _, _, _, _, rfl, N2, Fr.canon ["contents_end", "length_octets", "_", "num", "trailer", "pointer", "length_octet", "tag", "constructed", "first_octet", "start", "depth", "lengths_only", "data_len", "encoded_data"] F2 ?_⟩
            · rw [show pv + Builtin.bitAnd o 127 + v - (pv + Builtin.bitAnd o 127) = v by omega]
              exact hbv.2
            · omega
            · omega
            · rw [hpp, hlp]
              have := hbv.1
              by_cases hle : v.toNat ≤ ks.length - (q + 1) - (o % 128).toNat
              · rw [if_pos hle]
                refine .inr ⟨_, rfl, rfl, ?_, ?_, rfl, rfl, ?_⟩ <;> simp only [R.tot] <;> omega
              · rw [if_neg hle]
                exact .inl ⟨by omega, rfl⟩
            · intro y hy
              simp only [List.mem_cons, List.not_mem_nil, or_false, not_or] at hy
              simp only [look, hy, if_false]
          · rename Fr g' L' _ _ => F2
            rename News g' L' _ _ => N2
            have hlp := lenP_at (f := ppL (10 - dep)) (b := b) (t := x.1) (u := x.2 + 1) hql
            rw [ho, if_neg (by omega), if_neg (by omega), if_neg (by assumption)] at hlp
            refine Cut.a ?_
            refine wpAny_mono (Q := fun f s' => Cut (f = Flow.next ∧ ∃ e ce, seqL (ppL (10 - dep)) (ks.length - (q + 1) + 1) (ks.drop (q + 1)) = some (e - (q + 1)) ∧ q + 1 ≤ e ∧ e + 2 ≤ ks.length ∧ ce = (e : Int) ∧ 
              ∃ h₁ tk te lv uv nv tr tp ov tt tc tf, s' = { s with heap := h₁, toks := tk } ∧ News g' L' h₁ news ∧ Fr g' L' h₁ (look [(PySem.Str.ofString "contents_end", some (.int ce te)), (PySem.Str.ofString "length_octets", lv), (PySem.Str.ofString "_", uv), (PySem.Str.ofString "num", nv), (PySem.Str.ofString "trailer", some (.bytes #[] tr)), (PySem.Str.ofString "pointer", some (.int pv tp)), (PySem.Str.ofString "length_octet", ov), (PySem.Str.ofString "tag", some (.int x.1 tt)), (PySem.Str.ofString "constructed", some (.int (b / 32 % 2) tc)), (PySem.Str.ofString "first_octet", some (.int b tf)), (PySem.Str.ofString "start", some (.int p t3)), 
     (PySem.Str.ofString "depth", some (.int dep t4)), (PySem.Str.ofString "lengths_only", some (.bool lo)), (PySem.Str.ofString "data_len", some (.int (ks.length : Nat) t2)), (PySem.Str.ofString "encoded_data", some (.bytes d t1))]))) ?loop ?cont (fun _ _ x => x)
            case loop =>
              refine while_my (fun n s' => ∃ e ce, q + 1 ≤ e ∧ e ≤ ks.length ∧ n = ks.length - e ∧ seqL (ppL (10 - dep)) (ks.length - (q + 1) + 1) (ks.drop (q + 1)) = (seqL (ppL (10 - dep)) (ks.length - e + 1) (ks.drop e)).map (· + (e - (q + 1))) ∧ ce = (e : Int) ∧ 
                ∃ h₁ tk te lv uv nv tr tp ov tt tc tf, s' = { s with heap := h₁, toks := tk } ∧ News g' L' h₁ news ∧ Fr g' L' h₁ (look [(PySem.Str.ofString "contents_end", some (.int ce te)), (PySem.Str.ofString "length_octets", lv), (PySem.Str.ofString "_", uv), (PySem.Str.ofString "num", nv), (PySem.Str.ofString "trailer", some (.bytes #[] tr)), (PySem.Str.ofString "pointer", some (.int pv tp)), (PySem.Str.ofString "length_octet", ov), (PySem.Str.ofString "tag", some (.int x.1 tt)), (PySem.Str.ofString "constructed", some (.int (b / 32 % 2) tc)), (PySem.Str.ofString "first_octet", some (.int b tf)), (PySem.Str.ofString "start", some (.int p t3)), 
     (PySem.Str.ofString "depth", some (.int dep t4)), (PySem.Str.ofString "lengths_only", some (.bool lo)), (PySem.Str.ofString "data_len", some (.int (ks.length : Nat) t2)), (PySem.Str.ofString "encoded_data", some (.bytes d t1))])) (ks.length - (q + 1)) ?j0 ?turn ?hE
              case hE => first | passes_own | with_unfolding_all passes_own
              case j0 =>
                refine ⟨q + 1, _, by omega, by omega, rfl, ?_, ?_, _, _, _, _, _, _, _, _, _, _, _, _, rfl, N2, Fr.canon ["contents_end", "length_octets", "_", "num", "trailer", "pointer", "length_octet", "tag", "constructed", "first_octet", "start", "depth", "lengths_only", "data_len", "encoded_data"] F2 ?_⟩
                · rw [Nat.sub_self]; cases seqL (ppL (10 - dep)) (ks.length - (q + 1) + 1) (ks.drop (q + 1)) <;> rfl
                · omega
                · intro y hy
                  simp only [List.mem_cons, List.not_mem_nil, or_false, not_or] at hy
                  simp only [look, hy, if_false]
              case turn =>
                clear F2 N2
                rintro n s' ⟨e, ce, he1, he2, rfl, hsq, rfl, h₁, tk, te, lv, uv, nv, tr, tp, ov, tt, tc, tf, rfl, N1, F1⟩
                k_fold
                k_steps
                · have hne : (ks.drop e).take 2 ≠ [0, 0] := by
                    intro h
                    have := congrArg List.length h
                    simp only [List.length_take, List.length_drop, List.length_cons, List.length_nil] at this
                    omega
                  refine Cut.a ?_
                  refine' IH hde ?k1 ?k2 ?k3 ?k4 ?k5 ?kK ?kd ?ku ?kks ?kl ?kp ?kpv ?kdv ?kret ?kexc ?kb
                  case k1 => k_asm
                  case k2 => k_asm
                  case k3 => k_asm
                  case k4 => k_asm
                  case k5 => k_asm
                  case kK => exact rfl
                  case kd => (show dp + 1 + (11 - (dep + 1)) + 5 < recursionLimit); omega
                  case ku => (show un + 3 + 8 * (11 - (dep + 1)) + 50 < cLine); omega
                  case kks => exact hks
                  case kl => exact hlen
                  case kp => exact he2
                  case kpv => exact rfl
                  case kb => exact binds74k (by k_in)
                  case kdv => omega
                  case kret =>
                    intro r D h2 tk2 hr F3 O3 l3
                    obtain ⟨ta, tb, nn, N3⟩ := O3.1 rfl
                    clear O3
                    k_fold
                    k_steps
                    rename Fr g' L' _ _ => F2
                    rename News g' L' _ _ => N2
                    have hr' : ppL (10 - dep) (ks.drop e) = some r := by rw [show 10 - dep = 11 - (dep + 1) by omega]; exact hr
                    have hrl := ppL_len _ _ _ hr'
                    rw [List.length_drop] at hrl
                    refine Cut.a ⟨ks.length - (e + r.tot), by omega, e + r.tot, _, by omega, by omega, rfl, ?_, ?_, _, _, _, _, _, _, _, _, _, _, _, _, rfl, cb_drop N2 (fun _ h => .tail _ h), Fr.canon ["contents_end", "length_octets", "_", "num", "trailer", "pointer", "length_octet", "tag", "constructed", "first_octet", "start", "depth", "lengths_only", "data_len", "encoded_data"] F2 ?_⟩
                    · rw [hsq, seqL_step hne hr', List.drop_drop, Option.map_map, seqL_fuel (ppL_len (10 - dep)) (ks.length - e) (ks.length - (e + r.tot) + 1) _ (by rw [List.length_drop]; omega) (by rw [List.length_drop]; omega)]
                      congr 1
                      funext z
                      simp only [Function.comp]
                      omega
                    · rfl
                    · intro y hy
                      simp only [List.mem_cons, List.not_mem_nil, or_false, not_or] at hy
                      simp only [look, hy, if_false]
                  case kexc =>
                    intro e9 g9 h9 tk9 hr F9 R9 U9
                    have hr' : ppL (10 - dep) (ks.drop e) = none := by rw [show 10 - dep = 11 - (dep + 1) by omega]; exact hr
                    k_steps
                    refine hexc _ _ _ _ ?_ FG' (RaisedN.sub (by assumption) fun _ h => h) (by assumption)
                    rw [hpp, hlp, hsq, seqL_none hne hr']
                    rfl
                · rename KBw.bInts _ = _ => kbcK
                  rename (_ != _) = true => hsl
                  have hne : (ks.drop e).take 2 ≠ [0, 0] := by
                    intro h
                    rw [clip_in (by omega) (by omega), Nat.min_eq_left he2, show ((e : Int) + 2).toNat - e = 2 by omega, h] at kbcK
                    rw [bInts_inj (b := #[0, 0]) kbcK] at hsl
                    exact absurd hsl (by decide)
                  refine Cut.a ?_
                  refine' IH hde ?k1 ?k2 ?k3 ?k4 ?k5 ?kK ?kd ?ku ?kks ?kl ?kp ?kpv ?kdv ?kret ?kexc ?kb
                  case k1 => k_asm
                  case k2 => k_asm
                  case k3 => k_asm
                  case k4 => k_asm
                  case k5 => k_asm
                  case kK => exact rfl
                  case kd => (show dp + 1 + (11 - (dep + 1)) + 5 < recursionLimit); omega
                  case ku => (show un + 3 + 8 * (11 - (dep + 1)) + 50 < cLine); omega
                  case kks => exact hks
                  case kl => exact hlen
                  case kp => exact he2
                  case kpv => exact rfl
                  case kb => exact binds74k (by k_in)
                  case kdv => omega
                  case kret =>
                    intro r D h2 tk2 hr F3 O3 l3
                    obtain ⟨ta, tb, nn, N3⟩ := O3.1 rfl
                    clear O3
                    k_fold
                    k_steps
                    rename Fr g' L' _ _ => F2
                    rename News g' L' _ _ => N2
                    have hr' : ppL (10 - dep) (ks.drop e) = some r := by rw [show 10 - dep = 11 - (dep + 1) by omega]; exact hr
                    have hrl := ppL_len _ _ _ hr'
                    rw [List.length_drop] at hrl
                    refine Cut.a ⟨ks.length - (e + r.tot), by omega, e + r.tot, _, by omega, by omega, rfl, ?_, ?_, _, _, _, _, _, _, _, _, _, _, _, _, rfl, cb_drop N2 (fun _ h => .tail _ h), Fr.canon ["contents_end", "length_octets", "_", "num", "trailer", "pointer", "length_octet", "tag", "constructed", "first_octet", "start", "depth", "lengths_only", "data_len", "encoded_data"] F2 ?_⟩
                    · rw [hsq, seqL_step hne hr', List.drop_drop, Option.map_map, seqL_fuel (ppL_len (10 - dep)) (ks.length - e) (ks.length - (e + r.tot) + 1) _ (by rw [List.length_drop]; omega) (by rw [List.length_drop]; omega)]
                      congr 1
                      funext z
                      simp only [Function.comp]
                      omega
                    · rfl
                    · intro y hy
                      simp only [List.mem_cons, List.not_mem_nil, or_false, not_or] at hy
                      simp only [look, hy, if_false]
                  case kexc =>
                    intro e9 g9 h9 tk9 hr F9 R9 U9
                    have hr' : ppL (10 - dep) (ks.drop e) = none := by rw [show 10 - dep = 11 - (dep + 1) by omega]; exact hr
                    k_steps
                    refine hexc _ _ _ _ ?_ FG' (RaisedN.sub (by assumption) fun _ h => h) (by assumption)
                    rw [hpp, hlp, hsq, seqL_none hne hr']
                    rfl
                · rename KBw.bInts _ = _ => kbcK
                  rename (_ != _) = false => hsl
                  rename Fr g' L' _ _ => F2
                  rename News g' L' _ _ => N2
                  have hst : (ks.drop e).take 2 = [0, 0] := by
                    rw [clip_in (by omega) (by omega), Nat.min_eq_left he2, show ((e : Int) + 2).toNat - e = 2 by omega] at kbcK
                    have h3 : KBy.picked d (some (e : Int)) (some ((e : Int) + 2)) = #[0, 0] := Array.ext' (by simpa using hsl)
                    rw [h3] at kbcK
                    exact kbcK.symm
                  refine Cut.a ⟨rfl, e, _, ?_, he1, by omega, rfl, _, _, _, _, _, _, _, _, _, _, _, _, rfl, N2, F2⟩
                  rw [hsq, seqL_stop hst]
                  simp only [Option.map_some, Nat.zero_add]
            case cont =>
              clear F2 N2
              intro f s' hcut
              obtain ⟨rfl, e, ce, hsq, he1, he2, hce, h₁, tk, te, lv, uv, nv, tr, tp, ov, tt, tc, tf, rfl, N1, F1⟩ := hcut.out
              dsimp only
              k_steps
              rename Fr g' L' _ _ => F2
              rename News g' L' _ _ => N2
              refine Cut.a ⟨rfl, _, _, 2, ?_, by omega, ?_, ?_, ?_, _, _, _, _, _, _, _, _, _, _, _, _, rfl, N2, Fr.canon ["contents_end", "length_octets", "_", "num", "trailer", "pointer", "length_octet", "tag", "constructed", "first_octet", "start", "depth", "lengths_only", "data_len", "encoded_data"] F2 ?_⟩
              · exact short_lt (by omega) (by omega)
              · omega
              · omega
              · rw [hpp, hlp, hsq]
                refine .inr ⟨_, rfl, rfl, ?_, ?_, rfl, rfl, ?_⟩ <;> simp only [R.tot] <;> omega
              · intro y hy
                simp only [List.mem_cons, List.not_mem_nil, or_false, not_or] at hy
                simp only [look, hy, if_false]
          · refine hexc _ _ _ _ ?_ FG' (RaisedN.sub (by assumption) fun _ h => h) (by assumption)
            have hlp := lenP_at (f := ppL (10 - dep)) (b := b) (t := x.1) (u := x.2 + 1) hql
            rw [ho, if_neg (by omega), if_neg (by omega), if_pos (by assumption)] at hlp
            rw [hpp, hlp]
        case rest4 =>
          clear F1 N1 hpv pv
          rintro s' ⟨ce, ptr, trn, hsh, htr2, hp0, hp1, hor, h₁, tk, te, lv, uv, nv, tr, tp, ov, tt, tc, tf, rfl, N1, F1⟩
          simp only [List.drop]
          have hT : KBw.bInts (List.replicate trn (0 : UInt8)).toArray = List.replicate trn 0 := by
            rw [KBw.ints_list, List.map_replicate]; rfl
          generalize hzs : List.replicate trn (0 : Int) = zs at hT
          generalize hTT : (List.replicate trn (0 : UInt8)).toArray = TT at hT F1
          have hz : zs.length = trn := by rw [← hzs, List.length_replicate]
          (try k_fold)
          k_steps
          · refine hexc _ _ _ _ ?_ FG' (RaisedN.sub (by assumption) fun _ h => .tail _ h) (by assumption)
            rcases hor with h | ⟨r, h1, h2, h3, h4, h5, h6, h7⟩
            · exact h.2
            · omega
          · rcases hor with h | ⟨r, h1, h2, h3, h4, h5, h6, h7⟩
            · omega
            · subst h3 h4
              rename lo = true => hlo
              exact hret r _ _ _ h1 (by assumption) ⟨fun _ => ⟨_, _, _, by assumption⟩, fun h => by rw [hlo] at h; cases h⟩ (by assumption)
          · rcases hor with h | ⟨r, h1, h2, h3, h4, h5, h6, h7⟩
            · omega
            · have hsz : d.size = ks.length := by rw [← hks, KBw.ints_length]
              subst h3
              have e1 : ce - (zs.length : Nat) = ((p + r.hdr + r.len : Nat) : Int) := by rw [h4, hz, ← h2]; simp only [R.tot]; omega
              have e0 : p + r.tot = p + r.hdr + r.len + r.tr := by simp only [R.tot]; omega
              rename News h₀ L _ _ => N9
              rename Fr h₀ L _ m => F9
              rename lo = false => hlo
              rw [e1, picked_nat (by omega) (by omega), picked_nat (by omega) (by omega), Nat.add_sub_cancel_left, Nat.add_sub_cancel_left, b_shr6 hb0 hb1, h4, ← h6, ← h5, ← hTT, ← h2] at N9
              rename _ ∧ AllLt _ news => hlt
              exact hret r _ _ _ h1 F9 ⟨fun h => (by rw [hlo] at h; cases h), fun _ => ⟨_, _, _, _, _, _, _, _, _, _, hlt.1, (by assumption), N9⟩⟩ (ktn_ltOf hlt.2)
theorem parse_all (w : World) : ∀ k dep, dep ≤ 11 → 11 - dep = k → PC w dep
  | 0, dep, h, hk => parse_step w dep h fun h' => by omega
  | k + 1, dep, h, hk => parse_step w dep h fun h' => parse_all w k (dep + 1) (by omega) (by omega)
theorem parse_ctc (w : World) : PC w 0 := parse_all w 11 0 (by omega) rfl
end Mine
-- part J2
open PySem PySem.W PyProof.Rows
namespace Mine
theorem woff_J2 : True := by
  w_top off
  trivial
theorem fillx2 : (∃ x : OpenLaw, x = PySem.Challenge.rw_jg0015_01) ∧ (∃ k : Params → Frag, k = hd.heap_39) := by
  k_fill
  exact ⟨⟨_, rfl⟩, ⟨_, rfl⟩⟩
def CallC (w : World) (f : Addr) (pos : List Value) (kw : List (PySem.Str × Value)) (news : List (Addr × Obj)) (dn : Nat) (Post : List (Addr × Obj) → Value → Prop) (Fails : Prop) : Prop :=
  ∀ ⦃pv9 : Program⦄ ⦃loose : List PySem.Str⦄ ⦃mean : ExcName → Option Value⦄ ⦃mg mb : PySem.Str → Option Value⦄
  ⦃dp un : Nat⦄ ⦃gd : Option (List Code)⦄ ⦃cn : PySem.Str⦄ ⦃cs : Scope⦄ ⦃a : Addr⦄ ⦃ccd : Value⦄ ⦃cl : List (PySem.Str × Addr)⦄ ⦃outer : List Env⦄ ⦃A₀ : Around⦄ ⦃base h₀ : Heap⦄ ⦃L : Addr⦄ ⦃m : PySem.Str → Option Value⦄ ⦃s : Shared⦄
    ⦃Q E : Value → Shared → Prop⦄
    (_ : Below A₀ base outer h₀) (_ : Fr h₀ L s.heap m) (_ : (hd.heap_39 w.params).In h₀) (_ : News h₀ L s.heap news) (_ : Top pv9 loose mean mg mb h₀) (_ : cs.kind = .function)
    (_ : dp + dn < recursionLimit) (_ : un + 8 * dn + 50 < cLine)
    (_ : ∀ v own h' tk, Post own v → Fr h₀ L h' m → News h₀ L h' (own ++ news) → (∀ p ∈ news, ∀ q ∈ own, p.1 < q.1) → Q v { s with heap := h', toks := tk })
    (_ : ∀ e g' h' tk, Fails → Fr h₀ L g' m → RaisedN base (envX cn cs L a ccd cl :: outer) e (.type "ValueError") news h' → g'.UpToSlots h' → E (.ref e) { s with heap := h', toks := tk }),
    wpAny (model PySem.Challenge.rw_jg0015_01.row.prog w) (ktrTop dp un gd cn cs L a ccd cl outer) (call (.ref f) pos kw) Q E s

def PeekPost (ks : List Int) (own : List (Addr × Obj)) (v : Value) : Prop := own = [] ∧ ∃ r t, ppL 11 ks = some r ∧ v = .int (r.tot : Nat) t
noncomputable def infoO (d : Array UInt8) (r : R) (t1 t2 t3 t4 t5 t6 : Tok) (n : Nat) : Obj :=
  tupO #[.int (r.first / 64) t1, .int (r.first / 32 % 2) t2, .int r.tag t3, .bytes (d.toList.take r.hdr).toArray t4, .bytes ((d.toList.drop r.hdr).take r.len).toArray t5, .bytes (List.replicate r.tr 0).toArray t6] n
def ParsePost (d : Array UInt8) (ks : List Int) (st : Bool) (own : List (Addr × Obj)) (v : Value) : Prop := ∃ r D t1 t2 t3 t4 t5 t6 n, ppL 11 ks = some r ∧ (st = true → r.tot = ks.length) ∧ own = [(D, infoO d r t1 t2 t3 t4 t5 t6 n)] ∧ v = .ref D
def ParseFails (ks : List Int) (st : Bool) : Prop := ∀ r, ppL 11 ks = some r → st = true ∧ r.tot ≠ ks.length

local macro_rules | `(tactic| walk_at "call ref") => `(tactic| ((with_reducible show wpAny _ _ (call (Value.ref 74) _ _) _ _ _); refine Cut.out ?_))

theorem peek_ctc (w : World) (news : List (Addr × Obj)) (d : Array UInt8) (ks : List Int) (t : Tok) (hks : KBw.bInts d = ks) (hlen : ks.length ≤ 4096) :
    CallC w 66 [.bytes d t] [] news 20 (PeekPost ks) (ppL 11 ks = none) := by
  unfold CallC
  intro pv9 loose mean mg mb dp un gd cn cs a ccd cl outer A₀ base h₀ L m s Q E B F X N T hk hdp hun hret hexc
  refine wpAny_call ?_
  k_dflt cell_enter
  k_steps
  refine Cut.a ?_
  obtain ⟨t3, t4, hb74⟩ := binds74p w d ks.length t _
  refine' parse_ctc w ?k1 ?k2 ?k3 ?k4 ?k5 ?kK ?kd ?ku ?kks ?kl ?kp ?kpv ?kdv ?kret ?kexc ?kb
  case kb => exact hb74 _ (by k_in)
  case k1 => k_asm
  case k2 => k_asm
  case k3 => k_asm
  case k4 => k_asm
  case k5 => k_asm
  case kK => exact rfl
  case kd => (show dp + 1 + (11 - 0) + 5 < recursionLimit); omega
  case ku => (show un + 3 + 8 * (11 - 0) + 50 < cLine); omega
  case kks => exact hks
  case kl => exact hlen
  case kp => exact Nat.zero_le _
  case kpv => exact rfl
  case kdv => exact rfl
  case kret =>
    intro r D h2 tk2 hr F3 O3 l3
    obtain ⟨D', ta, tb, tc, td, te, tf, tg, n1, n2, hDD, hD', N3⟩ := O3.2 rfl
    clear O3
    rw [List.drop_zero] at hr
    have hrl := ppL_len _ _ _ hr
    simp only [Nat.zero_add, List.drop_zero] at N3
    dsimp only
    (try k_fold)
    k_steps
    rename News h₀ L _ _ => N9
    rename Fr h₀ L _ m => F9
    exact hret _ [] _ _ ⟨rfl, r, _, hr, rfl⟩ F9 (cb_drop N9 fun _ h => .tail _ (.tail _ h)) (fun _ _ _ h => nomatch h)
  case kexc =>
    intro e9 g9 h9 tk9 hr F9 R9 U9
    rw [List.drop_zero] at hr
    k_steps
    exact hexc _ _ _ _ hr (by assumption) (by assumption) (by assumption)
theorem parse1_ctc (w : World) (news : List (Addr × Obj)) (d : Array UInt8) (ks : List Int) (t : Tok) (hks : KBw.bInts d = ks) (hlen : ks.length ≤ 4096) (st : Bool) (pos : List Value) (kw : List (PySem.Str × Value)) 
    (hb : ∀ s : Shared, (hd.heap_39 w.params).In s.heap → ∀ fd oc od sl, (hd.heap_39 w.params).lookup 59 = some ⟨oc, od, .func fd, sl⟩ → BindsTo s fd ⟨pos, kw⟩ [(PySem.Str.ofString "contents", .bytes d t), (PySem.Str.ofString "strict", .bool st)]) :
    CallC w 59 pos kw news 20 (ParsePost d ks st) (ParseFails ks st) := by
  unfold CallC
  intro pv9 loose mean mg mb dp un gd cn cs a ccd cl outer A₀ base h₀ L m s Q E B F X N T hk hdp hun hret hexc
  refine wpAny_call ?_
  k_dflt (refine' code_def ?k1 ?k2 ?k3 ?k4 ?k5 ?kA ?kF ?kK ?k6 ?k7 ?k8 ?k9 ?kB ?_ ?c2 ?c3 ?c4 ?c5; (case kA => exact rfl); (case kF => exact rfl); (case kK => assumption); (case k1 => k_asm); (case k2 => k_asm); (case k3 => k_asm); (case k4 => k_asm); (case k5 => k_asm); (case k6 => k_is); (case k7 => k_is); (case k8 => ktr_room); (case k9 => exact hb _ (by k_in) _ _ _ _ (by k_is)); (case c5 => decide); (case kB => exact locs rfl); (case c2 => exact rfl); (case c3 => exact rfl); (case c4 => exact rfl); k_whole; intro g' L' h' FG' F' N' B' X' T'; (try dsimp only); (try k_lift B'); (try k_fold))
  k_steps
  refine Cut.a ?_
  obtain ⟨t3, t4, hb74⟩ := binds74p w d ks.length t _
  refine' parse_ctc w ?k1 ?k2 ?k3 ?k4 ?k5 ?kK ?kd ?ku ?kks ?kl ?kp ?kpv ?kdv ?kret ?kexc ?kb
  case kb => exact hb74 _ (by k_in)
  case k1 => k_asm
  case k2 => k_asm
  case k3 => k_asm
  case k4 => k_asm
  case k5 => k_asm
  case kK => exact rfl
  case kd => (show dp + 1 + (11 - 0) + 5 < recursionLimit); omega
  case ku => (show un + 3 + 8 * (11 - 0) + 50 < cLine); omega
  case kks => exact hks
  case kl => exact hlen
  case kp => exact Nat.zero_le _
  case kpv => exact rfl
  case kdv => exact rfl
  case kret =>
    intro r D h2 tk2 hr F3 O3 l3
    obtain ⟨D', ta, tb, tc, td, te, tf, tg, n1, n2, hDD, hD', N3⟩ := O3.2 rfl
    clear O3
    rw [List.drop_zero] at hr
    have hrl := ppL_len _ _ _ hr
    simp only [Nat.zero_add, List.drop_zero] at N3
    dsimp only
    (try k_fold)
    k_steps
    · refine hexc _ _ _ _ (fun r' h => ?_) FG' (RaisedN.sub (by assumption) fun _ h => .tail _ (.tail _ h)) (by assumption)
      rw [hr] at h
      cases h
      exact ⟨by assumption, by omega⟩
    · rename News h₀ L _ _ => N9
      rename Fr h₀ L _ m => F9
      exact hret _ [_] _ _ ⟨r, D', _, _, _, _, _, _, _, hr, fun _ => by omega, rfl, rfl⟩ F9 (cb_drop N9 fun _ h => .tail _ h) (fun p hp q hq => by rw [List.mem_singleton.mp hq]; exact hD' p hp)
    · rename News h₀ L _ _ => N9
      rename Fr h₀ L _ m => F9
      rename st = false => hst
      exact hret _ [_] _ _ ⟨r, D', _, _, _, _, _, _, _, hr, fun h => (by rw [hst] at h; cases h), rfl, rfl⟩ F9 (cb_drop N9 fun _ h => .tail _ h) (fun p hp q hq => by rw [List.mem_singleton.mp hq]; exact hD' p hp)
  case kexc =>
    intro e9 g9 h9 tk9 hr F9 R9 U9
    rw [List.drop_zero] at hr
    k_steps
    exact hexc _ _ _ _ (fun r h => by rw [hr] at h; cases h) (by assumption) (by assumption) (by assumption)
theorem parse_ctc0 (w : World) (news : List (Addr × Obj)) (d : Array UInt8) (ks : List Int) (t : Tok) (hks : KBw.bInts d = ks) (hlen : ks.length ≤ 4096) :
    CallC w 59 [.bytes d t] [] news 20 (ParsePost d ks false) (ParseFails ks false) := by
  refine parse1_ctc w news d ks t hks hlen false _ _ fun s X => ?_
  refine' use_lookup (P := fun fd => BindsTo _ fd _ _) ?k1 ?k2
  case k1 => k_is
  case k2 =>
    refine' BindsTo.congr ?a ?b
    case a => exact binds_K X rfl (by k_is) rfl rfl rfl
    case b => rfl
theorem parse_ctc1 (w : World) (news : List (Addr × Obj)) (d : Array UInt8) (ks : List Int) (t : Tok) (hks : KBw.bInts d = ks) (hlen : ks.length ≤ 4096) :
    CallC w 59 [.bytes d t] [(PySem.Str.ofString "strict", .bool true)] news 20 (ParsePost d ks true) (ParseFails ks true) := by
  refine parse1_ctc w news d ks t hks hlen true _ _ fun s X => ?_
  refine' use_lookup (P := fun fd => BindsTo _ fd _ _) ?k1 ?k2
  case k1 => k_is
  case k2 =>
    refine' BindsTo.congr ?a ?b
    case a => first | exact BindsTo.of_eq rfl | exact binds_K X rfl (by k_is) rfl rfl rfl
    case b => rfl
end Mine
-- part J3
open PySem PySem.W PyProof.Rows
namespace Mine
theorem woff_J3 : True := by
  w_top off
  trivial
theorem fillx3 : (∃ x : OpenLaw, x = PySem.Challenge.rw_jg0015_01) ∧ (∃ k : Params → Frag, k = hd.heap_39) := by
  k_fill
  exact ⟨⟨_, rfl⟩, ⟨_, rfl⟩⟩
local macro_rules | `(tactic| k_room) => `(tactic| ktr_room)
theorem kba_in1 {n : Int} (h : 0 ≤ n ∧ n < 256) : KBa.In [n] := fun k hk => by rw [List.mem_singleton.mp hk]; exact h
theorem chr_ctc (w : World) (news : List (Addr × Obj)) (n : Int) (t : Tok) (hn : 0 ≤ n ∧ n < 256) :
    CallC w 21 [.int n t] [] news 5 (fun own v => own = [] ∧ ∃ b t, v = .bytes b t ∧ KBw.bInts b = [n]) False := by
  unfold CallC
  intro pv9 loose mean mg mb dp un gd cn cs a ccd cl outer A₀ base h₀ L m s Q E B F X N T hk hdp hun hret hexc
  have hin := kba_in1 hn
  refine wpAny_call ?_
  k_dflt cell_enter
  k_steps
  rename News h₀ L _ _ => N9
  rename Fr h₀ L _ m => F9
  exact hret _ [] _ _ ⟨rfl, _, _, rfl, KBa.ints_make hin⟩ F9 (cb_drop N9 fun _ h => .tail _ h) (fun _ _ _ h => nomatch h)
local macro_rules | `(tactic| walk_at "call ref") => `(tactic| (k_here; (with_reducible show wpAny _ _ (call (Value.ref 21) _ _) _ _ _); k_dflt (refine' chr_ctc _ _ _ _ ?kn ?k1 ?k2 ?k3 ?k4 ?k5 ?kK ?kd ?ku ?_ ?kexc; (case k1 => k_asm); (case k2 => k_asm); (case k3 => k_asm); (case k4 => k_asm); (case k5 => k_asm); (case kK => first | exact rfl | assumption); (case kd => ktr_room); (case ku => ktr_units); (case kn => first | decide | (constructor <;> omega)); (case kexc => (intro _ _ _ _ hF9; exact hF9.elim))); (intro v9 own9 h9 tk9 hp9 F9 N9 _; obtain ⟨ho9, b9, t9, hv9, hb9⟩ := hp9; subst ho9; subst hv9; (try simp only [List.nil_append] at N9); (try dsimp only); (try k_fold))))
local macro_rules | `(tactic| walk_at "inplaceOp Add bytes bytes") => `(tactic| (k_here; (with_reducible show wpAny _ _ (inplaceOp Operator.Add (Value.bytes _ _) (Value.bytes _ _)) _ _ _); refine iadd_K (by kba_ints2) (by kba_ints2) (by kba_size) ?_; intro _ _ kbaApp))
theorem emit_ctc (w : World) (news : List (Addr × Obj)) (d : Array UInt8) (ks : List Int) (t1 t2 t3 t : Tok) (hks : KBw.bInts d = ks) (hlen : ks.length ≤ 127) :
    CallC w 51 [.int 0 t1, .int 1 t2, .int 16 t3, .bytes d t] [] news 20 (fun own v => own = [] ∧ ∃ b t, v = .bytes b t ∧ KBw.bInts b = 48 :: (ks.length : Int) :: ks) False := by
  unfold CallC
  intro pv9 loose mean mg mb dp un gd cn cs a ccd cl outer A₀ base h₀ L m s Q E B F X N T hk hdp hun hret hexc
  refine wpAny_call ?_
  k_dflt cell_enter
  k_steps
  rename News h₀ L _ _ => N9
  rename Fr h₀ L _ m => F9
  rename KBw.bInts (_ ++ d) = _ => hap
  have e48 : Builtin.bitOr (Builtin.bitOr (Builtin.bitOr 0 (0 * 2 ^ Int.toNat 6)) (1 * 2 ^ Int.toNat 5)) 16 = 48 := by decide
  rw [e48] at hap
  exact hret _ [] _ _ ⟨rfl, _, _, rfl, hap⟩ F9 N9 (fun _ _ _ h => nomatch h)
end Mine
-- part J4
open PySem PySem.W PyProof.Rows
namespace Mine
theorem woff_J4 : True := by
  w_top off
  trivial
theorem fillx4 : (∃ x : OpenLaw, x = PySem.Challenge.rw_jg0015_01) ∧ (∃ k : Params → Frag, k = hd.heap_39) := by
  k_fill
  exact ⟨⟨_, rfl⟩, ⟨_, rfl⟩⟩
noncomputable abbrev looseG : List PySem.Str := looseW hd.view_39 [PySem.Str.ofString "int_to_bytes", PySem.Str.ofString "int_from_bytes", PySem.Str.ofString "parse", PySem.Str.ofString "_parse"] ++ List.map (fun x => x.name) (recsOf hd.view_39) ++ List.map (fun x => x.fst) (litsOf hd.view_39) ++ List.map (fun x => x.name) (clssOf hd.view_39 (looseW hd.view_39 [PySem.Str.ofString "int_to_bytes", PySem.Str.ofString "int_from_bytes", PySem.Str.ofString "parse", PySem.Str.ofString "_parse"]))
theorem answer_ctc (w : World) {news : List (Addr × Obj)} {f : Addr} {fo : Obj} {fd : FuncData} {dn : Nat} {Post : List (Addr × Obj) → Value → Prop} {Fails : Prop} (hf : (f, fo) ∈ news) (hfd : fo.data = .func fd) (hc : CallC w f [] [] news dn Post Fails)
  {mean : ExcName → Option Value} {mg mb : PySem.Str → Option Value}
  {dp un : Nat} {gd : Option (List Code)} {cn : PySem.Str} {cs : Scope} {a : Addr} {ccd : Value} {cl : List (PySem.Str × Addr)} {A₀ : Around} {h₀ : Heap} {L : Addr} {m : PySem.Str → Option Value} {s : Shared}
    {Q E : Value → Shared → Prop}
    (B : Below A₀ h₀ [] h₀) (F : Fr h₀ L s.heap m) (X : (hd.heap_39 w.params).In h₀) (N : News h₀ L s.heap news) (T : Top topProg looseG mean mg mb h₀) (hk : cs.kind = .function)
    (hdp : dp + dn + 5 < recursionLimit) (hun : un + 8 * dn + 80 < cLine)
    (hret : ∀ v own h' tk, (Post own v ∨ (own = [] ∧ v = .none ∧ Fails)) → Fr h₀ L h' m → News h₀ L h' (own ++ news) → (∀ p ∈ news, ∀ q ∈ own, p.1 < q.1) → Q v { s with heap := h', toks := tk }) :
    wpAny (model PySem.Challenge.rw_jg0015_01.row.prog w) (ktrTop dp un gd cn cs L a ccd cl []) (call (.ref 95) [.ref f] []) Q E s := by
  refine wpAny_call ?_
  k_dflt (refine' code_defT ?k1 ?k2 ?k3 ?k4 ?k5 ?kA ?kF ?kK ?k6 ?k7 ?k8 ?k9 ?kB ?_ ?c2 ?c3 ?c4 ?c5; (case kA => exact rfl); (case kF => exact rfl); (case kK => assumption); (case k1 => k_asm); (case k2 => k_asm); (case k3 => k_asm); (case k4 => k_asm); (case k5 => k_asm); (case k6 => k_is); (case k7 => k_is); (case k8 => ktr_room); (case k9 => exact BindsTo.of_eq rfl); (case c5 => decide); (case kB => exact locs rfl); (case c2 => exact rfl); (case c3 => exact rfl); (case c4 => exact rfl); k_whole; intro g' L' h' FG' F' N' B' X' T' lN' lL'; (try dsimp only); (try k_fold))
  k_steps
  refine callWith_fn0 (N'.get hf) hfd ?_
  refine' hc ?k1 ?k2 ?k3 ?k4 ?k5 ?kK ?kd ?ku ?kret ?kexc
  case k1 => k_asm
  case k2 => k_asm
  case k3 => k_asm
  case k4 => k_asm
  case k5 => k_asm
  case kK => exact rfl
  case kd => (show dp + 1 + dn < recursionLimit); omega
  case ku => (show un + 3 + 8 * dn + 50 < cLine); omega
  case kret =>
    intro v own h9 tk9 hp F9 N9 o9
    dsimp only
    k_steps
    refine Cut.a (.inl (leaveK_ F9 N9 fun F8 N8 => ?_))
    exact hret _ _ _ _ (.inl hp) F8 N8 o9
  case kexc =>
    intro e9 g9 h9 tk9 hF F9 R9 U9
    have F7 : Fr h₀ L' g9 _ := ⟨F9.ns, fun b o e => F9.keep b o (FG'.keep b o e), Nat.le_trans FG'.above (Nat.le_of_lt lL')⟩
    have F6 : Fr h₀ L g9 m := ⟨FG'.ns.keeps F9.keep, fun b o e => F9.keep b o (FG'.keep b o e), FG'.above⟩
    refine caught_mine (T' := "ValueError") rfl F7 U9 R9 (topRead_of T) PyProof.Rows.Boot.«ValueError» PySem.F.isExc_ValueError PySem.F.notTuple_ValueError (by rw [isSubtype_type]; kernel_rfl) ?_
    intro h3 F3 N3 U3
    k_steps
    dsimp only
    exact Cut.a (.inr (hret _ [] _ _ (.inr ⟨rfl, rfl, hF⟩) (F6.of_stays F3.keep U3) (fun p hp => ⟨(N3 p hp).1, (N p hp).2.1, (N3 p hp).2.2⟩) (fun _ _ _ h => nomatch h)))
end Mine
-- part J5
open PySem PySem.W PyProof.Rows
namespace Mine
theorem woff_J5 : True := by
  w_top off
  trivial
theorem leave_onX {M : Model} {A : Around} {E : Value → Shared → Prop} {s' : Shared} {base g g₂ : Heap} {outer : List Env} {L a e : Addr} {m : PySem.Str → Option Value} {name : PySem.Str} {scope : Scope} {cd : Value} {cl : List (PySem.Str × Addr)} {Q : Unit → Shared → Prop} {news : List (Addr × Obj)} {cls : Value}
    (K : Below A base outer g) (F : Fr g L g₂ m) (R : RaisedN base (envX name scope L a cd cl :: outer) e cls news s'.heap) (hsm : g₂.UpToSlots s'.heap)
    (hQ : ∀ h', RaisedN base outer e cls news h' → g.UpToSlots h' → Q () { s' with heap := h' }) :
    wpAny M (A.deeper (envX name scope L a cd cl)) (leaving (envX name scope L a cd cl) (.ref e)) Q E s' := by
  obtain ⟨C, a0, hC, hl, hfl⟩ := R
  exact wpAny_leaves_onW (Around.frames_deeper K.stack) rfl hfl fun h' x1 x2 => hQ h' ⟨C, a0, hC, hl, x1⟩ ((Heap.UpToSlots.of_keeps F.keep).trans (hsm.trans x2))

def EvalC (w : World) (e : Expr) (cn : PySem.Str) (cs : Scope) (a : Addr) (ccd : Value) (cl : List (PySem.Str × Addr)) (m : PySem.Str → Option Value) (news : List (Addr × Obj)) (dn : Nat) (Post : List (Addr × Obj) → Value → Prop) (Fails : Prop) : Prop :=
  ∀ ⦃pv9 : Program⦄ ⦃loose : List PySem.Str⦄ ⦃mean : ExcName → Option Value⦄ ⦃mg mb : PySem.Str → Option Value⦄
  ⦃dp un : Nat⦄ ⦃gd : Option (List Code)⦄ ⦃outer : List Env⦄ ⦃A₀ : Around⦄ ⦃base h₀ : Heap⦄ ⦃L : Addr⦄ ⦃s : Shared⦄
    ⦃Q E : Value → Shared → Prop⦄
    (_ : Below A₀ base outer h₀) (_ : Fr h₀ L s.heap m) (_ : (hd.heap_39 w.params).In h₀) (_ : News h₀ L s.heap news) (_ : Top pv9 loose mean mg mb h₀)
    (_ : dp + dn < recursionLimit) (_ : un + 8 * dn + 50 < cLine)
    (_ : ∀ v own h' tk, Post own v → Fr h₀ L h' m → News h₀ L h' (own ++ news) → (∀ p ∈ news, ∀ q ∈ own, p.1 < q.1) → Q v { s with heap := h', toks := tk })
    (_ : ∀ e g' h' tk, Fails → Fr h₀ L g' m → RaisedN base (envX cn cs L a ccd cl :: outer) e (.type "ValueError") news h' → g'.UpToSlots h' → E (.ref e) { s with heap := h', toks := tk }),
    wpAny (model PySem.Challenge.rw_jg0015_01.row.prog w) (ktrTop dp un gd cn cs L a ccd cl outer) (eval e (envX cn cs L a ccd cl)) Q E s

theorem lam_callC {w : World} {news : List (Addr × Obj)} {f c' : Addr} {name qual : PySem.Str} {params : Arguments} {body : Expr} {scope : Scope} {cl : List (PySem.Str × Addr)} {pm ctv : Value} {oc : Obj} {vs : Array Value} {t : Tok} {dn : Nat} {Post : List (Addr × Obj) → Value → Prop} {Fails : Prop}
    (hf : (f, kla_obj name qual params body scope cl pm c' ctv) ∈ news) (hc : (c', oc) ∈ news) (hd : oc.data = .fields vs) (hv : vs[1]? = some (.str qual t))
    (hbind : bindArgs (kla_fn name qual params body scope cl pm (.ref c') ctv) ⟨[], []⟩ = pure []) (hco : scope.isCoroutine = false) (hgen : scope.isGenerator = false) (hk : scope.kind = .function)
    (hcell : ∀ x ∈ scope.names, x.2 ≠ .cell)
    (hb : EvalC w body qual scope f (.ref c') cl (fun y => List.lookup y []) news dn Post Fails) : CallC w f [] [] news (dn + 2) Post Fails := by
  unfold CallC
  intro pv9 loose mean mg mb dp un gd cn cs a ccd cl2 outer A₀ base h₀ L m s Q E B F X N T hk2 hdp hun hret hexc
  refine wpAny_call ?_
  refine' kla_code B F X N T rfl rfl hk2 hf (codeRec_news N hc hd hv) (by (show dp < recursionLimit); omega) hbind (fun y hy => nomatch hy) ?_ hco hgen hk hcell
  intro g L' h₁ FG F' N' B' X' T'
  refine' hb B' F' X' N' T' ?kd ?ku ?kret ?kexc
  case kd => (show dp + 1 + dn < recursionLimit); omega
  case ku => (show un + 3 + 8 * dn + 50 < cLine); omega
  case kret =>
    intro v own h9 tk9 hp F9 N9 o9
    refine leaveK_ F9 N9 fun F8 N8 => ?_
    exact hret _ _ _ _ hp F8 N8 o9
  case kexc =>
    intro e9 g9 h9 tk9 hF F9 R9 U9
    refine leave_onX B' F9 R9 U9 fun h8 R8 U8 => ?_
    exact hexc _ _ _ _ hF FG R8 U8
end Mine
-- part J6
open PySem PySem.W PyProof.Rows
namespace Mine
theorem woff_J6 : True := by
  w_top off
  trivial
theorem fillx6 : (∃ x : OpenLaw, x = PySem.Challenge.rw_jg0015_01) ∧ (∃ k : Params → Frag, k = hd.heap_39) := by
  k_fill
  exact ⟨⟨_, rfl⟩, ⟨_, rfl⟩⟩
local macro_rules | `(tactic| walk_at "eval Lambda") => `(tactic| (refine Cut.out ?_))
local macro_rules | `(tactic| walk_at "call ref") => `(tactic| ((with_reducible show wpAny _ _ (call (Value.ref 95) _ _) _ _ _); refine Cut.out ?_))
theorem ans_eval (w : World) {mean : ExcName → Option Value} {mg mb : PySem.Str → Option Value} {h₀ : Heap} {L fa M0 : Nat} {m : PySem.Str → Option Value} {s : Shared} {pre codes : List (Addr × Obj)} {ps : Array Value}
   {body : PySem.Expr} {scope : Scope} {p1 p2 p3 : Pos} {clos : List (PySem.Str × Addr)} {dn : Nat} {Post : List (Addr × Obj) → Value → Prop} {Fails : Prop}
   {Q : Value → Shared → Prop}
  (B : Below callerA h₀ [] h₀) (F : Fr h₀ L s.heap m) (X : (hd.heap_39 w.params).In h₀) (T : Top topProg looseG mean mg mb h₀) (C : CodeHd h₀ 99 97)
  (N : News h₀ L s.heap (pre ++ (97, tabObj ps) :: codes)) (hpre : ∀ q ∈ pre, q.1 ≠ 97) (hPM : 97 < M0) (hM : ∃ o, (M0, o) ∈ pre) (hco : ∀ q ∈ codes, M0 < q.1) (W : TabWf ps codes (PySem.Str.ofString "law.<locals>.<lambda>"))
  (hcl : closureFor scope (envOfC lawR.1.name lawR.1.scope L fa (.ref 99)) = pure clos) (hc1 : scope.isCoroutine = false) (hc2 : scope.isGenerator = false) (hc3 : scope.kind = .function) (hc4 : ∀ x ∈ scope.names, x.2 ≠ .cell) (hdn : dn < 60)
  (hb : ∀ f c' ctv ps' codes', EvalC w body (PySem.Str.ofString "law.<locals>.<lambda>") scope f (.ref c') clos (fun y => List.lookup y []) ((f, kla_obj (PySem.Str.ofString "<lambda>") (PySem.Str.ofString "law.<locals>.<lambda>") ⟨[], [], none, [], [], none, []⟩ body scope clos ((mg "__name__").getD .none) c' ctv) :: (pre ++ (97, tabObj ps') :: codes')) dn Post Fails)
  (hret : ∀ v own ps' codes' h' tk, (Post own v ∨ (own = [] ∧ v = .none ∧ Fails)) → Fr h₀ L h' m → News h₀ L h' (own ++ (pre ++ (97, tabObj ps') :: codes')) → TabWf ps' codes' (PySem.Str.ofString "law.<locals>.<lambda>") → (∀ q ∈ codes', M0 < q.1) → (∀ p ∈ pre ++ (97, tabObj ps') :: codes', ∀ q ∈ own, p.1 < q.1) → Q v { s with heap := h', toks := tk }) :
   wpAny (model PySem.Challenge.rw_jg0015_01.row.prog w) (callerA.deeper (envOfC lawR.1.name lawR.1.scope L fa (.ref 99))) (eval (.Call (.Name (PySem.Str.ofString "_law_answer") p1) [.Lambda ⟨[], [], none, [], [], none, []⟩ body scope p2] [] p3) (envOfC lawR.1.name lawR.1.scope L fa (.ref 99))) Q (fun _ _ => False) s := by
  have hcl2 := hcl
  dsimp only [lawR] at hcl2 ⊢
  (try k_fold)
  repeat' (first | (k_unfold; (try dsimp only)) | (k_end; wrow_close) | (dsimp only; walk1) | walk1 | (leave1; try dsimp only) | fail "no step")
  refine Cut.a ?_
  refine' kla_eval ?d0 ?_
  case d0 => exact rfl
  refine' lam_any F N T C rfl hpre hPM hM hco W hcl2 ?_
  intro f c' oc vs t ctv ps' codes' h' tk' F' N' hm' d1 d2 W' hco' l1
  repeat' (first | (k_unfold; (try dsimp only)) | (k_end; wrow_close) | (dsimp only; walk1) | walk1 | (leave1; try dsimp only) | fail "no step")
  refine Cut.a ?_
  refine' answer_ctc w (dn := dn + 2) (.head _) ?hfd (lam_callC (.head _) (.tail _ (List.mem_append_right _ (.tail _ hm'))) d1 d2 ?hbind hc1 hc2 hc3 hc4 (hb f c' ctv ps' codes')) ?hB ?hF ?hX ?hN ?hT ?hk ?kd ?ku ?kret
  case hB => exact B
  case hF => exact F'
  case hX => exact X
  case hN => exact N'
  case hT => exact T
  case hfd => exact rfl
  case hbind => rfl
  case hk => exact rfl
  case kd => show 1 + claimMargin + 1 + (dn + 2) + 5 < recursionLimit; simp only [claimMargin, recursionLimit]; omega
  case ku => ktr_units
  case kret =>
    intro v own h3 tk3 hp F3 N3 l3
    refine hret v own ps' codes' h3 tk3 hp F3 (cb_drop N3 fun p hp => ?_) W' hco' (fun p hp q hq => l3 p (.tail _ hp) q hq)
    rcases List.mem_append.mp hp with hp | hp
    · exact List.mem_append_left _ hp
    · exact List.mem_append_right _ (.tail _ hp)
end Mine
-- part J7
open PySem PySem.W PyProof.Rows
namespace Mine
theorem woff_J7 : True := by
  w_top off
  trivial
theorem fillx7 : (∃ x : OpenLaw, x = PySem.Challenge.rw_jg0015_01) ∧ (∃ k : Params → Frag, k = hd.heap_39) := by
  k_fill
  exact ⟨⟨_, rfl⟩, ⟨_, rfl⟩⟩
noncomputable def whBody : { b : List Stmt // ∃ t o p, lawR.1.body[6]? = some (.While t b o p) } := ⟨_, _, _, _, rfl⟩
noncomputable def lam1 : { x : PySem.Expr × Scope // ∃ tg f ps p p2 p3, whBody.1[0]? = some (.Assign tg (.Call f [.Lambda ps x.1 x.2 p] [] p2) p3) } := ⟨(_, _), _, _, _, _, _, _, rfl⟩
noncomputable def lam2 : { x : PySem.Expr × Scope // ∃ c f ps p p2 ops cs p3 b1 b2 p4 r e p5, whBody.1[1]? = some (.If c (.If (.Compare (.Call f [.Lambda ps x.1 x.2 p] [] p2) ops cs p3) b1 b2 p4 :: r) e p5) } := ⟨(_, _), _, _, _, _, _, _, _, _, _, _, _, _, _, _, rfl⟩
noncomputable def lam3 : { x : PySem.Expr × Scope // ∃ f ps p p2 ops cs p3 b1 b2 p4, whBody.1[6]? = some (.If (.Compare (.Call f [.Lambda ps x.1 x.2 p] [] p2) ops cs p3) b1 b2 p4) } := ⟨(_, _), _, _, _, _, _, _, _, _, _, _, rfl⟩
noncomputable def shBody : { b : List Stmt // ∃ t i o p, whBody.1[7]? = some (.For t i b o p) } := ⟨_, _, _, _, _, rfl⟩
noncomputable def lam4 : { x : PySem.Expr × Scope // ∃ f ps p p2 ops cs p3 o y p5 b1 b2 p4, shBody.1[0]? = some (.If (.BoolOp o [.Compare (.Call f [.Lambda ps x.1 x.2 p] [] p2) ops cs p3, y] p5) b1 b2 p4) } := ⟨(_, _), _, _, _, _, _, _, _, _, _, _, _, _, _, rfl⟩
noncomputable def lam5 : { x : PySem.Expr × Scope // ∃ f ps p p2 ops cs p3 o y o2 z p6 p5 b1 b2 p4, shBody.1[0]? = some (.If (.BoolOp o [y, .BoolOp o2 [z, .Compare (.Call f [.Lambda ps x.1 x.2 p] [] p2) ops cs p3] p6] p5) b1 b2 p4) } := ⟨(_, _), _, _, _, _, _, _, _, _, _, _, _, _, _, _, _, _, rfl⟩
local macro_rules | `(tactic| k_room) => `(tactic| ktr_room)
local macro_rules | `(tactic| walk_at "call ref") => `(tactic| (refine Cut.out ?_))
local macro_rules | `(tactic| walk_at "eval Name") => `(tactic| (refine Cut.out ?_))
local macro_rules | `(tactic| walk_at "my nmK") => `(tactic| (refine Cut.a ?_; k_dflt (refine' nameX_K ?F ?X ?T ?e ?_ ?a ?b; (case F => k_asm); (case X => k_asm); (case T => k_asm); (case a => rfl); (case b => rfl); (case e => k_is); k_whole)))
local macro_rules | `(tactic| walk_at "my nmF") => `(tactic| (refine Cut.a ?_; refine' nameX_F ?yN ?yc ?ym ?yd ?_ ?ya ?yb; (case ya => rfl); (case yb => rfl); (case yN => k_asm); (case yc => rfl); (case ym => with_reducible assumption); (case yd => with_reducible assumption)))
theorem lamA (w : World) {f c1 c2 : Addr} {ccd : Value} {o1 o2 : Obj} {d : Array UInt8} {ks : List Int} {t1 t2 : Tok} {pl : Int} {qual : PySem.Str} {news : List (Addr × Obj)} (h1 : (c1, o1) ∈ news) (d1 : o1.data = .cell (some (.bytes d t1))) (h2 : (c2, o2) ∈ news) (d2 : o2.data = .cell (some (.int pl t2)))
    (hks : KBw.bInts d = ks) (hlen : ks.length ≤ 4096) (hpl : 0 ≤ pl) :
    EvalC w lam1.1.1 qual lam1.1.2 f ccd [(PySem.Str.ofString "place", c2), (PySem.Str.ofString "data", c1)] (fun y => List.lookup y []) news 22 (ParsePost (d.toList.drop pl.toNat).toArray (ks.drop pl.toNat) false) (ParseFails (ks.drop pl.toNat) false) := by
  unfold EvalC
  intro pv9 loose mean mg mb dp un gd outer A₀ base h₀ L s Q E B F X N T hdp hun hret hexc
  dsimp only [lam1]
  repeat' (first | (k_unfold; (try dsimp only)) | (k_end; wrow_close) | (dsimp only; walk1) | walk1 | (leave1; try dsimp only) | fail "no step")
  walk_at "my nmK"
  repeat' (first | (k_unfold; (try dsimp only)) | (k_end; wrow_close) | (dsimp only; walk1) | walk1 | (leave1; try dsimp only) | fail "no step")
  walk_at "my nmF"
  repeat' (first | (k_unfold; (try dsimp only)) | (k_end; wrow_close) | (dsimp only; walk1) | walk1 | (leave1; try dsimp only) | fail "no step")
  walk_at "my nmF"
  repeat' (first | (k_unfold; (try dsimp only)) | (k_end; wrow_close) | (dsimp only; walk1) | walk1 | (leave1; try dsimp only) | fail "no step")
  refine Cut.a ?_
  rename KBw.bInts (KBy.picked d (some pl) none) = _ => hpk
  rw [clip_drop hpl] at hpk
  have hbd : KBw.bInts (d.toList.drop pl.toNat).toArray = ks.drop pl.toNat := by rw [bInts_dropA, hks]
  have hpe : KBy.picked d (some pl) none = (d.toList.drop pl.toNat).toArray := bInts_inj (hpk.trans hbd.symm)
  rw [hpe]
  refine' parse_ctc0 w news _ _ _ hbd ?hle ?hB ?hF ?hX ?hN ?hT ?hk ?hd ?hu ?hr ?he
  case hle => rw [List.length_drop]; omega
  case hB => exact B
  case hF => assumption
  case hX => exact X
  case hN => assumption
  case hT => exact T
  case hk => exact rfl
  case hd => omega
  case hu => omega
  case hr => exact fun v own h' tk a1 a2 a3 a4 => hret v own h' tk a1 a2 a3 a4
  case he => exact fun e g' h' tk a1 a2 a3 a4 => hexc e g' h' tk a1 a2 a3 a4
theorem lamB (w : World) {f c1 c2 : Addr} {ccd : Value} {o1 o2 : Obj} {d : Array UInt8} {ks : List Int} {t1 t2 : Tok} {pl : Int} {qual : PySem.Str} {news : List (Addr × Obj)} (h1 : (c1, o1) ∈ news) (d1 : o1.data = .cell (some (.bytes d t1))) (h2 : (c2, o2) ∈ news) (d2 : o2.data = .cell (some (.int pl t2)))
    (hks : KBw.bInts d = ks) (hlen : ks.length ≤ 4096) (hpl : 0 ≤ pl) :
    EvalC w lam2.1.1 qual lam2.1.2 f ccd [(PySem.Str.ofString "place", c2), (PySem.Str.ofString "data", c1)] (fun y => List.lookup y []) news 22 (PeekPost (ks.drop pl.toNat)) (ppL 11 (ks.drop pl.toNat) = none) := by
  unfold EvalC
  intro pv9 loose mean mg mb dp un gd outer A₀ base h₀ L s Q E B F X N T hdp hun hret hexc
  dsimp only [lam2]
  repeat' (first | (k_unfold; (try dsimp only)) | (k_end; wrow_close) | (dsimp only; walk1) | walk1 | (leave1; try dsimp only) | fail "no step")
  walk_at "my nmK"
  repeat' (first | (k_unfold; (try dsimp only)) | (k_end; wrow_close) | (dsimp only; walk1) | walk1 | (leave1; try dsimp only) | fail "no step")
  walk_at "my nmF"
  repeat' (first | (k_unfold; (try dsimp only)) | (k_end; wrow_close) | (dsimp only; walk1) | walk1 | (leave1; try dsimp only) | fail "no step")
  walk_at "my nmF"
  repeat' (first | (k_unfold; (try dsimp only)) | (k_end; wrow_close) | (dsimp only; walk1) | walk1 | (leave1; try dsimp only) | fail "no step")
  refine Cut.a ?_
  rename KBw.bInts (KBy.picked d (some pl) none) = _ => hpk
  rw [clip_drop hpl] at hpk
  refine' peek_ctc w news _ _ _ hpk ?hle ?hB ?hF ?hX ?hN ?hT ?hk ?hd ?hu ?hr ?he
  case hle => rw [List.length_drop]; omega
  case hB => exact B
  case hF => assumption
  case hX => exact X
  case hN => assumption
  case hT => exact T
  case hk => exact rfl
  case hd => omega
  case hu => omega
  case hr => exact fun v own h' tk a1 a2 a3 a4 => hret v own h' tk a1 a2 a3 a4
  case he => exact fun e g' h' tk a1 a2 a3 a4 => hexc e g' h' tk a1 a2 a3 a4
theorem lamD (w : World) {f c1 c2 : Addr} {ccd : Value} {o1 o2 : Obj} {d : Array UInt8} {ks : List Int} {t1 t2 : Tok} {pl : Int} {qual : PySem.Str} {news : List (Addr × Obj)} (h1 : (c1, o1) ∈ news) (d1 : o1.data = .cell (some (.bytes d t1))) (h2 : (c2, o2) ∈ news) (d2 : o2.data = .cell (some (.int pl t2)))
    (hks : KBw.bInts d = ks) (hlen : ks.length ≤ 4096) (hpl : 0 ≤ pl) :
    EvalC w lam4.1.1 qual lam4.1.2 f ccd [(PySem.Str.ofString "short", c2), (PySem.Str.ofString "piece", c1)] (fun y => List.lookup y []) news 22 (PeekPost (ks.take pl.toNat)) (ppL 11 (ks.take pl.toNat) = none) := by
  unfold EvalC
  intro pv9 loose mean mg mb dp un gd outer A₀ base h₀ L s Q E B F X N T hdp hun hret hexc
  dsimp only [lam4]
  repeat' (first | (k_unfold; (try dsimp only)) | (k_end; wrow_close) | (dsimp only; walk1) | walk1 | (leave1; try dsimp only) | fail "no step")
  walk_at "my nmK"
  repeat' (first | (k_unfold; (try dsimp only)) | (k_end; wrow_close) | (dsimp only; walk1) | walk1 | (leave1; try dsimp only) | fail "no step")
  walk_at "my nmF"
  repeat' (first | (k_unfold; (try dsimp only)) | (k_end; wrow_close) | (dsimp only; walk1) | walk1 | (leave1; try dsimp only) | fail "no step")
  walk_at "my nmF"
  repeat' (first | (k_unfold; (try dsimp only)) | (k_end; wrow_close) | (dsimp only; walk1) | walk1 | (leave1; try dsimp only) | fail "no step")
  refine Cut.a ?_
  rename KBw.bInts (KBy.picked d none (some pl)) = _ => hpk
  rw [clip_take hpl] at hpk
  refine' peek_ctc w news _ _ _ hpk ?hle ?hB ?hF ?hX ?hN ?hT ?hk ?hd ?hu ?hr ?he
  case hle => rw [List.length_take]; omega
  case hB => exact B
  case hF => assumption
  case hX => exact X
  case hN => assumption
  case hT => exact T
  case hk => exact rfl
  case hd => omega
  case hu => omega
  case hr => exact fun v own h' tk a1 a2 a3 a4 => hret v own h' tk a1 a2 a3 a4
  case he => exact fun e g' h' tk a1 a2 a3 a4 => hexc e g' h' tk a1 a2 a3 a4
theorem lamE (w : World) {f c1 c2 : Addr} {ccd : Value} {o1 o2 : Obj} {d : Array UInt8} {ks : List Int} {t1 t2 : Tok} {pl : Int} {qual : PySem.Str} {news : List (Addr × Obj)} (h1 : (c1, o1) ∈ news) (d1 : o1.data = .cell (some (.bytes d t1))) (h2 : (c2, o2) ∈ news) (d2 : o2.data = .cell (some (.int pl t2)))
    (hks : KBw.bInts d = ks) (hlen : ks.length ≤ 4096) (hpl : 0 ≤ pl) :
    EvalC w lam5.1.1 qual lam5.1.2 f ccd [(PySem.Str.ofString "short", c2), (PySem.Str.ofString "piece", c1)] (fun y => List.lookup y []) news 22 (ParsePost (d.toList.take pl.toNat).toArray (ks.take pl.toNat) false) (ParseFails (ks.take pl.toNat) false) := by
  unfold EvalC
  intro pv9 loose mean mg mb dp un gd outer A₀ base h₀ L s Q E B F X N T hdp hun hret hexc
  dsimp only [lam5]
  repeat' (first | (k_unfold; (try dsimp only)) | (k_end; wrow_close) | (dsimp only; walk1) | walk1 | (leave1; try dsimp only) | fail "no step")
  walk_at "my nmK"
  repeat' (first | (k_unfold; (try dsimp only)) | (k_end; wrow_close) | (dsimp only; walk1) | walk1 | (leave1; try dsimp only) | fail "no step")
  walk_at "my nmF"
  repeat' (first | (k_unfold; (try dsimp only)) | (k_end; wrow_close) | (dsimp only; walk1) | walk1 | (leave1; try dsimp only) | fail "no step")
  walk_at "my nmF"
  repeat' (first | (k_unfold; (try dsimp only)) | (k_end; wrow_close) | (dsimp only; walk1) | walk1 | (leave1; try dsimp only) | fail "no step")
  refine Cut.a ?_
  rename KBw.bInts (KBy.picked d none (some pl)) = _ => hpk
  rw [clip_take hpl] at hpk
  have hbd : KBw.bInts (d.toList.take pl.toNat).toArray = ks.take pl.toNat := by rw [bInts_takeA, hks]
  have hpe : KBy.picked d none (some pl) = (d.toList.take pl.toNat).toArray := bInts_inj (hpk.trans hbd.symm)
  rw [hpe]
  refine' parse_ctc0 w news _ _ _ hbd ?hle ?hB ?hF ?hX ?hN ?hT ?hk ?hd ?hu ?hr ?he
  case hle => rw [List.length_take]; omega
  case hB => exact B
  case hF => assumption
  case hX => exact X
  case hN => assumption
  case hT => exact T
  case hk => exact rfl
  case hd => omega
  case hu => omega
  case hr => exact fun v own h' tk a1 a2 a3 a4 => hret v own h' tk a1 a2 a3 a4
  case he => exact fun e g' h' tk a1 a2 a3 a4 => hexc e g' h' tk a1 a2 a3 a4
theorem lamC (w : World) {f c1 c2 : Addr} {ccd : Value} {o1 o2 : Obj} {d e : Array UInt8} {ks ls : List Int} {t1 t2 : Tok} {qual : PySem.Str} {news : List (Addr × Obj)} (h1 : (c1, o1) ∈ news) (d1 : o1.data = .cell (some (.bytes d t1))) (h2 : (c2, o2) ∈ news) (d2 : o2.data = .cell (some (.bytes e t2)))
    (hks : KBw.bInts d = ks) (hls : KBw.bInts e = ls) (hlen : ks.length ≤ 1000) (hlen2 : ls.length ≤ 1000) :
    EvalC w lam3.1.1 qual lam3.1.2 f ccd [(PySem.Str.ofString "tail", c2), (PySem.Str.ofString "piece", c1)] (fun y => List.lookup y []) news 22 (ParsePost (d ++ e) (ks ++ ls) true) (ParseFails (ks ++ ls) true) := by
  unfold EvalC
  intro pv9 loose mean mg mb dp un gd outer A₀ base h₀ L s Q E B F X N T hdp hun hret hexc
  dsimp only [lam3]
  repeat' (first | (k_unfold; (try dsimp only)) | (k_end; wrow_close) | (dsimp only; walk1) | walk1 | (leave1; try dsimp only) | fail "no step")
  walk_at "my nmK"
  repeat' (first | (k_unfold; (try dsimp only)) | (k_end; wrow_close) | (dsimp only; walk1) | walk1 | (leave1; try dsimp only) | fail "no step")
  walk_at "my nmF"
  repeat' (first | (k_unfold; (try dsimp only)) | (k_end; wrow_close) | (dsimp only; walk1) | walk1 | (leave1; try dsimp only) | fail "no step")
  walk_at "my nmF"
  repeat' (first | (k_unfold; (try dsimp only)) | (k_end; wrow_close) | (dsimp only; walk1) | walk1 | (leave1; try dsimp only) | fail "no step")
  refine Cut.a ?_
  rename KBw.bInts (d ++ e) = _ => hap
  refine' parse_ctc1 w news _ _ _ hap ?hle ?hB ?hF ?hX ?hN ?hT ?hk ?hd ?hu ?hr ?he
  case hle => rw [List.length_append]; omega
  case hB => exact B
  case hF => assumption
  case hX => exact X
  case hN => assumption
  case hT => exact T
  case hk => exact rfl
  case hd => omega
  case hu => omega
  case hr => exact fun v own h' tk a1 a2 a3 a4 => hret v own h' tk a1 a2 a3 a4
  case he => exact fun e g' h' tk a1 a2 a3 a4 => hexc e g' h' tk a1 a2 a3 a4
end Mine
-- part L1a
open PySem PySem.W PyProof.Rows
namespace Mine
theorem woff_L1a : True := by
  w_top off
  trivial
theorem fillxL1 : (∃ x : OpenLaw, x = PySem.Challenge.rw_jg0015_01) ∧ (∃ k : Params → Frag, k = hd.heap_39) := by
  k_fill
  exact ⟨⟨_, rfl⟩, ⟨_, rfl⟩⟩
noncomputable def octBody : { b : List Stmt // ∃ x i o p, lawR.1.body[1]? = some (.For x i b o p) } := ⟨_, _, _, _, _, rfl⟩
local macro_rules | `(tactic| k_all) => `(tactic| assumption)
theorem often_in (i : Nat) : 0 ≤ ([0, 0, 48, 128, 36, 128, 4, 1, 2, 129, 130, 31, 63, 160, 191, 127, 3, 5, 255, 32] : List Int).getD i 0 ∧ ([0, 0, 48, 128, 36, 128, 4, 1, 2, 129, 130, 31, 63, 160, 191, 127, 3, 5, 255, 32] : List Int).getD i 0 < 256 := by
  rcases Nat.lt_or_ge i 20 with h | h
  · have : ∀ j : Fin 20, 0 ≤ ([0, 0, 48, 128, 36, 128, 4, 1, 2, 129, 130, 31, 63, 160, 191, 127, 3, 5, 255, 32] : List Int).getD j.val 0 ∧ ([0, 0, 48, 128, 36, 128, 4, 1, 2, 129, 130, 31, 63, 160, 191, 127, 3, 5, 255, 32] : List Int).getD j.val 0 < 256 := by decide
    exact this ⟨i, h⟩
  · rw [List.getD_eq_getElem?_getD, List.getElem?_eq_none (by simpa using h)]
    decide
theorem octTurn (w : World) {loose : List PySem.Str} {mean : ExcName → Option Value} {mg mb : PySem.Str → Option Value} {h₀ : Heap} {L fa sl O : Addr} {ws : List Value} {os : List Int} {n0 : Nat} {num : Int} {t : Tok} {s : Shared} {rest : List (Addr × Obj)}
   {Q : Flow → Shared → Prop}
  (B : Below callerA h₀ [] h₀) (F : Fr h₀ L s.heap (look [(PySem.Str.ofString "number", some (.int num t)), (PySem.Str.ofString "octets", some (.ref O)), (PySem.Str.ofString "script", some (.ref sl))])) (X : (hd.heap_39 w.params).In h₀) (T : Top topProg loose mean mg mb h₀)
  (N : News h₀ L s.heap ((O, PySem.W.listOf ws.toArray n0) :: rest)) (hrest : ∀ p ∈ rest, p.1 ≠ O) (hw : ws.length ≤ 100) (hi : IntsAre ws os)
  (hret : ∀ (v : Int) u h' tk n', 0 ≤ v → v < 256 → Fr h₀ L h' (look [(PySem.Str.ofString "number", some (.int num t)), (PySem.Str.ofString "octets", some (.ref O)), (PySem.Str.ofString "script", some (.ref sl))]) → News h₀ L h' ((O, PySem.W.listOf (ws ++ [Value.int v u]).toArray n') :: rest) → Q .next { s with heap := h', toks := tk }) :
   wpAny (model PySem.Challenge.rw_jg0015_01.row.prog w) (callerA.deeper (envOfC lawR.1.name lawR.1.scope L fa (.ref 99))) (execs octBody.1 (envOfC lawR.1.name lawR.1.scope L fa (.ref 99))) Q (fun _ _ => False) s := by
  dsimp only [lawR, octBody]
  (try k_fold)
  repeat' (first | (k_unfold; (try dsimp only)) | (k_end; wrow_close) | (dsimp only; walk1) | walk1 | (leave1; try dsimp only) | fail "no step")
  · rename News h₀ L _ _ => N9
    rename Fr h₀ L _ _ => F9
    rw [List.push_toArray] at N9
    exact hret _ _ _ _ _ (Int.fmod_nonneg_of_pos _ (by decide)) (Int.fmod_lt_of_pos _ (by decide)) F9 N9
  · rename News h₀ L _ _ => N9
    rename Fr h₀ L _ _ => F9
    rw [List.push_toArray] at N9
    exact hret _ _ _ _ _ (often_in _).1 (often_in _).2 F9 (cb_drop N9 fun _ h => .tail _ h)
end Mine
-- part L1
open PySem PySem.W PyProof.Rows
namespace Mine
theorem woff_L1 : True := by
  w_top off
  trivial
theorem fillxL2 : (∃ x : OpenLaw, x = PySem.Challenge.rw_jg0015_01) ∧ (∃ k : Params → Frag, k = hd.heap_39) := by
  k_fill
  exact ⟨⟨_, rfl⟩, ⟨_, rfl⟩⟩
local macro_rules | `(tactic| walk_at "pyIter ref") => `(tactic| (refine Cut.out ?_))
local macro_rules | `(tactic| walk_at "subscriptTail Name Slice ref ref") => `(tactic| ((with_reducible show wpAny _ _ (subscriptTail _ (PySem.Expr.Slice (some (PySem.Expr.Call _ _ _ _)) none none _) (Value.ref _) (Value.ref _)) _ _ _); refine Cut.out ?_))
local macro_rules | `(tactic| walk_at "exec For Name BinOp") => `(tactic| ((rename Fr _ _ _ _ => lF'); (with_unfolding_all refine' For_invVF lF' ?fk1 ?fk2 ?_; (case fk1 => exact rfl); (case fk2 => exact rfl); k_whole)))
theorem octLoop (w : World) {loose : List PySem.Str} {mean : ExcName → Option Value} {mg mb : PySem.Str → Option Value} {h₀ : Heap} {L fa sl Y O : Addr} {ys : List Value} {ns : List Int} {s : Shared} {news : List (Addr × Obj)}
   {Q : Flow → Shared → Prop}
  (B : Below callerA h₀ [] h₀) (F : Fr h₀ L s.heap (look [(PySem.Str.ofString "octets", some (.ref O)), (PySem.Str.ofString "script", some (.ref sl))])) (X : (hd.heap_39 w.params).In h₀) (T : Top topProg loose mean mg mb h₀)
  (N : News h₀ L s.heap ((Y, PySem.W.listOf ys.toArray 0) :: (O, PySem.W.listOf #[] 0) :: news)) (hYO : O < Y) (hlo : ∀ p ∈ news, p.1 < O) (hI : IntsAre ys ns) (h24 : ns.length ≤ 24)
  (hret : ∀ ws os n nv h' tk, Fr h₀ L h' (look [(PySem.Str.ofString "number", nv), (PySem.Str.ofString "octets", some (.ref O)), (PySem.Str.ofString "script", some (.ref sl))]) → News h₀ L h' ((O, PySem.W.listOf (List.toArray ws) n) :: news) → IntsAre ws os → os.length ≤ 24 → (∀ o ∈ os, 0 ≤ o ∧ o < 256) → Q .next { s with heap := h', toks := tk }) :
   wpAny (model PySem.Challenge.rw_jg0015_01.row.prog w) (callerA.deeper (envOfC lawR.1.name lawR.1.scope L fa (.ref 99))) (pyIter (.ref Y)) (fun it s₂ => LoopAtV PySem.Challenge.rw_jg0015_01.row.prog w (callerA.deeper (envOfC lawR.1.name lawR.1.scope L fa (.ref 99))) h₀ (envOfC lawR.1.name lawR.1.scope L fa (.ref 99)) (PySem.Str.ofString "number") octBody.1 Q (fun _ _ => False) it s₂) (fun _ _ => False) s := by
  refine iter_invNL (fun i m nx => ∃ ws os n, nx = (Y, PySem.W.listOf ys.toArray 0) :: (O, PySem.W.listOf (List.toArray ws) n) :: news ∧ IntsAre ws os ∧ os.length = i ∧ (∀ o ∈ os, 0 ≤ o ∧ o < 256) ∧ ∀ z, z ≠ PySem.Str.ofString "number" → m z = look [(PySem.Str.ofString "octets", some (.ref O)), (PySem.Str.ofString "script", some (.ref sl))] z) rfl (.head _) hI F N ⟨[], [], 0, rfl, .nil, rfl, (fun _ h => nomatch h), fun z _ => rfl⟩ ?_ ?_
  · intro i n t m₁ news₁ h tk1 own hn hadr hoff hYm ⟨ws, os, n1, he, hI, hL, hR, hm⟩ F₁ N₁
    subst he
    have hi24 := (List.getElem?_eq_some_iff.mp hn).1
    refine octTurn w (sl := sl) (O := O) (ws := ws) (os := os) (num := n) (t := t) (n0 := n1) (rest := (Y, PySem.W.listOf ys.toArray 0) :: (news ++ own)) B (Fr.congr F₁ fun y => ?fr) X T (cb_drop N₁ ?nd) ?hr (by rw [hI.length, hL]; omega) hI ?ret
    case fr =>
      show (if y = PySem.Str.ofString "number" then some (Value.int n t) else m₁ y) = _
      by_cases hy : y = PySem.Str.ofString "number"
      · rw [if_pos hy]
        simp only [look]
        rw [if_pos hy]
      · rw [if_neg hy, hm y hy]
        simp only [look]
        rw [if_neg hy]
    case nd =>
      intro p hp
      rcases List.mem_cons.mp hp with rfl | hp
      · exact .tail _ (.head _)
      · rcases List.mem_cons.mp hp with rfl | hp
        · exact .head _
        · exact .tail _ (.tail _ hp)
    case hr =>
      intro p hp
      rcases List.mem_cons.mp hp with rfl | hp
      · exact Nat.ne_of_gt hYO
      · rcases List.mem_append.mp hp with hp | hp
        · exact Nat.ne_of_lt (hlo p hp)
        · exact hoff p hp _ (.tail _ (.head _))
    case ret =>
      intro v u h2 tk2 n2 h0 h256 F2 N2
      refine ⟨h2, tk2, _, _, (Y, PySem.W.listOf ys.toArray 0) :: (O, PySem.W.listOf (List.toArray (ws ++ [Value.int v u])) n2) :: news, rfl, F2, N2, ?s1, ?s2, rfl, .head _, ws ++ [Value.int v u], os ++ [v], n2, rfl, IntsAre.append hI (IntsAre.cons _ _ IntsAre.nil), ?s3, ?s4, ?s5⟩
      case s1 =>
        intro p hp
        rcases List.mem_cons.mp hp with rfl | hp
        · exact .tail _ (.head _)
        · rcases List.mem_cons.mp hp with rfl | hp
          · exact .head _
          · exact .tail _ (.tail _ (List.mem_append_left _ hp))
      case s2 => exact fun p hp => .tail _ (.tail _ (List.mem_append_right _ hp))
      case s3 => rw [List.length_append, hL]; rfl
      case s4 =>
        intro o ho
        rcases List.mem_append.mp ho with ho | ho
        · exact hR o ho
        · rw [List.mem_singleton.mp ho]
          exact ⟨h0, h256⟩
      case s5 =>
        intro z hz
        simp only [look, if_neg hz]
  · intro m₁ news₁ h tk1 hYm ⟨ws, os, n1, he, hI, hL, hR, hm⟩ F₁ N₁
    subst he
    refine hret ws os n1 (m₁ (PySem.Str.ofString "number")) h tk1 (Fr.congr F₁ fun y => ?_) (cb_drop N₁ fun _ hp => .tail _ hp) hI (by omega) hR
    by_cases hy : y = PySem.Str.ofString "number"
    · subst hy
      simp only [look, if_true]
    · rw [hm y hy]
      simp only [look]
      rw [if_neg hy]
theorem segA1 (w : World) {loose : List PySem.Str} {mean : ExcName → Option Value} {mg mb : PySem.Str → Option Value} {h₀ : Heap} {L fa sl : Addr} {vs : List Value} {scr : List Int} {s : Shared} {news : List (Addr × Obj)}
   {Q : Flow → Shared → Prop}
  (B : Below callerA h₀ [] h₀) (F : Fr h₀ L s.heap (look [(PySem.Str.ofString "script", some (.ref sl))])) (X : (hd.heap_39 w.params).In h₀) (T : Top topProg loose mean mg mb h₀) (N : News h₀ L s.heap news) (hl : h₀.IsList sl vs.toArray) (hi : IntsAre vs scr) (hlen : scr.length ≤ 63)
  (hret : ∀ O ws os n nv h' tk, Fr h₀ L h' (look [(PySem.Str.ofString "number", nv), (PySem.Str.ofString "octets", some (.ref O)), (PySem.Str.ofString "script", some (.ref sl))]) → News h₀ L h' ((O, PySem.W.listOf (List.toArray ws) n) :: news) → (∀ p ∈ news, p.1 < O) → IntsAre ws os → os.length ≤ 24 → (∀ o ∈ os, 0 ≤ o ∧ o < 256) → Q .next { s with heap := h', toks := tk }) :
   wpAny (model PySem.Challenge.rw_jg0015_01.row.prog w) (callerA.deeper (envOfC lawR.1.name lawR.1.scope L fa (.ref 99))) (execs (lawR.1.body.take 2) (envOfC lawR.1.name lawR.1.scope L fa (.ref 99))) Q (fun _ _ => False) s := by
  dsimp only [lawR, List.take]
  (try k_fold)
  repeat' (first | (k_unfold; (try dsimp only)) | (k_end; wrow_close) | (dsimp only; walk1) | walk1 | (leave1; try dsimp only) | fail "no step")
  rename News h₀ L _ _ => N9
  have hX9 := lit_ints [18, 21, 0, 12, 9, 0, 0, 24, 21, 5] N9 (by repeat constructor)
  refine Cut.a ?_
  refine' kmk_slice_ints (s := ⟨_, _, _, _, _⟩) ?zF ?zN ?zl ?zp ?zq hX9 ?zm ?zc ?_ ?zs ?zt ?zz
  case zF => k_asm
  case zN => k_asm
  case zl => kmk_list
  case zp => kmk_part
  case zq => kmk_part
  case zm => exact kmk_from hX9 (by split <;> omega)
  case zc => exact List.length_drop ..
  case zs => with_unfolding_all rfl
  case zt => kmk_pure
  case zz => kmk_size
  intro D' ws' h' F' N' l1 hI' hC' hL'
  (try k_lt l1)
  (try k_sweep)
  repeat' (first | (k_unfold; (try dsimp only)) | (k_end; wrow_close) | (dsimp only; walk1) | walk1 | (leave1; try dsimp only) | fail "no step")
  refine Cut.a ?_
  rename IntsAre _ (List.take 24 scr ++ _) => hI8
  clear hI' hX9
  rename News h₀ L _ _ => N8
  rename Fr h₀ L _ _ => F8
  have N7 := cb_drop (news := _ :: _ :: news) N8 (fun p hp => by
    rcases List.mem_cons.mp hp with rfl | hp
    · exact .head _
    · rcases List.mem_cons.mp hp with rfl | hp
      · exact .tail _ (.tail _ (.tail _ (.tail _ (.head _))))
      · exact .tail _ (.tail _ (.tail _ (.tail _ (.tail _ hp)))))
  clear N8
  rename ∀ p ∈ news, p.1 < _ => hlo
  have h24 : (List.take 24 scr ++ List.drop (if (10 : Int) < (scr.length : Int) then (10 : Int) else (scr.length : Int)).toNat ([18, 21, 0, 12, 9, 0, 0, 24, 21, 5] : List Int)).length ≤ 24 := by
    rw [List.length_append, List.length_take, List.length_drop]
    show min 24 scr.length + (10 - _) ≤ 24
    split <;> omega
  rename _ ∧ _ ∧ _ ∧ _ ∧ AllLt _ news => hYO
  refine octLoop w (fa := fa) B F8 X T N7 hYO.2.2.2.1 hlo hI8 h24 ?_
  intro ws os n nv h' tk F9 N9 hI9 hL9 hR9
  dsimp only
  repeat' (first | (k_unfold; (try dsimp only)) | (k_end; wrow_close) | (dsimp only; walk1) | walk1 | (leave1; try dsimp only) | fail "no step")
  exact hret _ _ _ _ _ _ _ F9 N9 hlo hI9 hL9 hR9
end Mine
-- part L2
open PySem PySem.W PyProof.Rows
namespace Mine
theorem woff_L2 : True := by
  w_top off
  trivial
theorem fillxL3 : (∃ x : OpenLaw, x = PySem.Challenge.rw_jg0015_01) ∧ (∃ k : Params → Frag, k = hd.heap_39) := by
  k_fill
  exact ⟨⟨_, rfl⟩, ⟨_, rfl⟩⟩
theorem tail_in (l : List Int) : KBa.In (List.map (fun k' => Int.fmod k' 256) l ++ [0, 5]) := by
  intro n hn
  rcases List.mem_append.mp hn with h | h
  · obtain ⟨a, _, rfl⟩ := List.mem_map.mp h
    exact ⟨Int.fmod_nonneg_of_pos _ (by decide), Int.fmod_lt_of_pos _ (by decide)⟩
  · simp only [List.mem_cons, List.not_mem_nil, or_false] at h
    omega
theorem segA2 (w : World) {loose : List PySem.Str} {mean : ExcName → Option Value} {mg mb : PySem.Str → Option Value} {h₀ : Heap} {L fa sl O : Nat} {vs ws : List Value} {scr os : List Int} {n0 : Nat} {nv : Option Value} {s : Shared} {od oc op osh ot ox : Obj}
   {Q : Flow → Shared → Prop}
  (B : Below callerA h₀ [] h₀) (F : Fr h₀ L s.heap (look [(PySem.Str.ofString "number", nv), (PySem.Str.ofString "octets", some (.ref O)), (PySem.Str.ofString "script", some (.ref sl))])) (X : (hd.heap_39 w.params).In h₀) (T : Top topProg loose mean mg mb h₀)
  (N : News h₀ L s.heap [(O, PySem.W.listOf ws.toArray n0), (L + 1 + 1 + 1 + 1 + 1, ot), (L + 1 + 1 + 1 + 1, osh), (L + 1 + 1 + 1, op), (L + 1 + 1, oc), (L + 1, od), (97, ox)]) (hO : L + 1 + 1 + 1 + 1 + 1 < O) (h97 : 97 < L)
  (dt : ot.data = .cell none) (dsh : osh.data = .cell none) (dp : op.data = .cell none) (dc : oc.data = .cell none) (dd : od.data = .cell none)
  (hl : h₀.IsList sl vs.toArray) (hi : IntsAre vs scr) (hlen : scr.length ≤ 63) (hw : IntsAre ws os) (hol : os.length ≤ 24) (hR : KBa.In os)
  (hret : ∀ (P : Nat) o1 o3 o5 t1 t2 t3 h' tk, o1.data = .cell (some (.bytes (byteArr os) t1)) → o3.data = .cell (some (.int 0 t2)) → o5.data = .cell (some (.bytes (byteArr (List.map (fun k' => Int.fmod k' 256) (List.take 3 scr) ++ [0, 5])) t3)) →
    Fr h₀ L h' (look [(PySem.Str.ofString "pieces", some (.ref P)), (PySem.Str.ofString "number", nv), (PySem.Str.ofString "octets", some (.ref O)), (PySem.Str.ofString "script", some (.ref sl))]) →
    News h₀ L h' [(P, PySem.W.listOf #[] 0), (L + 1 + 1 + 1 + 1 + 1, o5), (L + 1 + 1 + 1 + 1, osh), (L + 1 + 1 + 1, o3), (L + 1 + 1, oc), (L + 1, o1), (97, ox)] → L + 1 + 1 + 1 + 1 + 1 < P → Q .next { s with heap := h', toks := tk }) :
   wpAny (model PySem.Challenge.rw_jg0015_01.row.prog w) (callerA.deeper (envOfC lawR.1.name lawR.1.scope L fa (.ref 99))) (execs ((lawR.1.body.drop 2).take 4) (envOfC lawR.1.name lawR.1.scope L fa (.ref 99))) Q (fun _ _ => False) s := by
  have hT3 := tail_in (List.take 3 scr)
  dsimp only [lawR, List.take, List.drop]
  (try k_fold)
  repeat' (first | (k_unfold; (try dsimp only)) | (k_end; wrow_close) | (dsimp only; walk1) | walk1 | (leave1; try dsimp only) | fail "no step")
  rename News h₀ L _ _ => N9
  rename Fr h₀ L _ _ => F9
  rename _ ∧ _ ∧ _ ∧ _ ∧ _ ∧ _ ∧ _ ∧ _ ∧ _ ∧ _ ∧ _ => l9
  refine' hret _ _ _ _ _ _ _ _ _ ?ha ?hb ?hc F9 (drop5 N9) (by omega)
  case ha => assumption
  case hb => assumption
  case hc => assumption
end Mine
-- part L3
open PySem PySem.W PyProof.Rows
namespace Mine
theorem woff_L3 : True := by
  w_top off
  trivial
theorem fillxL4 : (∃ x : OpenLaw, x = PySem.Challenge.rw_jg0015_01) ∧ (∃ k : Params → Frag, k = hd.heap_39) := by
  k_fill
  exact ⟨⟨_, rfl⟩, ⟨_, rfl⟩⟩
noncomputable abbrev qLam : PySem.Str := PySem.Str.ofString "law.<locals>.<lambda>"
noncomputable abbrev lawF (iv sv : Option Value) (P : Nat) (nv : Option Value) (O sl : Nat) : PySem.Str → Option Value := look [(PySem.Str.ofString "info", iv), (PySem.Str.ofString "size", sv), (PySem.Str.ofString "pieces", some (.ref P)), (PySem.Str.ofString "number", nv), (PySem.Str.ofString "octets", some (.ref O)), (PySem.Str.ofString "script", some (.ref sl))]
noncomputable abbrev lawPre (L P : Nat) (pcv : List Value) (n : Nat) (o5 o4 o3 o2 o1 : Obj) : List (Addr × Obj) := [(P, PySem.W.listOf pcv.toArray n), (L + 1 + 1 + 1 + 1 + 1, o5), (L + 1 + 1 + 1 + 1, o4), (L + 1 + 1 + 1, o3), (L + 1 + 1, o2), (L + 1, o1)]
local macro_rules | `(tactic| walk_at "eval Call") => `(tactic| ((with_reducible show wpAny _ _ (eval (PySem.Expr.Call (PySem.Expr.Name _ _) [PySem.Expr.Lambda _ _ _ _] [] _) _) _ _ _); refine Cut.out ?_))
theorem pre_ne97 {L P : Nat} {pcv : List Value} {n : Nat} {o5 o4 o3 o2 o1 : Obj} (h97 : 97 < L) (hP : L + 1 + 1 + 1 + 1 + 1 < P) : ∀ q ∈ lawPre L P pcv n o5 o4 o3 o2 o1, q.1 ≠ 97 := by
  intro q hq
  simp only [List.mem_cons, List.not_mem_nil, or_false] at hq
  rcases hq with rfl | rfl | rfl | rfl | rfl | rfl <;> exact Nat.ne_of_gt (by omega)
theorem pre1 {x : Addr × Obj} {L P : Nat} {pcv : List Value} {n : Nat} {o5 o4 o3 o2 o1 : Obj} {r : List (Addr × Obj)} : (L + 1, o1) ∈ x :: (lawPre L P pcv n o5 o4 o3 o2 o1 ++ r) := .tail _ (List.mem_append_left _ (.tail _ (.tail _ (.tail _ (.tail _ (.tail _ (.head _)))))))
theorem pre2 {x : Addr × Obj} {L P : Nat} {pcv : List Value} {n : Nat} {o5 o4 o3 o2 o1 : Obj} {r : List (Addr × Obj)} : (L + 1 + 1, o2) ∈ x :: (lawPre L P pcv n o5 o4 o3 o2 o1 ++ r) := .tail _ (List.mem_append_left _ (.tail _ (.tail _ (.tail _ (.tail _ (.head _))))))
theorem pre3 {x : Addr × Obj} {L P : Nat} {pcv : List Value} {n : Nat} {o5 o4 o3 o2 o1 : Obj} {r : List (Addr × Obj)} : (L + 1 + 1 + 1, o3) ∈ x :: (lawPre L P pcv n o5 o4 o3 o2 o1 ++ r) := .tail _ (List.mem_append_left _ (.tail _ (.tail _ (.tail _ (.head _)))))
theorem pre4 {x : Addr × Obj} {L P : Nat} {pcv : List Value} {n : Nat} {o5 o4 o3 o2 o1 : Obj} {r : List (Addr × Obj)} : (L + 1 + 1 + 1 + 1, o4) ∈ x :: (lawPre L P pcv n o5 o4 o3 o2 o1 ++ r) := .tail _ (List.mem_append_left _ (.tail _ (.tail _ (.head _))))
theorem pre5 {x : Addr × Obj} {L P : Nat} {pcv : List Value} {n : Nat} {o5 o4 o3 o2 o1 : Obj} {r : List (Addr × Obj)} : (L + 1 + 1 + 1 + 1 + 1, o5) ∈ x :: (lawPre L P pcv n o5 o4 o3 o2 o1 ++ r) := .tail _ (List.mem_append_left _ (.tail _ (.head _)))
theorem segW1 (w : World) {mean : ExcName → Option Value} {mg mb : PySem.Str → Option Value} {h₀ : Heap} {L fa P : Nat} {m : PySem.Str → Option Value} {s : Shared} {pcv : List Value} {n : Nat} {o5 o4 o3 o2 o1 : Obj} {ps : Array Value} {codes : List (Addr × Obj)} {d : Array UInt8} {ks : List Int} {pl : Nat} {t1 t3 : Tok}
   {Q : Flow → Shared → Prop}
  (B : Below callerA h₀ [] h₀) (F : Fr h₀ L s.heap m) (X : (hd.heap_39 w.params).In h₀) (T : Top topProg looseG mean mg mb h₀) (C : CodeHd h₀ 99 97)
  (N : News h₀ L s.heap (lawPre L P pcv n o5 o4 o3 o2 o1 ++ (97, tabObj ps) :: codes)) (W : TabWf ps codes qLam) (hco : ∀ q ∈ codes, P < q.1) (h97 : 97 < L) (hP : L + 1 + 1 + 1 + 1 + 1 < P)
  (d1 : o1.data = .cell (some (.bytes d t1))) (d3 : o3.data = .cell (some (.int (pl : Int) t3))) (hks : KBw.bInts d = ks) (hlen : ks.length ≤ 24)
  (hret1 : ∀ r D ta tb tc td te tf n' ps' codes' h' tk, ppL 11 (ks.drop pl) = some r → Fr h₀ L h' (fun y => if y = PySem.Str.ofString "info" then some (.ref D) else m y) → News h₀ L h' ((D, infoO (d.toList.drop pl).toArray r ta tb tc td te tf n') :: (lawPre L P pcv n o5 o4 o3 o2 o1 ++ (97, tabObj ps') :: codes')) → TabWf ps' codes' qLam → (∀ q ∈ codes', P < q.1) → (∀ q ∈ (lawPre L P pcv n o5 o4 o3 o2 o1 ++ (97, tabObj ps') :: codes'), q.1 < D) → Q .next { s with heap := h', toks := tk })
  (hret2 : ∀ ps' codes' h' tk, Fr h₀ L h' (fun y => if y = PySem.Str.ofString "info" then some .none else m y) → News h₀ L h' (lawPre L P pcv n o5 o4 o3 o2 o1 ++ (97, tabObj ps') :: codes') → TabWf ps' codes' qLam → (∀ q ∈ codes', P < q.1) → Q .brk { s with heap := h', toks := tk }) :
   wpAny (model PySem.Challenge.rw_jg0015_01.row.prog w) (callerA.deeper (envOfC lawR.1.name lawR.1.scope L fa (.ref 99))) (execs (whBody.1.take 2) (envOfC lawR.1.name lawR.1.scope L fa (.ref 99))) Q (fun _ _ => False) s := by
  dsimp only [lawR, whBody, List.take]
  (try k_fold)
  repeat' (first | (k_unfold; (try dsimp only)) | (k_end; wrow_close) | (dsimp only; walk1) | walk1 | (leave1; try dsimp only) | fail "no step")
  refine Cut.a ?_
  refine' ans_eval w (M0 := P) (pre := lawPre L P pcv n o5 o4 o3 o2 o1) B F X T C N ?hpre ?hPM ?hM hco W ?hcl ?hc1 ?hc2 ?hc3 ?hc4 ?hdn (fun f c' ctv ps' codes' => lamA w (c1 := L + 1) (c2 := L + 1 + 1 + 1) (o1 := o1) (o2 := o3) pre1 d1 pre3 d3 hks (by omega) (Int.natCast_nonneg pl)) ?hret
  ( (case hpre => exact pre_ne97 (by omega) (by omega)); (case hPM => omega); (case hM => exact ⟨_, .head _⟩); (case hcl => exact rfl); (case hc1 => exact rfl); (case hc2 => exact rfl); (case hc3 => exact rfl); (case hc4 => decide); (case hdn => decide))
  case hret =>
    intro v own ps' codes' h' tk hp F' N' W' hco' l1
    rcases hp with ⟨r, D, ta, tb, tc, td, te, tf, n', hr, _, rfl, rfl⟩ | ⟨rfl, rfl, hF⟩
    · (try dsimp only)
      (try k_fold)
      repeat' (first | (k_unfold; (try dsimp only)) | (k_end; wrow_close) | (dsimp only; walk1) | walk1 | (leave1; try dsimp only) | fail "no step")
      rename Fr h₀ L _ _ => F9
      rename News h₀ L _ _ => N9
      exact hret1 r D _ _ _ _ _ _ _ _ _ _ _ hr F9 N9 W' hco' (fun q hq => l1 q hq _ (.head _))
    · (try dsimp only)
      (try k_fold)
      repeat' (first | (k_unfold; (try dsimp only)) | (k_end; wrow_close) | (dsimp only; walk1) | walk1 | (leave1; try dsimp only) | fail "no step")
      refine Cut.a ?_
      rename Fr h₀ L _ _ => F9
      rename News h₀ L _ _ => N9
      refine' ans_eval w (M0 := P) (pre := lawPre L P pcv n o5 o4 o3 o2 o1) B F9 X T C N9 ?hpre ?hPM ?hM hco' W' ?hcl ?hc1 ?hc2 ?hc3 ?hc4 ?hdn (fun f c' ctv ps' codes' => lamB w (c1 := L + 1) (c2 := L + 1 + 1 + 1) (o1 := o1) (o2 := o3) pre1 d1 pre3 d3 hks (by omega) (Int.natCast_nonneg pl)) ?hret
      ( (case hpre => exact pre_ne97 (by omega) (by omega)); (case hPM => omega); (case hM => exact ⟨_, .head _⟩); (case hcl => exact rfl); (case hc1 => exact rfl); (case hc2 => exact rfl); (case hc3 => exact rfl); (case hc4 => decide); (case hdn => decide))
      case hret =>
        intro v own ps' codes' h' tk hp F' N' W' hco' l1
        rcases hp with ⟨rfl, r, t, hr, rfl⟩ | ⟨rfl, rfl, hF2⟩
        · exact absurd (hF r hr).1 (by decide)
        · (try dsimp only)
          (try k_fold)
          repeat' (first | (k_unfold; (try dsimp only)) | (k_end; wrow_close) | (dsimp only; walk1) | walk1 | (leave1; try dsimp only) | fail "no step")
          rename Fr h₀ L _ _ => F8
          rename News h₀ L _ _ => N8
          exact hret2 _ _ _ _ F8 N8 W' hco'
end Mine
-- part L4
open PySem PySem.W PyProof.Rows
namespace Mine
theorem woff_L4 : True := by
  w_top off
  trivial
theorem fillxL5 : (∃ x : OpenLaw, x = PySem.Challenge.rw_jg0015_01) ∧ (∃ k : Params → Frag, k = hd.heap_39) := by
  k_fill
  exact ⟨⟨_, rfl⟩, ⟨_, rfl⟩⟩
theorem codes_ne {codes : List (Addr × Obj)} {P c : Nat} (hco : ∀ q ∈ codes, P < q.1) (h : c ≤ P) : ∀ q ∈ codes, q.1 ≠ c := fun q hq => Nat.ne_of_gt (Nat.lt_of_le_of_lt h (hco q hq))
local macro_rules | `(tactic| k_all) => `(tactic| (refine' codes_ne ?kc1 ?kc2; (case kc1 => assumption); (case kc2 => omega)))
noncomputable abbrev infoV (i0 i1 i2 : Int) (a3 a4 a5 : Array UInt8) (ta tb tc td te tf : Tok) (n : Nat) : Obj := { cls := .type "tuple", data := .seq #[.int i0 ta, .int i1 tb, .int i2 tc, .bytes a3 td, .bytes a4 te, .bytes a5 tf] n }
theorem segW2 (w : World) {mean : ExcName → Option Value} {mg mb : PySem.Str → Option Value} {h₀ : Heap} {L fa P : Nat} {m : PySem.Str → Option Value} {s : Shared} {pcv : List Value} {n : Nat} {o5 o4 o3 o2 o1 : Obj} {v2 : Option Value} {ps : Array Value} {codes : List (Addr × Obj)} {d : Array UInt8} {ks : List Int} {pl : Nat} {t1 t3 : Tok}
   {D : Nat} {i0 i1 i2 : Int} {a3 a4 a5 : Array UInt8} {k3 k4 k5 : List Int} {ta tb tc td te tf : Tok} {n' : Nat} {Q : Flow → Shared → Prop}
  (B : Below callerA h₀ [] h₀) (F : Fr h₀ L s.heap (fun y => if y = PySem.Str.ofString "info" then some (.ref D) else m y)) (X : (hd.heap_39 w.params).In h₀) (T : Top topProg looseG mean mg mb h₀)
  (N : News h₀ L s.heap ((D, infoV i0 i1 i2 a3 a4 a5 ta tb tc td te tf n') :: (lawPre L P pcv n o5 o4 o3 o2 o1 ++ (97, tabObj ps) :: codes))) (hco : ∀ q ∈ codes, P < q.1) (h97 : 97 < L) (hP : L + 1 + 1 + 1 + 1 + 1 < P) (hD : P < D) (hco2 : ∀ q ∈ codes, q.1 < D)
  (d1 : o1.data = .cell (some (.bytes d t1))) (d2 : o2.data = .cell v2) (d3 : o3.data = .cell (some (.int (pl : Int) t3))) (hks : KBw.bInts d = ks) (hlen : ks.length ≤ 24) (hpl : pl ≤ ks.length)
  (h3 : KBw.bInts a3 = k3) (h4 : KBw.bInts a4 = k4) (h5 : KBw.bInts a5 = k5) (hsz : pl + (k3.length + k4.length + k5.length) ≤ ks.length)
  (hret : ∀ o2' tz tp ap h' tk, KBw.bInts ap = (ks.drop pl).take (k3.length + k4.length + k5.length) → o2'.data = .cell (some (.bytes ap tp)) →
    Fr h₀ L h' (fun y => if y = PySem.Str.ofString "size" then some (.int ((k3.length + k4.length + k5.length : Nat) : Int) tz) else if y = PySem.Str.ofString "info" then some (.ref D) else m y) →
    News h₀ L h' ((D, infoV i0 i1 i2 a3 a4 a5 ta tb tc td te tf n') :: (lawPre L P pcv n o5 o4 o3 o2' o1 ++ (97, tabObj ps) :: codes)) → Q .next { s with heap := h', toks := tk }) :
   wpAny (model PySem.Challenge.rw_jg0015_01.row.prog w) (callerA.deeper (envOfC lawR.1.name lawR.1.scope L fa (.ref 99))) (execs ((whBody.1.drop 2).take 2) (envOfC lawR.1.name lawR.1.scope L fa (.ref 99))) Q (fun _ _ => False) s := by
  dsimp only [lawPre, List.cons_append, List.nil_append, infoV] at N
  dsimp only [lawR, whBody, List.take, List.drop]
  (try k_fold)
  repeat' (first | (k_unfold; (try dsimp only)) | (k_end; wrow_close) | (dsimp only; walk1) | walk1 | (leave1; try dsimp only) | fail "no step")
  rename KBw.bInts (KBy.picked d _ _) = _ => hpk
  rename Fr h₀ L _ _ => F9
  rename News h₀ L _ _ => N9
  have e : (k3.length : Int) + k4.length + k5.length = ((k3.length + k4.length + k5.length : Nat) : Int) := by omega
  rw [e] at F9 hpk
  have e2 : clipAt ks.length ((pl : Int) + ((k3.length + k4.length + k5.length : Nat) : Int)) = pl + (k3.length + k4.length + k5.length) := by
    rw [clip_in (by omega) (by omega)]
    omega
  rw [e2, Nat.min_eq_left hpl, Nat.add_sub_cancel_left] at hpk
  refine' hret _ _ _ _ _ _ hpk ?ha F9 N9
  case ha => rw [← e]; assumption
-- part L5
open PySem PySem.W PyProof.Rows
section
theorem woff_L5 : True := by
  w_top off
  trivial
theorem fillxL6 : (∃ x : OpenLaw, x = PySem.Challenge.rw_jg0015_01) ∧ (∃ k : Params → Frag, k = hd.heap_39) := by
  k_fill
  exact ⟨⟨_, rfl⟩, ⟨_, rfl⟩⟩
local macro_rules | `(tactic| walk_at "call ref") => `(tactic| (refine Cut.out ?_))
theorem segW3 (w : World) {mean : ExcName → Option Value} {mg mb : PySem.Str → Option Value} {h₀ : Heap} {L fa P : Nat} {m : PySem.Str → Option Value} {s : Shared} {pcv : List Value} {n : Nat} {o5 o4 o3 o2 o1 : Obj} {ps : Array Value} {codes : List (Addr × Obj)} {d ap : Array UInt8} {ks : List Int} {pl sz : Nat} {t1 t2 t3 tz : Tok}
   {D : Nat} {i0 i1 i2 : Int} {a3 a4 a5 : Array UInt8} {k3 k4 k5 : List Int} {ta tb tc td te tf : Tok} {n' : Nat} {Q : Flow → Shared → Prop}
  (B : Below callerA h₀ [] h₀) (F : Fr h₀ L s.heap (fun y => if y = PySem.Str.ofString "size" then some (.int ((sz : Nat) : Int) tz) else if y = PySem.Str.ofString "info" then some (.ref D) else m y)) (X : (hd.heap_39 w.params).In h₀) (T : Top topProg looseG mean mg mb h₀)
  (N : News h₀ L s.heap ((D, infoV i0 i1 i2 a3 a4 a5 ta tb tc td te tf n') :: (lawPre L P pcv n o5 o4 o3 o2 o1 ++ (97, tabObj ps) :: codes))) (hco : ∀ q ∈ codes, P < q.1) (h97 : 97 < L) (hP : L + 1 + 1 + 1 + 1 + 1 < P) (hD : P < D) (hco2 : ∀ q ∈ codes, q.1 < D)
  (d1 : o1.data = .cell (some (.bytes d t1))) (d2 : o2.data = .cell (some (.bytes ap t2))) (d3 : o3.data = .cell (some (.int (pl : Int) t3))) (hks : KBw.bInts d = ks) (hlen : ks.length ≤ 24) (hpl : pl ≤ ks.length)
  (h3 : KBw.bInts a3 = k3) (h4 : KBw.bInts a4 = k4) (h5 : KBw.bInts a5 = k5) (hap : KBw.bInts ap = k3 ++ k4 ++ k5) (hsz : k3.length + k4.length + k5.length = sz) (hs2 : 2 ≤ sz) (hs24 : sz ≤ 24) {r : R} (hr : ppL 11 (ks.drop pl) = some r) (hrt : r.tot = sz)
  (hret : ∀ h' tk, Fr h₀ L h' (fun y => if y = PySem.Str.ofString "size" then some (.int ((sz : Nat) : Int) tz) else if y = PySem.Str.ofString "info" then some (.ref D) else m y) →
    News h₀ L h' ((D, infoV i0 i1 i2 a3 a4 a5 ta tb tc td te tf n') :: (lawPre L P pcv n o5 o4 o3 o2 o1 ++ (97, tabObj ps) :: codes)) → Q .next { s with heap := h', toks := tk }) :
   wpAny (model PySem.Challenge.rw_jg0015_01.row.prog w) (callerA.deeper (envOfC lawR.1.name lawR.1.scope L fa (.ref 99))) (execs ((whBody.1.drop 4).take 1) (envOfC lawR.1.name lawR.1.scope L fa (.ref 99))) Q (fun _ _ => False) s := by
  dsimp only [lawPre, List.cons_append, List.nil_append, infoV] at N
  dsimp only [lawR, whBody, List.take, List.drop]
  (try k_fold)
  repeat' (first | (k_unfold; (try dsimp only)) | (k_end; wrow_close) | (dsimp only; walk1) | walk1 | (leave1; try dsimp only) | fail "no step")
  · have e := bInts_inj ((by assumption : KBw.bInts (a3 ++ a4 ++ a5) = k3 ++ k4 ++ k5).trans hap.symm)
    rename _ = true => hne
    rw [e, bne_self_eq_false] at hne
    cases hne
  · refine Cut.a ?_
    rename KBw.bInts (KBy.picked d _ none) = _ => hpk
    rename Fr h₀ L _ _ => F9
    rename News h₀ L _ _ => N9
    rw [Nat.min_eq_left hpl, List.take_of_length_le (by rw [List.length_drop]; omega)] at hpk
    refine' peek_ctc w _ _ _ _ hpk ?hle ?hB ?hF ?hX ?hN ?hT ?hk ?hd ?hu ?hr ?he
    case hle => rw [List.length_drop]; omega
    case hB => exact B
    case hF => exact F9
    case hX => exact X
    case hN => exact N9
    case hT => exact T
    case hk => exact rfl
    case hd => ktr_room
    case hu => ktr_units
    case he =>
      intro e g' h' tk hF
      rw [hr] at hF
      cases hF
    case hr =>
      intro v own h' tk hp F' N' o'
      obtain ⟨ho, r', t', hr', hv⟩ := hp
      subst ho
      subst hv
      rw [hr] at hr'
      cases hr'
      rw [hrt]
      simp only [List.nil_append] at N'
      (try dsimp only)
      (try k_fold)
      repeat' (first | (k_unfold; (try dsimp only)) | (k_end; wrow_close) | (dsimp only; walk1) | walk1 | (leave1; try dsimp only) | fail "no step")
      · rename _ ≠ _ => hne
        exact absurd rfl hne
      · exact hret _ _ F' N'
end
-- part L6
open PySem PySem.W PyProof.Rows
section
theorem woff_L6 : True := by
  w_top off
  trivial
theorem fillxL7 : (∃ x : OpenLaw, x = PySem.Challenge.rw_jg0015_01) ∧ (∃ k : Params → Frag, k = hd.heap_39) := by
  k_fill
  exact ⟨⟨_, rfl⟩, ⟨_, rfl⟩⟩
local macro_rules | `(tactic| walk_at "call ref") => `(tactic| (refine Cut.out ?_))
local macro_rules | `(tactic| walk_at "compareOp NotEq ref ref") => `(tactic| (refine Cut.out ?_))
theorem infoV_cmp {i0 i1 i2 : Int} {a3 a4 a5 : Array UInt8} {ta tb tc td te tf ya yb yc yd ye yf : Tok} : CmpL [.int i0 ta, .int i1 tb, .int i2 tc, .bytes a3 td, .bytes a4 te, .bytes a5 tf] [.int i0 ya, .int i1 yb, .int i2 yc, .bytes a3 yd, .bytes a4 ye, .bytes a5 yf] [i0 == i0, i1 == i1, i2 == i2, a3 == a3, a4 == a4, a5 == a5] :=
  .cons (.int ..) (.cons (.int ..) (.cons (.int ..) (.cons (.bytes ..) (.cons (.bytes ..) (.cons (.bytes ..) .nil)))))
theorem infoV_ne {prog : Program} {w : World} {A : Around} {E : Value → Shared → Prop} {s : Shared} {Q : Value → Shared → Prop} {g : Heap} {L : Addr} {news : List (Addr × Obj)} {D D2 : Addr} {i0 i1 i2 : Int} {a3 a4 a5 : Array UInt8} {ta tb tc td te tf ya yb yc yd ye yf : Tok} {n n2 : Nat}
   (N : News g L s.heap news) (h1 : (D, infoV i0 i1 i2 a3 a4 a5 ta tb tc td te tf n) ∈ news) (h2 : (D2, infoV i0 i1 i2 a3 a4 a5 ya yb yc yd ye yf n2) ∈ news) (hu : A.units < cLine) (h : Q (.bool false) s) :
    wpAny (model prog w) A (compareOp .NotEq (.ref D) (.ref D2)) Q E s := by
  refine tup_ne (tup_of N h1) (tup_of N h2) infoV_cmp hu ?_
  simp only [beq_self_eq_true, List.all_cons, List.all_nil, id, Bool.and_self, Bool.not_true]
  exact h
theorem segW4 (w : World) {mean : ExcName → Option Value} {mg mb : PySem.Str → Option Value} {h₀ : Heap} {L fa P : Nat} {m : PySem.Str → Option Value} {s : Shared} {pcv : List Value} {n : Nat} {o5 o4 o3 o2 o1 : Obj} {ps : Array Value} {codes : List (Addr × Obj)} {ap tl : Array UInt8} {kp kt : List Int} {sz : Nat} {t2 t5 tz : Tok}
   {D : Nat} {i0 i1 i2 : Int} {a3 a4 a5 : Array UInt8} {ta tb tc td te tf : Tok} {n' : Nat} {r : R} {Q : Flow → Shared → Prop}
  (B : Below callerA h₀ [] h₀) (F : Fr h₀ L s.heap (fun y => if y = PySem.Str.ofString "size" then some (.int ((sz : Nat) : Int) tz) else if y = PySem.Str.ofString "info" then some (.ref D) else m y)) (X : (hd.heap_39 w.params).In h₀) (T : Top topProg looseG mean mg mb h₀)
  (N : News h₀ L s.heap ((D, infoV i0 i1 i2 a3 a4 a5 ta tb tc td te tf n') :: (lawPre L P pcv n o5 o4 o3 o2 o1 ++ (97, tabObj ps) :: codes))) (hco : ∀ q ∈ codes, P < q.1) (h97 : 97 < L) (hP : L + 1 + 1 + 1 + 1 + 1 < P) (hD : P < D) (hco2 : ∀ q ∈ codes, q.1 < D)
  (d2 : o2.data = .cell (some (.bytes ap t2))) (d5 : o5.data = .cell (some (.bytes tl t5))) (hap : KBw.bInts ap = kp) (htl : KBw.bInts tl = kt) (hkp : kp.length = sz) (hkt : kt.length ≤ 5) (hs24 : sz ≤ 24)
  (hr : ∀ z, ppL 11 (kp ++ z) = some r) (hrt : r.tot = sz)
  (hinfo : ∀ d' : Array UInt8, (KBw.bInts d').take sz = kp → ∀ t1 t2 t3 t4 t5 t6 n, infoO d' r t1 t2 t3 t4 t5 t6 n = infoV i0 i1 i2 a3 a4 a5 t1 t2 t3 t4 t5 t6 n) 
  (hret : ∀ h' tk, Fr h₀ L h' (fun y => if y = PySem.Str.ofString "size" then some (.int ((sz : Nat) : Int) tz) else if y = PySem.Str.ofString "info" then some (.ref D) else m y) →
    News h₀ L h' ((D, infoV i0 i1 i2 a3 a4 a5 ta tb tc td te tf n') :: (lawPre L P pcv n o5 o4 o3 o2 o1 ++ (97, tabObj ps) :: codes)) → Q .next { s with heap := h', toks := tk }) :
   wpAny (model PySem.Challenge.rw_jg0015_01.row.prog w) (callerA.deeper (envOfC lawR.1.name lawR.1.scope L fa (.ref 99))) (execs ((whBody.1.drop 5).take 1) (envOfC lawR.1.name lawR.1.scope L fa (.ref 99))) Q (fun _ _ => False) s := by
  have N0 := N
  dsimp only [lawPre, List.cons_append, List.nil_append, infoV] at N
  dsimp only [lawR, whBody, List.take, List.drop]
  (try k_fold)
  clear N0
  repeat' (first | (k_unfold; (try dsimp only)) | (k_end; wrow_close) | (dsimp only; walk1) | walk1 | (leave1; try dsimp only) | fail "no step")
  refine Cut.a ?_
  refine' parse_ctc1 w _ _ _ _ hap ?hle ?hB ?hF ?hX ?hN ?hT ?hk ?hd ?hu ?hr ?he
  case hle => omega
  case hB => exact B
  case hF => k_asm
  case hX => exact X
  case hN => k_asm
  case hT => exact T
  case hk => exact rfl
  case hd => ktr_room
  case hu => ktr_units
  case he =>
    intro e g' h' tk hF
    have := hr []
    rw [List.append_nil] at this
    exact absurd hkp (fun q => (hF r this).2 (by rw [hrt, q]))
  case hr =>
    intro v own h' tk hp F1 N1 l1
    obtain ⟨r1, D1, ya, yb, yc, yd, ye, yf, yn, hr1, hs1, ho1, hv1⟩ := hp
    subst ho1
    subst hv1
    have hre := hr []
    rw [List.append_nil, hr1] at hre
    cases hre
    rw [hinfo ap (by rw [hap, ← hkp, List.take_length])] at N1
    dsimp only [List.cons_append, List.nil_append, infoV] at N1
    (try dsimp only)
    (try k_fold)
    repeat' (first | (k_unfold; (try dsimp only)) | (k_end; wrow_close) | (dsimp only; walk1) | walk1 | (leave1; try dsimp only) | fail "no step")
    refine Cut.a ?_
    rename News h₀ L _ _ => N9
    refine infoV_ne N9 (.head _) (.tail _ (.head _)) ?hu ?_
    case hu => ktr_units
    have N8 := cb_drop N9 fun _ h => List.Mem.tail _ h
    clear N9
    (try dsimp only)
    repeat' (first | (k_unfold; (try dsimp only)) | (k_end; wrow_close) | (dsimp only; walk1) | walk1 | (leave1; try dsimp only) | fail "no step")
    refine Cut.a ?_
    rename KBw.bInts (ap ++ tl) = _ => hpt
    rename News h₀ L _ _ => N9
    refine' parse_ctc0 w _ _ _ _ hpt ?hle ?hB ?hF ?hX ?hN ?hT ?hk ?hd ?hu ?hr ?he
    case hle => rw [List.length_append]; omega
    case hB => exact B
    case hF => k_asm
    case hX => exact X
    case hN => exact N9
    case hT => exact T
    case hk => exact rfl
    case hd => ktr_room
    case hu => ktr_units
    case he =>
      intro e g' h' tk hF
      exact absurd (hF r (hr kt)).1 Bool.false_ne_true
    case hr =>
      intro v own h' tk hp F2 N2 l1
      obtain ⟨r2, D2, xa, xb, xc, xd, xe, xf, xn, hr2, hs2, ho2, hv2⟩ := hp
      subst ho2
      subst hv2
      have hre := hr kt
      rw [hr2] at hre
      cases hre
      rw [hinfo (ap ++ tl) (by rw [hpt, ← hkp, List.take_left])] at N2
      dsimp only [List.cons_append, List.nil_append, infoV] at N2

      (try dsimp only)
      (try k_fold)
      repeat' (first | (k_unfold; (try dsimp only)) | (k_end; wrow_close) | (dsimp only; walk1) | walk1 | (leave1; try dsimp only) | fail "no step")
      refine Cut.a ?_
      rename News h₀ L _ _ => N9
      refine infoV_ne N9 (.head _) (.tail _ (.head _)) ?hu ?_
      case hu => ktr_units
      have N8 := cb_drop N9 fun _ h => List.Mem.tail _ h
      clear N9
      (try dsimp only)
      repeat' (first | (k_unfold; (try dsimp only)) | (k_end; wrow_close) | (dsimp only; walk1) | walk1 | (leave1; try dsimp only) | fail "no step")
      refine Cut.a ?_
      rename News h₀ L _ _ => N7
      refine' peek_ctc w _ _ _ _ hpt ?hle ?hB ?hF ?hX ?hN ?hT ?hk ?hd ?hu ?hr ?he
      case hle => rw [List.length_append]; omega
      case hB => exact B
      case hF => k_asm
      case hX => exact X
      case hN => exact N7
      case hT => exact T
      case hk => exact rfl
      case hd => ktr_room
      case hu => ktr_units
      case he =>
        intro e g' h' tk hF
        rw [hr kt] at hF
        cases hF
      case hr =>
        intro v own h' tk hp F' N' o'
        obtain ⟨ho, r', t', hr', hv⟩ := hp
        subst ho
        subst hv
        rw [hr kt] at hr'
        cases hr'
        rw [hrt]
        simp only [List.nil_append] at N'
        (try dsimp only)
        (try k_fold)
        repeat' (first | (k_unfold; (try dsimp only)) | (k_end; wrow_close) | (dsimp only; walk1) | walk1 | (leave1; try dsimp only) | fail "no step")
        · rename _ ≠ _ => hne
          exact absurd rfl hne
        · exact hret _ _ F' N'
end
-- part L7
open PySem PySem.W PyProof.Rows
section
theorem woff_L7 : True := by
  w_top off
  trivial
theorem fillxL8 : (∃ x : OpenLaw, x = PySem.Challenge.rw_jg0015_01) ∧ (∃ k : Params → Frag, k = hd.heap_39) := by
  k_fill
  exact ⟨⟨_, rfl⟩, ⟨_, rfl⟩⟩
local macro_rules | `(tactic| walk_at "eval Call") => `(tactic| ((with_reducible show wpAny _ _ (eval (PySem.Expr.Call (PySem.Expr.Name _ _) [PySem.Expr.Lambda _ _ _ _] [] _) _) _ _ _); refine Cut.out ?_))
theorem preD_ne97 {D : Nat} {od : Obj} {pre : List (Addr × Obj)} (hD : 97 < D) (h : ∀ q ∈ pre, q.1 ≠ 97) : ∀ q ∈ (D, od) :: pre, q.1 ≠ 97 := by
  intro q hq
  rcases List.mem_cons.mp hq with rfl | hq
  · exact Nat.ne_of_gt hD
  · exact h q hq
theorem segW5 (w : World) {mean : ExcName → Option Value} {mg mb : PySem.Str → Option Value} {h₀ : Heap} {L fa P : Nat} {m : PySem.Str → Option Value} {s : Shared} {pcv : List Value} {n : Nat} {o5 o4 o3 o2 o1 od : Obj} {ps : Array Value} {codes : List (Addr × Obj)} {ap tl : Array UInt8} {kp kt : List Int} {t2 t5 : Tok} {D : Nat} {r : R}
   {Q : Flow → Shared → Prop}
  (B : Below callerA h₀ [] h₀) (F : Fr h₀ L s.heap m) (X : (hd.heap_39 w.params).In h₀) (T : Top topProg looseG mean mg mb h₀) (C : CodeHd h₀ 99 97)
  (N : News h₀ L s.heap ((D, od) :: (lawPre L P pcv n o5 o4 o3 o2 o1 ++ (97, tabObj ps) :: codes))) (W : TabWf ps codes qLam) (hco : ∀ q ∈ codes, P < q.1) (h97 : 97 < L) (hP : L + 1 + 1 + 1 + 1 + 1 < P) (hD : P < D)
  (d2 : o2.data = .cell (some (.bytes ap t2))) (d5 : o5.data = .cell (some (.bytes tl t5))) (hap : KBw.bInts ap = kp) (htl : KBw.bInts tl = kt) (hs24 : kp.length ≤ 24) (hkt : kt.length ≤ 5) (hk0 : 0 < kt.length)
  (hr : ppL 11 (kp ++ kt) = some r) (hrt : r.tot = kp.length)
  (hret : ∀ ps' codes' h' tk, Fr h₀ L h' m → News h₀ L h' ((D, od) :: (lawPre L P pcv n o5 o4 o3 o2 o1 ++ (97, tabObj ps') :: codes')) → TabWf ps' codes' qLam → (∀ q ∈ codes', P < q.1) → Q .next { s with heap := h', toks := tk }) :
   wpAny (model PySem.Challenge.rw_jg0015_01.row.prog w) (callerA.deeper (envOfC lawR.1.name lawR.1.scope L fa (.ref 99))) (execs ((whBody.1.drop 6).take 1) (envOfC lawR.1.name lawR.1.scope L fa (.ref 99))) Q (fun _ _ => False) s := by
  dsimp only [lawR, whBody, List.take, List.drop]
  (try k_fold)
  repeat' (first | (k_unfold; (try dsimp only)) | (k_end; wrow_close) | (dsimp only; walk1) | walk1 | (leave1; try dsimp only) | fail "no step")
  refine Cut.a ?_
  refine' ans_eval w (M0 := P) (pre := (D, od) :: lawPre L P pcv n o5 o4 o3 o2 o1) B F X T C N ?hpre ?hPM ?hM hco W ?hcl ?hc1 ?hc2 ?hc3 ?hc4 ?hdn (fun f c' ctv ps' codes' => lamC w (c1 := L + 1 + 1) (c2 := L + 1 + 1 + 1 + 1 + 1) (o1 := o2) (o2 := o5) (.tail _ pre2) d2 (.tail _ pre5) d5 hap htl (by omega) (by omega)) ?hret
  ( (case hpre => exact preD_ne97 (by omega) (pre_ne97 (by omega) (by omega))); (case hPM => omega); (case hM => exact ⟨_, .tail _ (.head _)⟩); (case hcl => exact rfl); (case hc1 => exact rfl); (case hc2 => exact rfl); (case hc3 => exact rfl); (case hc4 => decide); (case hdn => decide))
  case hret =>
    intro v own ps' codes' h' tk hp F' N' W' hco' l1
    rcases hp with ⟨r1, D1, ta, tb, tc, td, te, tf, n', hr1, hs1, _, _⟩ | ⟨rfl, rfl, hF⟩
    · rw [hr] at hr1
      cases hr1
      have := hs1 rfl
      rw [List.length_append] at this
      omega
    · (try dsimp only)
      (try k_fold)
      repeat' (first | (k_unfold; (try dsimp only)) | (k_end; wrow_close) | (dsimp only; walk1) | walk1 | (leave1; try dsimp only) | fail "no step")
      rename Fr h₀ L _ _ => F9
      rename News h₀ L _ _ => N9
      exact hret _ _ _ _ F9 N9 W' hco'
end
-- part L8
open PySem PySem.W PyProof.Rows
section
theorem woff_L8 : True := by
  w_top off
  trivial
theorem fillxL9 : (∃ x : OpenLaw, x = PySem.Challenge.rw_jg0015_01) ∧ (∃ k : Params → Frag, k = hd.heap_39) := by
  k_fill
  exact ⟨⟨_, rfl⟩, ⟨_, rfl⟩⟩
local macro_rules | `(tactic| walk_at "eval Call") => `(tactic| ((with_reducible show wpAny _ _ (eval (PySem.Expr.Call (PySem.Expr.Name _ _) [PySem.Expr.Lambda _ _ _ _] [] _) _) _ _ _); refine Cut.out ?_))
theorem preI_ne97 {I D : Nat} {oi od : Obj} {pre : List (Addr × Obj)} (hI : 97 < I) (hD : 97 < D) (h : ∀ q ∈ pre, q.1 ≠ 97) : ∀ q ∈ (I, oi) :: (D, od) :: pre, q.1 ≠ 97 := preD_ne97 hI (preD_ne97 hD h)
theorem shTurn (w : World) {mean : ExcName → Option Value} {mg mb : PySem.Str → Option Value} {h₀ : Heap} {L fa P I : Nat} {m : PySem.Str → Option Value} {s : Shared} {pcv : List Value} {n i : Nat} {o5 o4 o3 o2 o1 od oi : Obj} {ps : Array Value} {codes : List (Addr × Obj)} {ap : Array UInt8} {kp : List Int} {t2 t4 : Tok} {D : Nat}
   {Q : Flow → Shared → Prop}
  (B : Below callerA h₀ [] h₀) (F : Fr h₀ L s.heap m) (X : (hd.heap_39 w.params).In h₀) (T : Top topProg looseG mean mg mb h₀) (C : CodeHd h₀ 99 97)
  (N : News h₀ L s.heap ((I, oi) :: (D, od) :: (lawPre L P pcv n o5 o4 o3 o2 o1 ++ (97, tabObj ps) :: codes))) (W : TabWf ps codes qLam) (hco : ∀ q ∈ codes, P < q.1) (h97 : 97 < L) (hP : L + 1 + 1 + 1 + 1 + 1 < P) (hD : P < D) (hI : D < I)
  (d2 : o2.data = .cell (some (.bytes ap t2))) (d4 : o4.data = .cell (some (.int (i : Int) t4))) (hap : KBw.bInts ap = kp) (hs24 : kp.length ≤ 24)
  (hr : ppL 11 (kp.take i) = none)
  (hret : ∀ ps' codes' h' tk, Fr h₀ L h' m → News h₀ L h' ((I, oi) :: (D, od) :: (lawPre L P pcv n o5 o4 o3 o2 o1 ++ (97, tabObj ps') :: codes')) → TabWf ps' codes' qLam → (∀ q ∈ codes', P < q.1) → Q .next { s with heap := h', toks := tk }) :
   wpAny (model PySem.Challenge.rw_jg0015_01.row.prog w) (callerA.deeper (envOfC lawR.1.name lawR.1.scope L fa (.ref 99))) (execs shBody.1 (envOfC lawR.1.name lawR.1.scope L fa (.ref 99))) Q (fun _ _ => False) s := by
  dsimp only [lawR, shBody]
  (try k_fold)
  repeat' (first | (k_unfold; (try dsimp only)) | (k_end; wrow_close) | (dsimp only; walk1) | walk1 | (leave1; try dsimp only) | fail "no step")
  refine Cut.a ?_
  refine' ans_eval w (M0 := P) (pre := (I, oi) :: (D, od) :: lawPre L P pcv n o5 o4 o3 o2 o1) B F X T C N ?hpre ?hPM ?hM hco W ?hcl ?hc1 ?hc2 ?hc3 ?hc4 ?hdn (fun f c' ctv ps' codes' => lamD w (c1 := L + 1 + 1) (c2 := L + 1 + 1 + 1 + 1) (o1 := o2) (o2 := o4) (.tail _ (.tail _ pre2)) d2 (.tail _ (.tail _ pre4)) d4 hap (by omega) (Int.natCast_nonneg i)) ?hret
  ( (case hpre => exact preI_ne97 (by omega) (by omega) (pre_ne97 (by omega) (by omega))); (case hPM => omega); (case hM => exact ⟨_, .tail _ (.tail _ (.head _))⟩); (case hcl => exact rfl); (case hc1 => exact rfl); (case hc2 => exact rfl); (case hc3 => exact rfl); (case hc4 => decide); (case hdn => decide))
  case hret =>
    intro v own ps' codes' h' tk hp F' N' W' hco' l1
    rcases hp with ⟨_, r1, t1, hr1, _⟩ | ⟨rfl, rfl, _⟩
    · rw [Int.toNat_natCast, hr] at hr1
      cases hr1
    · dsimp only [lawPre, List.cons_append, List.nil_append] at N'
      (try dsimp only)
      (try k_fold)
      repeat' (first | (k_unfold; (try dsimp only)) | (k_end; wrow_close) | (dsimp only; walk1) | walk1 | (leave1; try dsimp only) | fail "no step")
      · rename Fr h₀ L _ _ => F9
        rename News h₀ L _ _ => N9
        refine Cut.a ?_
        refine' ans_eval w (M0 := P) (pre := (I, oi) :: (D, od) :: lawPre L P pcv n o5 o4 o3 o2 o1) B F9 X T C N9 ?hpre ?hPM ?hM hco' W' ?hcl ?hc1 ?hc2 ?hc3 ?hc4 ?hdn (fun f c' ctv ps' codes' => lamE w (c1 := L + 1 + 1) (c2 := L + 1 + 1 + 1 + 1) (o1 := o2) (o2 := o4) (.tail _ (.tail _ pre2)) d2 (.tail _ (.tail _ pre4)) d4 hap (by omega) (Int.natCast_nonneg i)) ?hret
        ( (case hpre => exact preI_ne97 (by omega) (by omega) (pre_ne97 (by omega) (by omega))); (case hPM => omega); (case hM => exact ⟨_, .tail _ (.tail _ (.head _))⟩); (case hcl => exact rfl); (case hc1 => exact rfl); (case hc2 => exact rfl); (case hc3 => exact rfl); (case hc4 => decide); (case hdn => decide))
        case hret =>
          intro v own ps' codes' h' tk hp F' N' W' hco' l1
          rcases hp with ⟨r1, D1, ta, tb, tc, td, te, tf, n', hr1, hs1, _, _⟩ | ⟨rfl, rfl, hF⟩
          · rw [Int.toNat_natCast, hr] at hr1
            cases hr1
          · (try dsimp only)
            (try k_fold)
            repeat' (first | (k_unfold; (try dsimp only)) | (k_end; wrow_close) | (dsimp only; walk1) | walk1 | (leave1; try dsimp only) | fail "no step")
            rename Fr h₀ L _ _ => F9
            rename News h₀ L _ _ => N9
            exact hret _ _ _ _ F9 N9 W' hco'
      · rename Fr h₀ L _ _ => F9
        rename News h₀ L _ _ => N9
        exact hret _ _ _ _ F9 N9 W' hco'
end
-- part L9
open PySem PySem.W PyProof.Rows
section
theorem woff_L9 : True := by
  w_top off
  trivial
theorem fillxL10 : (∃ x : OpenLaw, x = PySem.Challenge.rw_jg0015_01) ∧ (∃ k : Params → Frag, k = hd.heap_39) := by
  k_fill
  exact ⟨⟨_, rfl⟩, ⟨_, rfl⟩⟩
local macro_rules | `(tactic| walk_at "pyIter ref") => `(tactic| (refine Cut.out ?_))
local macro_rules | `(tactic| walk_at "exec For Name Call") => `(tactic| ((rename Fr _ _ _ _ => lF'); (with_unfolding_all refine' For_invTF lF' ?_ ?fk1; (case fk1 => exact fun _ => rfl); k_whole)))
theorem pre_le {L P : Nat} {pcv : List Value} {n : Nat} {o5 o4 o3 o2 o1 : Obj} (hP : L + 1 + 1 + 1 + 1 + 1 < P) {q : Addr × Obj} (hq : q ∈ lawPre L P pcv n o5 o4 o3 o2 o1) : @LE.le Nat _ q.1 P := by
  simp only [List.mem_cons, List.not_mem_nil, or_false] at hq
  rcases hq with rfl | rfl | rfl | rfl | rfl | rfl <;> (dsimp only) <;> omega
theorem shAssign (w : World) {mean : ExcName → Option Value} {mg mb : PySem.Str → Option Value} {h₀ : Heap} {L fa P I : Nat} {m : PySem.Str → Option Value} {s : Shared} {pcv : List Value} {n i : Nat} {o5 o4 o3 o2 o1 od oi : Obj} {v4 : Option Value} {ps : Array Value} {codes : List (Addr × Obj)} {D : Nat} {t : Tok} {px : Pos}
   {Q : Unit → Shared → Prop}
  (B : Below callerA h₀ [] h₀) (F : Fr h₀ L s.heap m) (X : (hd.heap_39 w.params).In h₀) (T : Top topProg looseG mean mg mb h₀)
  (N : News h₀ L s.heap ((I, oi) :: (D, od) :: (lawPre L P pcv n o5 o4 o3 o2 o1 ++ (97, tabObj ps) :: codes))) (hco : ∀ q ∈ codes, P < q.1) (h97 : 97 < L) (hP : L + 1 + 1 + 1 + 1 + 1 < P) (hD : P < D) (hI : D < I)
  (d4 : o4.data = .cell v4)
  (hret : ∀ o4' h' tk, o4'.data = .cell (some (.int (i : Int) t)) → Fr h₀ L h' m → News h₀ L h' ((I, oi) :: (D, od) :: (lawPre L P pcv n o5 o4' o3 o2 o1 ++ (97, tabObj ps) :: codes)) → Q () { s with heap := h', toks := tk }) :
   wpAny (model PySem.Challenge.rw_jg0015_01.row.prog w) (callerA.deeper (envOfC lawR.1.name lawR.1.scope L fa (.ref 99))) (assign (.Name (PySem.Str.ofString "short") px) (envOfC lawR.1.name lawR.1.scope L fa (.ref 99)) (.int (i : Int) t)) Q (fun _ _ => False) s := by
  dsimp only [lawPre, List.cons_append, List.nil_append] at N
  dsimp only [lawR]
  (try k_fold)
  repeat' (first | (k_unfold; (try dsimp only)) | (k_end; wrow_close) | (dsimp only; walk1) | walk1 | (leave1; try dsimp only) | fail "no step")
  rename Fr h₀ L _ _ => F9
  rename News h₀ L _ _ => N9
  refine' hret _ _ _ ?ha F9 N9
  case ha => first | assumption | rfl
theorem shLoop (w : World) {mean : ExcName → Option Value} {mg mb : PySem.Str → Option Value} {h₀ : Heap} {L fa P R : Nat} {m : PySem.Str → Option Value} {s : Shared} {pcv : List Value} {n sz : Nat} {o5 o4 o3 o2 o1 od : Obj} {v4 : Option Value} {ps : Array Value} {codes : List (Addr × Obj)} {ap : Array UInt8} {kp : List Int} {t2 tu tv tw : Tok} {D : Nat} {px : Pos}
   {Q : Flow → Shared → Prop}
  (B : Below callerA h₀ [] h₀) (F : Fr h₀ L s.heap m) (X : (hd.heap_39 w.params).In h₀) (T : Top topProg looseG mean mg mb h₀) (C : CodeHd h₀ 99 97)
  (N : News h₀ L s.heap ((D, od) :: (lawPre L P pcv n o5 o4 o3 o2 o1 ++ (97, tabObj ps) :: codes))) (W : TabWf ps codes qLam) (hco : ∀ q ∈ codes, P < q.1) (h97 : 97 < L) (hP : L + 1 + 1 + 1 + 1 + 1 < P) (hD : P < D)
  (d2 : o2.data = .cell (some (.bytes ap t2))) (d4 : o4.data = .cell v4) (hap : KBw.bInts ap = kp) (hs24 : kp.length ≤ 24) (hz24 : sz ≤ 24)
  (hr : ∀ i, i < sz → ppL 11 (kp.take i) = none) (hR : IsRange s.heap R 0 sz 1 tu tv tw)
  (hret : ∀ o4' v4' ps' codes' h' tk, o4'.data = .cell v4' → Fr h₀ L h' m → News h₀ L h' ((D, od) :: (lawPre L P pcv n o5 o4' o3 o2 o1 ++ (97, tabObj ps') :: codes')) → TabWf ps' codes' qLam → (∀ q ∈ codes', P < q.1) → Q .next { s with heap := h', toks := tk }) :
   wpAny (model PySem.Challenge.rw_jg0015_01.row.prog w) (callerA.deeper (envOfC lawR.1.name lawR.1.scope L fa (.ref 99))) (pyIter (.ref R)) (fun it s₂ => LoopAtT PySem.Challenge.rw_jg0015_01.row.prog w (callerA.deeper (envOfC lawR.1.name lawR.1.scope L fa (.ref 99))) h₀ (envOfC lawR.1.name lawR.1.scope L fa (.ref 99)) (.Name (PySem.Str.ofString "short") px) shBody.1 Q (fun _ _ => False) it s₂) (fun _ _ => False) s := by
  refine iter_rangeT (fun _ nx => ∃ o4' v4' ps' codes', nx = (D, od) :: (lawPre L P pcv n o5 o4' o3 o2 o1 ++ (97, tabObj ps') :: codes') ∧ o4'.data = .cell v4' ∧ TabWf ps' codes' qLam ∧ ∀ q ∈ codes', P < q.1) rfl hR (by omega) F N ⟨o4, v4, ps, codes, rfl, d4, W, hco⟩ ?_ ?_
  · rintro i t news₁ s₁ I io hi ⟨o4', v4', ps', codes', rfl, d4', W', hco'⟩ hlt hne ⟨a, b, rfl⟩ F₁ N₁
    have hDI : D < I := hlt _ (.head _)
    refine shAssign w (P := P) (I := I) (D := D) B F₁ X T N₁ hco' h97 hP hD hDI d4' ?_
    intro o4'' h2 tk2 d4'' F₂ N₂
    refine shTurn w (P := P) (I := I) (D := D) B F₂ X T C N₂ W' hco' h97 hP hD hDI d2 d4'' hap hs24 (hr i hi) ?_
    intro ps3 codes3 h3 tk3 F₃ N₃ W₃ hco₃
    refine Cut.a ⟨rfl, h3, tk3, _, rfl, F₃, cb_drop (news := (I, rangeIt a b) :: ((D, od) :: (lawPre L P pcv n o5 o4'' o3 o2 o1 ++ (97, tabObj ps3) :: codes3.filter fun p => decide (p.1 ≠ I)))) N₃ ?_, ?_, o4'', _, ps3, codes3.filter fun p => decide (p.1 ≠ I), rfl, d4'', ?_, ?_⟩
    · intro p hp
      rcases List.mem_cons.mp hp with rfl | hp
      · exact .head _
      · rcases List.mem_cons.mp hp with rfl | hp
        · exact .tail _ (.head _)
        · rcases List.mem_append.mp hp with hp | hp
          · exact .tail _ (.tail _ (List.mem_append_left _ hp))
          · rcases List.mem_cons.mp hp with rfl | hp
            · exact .tail _ (.tail _ (List.mem_append_right _ (.head _)))
            · exact .tail _ (.tail _ (List.mem_append_right _ (.tail _ (List.mem_filter.mp hp).1)))
    · intro p hp
      rcases List.mem_cons.mp hp with rfl | hp
      · exact Nat.ne_of_lt hDI
      · rcases List.mem_append.mp hp with hp | hp
        · exact Nat.ne_of_lt (Nat.lt_of_le_of_lt (pre_le hP hp) (Nat.lt_trans hD hDI))
        · rcases List.mem_cons.mp hp with rfl | hp
          · exact Nat.ne_of_lt (Nat.lt_trans (show 97 < P by omega) (Nat.lt_trans hD hDI))
          · exact of_decide_eq_true (List.mem_filter.mp hp).2
    · exact W₃.off N₃ (fun p hp => .tail _ (.tail _ (List.mem_append_right _ (.tail _ hp)))) (.head _)
    · intro q hq
      exact hco₃ q (List.mem_filter.mp hq).1
  · rintro news₁ h tk ⟨o4', v4', ps', codes', rfl, d4', W', hco'⟩ F₁ N₁
    exact hret o4' v4' ps' codes' h tk d4' F₁ N₁ W' hco'
theorem segW6 (w : World) {mean : ExcName → Option Value} {mg mb : PySem.Str → Option Value} {h₀ : Heap} {L fa P : Nat} {m : PySem.Str → Option Value} {s : Shared} {pcv : List Value} {n sz : Nat} {o5 o4 o3 o2 o1 od : Obj} {v4 : Option Value} {ps : Array Value} {codes : List (Addr × Obj)} {ap : Array UInt8} {kp : List Int} {t2 tz : Tok} {D : Nat}
   {Q : Flow → Shared → Prop}
  (B : Below callerA h₀ [] h₀) (F : Fr h₀ L s.heap (fun y => if y = PySem.Str.ofString "size" then some (.int ((sz : Nat) : Int) tz) else m y)) (X : (hd.heap_39 w.params).In h₀) (T : Top topProg looseG mean mg mb h₀) (C : CodeHd h₀ 99 97)
  (N : News h₀ L s.heap ((D, od) :: (lawPre L P pcv n o5 o4 o3 o2 o1 ++ (97, tabObj ps) :: codes))) (W : TabWf ps codes qLam) (hco : ∀ q ∈ codes, P < q.1) (h97 : 97 < L) (hP : L + 1 + 1 + 1 + 1 + 1 < P) (hD : P < D)
  (d2 : o2.data = .cell (some (.bytes ap t2))) (d4 : o4.data = .cell v4) (hap : KBw.bInts ap = kp) (hs24 : kp.length ≤ 24) (hz24 : sz ≤ 24)
  (hr : ∀ i, i < sz → ppL 11 (kp.take i) = none)
  (hret : ∀ o4' v4' ps' codes' h' tk, o4'.data = .cell v4' → Fr h₀ L h' (fun y => if y = PySem.Str.ofString "size" then some (.int ((sz : Nat) : Int) tz) else m y) → News h₀ L h' ((D, od) :: (lawPre L P pcv n o5 o4' o3 o2 o1 ++ (97, tabObj ps') :: codes')) → TabWf ps' codes' qLam → (∀ q ∈ codes', P < q.1) → Q .next { s with heap := h', toks := tk }) :
   wpAny (model PySem.Challenge.rw_jg0015_01.row.prog w) (callerA.deeper (envOfC lawR.1.name lawR.1.scope L fa (.ref 99))) (execs ((whBody.1.drop 7).take 1) (envOfC lawR.1.name lawR.1.scope L fa (.ref 99))) Q (fun _ _ => False) s := by
  dsimp only [lawR, whBody, List.take, List.drop]
  (try k_fold)
  repeat' (first | (k_unfold; (try dsimp only)) | (k_end; wrow_close) | (dsimp only; walk1) | walk1 | (leave1; try dsimp only) | fail "no step")
  refine Cut.a ?_
  rename Fr h₀ L _ _ => F9
  rename News h₀ L _ _ => N9
  refine shLoop w (P := P) (D := D) B F9 X T C N9 W hco h97 hP hD d2 d4 hap hs24 hz24 hr (by assumption) ?_
  intro o4' v4' ps' codes' h' tk d4' F' N' W' hco'
  repeat' (first | (k_unfold; (try dsimp only)) | (k_end; wrow_close) | (dsimp only; walk1) | walk1 | (leave1; try dsimp only) | fail "no step")
  exact hret o4' v4' ps' codes' h' _ d4' F' N' W' hco'
end
-- part L10
open PySem PySem.W PyProof.Rows
section
theorem woff_L10 : True := by
  w_top off
  trivial
local macro_rules | `(tactic| walk_at "my pad") => `(tactic| skip)
theorem fillxL11 : (∃ x : OpenLaw, x = PySem.Challenge.rw_jg0015_01) ∧ (∃ k : Params → Frag, k = hd.heap_39) := by
  k_fill
  exact ⟨⟨_, rfl⟩, ⟨_, rfl⟩⟩
local macro_rules | `(tactic| walk_at "compareOp Eq ref ref") => `(tactic| (refine Cut.out ?_))
local macro_rules | `(tactic| walk_at "subscriptTail Name Slice ref ref") => `(tactic| (refine Cut.out ?_))
noncomputable abbrev lawM (P : Nat) (nv : Option Value) (O sl : Nat) : PySem.Str → Option Value := look [(PySem.Str.ofString "pieces", some (.ref P)), (PySem.Str.ofString "number", nv), (PySem.Str.ofString "octets", some (.ref O)), (PySem.Str.ofString "script", some (.ref sl))]
theorem segW7 (w : World) {mean : ExcName → Option Value} {mg mb : PySem.Str → Option Value} {h₀ : Heap} {L fa P : Nat} {O sl : Nat} {s : Shared} {pcv : List Value} {n : Nat} {o5 o4 o3 o2 o1 : Obj} {ps : Array Value} {codes : List (Addr × Obj)} {ap : Array UInt8} {pl sz : Nat} {t2 t3 tz : Tok} {nv : Option Value}
   {D : Nat} {i0 i1 i2 : Int} {a3 a4 a5 : Array UInt8} {ta tb tc td te tf : Tok} {n' : Nat} {Q : Flow → Shared → Prop}
  (B : Below callerA h₀ [] h₀) (F : Fr h₀ L s.heap (fun y => if y = PySem.Str.ofString "size" then some (.int ((sz : Nat) : Int) tz) else if y = PySem.Str.ofString "info" then some (.ref D) else lawM P nv O sl y)) (X : (hd.heap_39 w.params).In h₀) (T : Top topProg looseG mean mg mb h₀)
  (N : News h₀ L s.heap ((D, infoV i0 i1 i2 a3 a4 a5 ta tb tc td te tf n') :: (lawPre L P pcv n o5 o4 o3 o2 o1 ++ (97, tabObj ps) :: codes))) (hco : ∀ q ∈ codes, P < q.1) (h97 : 97 < L) (hP : L + 1 + 1 + 1 + 1 + 1 < P) (hD : P < D)
  (d2 : o2.data = .cell (some (.bytes ap t2))) (d3 : o3.data = .cell (some (.int (pl : Int) t3))) (hpc : pcv.length ≤ 100)
  (hbrk : ∀ h' tk, i0 = 0 ∧ i1 = 0 ∧ i2 = 0 → Fr h₀ L h' (fun y => if y = PySem.Str.ofString "size" then some (.int ((sz : Nat) : Int) tz) else if y = PySem.Str.ofString "info" then some (.ref D) else lawM P nv O sl y) →
    News h₀ L h' (lawPre L P pcv n o5 o4 o3 o2 o1 ++ (97, tabObj ps) :: codes) → Q .brk { s with heap := h', toks := tk })
  (hret : ∀ o3' t3' n2 h' tk, ¬ (i0 = 0 ∧ i1 = 0 ∧ i2 = 0) → o3'.data = .cell (some (.int ((pl + sz : Nat) : Int) t3')) → Fr h₀ L h' (fun y => if y = PySem.Str.ofString "size" then some (.int ((sz : Nat) : Int) tz) else if y = PySem.Str.ofString "info" then some (.ref D) else lawM P nv O sl y) →
    News h₀ L h' (lawPre L P (pcv ++ [Value.bytes ap t2]) n2 o5 o4 o3' o2 o1 ++ (97, tabObj ps) :: codes) → Q .next { s with heap := h', toks := tk }) :
   wpAny (model PySem.Challenge.rw_jg0015_01.row.prog w) (callerA.deeper (envOfC lawR.1.name lawR.1.scope L fa (.ref 99))) (execs (whBody.1.drop 8) (envOfC lawR.1.name lawR.1.scope L fa (.ref 99))) Q (fun _ _ => False) s := by
  dsimp only [lawPre, List.cons_append, List.nil_append, infoV] at N
  dsimp only [lawR, whBody, List.drop]
  (try k_fold)
  repeat' (first | (k_unfold; (try dsimp only)) | (k_end; wrow_close) | (dsimp only; walk1) | walk1 | (leave1; try dsimp only) | fail "no step")
  refine Cut.a ?_
  refine' slice_tuple_03 (s := ⟨s.heap, s.gens, s.drawn, s.toks + 1 + 1, s.os⟩) ?zF ?zN (.head _) ?_ ?zs ?zg
  case zF => exact F
  case zN => exact N
  case zs => with_unfolding_all rfl
  case zg => intro _; with_unfolding_all rfl
  intro D3 h3 F3 N3 l3
  repeat' (first | (k_unfold; (try dsimp only)) | (k_end; wrow_close) | (dsimp only; walk1) | walk1 | (leave1; try dsimp only) | fail "no step")
  refine Cut.a ?_
  rename Fr h₀ L _ _ => F9
  rename News h₀ L _ _ => N9
  refine tup_eq (tup_of N9 (.tail _ (.head _))) (tup_of N9 (.head _)) (.cons (.int ..) (.cons (.int ..) (.cons (.int ..) .nil))) ?hu ?_
  case hu => ktr_units
  have N8 := cb_drop N9 fun _ h => List.Mem.tail _ (List.Mem.tail _ (List.Mem.tail _ h))
  clear N9
  by_cases hz : i0 = 0 ∧ i1 = 0 ∧ i2 = 0
  · rw [show [i0 == 0, i1 == 0, i2 == 0].all id = true from by simp [hz]]
    repeat' (first | (k_unfold; (try dsimp only)) | (k_end; wrow_close) | (dsimp only; walk1) | walk1 | (leave1; try dsimp only) | fail "no step")
    exact hbrk _ _ hz F9 N8
  · rw [show [i0 == 0, i1 == 0, i2 == 0].all id = false from by simp [List.all_cons]; omega]
    repeat' (first | (k_unfold; (try dsimp only)) | (k_end; wrow_close) | (dsimp only; walk1) | walk1 | (leave1; try dsimp only) | fail "no step")
    rename Fr h₀ L _ _ => F9
    rename News h₀ L _ _ => N9
    rw [List.push_toArray] at N9
    refine' hret _ _ _ _ _ hz ?ha F9 N9
    case ha => rw [Int.natCast_add]; assumption
end
-- part L11
open PySem PySem.W PyProof.Rows
section
theorem woff_L11 : True := by
  w_top off
  trivial
noncomputable abbrev lawI (iv sv : Option Value) (P : Nat) (nv : Option Value) (O sl : Nat) : PySem.Str → Option Value := fun y => if y = PySem.Str.ofString "size" then sv else if y = PySem.Str.ofString "info" then iv else lawM P nv O sl y
theorem infoO_eq {d d' : Array UInt8} {r : R} {ks : List Int} (hd : KBw.bInts d = ks) (hr : ppL 11 ks = some r) (h : (KBw.bInts d').take r.tot = ks.take r.tot) (t1 t2 t3 t4 t5 t6 : Tok) (n : Nat) :
    infoO d' r t1 t2 t3 t4 t5 t6 n = infoV (r.first / 64) (r.first / 32 % 2) r.tag (d.toList.take r.hdr).toArray ((d.toList.drop r.hdr).take r.len).toArray (List.replicate r.tr 0).toArray t1 t2 t3 t4 t5 t6 n := by
  have e1 : (d'.toList.take r.hdr).toArray = (d.toList.take r.hdr).toArray := by
    apply bInts_inj
    rw [bInts_takeA, bInts_takeA, hd]
    exact ag_le h (by rw [R.tot]; omega)
  have e2 : ((d'.toList.drop r.hdr).take r.len).toArray = ((d.toList.drop r.hdr).take r.len).toArray := by
    apply bInts_inj
    have a := bInts_takeA (d'.toList.drop r.hdr).toArray r.len
    have b := bInts_takeA (d.toList.drop r.hdr).toArray r.len
    rw [bInts_dropA] at a b
    rw [show (d'.toList.drop r.hdr).toArray.toList = d'.toList.drop r.hdr from rfl] at a
    rw [show (d.toList.drop r.hdr).toArray.toList = d.toList.drop r.hdr from rfl] at b
    rw [a, b, hd]
    exact ag_drop (ag_le h (by rw [R.tot]; omega))
  unfold infoO infoV
  rw [e1, e2]
theorem bInts_rep (k : Nat) : KBw.bInts (List.replicate k (0 : UInt8)).toArray = List.replicate k 0 := by
  unfold KBw.bInts
  rw [List.map_replicate]
  rfl
theorem lawI_info {iv sv v : Option Value} {P : Nat} {nv : Option Value} {O sl : Nat} (y : PySem.Str) : (if y = PySem.Str.ofString "info" then v else lawI iv sv P nv O sl y) = lawI v sv P nv O sl y := by
  by_cases h1 : y = PySem.Str.ofString "info"
  · rw [if_pos h1]
    subst h1
    show v = (if _ then sv else if _ then v else _)
    rw [if_neg (by decide), if_pos rfl]
  · rw [if_neg h1]
    show (if _ then sv else if _ then iv else _) = (if _ then sv else if _ then v else _)
    rw [if_neg h1, if_neg h1]
theorem lawI_both {iv sv v u : Option Value} {P : Nat} {nv : Option Value} {O sl : Nat} (y : PySem.Str) : (if y = PySem.Str.ofString "size" then u else if y = PySem.Str.ofString "info" then v else lawI iv sv P nv O sl y) = lawI v u P nv O sl y := by
  by_cases h1 : y = PySem.Str.ofString "size"
  · rw [if_pos h1]
    show u = (if _ then u else if _ then v else _)
    rw [if_pos h1]
  · rw [if_neg h1]
    show _ = (if _ then u else if _ then v else _)
    rw [if_neg h1]
    by_cases h2 : y = PySem.Str.ofString "info"
    · rw [if_pos h2, if_pos h2]
    · rw [if_neg h2, if_neg h2]
      show (if _ then sv else if _ then iv else _) = _
      rw [if_neg h1, if_neg h2]
theorem drop24 {α : Type} (l : List α) (a b c : Nat) (h : c = a + b) : (l.drop a).drop b = l.drop c := by rw [List.drop_drop, h]
theorem whTurn (w : World) {mean : ExcName → Option Value} {mg mb : PySem.Str → Option Value} {h₀ : Heap} {L fa P O sl : Nat} {s : Shared} {l : List (Array UInt8 × Tok)} {n : Nat} {o5 o4 o3 o2 o1 : Obj} {v2 v4 iv sv nv : Option Value} {ps : Array Value} {codes : List (Addr × Obj)} {d tl : Array UInt8} {ks kt : List Int} {pl : Nat} {t1 t3 t5 : Tok}
   {Q : Flow → Shared → Prop}
  (B : Below callerA h₀ [] h₀) (F : Fr h₀ L s.heap (lawI iv sv P nv O sl)) (X : (hd.heap_39 w.params).In h₀) (T : Top topProg looseG mean mg mb h₀) (C : CodeHd h₀ 99 97)
  (N : News h₀ L s.heap (lawPre L P (bvals l) n o5 o4 o3 o2 o1 ++ (97, tabObj ps) :: codes)) (W : TabWf ps codes qLam) (hco : ∀ q ∈ codes, P < q.1) (h97 : 97 < L) (hP : L + 1 + 1 + 1 + 1 + 1 < P)
  (d1 : o1.data = .cell (some (.bytes d t1))) (d2 : o2.data = .cell v2) (d3 : o3.data = .cell (some (.int (pl : Int) t3))) (d4 : o4.data = .cell v4) (d5 : o5.data = .cell (some (.bytes tl t5)))
  (hks : KBw.bInts d = ks) (hlen : ks.length ≤ 24) (htl : KBw.bInts tl = kt) (hkt : kt.length ≤ 5) (hk0 : 0 < kt.length) (hpl : pl ≤ ks.length) (hpc : l.length ≤ 100)
  (hbrk : ∀ iv' sv' o4' o2' v2' v4' ps' codes' h' tk, o2'.data = .cell v2' → o4'.data = .cell v4' → Fr h₀ L h' (lawI iv' sv' P nv O sl) → News h₀ L h' (lawPre L P (bvals l) n o5 o4' o3 o2' o1 ++ (97, tabObj ps') :: codes') → TabWf ps' codes' qLam → (∀ q ∈ codes', P < q.1) → Q .brk { s with heap := h', toks := tk })
  (hret : ∀ r iv' sv' o4' o3' o2' v2' v4' t3' ap tp n2 ps' codes' h' tk, ppL 11 (ks.drop pl) = some r → Piece ((ks.drop pl).take r.tot) → KBw.bInts ap = (ks.drop pl).take r.tot → o2'.data = .cell v2' → o3'.data = .cell (some (.int ((pl + r.tot : Nat) : Int) t3')) → o4'.data = .cell v4' →
    Fr h₀ L h' (lawI iv' sv' P nv O sl) → News h₀ L h' (lawPre L P (bvals (l ++ [(ap, tp)])) n2 o5 o4' o3' o2' o1 ++ (97, tabObj ps') :: codes') → TabWf ps' codes' qLam → (∀ q ∈ codes', P < q.1) → Q .next { s with heap := h', toks := tk }) :
   wpAny (model PySem.Challenge.rw_jg0015_01.row.prog w) (callerA.deeper (envOfC lawR.1.name lawR.1.scope L fa (.ref 99))) (execs whBody.1 (envOfC lawR.1.name lawR.1.scope L fa (.ref 99))) Q (fun _ _ => False) s := by
  refine execs_cut 2 ?_
  refine segW1 w B F X T C N W hco h97 hP d1 d3 hks hlen ?_ ?_
  case refine_2 =>
    intro ps' codes' h' tk F' N' W' hco'
    refine Cut.a (hbrk (some .none) sv o4 o2 _ _ ps' codes' h' tk d2 d4 (Mine.Fr.congr F' lawI_info) N' W' hco')
  intro r D ta tb tc td te tf n' ps1 codes1 h1 tk1 hr F1 N1 W1 hco1 hD1
  have hln := ppL_len _ _ _ hr
  rw [List.length_drop] at hln
  have hw := pp_whole hr
  have hdd : KBw.bInts (d.toList.drop pl).toArray = ks.drop pl := by rw [bInts_dropA, hks]
  have hPD : P < D := hD1 _ (.head _)
  rw [infoO_eq hdd hr (by rw [hdd]) ta tb tc td te tf n'] at N1
  have hk3 : KBw.bInts ((d.toList.drop pl).toArray.toList.take r.hdr).toArray = (ks.drop pl).take r.hdr := by rw [bInts_takeA, hdd]
  have hk4 : KBw.bInts (((d.toList.drop pl).toArray.toList.drop r.hdr).take r.len).toArray = ((ks.drop pl).drop r.hdr).take r.len := by
    have b := bInts_takeA ((d.toList.drop pl).toArray.toList.drop r.hdr).toArray r.len
    rw [bInts_dropA, hdd] at b
    exact b
  have hk5 := bInts_rep r.tr
  have hl3 : ((ks.drop pl).take r.hdr).length = r.hdr := by
    rw [List.length_take, List.length_drop]
    have : r.hdr ≤ r.tot := by rw [R.tot]; omega
    omega
  have hl4 : (((ks.drop pl).drop r.hdr).take r.len).length = r.len := by
    rw [List.length_take, List.length_drop, List.length_drop]
    have : r.hdr + r.len ≤ r.tot := by rw [R.tot]; omega
    omega
  have hl5 : (List.replicate r.tr (0 : Int)).length = r.tr := List.length_replicate
  have hsum : ((ks.drop pl).take r.hdr).length + (((ks.drop pl).drop r.hdr).take r.len).length + (List.replicate r.tr (0 : Int)).length = r.tot := by rw [hl3, hl4, hl5, R.tot]
  refine Cut.a (execs_cut 2 ?_)
  refine segW2 w (s := ⟨h1, _, _, tk1, _⟩) B F1 X T N1 hco1 h97 hP hPD (fun q hq => hD1 q (List.mem_append_right _ (.tail _ hq))) d1 d2 d3 hks hlen hpl hk3 hk4 hk5 (by rw [hsum]; omega) ?_
  intro o2' tz tp ap h2 tk2 hap d2' F2 N2
  rw [hsum] at hap F2
  rw [drop24 _ 2 2 4 rfl]
  refine Cut.a (execs_cut 1 ?_)
  refine segW3 w (s := ⟨h2, _, _, tk2, _⟩) B F2 X T N2 hco1 h97 hP hPD (fun q hq => hD1 q (List.mem_append_right _ (.tail _ hq))) d1 d2' d3 hks hlen hpl hk3 hk4 hk5 (hap.trans hw.symm) hsum (by omega) (by omega) hr rfl ?_
  intro h3 tk3 F3 N3
  rw [drop24 _ 4 1 5 rfl]
  refine Cut.a (execs_cut 1 ?_)
  have hkpl : ((ks.drop pl).take r.tot).length = r.tot := by rw [List.length_take, List.length_drop]; omega
  have hmore : ∀ z, ppL 11 ((ks.drop pl).take r.tot ++ z) = some r := fun z => pp_more hr (by omega)
  refine segW4 w (s := ⟨h3, _, _, tk3, _⟩) B F3 X T N3 hco1 h97 hP hPD (fun q hq => hD1 q (List.mem_append_right _ (.tail _ hq))) d2' d5 hap htl hkpl hkt (by omega) hmore rfl (fun d' hd' t1 t2 t3 t4 t5 t6 n => infoO_eq hdd hr hd' t1 t2 t3 t4 t5 t6 n) ?_
  intro h4 tk4 F4 N4
  rw [drop24 _ 5 1 6 rfl]
  refine Cut.a (execs_cut 1 ?_)
  refine segW5 w (s := ⟨h4, _, _, tk4, _⟩) B F4 X T C N4 W1 hco1 h97 hP hPD d2' d5 hap htl (by omega) hkt hk0 (hmore kt) hkpl.symm ?_
  intro ps5 codes5 h5 tk5 F5 N5 W5 hco5
  rw [drop24 _ 6 1 7 rfl]
  refine Cut.a (execs_cut 1 ?_)
  refine segW6 w (s := ⟨h5, _, _, tk5, _⟩) B F5 X T C N5 W5 hco5 h97 hP hPD d2' d4 hap (by omega) (by omega) (fun i hi => ?_) ?_
  · rw [List.take_take, Nat.min_eq_left (by omega)]
    exact pp_short hr (by rw [List.length_drop]; omega) hi
  intro o4' v4' ps6 codes6 h6 tk6 d4' F6 N6 W6 hco6
  rw [drop24 _ 7 1 8 rfl]
  refine Cut.a ?_
  have F7 : Fr h₀ L h6 (fun y => if y = PySem.Str.ofString "size" then some (.int ((r.tot : Nat) : Int) tz) else if y = PySem.Str.ofString "info" then some (.ref D) else lawM P nv O sl y) := Mine.Fr.congr F6 lawI_both
  refine segW7 w (s := ⟨h6, _, _, tk6, _⟩) B F7 X T N6 hco6 h97 hP hPD d2' d3 (by rw [List.length_map]; exact hpc) ?_ ?_
  · intro h7 tk7 hz F8 N8
    exact hbrk _ _ _ _ _ _ _ _ _ _ d2' d4' F8 N8 W6 hco6
  · intro o3' t3' n2 h7 tk7 hz d3' F8 N8
    have hpp := piece_cut hr (by rw [List.length_drop]; omega) hz
    refine hret r _ _ _ _ _ _ _ _ ap tp n2 _ _ _ _ hr hpp hap d2' d3' d4' F8 ?_ W6 hco6
    rw [bvals, List.map_append]
    exact N8
end
-- part L12
open PySem PySem.W PyProof.Rows
section
theorem woff_L12 : True := by
  w_top off
  trivial
theorem fillxL12 : (∃ x : OpenLaw, x = PySem.Challenge.rw_jg0015_01) ∧ (∃ k : Params → Frag, k = hd.heap_39) := by
  k_fill
  exact ⟨⟨_, rfl⟩, ⟨_, rfl⟩⟩
noncomputable def whTest : { t : PySem.Expr // ∃ b o p, lawR.1.body[6]? = some (.While t b o p) } := ⟨_, _, _, _, rfl⟩
theorem whTest_walk (w : World) {mean : ExcName → Option Value} {mg mb : PySem.Str → Option Value} {h₀ : Heap} {L fa P : Nat} {m : PySem.Str → Option Value} {s : Shared} {pcv : List Value} {n : Nat} {o5 o4 o3 o2 o1 : Obj} {ps : Array Value} {codes : List (Addr × Obj)} {d : Array UInt8} {ks : List Int} {pl : Nat} {t1 t3 : Tok}
   {Q : Bool → Shared → Prop}
  (B : Below callerA h₀ [] h₀) (F : Fr h₀ L s.heap m) (X : (hd.heap_39 w.params).In h₀) (T : Top topProg looseG mean mg mb h₀)
  (N : News h₀ L s.heap (lawPre L P pcv n o5 o4 o3 o2 o1 ++ (97, tabObj ps) :: codes)) (hco : ∀ q ∈ codes, P < q.1) (h97 : 97 < L) (hP : L + 1 + 1 + 1 + 1 + 1 < P)
  (d1 : o1.data = .cell (some (.bytes d t1))) (d3 : o3.data = .cell (some (.int (pl : Int) t3))) (hks : KBw.bInts d = ks) (hlen : ks.length ≤ 24)
  (hret : ∀ b h' tk, (b = true ↔ pl < ks.length) → Fr h₀ L h' m → News h₀ L h' (lawPre L P pcv n o5 o4 o3 o2 o1 ++ (97, tabObj ps) :: codes) → Q b { s with heap := h', toks := tk }) :
   wpAny (model PySem.Challenge.rw_jg0015_01.row.prog w) (callerA.deeper (envOfC lawR.1.name lawR.1.scope L fa (.ref 99))) (isTrue whTest.1 (envOfC lawR.1.name lawR.1.scope L fa (.ref 99)) (eval whTest.1 (envOfC lawR.1.name lawR.1.scope L fa (.ref 99)))) Q (fun _ _ => False) s := by
  dsimp only [lawPre, List.cons_append, List.nil_append] at N
  dsimp only [lawR, whTest]
  (try k_fold)
  repeat' (first | (k_unfold; (try dsimp only)) | (k_end; wrow_close) | (dsimp only; walk1) | walk1 | (leave1; try dsimp only) | fail "no step")
  rename Fr h₀ L _ _ => F9
  rename News h₀ L _ _ => N9
  exact hret _ _ _ (by rw [decide_eq_true_eq]; omega) F9 N9
local macro_rules | `(tactic| walk_at "exec While") => `(tactic| (refine Cut.out ?_))
def BJ (h₀ : Heap) (L P O sl : Nat) (nv : Option Value) (o5 o1 : Obj) (ks : List Int) (s : Shared) (k : Nat) (s' : Shared) : Prop :=
  ∃ (l : List (Array UInt8 × Tok)) (n : Nat) (o2 o3 o4 : Obj) (v2 v4 iv sv : Option Value) (ps : Array Value) (codes : List (Addr × Obj)) (pl : Nat) (t3 : Tok) (h' : Heap) (tk : Nat), s' = { s with heap := h', toks := tk } ∧ k = ks.length - pl ∧ pl ≤ ks.length ∧
    Fr h₀ L h' (lawI iv sv P nv O sl) ∧ News h₀ L h' (lawPre L P (bvals l) n o5 o4 o3 o2 o1 ++ (97, tabObj ps) :: codes) ∧ TabWf ps codes qLam ∧ (∀ q ∈ codes, P < q.1) ∧ o2.data = .cell v2 ∧ o3.data = .cell (some (.int (pl : Int) t3)) ∧ o4.data = .cell v4 ∧
    (∀ q ∈ l.map (fun p => KBw.bInts p.1), Piece q) ∧ (l.map (fun p => KBw.bInts p.1)).flatten = ks.take pl
theorem piece_len {q : List Int} (h : Piece q) : 2 ≤ q.length := by
  obtain ⟨⟨r, h1, h2⟩, _, _⟩ := h
  have := ppL_len _ _ _ h1
  omega
theorem pieces_len : ∀ {l : List (List Int)}, (∀ q ∈ l, Piece q) → 2 * l.length ≤ l.flatten.length
  | [], _ => Nat.le_refl _
  | q :: l, h => by
    have h1 := piece_len (h q (.head _))
    have h2 := pieces_len (l := l) fun x hx => h x (.tail _ hx)
    rw [List.flatten_cons, List.length_append, List.length_cons]
    omega
theorem segB (w : World) {mean : ExcName → Option Value} {mg mb : PySem.Str → Option Value} {h₀ : Heap} {L fa P O sl : Nat} {s : Shared} {o5 o4 o3 o2 o1 : Obj} {v2 v4 nv : Option Value} {d tl : Array UInt8} {ks kt : List Int} {t1 t3 t5 : Tok}
   {Q : Flow → Shared → Prop}
  (B : Below callerA h₀ [] h₀) (F : Fr h₀ L s.heap (lawM P nv O sl)) (X : (hd.heap_39 w.params).In h₀) (T : Top topProg looseG mean mg mb h₀) (C : CodeHd h₀ 99 97)
  (N : News h₀ L s.heap (lawPre L P [] 0 o5 o4 o3 o2 o1 ++ [(97, tabObj #[])])) (h97 : 97 < L) (hP : L + 1 + 1 + 1 + 1 + 1 < P)
  (d1 : o1.data = .cell (some (.bytes d t1))) (d2 : o2.data = .cell v2) (d3 : o3.data = .cell (some (.int 0 t3))) (d4 : o4.data = .cell v4) (d5 : o5.data = .cell (some (.bytes tl t5)))
  (hks : KBw.bInts d = ks) (hlen : ks.length ≤ 24) (htl : KBw.bInts tl = kt) (hkt : kt.length ≤ 5) (hk0 : 0 < kt.length)
  (hret : ∀ (l : List (Array UInt8 × Tok)) n o2 o3 o4 iv sv ps codes h' tk, (∀ q ∈ l.map (fun p => KBw.bInts p.1), Piece q) → (l.map (fun p => KBw.bInts p.1)).flatten.length ≤ 24 → Fr h₀ L h' (lawI iv sv P nv O sl) → News h₀ L h' (lawPre L P (bvals l) n o5 o4 o3 o2 o1 ++ (97, tabObj ps) :: codes) → (∀ q ∈ codes, P < q.1) → Q .next { s with heap := h', toks := tk }) :
   wpAny (model PySem.Challenge.rw_jg0015_01.row.prog w) (callerA.deeper (envOfC lawR.1.name lawR.1.scope L fa (.ref 99))) (execs ((lawR.1.body.drop 6).take 1) (envOfC lawR.1.name lawR.1.scope L fa (.ref 99))) Q (fun _ _ => False) s := by
  have main : ∀ {Q : Flow → Shared → Prop} {pos : Pos}, (∀ k s', BJ h₀ L P O sl nv o5 o1 ks s k s' → Q .next s') → wpAny (model PySem.Challenge.rw_jg0015_01.row.prog w) (callerA.deeper (envOfC lawR.1.name lawR.1.scope L fa (.ref 99))) (exec (.While whTest.1 whBody.1 [] pos) (envOfC lawR.1.name lawR.1.scope L fa (.ref 99))) Q (fun _ _ => False) s := by
    intro Q pos hq
    refine while_my (BJ h₀ L P O sl nv o5 o1 ks s) (ks.length - 0) ⟨[], 0, o2, o3, o4, v2, v4, none, none, #[], [], 0, t3, s.heap, s.toks, rfl, rfl, Nat.zero_le _, Mine.Fr.congr F fun y => ?fr, N, TabWf.nil, (fun _ h => nomatch h), d2, d3, d4, (fun _ h => nomatch h), rfl⟩ ?turn ?hE
    case hE => passes_own
    case fr =>
      show _ = (if y = _ then none else if y = _ then none else _)
      by_cases h1 : y = PySem.Str.ofString "size"
      · subst h1
        with_unfolding_all rfl
      · rw [if_neg h1]
        by_cases h2 : y = PySem.Str.ofString "info"
        · subst h2
          with_unfolding_all rfl
        · rw [if_neg h2]
    case turn =>
      rintro k s' ⟨l, n, o2, o3, o4, v2, v4, iv, sv, ps, codes, pl, t3, h', tk, rfl, rfl, hpl, F', N', W', hco, d2, d3, d4, hpc, hfl⟩
      have hl := pieces_len hpc
      rw [hfl, List.length_take, List.length_map] at hl
      refine whTest_walk w B F' X T N' hco h97 hP d1 d3 hks hlen ?_
      intro b h1 tk1 hb F1 N1
      cases b with
      | false =>
        rw [if_neg Bool.false_ne_true]
        exact hq _ _ ⟨l, n, o2, o3, o4, v2, v4, iv, sv, ps, codes, pl, t3, h1, tk1, rfl, rfl, hpl, F1, N1, W', hco, d2, d3, d4, hpc, hfl⟩
      | true =>
        rw [if_pos rfl]
        have hlt : pl < ks.length := hb.mp rfl
        refine whTurn w (s := ⟨h1, _, _, tk1, _⟩) B F1 X T C N1 W' hco h97 hP d1 d2 d3 d4 d5 hks hlen htl hkt hk0 hpl (by omega) ?_ ?_
        · intro iv' sv' o4' o2' v2' v4' ps' codes' h2 tk2 d2' d4' F2 N2 W2 hco2
          exact Cut.a (hq (ks.length - pl) _ ⟨l, n, o2', o3, o4', v2', v4', iv', sv', ps', codes', pl, t3, h2, tk2, rfl, rfl, hpl, F2, N2, W2, hco2, d2', d3, d4', hpc, hfl⟩)
        · intro r iv' sv' o4' o3' o2' v2' v4' t3' ap tp n2 ps' codes' h2 tk2 hr hpp hap d2' d3' d4' F2 N2 W2 hco2
          have hln := ppL_len _ _ _ hr
          rw [List.length_drop] at hln
          refine Cut.a ⟨ks.length - (pl + r.tot), by omega, l ++ [(ap, tp)], n2, o2', o3', o4', v2', v4', iv', sv', ps', codes', pl + r.tot, t3', h2, tk2, rfl, rfl, by omega, F2, N2, W2, hco2, d2', d3', d4', ?_, ?_⟩
          · intro q hq
            rw [List.map_append] at hq
            rcases List.mem_append.mp hq with hq | hq
            · exact hpc q hq
            · rw [List.mem_singleton.mp hq]
              show Piece (KBw.bInts ap)
              rw [hap]
              exact hpp
          · rw [List.map_append, List.flatten_append, hfl]
            show _ ++ (KBw.bInts ap ++ []) = _
            rw [List.append_nil, hap, List.take_add]
  dsimp only [lawR, List.take, List.drop]
  (try k_fold)
  repeat' (first | (k_unfold; (try dsimp only)) | (k_end; wrow_close) | (dsimp only; walk1) | walk1 | (leave1; try dsimp only) | fail "no step")
  refine Cut.a ?_
  refine main ?_
  rintro k s' ⟨l, n, o2, o3, o4, v2, v4, iv, sv, ps, codes, pl, t3, h', tk, rfl, rfl, hpl, F', N', W', hco, d2, d3, d4, hpc, hfl⟩
  repeat' (first | (k_unfold; (try dsimp only)) | (k_end; wrow_close) | (dsimp only; walk1) | walk1 | (leave1; try dsimp only) | fail "no step")
  exact hret l n o2 o3 o4 iv sv ps codes h' _ hpc (by rw [hfl, List.length_take]; omega) F' N' hco
end
-- part M1
open PySem PySem.W PyProof.Rows
section
theorem woff_M1 : True := by
  w_top off
  trivial
theorem fillxM1 : (∃ x : OpenLaw, x = PySem.Challenge.rw_jg0015_01) ∧ (∃ k : Params → Frag, k = hd.heap_39) := by
  k_fill
  exact ⟨⟨_, rfl⟩, ⟨_, rfl⟩⟩
theorem segC1 (w : World) {mean : ExcName → Option Value} {mg mb : PySem.Str → Option Value} {h₀ : Heap} {L fa P O sl : Nat} {s : Shared} {l : List (Array UInt8 × Tok)} {n : Nat} {o5 o4 o3 o2 o1 : Obj} {iv sv nv : Option Value} {ps : Array Value} {codes : List (Addr × Obj)}
   {Q : Flow → Shared → Prop}
  (B : Below callerA h₀ [] h₀) (F : Fr h₀ L s.heap (fun y => if y = PySem.Str.ofString "size" then sv else if y = PySem.Str.ofString "info" then iv else lawM P nv O sl y)) (X : (hd.heap_39 w.params).In h₀) (T : Top topProg looseG mean mg mb h₀)
  (N : News h₀ L s.heap (lawPre L P (bvals l) n o5 o4 o3 o2 o1 ++ (97, tabObj ps) :: codes)) (hlen : (l.map (fun p => KBw.bInts p.1)).flatten.length ≤ 24)
  (hret : ∀ (J : Array UInt8) (tj : Tok) (m : PySem.Str → Option Value) h' tk, KBw.bInts J = (l.map (fun p => KBw.bInts p.1)).flatten → Fr h₀ L h' (fun y => if y = PySem.Str.ofString "joined" then some (.bytes J tj) else m y) → News h₀ L h' [(L + 1 + 1 + 1 + 1 + 1, o5), (97, tabObj ps)] → Q .next { s with heap := h', toks := tk }) :
   wpAny (model PySem.Challenge.rw_jg0015_01.row.prog w) (callerA.deeper (envOfC lawR.1.name lawR.1.scope L fa (.ref 99))) (execs ((lawR.1.body.drop 7).take 1) (envOfC lawR.1.name lawR.1.scope L fa (.ref 99))) Q (fun _ _ => False) s := by
  dsimp only [lawPre, List.cons_append, List.nil_append] at N
  dsimp only [lawR, List.take, List.drop]
  (try k_fold)
  repeat' (first | (k_unfold; (try dsimp only)) | (k_end; wrow_close) | (dsimp only; walk1) | walk1 | (leave1; try dsimp only) | fail "no step")
  refine get_join ?_
  refine call_join (l := l) (a := P) (n := n) ?hsz ?_
  case hsz =>
    have e : (List.map (fun (p : Array UInt8 × Tok) => KBw.bInts p.1) l).flatten.length = (List.map (fun (x : Array UInt8 × Tok) => x.1.size) l).sum := by
      rw [List.length_flatten, List.map_map]
      congr 1
      refine List.map_congr_left fun p _ => ?_
      show (KBw.bInts p.1).length = _
      unfold KBw.bInts
      rw [List.length_map, Array.length_toList]
    omega
  refine KFB.if_not rfl ?_
  repeat' (first | (k_unfold; (try dsimp only)) | (k_end; wrow_close) | (dsimp only; walk1) | walk1 | (leave1; try dsimp only) | fail "no step")
  · exact (N _ (.head _)).1
  · rename Array.toList _ = _ => hJ
    rename Fr h₀ L _ _ => F9
    rename News h₀ L _ _ => N9
    refine hret _ _ _ _ _ ?_ F9 (cb_drop N9 fun p hp => ?_)
    · show List.map _ (Array.toList _) = _
      rw [hJ, List.map_flatten, List.map_map]
      rfl
    · rcases List.mem_cons.mp hp with rfl | hp
      · exact .tail _ (.head _)
      · rw [List.mem_singleton.mp hp]
        exact .tail _ (.tail _ (.tail _ (.tail _ (.tail _ (.tail _ (.head _))))))
end
end Mine
-- part M2
open PySem PySem.W PyProof.Rows
namespace Mine
theorem woff_M2 : True := by
  w_top off
  trivial
theorem fillxM2 : (∃ x : OpenLaw, x = PySem.Challenge.rw_jg0015_01) ∧ (∃ k : Params → Frag, k = hd.heap_39) := by
  k_fill
  exact ⟨⟨_, rfl⟩, ⟨_, rfl⟩⟩
local macro_rules | `(tactic| walk_at "call ref") => `(tactic| (refine Cut.out ?_))
theorem infoO_parts {d A3 A4 : Array UInt8} {h b z : List Int} {r : R} (hd : KBw.bInts d = h ++ (b ++ z)) (h3 : KBw.bInts A3 = h) (h4 : KBw.bInts A4 = b) (e1 : h.length = r.hdr) (e2 : b.length = r.len) (t1 t2 t3 t4 t5 t6 : Tok) (n : Nat) :
    infoO d r t1 t2 t3 t4 t5 t6 n = infoV (r.first / 64) (r.first / 32 % 2) r.tag A3 A4 (List.replicate r.tr 0).toArray t1 t2 t3 t4 t5 t6 n := by
  have c1 : (d.toList.take r.hdr).toArray = A3 := by
    apply bInts_inj
    rw [bInts_takeA, hd, h3, List.take_left' e1]
  have c2 : ((d.toList.drop r.hdr).take r.len).toArray = A4 := by
    apply bInts_inj
    have a := bInts_takeA (d.toList.drop r.hdr).toArray r.len
    rw [bInts_dropA] at a
    rw [show (d.toList.drop r.hdr).toArray.toList = d.toList.drop r.hdr from rfl] at a
    rw [a, hd, h4, List.drop_left' e1, List.take_left' e2]
  unfold infoO infoV
  rw [c1, c2]
theorem segC2 (w : World) {mean : ExcName → Option Value} {mg mb : PySem.Str → Option Value} {h₀ : Heap} {L fa : Nat} {s : Shared} {m : PySem.Str → Option Value} {J : Array UInt8} {jn : List Int} {tj : Tok} {o5 : Obj} {ps : Array Value}
   {Q : Flow → Shared → Prop}
  (B : Below callerA h₀ [] h₀) (F : Fr h₀ L s.heap (fun y => if y = PySem.Str.ofString "joined" then some (.bytes J tj) else m y)) (X : (hd.heap_39 w.params).In h₀) (T : Top topProg looseG mean mg mb h₀)
  (N : News h₀ L s.heap [(L + 1 + 1 + 1 + 1 + 1, o5), (97, tabObj ps)]) (hJ : KBw.bInts J = jn) (hlen : jn.length ≤ 24)
  (hret : ∀ U V tu tv h' tk, KBw.bInts U = 48 :: (jn.length : Int) :: jn → KBw.bInts V = [48, 128] ++ jn ++ [0, 0] → Fr h₀ L h' (fun y => if y = PySem.Str.ofString "endless" then some (.bytes V tv) else if y = PySem.Str.ofString "told" then some (.bytes U tu) else if y = PySem.Str.ofString "joined" then some (.bytes J tj) else m y) → News h₀ L h' [(L + 1 + 1 + 1 + 1 + 1, o5), (97, tabObj ps)] → Q .next { s with heap := h', toks := tk }) :
   wpAny (model PySem.Challenge.rw_jg0015_01.row.prog w) (callerA.deeper (envOfC lawR.1.name lawR.1.scope L fa (.ref 99))) (execs ((lawR.1.body.drop 8).take 2) (envOfC lawR.1.name lawR.1.scope L fa (.ref 99))) Q (fun _ _ => False) s := by
  dsimp only [lawR, List.take, List.drop]
  (try k_fold)
  repeat' (first | (k_unfold; (try dsimp only)) | (k_end; wrow_close) | (dsimp only; walk1) | walk1 | (leave1; try dsimp only) | fail "no step")
  refine Cut.a ?_
  refine' emit_ctc w _ _ _ _ _ _ _ hJ ?hle ?hB ?hF ?hX ?hN ?hT ?hk ?hd ?hu ?hr ?he
  case hle => omega
  case hB => exact B
  case hF => exact F
  case hX => exact X
  case hN => exact N
  case hT => exact T
  case hk => exact rfl
  case hd => ktr_room
  case hu => ktr_units
  case he =>
    intro e g' h' tk hF
    exact hF.elim
  case hr =>
    intro v own h' tk hp F1 N1 l1
    obtain ⟨ho1, U, tu, hv1, hU⟩ := hp
    subst ho1
    subst hv1
    simp only [List.nil_append] at N1
    (try dsimp only)
    (try k_fold)
    repeat' (first | (k_unfold; (try dsimp only)) | (k_end; wrow_close) | (dsimp only; walk1) | walk1 | (leave1; try dsimp only) | fail "no step")
    rename KBw.bInts (_ ++ J ++ _) = _ => hV
    rename Fr h₀ L _ _ => F9
    rename News h₀ L _ _ => N9
    exact hret _ _ _ _ _ _ hU hV F9 N9
theorem segC3 (w : World) {mean : ExcName → Option Value} {mg mb : PySem.Str → Option Value} {h₀ : Heap} {L fa : Nat} {s : Shared} {m : PySem.Str → Option Value} {J U V tl : Array UInt8} {jn kt : List Int} {tj tu tv t5 : Tok} {o5 : Obj} {ps : Array Value}
   {Q : Flow → Shared → Prop}
  (B : Below callerA h₀ [] h₀) (F : Fr h₀ L s.heap (fun y => if y = PySem.Str.ofString "endless" then some (.bytes V tv) else if y = PySem.Str.ofString "told" then some (.bytes U tu) else if y = PySem.Str.ofString "joined" then some (.bytes J tj) else m y)) (X : (hd.heap_39 w.params).In h₀) (T : Top topProg looseG mean mg mb h₀)
  (N : News h₀ L s.heap [(L + 1 + 1 + 1 + 1 + 1, o5), (97, tabObj ps)]) (d5 : o5.data = .cell (some (.bytes tl t5))) (hJ : KBw.bInts J = jn) (hlen : jn.length ≤ 24) (hU : KBw.bInts U = 48 :: (jn.length : Int) :: jn) (htl : KBw.bInts tl = kt) (hkt : kt.length ≤ 5)
  (hret : ∀ h' tk, Fr h₀ L h' (fun y => if y = PySem.Str.ofString "endless" then some (.bytes V tv) else if y = PySem.Str.ofString "told" then some (.bytes U tu) else if y = PySem.Str.ofString "joined" then some (.bytes J tj) else m y) → News h₀ L h' [(L + 1 + 1 + 1 + 1 + 1, o5), (97, tabObj ps)] → Q .next { s with heap := h', toks := tk }) :
   wpAny (model PySem.Challenge.rw_jg0015_01.row.prog w) (callerA.deeper (envOfC lawR.1.name lawR.1.scope L fa (.ref 99))) (execs ((lawR.1.body.drop 10).take 1) (envOfC lawR.1.name lawR.1.scope L fa (.ref 99))) Q (fun _ _ => False) s := by
  have hpp := pp_told (J := jn) (z := kt) hlen
  have hUl : (48 :: (jn.length : Int) :: jn).length = jn.length + 2 := rfl
  dsimp only [lawR, List.take, List.drop]
  (try k_fold)
  repeat' (first | (k_unfold; (try dsimp only)) | (k_end; wrow_close) | (dsimp only; walk1) | walk1 | (leave1; try dsimp only) | fail "no step")
  refine Cut.a ?_
  rename KBw.bInts (U ++ tl) = _ => hUt
  rename Fr h₀ L _ _ => F0
  rename News h₀ L _ _ => N0
  refine' parse_ctc0 w _ _ _ _ hUt ?hle ?hB ?hF ?hX ?hN ?hT ?hk ?hd ?hu ?hr ?he
  case hle => rw [List.length_append, hUl]; omega
  case hB => exact B
  case hF => exact F0
  case hX => exact X
  case hN => exact N0
  case hT => exact T
  case hk => exact rfl
  case hd => ktr_room
  case hu => ktr_units
  case he =>
    intro e g' h' tk hF
    exact absurd (hF _ hpp).1 Bool.false_ne_true
  case hr =>
    intro v own h' tk hp F1 N1 l1
    obtain ⟨r1, D1, ya, yb, yc, yd, ye, yf, yn, hr1, hs1, ho1, hv1⟩ := hp
    subst ho1
    subst hv1
    have hre := hpp
    rw [show (48 :: (jn.length : Int) :: (jn ++ kt)) = 48 :: (jn.length : Int) :: jn ++ kt from rfl, hr1] at hre
    cases hre
    rw [infoO_parts (h := [48, (jn.length : Int)]) (b := jn) (z := kt) (A3 := (U.toList.take 2).toArray) (A4 := J) hUt (by rw [bInts_takeA, hU]; rfl) hJ rfl rfl] at N1
    dsimp only [List.cons_append, List.nil_append, infoV] at N1
    (try dsimp only)
    (try k_fold)
    repeat' (first | (k_unfold; (try dsimp only)) | (k_end; wrow_close) | (dsimp only; walk1) | walk1 | (leave1; try dsimp only) | fail "no step")
    · rename (_ != _) = true => hne
      rw [bne_self_eq_false] at hne
      cases hne
    · refine Cut.a ?_
      rename Fr h₀ L _ _ => F9
      rename News h₀ L _ _ => N9
      refine' peek_ctc w _ _ _ _ hUt ?hle ?hB ?hF ?hX ?hN ?hT ?hk ?hd ?hu ?hr ?he
      case hle => rw [List.length_append, hUl]; omega
      case hB => exact B
      case hF => exact F9
      case hX => exact X
      case hN => exact N9
      case hT => exact T
      case hk => exact rfl
      case hd => ktr_room
      case hu => ktr_units
      case he =>
        intro e g' h' tk hF
        rw [hr1] at hF
        cases hF
      case hr =>
        intro v own h' tk hp F' N' o'
        obtain ⟨ho, r', t', hr', hv⟩ := hp
        subst ho
        subst hv
        rw [hr1] at hr'
        cases hr'
        rw [show R.tot ⟨48, 16, 2, jn.length, 0⟩ = jn.length + 2 from by simp only [R.tot]; omega]
        simp only [List.nil_append] at N'
        (try dsimp only)
        (try k_fold)
        repeat' (first | (k_unfold; (try dsimp only)) | (k_end; wrow_close) | (dsimp only; walk1) | walk1 | (leave1; try dsimp only) | fail "no step")
        · rename _ ≠ _ => hne
          exact absurd rfl hne
        · exact hret _ _ F' (cb_drop N' fun p hp => .tail _ hp)
-- part M3
open PySem PySem.W PyProof.Rows
section
theorem woff_M3 : True := by
  w_top off
  trivial
theorem fillxM3 : (∃ x : OpenLaw, x = PySem.Challenge.rw_jg0015_01) ∧ (∃ k : Params → Frag, k = hd.heap_39) := by
  k_fill
  exact ⟨⟨_, rfl⟩, ⟨_, rfl⟩⟩
local macro_rules | `(tactic| walk_at "compareOp NotEq ref ref") => `(tactic| (refine Cut.out ?_))
theorem cmp6_ne {prog : Program} {w : World} {A : Around} {E : Value → Shared → Prop} {s : Shared} {Q : Value → Shared → Prop} {g : Heap} {L : Addr} {news : List (Addr × Obj)} {D D2 : Addr} {i0 i1 i2 j0 j1 j2 : Int} {a3 a4 a5 b3 b4 b5 : Array UInt8} {ta tb tc td te tf ya yb yc yd ye yf : Tok} {n n2 : Nat}
   (N : News g L s.heap news) (h1 : (D, infoV i0 i1 i2 a3 a4 a5 ta tb tc td te tf n) ∈ news) (h2 : (D2, infoV j0 j1 j2 b3 b4 b5 ya yb yc yd ye yf n2) ∈ news) (hu : A.units < cLine)
   (e0 : i0 = j0) (e1 : i1 = j1) (e2 : i2 = j2) (e3 : a3 = b3) (e4 : a4 = b4) (e5 : a5 = b5) (h : Q (.bool false) s) :
    wpAny (model prog w) A (compareOp .NotEq (.ref D) (.ref D2)) Q E s := by
  subst e0 e1 e2 e3 e4 e5
  exact infoV_ne N h1 h2 hu h
theorem segC4 (w : World) {mean : ExcName → Option Value} {mg mb : PySem.Str → Option Value} {h₀ : Heap} {L fa : Nat} {s : Shared} {m : PySem.Str → Option Value} {J U V tl : Array UInt8} {jn kt : List Int} {tj tu tv t5 : Tok} {o5 : Obj} {ps : Array Value}
   {Q : Flow → Shared → Prop}
  (B : Below callerA h₀ [] h₀) (F : Fr h₀ L s.heap (fun y => if y = PySem.Str.ofString "endless" then some (.bytes V tv) else if y = PySem.Str.ofString "told" then some (.bytes U tu) else if y = PySem.Str.ofString "joined" then some (.bytes J tj) else m y)) (X : (hd.heap_39 w.params).In h₀) (T : Top topProg looseG mean mg mb h₀)
  (N : News h₀ L s.heap [(L + 1 + 1 + 1 + 1 + 1, o5), (97, tabObj ps)]) (d5 : o5.data = .cell (some (.bytes tl t5))) (hJ : KBw.bInts J = jn) (hlen : jn.length ≤ 24) (hV : KBw.bInts V = [48, 128] ++ jn ++ [0, 0]) (htl : KBw.bInts tl = kt) (hkt : kt.length ≤ 5)
  (hpp : ppL 11 ([48, 128] ++ jn ++ [0, 0] ++ kt) = some ⟨48, 16, 2, jn.length, 2⟩)
  (hret : ∀ h' tk, Fr h₀ L h' (fun y => if y = PySem.Str.ofString "endless" then some (.bytes V tv) else if y = PySem.Str.ofString "told" then some (.bytes U tu) else if y = PySem.Str.ofString "joined" then some (.bytes J tj) else m y) → News h₀ L h' [(L + 1 + 1 + 1 + 1 + 1, o5), (97, tabObj ps)] → Q .next { s with heap := h', toks := tk }) :
   wpAny (model PySem.Challenge.rw_jg0015_01.row.prog w) (callerA.deeper (envOfC lawR.1.name lawR.1.scope L fa (.ref 99))) (execs ((lawR.1.body.drop 11).take 1) (envOfC lawR.1.name lawR.1.scope L fa (.ref 99))) Q (fun _ _ => False) s := by
  have hVl : ([48, 128] ++ jn ++ [0, 0]).length = jn.length + 4 := by simp
  dsimp only [lawR, List.take, List.drop]
  (try k_fold)
  repeat' (first | (k_unfold; (try dsimp only)) | (k_end; wrow_close) | (dsimp only; walk1) | walk1 | (leave1; try dsimp only) | fail "no step")
  refine Cut.a ?_
  rename KBw.bInts (V ++ tl) = _ => hVt
  rename Fr h₀ L _ _ => F0
  rename News h₀ L _ _ => N0
  refine' parse_ctc0 w _ _ _ _ hVt ?hle ?hB ?hF ?hX ?hN ?hT ?hk ?hd ?hu ?hr ?he
  case hle => rw [List.length_append, hVl]; omega
  case hB => exact B
  case hF => exact F0
  case hX => exact X
  case hN => exact N0
  case hT => exact T
  case hk => exact rfl
  case hd => ktr_room
  case hu => ktr_units
  case he =>
    intro e g' h' tk hF
    exact absurd (hF _ hpp).1 Bool.false_ne_true
  case hr =>
    intro v own h' tk hp F1 N1 l1
    obtain ⟨r1, D1, ya, yb, yc, yd, ye, yf, yn, hr1, hs1, ho1, hv1⟩ := hp
    subst ho1
    subst hv1
    rw [hpp] at hr1
    cases hr1
    rw [infoO_parts (h := [48, 128]) (b := jn) (z := [0, 0] ++ kt) (A3 := #[48, 128]) (A4 := J) (hVt.trans (by simp only [List.append_assoc])) rfl hJ rfl rfl] at N1
    dsimp only [List.cons_append, List.nil_append, infoV] at N1
    (try dsimp only)
    (try k_fold)
    repeat' (first | (k_unfold; (try dsimp only)) | (k_end; wrow_close) | (dsimp only; walk1) | walk1 | (leave1; try dsimp only) | fail "no step")
    refine Cut.a ?_
    rename News h₀ L _ _ => N9
    refine cmp6_ne N9 (.tail _ (.head _)) (.head _) ?hu rfl rfl rfl rfl rfl rfl ?_
    case hu => ktr_units
    have N8 := cb_drop N9 fun _ h => List.Mem.tail _ (List.Mem.tail _ h)
    clear N9
    (try dsimp only)
    repeat' (first | (k_unfold; (try dsimp only)) | (k_end; wrow_close) | (dsimp only; walk1) | walk1 | (leave1; try dsimp only) | fail "no step")
    refine Cut.a ?_
    rename Fr h₀ L _ _ => F9
    refine' peek_ctc w _ _ _ _ hVt ?hle ?hB ?hF ?hX ?hN ?hT ?hk ?hd ?hu ?hr ?he
    case hle => rw [List.length_append, hVl]; omega
    case hB => exact B
    case hF => exact F9
    case hX => exact X
    case hN => exact N8
    case hT => exact T
    case hk => exact rfl
    case hd => ktr_room
    case hu => ktr_units
    case he =>
      intro e g' h' tk hF
      rw [hpp] at hF
      cases hF
    case hr =>
      intro v own h' tk hp F' N' o'
      obtain ⟨ho, r', t', hr', hv⟩ := hp
      subst ho
      subst hv
      rw [hpp] at hr'
      cases hr'
      simp only [List.nil_append] at N'
      (try dsimp only)
      (try k_fold)
      repeat' (first | (k_unfold; (try dsimp only)) | (k_end; wrow_close) | (dsimp only; walk1) | walk1 | (leave1; try dsimp only) | fail "no step")
      · rename _ ≠ _ => hne
        refine absurd ?_ hne
        simp only [R.tot, List.length_cons, List.length_nil]
      · exact hret _ _ F' N'
theorem segC5 (w : World) {mean : ExcName → Option Value} {mg mb : PySem.Str → Option Value} {h₀ : Heap} {L fa : Nat} {s : Shared} {m : PySem.Str → Option Value} {J U V : Array UInt8} {jn : List Int} {tj tu tv : Tok} {o5 : Obj} {ps : Array Value}
   {Q : Flow → Shared → Prop}
  (B : Below callerA h₀ [] h₀) (F : Fr h₀ L s.heap (fun y => if y = PySem.Str.ofString "endless" then some (.bytes V tv) else if y = PySem.Str.ofString "told" then some (.bytes U tu) else if y = PySem.Str.ofString "joined" then some (.bytes J tj) else m y)) (X : (hd.heap_39 w.params).In h₀) (T : Top topProg looseG mean mg mb h₀)
  (N : News h₀ L s.heap [(L + 1 + 1 + 1 + 1 + 1, o5), (97, tabObj ps)]) (hJ : KBw.bInts J = jn) (hlen : jn.length ≤ 24)
  (hret : ∀ G tg h' tk, KBw.bInts G = [127, 129, 3, 130, 0, (jn.length : Int)] ++ jn → Fr h₀ L h' (fun y => if y = PySem.Str.ofString "long" then some (.bytes G tg) else if y = PySem.Str.ofString "endless" then some (.bytes V tv) else if y = PySem.Str.ofString "told" then some (.bytes U tu) else if y = PySem.Str.ofString "joined" then some (.bytes J tj) else m y) → News h₀ L h' [(L + 1 + 1 + 1 + 1 + 1, o5), (97, tabObj ps)] → Q .next { s with heap := h', toks := tk }) :
   wpAny (model PySem.Challenge.rw_jg0015_01.row.prog w) (callerA.deeper (envOfC lawR.1.name lawR.1.scope L fa (.ref 99))) (execs ((lawR.1.body.drop 12).take 1) (envOfC lawR.1.name lawR.1.scope L fa (.ref 99))) Q (fun _ _ => False) s := by
  dsimp only [lawR, List.take, List.drop]
  (try k_fold)
  repeat' (first | (k_unfold; (try dsimp only)) | (k_end; wrow_close) | (dsimp only; walk1) | walk1 | (leave1; try dsimp only) | fail "no step")
  rename KBw.bInts (_ ++ J) = _ => hG
  rename (Int.toNat (jn.length : Int)).toUInt8.toNat = (jn.length : Int) => hj
  rename Fr h₀ L _ _ => F9
  rename News h₀ L _ _ => N9
  refine hret _ _ _ _ (hG.trans ?_) F9 (cb_drop N9 fun p hp => .tail _ hp)
  simp only [List.map_cons, List.map_nil, hj]
  rfl
end
-- part M4
open PySem PySem.W PyProof.Rows
section
theorem woff_M4 : True := by
  w_top off
  trivial
theorem fillxM4 : (∃ x : OpenLaw, x = PySem.Challenge.rw_jg0015_01) ∧ (∃ k : Params → Frag, k = hd.heap_39) := by
  k_fill
  exact ⟨⟨_, rfl⟩, ⟨_, rfl⟩⟩
local macro_rules | `(tactic| walk_at "compareOp NotEq ref ref") => `(tactic| (refine Cut.out ?_))
theorem segC6 (w : World) {mean : ExcName → Option Value} {mg mb : PySem.Str → Option Value} {h₀ : Heap} {L fa : Nat} {s : Shared} {m : PySem.Str → Option Value} {J U V G tl : Array UInt8} {jn kt : List Int} {tj tu tv tg t5 : Tok} {o5 : Obj} {ps : Array Value}
   {Q : Flow → Shared → Prop}
  (B : Below callerA h₀ [] h₀) (F : Fr h₀ L s.heap (fun y => if y = PySem.Str.ofString "long" then some (.bytes G tg) else if y = PySem.Str.ofString "endless" then some (.bytes V tv) else if y = PySem.Str.ofString "told" then some (.bytes U tu) else if y = PySem.Str.ofString "joined" then some (.bytes J tj) else m y)) (X : (hd.heap_39 w.params).In h₀) (T : Top topProg looseG mean mg mb h₀)
  (N : News h₀ L s.heap [(L + 1 + 1 + 1 + 1 + 1, o5), (97, tabObj ps)]) (d5 : o5.data = .cell (some (.bytes tl t5))) (hJ : KBw.bInts J = jn) (hlen : jn.length ≤ 24) (hV : KBw.bInts G = [127, 129, 3, 130, 0, (jn.length : Int)] ++ jn) (htl : KBw.bInts tl = kt) (hkt : kt.length ≤ 5)
  (hpp : ppL 11 ([127, 129, 3, 130, 0, (jn.length : Int)] ++ jn ++ kt) = some ⟨127, 131, 6, jn.length, 0⟩)
  (hret : ∀ h' tk, Fr h₀ L h' (fun y => if y = PySem.Str.ofString "long" then some (.bytes G tg) else if y = PySem.Str.ofString "endless" then some (.bytes V tv) else if y = PySem.Str.ofString "told" then some (.bytes U tu) else if y = PySem.Str.ofString "joined" then some (.bytes J tj) else m y) → News h₀ L h' [(L + 1 + 1 + 1 + 1 + 1, o5), (97, tabObj ps)] → Q .next { s with heap := h', toks := tk }) :
   wpAny (model PySem.Challenge.rw_jg0015_01.row.prog w) (callerA.deeper (envOfC lawR.1.name lawR.1.scope L fa (.ref 99))) (execs ((lawR.1.body.drop 13).take 1) (envOfC lawR.1.name lawR.1.scope L fa (.ref 99))) Q (fun _ _ => False) s := by
  have hVl : ([127, 129, 3, 130, 0, (jn.length : Int)] ++ jn).length = jn.length + 6 := by simp
  dsimp only [lawR, List.take, List.drop]
  (try k_fold)
  repeat' (first | (k_unfold; (try dsimp only)) | (k_end; wrow_close) | (dsimp only; walk1) | walk1 | (leave1; try dsimp only) | fail "no step")
  refine Cut.a ?_
  rename KBw.bInts (G ++ tl) = _ => hVt
  rename Fr h₀ L _ _ => F0
  rename News h₀ L _ _ => N0
  refine' parse_ctc0 w _ _ _ _ hVt ?hle ?hB ?hF ?hX ?hN ?hT ?hk ?hd ?hu ?hr ?he
  case hle => rw [List.length_append, hVl]; omega
  case hB => exact B
  case hF => exact F0
  case hX => exact X
  case hN => exact N0
  case hT => exact T
  case hk => exact rfl
  case hd => ktr_room
  case hu => ktr_units
  case he =>
    intro e g' h' tk hF
    exact absurd (hF _ hpp).1 Bool.false_ne_true
  case hr =>
    intro v own h' tk hp F1 N1 l1
    obtain ⟨r1, D1, ya, yb, yc, yd, ye, yf, yn, hr1, hs1, ho1, hv1⟩ := hp
    subst ho1
    subst hv1
    rw [hpp] at hr1
    cases hr1
    rw [infoO_parts (h := [127, 129, 3, 130, 0, (jn.length : Int)]) (b := jn) (z := kt) (A3 := (G.toList.take 6).toArray) (A4 := J) (hVt.trans (by simp only [List.append_assoc])) (by rw [bInts_takeA, hV]; rfl) hJ rfl rfl] at N1
    dsimp only [List.cons_append, List.nil_append, infoV] at N1
    (try dsimp only)
    (try k_fold)
    repeat' (first | (k_unfold; (try dsimp only)) | (k_end; wrow_close) | (dsimp only; walk1) | walk1 | (leave1; try dsimp only) | fail "no step")
    refine Cut.a ?_
    rename News h₀ L _ _ => N9
    rename KBw.bInts (KBy.picked G none (some 6)) = _ => hpk
    have e6 : (G.toList.take 6).toArray = KBy.picked G none (some 6) := by
      apply bInts_inj
      rw [bInts_takeA, hV, hpk, clip_take (by decide)]
      rfl
    refine cmp6_ne N9 (.tail _ (.head _)) (.head _) ?hu rfl rfl rfl e6 rfl rfl ?_
    case hu => ktr_units
    have N8 := cb_drop N9 fun _ h => List.Mem.tail _ (List.Mem.tail _ h)
    clear N9
    (try dsimp only)
    repeat' (first | (k_unfold; (try dsimp only)) | (k_end; wrow_close) | (dsimp only; walk1) | walk1 | (leave1; try dsimp only) | fail "no step")
    refine Cut.a ?_
    rename Fr h₀ L _ _ => F9
    refine' peek_ctc w _ _ _ _ hVt ?hle ?hB ?hF ?hX ?hN ?hT ?hk ?hd ?hu ?hr ?he
    case hle => rw [List.length_append, hVl]; omega
    case hB => exact B
    case hF => exact F9
    case hX => exact X
    case hN => exact N8
    case hT => exact T
    case hk => exact rfl
    case hd => ktr_room
    case hu => ktr_units
    case he =>
      intro e g' h' tk hF
      rw [hpp] at hF
      cases hF
    case hr =>
      intro v own h' tk hp F' N' o'
      obtain ⟨ho, r', t', hr', hv⟩ := hp
      subst ho
      subst hv
      rw [hpp] at hr'
      cases hr'
      simp only [List.nil_append] at N'
      (try dsimp only)
      (try k_fold)
      repeat' (first | (k_unfold; (try dsimp only)) | (k_end; wrow_close) | (dsimp only; walk1) | walk1 | (leave1; try dsimp only) | fail "no step")
      · rename _ ≠ _ => hne
        refine absurd ?_ hne
        simp only [R.tot, List.length_cons, List.length_nil]
        omega
      · exact hret _ _ F' N'
end
-- part M5
open PySem PySem.W PyProof.Rows
section
theorem woff_M5 : True := by
  w_top off
  trivial
local macro_rules | `(tactic| walk_at "my pad") => `(tactic| skip)
theorem fillxM5 : (∃ x : OpenLaw, x = PySem.Challenge.rw_jg0015_01) ∧ (∃ k : Params → Frag, k = hd.heap_39) := by
  k_fill
  exact ⟨⟨_, rfl⟩, ⟨_, rfl⟩⟩
local macro_rules | `(tactic| walk_at "compareOp Eq ref ref") => `(tactic| (refine Cut.out ?_))
theorem cmp6_eq {prog : Program} {w : World} {A : Around} {E : Value → Shared → Prop} {s : Shared} {Q : Value → Shared → Prop} {g : Heap} {L : Addr} {news : List (Addr × Obj)} {D D2 : Addr} {i0 i1 i2 j0 j1 j2 : Int} {a3 a4 a5 b3 b4 b5 : Array UInt8} {ta tb tc td te tf ya yb yc yd ye yf : Tok} {n n2 : Nat}
   (N : News g L s.heap news) (h1 : (D, infoV i0 i1 i2 a3 a4 a5 ta tb tc td te tf n) ∈ news) (h2 : (D2, infoV j0 j1 j2 b3 b4 b5 ya yb yc yd ye yf n2) ∈ news) (hu : A.units < cLine)
   (e0 : i0 = j0) (e1 : i1 = j1) (e2 : i2 = j2) (e3 : a3 = b3) (e4 : a4 = b4) (e5 : a5 = b5) (h : Q (.bool true) s) :
    wpAny (model prog w) A (compareOp .Eq (.ref D) (.ref D2)) Q E s := by
  subst e0 e1 e2 e3 e4 e5
  refine tup_eq (tup_of N h1) (tup_of N h2) infoV_cmp hu ?_
  simp only [beq_self_eq_true, List.all_cons, List.all_nil, id, Bool.and_self]
  exact h
theorem segC7 (w : World) {mean : ExcName → Option Value} {mg mb : PySem.Str → Option Value} {h₀ : Heap} {L fa : Nat} {s : Shared} {m : PySem.Str → Option Value} {J G U V : Array UInt8} {jn : List Int} {tj tu tv tg : Tok} {o5 : Obj} {ps : Array Value}
   {Q : Flow → Shared → Prop}
  (B : Below callerA h₀ [] h₀) (F : Fr h₀ L s.heap (fun y => if y = PySem.Str.ofString "long" then some (.bytes G tg) else if y = PySem.Str.ofString "endless" then some (.bytes V tv) else if y = PySem.Str.ofString "told" then some (.bytes U tu) else if y = PySem.Str.ofString "joined" then some (.bytes J tj) else m y)) (X : (hd.heap_39 w.params).In h₀) (T : Top topProg looseG mean mg mb h₀)
  (N : News h₀ L s.heap [(L + 1 + 1 + 1 + 1 + 1, o5), (97, tabObj ps)]) (hJ : KBw.bInts J = jn) (hlen : jn.length ≤ 24)
  (hret : ∀ (H : Array UInt8) (th : Tok) (m' : PySem.Str → Option Value) h' tk, KBw.bInts H = [48, 128, 36, 128] ++ jn ++ [0, 0, 0, 0] → Fr h₀ L h' (fun y => if y = PySem.Str.ofString "nested" then some (.bytes H th) else m' y) → News h₀ L h' [(L + 1 + 1 + 1 + 1 + 1, o5), (97, tabObj ps)] → Q .next { s with heap := h', toks := tk }) :
   wpAny (model PySem.Challenge.rw_jg0015_01.row.prog w) (callerA.deeper (envOfC lawR.1.name lawR.1.scope L fa (.ref 99))) (execs ((lawR.1.body.drop 14).take 1) (envOfC lawR.1.name lawR.1.scope L fa (.ref 99))) Q (fun _ _ => False) s := by
  dsimp only [lawR, List.take, List.drop]
  (try k_fold)
  repeat' (first | (k_unfold; (try dsimp only)) | (k_end; wrow_close) | (dsimp only; walk1) | walk1 | (leave1; try dsimp only) | fail "no step")
  rename KBw.bInts (_ ++ J ++ _) = _ => hG
  rename Fr h₀ L _ _ => F9
  rename News h₀ L _ _ => N9
  refine hret _ _ _ _ _ (hG.trans ?_) F9 (cb_drop N9 fun p hp => .tail _ (.tail _ hp))
  rfl
theorem segC8 (w : World) {mean : ExcName → Option Value} {mg mb : PySem.Str → Option Value} {h₀ : Heap} {L fa : Nat} {s : Shared} {m : PySem.Str → Option Value} {H tl : Array UInt8} {jn kt : List Int} {th t5 : Tok} {o5 : Obj} {ps : Array Value}
   {Q : Flow → Shared → Prop}
  (B : Below callerA h₀ [] h₀) (F : Fr h₀ L s.heap (fun y => if y = PySem.Str.ofString "nested" then some (.bytes H th) else m y)) (X : (hd.heap_39 w.params).In h₀) (T : Top topProg looseG mean mg mb h₀)
  (N : News h₀ L s.heap [(L + 1 + 1 + 1 + 1 + 1, o5), (97, tabObj ps)]) (d5 : o5.data = .cell (some (.bytes tl t5))) (hV : KBw.bInts H = [48, 128, 36, 128] ++ jn ++ [0, 0, 0, 0]) (hlen : jn.length ≤ 24) (htl : KBw.bInts tl = kt) (hkt : kt.length ≤ 5)
  (hpp : ppL 11 ([48, 128, 36, 128] ++ jn ++ [0, 0, 0, 0] ++ kt) = some ⟨48, 16, 2, jn.length + 4, 2⟩)
  (hret : ∀ m' h' tk, Fr h₀ L h' m' → News h₀ L h' [(L + 1 + 1 + 1 + 1 + 1, o5), (97, tabObj ps)] → Q (.ret (.bool true)) { s with heap := h', toks := tk }) :
   wpAny (model PySem.Challenge.rw_jg0015_01.row.prog w) (callerA.deeper (envOfC lawR.1.name lawR.1.scope L fa (.ref 99))) (execs (lawR.1.body.drop 15) (envOfC lawR.1.name lawR.1.scope L fa (.ref 99))) Q (fun _ _ => False) s := by
  have hVl : ([48, 128, 36, 128] ++ jn ++ [0, 0, 0, 0]).length = jn.length + 8 := by simp
  dsimp only [lawR, List.drop]
  (try k_fold)
  repeat' (first | (k_unfold; (try dsimp only)) | (k_end; wrow_close) | (dsimp only; walk1) | walk1 | (leave1; try dsimp only) | fail "no step")
  refine Cut.a ?_
  rename KBw.bInts (H ++ tl) = _ => hVt
  rename Fr h₀ L _ _ => F0
  rename News h₀ L _ _ => N0
  refine' parse_ctc0 w _ _ _ _ hVt ?hle ?hB ?hF ?hX ?hN ?hT ?hk ?hd ?hu ?hr ?he
  case hle => rw [List.length_append, hVl]; omega
  case hB => exact B
  case hF => exact F0
  case hX => exact X
  case hN => exact N0
  case hT => exact T
  case hk => exact rfl
  case hd => ktr_room
  case hu => ktr_units
  case he =>
    intro e g' h' tk hF
    exact absurd (hF _ hpp).1 Bool.false_ne_true
  case hr =>
    intro v own h' tk hp F1 N1 l1
    obtain ⟨r1, D1, ya, yb, yc, yd, ye, yf, yn, hr1, hs1, ho1, hv1⟩ := hp
    subst ho1
    subst hv1
    rw [hpp] at hr1
    cases hr1
    have h2b : KBw.bInts ((H.toList.drop 2).take (jn.length + 4)).toArray = [36, 128] ++ jn ++ [0, 0] := by
      have a := bInts_takeA (H.toList.drop 2).toArray (jn.length + 4)
      rw [bInts_dropA, hV] at a
      refine a.trans ?_
      show List.take (jn.length + 4) ([36, 128] ++ jn ++ ([0, 0] ++ [0, 0])) = _
      rw [← List.append_assoc, List.take_left' (by simp)]
    rw [infoO_parts (h := [48, 128]) (b := [36, 128] ++ jn ++ [0, 0]) (z := [0, 0] ++ kt) (A3 := #[48, 128]) (A4 := ((H.toList.drop 2).take (jn.length + 4)).toArray) (hVt.trans (by simp)) rfl h2b rfl (by simp)] at N1
    dsimp only [List.cons_append, List.nil_append, infoV] at N1
    (try dsimp only)
    (try k_fold)
    repeat' (first | (k_unfold; (try dsimp only)) | (k_end; wrow_close) | (dsimp only; walk1) | walk1 | (leave1; try dsimp only) | fail "no step")
    refine Cut.a ?_
    rename News h₀ L _ _ => N9
    rename KBw.bInts (KBy.picked H none _) = _ => hq1
    rename KBw.bInts (KBy.picked H (some 2) _) = _ => hq2
    have e3 : (#[48, 128] : Array UInt8) = KBy.picked H none (some 2) := by
      apply bInts_inj
      rw [hq1, clip_take (by decide)]
      rfl
    rw [hVl] at hq2
    have hc1 : ∀ i : Int, i = (jn.length : Int) + 6 → clipAt (jn.length + 8) i = jn.length + 6 := by
      intro i hi
      rw [clip_in (by omega) (by omega)]
      omega
    have hc2 : clipAt (jn.length + 8) 2 = 2 := clip_in (by decide) (by omega)
    have e4 := bInts_inj (h2b.trans (Eq.symm (hq2.trans (by
      rw [hc1 _ (by simp only [List.length_cons, List.length_nil]; omega), hc2]
      show List.take (jn.length + 6 - 2) ([36, 128] ++ jn ++ ([0, 0] ++ [0, 0])) = _
      rw [show jn.length + 6 - 2 = jn.length + 4 by omega, ← List.append_assoc, List.take_left' (by simp)]))))
    refine cmp6_eq N9 (.tail _ (.head _)) (.head _) ?hu rfl rfl rfl e3 e4 rfl ?_
    case hu => ktr_units
    have N8 := cb_drop N9 fun _ h => List.Mem.tail _ (List.Mem.tail _ h)
    clear N9
    (try dsimp only)
    repeat' (first | (k_unfold; (try dsimp only)) | (k_end; wrow_close) | (dsimp only; walk1) | walk1 | (leave1; try dsimp only) | fail "no step")
    refine Cut.a ?_
    rename Fr h₀ L _ _ => F9
    refine' peek_ctc w _ _ _ _ hVt ?hle ?hB ?hF ?hX ?hN ?hT ?hk ?hd ?hu ?hr ?he
    case hle => rw [List.length_append, hVl]; omega
    case hB => exact B
    case hF => exact F9
    case hX => exact X
    case hN => exact N8
    case hT => exact T
    case hk => exact rfl
    case hd => ktr_room
    case hu => ktr_units
    case he =>
      intro e g' h' tk hF
      rw [hpp] at hF
      cases hF
    case hr =>
      intro v own h' tk hp F' N' o'
      obtain ⟨ho, r', t', hr', hv⟩ := hp
      subst ho
      subst hv
      rw [hpp] at hr'
      cases hr'
      simp only [List.nil_append] at N'
      (try dsimp only)
      (try k_fold)
      repeat' (first | (k_unfold; (try dsimp only)) | (k_end; wrow_close) | (dsimp only; walk1) | walk1 | (leave1; try dsimp only) | fail "no step")
      rw [beq_iff_eq.mpr ?eq]
      · exact hret _ _ _ F' N'
      · simp only [R.tot, List.length_cons, List.length_nil]
        omega
end
end Mine
-- part M6
open PySem PySem.W PyProof.Rows
namespace Mine
theorem woff_M6 : True := by
  w_top off
  trivial
theorem segC (w : World) {mean : ExcName → Option Value} {mg mb : PySem.Str → Option Value} {h₀ : Heap} {L fa P O sl : Nat} {s : Shared} {l : List (Array UInt8 × Tok)} {n : Nat} {o5 o4 o3 o2 o1 : Obj} {iv sv nv : Option Value} {ps : Array Value} {codes : List (Addr × Obj)} {tl : Array UInt8} {kt : List Int} {t5 : Tok}
   {Q : Flow → Shared → Prop}
  (B : Below callerA h₀ [] h₀) (F : Fr h₀ L s.heap (lawI iv sv P nv O sl)) (X : (hd.heap_39 w.params).In h₀) (T : Top topProg looseG mean mg mb h₀)
  (N : News h₀ L s.heap (lawPre L P (bvals l) n o5 o4 o3 o2 o1 ++ (97, tabObj ps) :: codes)) (d5 : o5.data = .cell (some (.bytes tl t5))) (htl : KBw.bInts tl = kt) (hkt : kt.length ≤ 5)
  (hpc : ∀ q ∈ l.map (fun p => KBw.bInts p.1), Piece q) (hlen : (l.map (fun p => KBw.bInts p.1)).flatten.length ≤ 24)
  (hret : ∀ o5 ps m' h' tk, Fr h₀ L h' m' → News h₀ L h' [(L + 1 + 1 + 1 + 1 + 1, o5), (97, tabObj ps)] → Q (.ret (.bool true)) { s with heap := h', toks := tk }) :
   wpAny (model PySem.Challenge.rw_jg0015_01.row.prog w) (callerA.deeper (envOfC lawR.1.name lawR.1.scope L fa (.ref 99))) (execs (lawR.1.body.drop 7) (envOfC lawR.1.name lawR.1.scope L fa (.ref 99))) Q (fun _ _ => False) s := by
  generalize hj : (l.map (fun p => KBw.bInts p.1)).flatten = jn at hlen
  have p1 : ppL 11 ([48, 128] ++ jn ++ [0, 0] ++ kt) = some ⟨48, 16, 2, jn.length, 2⟩ := by
    have h := pp_endless (k := 10) (z := kt) (by decide) hpc 48 (by decide) (by decide)
    rw [hj] at h
    rw [show [48, 128] ++ jn ++ [0, 0] ++ kt = 48 :: 128 :: (jn ++ ([0, 0] ++ kt)) by simp only [List.append_assoc]; rfl]
    exact h
  have p2 : ppL 11 ([127, 129, 3, 130, 0, (jn.length : Int)] ++ jn ++ kt) = some ⟨127, 131, 6, jn.length, 0⟩ := by
    rw [show [127, 129, 3, 130, 0, (jn.length : Int)] ++ jn ++ kt = 127 :: 129 :: 3 :: 130 :: 0 :: (jn.length : Int) :: (jn ++ kt) by simp only [List.append_assoc]; rfl]
    exact pp_long hlen
  have p3 : ppL 11 ([48, 128, 36, 128] ++ jn ++ [0, 0, 0, 0] ++ kt) = some ⟨48, 16, 2, jn.length + 4, 2⟩ := by
    have h := pp_nested (z := kt) hpc
    rw [hj] at h
    rw [show [48, 128, 36, 128] ++ jn ++ [0, 0, 0, 0] ++ kt = 48 :: 128 :: 36 :: 128 :: (jn ++ ([0, 0, 0, 0] ++ kt)) by simp only [List.append_assoc]; rfl]
    exact h
  refine execs_cut 1 ?_
  refine segC1 w B F X T N (by rw [hj]; exact hlen) ?_
  intro J tj m h1 tk1 hJ F1 N1
  rw [hj] at hJ
  rw [drop24 _ 7 1 8 rfl]
  refine Cut.a (execs_cut 2 ?_)
  refine segC2 w (s := ⟨h1, _, _, tk1, _⟩) B F1 X T N1 hJ hlen ?_
  intro U V tu tv h2 tk2 hU hV F2 N2
  rw [drop24 _ 8 2 10 rfl]
  refine Cut.a (execs_cut 1 ?_)
  refine segC3 w (s := ⟨h2, _, _, tk2, _⟩) B F2 X T N2 d5 hJ hlen hU htl hkt ?_
  intro h3 tk3 F3 N3
  rw [drop24 _ 10 1 11 rfl]
  refine Cut.a (execs_cut 1 ?_)
  refine segC4 w (s := ⟨h3, _, _, tk3, _⟩) B F3 X T N3 d5 hJ hlen hV htl hkt p1 ?_
  intro h4 tk4 F4 N4
  rw [drop24 _ 11 1 12 rfl]
  refine Cut.a (execs_cut 1 ?_)
  refine segC5 w (s := ⟨h4, _, _, tk4, _⟩) B F4 X T N4 hJ hlen ?_
  intro G tg h5 tk5 hG F5 N5
  rw [drop24 _ 12 1 13 rfl]
  refine Cut.a (execs_cut 1 ?_)
  refine segC6 w (s := ⟨h5, _, _, tk5, _⟩) B F5 X T N5 d5 hJ hlen hG htl hkt p2 ?_
  intro h6 tk6 F6 N6
  rw [drop24 _ 13 1 14 rfl]
  refine Cut.a (execs_cut 1 ?_)
  refine segC7 w (s := ⟨h6, _, _, tk6, _⟩) B F6 X T N6 hJ hlen ?_
  intro H th m' h7 tk7 hH F7 N7
  rw [drop24 _ 14 1 15 rfl]
  refine Cut.a ?_
  refine segC8 w (s := ⟨h7, _, _, tk7, _⟩) B F7 X T N7 d5 hH hlen htl hkt p3 ?_
  intro m8 h8 tk8 F8 N8
  exact hret _ _ m8 h8 tk8 F8 N8
theorem segAll (w : World) {mean : ExcName → Option Value} {mg mb : PySem.Str → Option Value} {h₀ : Heap} {L fa sl : Nat} {vs : List Value} {scr : List Int} {s : Shared} {od oc op osh ot : Obj}
   {Q : Flow → Shared → Prop}
  (B : Below callerA h₀ [] h₀) (F : Fr h₀ L s.heap (look [(PySem.Str.ofString "script", some (.ref sl))])) (X : (hd.heap_39 w.params).In h₀) (T : Top topProg looseG mean mg mb h₀) (C : CodeHd h₀ 99 97)
  (N : News h₀ L s.heap [(L + 1 + 1 + 1 + 1 + 1, ot), (L + 1 + 1 + 1 + 1, osh), (L + 1 + 1 + 1, op), (L + 1 + 1, oc), (L + 1, od), (97, tabObj #[])]) (h97 : 97 < L)
  (dt : ot.data = .cell none) (dsh : osh.data = .cell none) (dp : op.data = .cell none) (dc : oc.data = .cell none) (dd : od.data = .cell none)
  (hl : h₀.IsList sl vs.toArray) (hi : IntsAre vs scr) (hlen : scr.length ≤ 63)
  (hret : ∀ o5 ps m' h' tk, Fr h₀ L h' m' → News h₀ L h' [(L + 1 + 1 + 1 + 1 + 1, o5), (97, tabObj ps)] → Q (.ret (.bool true)) { s with heap := h', toks := tk }) :
   wpAny (model PySem.Challenge.rw_jg0015_01.row.prog w) (callerA.deeper (envOfC lawR.1.name lawR.1.scope L fa (.ref 99))) (execs lawR.1.body (envOfC lawR.1.name lawR.1.scope L fa (.ref 99))) Q (fun _ _ => False) s := by
  refine execs_cut 2 ?_
  refine segA1 w B F X T N hl hi hlen ?_
  intro O ws os n nv h1 tk1 F1 N1 hO hw hol hR
  refine Cut.a (execs_cut 4 ?_)
  refine segA2 w (s := ⟨h1, _, _, tk1, _⟩) B F1 X T N1 (hO _ (.head _)) h97 dt dsh dp dc dd hl hi hlen hw hol hR ?_
  intro P o1 o3 o5 t1 t2 t3 h2 tk2 d1 d3 d5 F2 N2 hP
  rw [drop24 _ 2 4 6 rfl]
  refine Cut.a (execs_cut 1 ?_)
  have hk : (List.map (fun k' => Int.fmod k' 256) (List.take 3 scr) ++ [0, 5]).length ≤ 5 := by
    rw [List.length_append, List.length_map, List.length_take]
    simp only [List.length_cons, List.length_nil]
    omega
  have hk0 : 0 < (List.map (fun k' => Int.fmod k' 256) (List.take 3 scr) ++ [0, 5]).length := by
    rw [List.length_append]
    simp only [List.length_cons, List.length_nil]
    omega
  refine segB w (s := ⟨h2, _, _, tk2, _⟩) B F2 X T C N2 h97 hP d1 dc d3 dsh d5 (KBa.ints_make hR) hol (KBa.ints_make (tail_in _)) hk hk0 ?_
  intro l n2 o2' o3' o4' iv sv ps codes h3 tk3 hpc hl24 F3 N3 hco
  rw [drop24 _ 6 1 7 rfl]
  refine Cut.a ?_
  refine segC w (s := ⟨h3, _, _, tk3, _⟩) B F3 X T N3 d5 (KBa.ints_make (tail_in _)) hk hpc hl24 ?_
  intro o9 ps9 m9 h4 tk4 F9 N9
  exact hret o9 ps9 m9 h4 tk4 F9 N9
end Mine
-- part M7
open PySem PySem.W PyProof.Rows
namespace Mine
theorem woff_M7 : True := by
  w_top off
  trivial
theorem thelaw : PySem.Challenge.rw_jg0015_01.Holds := hd (by
  k_go0
  rename IntsAre _ _ => hI9
  rename Fr (ghostOf _ _) _ _ _ => F9
  rename News (ghostOf _ _) _ _ _ => N9
  rename Heap.IsList (ghostOf _ _) _ _ => hl9
  rename CodeHd (ghostOf _ _) _ _ => C9
  rename Frag.In _ (ghostOf _ _) => X9
  rename Top _ _ _ _ _ (ghostOf _ _) => T9
  rename Below _ (ghostOf _ _) _ _ => B9
  refine' wpAny_mono (segAll _ B9 (Mine.Fr.congr F9 fun y => ?fr) X9 T9 C9 N9 (by assumption) ?d1 ?d2 ?d3 ?d4 ?d5 hl9 hI9 (by omega) ?hret) (fun _ _ x => x) (fun _ _ h => h.elim)
  case fr => rfl
  case d1 => assumption
  case d2 => assumption
  case d3 => assumption
  case d4 => assumption
  case d5 => assumption
  case hret =>
    intro o5 ps m' h' tk F' N'
    refine And.intro ?_ ⟨GrownAt.of N' (.tail _ (.head _)), True.intro⟩
    dsimp only
    repeat' (first | (k_unfold; (try dsimp only)) | (k_end; wrow_close) | (dsimp only; walk1) | walk1 | (leave1; try dsimp only) | fail "no step"))
end Mine
theorem PySem.Challenge.cw_jg0015_01_holds : PySem.Challenge.rw_jg0015_01.Holds :=
  Mine.thelaw
