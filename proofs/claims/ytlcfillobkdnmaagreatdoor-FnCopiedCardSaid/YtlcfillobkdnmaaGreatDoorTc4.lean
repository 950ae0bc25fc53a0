/- Part 4 of the proof's texts, made small by a program. -/
import Derived.Test.YtlcfillobkdnmaaGreatDoorTc3
set_option linter.unusedVariables false
set_option linter.unusedSimpArgs false
set_option maxHeartbeats 4000000
namespace Go.Jw
open Go Go.RowKit Go.Proofs
set_option maxRecDepth 8000
open Go.Proofs
def bldOf (i : Nat) : FuncId := match i with
  | 1 => 134
  | 2 => 134
  | 3 => 134
  | 6 => 135
  | 7 => 135
  | 8 => 136
  | 9 => 135
  | 10 => 136
  | 11 => 137
  | 12 => 137
  | 13 => 134
  | 14 => 138
  | 15 => 139
  | 16 => 137
  | 17 => 137
  | 18 => 136
  | 19 => 137
  | 20 => 137
  | 21 => 140
  | 22 => 138
  | 23 => 141
  | 24 => 141
  | 25 => 142
  | 26 => 143
  | 27 => 144
  | 28 => 145
  | 29 => 145
  | 30 => 145
  | 32 => 141
  | 33 => 134
  | 34 => 134
  | 36 => 134
  | _ => 0
theorem pn111 : Tryz.prog.underlying 111 = some (.pointer (Tryz.prog.pointee 111)) := by
 have h := Tryz.underlying111
 unfold Program.pointee
 rw [h]
theorem mp104 : Tryz.prog.underlying 104 = some (.map 9 63) := Tryz.underlying104
theorem RelAt.stepK {G G' : Gr} {back : Bool} {v : V} {i k : Nat} {f : Flds} {p : ByteArray × V} {fv : FVal} (hr : RelAt G back v i f) (hp : (prs back v)[i]? = some p) (hk : kwIdx p.1 = k) (hf : FvRel (fun b x => Unf G' x b) (shIdx k) p.2 fv) : RelAt (G' ++ G) back v (i + 1) (f.set k fv) := by
 subst hk
 exact (hr.mono fun g hg => List.mem_append_right _ hg).step hp (hf.mono fun b x _ h => Unf.mono (fun g hg => List.mem_append_left _ hg) _ _ h)
theorem RelAt.stepA {G : Gr} {back : Bool} {v : V} {i k : Nat} {f : Flds} {p : ByteArray × V} {fv : FVal} (hr : RelAt G back v i f) (hp : (prs back v)[i]? = some p) (hk : kwIdx p.1 = k) (hf : FvRel (fun b x => Unf G x b) (shIdx k) p.2 fv) : RelAt G back v (i + 1) (f.set k fv) := by
 subst hk
 exact hr.step hp hf
abbrev NIs (l : List (ByteArray × V)) : Prop := ∀ p ∈ l, ∀ z ∈ kidsOf (shapeOf p.1) p.2, NoId z
theorem nis_step {l : List (ByteArray × V)} {i : Nat} (hi : i < l.length) (h : NIs (l.take (i + 1))) : NIs (l.take i) ∧ ∀ z ∈ kidsOf (shapeOf l[i].1) l[i].2, NoId z := by
 unfold NIs at h
 rw [List.take_add_one, List.getElem?_eq_getElem hi] at h
 exact ⟨fun p hp => h p (List.mem_append_left _ hp), h _ (List.mem_append_right _ (by simp))⟩
theorem less_lt : ∀ (x y : List UInt8), Op.bytesLess x y = decide (x < y)
  | x, [] => by cases x <;> simp [Op.bytesLess]
  | [], _ :: _ => by simp [Op.bytesLess]
  | a :: x, b :: y => by
    have ih := less_lt x y
    by_cases h1 : a < b <;> by_cases h2 : a = b <;> by_cases h3 : x < y <;> simp [Op.bytesLess, ih, List.cons_lt_cons_iff, h1, h2, h3]
theorem prs_get {back : Bool} {v : V} (hw : Wf v) (hk5 : v.kind = 5) (hko : KeysOk v.keys) {p : ByteArray × V} (hp : p ∈ prs back v) : getV v p.1 = some p.2 := by
  have hp' := (tY back v).mem_iff.1 hp
  obtain ⟨j, hj, he⟩ := List.getElem_of_mem hp'
  have hl := hw.eq hk5
  simp only [List.length_zip] at hj
  rw [List.getElem_zip] at he
  subst he
  have hf : findI v.keys v.keys[j] = (j : Nat) := by
    refine findI_at (by omega) rfl (fun q hq h => ?_)
    rw [List.getElem?_eq_getElem (by omega)] at h
    have h1 : v.keys[q] = v.keys[j] := by simpa using h
    have hlt : ∀ a b (ha : a < v.keys.length) (hb : b < v.keys.length), a < b → v.keys[a].toList < v.keys[b].toList := by
      intro a b ha hb hab
      induction b with
      | zero => omega
      | succ b ih =>
        have hs := (hko (b + 1) hb).2 (by omega)
        have h3 : v.keys[b].toList < v.keys[b + 1].toList := by
          have h4 : ¬ (v.keys[b + 1].toList < v.keys[b].toList) := by
            have := hs.1
            rw [less_lt] at this
            simpa using this
          have h5 : v.keys[b].toList ≠ v.keys[b + 1].toList := fun h => hs.2 (by
            have := uK (s := v.keys[b + 1]) (t := v.keys[b])
            rw [h] at this
            simpa using this.symm)
          rcases Nat.lt_trichotomy 0 1 with _ | _ | _
          · exact Classical.byContradiction fun hc => h5 (List.le_antisymm (List.not_lt.1 h4) (List.not_lt.1 hc))
          · omega
          · omega
        rcases Nat.lt_or_eq_of_le (Nat.le_of_lt_succ hab) with h6 | h6
        · exact List.lt_trans (ih (by omega) h6) h3
        · subst h6; exact h3
    have := hlt q j (by omega) (by omega) hq
    rw [h1] at this
    exact List.lt_irrefl _ this
  exact getV_at hf (by omega)
theorem unf_end {G : Gr} {back : Bool} {v : V} {f : Flds} {b : Nat} {cs : List Value} (hw : Wf v) (hk5 : v.kind = 5) (hko : KeysOk v.keys) (hr : RelAt G back v (prs back v).length f) (hg : (b, cs, f) ∈ G) : Unf G v b := by
  have hget : ∀ p ∈ prs back v, getV v p.1 = some p.2 := fun p hp => prs_get hw hk5 hko hp
  refine (uY G v b).2 ⟨f, ⟨cs, hg⟩, fun q h1 h2 => ?_⟩
  have := hr q h1 h2
  rw [List.take_length] at this
  cases hfq : f q with
  | none =>
    rw [hfq] at this
    intro key hkey
    cases hgv : getV v key with
    | none => rfl
    | some x =>
      exfalso
      have hmem : (key, x) ∈ prs back v := by
        refine (tY back v).mem_iff.2 ?_
        unfold getV at hgv
        rcases pG v.keys key with hn | ⟨j, hj, hlt⟩
        · rw [if_pos hn] at hgv; cases hgv
        · rw [hj, if_neg (by omega)] at hgv
          have hl := hw.eq hk5
          simp only [Int.toNat_natCast] at hgv
          have hx := (List.getElem?_eq_some_iff.1 hgv).2
          have hkj : v.keys[j] = key := by
            have h3 : findI v.keys key = (j : Nat) := hj
            unfold findI at h3
            split at h3
            · rename_i hlt3
              have h4 := List.findIdx_getElem (w := hlt3)
              have h5 : v.keys.findIdx (fun x => decide (x = key)) = j := by omega
              simp only [h5] at h4
              simpa using h4
            · omega
          rw [← hkj, ← hx]
          have : (v.keys.zip v.items)[j]'(by simp; omega) = (v.keys[j], v.items[j]'(by omega)) := List.getElem_zip
          rw [← this]
          exact List.getElem_mem _
      exact this _ hmem hkey
  | some fv =>
    rw [hfq] at this
    obtain ⟨p, h3, h4, h5⟩ := this
    exact ⟨p.1, p.2, h4, hget p h3, h5⟩
theorem cells0_flds (w : World) (ok : Nat → Prop) (mb : Nat) : CellsP w ok mb (.map (some mb) :: List.replicate 36 (.pointer none)) (fun _ => none) := by
 refine ⟨by simp, rfl, fun i h1 h2 => ⟨.pointer none, ?_, rfl⟩⟩
 obtain ⟨j, rfl⟩ : ∃ j, i = j + 1 := ⟨i - 1, by omega⟩
 rw [List.getElem?_cons_succ, List.getElem?_replicate, if_pos (by omega)]
theorem fv_ptr {w : World} {ok : Nat → Prop} {fv : FVal} {u : Value} (h : FvP w ok fv u) : ∃ p, u = .pointer (some p) := by
  cases fv with
  | text s => obtain ⟨p, a, _⟩ := h; exact ⟨p, a⟩
  | bool x => obtain ⟨p, a, _⟩ := h; exact ⟨p, a⟩
  | int n => obtain ⟨p, a, _⟩ := h; exact ⟨p, a⟩
  | numI n => obtain ⟨b, p, a, _⟩ := h; exact ⟨_, a⟩
  | numF n => obtain ⟨b, p, a, _⟩ := h; exact ⟨_, a⟩
  | sbS c => obtain ⟨b, a, _⟩ := h; exact ⟨_, a⟩
  | sbB x => obtain ⟨b, p, a, _⟩ := h; exact ⟨_, a⟩
  | itS c => obtain ⟨b, a, _⟩ := h; exact ⟨_, a⟩
  | itL bs => obtain ⟨b, p, sl, a, _⟩ := h; exact ⟨_, a⟩
  | texts l => obtain ⟨p, sl, a, _⟩ := h; exact ⟨_, a⟩
  | named l => obtain ⟨p, sl, nbs, a, _⟩ := h; exact ⟨_, a⟩
  | deps l => obtain ⟨p, sl, nbs, a, _⟩ := h; exact ⟨_, a⟩
  | enums l => obtain ⟨p, A, c, a, _⟩ := h; exact ⟨_, a⟩
  | tyS s => obtain ⟨b, p, a, _⟩ := h; exact ⟨_, a⟩
  | tyL l => obtain ⟨b, p, sl, a, _⟩ := h; exact ⟨_, a⟩
  | list bs => obtain ⟨p, sl, a, _⟩ := h; exact ⟨_, a⟩
  | one c => exact ⟨_, h⟩
  | any => exact h
theorem fld_cell {w : World} {ok : Nat → Prop} {mb : Nat} {cs : List Value} {f : Flds} (h : (DA.flds mb cs f).p w ok) (i : Nat) (h1 : 1 ≤ i) (h2 : i ≤ 36) : ∃ q, cs[i]? = some (.pointer q) ∧ q.isSome = (f i).isSome := by
  obtain ⟨u, hu, hm⟩ := h.2.2 i h1 h2
  cases hf : f i with
  | none => rw [hf] at hm; subst hm; exact ⟨none, hu, rfl⟩
  | some fv =>
    rw [hf] at hm
    obtain ⟨p, rfl⟩ := fv_ptr hm
    exact ⟨some p, hu, rfl⟩
theorem id_pts {w : World} {ok : Nat → Prop} {mb : Nat} {cs : List Value} {f : Flds} {s : ByteArray} {p : Addr} (h : (DA.flds mb cs f).p w ok) (hf : f 2 = some (.text s)) (hc : cs[2]? = some (.pointer (some p))) : PtsTo w ok p (.string s) := by
 obtain ⟨u, hu, hm⟩ := h.2.2 2 (by decide) (by decide)
 rw [hf] at hm
 rw [hc] at hu
 cases hu
 obtain ⟨p', he, _, h3⟩ := hm
 cases he
 exact h3
theorem sS {U : Nat → V → Prop} {x : V} {fv : FVal} (h : FvRel U 1 x fv) : fv = .text x.text := by
 cases fv <;> simp_all [FvRel]
theorem nis_of {back : Bool} {v : V} (h : NoIdB v) : NIs (prs back v) := by
 intro p hp
 have hp' := (tY back v).mem_iff.1 hp
 obtain ⟨j, hj, he⟩ := List.getElem_of_mem hp'
 simp only [List.length_zip] at hj
 rw [List.getElem_zip] at he
 subst he
 exact h j _ _ (List.getElem?_eq_getElem (by omega)) (List.getElem?_eq_getElem (by omega))
theorem mem_prs {back : Bool} {v x : V} {key : ByteArray} (hw : Wf v) (hk5 : v.kind = 5) (hgv : getV v key = some x) : (key, x) ∈ prs back v := by
  refine (tY back v).mem_iff.2 ?_
  unfold getV at hgv
  rcases pG v.keys key with hn | ⟨j, hj, hlt⟩
  · rw [if_pos hn] at hgv; cases hgv
  · rw [hj, if_neg (by omega)] at hgv
    have hl := hw.eq hk5
    simp only [Int.toNat_natCast] at hgv
    have hx := (List.getElem?_eq_some_iff.1 hgv).2
    have hkj : v.keys[j] = key := by
      have h3 : findI v.keys key = (j : Nat) := hj
      unfold findI at h3
      split at h3
      · rename_i hlt3
        have h4 := List.findIdx_getElem (w := hlt3)
        have h5 : v.keys.findIdx (fun x => decide (x = key)) = j := by omega
        simp only [h5] at h4
        simpa using h4
      · omega
    rw [← hkj, ← hx]
    have : (v.keys.zip v.items)[j]'(by simp; omega) = (v.keys[j], v.items[j]'(by omega)) := List.getElem_zip
    rw [← this]
    exact List.getElem_mem _
theorem id_none {G : Gr} {back : Bool} {v : V} {f : Flds} (hw : Wf v) (hk5 : v.kind = 5) (hko : KeysOk v.keys) (hr : match f 2 with
    | none => ∀ p ∈ (prs back v).take (prs back v).length, kwIdx p.1 ≠ 2
    | some fv => ∃ p ∈ (prs back v).take (prs back v).length, kwIdx p.1 = 2 ∧ FvRel (fun b x => Unf G x b) (shIdx 2) p.2 fv) (hf : f 2 = none) : getV v kId = none := by
  rw [hf] at hr
  rw [List.take_length] at hr
  cases hg : getV v kId with
  | none => rfl
  | some x => exact absurd (show kwIdx kId = 2 by decide +kernel) (hr _ (mem_prs hw hk5 hg))
theorem kw2 {key : ByteArray} (h : kwIdx key = 2) : key = kId := by
 unfold kwIdx at h
 by_cases e1 : key = ⟨#[36, 115, 99, 104, 101, 109, 97]⟩
 ·rw [if_pos e1] at h; exact absurd h (by decide)
 rw [if_neg e1] at h
 by_cases e2 : key = ⟨#[105, 100]⟩
 ·exact e2
 rw [if_neg e2] at h
 by_cases e6 : key = ⟨#[109, 117, 108, 116, 105, 112, 108, 101, 79, 102]⟩
 ·rw [if_pos e6] at h; exact absurd h (by decide)
 rw [if_neg e6] at h
 by_cases e7 : key = ⟨#[109, 97, 120, 105, 109, 117, 109]⟩
 ·rw [if_pos e7] at h; exact absurd h (by decide)
 rw [if_neg e7] at h
 by_cases e8 : key = ⟨#[101, 120, 99, 108, 117, 115, 105, 118, 101, 77, 97, 120, 105, 109, 117, 109]⟩
 ·rw [if_pos e8] at h; exact absurd h (by decide)
 rw [if_neg e8] at h
 by_cases e9 : key = ⟨#[109, 105, 110, 105, 109, 117, 109]⟩
 ·rw [if_pos e9] at h; exact absurd h (by decide)
 rw [if_neg e9] at h
 by_cases e10 : key = ⟨#[101, 120, 99, 108, 117, 115, 105, 118, 101, 77, 105, 110, 105, 109, 117, 109]⟩
 ·rw [if_pos e10] at h; exact absurd h (by decide)
 rw [if_neg e10] at h
 by_cases e11 : key = ⟨#[109, 97, 120, 76, 101, 110, 103, 116, 104]⟩
 ·rw [if_pos e11] at h; exact absurd h (by decide)
 rw [if_neg e11] at h
 by_cases e12 : key = ⟨#[109, 105, 110, 76, 101, 110, 103, 116, 104]⟩
 ·rw [if_pos e12] at h; exact absurd h (by decide)
 rw [if_neg e12] at h
 by_cases e13 : key = ⟨#[112, 97, 116, 116, 101, 114, 110]⟩
 ·rw [if_pos e13] at h; exact absurd h (by decide)
 rw [if_neg e13] at h
 by_cases e14 : key = ⟨#[97, 100, 100, 105, 116, 105, 111, 110, 97, 108, 73, 116, 101, 109, 115]⟩
 ·rw [if_pos e14] at h; exact absurd h (by decide)
 rw [if_neg e14] at h
 by_cases e15 : key = ⟨#[105, 116, 101, 109, 115]⟩
 ·rw [if_pos e15] at h; exact absurd h (by decide)
 rw [if_neg e15] at h
 by_cases e16 : key = ⟨#[109, 97, 120, 73, 116, 101, 109, 115]⟩
 ·rw [if_pos e16] at h; exact absurd h (by decide)
 rw [if_neg e16] at h
 by_cases e17 : key = ⟨#[109, 105, 110, 73, 116, 101, 109, 115]⟩
 ·rw [if_pos e17] at h; exact absurd h (by decide)
 rw [if_neg e17] at h
 by_cases e18 : key = ⟨#[117, 110, 105, 113, 117, 101, 73, 116, 101, 109, 115]⟩
 ·rw [if_pos e18] at h; exact absurd h (by decide)
 rw [if_neg e18] at h
 by_cases e19 : key = ⟨#[109, 97, 120, 80, 114, 111, 112, 101, 114, 116, 105, 101, 115]⟩
 ·rw [if_pos e19] at h; exact absurd h (by decide)
 rw [if_neg e19] at h
 by_cases e20 : key = ⟨#[109, 105, 110, 80, 114, 111, 112, 101, 114, 116, 105, 101, 115]⟩
 ·rw [if_pos e20] at h; exact absurd h (by decide)
 rw [if_neg e20] at h
 by_cases e21 : key = ⟨#[114, 101, 113, 117, 105, 114, 101, 100]⟩
 ·rw [if_pos e21] at h; exact absurd h (by decide)
 rw [if_neg e21] at h
 by_cases e22 : key = ⟨#[97, 100, 100, 105, 116, 105, 111, 110, 97, 108, 80, 114, 111, 112, 101, 114, 116, 105, 101, 115]⟩
 ·rw [if_pos e22] at h; exact absurd h (by decide)
 rw [if_neg e22] at h
 by_cases e23 : key = ⟨#[112, 114, 111, 112, 101, 114, 116, 105, 101, 115]⟩
 ·rw [if_pos e23] at h; exact absurd h (by decide)
 rw [if_neg e23] at h
 by_cases e24 : key = ⟨#[112, 97, 116, 116, 101, 114, 110, 80, 114, 111, 112, 101, 114, 116, 105, 101, 115]⟩
 ·rw [if_pos e24] at h; exact absurd h (by decide)
 rw [if_neg e24] at h
 by_cases e25 : key = ⟨#[100, 101, 112, 101, 110, 100, 101, 110, 99, 105, 101, 115]⟩
 ·rw [if_pos e25] at h; exact absurd h (by decide)
 rw [if_neg e25] at h
 by_cases e26 : key = ⟨#[101, 110, 117, 109]⟩
 ·rw [if_pos e26] at h; exact absurd h (by decide)
 rw [if_neg e26] at h
 by_cases e27 : key = ⟨#[116, 121, 112, 101]⟩
 ·rw [if_pos e27] at h; exact absurd h (by decide)
 rw [if_neg e27] at h
 by_cases e28 : key = ⟨#[97, 108, 108, 79, 102]⟩
 ·rw [if_pos e28] at h; exact absurd h (by decide)
 rw [if_neg e28] at h
 by_cases e29 : key = ⟨#[97, 110, 121, 79, 102]⟩
 ·rw [if_pos e29] at h; exact absurd h (by decide)
 rw [if_neg e29] at h
 by_cases e30 : key = ⟨#[111, 110, 101, 79, 102]⟩
 ·rw [if_pos e30] at h; exact absurd h (by decide)
 rw [if_neg e30] at h
 by_cases e31 : key = ⟨#[110, 111, 116]⟩
 ·rw [if_pos e31] at h; exact absurd h (by decide)
 rw [if_neg e31] at h
 by_cases e32 : key = ⟨#[100, 101, 102, 105, 110, 105, 116, 105, 111, 110, 115]⟩
 ·rw [if_pos e32] at h; exact absurd h (by decide)
 rw [if_neg e32] at h
 by_cases e33 : key = ⟨#[116, 105, 116, 108, 101]⟩
 ·rw [if_pos e33] at h; exact absurd h (by decide)
 rw [if_neg e33] at h
 by_cases e34 : key = ⟨#[100, 101, 115, 99, 114, 105, 112, 116, 105, 111, 110]⟩
 ·rw [if_pos e34] at h; exact absurd h (by decide)
 rw [if_neg e34] at h
 by_cases e35 : key = ⟨#[100, 101, 102, 97, 117, 108, 116]⟩
 ·rw [if_pos e35] at h; exact absurd h (by decide)
 rw [if_neg e35] at h
 by_cases e36 : key = ⟨#[102, 111, 114, 109, 97, 116]⟩
 ·rw [if_pos e36] at h; exact absurd h (by decide)
 rw [if_neg e36] at h
 by_cases e3 : key = ⟨#[36, 114, 101, 102]⟩
 ·rw [if_pos e3] at h; exact absurd h (by decide)
 rw [if_neg e3] at h
 exact absurd h (by decide)
theorem in103 {back : Bool} {v : V} {mb i q ck ck1 ck2 : Nat} {cs : List Value} {f : Flds} {es es1 es2 : Array MapEntry} {G G' : Gr} {u : Value} {fv : FVal} (hlt : i < (prs back v).length) (hlen : cs.length = 37) (hcs : cs[0]? = some (.map (some mb))) (hr : RelAt G back v i f) (h0 : 1 ≤ q)
  (hkw : kwIdx (prs back v)[i].1 = q) (hF : FvRel (fun b x => Unf G' x b) (shIdx q) (prs back v)[i].2 fv) (hO : MapOk es2) (hno : NIs ((prs back v).take i) → es1 = es ∧ ck1 = ck) (hN : (∀ z ∈ kidsOf (shIdx q) (prs back v)[i].2, NoId z) → es2 = es1 ∧ ck2 = ck1) :
  i + 1 ≤ (prs back v).length ∧ (cs.set q u).length = 37 ∧ (cs.set q u)[0]? = some (.map (some mb)) ∧ RelAt (G' ++ G) back v (i + 1) (Flds.set f q fv) ∧ MapOk es2 ∧ (NIs ((prs back v).take (i + 1)) → es2 = es ∧ ck2 = ck) := by
 refine ⟨hlt, by rw [List.length_set]; exact hlen, by rw [List.getElem?_set_ne (by omega)]; exact hcs, hr.stepK (List.getElem?_eq_getElem hlt) hkw hF, hO, fun h => ?_⟩
 obtain ⟨h1, h2⟩ := nis_step hlt h
 obtain ⟨e1, e2⟩ := hno h1
 rw [kw_sh (by rw [hkw]; omega), hkw] at h2
 obtain ⟨e3, e4⟩ := hN h2
 exact ⟨e3.trans e1, e4.trans e2⟩

theorem sW {D D2 : List DA} (h : ∀ d ∈ D2, d ∈ D := by intro d hd; first | exact subc 1 rfl (subc 0 rfl sQ) d hd | exact subc 0 rfl (subc 9 rfl sQ) d hd | (repeat (first | exact hd | apply List.mem_cons_of_mem))) : ∀ d ∈ D2, d ∈ D := h
set_option maxHeartbeats 4000000 in
theorem c103w (ft : DA) (mb : Nat) (back : Bool) (v : V) (hw : Wf v) (hk5 : v.kind = 5) (hko : KeysOk v.keys) (HB : ∀ p ∈ prs back v, ∀ F, bldOf (kwIdx p.1) = F → F ≠ 0 → BC ft back F (shIdx (kwIdx p.1)) p.2) (HN : ∀ p ∈ prs back v, kwIdx p.1 = 31 → C103 ft mb back p.2)
  (nb : Nat) (es : Array MapEntry) (clock : Nat) (hes : MapOk es) : Ct Tryz.prog 103 #[ptr nb, .map (some mb)] [.obj mb (.map es clock)] [.node nb (nodeV back v), ft] (R103 mb es clock v) := by
 refine Ct.of_run (args := [ptr nb, .map (some mb)]) Tryz.func103 (by kernel_rfl) rfl Tryz.ntmps103 rfl (fun c => ?_)
 have hkl := hw.kl
 have hpl := prs_len back v
 rw [nodeV_map hk5]
 refine wD 0 rfl (fun A0 cap0 ht0 hv0 hl0 hc0 => ?_)
 rw [fm_len]
 rw [fm_len] at hl0
 unfold maxLen at hc0
 refine zD (zB ?_)
 refine zA (zE rfl rfl ?_)
 refine zC (zD ?_)
 refine zD (zB ?_)
 refine sT (zA ?_)
 refine zH wN rfl rfl (zA ?_)
 refine zM 0 sc146 rfl rfl rfl rfl (zC ?_)
 refine zN (zD ?_)
 refine zB (zA ?_)
 refine zX rfl rfl rfl (zA ?_)
 refine zE rfl rfl (zC ?_)
 refine yE rfl (rfl) (zD ?_)
 refine zB (zA ?_)
 refine zX rfl rfl rfl (zA ?_)
 refine zE rfl rfl (zC ?_)
 refine yG rfl (decide_eq_true rfl) (zD ?_)
 refine zB (zA ?_)
 refine zF rfl rfl (zA ?_)
 refine xR rfl rfl (bu124_0 ..) (zA ?_)
 refine xL rfl rfl rfl (fun b27 => ?_)
 refine zA (zE rfl rfl ?_)
 refine zC (kE [(5, _), (0, _), (1, _)] rfl ?_)
 refine zD (zD ?_)
 refine zB (zA ?_)
 refine zE rfl rfl (zC ?_)
 refine zN (kE [(6, _), (5, _), (0, _), (1, _)] rfl ?_)
 refine xI (.graph mb []) (fun w ok h g hg => by cases hg) (xI (.flds mb (.map (some mb) :: List.replicate 36 (.pointer none)) (fun _ => none)) (fun w ok h => cells0_flds w ok mb) ?_)
 refine run_many0 124 (sF (M' := HA.blk b27 (.map (some mb) :: List.replicate 36 (.pointer none)) 124 :: HA.many 124 [] :: HA.obj mb (.map es clock) :: []) (List.Perm.swap _ _ _) ?_)
 refine xU 1 (fun (⟨i, cs, f, es1, ck1, G⟩ : Nat × List Value × Flds × Array MapEntry × Nat × Gr) => i ≤ (prs back v).length ∧ cs.length = 37 ∧ cs[0]? = some (.map (some mb)) ∧ RelAt G back v i f ∧ MapOk es1 ∧ (NIs ((prs back v).take i) → es1 = es ∧ ck1 = clock)) (fun (⟨i, cs, f, es1, ck1, G⟩ : Nat × List Value × Flds × Array MapEntry × Nat × Gr) => [(6, .int .i64 ((2 * i : Nat) : Int))]) (fun (⟨i, cs, f, es1, ck1, G⟩ : Nat × List Value × Flds × Array MapEntry × Nat × Gr) => HA.blk b27 cs 124 :: HA.many 124 (Gr.blks G) :: HA.obj mb (.map es1 ck1) :: []) (fun (⟨i, cs, f, es1, ck1, G⟩ : Nat × List Value × Flds × Array MapEntry × Nat × Gr) => .flds mb cs f :: .graph mb G :: .dblk nb (ycells 4 tMap ⟨#[]⟩ A0 (2 * (prs back v).length) cap0) 150 :: .kids (.slice A0 (2 * (prs back v).length) cap0) (((prs back v).map (nodeP back)).flatMap prY) :: .node nb (.mk 4 tMap ⟨#[]⟩ (((prs back v).map (nodeP back)).flatMap prY)) :: ft :: []) (fun (⟨i, cs, f, es1, ck1, G⟩ : Nat × List Value × Flds × Array MapEntry × Nat × Gr) => (prs back v).length - i) (0, _, (fun _ => none), es, clock, []) (⟨Nat.zero_le _, rfl, rfl, RelAt.zero _ _ _, hes, fun _ => ⟨rfl, rfl⟩⟩) (eC rfl (eN _)) rfl rfl ?_ (eC rfl (eC rfl (eC rfl (eN _))))
 intro ⟨i, cs, f, es1, ck1, G⟩ hI K hK
 replace hI : i ≤ (prs back v).length ∧ cs.length = 37 ∧ cs[0]? = some (.map (some mb)) ∧ RelAt G back v i f ∧ MapOk es1 ∧ (NIs ((prs back v).take i) → es1 = es ∧ ck1 = clock) := hI
 change Run _ _ _ _ _ [(6, .int .i64 ((2 * i : Nat) : Int)), (5, _), (0, _), (1, _)] (HA.blk b27 cs 124 :: HA.many 124 (Gr.blks G) :: HA.obj mb (.map es1 ck1) :: []) (.flds mb cs f :: .graph mb G :: .dblk nb (ycells 4 tMap ⟨#[]⟩ A0 (2 * (prs back v).length) cap0) 150 :: .kids (.slice A0 (2 * (prs back v).length) cap0) (((prs back v).map (nodeP back)).flatMap prY) :: .node nb (.mk 4 tMap ⟨#[]⟩ (((prs back v).map (nodeP back)).flatMap prY)) :: ft :: [])
 obtain ⟨hi, hlen, hcs, hr, hok, hno⟩ := hI
 refine zD (zD ?_)
 refine zB (sT ?_)
 refine zA (zH wO rfl rfl ?_)
 refine zA (zM 2 sc148 rfl rfl rfl rfl ?_)
 refine zA (yU sl148 rfl rfl ?_)
 refine zA (xT rfl rfl rfl ?_)
 refine zC (zS rfl (fun h34 => ?_) (fun h34 => ?_))
 ·refine zJ (zD ?_)
  refine zN (zD ?_)
  refine zB (sT ?_)
  refine zA (zH wO rfl rfl ?_)
  refine zA (zM 2 sc148 rfl rfl rfl rfl ?_)
  refine zA (zF rfl rfl ?_)
  refine zA (wS (i := 2 * i) 3 sl148 rfl rfl rfl rfl (by omega) ?_)
  have hlt : i < (prs back v).length := by omega
  have hmem := List.getElem_mem hlt
  have hpi := List.getElem?_eq_getElem hlt
  refine uC 3 (2 * i) rfl (fm_get0 hlt) (fun b1 => ?_)
  refine tT 1 rfl (fun A1 cap1 ht1 hv1 hl1 hc1 => ?_)
  refine zA (xO sc102 rfl rfl (fun _ h => uD h (j := 2) rfl) ?_)
  refine zA (zP rfl rfl ?_)
  refine zA (zH wU rfl rfl ?_)
  refine zA (zM 0 sc9 rfl rfl rfl rfl ?_)
  refine zA (zE rfl rfl ?_)
  refine zC (kE [(7, _), (6, _), (5, _), (0, _), (1, _)] rfl ?_)
  refine zD (zB ?_)
  refine sT (zA ?_)
  refine zH wO rfl rfl (zA ?_)
  refine zM 6 sc148 rfl rfl rfl rfl (zA ?_)
  refine zF rfl rfl (zA ?_)
  refine xH rfl rfl (by omega) (zA ?_)
  refine wS (i := 2 * i + 1) 7 sl148 rfl rfl rfl rfl (by omega) (uC 7 (2 * i + 1) rfl (fm_get1 hlt) (fun b2 => ?_))
  refine zA (xO sc102 rfl rfl (fun _ h => uD h (j := 0) rfl) ?_)
  refine zA (zE rfl rfl ?_)
  refine zC (zD ?_)
  refine zB (zA ?_)
  refine zF rfl rfl (zC ?_)
  refine kE [(55, _), (8, _), (6, _), (5, _), (0, _), (1, _)] rfl (zN ?_)
  refine zD (zB ?_)
  refine zA (zU rfl rfl rfl ?_)
  refine zA (zE rfl rfl ?_)
  refine zC (zS rfl (fun h56 => ?_) (fun h56 => ?_))
  ·refine zB (sT ?_)
   refine zA ?_
   have hkw : kwIdx (prs back v)[i].1 = 1 := by rw [h56]; decide +kernel
   have hB := HB _ hmem 134 (by rw [hkw]; rfl) (by decide)
   rw [hkw] at hB
   refine xM 0 1 rfl rfl rfl (hB _ _ _ _ es1 ck1 hcs hok) rfl rfl (sub2 1 11 rfl rfl) (fun u61 M61 D61 hv61 => ?_)
   obtain ⟨p61, fv61, G61, es61, ck61, rfl, rfl, rfl, hF61, hO61, hN61⟩ := hv61
   refine zA (zP rfl rfl ?_)
   refine zA (zH fo124_1 rfl rfl ?_)
   refine zA (xC 0 rfl rfl rfl rfl rfl si111 (by omega) ?_)
   refine zC (kE [(6, _), (5, _), (0, _), (1, _)] rfl ?_)
   refine zQ (zQ ?_)
   refine zB (zA ?_)
   refine zF rfl rfl (zA ?_)
   refine yP (s := ((2 * (i + 1) : Nat) : Int)) rfl rfl rfl (by omega) (by omega) (by omega) (zA ?_)
   refine zE rfl rfl (zC ?_)
   refine xP 8 0 1 rfl rfl (by decide) (yS 2 10 rfl rfl ?_)
   refine xK 1 2 rfl rfl ?_
   rw [xN]
   exact kQ (hK (i + 1, cs.set 1 (.pointer (some p61)), Flds.set f 1 fv61, es61, ck61, G61 ++ G) (in103 hlt hlen hcs hr (by decide) hkw hF61 hO61 hno hN61) (by show (prs back v).length - (i + 1) < (prs back v).length - i; omega)) (eC rfl (eC rfl (eC rfl (eC rfl (eN _))))) (hD := sW)
  refine zD (zB ?_)
  refine zA (zU rfl rfl rfl ?_)
  refine zA (zE rfl rfl ?_)
  refine zC (zS rfl (fun h64 => ?_) (fun h64 => ?_))
  ·refine zB (sT ?_)
   refine zA ?_
   have hkw : kwIdx (prs back v)[i].1 = 2 := by rw [h64]; decide +kernel
   have hB := HB _ hmem 134 (by rw [hkw]; rfl) (by decide)
   rw [hkw] at hB
   refine xM 0 1 rfl rfl rfl (hB _ _ _ _ es1 ck1 hcs hok) rfl rfl (sub2 1 11 rfl rfl) (fun u69 M69 D69 hv69 => ?_)
   obtain ⟨p69, fv69, G69, es69, ck69, rfl, rfl, rfl, hF69, hO69, hN69⟩ := hv69
   refine zA (zP rfl rfl ?_)
   refine zA (zH rQ rfl rfl ?_)
   refine zA (xC 0 rfl rfl rfl rfl rfl si111 (by omega) ?_)
   refine zC (kE [(6, _), (5, _), (0, _), (1, _)] rfl ?_)
   refine zQ (zQ ?_)
   refine zB (zA ?_)
   refine zF rfl rfl (zA ?_)
   refine yP (s := ((2 * (i + 1) : Nat) : Int)) rfl rfl rfl (by omega) (by omega) (by omega) (zA ?_)
   refine zE rfl rfl (zC ?_)
   refine xP 8 0 2 rfl rfl (by decide) (yS 2 10 rfl rfl ?_)
   refine xK 1 2 rfl rfl ?_
   rw [xN]
   exact kQ (hK (i + 1, cs.set 2 (.pointer (some p69)), Flds.set f 2 fv69, es69, ck69, G69 ++ G) (in103 hlt hlen hcs hr (by decide) hkw hF69 hO69 hno hN69) (by show (prs back v).length - (i + 1) < (prs back v).length - i; omega)) (eC rfl (eC rfl (eC rfl (eC rfl (eN _))))) (hD := sW)
  refine zD (zB ?_)
  refine zA (zU rfl rfl rfl ?_)
  refine zA (zE rfl rfl ?_)
  refine zC (zS rfl (fun h72 => ?_) (fun h72 => ?_))
  ·refine zB (sT ?_)
   refine zA ?_
   have hkw : kwIdx (prs back v)[i].1 = 6 := by rw [h72]; decide +kernel
   have hB := HB _ hmem 135 (by rw [hkw]; rfl) (by decide)
   rw [hkw] at hB
   refine xM 0 1 rfl rfl rfl (hB _ _ _ _ es1 ck1 hcs hok) rfl rfl (sub2 1 11 rfl rfl) (fun u77 M77 D77 hv77 => ?_)
   obtain ⟨p77, fv77, G77, es77, ck77, rfl, rfl, rfl, hF77, hO77, hN77⟩ := hv77
   refine zA (zP rfl rfl ?_)
   refine zA (zH fo124_6 rfl rfl ?_)
   refine zA (xC 0 rfl rfl rfl rfl rfl si113 (by omega) ?_)
   refine zC (kE [(6, _), (5, _), (0, _), (1, _)] rfl ?_)
   refine zQ (zQ ?_)
   refine zB (zA ?_)
   refine zF rfl rfl (zA ?_)
   refine yP (s := ((2 * (i + 1) : Nat) : Int)) rfl rfl rfl (by omega) (by omega) (by omega) (zA ?_)
   refine zE rfl rfl (zC ?_)
   refine xP 8 0 6 rfl rfl (by decide) (yS 2 10 rfl rfl ?_)
   refine xK 1 2 rfl rfl ?_
   rw [xN]
   exact kQ (hK (i + 1, cs.set 6 (.pointer (some p77)), Flds.set f 6 fv77, es77, ck77, G77 ++ G) (in103 hlt hlen hcs hr (by decide) hkw hF77 hO77 hno hN77) (by show (prs back v).length - (i + 1) < (prs back v).length - i; omega)) (eC rfl (eC rfl (eC rfl (eC rfl (eN _))))) (hD := sW)
  refine zD (zB ?_)
  refine zA (zU rfl rfl rfl ?_)
  refine zA (zE rfl rfl ?_)
  refine zC (zS rfl (fun h80 => ?_) (fun h80 => ?_))
  ·refine zB (sT ?_)
   refine zA ?_
   have hkw : kwIdx (prs back v)[i].1 = 7 := by rw [h80]; decide +kernel
   have hB := HB _ hmem 135 (by rw [hkw]; rfl) (by decide)
   rw [hkw] at hB
   refine xM 0 1 rfl rfl rfl (hB _ _ _ _ es1 ck1 hcs hok) rfl rfl (sub2 1 11 rfl rfl) (fun u85 M85 D85 hv85 => ?_)
   obtain ⟨p85, fv85, G85, es85, ck85, rfl, rfl, rfl, hF85, hO85, hN85⟩ := hv85
   refine zA (zP rfl rfl ?_)
   refine zA (zH fo124_7 rfl rfl ?_)
   refine zA (xC 0 rfl rfl rfl rfl rfl si113 (by omega) ?_)
   refine zC (kE [(6, _), (5, _), (0, _), (1, _)] rfl ?_)
   refine zQ (zQ ?_)
   refine zB (zA ?_)
   refine zF rfl rfl (zA ?_)
   refine yP (s := ((2 * (i + 1) : Nat) : Int)) rfl rfl rfl (by omega) (by omega) (by omega) (zA ?_)
   refine zE rfl rfl (zC ?_)
   refine xP 8 0 7 rfl rfl (by decide) (yS 2 10 rfl rfl ?_)
   refine xK 1 2 rfl rfl ?_
   rw [xN]
   exact kQ (hK (i + 1, cs.set 7 (.pointer (some p85)), Flds.set f 7 fv85, es85, ck85, G85 ++ G) (in103 hlt hlen hcs hr (by decide) hkw hF85 hO85 hno hN85) (by show (prs back v).length - (i + 1) < (prs back v).length - i; omega)) (eC rfl (eC rfl (eC rfl (eC rfl (eN _))))) (hD := sW)
  refine zD (zB ?_)
  refine zA (zU rfl rfl rfl ?_)
  refine zA (zE rfl rfl ?_)
  refine zC (kE [(88, _), (55, _), (8, _), (6, _), (5, _), (0, _), (1, _)] rfl ?_)
  refine zS rfl (fun h88 => ?_) (fun h88 => ?_)
  ·refine zB (sT ?_)
   refine zA ?_
   have hkw : kwIdx (prs back v)[i].1 = 8 := by rw [h88]; decide +kernel
   have hB := HB _ hmem 136 (by rw [hkw]; rfl) (by decide)
   rw [hkw] at hB
   refine xM 0 1 rfl rfl rfl (hB _ _ _ _ es1 ck1 hcs hok) rfl rfl (sub2 1 11 rfl rfl) (fun u93 M93 D93 hv93 => ?_)
   obtain ⟨p93, fv93, G93, es93, ck93, rfl, rfl, rfl, hF93, hO93, hN93⟩ := hv93
   refine zA (zP rfl rfl ?_)
   refine zA (zH fo124_8 rfl rfl ?_)
   refine zA (xC 0 rfl rfl rfl rfl rfl si112 (by omega) ?_)
   refine zC (kE [(6, _), (5, _), (0, _), (1, _)] rfl ?_)
   refine zQ (zQ ?_)
   refine zB (zA ?_)
   refine zF rfl rfl (zA ?_)
   refine yP (s := ((2 * (i + 1) : Nat) : Int)) rfl rfl rfl (by omega) (by omega) (by omega) (zA ?_)
   refine zE rfl rfl (zC ?_)
   refine xP 8 0 8 rfl rfl (by decide) (yS 2 10 rfl rfl ?_)
   refine xK 1 2 rfl rfl ?_
   rw [xN]
   exact kQ (hK (i + 1, cs.set 8 (.pointer (some p93)), Flds.set f 8 fv93, es93, ck93, G93 ++ G) (in103 hlt hlen hcs hr (by decide) hkw hF93 hO93 hno hN93) (by show (prs back v).length - (i + 1) < (prs back v).length - i; omega)) (eC rfl (eC rfl (eC rfl (eC rfl (eN _))))) (hD := sW)
  refine zD (zB ?_)
  refine zA (zU rfl rfl rfl ?_)
  refine zA (zE rfl rfl ?_)
  refine zC (zS rfl (fun h96 => ?_) (fun h96 => ?_))
  ·refine zB (sT ?_)
   refine zA ?_
   have hkw : kwIdx (prs back v)[i].1 = 9 := by rw [h96]; decide +kernel
   have hB := HB _ hmem 135 (by rw [hkw]; rfl) (by decide)
   rw [hkw] at hB
   refine xM 0 1 rfl rfl rfl (hB _ _ _ _ es1 ck1 hcs hok) rfl rfl (sub2 1 11 rfl rfl) (fun u101 M101 D101 hv101 => ?_)
   obtain ⟨p101, fv101, G101, es101, ck101, rfl, rfl, rfl, hF101, hO101, hN101⟩ := hv101
   refine zA (zP rfl rfl ?_)
   refine zA (zH fo124_9 rfl rfl ?_)
   refine zA (xC 0 rfl rfl rfl rfl rfl si113 (by omega) ?_)
   refine zC (kE [(6, _), (5, _), (0, _), (1, _)] rfl ?_)
   refine zQ (zQ ?_)
   refine zB (zA ?_)
   refine zF rfl rfl (zA ?_)
   refine yP (s := ((2 * (i + 1) : Nat) : Int)) rfl rfl rfl (by omega) (by omega) (by omega) (zA ?_)
   refine zE rfl rfl (zC ?_)
   refine xP 8 0 9 rfl rfl (by decide) (yS 2 10 rfl rfl ?_)
   refine xK 1 2 rfl rfl ?_
   rw [xN]
   exact kQ (hK (i + 1, cs.set 9 (.pointer (some p101)), Flds.set f 9 fv101, es101, ck101, G101 ++ G) (in103 hlt hlen hcs hr (by decide) hkw hF101 hO101 hno hN101) (by show (prs back v).length - (i + 1) < (prs back v).length - i; omega)) (eC rfl (eC rfl (eC rfl (eC rfl (eN _))))) (hD := sW)
  refine zD (zB ?_)
  refine zA (zU rfl rfl rfl ?_)
  refine zA (zE rfl rfl ?_)
  refine zC (zS rfl (fun h104 => ?_) (fun h104 => ?_))
  ·refine zB (sT ?_)
   refine zA ?_
   have hkw : kwIdx (prs back v)[i].1 = 10 := by rw [h104]; decide +kernel
   have hB := HB _ hmem 136 (by rw [hkw]; rfl) (by decide)
   rw [hkw] at hB
   refine xM 0 1 rfl rfl rfl (hB _ _ _ _ es1 ck1 hcs hok) rfl rfl (sub2 1 11 rfl rfl) (fun u109 M109 D109 hv109 => ?_)
   obtain ⟨p109, fv109, G109, es109, ck109, rfl, rfl, rfl, hF109, hO109, hN109⟩ := hv109
   refine zA (zP rfl rfl ?_)
   refine zA (zH fo124_10 rfl rfl ?_)
   refine zA (xC 0 rfl rfl rfl rfl rfl si112 (by omega) ?_)
   refine zC (kE [(6, _), (5, _), (0, _), (1, _)] rfl ?_)
   refine zQ (zQ ?_)
   refine zB (zA ?_)
   refine zF rfl rfl (zA ?_)
   refine yP (s := ((2 * (i + 1) : Nat) : Int)) rfl rfl rfl (by omega) (by omega) (by omega) (zA ?_)
   refine zE rfl rfl (zC ?_)
   refine xP 8 0 10 rfl rfl (by decide) (yS 2 10 rfl rfl ?_)
   refine xK 1 2 rfl rfl ?_
   rw [xN]
   exact kQ (hK (i + 1, cs.set 10 (.pointer (some p109)), Flds.set f 10 fv109, es109, ck109, G109 ++ G) (in103 hlt hlen hcs hr (by decide) hkw hF109 hO109 hno hN109) (by show (prs back v).length - (i + 1) < (prs back v).length - i; omega)) (eC rfl (eC rfl (eC rfl (eC rfl (eN _))))) (hD := sW)
  refine zD (zB ?_)
  refine zA (zU rfl rfl rfl ?_)
  refine zA (zE rfl rfl ?_)
  refine zC (zS rfl (fun h112 => ?_) (fun h112 => ?_))
  ·refine zB (sT ?_)
   refine zA ?_
   have hkw : kwIdx (prs back v)[i].1 = 11 := by rw [h112]; decide +kernel
   have hB := HB _ hmem 137 (by rw [hkw]; rfl) (by decide)
   rw [hkw] at hB
   refine xM 0 1 rfl rfl rfl (hB _ _ _ _ es1 ck1 hcs hok) rfl rfl (sub2 1 11 rfl rfl) (fun u117 M117 D117 hv117 => ?_)
   obtain ⟨p117, fv117, G117, es117, ck117, rfl, rfl, rfl, hF117, hO117, hN117⟩ := hv117
   refine zA (zP rfl rfl ?_)
   refine zA (zH fo124_11 rfl rfl ?_)
   refine zA (xC 0 rfl rfl rfl rfl rfl si114 (by omega) ?_)
   refine zC (kE [(6, _), (5, _), (0, _), (1, _)] rfl ?_)
   refine zQ (zQ ?_)
   refine zB (zA ?_)
   refine zF rfl rfl (zA ?_)
   refine yP (s := ((2 * (i + 1) : Nat) : Int)) rfl rfl rfl (by omega) (by omega) (by omega) (zA ?_)
   refine zE rfl rfl (zC ?_)
   refine xP 8 0 11 rfl rfl (by decide) (yS 2 10 rfl rfl ?_)
   refine xK 1 2 rfl rfl ?_
   rw [xN]
   exact kQ (hK (i + 1, cs.set 11 (.pointer (some p117)), Flds.set f 11 fv117, es117, ck117, G117 ++ G) (in103 hlt hlen hcs hr (by decide) hkw hF117 hO117 hno hN117) (by show (prs back v).length - (i + 1) < (prs back v).length - i; omega)) (eC rfl (eC rfl (eC rfl (eC rfl (eN _))))) (hD := sW)
  refine zD (zB ?_)
  refine zA (zU rfl rfl rfl ?_)
  refine zA (zE rfl rfl ?_)
  refine zC (zS rfl (fun h120 => ?_) (fun h120 => ?_))
  ·refine zB (sT ?_)
   refine zA ?_
   have hkw : kwIdx (prs back v)[i].1 = 12 := by rw [h120]; decide +kernel
   have hB := HB _ hmem 137 (by rw [hkw]; rfl) (by decide)
   rw [hkw] at hB
   refine xM 0 1 rfl rfl rfl (hB _ _ _ _ es1 ck1 hcs hok) rfl rfl (sub2 1 11 rfl rfl) (fun u125 M125 D125 hv125 => ?_)
   obtain ⟨p125, fv125, G125, es125, ck125, rfl, rfl, rfl, hF125, hO125, hN125⟩ := hv125
   refine zA (zP rfl rfl ?_)
   refine zA (zH fo124_12 rfl rfl ?_)
   refine zA (xC 0 rfl rfl rfl rfl rfl si114 (by omega) ?_)
   refine zC (kE [(6, _), (5, _), (0, _), (1, _)] rfl ?_)
   refine zQ (zQ ?_)
   refine zB (zA ?_)
   refine zF rfl rfl (zA ?_)
   refine yP (s := ((2 * (i + 1) : Nat) : Int)) rfl rfl rfl (by omega) (by omega) (by omega) (zA ?_)
   refine zE rfl rfl (zC ?_)
   refine xP 8 0 12 rfl rfl (by decide) (yS 2 10 rfl rfl ?_)
   refine xK 1 2 rfl rfl ?_
   rw [xN]
   exact kQ (hK (i + 1, cs.set 12 (.pointer (some p125)), Flds.set f 12 fv125, es125, ck125, G125 ++ G) (in103 hlt hlen hcs hr (by decide) hkw hF125 hO125 hno hN125) (by show (prs back v).length - (i + 1) < (prs back v).length - i; omega)) (eC rfl (eC rfl (eC rfl (eC rfl (eN _))))) (hD := sW)
  refine zD (zB ?_)
  refine zA (zU rfl rfl rfl ?_)
  refine zA (zE rfl rfl ?_)
  refine zC (kE [(128, _), (55, _), (8, _), (6, _), (5, _), (0, _), (1, _)] rfl ?_)
  refine zS rfl (fun h128 => ?_) (fun h128 => ?_)
  ·refine zB (sT ?_)
   refine zA ?_
   have hkw : kwIdx (prs back v)[i].1 = 13 := by rw [h128]; decide +kernel
   have hB := HB _ hmem 134 (by rw [hkw]; rfl) (by decide)
   rw [hkw] at hB
   refine xM 0 1 rfl rfl rfl (hB _ _ _ _ es1 ck1 hcs hok) rfl rfl (sub2 1 11 rfl rfl) (fun u133 M133 D133 hv133 => ?_)
   obtain ⟨p133, fv133, G133, es133, ck133, rfl, rfl, rfl, hF133, hO133, hN133⟩ := hv133
   refine zA (zP rfl rfl ?_)
   refine zA (zH fo124_13 rfl rfl ?_)
   refine zA (xC 0 rfl rfl rfl rfl rfl si111 (by omega) ?_)
   refine zC (kE [(6, _), (5, _), (0, _), (1, _)] rfl ?_)
   refine zQ (zQ ?_)
   refine zB (zA ?_)
   refine zF rfl rfl (zA ?_)
   refine yP (s := ((2 * (i + 1) : Nat) : Int)) rfl rfl rfl (by omega) (by omega) (by omega) (zA ?_)
   refine zE rfl rfl (zC ?_)
   refine xP 8 0 13 rfl rfl (by decide) (yS 2 10 rfl rfl ?_)
   refine xK 1 2 rfl rfl ?_
   rw [xN]
   exact kQ (hK (i + 1, cs.set 13 (.pointer (some p133)), Flds.set f 13 fv133, es133, ck133, G133 ++ G) (in103 hlt hlen hcs hr (by decide) hkw hF133 hO133 hno hN133) (by show (prs back v).length - (i + 1) < (prs back v).length - i; omega)) (eC rfl (eC rfl (eC rfl (eC rfl (eN _))))) (hD := sW)
  refine zD (zB ?_)
  refine zA (zU rfl rfl rfl ?_)
  refine zA (zE rfl rfl ?_)
  refine zC (zS rfl (fun h136 => ?_) (fun h136 => ?_))
  ·refine zB (sT ?_)
   refine zA ?_
   have hkw : kwIdx (prs back v)[i].1 = 14 := by rw [h136]; decide +kernel
   have hB := HB _ hmem 138 (by rw [hkw]; rfl) (by decide)
   rw [hkw] at hB
   refine xM 0 1 rfl rfl rfl (hB _ _ _ _ es1 ck1 hcs hok) rfl rfl (sub2 1 11 rfl rfl) (fun u141 M141 D141 hv141 => ?_)
   obtain ⟨p141, fv141, G141, es141, ck141, rfl, rfl, rfl, hF141, hO141, hN141⟩ := hv141
   refine zA (zP rfl rfl ?_)
   refine zA (zH fo124_14 rfl rfl ?_)
   refine zA (xC 0 rfl rfl rfl rfl rfl si115 (by omega) ?_)
   refine zC (kE [(6, _), (5, _), (0, _), (1, _)] rfl ?_)
   refine zQ (zQ ?_)
   refine zB (zA ?_)
   refine zF rfl rfl (zA ?_)
   refine yP (s := ((2 * (i + 1) : Nat) : Int)) rfl rfl rfl (by omega) (by omega) (by omega) (zA ?_)
   refine zE rfl rfl (zC ?_)
   refine xP 8 0 14 rfl rfl (by decide) (yS 2 10 rfl rfl ?_)
   refine xK 1 2 rfl rfl ?_
   rw [xN]
   exact kQ (hK (i + 1, cs.set 14 (.pointer (some p141)), Flds.set f 14 fv141, es141, ck141, G141 ++ G) (in103 hlt hlen hcs hr (by decide) hkw hF141 hO141 hno hN141) (by show (prs back v).length - (i + 1) < (prs back v).length - i; omega)) (eC rfl (eC rfl (eC rfl (eC rfl (eN _))))) (hD := sW)
  refine zD (zB ?_)
  refine zA (zU rfl rfl rfl ?_)
  refine zA (zE rfl rfl ?_)
  refine zC (zS rfl (fun h144 => ?_) (fun h144 => ?_))
  ·refine zB (sT ?_)
   refine zA ?_
   have hkw : kwIdx (prs back v)[i].1 = 15 := by rw [h144]; decide +kernel
   have hB := HB _ hmem 139 (by rw [hkw]; rfl) (by decide)
   rw [hkw] at hB
   refine xM 0 1 rfl rfl rfl (hB _ _ _ _ es1 ck1 hcs hok) rfl rfl (sub2 1 11 rfl rfl) (fun u149 M149 D149 hv149 => ?_)
   obtain ⟨p149, fv149, G149, es149, ck149, rfl, rfl, rfl, hF149, hO149, hN149⟩ := hv149
   refine zA (zP rfl rfl ?_)
   refine zA (zH fo124_15 rfl rfl ?_)
   refine zA (xC 0 rfl rfl rfl rfl rfl si116 (by omega) ?_)
   refine zC (kE [(6, _), (5, _), (0, _), (1, _)] rfl ?_)
   refine zQ (zQ ?_)
   refine zB (zA ?_)
   refine zF rfl rfl (zA ?_)
   refine yP (s := ((2 * (i + 1) : Nat) : Int)) rfl rfl rfl (by omega) (by omega) (by omega) (zA ?_)
   refine zE rfl rfl (zC ?_)
   refine xP 8 0 15 rfl rfl (by decide) (yS 2 10 rfl rfl ?_)
   refine xK 1 2 rfl rfl ?_
   rw [xN]
   exact kQ (hK (i + 1, cs.set 15 (.pointer (some p149)), Flds.set f 15 fv149, es149, ck149, G149 ++ G) (in103 hlt hlen hcs hr (by decide) hkw hF149 hO149 hno hN149) (by show (prs back v).length - (i + 1) < (prs back v).length - i; omega)) (eC rfl (eC rfl (eC rfl (eC rfl (eN _))))) (hD := sW)
  refine zD (zB ?_)
  refine zA (zU rfl rfl rfl ?_)
  refine zA (zE rfl rfl ?_)
  refine zC (zS rfl (fun h152 => ?_) (fun h152 => ?_))
  ·refine zB (sT ?_)
   refine zA ?_
   have hkw : kwIdx (prs back v)[i].1 = 16 := by rw [h152]; decide +kernel
   have hB := HB _ hmem 137 (by rw [hkw]; rfl) (by decide)
   rw [hkw] at hB
   refine xM 0 1 rfl rfl rfl (hB _ _ _ _ es1 ck1 hcs hok) rfl rfl (sub2 1 11 rfl rfl) (fun u157 M157 D157 hv157 => ?_)
   obtain ⟨p157, fv157, G157, es157, ck157, rfl, rfl, rfl, hF157, hO157, hN157⟩ := hv157
   refine zA (zP rfl rfl ?_)
   refine zA (zH fo124_16 rfl rfl ?_)
   refine zA (xC 0 rfl rfl rfl rfl rfl si114 (by omega) ?_)
   refine zC (kE [(6, _), (5, _), (0, _), (1, _)] rfl ?_)
   refine zQ (zQ ?_)
   refine zB (zA ?_)
   refine zF rfl rfl (zA ?_)
   refine yP (s := ((2 * (i + 1) : Nat) : Int)) rfl rfl rfl (by omega) (by omega) (by omega) (zA ?_)
   refine zE rfl rfl (zC ?_)
   refine xP 8 0 16 rfl rfl (by decide) (yS 2 10 rfl rfl ?_)
   refine xK 1 2 rfl rfl ?_
   rw [xN]
   exact kQ (hK (i + 1, cs.set 16 (.pointer (some p157)), Flds.set f 16 fv157, es157, ck157, G157 ++ G) (in103 hlt hlen hcs hr (by decide) hkw hF157 hO157 hno hN157) (by show (prs back v).length - (i + 1) < (prs back v).length - i; omega)) (eC rfl (eC rfl (eC rfl (eC rfl (eN _))))) (hD := sW)
  refine zD (zB ?_)
  refine zA (zU rfl rfl rfl ?_)
  refine zA (zE rfl rfl ?_)
  refine zC (zS rfl (fun h160 => ?_) (fun h160 => ?_))
  ·refine zB (sT ?_)
   refine zA ?_
   have hkw : kwIdx (prs back v)[i].1 = 17 := by rw [h160]; decide +kernel
   have hB := HB _ hmem 137 (by rw [hkw]; rfl) (by decide)
   rw [hkw] at hB
   refine xM 0 1 rfl rfl rfl (hB _ _ _ _ es1 ck1 hcs hok) rfl rfl (sub2 1 11 rfl rfl) (fun u165 M165 D165 hv165 => ?_)
   obtain ⟨p165, fv165, G165, es165, ck165, rfl, rfl, rfl, hF165, hO165, hN165⟩ := hv165
   refine zA (zP rfl rfl ?_)
   refine zA (zH fo124_17 rfl rfl ?_)
   refine zA (xC 0 rfl rfl rfl rfl rfl si114 (by omega) ?_)
   refine zC (kE [(6, _), (5, _), (0, _), (1, _)] rfl ?_)
   refine zQ (zQ ?_)
   refine zB (zA ?_)
   refine zF rfl rfl (zA ?_)
   refine yP (s := ((2 * (i + 1) : Nat) : Int)) rfl rfl rfl (by omega) (by omega) (by omega) (zA ?_)
   refine zE rfl rfl (zC ?_)
   refine xP 8 0 17 rfl rfl (by decide) (yS 2 10 rfl rfl ?_)
   refine xK 1 2 rfl rfl ?_
   rw [xN]
   exact kQ (hK (i + 1, cs.set 17 (.pointer (some p165)), Flds.set f 17 fv165, es165, ck165, G165 ++ G) (in103 hlt hlen hcs hr (by decide) hkw hF165 hO165 hno hN165) (by show (prs back v).length - (i + 1) < (prs back v).length - i; omega)) (eC rfl (eC rfl (eC rfl (eC rfl (eN _))))) (hD := sW)
  refine zD (zB ?_)
  refine zA (zU rfl rfl rfl ?_)
  refine zA (zE rfl rfl ?_)
  refine zC (kE [(168, _), (55, _), (8, _), (6, _), (5, _), (0, _), (1, _)] rfl ?_)
  refine zS rfl (fun h168 => ?_) (fun h168 => ?_)
  ·refine zB (sT ?_)
   refine zA ?_
   have hkw : kwIdx (prs back v)[i].1 = 18 := by rw [h168]; decide +kernel
   have hB := HB _ hmem 136 (by rw [hkw]; rfl) (by decide)
   rw [hkw] at hB
   refine xM 0 1 rfl rfl rfl (hB _ _ _ _ es1 ck1 hcs hok) rfl rfl (sub2 1 11 rfl rfl) (fun u173 M173 D173 hv173 => ?_)
   obtain ⟨p173, fv173, G173, es173, ck173, rfl, rfl, rfl, hF173, hO173, hN173⟩ := hv173
   refine zA (zP rfl rfl ?_)
   refine zA (zH fo124_18 rfl rfl ?_)
   refine zA (xC 0 rfl rfl rfl rfl rfl si112 (by omega) ?_)
   refine zC (kE [(6, _), (5, _), (0, _), (1, _)] rfl ?_)
   refine zQ (zQ ?_)
   refine zB (zA ?_)
   refine zF rfl rfl (zA ?_)
   refine yP (s := ((2 * (i + 1) : Nat) : Int)) rfl rfl rfl (by omega) (by omega) (by omega) (zA ?_)
   refine zE rfl rfl (zC ?_)
   refine xP 8 0 18 rfl rfl (by decide) (yS 2 10 rfl rfl ?_)
   refine xK 1 2 rfl rfl ?_
   rw [xN]
   exact kQ (hK (i + 1, cs.set 18 (.pointer (some p173)), Flds.set f 18 fv173, es173, ck173, G173 ++ G) (in103 hlt hlen hcs hr (by decide) hkw hF173 hO173 hno hN173) (by show (prs back v).length - (i + 1) < (prs back v).length - i; omega)) (eC rfl (eC rfl (eC rfl (eC rfl (eN _))))) (hD := sW)
  refine zD (zB ?_)
  refine zA (zU rfl rfl rfl ?_)
  refine zA (zE rfl rfl ?_)
  refine zC (zS rfl (fun h176 => ?_) (fun h176 => ?_))
  ·refine zB (sT ?_)
   refine zA ?_
   have hkw : kwIdx (prs back v)[i].1 = 19 := by rw [h176]; decide +kernel
   have hB := HB _ hmem 137 (by rw [hkw]; rfl) (by decide)
   rw [hkw] at hB
   refine xM 0 1 rfl rfl rfl (hB _ _ _ _ es1 ck1 hcs hok) rfl rfl (sub2 1 11 rfl rfl) (fun u181 M181 D181 hv181 => ?_)
   obtain ⟨p181, fv181, G181, es181, ck181, rfl, rfl, rfl, hF181, hO181, hN181⟩ := hv181
   refine zA (zP rfl rfl ?_)
   refine zA (zH fo124_19 rfl rfl ?_)
   refine zA (xC 0 rfl rfl rfl rfl rfl si114 (by omega) ?_)
   refine zC (kE [(6, _), (5, _), (0, _), (1, _)] rfl ?_)
   refine zQ (zQ ?_)
   refine zB (zA ?_)
   refine zF rfl rfl (zA ?_)
   refine yP (s := ((2 * (i + 1) : Nat) : Int)) rfl rfl rfl (by omega) (by omega) (by omega) (zA ?_)
   refine zE rfl rfl (zC ?_)
   refine xP 8 0 19 rfl rfl (by decide) (yS 2 10 rfl rfl ?_)
   refine xK 1 2 rfl rfl ?_
   rw [xN]
   exact kQ (hK (i + 1, cs.set 19 (.pointer (some p181)), Flds.set f 19 fv181, es181, ck181, G181 ++ G) (in103 hlt hlen hcs hr (by decide) hkw hF181 hO181 hno hN181) (by show (prs back v).length - (i + 1) < (prs back v).length - i; omega)) (eC rfl (eC rfl (eC rfl (eC rfl (eN _))))) (hD := sW)
  refine zD (zB ?_)
  refine zA (zU rfl rfl rfl ?_)
  refine zA (zE rfl rfl ?_)
  refine zC (zS rfl (fun h184 => ?_) (fun h184 => ?_))
  ·refine zB (sT ?_)
   refine zA ?_
   have hkw : kwIdx (prs back v)[i].1 = 20 := by rw [h184]; decide +kernel
   have hB := HB _ hmem 137 (by rw [hkw]; rfl) (by decide)
   rw [hkw] at hB
   refine xM 0 1 rfl rfl rfl (hB _ _ _ _ es1 ck1 hcs hok) rfl rfl (sub2 1 11 rfl rfl) (fun u189 M189 D189 hv189 => ?_)
   obtain ⟨p189, fv189, G189, es189, ck189, rfl, rfl, rfl, hF189, hO189, hN189⟩ := hv189
   refine zA (zP rfl rfl ?_)
   refine zA (zH fo124_20 rfl rfl ?_)
   refine zA (xC 0 rfl rfl rfl rfl rfl si114 (by omega) ?_)
   refine zC (kE [(6, _), (5, _), (0, _), (1, _)] rfl ?_)
   refine zQ (zQ ?_)
   refine zB (zA ?_)
   refine zF rfl rfl (zA ?_)
   refine yP (s := ((2 * (i + 1) : Nat) : Int)) rfl rfl rfl (by omega) (by omega) (by omega) (zA ?_)
   refine zE rfl rfl (zC ?_)
   refine xP 8 0 20 rfl rfl (by decide) (yS 2 10 rfl rfl ?_)
   refine xK 1 2 rfl rfl ?_
   rw [xN]
   exact kQ (hK (i + 1, cs.set 20 (.pointer (some p189)), Flds.set f 20 fv189, es189, ck189, G189 ++ G) (in103 hlt hlen hcs hr (by decide) hkw hF189 hO189 hno hN189) (by show (prs back v).length - (i + 1) < (prs back v).length - i; omega)) (eC rfl (eC rfl (eC rfl (eC rfl (eN _))))) (hD := sW)
  refine zD (zB ?_)
  refine zA (zU rfl rfl rfl ?_)
  refine zA (zE rfl rfl ?_)
  refine zC (zS rfl (fun h192 => ?_) (fun h192 => ?_))
  ·refine zB (sT ?_)
   refine zA ?_
   have hkw : kwIdx (prs back v)[i].1 = 21 := by rw [h192]; decide +kernel
   have hB := HB _ hmem 140 (by rw [hkw]; rfl) (by decide)
   rw [hkw] at hB
   refine xM 0 1 rfl rfl rfl (hB _ _ _ _ es1 ck1 hcs hok) rfl rfl (sub2 1 11 rfl rfl) (fun u197 M197 D197 hv197 => ?_)
   obtain ⟨p197, fv197, G197, es197, ck197, rfl, rfl, rfl, hF197, hO197, hN197⟩ := hv197
   refine zA (zP rfl rfl ?_)
   refine zA (zH fo124_21 rfl rfl ?_)
   refine zA (xC 0 rfl rfl rfl rfl rfl si117 (by omega) ?_)
   refine zC (kE [(6, _), (5, _), (0, _), (1, _)] rfl ?_)
   refine zQ (zQ ?_)
   refine zB (zA ?_)
   refine zF rfl rfl (zA ?_)
   refine yP (s := ((2 * (i + 1) : Nat) : Int)) rfl rfl rfl (by omega) (by omega) (by omega) (zA ?_)
   refine zE rfl rfl (zC ?_)
   refine xP 8 0 21 rfl rfl (by decide) (yS 2 10 rfl rfl ?_)
   refine xK 1 2 rfl rfl ?_
   rw [xN]
   exact kQ (hK (i + 1, cs.set 21 (.pointer (some p197)), Flds.set f 21 fv197, es197, ck197, G197 ++ G) (in103 hlt hlen hcs hr (by decide) hkw hF197 hO197 hno hN197) (by show (prs back v).length - (i + 1) < (prs back v).length - i; omega)) (eC rfl (eC rfl (eC rfl (eC rfl (eN _))))) (hD := sW)
  refine zD (zB ?_)
  refine zA (zU rfl rfl rfl ?_)
  refine zA (zE rfl rfl ?_)
  refine zC (zS rfl (fun h200 => ?_) (fun h200 => ?_))
  ·refine zB (sT ?_)
   refine zA ?_
   have hkw : kwIdx (prs back v)[i].1 = 22 := by rw [h200]; decide +kernel
   have hB := HB _ hmem 138 (by rw [hkw]; rfl) (by decide)
   rw [hkw] at hB
   refine xM 0 1 rfl rfl rfl (hB _ _ _ _ es1 ck1 hcs hok) rfl rfl (sub2 1 11 rfl rfl) (fun u205 M205 D205 hv205 => ?_)
   obtain ⟨p205, fv205, G205, es205, ck205, rfl, rfl, rfl, hF205, hO205, hN205⟩ := hv205
   refine zA (zP rfl rfl ?_)
   refine zA (zH fo124_22 rfl rfl ?_)
   refine zA (xC 0 rfl rfl rfl rfl rfl si115 (by omega) ?_)
   refine zC (kE [(6, _), (5, _), (0, _), (1, _)] rfl ?_)
   refine zQ (zQ ?_)
   refine zB (zA ?_)
   refine zF rfl rfl (zA ?_)
   refine yP (s := ((2 * (i + 1) : Nat) : Int)) rfl rfl rfl (by omega) (by omega) (by omega) (zA ?_)
   refine zE rfl rfl (zC ?_)
   refine xP 8 0 22 rfl rfl (by decide) (yS 2 10 rfl rfl ?_)
   refine xK 1 2 rfl rfl ?_
   rw [xN]
   exact kQ (hK (i + 1, cs.set 22 (.pointer (some p205)), Flds.set f 22 fv205, es205, ck205, G205 ++ G) (in103 hlt hlen hcs hr (by decide) hkw hF205 hO205 hno hN205) (by show (prs back v).length - (i + 1) < (prs back v).length - i; omega)) (eC rfl (eC rfl (eC rfl (eC rfl (eN _))))) (hD := sW)
  refine zD (zB ?_)
  refine zA (zU rfl rfl rfl ?_)
  refine zA (zE rfl rfl ?_)
  refine zC (kE [(208, _), (55, _), (8, _), (6, _), (5, _), (0, _), (1, _)] rfl ?_)
  refine zS rfl (fun h208 => ?_) (fun h208 => ?_)
  ·refine zB (sT ?_)
   refine zA ?_
   have hkw : kwIdx (prs back v)[i].1 = 23 := by rw [h208]; decide +kernel
   have hB := HB _ hmem 141 (by rw [hkw]; rfl) (by decide)
   rw [hkw] at hB
   refine xM 0 1 rfl rfl rfl (hB _ _ _ _ es1 ck1 hcs hok) rfl rfl (sub2 1 11 rfl rfl) (fun u213 M213 D213 hv213 => ?_)
   obtain ⟨p213, fv213, G213, es213, ck213, rfl, rfl, rfl, hF213, hO213, hN213⟩ := hv213
   refine zA (zP rfl rfl ?_)
   refine zA (zH fo124_23 rfl rfl ?_)
   refine zA (xC 0 rfl rfl rfl rfl rfl si118 (by omega) ?_)
   refine zC (kE [(6, _), (5, _), (0, _), (1, _)] rfl ?_)
   refine zQ (zQ ?_)
   refine zB (zA ?_)
   refine zF rfl rfl (zA ?_)
   refine yP (s := ((2 * (i + 1) : Nat) : Int)) rfl rfl rfl (by omega) (by omega) (by omega) (zA ?_)
   refine zE rfl rfl (zC ?_)
   refine xP 8 0 23 rfl rfl (by decide) (yS 2 10 rfl rfl ?_)
   refine xK 1 2 rfl rfl ?_
   rw [xN]
   exact kQ (hK (i + 1, cs.set 23 (.pointer (some p213)), Flds.set f 23 fv213, es213, ck213, G213 ++ G) (in103 hlt hlen hcs hr (by decide) hkw hF213 hO213 hno hN213) (by show (prs back v).length - (i + 1) < (prs back v).length - i; omega)) (eC rfl (eC rfl (eC rfl (eC rfl (eN _))))) (hD := sW)
  refine zD (zB ?_)
  refine zA (zU rfl rfl rfl ?_)
  refine zA (zE rfl rfl ?_)
  refine zC (zS rfl (fun h216 => ?_) (fun h216 => ?_))
  ·refine zB (sT ?_)
   refine zA ?_
   have hkw : kwIdx (prs back v)[i].1 = 24 := by rw [h216]; decide +kernel
   have hB := HB _ hmem 141 (by rw [hkw]; rfl) (by decide)
   rw [hkw] at hB
   refine xM 0 1 rfl rfl rfl (hB _ _ _ _ es1 ck1 hcs hok) rfl rfl (sub2 1 11 rfl rfl) (fun u221 M221 D221 hv221 => ?_)
   obtain ⟨p221, fv221, G221, es221, ck221, rfl, rfl, rfl, hF221, hO221, hN221⟩ := hv221
   refine zA (zP rfl rfl ?_)
   refine zA (zH fo124_24 rfl rfl ?_)
   refine zA (xC 0 rfl rfl rfl rfl rfl si118 (by omega) ?_)
   refine zC (kE [(6, _), (5, _), (0, _), (1, _)] rfl ?_)
   refine zQ (zQ ?_)
   refine zB (zA ?_)
   refine zF rfl rfl (zA ?_)
   refine yP (s := ((2 * (i + 1) : Nat) : Int)) rfl rfl rfl (by omega) (by omega) (by omega) (zA ?_)
   refine zE rfl rfl (zC ?_)
   refine xP 8 0 24 rfl rfl (by decide) (yS 2 10 rfl rfl ?_)
   refine xK 1 2 rfl rfl ?_
   rw [xN]
   exact kQ (hK (i + 1, cs.set 24 (.pointer (some p221)), Flds.set f 24 fv221, es221, ck221, G221 ++ G) (in103 hlt hlen hcs hr (by decide) hkw hF221 hO221 hno hN221) (by show (prs back v).length - (i + 1) < (prs back v).length - i; omega)) (eC rfl (eC rfl (eC rfl (eC rfl (eN _))))) (hD := sW)
  refine zD (zB ?_)
  refine zA (zU rfl rfl rfl ?_)
  refine zA (zE rfl rfl ?_)
  refine zC (zS rfl (fun h224 => ?_) (fun h224 => ?_))
  ·refine zB (sT ?_)
   refine zA ?_
   have hkw : kwIdx (prs back v)[i].1 = 25 := by rw [h224]; decide +kernel
   have hB := HB _ hmem 142 (by rw [hkw]; rfl) (by decide)
   rw [hkw] at hB
   refine xM 0 1 rfl rfl rfl (hB _ _ _ _ es1 ck1 hcs hok) rfl rfl (sub2 1 11 rfl rfl) (fun u229 M229 D229 hv229 => ?_)
   obtain ⟨p229, fv229, G229, es229, ck229, rfl, rfl, rfl, hF229, hO229, hN229⟩ := hv229
   refine zA (zP rfl rfl ?_)
   refine zA (zH fo124_25 rfl rfl ?_)
   refine zA (xC 0 rfl rfl rfl rfl rfl si119 (by omega) ?_)
   refine zC (kE [(6, _), (5, _), (0, _), (1, _)] rfl ?_)
   refine zQ (zQ ?_)
   refine zB (zA ?_)
   refine zF rfl rfl (zA ?_)
   refine yP (s := ((2 * (i + 1) : Nat) : Int)) rfl rfl rfl (by omega) (by omega) (by omega) (zA ?_)
   refine zE rfl rfl (zC ?_)
   refine xP 8 0 25 rfl rfl (by decide) (yS 2 10 rfl rfl ?_)
   refine xK 1 2 rfl rfl ?_
   rw [xN]
   exact kQ (hK (i + 1, cs.set 25 (.pointer (some p229)), Flds.set f 25 fv229, es229, ck229, G229 ++ G) (in103 hlt hlen hcs hr (by decide) hkw hF229 hO229 hno hN229) (by show (prs back v).length - (i + 1) < (prs back v).length - i; omega)) (eC rfl (eC rfl (eC rfl (eC rfl (eN _))))) (hD := sW)
  refine zD (zB ?_)
  refine zA (zU rfl rfl rfl ?_)
  refine zA (zE rfl rfl ?_)
  refine zC (zS rfl (fun h232 => ?_) (fun h232 => ?_))
  ·refine zB (sT ?_)
   refine zA ?_
   have hkw : kwIdx (prs back v)[i].1 = 26 := by rw [h232]; decide +kernel
   have hB := HB _ hmem 143 (by rw [hkw]; rfl) (by decide)
   rw [hkw] at hB
   refine xM 0 1 rfl rfl rfl (hB _ _ _ _ es1 ck1 hcs hok) rfl rfl (sub2 1 11 rfl rfl) (fun u237 M237 D237 hv237 => ?_)
   obtain ⟨p237, fv237, G237, es237, ck237, rfl, rfl, rfl, hF237, hO237, hN237⟩ := hv237
   refine zA (zP rfl rfl ?_)
   refine zA (zH fo124_26 rfl rfl ?_)
   refine zA (xC 0 rfl rfl rfl rfl rfl si120 (by omega) ?_)
   refine zC (kE [(6, _), (5, _), (0, _), (1, _)] rfl ?_)
   refine zQ (zQ ?_)
   refine zB (zA ?_)
   refine zF rfl rfl (zA ?_)
   refine yP (s := ((2 * (i + 1) : Nat) : Int)) rfl rfl rfl (by omega) (by omega) (by omega) (zA ?_)
   refine zE rfl rfl (zC ?_)
   refine xP 8 0 26 rfl rfl (by decide) (yS 2 10 rfl rfl ?_)
   refine xK 1 2 rfl rfl ?_
   rw [xN]
   exact kQ (hK (i + 1, cs.set 26 (.pointer (some p237)), Flds.set f 26 fv237, es237, ck237, G237 ++ G) (in103 hlt hlen hcs hr (by decide) hkw hF237 hO237 hno hN237) (by show (prs back v).length - (i + 1) < (prs back v).length - i; omega)) (eC rfl (eC rfl (eC rfl (eC rfl (eN _))))) (hD := sW)
  refine zD (zB ?_)
  refine zA (zU rfl rfl rfl ?_)
  refine zA (zE rfl rfl ?_)
  refine zC (zS rfl (fun h240 => ?_) (fun h240 => ?_))
  ·refine zB (sT ?_)
   refine zA ?_
   have hkw : kwIdx (prs back v)[i].1 = 27 := by rw [h240]; decide +kernel
   have hB := HB _ hmem 144 (by rw [hkw]; rfl) (by decide)
   rw [hkw] at hB
   refine xM 0 1 rfl rfl rfl (hB _ _ _ _ es1 ck1 hcs hok) rfl rfl (sub2 1 11 rfl rfl) (fun u245 M245 D245 hv245 => ?_)
   obtain ⟨p245, fv245, G245, es245, ck245, rfl, rfl, rfl, hF245, hO245, hN245⟩ := hv245
   refine zA (zP rfl rfl ?_)
   refine zA (zH fo124_27 rfl rfl ?_)
   refine zA (xC 0 rfl rfl rfl rfl rfl si121 (by omega) ?_)
   refine zC (kE [(6, _), (5, _), (0, _), (1, _)] rfl ?_)
   refine zQ (zQ ?_)
   refine zB (zA ?_)
   refine zF rfl rfl (zA ?_)
   refine yP (s := ((2 * (i + 1) : Nat) : Int)) rfl rfl rfl (by omega) (by omega) (by omega) (zA ?_)
   refine zE rfl rfl (zC ?_)
   refine xP 8 0 27 rfl rfl (by decide) (yS 2 10 rfl rfl ?_)
   refine xK 1 2 rfl rfl ?_
   rw [xN]
   exact kQ (hK (i + 1, cs.set 27 (.pointer (some p245)), Flds.set f 27 fv245, es245, ck245, G245 ++ G) (in103 hlt hlen hcs hr (by decide) hkw hF245 hO245 hno hN245) (by show (prs back v).length - (i + 1) < (prs back v).length - i; omega)) (eC rfl (eC rfl (eC rfl (eC rfl (eN _))))) (hD := sW)
  refine zD (zB ?_)
  refine zA (zU rfl rfl rfl ?_)
  refine zA (zE rfl rfl ?_)
  refine zC (kE [(248, _), (55, _), (8, _), (6, _), (5, _), (0, _), (1, _)] rfl ?_)
  refine zS rfl (fun h248 => ?_) (fun h248 => ?_)
  ·refine zB (sT ?_)
   refine zA ?_
   have hkw : kwIdx (prs back v)[i].1 = 28 := by rw [h248]; decide +kernel
   have hB := HB _ hmem 145 (by rw [hkw]; rfl) (by decide)
   rw [hkw] at hB
   refine xM 0 1 rfl rfl rfl (hB _ _ _ _ es1 ck1 hcs hok) rfl rfl (sub2 1 11 rfl rfl) (fun u253 M253 D253 hv253 => ?_)
   obtain ⟨p253, fv253, G253, es253, ck253, rfl, rfl, rfl, hF253, hO253, hN253⟩ := hv253
   refine zA (zP rfl rfl ?_)
   refine zA (zH fo124_28 rfl rfl ?_)
   refine zA (xC 0 rfl rfl rfl rfl rfl si122 (by omega) ?_)
   refine zC (kE [(6, _), (5, _), (0, _), (1, _)] rfl ?_)
   refine zQ (zQ ?_)
   refine zB (zA ?_)
   refine zF rfl rfl (zA ?_)
   refine yP (s := ((2 * (i + 1) : Nat) : Int)) rfl rfl rfl (by omega) (by omega) (by omega) (zA ?_)
   refine zE rfl rfl (zC ?_)
   refine xP 8 0 28 rfl rfl (by decide) (yS 2 10 rfl rfl ?_)
   refine xK 1 2 rfl rfl ?_
   rw [xN]
   exact kQ (hK (i + 1, cs.set 28 (.pointer (some p253)), Flds.set f 28 fv253, es253, ck253, G253 ++ G) (in103 hlt hlen hcs hr (by decide) hkw hF253 hO253 hno hN253) (by show (prs back v).length - (i + 1) < (prs back v).length - i; omega)) (eC rfl (eC rfl (eC rfl (eC rfl (eN _))))) (hD := sW)
  refine zD (zB ?_)
  refine zA (zU rfl rfl rfl ?_)
  refine zA (zE rfl rfl ?_)
  refine zC (zS rfl (fun h256 => ?_) (fun h256 => ?_))
  ·refine zB (sT ?_)
   refine zA ?_
   have hkw : kwIdx (prs back v)[i].1 = 29 := by rw [h256]; decide +kernel
   have hB := HB _ hmem 145 (by rw [hkw]; rfl) (by decide)
   rw [hkw] at hB
   refine xM 0 1 rfl rfl rfl (hB _ _ _ _ es1 ck1 hcs hok) rfl rfl (sub2 1 11 rfl rfl) (fun u261 M261 D261 hv261 => ?_)
   obtain ⟨p261, fv261, G261, es261, ck261, rfl, rfl, rfl, hF261, hO261, hN261⟩ := hv261
   refine zA (zP rfl rfl ?_)
   refine zA (zH fo124_29 rfl rfl ?_)
   refine zA (xC 0 rfl rfl rfl rfl rfl si122 (by omega) ?_)
   refine zC (kE [(6, _), (5, _), (0, _), (1, _)] rfl ?_)
   refine zQ (zQ ?_)
   refine zB (zA ?_)
   refine zF rfl rfl (zA ?_)
   refine yP (s := ((2 * (i + 1) : Nat) : Int)) rfl rfl rfl (by omega) (by omega) (by omega) (zA ?_)
   refine zE rfl rfl (zC ?_)
   refine xP 8 0 29 rfl rfl (by decide) (yS 2 10 rfl rfl ?_)
   refine xK 1 2 rfl rfl ?_
   rw [xN]
   exact kQ (hK (i + 1, cs.set 29 (.pointer (some p261)), Flds.set f 29 fv261, es261, ck261, G261 ++ G) (in103 hlt hlen hcs hr (by decide) hkw hF261 hO261 hno hN261) (by show (prs back v).length - (i + 1) < (prs back v).length - i; omega)) (eC rfl (eC rfl (eC rfl (eC rfl (eN _))))) (hD := sW)
  refine zD (zB ?_)
  refine zA (zU rfl rfl rfl ?_)
  refine zA (zE rfl rfl ?_)
  refine zC (zS rfl (fun h264 => ?_) (fun h264 => ?_))
  ·refine zB (sT ?_)
   refine zA ?_
   have hkw : kwIdx (prs back v)[i].1 = 30 := by rw [h264]; decide +kernel
   have hB := HB _ hmem 145 (by rw [hkw]; rfl) (by decide)
   rw [hkw] at hB
   refine xM 0 1 rfl rfl rfl (hB _ _ _ _ es1 ck1 hcs hok) rfl rfl (sub2 1 11 rfl rfl) (fun u269 M269 D269 hv269 => ?_)
   obtain ⟨p269, fv269, G269, es269, ck269, rfl, rfl, rfl, hF269, hO269, hN269⟩ := hv269
   refine zA (zP rfl rfl ?_)
   refine zA (zH fo124_30 rfl rfl ?_)
   refine zA (xC 0 rfl rfl rfl rfl rfl si122 (by omega) ?_)
   refine zC (kE [(6, _), (5, _), (0, _), (1, _)] rfl ?_)
   refine zQ (zQ ?_)
   refine zB (zA ?_)
   refine zF rfl rfl (zA ?_)
   refine yP (s := ((2 * (i + 1) : Nat) : Int)) rfl rfl rfl (by omega) (by omega) (by omega) (zA ?_)
   refine zE rfl rfl (zC ?_)
   refine xP 8 0 30 rfl rfl (by decide) (yS 2 10 rfl rfl ?_)
   refine xK 1 2 rfl rfl ?_
   rw [xN]
   exact kQ (hK (i + 1, cs.set 30 (.pointer (some p269)), Flds.set f 30 fv269, es269, ck269, G269 ++ G) (in103 hlt hlen hcs hr (by decide) hkw hF269 hO269 hno hN269) (by show (prs back v).length - (i + 1) < (prs back v).length - i; omega)) (eC rfl (eC rfl (eC rfl (eC rfl (eN _))))) (hD := sW)
  refine zD (zB ?_)
  refine zA (zU rfl rfl rfl ?_)
  refine zA (zE rfl rfl ?_)
  refine zC (zS rfl (fun h272 => ?_) (fun h272 => ?_))
  ·refine zB (sT ?_)
   refine zA (zH fo124_0 rfl rfl ?_)
   refine zA (tF 0 sc104 rfl rfl rfl hcs ?_)
   refine zA ?_
   have hkw : kwIdx (prs back v)[i].1 = 31 := by rw [h272]; decide +kernel
   have hB := HN _ hmem hkw
   refine yR 2 rfl rfl rfl (hB _ es1 ck1 hok) rfl (sub2 1 11 rfl rfl) (fun u280 M280 D280 hv280 => ?_)
   obtain ⟨b280, G280, es280, ck280, rfl, rfl, rfl, hU280, hO280, hN280, hI280⟩ := hv280
   refine zA (zP rfl rfl ?_)
   refine zA (zH fo124_31 rfl rfl ?_)
   refine zA (xC 2 rfl rfl rfl rfl rfl si63 (by omega) ?_)
   refine zC (kE [(6, _), (5, _), (0, _), (1, _)] rfl ?_)
   refine zQ (zQ ?_)
   refine zB (zA ?_)
   refine zF rfl rfl (zA ?_)
   refine yP (s := ((2 * (i + 1) : Nat) : Int)) rfl rfl rfl (by omega) (by omega) (by omega) (zA ?_)
   refine zE rfl rfl (zC ?_)
   refine xI (.fv (ptr b280) (.one b280)) (fun w ok h => rfl) (xP 8 0 31 rfl rfl (by decide) ?_)
   refine yS 2 10 rfl rfl (xK 0 2 rfl rfl ?_)
   rw [xN]
   exact kQ (hK (i + 1, cs.set 31 (ptr b280), Flds.set f 31 (.one b280), es280, ck280, G280 ++ G) (⟨by show i + 1 ≤ _; omega, by show (cs.set 31 _).length = 37; rw [List.length_set]; exact hlen, by show (cs.set 31 _)[0]? = _; rw [List.getElem?_set_ne (by decide)]; exact hcs, hr.stepK hpi hkw ⟨rfl, hU280⟩, hO280, fun h => by obtain ⟨h1, h2⟩ := nis_step hlt h; obtain ⟨e1, e2⟩ := hno h1; rw [kw_sh (by rw [hkw]; decide), hkw] at h2; obtain ⟨e3, e4⟩ := hN280 (h2 _ (by show _ ∈ kidsOf 5 _; simp [kidsOf])); exact ⟨e3.trans e1, e4.trans e2⟩⟩) (by show (prs back v).length - (i + 1) < (prs back v).length - i; omega)) (eC rfl (eC rfl (eC rfl (eC rfl (eN _))))) (hD := sW)
  refine zD (zB ?_)
  refine zA (zU rfl rfl rfl ?_)
  refine zA (zE rfl rfl ?_)
  refine zC (zS rfl (fun h283 => ?_) (fun h283 => ?_))
  ·refine zB (sT ?_)
   refine zA ?_
   have hkw : kwIdx (prs back v)[i].1 = 32 := by rw [h283]; decide +kernel
   have hB := HB _ hmem 141 (by rw [hkw]; rfl) (by decide)
   rw [hkw] at hB
   refine xM 0 1 rfl rfl rfl (hB _ _ _ _ es1 ck1 hcs hok) rfl rfl (sub2 1 11 rfl rfl) (fun u288 M288 D288 hv288 => ?_)
   obtain ⟨p288, fv288, G288, es288, ck288, rfl, rfl, rfl, hF288, hO288, hN288⟩ := hv288
   refine zA (zP rfl rfl ?_)
   refine zA (zH fo124_32 rfl rfl ?_)
   refine zA (xC 0 rfl rfl rfl rfl rfl si118 (by omega) ?_)
   refine zC (kE [(6, _), (5, _), (0, _), (1, _)] rfl ?_)
   refine zQ (zQ ?_)
   refine zB (zA ?_)
   refine zF rfl rfl (zA ?_)
   refine yP (s := ((2 * (i + 1) : Nat) : Int)) rfl rfl rfl (by omega) (by omega) (by omega) (zA ?_)
   refine zE rfl rfl (zC ?_)
   refine xP 8 0 32 rfl rfl (by decide) (yS 2 10 rfl rfl ?_)
   refine xK 1 2 rfl rfl ?_
   rw [xN]
   exact kQ (hK (i + 1, cs.set 32 (.pointer (some p288)), Flds.set f 32 fv288, es288, ck288, G288 ++ G) (in103 hlt hlen hcs hr (by decide) hkw hF288 hO288 hno hN288) (by show (prs back v).length - (i + 1) < (prs back v).length - i; omega)) (eC rfl (eC rfl (eC rfl (eC rfl (eN _))))) (hD := sW)
  refine zD (zB ?_)
  refine zA (zU rfl rfl rfl ?_)
  refine zA (zE rfl rfl ?_)
  refine zC (kE [(291, _), (55, _), (8, _), (6, _), (5, _), (0, _), (1, _)] rfl ?_)
  refine zS rfl (fun h291 => ?_) (fun h291 => ?_)
  ·refine zB (sT ?_)
   refine zA ?_
   have hkw : kwIdx (prs back v)[i].1 = 33 := by rw [h291]; decide +kernel
   have hB := HB _ hmem 134 (by rw [hkw]; rfl) (by decide)
   rw [hkw] at hB
   refine xM 0 1 rfl rfl rfl (hB _ _ _ _ es1 ck1 hcs hok) rfl rfl (sub2 1 11 rfl rfl) (fun u296 M296 D296 hv296 => ?_)
   obtain ⟨p296, fv296, G296, es296, ck296, rfl, rfl, rfl, hF296, hO296, hN296⟩ := hv296
   refine zA (zP rfl rfl ?_)
   refine zA (zH fo124_33 rfl rfl ?_)
   refine zA (xC 0 rfl rfl rfl rfl rfl si111 (by omega) ?_)
   refine zC (kE [(6, _), (5, _), (0, _), (1, _)] rfl ?_)
   refine zQ (zQ ?_)
   refine zB (zA ?_)
   refine zF rfl rfl (zA ?_)
   refine yP (s := ((2 * (i + 1) : Nat) : Int)) rfl rfl rfl (by omega) (by omega) (by omega) (zA ?_)
   refine zE rfl rfl (zC ?_)
   refine xP 8 0 33 rfl rfl (by decide) (yS 2 10 rfl rfl ?_)
   refine xK 1 2 rfl rfl ?_
   rw [xN]
   exact kQ (hK (i + 1, cs.set 33 (.pointer (some p296)), Flds.set f 33 fv296, es296, ck296, G296 ++ G) (in103 hlt hlen hcs hr (by decide) hkw hF296 hO296 hno hN296) (by show (prs back v).length - (i + 1) < (prs back v).length - i; omega)) (eC rfl (eC rfl (eC rfl (eC rfl (eN _))))) (hD := sW)
  refine zD (zB ?_)
  refine zA (zU rfl rfl rfl ?_)
  refine zA (zE rfl rfl ?_)
  refine zC (zS rfl (fun h299 => ?_) (fun h299 => ?_))
  ·refine zB (sT ?_)
   refine zA ?_
   have hkw : kwIdx (prs back v)[i].1 = 34 := by rw [h299]; decide +kernel
   have hB := HB _ hmem 134 (by rw [hkw]; rfl) (by decide)
   rw [hkw] at hB
   refine xM 0 1 rfl rfl rfl (hB _ _ _ _ es1 ck1 hcs hok) rfl rfl (sub2 1 11 rfl rfl) (fun u304 M304 D304 hv304 => ?_)
   obtain ⟨p304, fv304, G304, es304, ck304, rfl, rfl, rfl, hF304, hO304, hN304⟩ := hv304
   refine zA (zP rfl rfl ?_)
   refine zA (zH fo124_34 rfl rfl ?_)
   refine zA (xC 0 rfl rfl rfl rfl rfl si111 (by omega) ?_)
   refine zC (kE [(6, _), (5, _), (0, _), (1, _)] rfl ?_)
   refine zQ (zQ ?_)
   refine zB (zA ?_)
   refine zF rfl rfl (zA ?_)
   refine yP (s := ((2 * (i + 1) : Nat) : Int)) rfl rfl rfl (by omega) (by omega) (by omega) (zA ?_)
   refine zE rfl rfl (zC ?_)
   refine xP 8 0 34 rfl rfl (by decide) (yS 2 10 rfl rfl ?_)
   refine xK 1 2 rfl rfl ?_
   rw [xN]
   exact kQ (hK (i + 1, cs.set 34 (.pointer (some p304)), Flds.set f 34 fv304, es304, ck304, G304 ++ G) (in103 hlt hlen hcs hr (by decide) hkw hF304 hO304 hno hN304) (by show (prs back v).length - (i + 1) < (prs back v).length - i; omega)) (eC rfl (eC rfl (eC rfl (eC rfl (eN _))))) (hD := sW)
  refine zD (zB ?_)
  refine zA (zU rfl rfl rfl ?_)
  refine zA (zE rfl rfl ?_)
  refine zC (zS rfl (fun h307 => ?_) (fun h307 => ?_))
  ·refine zB (sT ?_)
   refine zA (zH fo124_35 rfl rfl ?_)
   refine zA (xC 0 rfl rfl rfl rfl rfl si102 (by omega) ?_)
   refine zC (kE [(6, _), (5, _), (0, _), (1, _)] rfl ?_)
   refine zQ (zQ ?_)
   refine zB (zA ?_)
   refine zF rfl rfl (zA ?_)
   refine yP (s := ((2 * (i + 1) : Nat) : Int)) rfl rfl rfl (by omega) (by omega) (by omega) (zA ?_)
   refine zE rfl rfl (zC ?_)
   refine xI (.fv (ptr b2) .any) (fun w ok h => ⟨_, rfl⟩) (xP 7 0 35 rfl rfl (by decide) ?_)
   exact kQ (hK (i + 1, cs.set 35 (ptr b2), Flds.set f 35 .any, es1, ck1, G) (⟨by show i + 1 ≤ _; omega, by show (cs.set 35 _).length = 37; rw [List.length_set]; exact hlen, by show (cs.set 35 _)[0]? = _; rw [List.getElem?_set_ne (by decide)]; exact hcs, hr.stepA hpi (by rw [h307]; decide +kernel) rfl, hok, fun h => hno (nis_step hlt h).1⟩) (by show (prs back v).length - (i + 1) < (prs back v).length - i; omega)) (eC rfl (eC rfl (eC rfl (eC rfl (eN _))))) (hD := sW)
  refine zD (zB ?_)
  refine zA (zU rfl rfl rfl ?_)
  refine zA (zE rfl rfl ?_)
  refine zC (zS rfl (fun h313 => ?_) (fun h313 => ?_))
  ·refine zB (sT ?_)
   refine zA ?_
   have hkw : kwIdx (prs back v)[i].1 = 36 := by rw [h313]; decide +kernel
   have hB := HB _ hmem 134 (by rw [hkw]; rfl) (by decide)
   rw [hkw] at hB
   refine xM 0 1 rfl rfl rfl (hB _ _ _ _ es1 ck1 hcs hok) rfl rfl (sub2 1 11 rfl rfl) (fun u318 M318 D318 hv318 => ?_)
   obtain ⟨p318, fv318, G318, es318, ck318, rfl, rfl, rfl, hF318, hO318, hN318⟩ := hv318
   refine zA (zP rfl rfl ?_)
   refine zA (zH fo124_36 rfl rfl ?_)
   refine zA (xC 0 rfl rfl rfl rfl rfl si111 (by omega) ?_)
   refine zC (kE [(6, _), (5, _), (0, _), (1, _)] rfl ?_)
   refine zQ (zQ ?_)
   refine zB (zA ?_)
   refine zF rfl rfl (zA ?_)
   refine yP (s := ((2 * (i + 1) : Nat) : Int)) rfl rfl rfl (by omega) (by omega) (by omega) (zA ?_)
   refine zE rfl rfl (zC ?_)
   refine xP 8 0 36 rfl rfl (by decide) (yS 2 10 rfl rfl ?_)
   refine xK 1 2 rfl rfl ?_
   rw [xN]
   exact kQ (hK (i + 1, cs.set 36 (.pointer (some p318)), Flds.set f 36 fv318, es318, ck318, G318 ++ G) (in103 hlt hlen hcs hr (by decide) hkw hF318 hO318 hno hN318) (by show (prs back v).length - (i + 1) < (prs back v).length - i; omega)) (eC rfl (eC rfl (eC rfl (eC rfl (eN _))))) (hD := sW)
  refine zD (zB ?_)
  refine zA (zU rfl rfl rfl ?_)
  refine zA (zE rfl rfl ?_)
  refine zC (kE [(321, _), (8, _), (6, _), (5, _), (0, _), (1, _)] rfl ?_)
  refine zS rfl (fun h321 => ?_) (fun h321 => ?_)
  ·refine zB (sT ?_)
   refine zA ?_
   have hkw : kwIdx (prs back v)[i].1 = 3 := by rw [h321]; decide +kernel
   have hB := HB _ hmem 134 (by rw [hkw]; rfl) (by decide)
   rw [hkw] at hB
   refine xM 0 1 rfl rfl rfl (hB _ _ _ _ es1 ck1 hcs hok) rfl rfl (sub2 1 11 rfl rfl) (fun u326 M326 D326 hv326 => ?_)
   obtain ⟨p326, fv326, G326, es326, ck326, rfl, rfl, rfl, hF326, hO326, hN326⟩ := hv326
   refine zA (zP rfl rfl ?_)
   refine zA (zH fo124_3 rfl rfl ?_)
   refine zA (xC 0 rfl rfl rfl rfl rfl si111 (by omega) ?_)
   refine zC (zQ ?_)
   refine zQ (zB ?_)
   refine zA (zF rfl rfl ?_)
   refine zA (yP (s := ((2 * (i + 1) : Nat) : Int)) rfl rfl rfl (by omega) (by omega) (by omega) ?_)
   refine zA (zE rfl rfl ?_)
   refine zC (kE [(6, _), (5, _), (0, _), (1, _)] rfl ?_)
   refine xP 8 0 3 rfl rfl (by decide) (yS 2 10 rfl rfl ?_)
   refine xK 1 2 rfl rfl ?_
   rw [xN]
   exact kQ (hK (i + 1, cs.set 3 (.pointer (some p326)), Flds.set f 3 fv326, es326, ck326, G326 ++ G) (in103 hlt hlen hcs hr (by decide) hkw hF326 hO326 hno hN326) (by show (prs back v).length - (i + 1) < (prs back v).length - i; omega)) (eC rfl (eC rfl (eC rfl (eC rfl (eN _))))) (hD := sW)
  refine zJ (zQ ?_)
  refine zQ (zB ?_)
  refine zA (zF rfl rfl ?_)
  refine zA (yP (s := ((2 * (i + 1) : Nat) : Int)) rfl rfl rfl (by omega) (by omega) (by omega) ?_)
  refine zA (zE rfl rfl ?_)
  refine zC ?_
  exact kQ (hK (i + 1, cs, f, es1, ck1, G) (⟨by show i + 1 ≤ _; omega, hlen, hcs, hr.skip hpi (by unfold kwIdx; rw [if_neg h56, if_neg h64, if_neg h72, if_neg h80, if_neg h88, if_neg h96, if_neg h104, if_neg h112, if_neg h120, if_neg h128, if_neg h136, if_neg h144, if_neg h152, if_neg h160, if_neg h168, if_neg h176, if_neg h184, if_neg h192, if_neg h200, if_neg h208, if_neg h216, if_neg h224, if_neg h232, if_neg h240, if_neg h248, if_neg h256, if_neg h264, if_neg h272, if_neg h283, if_neg h291, if_neg h299, if_neg h307, if_neg h313, if_neg h321]), hok, fun h => hno (nis_step hlt h).1⟩) (by show (prs back v).length - (i + 1) < (prs back v).length - i; omega)) (eC rfl (eC rfl (eC rfl (eC rfl (eN _))))) (hD := sW)
 obtain rfl : i = (prs back v).length := by omega
 rw [List.take_length] at hno
 have hUnf : Unf ([(b27, cs, f)] ++ G) v b27 := unf_end (cs := cs) hw hk5 hko (hr.mono fun g hg => List.mem_append_right _ hg) (List.mem_append_left _ (by simp))
 refine rJ (p := ∃ q, cs[2]? = some (.pointer q) ∧ q.isSome = (f 2).isSome) (fun w ok h => fld_cell (dget h 0 rfl) 2 (by decide) (by decide)) (fun ⟨q2, hq2, hq2s⟩ => ?_)
 refine yK rfl (zD ?_)
 refine zD (zB ?_)
 refine sT (zA ?_)
 refine zH rQ rfl rfl (zA ?_)
 refine tF 0 sc111 rfl rfl rfl hq2 (zA ?_)
 refine yF pn111 rfl rfl (zC ?_)
 refine kE [(333, _), (5, _), (1, _)] rfl (yI rfl (fun h333 => ?_) (fun h333 => ?_))
 ·obtain ⟨p9, rfl⟩ : ∃ p9, q2 = some p9 := Option.isSome_iff_exists.1 h333
  obtain ⟨fv2, hf2⟩ : ∃ fv2, f 2 = some fv2 := Option.isSome_iff_exists.1 (hq2s.symm.trans h333)
  have hrel := hr 2 (by decide) (by decide)
  rw [hf2] at hrel
  obtain ⟨pp, hpp, hkpp, hfpp⟩ := hrel
  rw [List.take_length] at hpp
  obtain rfl := sS hfpp
  have hgid : getV v kId = some pp.2 := by rw [← kw2 hkpp]; exact prs_get hw hk5 hko hpp
  refine xI (.pts p9 (.string pp.2.text)) (fun w ok h => id_pts (dget h 0 rfl) hf2 hq2) (zD ?_)
  refine zD (zB ?_)
  refine zA (zF rfl rfl ?_)
  refine zA (op_eqlNilM mp104 rfl rfl ?_)
  refine zC (yE rfl (rfl) ?_)
  refine zJ (zB ?_)
  refine sT (zA ?_)
  refine zH rQ rfl rfl (zA ?_)
  refine tF 0 sc111 rfl rfl rfl hq2 (zA ?_)
  refine zP rfl rfl (zA ?_)
  refine yV 0 sc9 rfl rfl rfl (zA ?_)
  refine zF rfl rfl (zA ?_)
  refine op_mapUpd 2 mp104 st9 rfl rfl rfl rfl hok (fun es9 ck9 hok9 hemp => ?_)
  refine zC (kE [(5, _)] rfl ?_)
  refine zD (zB ?_)
  refine sT (zC ?_)
  refine run_toMany 0 rfl (xK 0 0 rfl rfl ?_)
  refine run_graph1 (b := b27) 1 rfl (yS 0 3 rfl rfl ?_)
  exact zI Tryz.results103 rfl ⟨b27, [(b27, cs, f)] ++ G, es9, ck9, rfl, rfl, rfl, hUnf, hok9, (fun h => by rw [((noId_iff v).1 h).1] at hgid; cases hgid), (fun idv hid hb he => by rw [hgid] at hid; cases hid; obtain ⟨e1, e2⟩ := hno (nis_of hb); subst e1; subst e2; exact hemp he)⟩ (List.Sublist.refl _) (sub1 0 rfl)
 refine zJ (zD ?_)
 refine zB (sT ?_)
 refine zC (run_toMany 0 rfl ?_)
 refine xK 0 0 rfl rfl (run_graph1 (b := b27) 0 rfl ?_)
 refine yS 0 2 rfl rfl ?_
 have hn2 : f 2 = none := Option.not_isSome_iff_eq_none.1 (by rw [← hq2s, h333]; exact Bool.false_ne_true)
 have hgid : getV v kId = none := by obtain ⟨f9, ⟨cs9, hm9⟩, hrel⟩ := (uY _ v b27).1 hUnf; exact id_none hw hk5 hko (hr 2 (by decide) (by decide)) hn2
 exact zI Tryz.results103 rfl ⟨b27, [(b27, cs, f)] ++ G, es1, ck1, rfl, rfl, rfl, hUnf, hok, (fun h => hno (nis_of ((noId_iff v).1 h).2)), (fun idv hid => by rw [hgid] at hid; cases hid)⟩ (List.Sublist.refl _) (sub1 0 rfl)
end Go.Jw

namespace Go.Jw
open Go Go.RowKit Go.Proofs
set_option maxRecDepth 8000
def NumC (ft : DA) : Prop := (∀ back x, x.kind = 2 ∨ (x.kind = 6 ∧ x.num.tmod 4 ≠ 0) → NumOk x → BC ft back 135 3 x) ∧ ∀ back x, x.kind = 2 → NumOk x → BC ft back 137 4 x
noncomputable def NoNum : V → Prop := V.fix (fun v f => ∀ (j : Nat) k u, v.keys[j]? = some k → v.items[j]? = some u → shapeOf k ≠ 3 ∧ shapeOf k ≠ 4 ∧ ∀ z ∈ kidsOf (shapeOf k) u, f z)
theorem qJ (v : V) : NoNum v ↔ ∀ (j : Nat) k u, v.keys[j]? = some k → v.items[j]? = some u → shapeOf k ≠ 3 ∧ shapeOf k ≠ 4 ∧ ∀ z ∈ kidsOf (shapeOf k) u, NoNum z := by
 have := V.fix_eq (G := fun v f => ∀ (j : Nat) k u, v.keys[j]? = some k → v.items[j]? = some u → shapeOf k ≠ 3 ∧ shapeOf k ≠ 4 ∧ ∀ z ∈ kidsOf (shapeOf k) u, f z) (fun t g g' h => by
  have : ∀ (j : Nat) k u, t.items[j]? = some u → ((∀ z ∈ kidsOf (shapeOf k) u, g z) ↔ ∀ z ∈ kidsOf (shapeOf k) u, g' z) := by
   intro j k u hu
   have hs : ∀ z ∈ kidsOf (shapeOf k) u, SizeOf.sizeOf z < SizeOf.sizeOf t := fun z hz => Nat.lt_of_le_of_lt (uX hz) (pH hu)
   exact ⟨fun a z hz => by rw [← h z (hs z hz)]; exact a z hz, fun a z hz => by rw [h z (hs z hz)]; exact a z hz⟩
  apply propext
  constructor
  ·intro h2 j k u hk hu; exact ⟨(h2 j k u hk hu).1, (h2 j k u hk hu).2.1, (this j k u hu).1 (h2 j k u hk hu).2.2⟩
  ·intro h2 j k u hk hu; exact ⟨(h2 j k u hk hu).1, (h2 j k u hk hu).2.1, (this j k u hu).2 (h2 j k u hk hu).2.2⟩) v
 show V.fix _ v ↔ _
 rw [this]
 rfl
theorem prs_get2 {back : Bool} {v : V} {p : ByteArray × V} (hp : p ∈ prs back v) : ∃ j : Nat, v.keys[j]? = some p.1 ∧ v.items[j]? = some p.2 := by
 have hp' := (tY back v).mem_iff.1 hp
 obtain ⟨j, hj, he⟩ := List.getElem_of_mem hp'
 simp only [List.length_zip] at hj
 rw [List.getElem_zip] at he
 subst he
 exact ⟨j, List.getElem?_eq_getElem (by omega), List.getElem?_eq_getElem (by omega)⟩
theorem Pl.frac {v : V} (h : Pl v) (hk : v.kind = 6) : v.num.tmod 4 ≠ 0 := by
 obtain ⟨d, h⟩ := h
 obtain ⟨q, m, s, ks, ts⟩ := v
 simp only [V.kind] at hk
 subst hk
 have := (xS (by decide) (by decide)).1 h
 simp only [IsScal] at this
 simp only [V.num]
 omega
theorem c103 (ft : DA) (back : Bool) (v : V) : (NumC ft ∨ NoNum v) → Pl v → IsShape v → ∀ mb, C103 ft mb back v := by
  refine V.indS (p := fun v => (NumC ft ∨ NoNum v) → Pl v → IsShape v → ∀ mb, C103 ft mb back v) (fun v IH hN hp hs mb => ?_) v
  have hk5 := hs.kind
  have hfit := ((wZ v).1 hs).2
  have sub : ∀ p ∈ prs back v, ∀ z ∈ kidsOf (shapeOf p.1) p.2, Pl z → ∀ mb, C103 ft mb back z := by
    intro p hpm z hz hpz
    obtain ⟨j, hj1, hj2⟩ := prs_get2 hpm
    refine IH z (Nat.lt_of_le_of_lt (uX hz) (pH hj2)) ?_ hpz ((hfit j _ _ hj1 hj2).2.1 z hz)
    exact hN.imp id fun h => ((qJ v).1 h j _ _ hj1 hj2).2.2 z hz
  refine c103w ft mb back v hp.wf hk5 (hp.keys hk5) (fun p hpm F hF h0 => ?_) (fun p hpm hkw => ?_)
  · obtain ⟨j, hj1, hj2⟩ := prs_get2 hpm
    have hx : p.2 ∈ v.items := List.mem_of_getElem? hj2
    have hpl := hp.item _ hx
    have hne : kwIdx p.1 ≠ 0 := by intro h; rw [h] at hF; exact h0 hF.symm
    have hsh := kw_sh hne
    have hf := (hfit j _ _ hj1 hj2).1
    have hsub := sub p hpm
    have hnn : NumC ft ∨ (shapeOf p.1 ≠ 3 ∧ shapeOf p.1 ≠ 4) := hN.imp id fun h => ⟨((qJ v).1 h j _ _ hj1 hj2).1, ((qJ v).1 h j _ _ hj1 hj2).2.1⟩
    rw [hsh] at hf hsub hnn
    have hw := hpl.wf
    subst hF
    generalize hq : kwIdx p.1 = q at *
    have key : ∀ (F : FuncId) (sh : Int), bldOf q = F → shIdx q = sh → ((F = 134 ∧ sh = 1) ∨ (F = 136 ∧ sh = 2) ∨ (F = 135 ∧ sh = 3) ∨ (F = 137 ∧ sh = 4) ∨ (F = 138 ∧ sh = 6) ∨ (F = 139 ∧ sh = 7) ∨ (F = 140 ∧ sh = 8) ∨ (F = 141 ∧ sh = 9) ∨ (F = 142 ∧ sh = 10) ∨ (F = 143 ∧ sh = 11) ∨ (F = 144 ∧ sh = 12) ∨ (F = 145 ∧ sh = 13)) := by
      intro F sh hF hS
      subst hF; subst hS
      unfold bldOf at h0 ⊢
      unfold shIdx
      split at h0 <;> simp_all
    have hK := key _ _ rfl rfl
    generalize bldOf q = F at *
    generalize shIdx q = sh at *
    have hil : ∀ y ∈ p.2.items, y.items.length ≤ 1000000 := fun y hy => (hw.item y hy).il
    rcases hK with ⟨rfl, rfl⟩ | ⟨rfl, rfl⟩ | ⟨rfl, rfl⟩ | ⟨rfl, rfl⟩ | ⟨rfl, rfl⟩ | ⟨rfl, rfl⟩ | ⟨rfl, rfl⟩ | ⟨rfl, rfl⟩ | ⟨rfl, rfl⟩ | ⟨rfl, rfl⟩ | ⟨rfl, rfl⟩ | ⟨rfl, rfl⟩
    · exact bc1 (by simpa [FitLoc] using hf)
    · exact bc2 (by simpa [FitLoc] using hf)
    · rcases hnn with h | h
      · have hf' : p.2.kind = 2 ∨ p.2.kind = 6 := by simpa [FitLoc] using hf
        exact h.1 back _ (hf'.imp id fun h6 => ⟨h6, hpl.frac h6⟩) hpl.num
      · exact absurd rfl h.1
    · rcases hnn with h | h
      · have hf' : p.2.kind = 2 ∧ 0 ≤ p.2.num := by simpa [FitLoc] using hf
        exact h.2 back _ hf'.1 hpl.num
      · exact absurd rfl h.2
    · have hf' : p.2.kind = 1 ∨ p.2.kind = 5 := by simpa [FitLoc] using hf
      rcases hf' with h | h
      · exact bc6b h
      · exact bc6s h (hsub _ (by rw [kids6 h]; simp) hpl)
    · have hf' : p.2.kind = 5 ∨ (p.2.kind = 4 ∧ ∀ x ∈ p.2.items, x.kind = 5) := by simpa [FitLoc] using hf
      rcases hf' with h | ⟨h, h5⟩
      · exact bc7s h (hsub _ (by rw [kids7 h]; simp) hpl)
      · exact bc7l h hw.il h5 (fun y hy => hsub y (by rw [kids7l h h5]; exact hy) (hpl.item y hy))
    · have hf' : p.2.kind = 4 ∧ ∀ x ∈ p.2.items, x.kind = 3 := by simpa [FitLoc] using hf
      exact bc8 hf'.1 hw.il hf'.2
    · have hf' : p.2.kind = 5 ∧ ∀ x ∈ p.2.items, x.kind = 5 := by simpa [FitLoc] using hf
      exact bc9 hf'.1 hw.kl hf'.2 (fun y hy => hsub y (by rw [kids9 hf'.2]; exact hy) (hpl.item y hy))
    · have hf' : p.2.kind = 5 ∧ ∀ x ∈ p.2.items, x.kind = 4 ∧ ∀ y ∈ x.items, y.kind = 3 := by simpa [FitLoc] using hf
      exact bc10 hf'.1 hw.kl (fun y hy => ⟨(hf'.2 y hy).1, hil y hy, (hf'.2 y hy).2⟩)
    · have hf' : p.2.kind = 4 ∧ ∀ x ∈ p.2.items, x.kind = 3 ∨ x.kind = 1 := by simpa [FitLoc] using hf
      exact bc11 hf'.1 hw.il hf'.2
    · have hf' : p.2.kind = 3 ∨ (p.2.kind = 4 ∧ ∀ x ∈ p.2.items, x.kind = 3) := by simpa [FitLoc] using hf
      rcases hf' with h | ⟨h, h3⟩
      · exact bc12s h
      · exact bc12l h hw.il h3
    · have hf' : p.2.kind = 4 ∧ ∀ x ∈ p.2.items, x.kind = 5 := by simpa [FitLoc] using hf
      exact bc13 hf'.1 hw.il hf'.2 (fun y hy => hsub y (by rw [kids13 hf'.2]; exact hy) (hpl.item y hy))
  · have hsh := kw_sh (key := p.1) (by rw [hkw]; decide)
    rw [hkw] at hsh
    obtain ⟨j, hj1, hj2⟩ := prs_get2 hpm
    exact sub p hpm p.2 (by rw [hsh]; simp [kidsOf, shIdx]) (hp.item _ (List.mem_of_getElem? hj2)) mb
end Go.Jw

namespace Go.Jw
open Go Go.RowKit Go.Proofs
set_option maxRecDepth 8000
def R57 (v : V) (u : Value) (M' : List HA) (D' : List DA) : Prop := ∃ b G mb es ck, u = ptr b ∧ M' = [.many 124 (Gr.blks G), .obj mb (.map es ck)] ∧ D' = [.graph mb G] ∧ Unf G v b ∧ MapOk es ∧ (∀ idv, getV v kId = some idv → NoIdB v → es = #[{ key := .string idv.text, val := ptr b, born := 0 }])
theorem c57 (ft : DA) (back : Bool) (v : V) (x : Value) (hN : NumC ft ∨ NoNum v) (hp : Pl v) (hs : IsShape v) : Ct Tryz.prog 57 #[x, .bool back] [] [.val x v, .tab, ft] (R57 v) := by
 refine Ct.of_run (args := [x, .bool back]) Tryz.func57 (by kernel_rfl) rfl Tryz.ntmps57 rfl (fun c => ?_)
 refine wC 0 rfl (fun A1 c1 A2 c2 hx hsz hk1 hk2 hi1 hi2 => ?_)
 subst hx
 refine zD (zB ?_)
 refine zA (xL rfl rfl rfl (fun b2 => ?_))
 refine zA (zE rfl rfl ?_)
 refine zC (zD ?_)
 refine zB (zA ?_)
 refine yQ 0 rfl ag25 rfl rfl (zA ?_)
 refine zF rfl rfl (zA ?_)
 refine zW rfl rfl rfl (c104 v hp.wf hp.num back _) (sub2 2 3 rfl rfl) (fun u7 D7 hv7 => ?_)
 obtain ⟨b7, rfl, rfl⟩ := hv7
 refine zA (op_makeMap rfl (fun b8 => ?_))
 refine zA (yR 0 rfl rfl rfl (c103 ft back v hN hp hs b8 _ #[] 0 MapOk.empty) rfl (sub2 0 5 rfl rfl) (fun u9 M9 D9 hv9 => ?_))
 obtain ⟨b9, G9, es9, ck9, rfl, rfl, rfl, hU9, hO9, hN9, hI9⟩ := hv9
 refine zA (zE rfl rfl ?_)
 refine zC ?_
 exact zI Tryz.results57 rfl ⟨b9, G9, b8, es9, ck9, rfl, rfl, rfl, hU9, hO9, fun idv h1 h2 => hI9 idv h1 h2 rfl⟩ (by repeat (first | exact List.Sublist.refl _ | apply List.Sublist.cons_cons | exact List.nil_sublist _)) (sub1 0 rfl)
end Go.Jw

namespace Go.Jw
open Go Go.RowKit Go.Proofs
set_option maxRecDepth 8000
theorem c151 (s : ByteArray) (hs : s.size ≤ maxLen) : CtR Tryz.prog 151 #[.string s] [] (RN (scal tStr s)) := by
 refine Ct.of_run (args := [.string s]) Tryz.func151 (by kernel_rfl) rfl Tryz.ntmps151 rfl (fun c => ?_)
 refine zD (zB ?_)
 refine zA (zE rfl rfl ?_)
 refine zC (zD ?_)
 refine zB (zA ?_)
 refine zF rfl rfl (zA ?_)
 refine xR rfl rfl (sN ..) (zA ?_)
 refine xL rfl rfl rfl (fun b5 => ?_)
 refine zA (zE rfl rfl ?_)
 refine zC (qE ?_)
 exact vX 0 0 rfl rfl (by intro b h; cases h) (by decide) hs (zI Tryz.results151 rfl ⟨rfl, b5, rfl, rfl⟩ nS (sub1 0 rfl))
theorem c153 (x : Bool) : CtR Tryz.prog 153 #[.bool x] [] (RN (scal tBool (fbB x))) := by
 refine Ct.of_run (args := [.bool x]) Tryz.func153 (by kernel_rfl) rfl Tryz.ntmps153 rfl (fun c => ?_)
 refine zD (zB ?_)
 refine zA (zE rfl rfl ?_)
 refine zC (zD ?_)
 refine zB (zA ?_)
 refine zF rfl rfl (zA ?_)
 refine zV rfl rfl rfl (c147 _) sub0 (zA ?_)
 refine xR rfl rfl (sN ..) (zA ?_)
 refine xL rfl rfl rfl (fun b6 => ?_)
 refine zA (zE rfl rfl ?_)
 refine zC (qE ?_)
 exact vX 0 0 rfl rfl (by intro b h; cases h) (by decide) (by cases x <;> decide) (zI Tryz.results153 rfl ⟨rfl, b6, rfl, rfl⟩ nS (sub1 0 rfl))
theorem c150 (A : Option Addr) (m cap nb : Nat) (xs : List Value) (s : ByteArray) (hs : s.size ≤ maxLen) (hm : m ≤ 1000000) : Ct Tryz.prog 150 #[.slice A m cap, .string s, ptr nb] [.row A m cap 102 1 xs] []
  (fun u M' D' => ∃ A' cap' b, u = .slice A' (m + 2) cap' ∧ M' = [.row A' (m + 2) cap' 102 1 (xs ++ [ptr b, ptr nb])] ∧ D' = [.node b (scal tStr s)]) := by
 refine Ct.of_run (args := [.slice A m cap, .string s, ptr nb]) Tryz.func150 (by kernel_rfl) rfl Tryz.ntmps150 rfl (fun c => ?_)
 refine zD (zB ?_)
 refine zA (zE rfl rfl ?_)
 refine zC (zD ?_)
 refine zB (sT ?_)
 refine zA (zW rfl rfl rfl (c151 s hs) sub0 (fun u9 D9 hv9 => ?_))
 obtain ⟨b9, rfl, rfl⟩ := hv9
 refine zA (zZ sl148 rfl rfl rfl rfl rfl (fun b10 => ?_))
 refine zA ?_
 refine yL 1 0 sl148 rfl rfl rfl rfl rfl rfl rfl (by unfold maxLen; omega) (by omega) (fun A11 c11 => ?_)
 refine zA (zE rfl rfl ?_)
 refine zC (zD ?_)
 refine zB (sT ?_)
 refine zA (zZ sl148 rfl rfl rfl rfl rfl (fun b14 => ?_))
 refine zA ?_
 refine yL 2 0 sl148 rfl rfl rfl rfl rfl rfl rfl (by unfold maxLen; omega) (by omega) (fun A15 c15 => ?_)
 refine zA (zE rfl rfl ?_)
 refine zC (kE [(0, _)] rfl ?_)
 refine zD (zB ?_)
 refine sT (zC ?_)
 rw [List.append_assoc xs]
 exact zI Tryz.results150 rfl ⟨_, _, b9, rfl, rfl, rfl⟩ (by repeat (first | exact List.Sublist.refl _ | apply List.Sublist.cons)) (sub1 0 rfl)
end Go.Jw

namespace Go.Jw
open Go Go.RowKit Go.Proofs
set_option maxRecDepth 8000
def RKids (k : Int) (ys : List Y) : Y := .mk k ⟨#[]⟩ ⟨#[]⟩ ys
theorem c185 (A : Option Addr) (m cap : Nat) (ys : List Y) : CtR Tryz.prog 185 #[.slice A m cap] [.kids (.slice A m cap) ys] (RN (RKids 2 ys)) := by
 refine Ct.of_run (args := [.slice A m cap]) Tryz.func185 (by kernel_rfl) rfl Tryz.ntmps185 rfl (fun c => ?_)
 refine zD (zB ?_)
 refine zA (zE rfl rfl ?_)
 refine zC (zD ?_)
 refine zB (zA ?_)
 refine zF rfl rfl (zA ?_)
 refine xR rfl rfl (bu150_0_6 ..) (zA ?_)
 refine xL rfl rfl rfl (fun b5 => ?_)
 refine zA (zE rfl rfl ?_)
 refine zC (vX 0 0 rfl rfl (by intro b h; cases h) (by decide) (by decide) ?_)
 exact zI Tryz.results185 rfl ⟨rfl, b5, rfl, rfl⟩ nS (sub1 0 rfl)
theorem c186 (A : Option Addr) (m cap : Nat) (ys : List Y) : CtR Tryz.prog 186 #[.slice A m cap] [.kids (.slice A m cap) ys] (RN (RKids 4 ys)) := by
 refine Ct.of_run (args := [.slice A m cap]) Tryz.func186 (by kernel_rfl) rfl Tryz.ntmps186 rfl (fun c => ?_)
 refine zD (zB ?_)
 refine zA (zE rfl rfl ?_)
 refine zC (zD ?_)
 refine zB (zA ?_)
 refine zF rfl rfl (zA ?_)
 refine xR rfl rfl (bu150_0_6 ..) (zA ?_)
 refine xL rfl rfl rfl (fun b5 => ?_)
 refine zA (zE rfl rfl ?_)
 refine zC (vX 0 0 rfl rfl (by intro b h; cases h) (by decide) (by decide) ?_)
 exact zI Tryz.results186 rfl ⟨rfl, b5, rfl, rfl⟩ nS (sub1 0 rfl)
theorem c161 (n : Int) (h0 : -9223372036854775808 ≤ n) (h1 : n ≤ 9223372036854775807) : CtR Tryz.prog 161 #[.int .i64 n] [.tab] (RN (scal tInt (itoaB n))) := by
 refine Ct.of_run (args := [.int .i64 n]) Tryz.func161 (by kernel_rfl) rfl Tryz.ntmps161 rfl (fun c => ?_)
 refine zD (zB ?_)
 refine zA (zE rfl rfl ?_)
 refine zC (zD ?_)
 refine zB (zA ?_)
 refine zF rfl rfl (zA ?_)
 refine zV rfl rfl rfl (c148 n h0 h1) (sub1 0 rfl) (zA ?_)
 refine xR rfl rfl (sN ..) (zA ?_)
 refine xL rfl rfl rfl (fun b6 => ?_)
 refine zA (zE rfl rfl ?_)
 refine zC (qE ?_)
 exact vX 0 0 rfl rfl (by intro b h; cases h) (by decide) (max_of (vP n h0 h1) (by decide)) (zI Tryz.results161 rfl ⟨rfl, b6, rfl, rfl⟩ nS (sub1 0 rfl))
theorem c156 (x : Value) (l : List ByteArray) (hl : l.length ≤ 1000000) : CtR Tryz.prog 156 #[x] [.strs x l] (RN (RKids 2 (l.map (scal tStr)))) := by
 refine Ct.of_run (args := [x]) Tryz.func156 (by kernel_rfl) rfl Tryz.ntmps156 rfl (fun c => ?_)
 refine tR 0 rfl (fun hsz => ?_)
 refine run_strs 0 rfl (fun A1 c1 hx hk1 hk2 => ?_)
 subst hx
 unfold maxLen at hk2
 refine zD (zB ?_)
 refine zA (zE rfl rfl ?_)
 refine zC (zD ?_)
 refine zB (zA ?_)
 refine wF sl148 rfl rfl rfl (fun b6 => ?_)
 refine zA (zE rfl rfl ?_)
 refine zC (zD ?_)
 refine zD (zB ?_)
 refine zA (zF rfl rfl ?_)
 refine zA (yU sl22 rfl rfl ?_)
 refine zA (zF rfl rfl ?_)
 refine zC (zN ?_)
 refine kE [(9, _), (3, _), (8, _), (7, _)] rfl (xI (.ptrs [] ((l.take 0).map (scal tStr))) (fun w ok h => rfl) ?_)
 refine xU 2 (fun (⟨i, A, ca, xs⟩ : Nat × Option Addr × Nat × List Value) => i ≤ l.length) (fun (⟨i, A, ca, xs⟩ : Nat × Option Addr × Nat × List Value) => [(9, .int .i64 ((i : Nat) : Int)), (3, .slice A i ca)]) (fun (⟨i, A, ca, xs⟩ : Nat × Option Addr × Nat × List Value) => HA.row A i ca 102 1 xs :: []) (fun (⟨i, A, ca, xs⟩ : Nat × Option Addr × Nat × List Value) => .ptrs xs ((l.take i).map (scal tStr)) :: .strs (.slice A1 l.length c1) l :: []) (fun (⟨i, A, ca, xs⟩ : Nat × Option Addr × Nat × List Value) => l.length - i) (0, _, _, []) (by show 0 ≤ _; omega) (eC rfl (eC rfl (eN _))) rfl rfl ?_ (eC rfl (eC rfl (eN _)))
 intro ⟨i, A, ca, xs⟩ hI K hK
 replace hI : i ≤ l.length := hI
 change Run _ _ _ _ _ [(9, .int .i64 ((i : Nat) : Int)), (3, .slice A i ca), (8, _), (7, _)] (HA.row A i ca 102 1 xs :: []) (.ptrs xs ((l.take i).map (scal tStr)) :: .strs (.slice A1 l.length c1) l :: [])
 refine zD (zB ?_)
 refine zA (xT rfl rfl rfl ?_)
 refine zC (zD ?_)
 refine zS rfl (fun h10 => ?_) (fun h10 => ?_)
 ·refine zJ (zD ?_)
  refine zN (zD ?_)
  refine zB (zA ?_)
  refine vW 1 sl22 rfl rfl rfl rfl (by omega) (zA ?_)
  refine xO sc9 rfl rfl (fun _ h => vD h (j := 1) rfl (List.getElem?_eq_getElem h10)) ?_
  refine zA (zE rfl rfl ?_)
  refine zC (zB ?_)
  refine sT (zA ?_)
  refine zW rfl rfl rfl (c151 _ (hsz _ (List.getElem_mem h10))) sub0 (fun u15 D15 hv15 => ?_)
  obtain ⟨b15, rfl, rfl⟩ := hv15
  refine zA (zZ sl148 rfl rfl rfl rfl rfl (fun b16 => ?_))
  refine zA ?_
  refine yL 1 0 sl148 rfl rfl rfl rfl rfl rfl rfl (by unfold maxLen; omega) (by omega) (fun A17 c17 => ?_)
  refine zA (zE rfl rfl ?_)
  refine zC (kE [(3, _), (9, _), (8, _), (7, _)] rfl ?_)
  refine zQ (zB ?_)
  refine zA (xH rfl rfl (by omega) ?_)
  refine zA (zF rfl rfl ?_)
  refine zC (vO 1 0 rfl rfl ?_)
  rw [tD]
  exact kQ (hK (i + 1, _, _, _) (by show i + 1 ≤ _; omega) (by show l.length - (i + 1) < l.length - i; omega)) (eC rfl (eC rfl (eC rfl (eC rfl (eN _))))) (hD := (subc 0 rfl sQ))
 obtain rfl : i = l.length := by omega
 rw [List.take_length]
 refine uQ 0 0 _ rfl rfl (by intro b h; cases h) (yK rfl ?_)
 refine zD (zB ?_)
 refine zA (zF rfl rfl ?_)
 refine zA (zW rfl rfl rfl (c185 _ _ _ _) (sub1 0 rfl) (fun u20 D20 hv20 => ?_))
 obtain ⟨b20, rfl, rfl⟩ := hv20
 refine zA (zE rfl rfl ?_)
 exact zC (zI Tryz.results156 rfl ⟨rfl, b20, rfl, rfl⟩ nS (sub1 0 rfl))
end Go.Jw

namespace Go.Jw
open Go Go.RowKit Go.Proofs
def DA.gr (mb : Nat) (G : Gr) : DA := ⟨fun w ok => ∀ g ∈ G, BlkP w ok g.1 g.2.1 124 ∧ ∃ m, CellsP w ok m g.2.1 g.2.2, fun h1 h2 h g hg => ⟨(h g hg).1.mono h1 h2, (h g hg).2.imp fun m hm => CellsP.mono h1 h2 hm⟩⟩
section rules
variable {P : Program} {n : Nat} {F : List Nat} {c : Ctx F} {ops : Array Oper} {d : Nat} {T : TypeId} {l : List Oper} {k : List KI} {Q : Post} {e : Env} {M : List HA} {D : List DA}
theorem vT {α : Type} (pr : α → Prop) (DD : α → List DA) (h : ∀ (w : World) (ok : Nat → Prop), (∀ d ∈ D, d.p w ok) → ∃ x, pr x ∧ ∀ d ∈ DD x, d.p w ok) (next : ∀ x, pr x → Run P n c k Q e M (DD x ++ D)) : Run P n c k Q e M D := by
 intro a w hf
 obtain ⟨x, hx, hd⟩ := h w _ hf.dat
 exact next x hx a w (hf.world (hf.toFitsW.data fun d hd' => (List.mem_append.1 hd').elim (hd d) (hf.dat d)))
theorem all1 {w : World} {ok : Nat → Prop} {d : DA} (h : d.p w ok) : ∀ x ∈ [d], x.p w ok := fun x hx => by rw [List.mem_singleton.1 hx]; exact h
theorem allc {w : World} {ok : Nat → Prop} {d : DA} {l : List DA} (h : d.p w ok) (hl : ∀ x ∈ l, x.p w ok) : ∀ x ∈ d :: l, x.p w ok := fun x hx => (List.mem_cons.1 hx).elim (fun e => e ▸ h) (hl x)
theorem run_tyS (j : Nat) {u : Value} {s : ByteArray} (hj : D[j]? = some (.fv u (.tyS s))) (next : ∀ b p, u = ptr b → s.size ≤ maxLen → Run P n c k Q e M (.dblk b [.pointer (some p), .pointer none] 196 :: .pts p (.string s) :: D)) : Run P n c k Q e M D :=
 vT (α := Nat × Addr) (fun x => u = ptr x.1 ∧ s.size ≤ maxLen) (fun x => [.dblk x.1 [.pointer (some x.2), .pointer none] 196, .pts x.2 (.string s)]) (fun w ok h => by
  obtain ⟨b, p, h1, h2, h3, h4⟩ : FvP w ok (.tyS s) u := dget h j hj
  exact ⟨(b, p), ⟨h1, h2⟩, allc h3 (all1 h4)⟩) (fun x hx => next x.1 x.2 hx.1 hx.2)
theorem run_tyL (j : Nat) {u : Value} {l : List ByteArray} (hj : D[j]? = some (.fv u (.tyL l))) (next : ∀ b p sl, u = ptr b → Run P n c k Q e M (.dblk b [.pointer none, .pointer (some p)] 196 :: .pts p sl :: .strs sl l :: D)) : Run P n c k Q e M D :=
 vT (α := Nat × Addr × Value) (fun x => u = ptr x.1) (fun x => [.dblk x.1 [.pointer none, .pointer (some x.2.1)] 196, .pts x.2.1 x.2.2, .strs x.2.2 l]) (fun w ok h => by
  obtain ⟨b, p, sl, h1, h3, h4, h5⟩ : FvP w ok (.tyL l) u := dget h j hj
  exact ⟨(b, p, sl), h1, allc h3 (allc h4 (all1 h5))⟩) (fun x hx => next x.1 x.2.1 x.2.2 hx)
theorem run_gr (j : Nat) {mb b : Nat} {cs : List Value} {f : Flds} {G : Gr} (hj : D[j]? = some (.gr mb G)) (hg : (b, cs, f) ∈ G) (next : ∀ m : Nat, cs.length = 37 → Run P n c k Q e M (.dblk b cs 124 :: .flds m cs f :: D)) : Run P n c k Q e M D :=
 vT (α := Nat) (fun _ => cs.length = 37) (fun m => [.dblk b cs 124, .flds m cs f]) (fun w ok h => by
  obtain ⟨h1, m, h2⟩ := (dget h j hj : (DA.gr mb G).p w ok) _ hg
  exact ⟨m, h2.1, allc h1 (all1 h2)⟩) (fun m hl => next m hl)
end rules
end Go.Jw

namespace Go.Jw
open Go Go.RowKit Go.Proofs
set_option maxRecDepth 8000
theorem pn63 : Tryz.prog.underlying 63 = some (.pointer (Tryz.prog.pointee 63)) := by
 have h := Tryz.underlying63
 unfold Program.pointee
 rw [h]
theorem pn112 : Tryz.prog.underlying 112 = some (.pointer (Tryz.prog.pointee 112)) := by
 have h := Tryz.underlying112
 unfold Program.pointee
 rw [h]
theorem pn113 : Tryz.prog.underlying 113 = some (.pointer (Tryz.prog.pointee 113)) := by
 have h := Tryz.underlying113
 unfold Program.pointee
 rw [h]
theorem pn114 : Tryz.prog.underlying 114 = some (.pointer (Tryz.prog.pointee 114)) := by
 have h := Tryz.underlying114
 unfold Program.pointee
 rw [h]
theorem pn115 : Tryz.prog.underlying 115 = some (.pointer (Tryz.prog.pointee 115)) := by
 have h := Tryz.underlying115
 unfold Program.pointee
 rw [h]
theorem pn116 : Tryz.prog.underlying 116 = some (.pointer (Tryz.prog.pointee 116)) := by
 have h := Tryz.underlying116
 unfold Program.pointee
 rw [h]
theorem pn117 : Tryz.prog.underlying 117 = some (.pointer (Tryz.prog.pointee 117)) := by
 have h := Tryz.underlying117
 unfold Program.pointee
 rw [h]
theorem pn118 : Tryz.prog.underlying 118 = some (.pointer (Tryz.prog.pointee 118)) := by
 have h := Tryz.underlying118
 unfold Program.pointee
 rw [h]
theorem pn119 : Tryz.prog.underlying 119 = some (.pointer (Tryz.prog.pointee 119)) := by
 have h := Tryz.underlying119
 unfold Program.pointee
 rw [h]
theorem pn120 : Tryz.prog.underlying 120 = some (.pointer (Tryz.prog.pointee 120)) := by
 have h := Tryz.underlying120
 unfold Program.pointee
 rw [h]
theorem pn121 : Tryz.prog.underlying 121 = some (.pointer (Tryz.prog.pointee 121)) := by
 have h := Tryz.underlying121
 unfold Program.pointee
 rw [h]
theorem pn122 : Tryz.prog.underlying 122 = some (.pointer (Tryz.prog.pointee 122)) := by
 have h := Tryz.underlying122
 unfold Program.pointee
 rw [h]
theorem pn211 : Tryz.prog.underlying 211 = some (.pointer (Tryz.prog.pointee 211)) := by
 have h := Tryz.underlying211
 unfold Program.pointee
 rw [h]
theorem pn102 : Tryz.prog.underlying 102 = some (.pointer (Tryz.prog.pointee 102)) := by
 have h := Tryz.underlying102
 unfold Program.pointee
 rw [h]
theorem c154s (u : Value) (s : ByteArray) : CtR Tryz.prog 154 #[u] [.fv u (.tyS s)] (RN (scal tStr s)) := by
 refine Ct.of_run (args := [u]) Tryz.func154 (by kernel_rfl) rfl Tryz.ntmps154 rfl (fun c => ?_)
 refine run_tyS 0 rfl (fun b p hu hs => ?_)
 subst hu
 refine zD (zB ?_)
 refine zA (zE rfl rfl ?_)
 refine zC (zD ?_)
 refine zB (sT ?_)
 refine zA (zH fo196_0 rfl rfl ?_)
 refine zA (zM 0 sc111 rfl rfl rfl rfl ?_)
 refine zA (yF pn111 rfl rfl ?_)
 refine zC (yG rfl (rfl) ?_)
 refine zD (zB ?_)
 refine sT (zA ?_)
 refine zH fo196_0 rfl rfl (zA ?_)
 refine zM 0 sc111 rfl rfl rfl rfl (zA ?_)
 refine zP rfl rfl (zA ?_)
 refine yV 1 sc9 rfl rfl rfl (zA ?_)
 refine zW rfl rfl rfl (c151 s hs) sub0 (fun u14 D14 hv14 => ?_)
 obtain ⟨b14, rfl, rfl⟩ := hv14
 refine zA (zE rfl rfl ?_)
 refine zC (kE [(2, _)] rfl ?_)
 exact zI Tryz.results154 rfl ⟨rfl, b14, rfl, rfl⟩ nS (sub1 0 rfl)
theorem c154l (u : Value) (l : List ByteArray) (hl : l.length ≤ 1000000) : CtR Tryz.prog 154 #[u] [.fv u (.tyL l)] (RN (RKids 2 (l.map (scal tStr)))) := by
 refine Ct.of_run (args := [u]) Tryz.func154 (by kernel_rfl) rfl Tryz.ntmps154 rfl (fun c => ?_)
 refine run_tyL 0 rfl (fun b p sl hu => ?_)
 subst hu
 refine zD (zB ?_)
 refine zA (zE rfl rfl ?_)
 refine zC (zD ?_)
 refine zB (sT ?_)
 refine zA (zH fo196_0 rfl rfl ?_)
 refine zA (zM 0 sc111 rfl rfl rfl rfl ?_)
 refine zA (yF pn111 rfl rfl ?_)
 refine zC (yE rfl (rfl) ?_)
 refine zD (zB ?_)
 refine sT (zA ?_)
 refine zH fo196_1 rfl rfl (zA ?_)
 refine zM 0 sc117 rfl rfl rfl rfl (zA ?_)
 refine yF pn117 rfl rfl (zC ?_)
 refine kE [(19, _), (0, _)] rfl (yG rfl (rfl) ?_)
 refine zD (zB ?_)
 refine sT (zA ?_)
 refine zH fo196_1 rfl rfl (zA ?_)
 refine zM 0 sc117 rfl rfl rfl rfl (zA ?_)
 refine zP rfl rfl (zA ?_)
 refine yV 1 sc22 rfl rfl rfl (zA ?_)
 refine zW rfl rfl rfl (c156 _ l hl) (sub1 2 rfl) (fun u26 D26 hv26 => ?_)
 obtain ⟨b26, rfl, rfl⟩ := hv26
 refine zA (zE rfl rfl ?_)
 refine zC (kE [(2, _)] rfl ?_)
 exact zI Tryz.results154 rfl ⟨rfl, b26, rfl, rfl⟩ nS (sub1 0 rfl)
end Go.Jw

namespace Go.Jw
open Go Go.RowKit Go.Proofs
section rules
variable {P : Program} {n : Nat} {F : List Nat} {c : Ctx F} {ops : Array Oper} {d : Nat} {T : TypeId} {l : List Oper} {k : List KI} {Q : Post} {e : Env} {M : List HA} {D : List DA}
theorem sO (j : Nat) {u : Value} {s : ByteArray} (hj : D[j]? = some (.fv u (.text s))) (next : ∀ p, u = .pointer (some p) → s.size ≤ maxLen → Run P n c k Q e M (.pts p (.string s) :: D)) : Run P n c k Q e M D :=
 vT (α := Addr) (fun p => u = .pointer (some p) ∧ s.size ≤ maxLen) (fun p => [.pts p (.string s)]) (fun w ok h => by
  obtain ⟨p, h1, h2, h3⟩ : FvP w ok (.text s) u := dget h j hj
  exact ⟨p, ⟨h1, h2⟩, all1 h3⟩) (fun x hx => next x hx.1 hx.2)
theorem run_bool (j : Nat) {u : Value} {x : Bool} (hj : D[j]? = some (.fv u (.bool x))) (next : ∀ p, u = .pointer (some p) → Run P n c k Q e M (.pts p (.bool x) :: D)) : Run P n c k Q e M D :=
 vT (α := Addr) (fun p => u = .pointer (some p)) (fun p => [.pts p (.bool x)]) (fun w ok h => by
  obtain ⟨p, h1, h3⟩ : FvP w ok (.bool x) u := dget h j hj
  exact ⟨p, h1, all1 h3⟩) (fun x hx => next x hx)
theorem run_int (j : Nat) {u : Value} {x : Int} (hj : D[j]? = some (.fv u (.int x))) (next : ∀ p, u = .pointer (some p) → Run P n c k Q e M (.pts p (.int .i64 x) :: D)) : Run P n c k Q e M D :=
 vT (α := Addr) (fun p => u = .pointer (some p)) (fun p => [.pts p (.int .i64 x)]) (fun w ok h => by
  obtain ⟨p, h1, h3⟩ : FvP w ok (.int x) u := dget h j hj
  exact ⟨p, h1, all1 h3⟩) (fun x hx => next x hx)
theorem run_sbS (j : Nat) {u : Value} {q : Nat} (hj : D[j]? = some (.fv u (.sbS q))) (next : ∀ b, u = ptr b → Run P n c k Q e M (.dblk b [ptr q, .pointer none] 185 :: D)) : Run P n c k Q e M D :=
 vT (α := Nat) (fun b => u = ptr b) (fun b => [.dblk b [ptr q, .pointer none] 185]) (fun w ok h => by
  obtain ⟨b, h1, h3⟩ : FvP w ok (.sbS q) u := dget h j hj
  exact ⟨b, h1, all1 h3⟩) (fun x hx => next x hx)
theorem run_itS (j : Nat) {u : Value} {q : Nat} (hj : D[j]? = some (.fv u (.itS q))) (next : ∀ b, u = ptr b → Run P n c k Q e M (.dblk b [ptr q, .pointer none] 187 :: D)) : Run P n c k Q e M D :=
 vT (α := Nat) (fun b => u = ptr b) (fun b => [.dblk b [ptr q, .pointer none] 187]) (fun w ok h => by
  obtain ⟨b, h1, h3⟩ : FvP w ok (.itS q) u := dget h j hj
  exact ⟨b, h1, all1 h3⟩) (fun x hx => next x hx)
theorem run_sbB (j : Nat) {u : Value} {x : Bool} (hj : D[j]? = some (.fv u (.sbB x))) (next : ∀ b p, u = ptr b → Run P n c k Q e M (.dblk b [.pointer none, .pointer (some p)] 185 :: .pts p (.bool x) :: D)) : Run P n c k Q e M D :=
 vT (α := Nat × Addr) (fun y => u = ptr y.1) (fun y => [.dblk y.1 [.pointer none, .pointer (some y.2)] 185, .pts y.2 (.bool x)]) (fun w ok h => by
  obtain ⟨b, p, h1, h3, h4⟩ : FvP w ok (.sbB x) u := dget h j hj
  exact ⟨(b, p), h1, allc h3 (all1 h4)⟩) (fun x hx => next x.1 x.2 hx)
theorem run_itL (j : Nat) {u : Value} {bs : List Nat} (hj : D[j]? = some (.fv u (.itL bs))) (next : ∀ b p sl, u = ptr b → Run P n c k Q e M (.dblk b [.pointer none, .pointer (some p)] 187 :: .pts p sl :: .rowp sl bs :: D)) : Run P n c k Q e M D :=
 vT (α := Nat × Addr × Value) (fun x => u = ptr x.1) (fun x => [.dblk x.1 [.pointer none, .pointer (some x.2.1)] 187, .pts x.2.1 x.2.2, .rowp x.2.2 bs]) (fun w ok h => by
  obtain ⟨b, p, sl, h1, h3, h4, h5⟩ : FvP w ok (.itL bs) u := dget h j hj
  exact ⟨(b, p, sl), h1, allc h3 (allc h4 (all1 h5))⟩) (fun x hx => next x.1 x.2.1 x.2.2 hx)
theorem run_list (j : Nat) {u : Value} {bs : List Nat} (hj : D[j]? = some (.fv u (.list bs))) (next : ∀ p sl, u = .pointer (some p) → Run P n c k Q e M (.pts p sl :: .rowp sl bs :: D)) : Run P n c k Q e M D :=
 vT (α := Addr × Value) (fun x => u = .pointer (some x.1)) (fun x => [.pts x.1 x.2, .rowp x.2 bs]) (fun w ok h => by
  obtain ⟨p, sl, h1, h4, h5⟩ : FvP w ok (.list bs) u := dget h j hj
  exact ⟨(p, sl), h1, allc h4 (all1 h5)⟩) (fun x hx => next x.1 x.2 hx)
theorem run_texts (j : Nat) {u : Value} {bs : List ByteArray} (hj : D[j]? = some (.fv u (.texts bs))) (next : ∀ p sl, u = .pointer (some p) → Run P n c k Q e M (.pts p sl :: .strs sl bs :: D)) : Run P n c k Q e M D :=
 vT (α := Addr × Value) (fun x => u = .pointer (some x.1)) (fun x => [.pts x.1 x.2, .strs x.2 bs]) (fun w ok h => by
  obtain ⟨p, sl, h1, h4, h5⟩ : FvP w ok (.texts bs) u := dget h j hj
  exact ⟨(p, sl), h1, allc h4 (all1 h5)⟩) (fun x hx => next x.1 x.2 hx)
theorem run_named (j : Nat) {u : Value} {bs : List (ByteArray × Nat)} (hj : D[j]? = some (.fv u (.named bs))) (next : ∀ p sl nbs, u = .pointer (some p) → Run P n c k Q e M (.pts p sl :: .rowp sl nbs :: .nam nbs bs :: D)) : Run P n c k Q e M D :=
 vT (α := Addr × Value × List Nat) (fun x => u = .pointer (some x.1)) (fun x => [.pts x.1 x.2.1, .rowp x.2.1 x.2.2, .nam x.2.2 bs]) (fun w ok h => by
  obtain ⟨p, sl, nbs, h1, h4, h5, h6, h7⟩ : FvP w ok (.named bs) u := dget h j hj
  exact ⟨(p, sl, nbs), h1, allc h4 (allc h5 (all1 ⟨h6, h7⟩))⟩) (fun x hx => next x.1 x.2.1 x.2.2 hx)
theorem run_deps (j : Nat) {u : Value} {bs : List (ByteArray × List ByteArray)} (hj : D[j]? = some (.fv u (.deps bs))) (next : ∀ p sl nbs, u = .pointer (some p) → Run P n c k Q e M (.pts p sl :: .rowp sl nbs :: .dep nbs bs :: D)) : Run P n c k Q e M D :=
 vT (α := Addr × Value × List Nat) (fun x => u = .pointer (some x.1)) (fun x => [.pts x.1 x.2.1, .rowp x.2.1 x.2.2, .dep x.2.2 bs]) (fun w ok h => by
  obtain ⟨p, sl, nbs, h1, h4, h5, h6, h7⟩ : FvP w ok (.deps bs) u := dget h j hj
  exact ⟨(p, sl, nbs), h1, allc h4 (allc h5 (all1 ⟨h6, h7⟩))⟩) (fun x hx => next x.1 x.2.1 x.2.2 hx)
end rules
end Go.Jw

namespace Go.Jw
open Go Go.RowKit Go.Proofs
def frac6 : Nat → ByteArray
  | 0 => ⟨#[46, 48, 48, 48, 48, 48, 48]⟩
  | 1 => ⟨#[46, 50, 53, 48, 48, 48, 48]⟩
  | 2 => ⟨#[46, 53, 48, 48, 48, 48, 48]⟩
  | _ => ⟨#[46, 55, 53, 48, 48, 48, 48]⟩
def quartF (n : Int) : ByteArray := (if decide (n < 0) then ⟨#[45]⟩ else ⟨#[]⟩) ++ itoaB ((n.natAbs / 4 : Nat) : Int) ++ frac6 (n.natAbs % 4)
def ItemR (R : V → Y → Prop) (sh : Int) (x : V) (z : Y) : Prop :=
 (sh = 1 ∧ z = scal tStr x.text) ∨ (sh = 2 ∧ z = scal tBool (fbB (decide (x.num = 1)))) ∨ (sh = 3 ∧ x.kind = 2 ∧ z = scal tInt (itoaB x.num)) ∨ (sh = 3 ∧ x.kind = 6 ∧ z = scal tFloat (quartF x.num)) ∨
 (sh = 4 ∧ z = scal tInt (itoaB x.num)) ∨ (sh = 5 ∧ R x z) ∨ (sh = 6 ∧ x.kind = 1 ∧ z = scal tBool (fbB (decide (x.num = 1)))) ∨ (sh = 6 ∧ x.kind = 5 ∧ R x z) ∨
 (sh = 7 ∧ x.kind = 5 ∧ R x z) ∨ (sh = 7 ∧ x.kind = 4 ∧ ∃ zs, z = RKids 2 zs ∧ All2 (fun z x => R x z) zs x.items) ∨ (sh = 8 ∧ z = RKids 2 ((x.items.map V.text).map (scal tStr))) ∨
 (sh = 9 ∧ ∃ (ps : List (ByteArray × V)) (L : List (ByteArray × Y)), z = RKids 4 (L.flatMap prY) ∧ ps.Perm (x.keys.zip x.items) ∧ All2 (fun q p => q.1 = p.1 ∧ R p.2 q.2) L ps) ∨
 (sh = 10 ∧ ∃ ps : List (ByteArray × V), ps.Perm (x.keys.zip x.items) ∧ z = RKids 4 ((ps.map fun p => (p.1, RKids 2 ((p.2.items.map V.text).map (scal tStr)))).flatMap prY)) ∨
 (sh = 11 ∧ z = RKids 2 ((x.items.map evOf).map evY)) ∨ (sh = 12 ∧ x.kind = 3 ∧ z = scal tStr x.text) ∨ (sh = 12 ∧ x.kind = 4 ∧ z = RKids 2 ((x.items.map V.text).map (scal tStr))) ∨
 (sh = 13 ∧ ∃ zs, z = RKids 2 zs ∧ All2 (fun z x => R x z) zs x.items)
theorem ItemR.mono {R R' : V → Y → Prop} {sh : Int} {x : V} {z : Y} (h : ∀ x' z', SizeOf.sizeOf x' ≤ SizeOf.sizeOf x → R x' z' → R' x' z') (hi : ItemR R sh x z) : ItemR R' sh x z := by
 have hit : ∀ x' z', x' ∈ x.items → R x' z' → R' x' z' := fun x' z' hx => h x' z' (Nat.le_of_lt (xA hx))
 unfold ItemR at hi ⊢
 rcases hi with h1 | h1 | h1 | h1 | h1 | h1 | h1 | h1 | h1 | h1 | h1 | h1 | h1 | h1 | h1 | h1 | h1
 ·exact .inl h1
 ·exact .inr (.inl h1)
 ·exact .inr (.inr (.inl h1))
 ·exact .inr (.inr (.inr (.inl h1)))
 ·exact .inr (.inr (.inr (.inr (.inl h1))))
 ·exact .inr (.inr (.inr (.inr (.inr (.inl ⟨h1.1, h _ _ (Nat.le_refl _) h1.2⟩)))))
 ·exact .inr (.inr (.inr (.inr (.inr (.inr (.inl h1))))))
 ·exact .inr (.inr (.inr (.inr (.inr (.inr (.inr (.inl ⟨h1.1, h1.2.1, h _ _ (Nat.le_refl _) h1.2.2⟩)))))))
 ·exact .inr (.inr (.inr (.inr (.inr (.inr (.inr (.inr (.inl ⟨h1.1, h1.2.1, h _ _ (Nat.le_refl _) h1.2.2⟩))))))))
 ·obtain ⟨a, b, zs, e, hz⟩ := h1
  exact .inr (.inr (.inr (.inr (.inr (.inr (.inr (.inr (.inr (.inl ⟨a, b, zs, e, hz.mono fun z x hx hr => hit x z hx hr⟩)))))))))
 ·exact .inr (.inr (.inr (.inr (.inr (.inr (.inr (.inr (.inr (.inr (.inl h1))))))))))
 ·obtain ⟨a, ps, L, e, hp, hz⟩ := h1
  exact .inr (.inr (.inr (.inr (.inr (.inr (.inr (.inr (.inr (.inr (.inr (.inl ⟨a, ps, L, e, hp, hz.mono fun q p hx hr => ⟨hr.1, hit p.2 q.2 (List.of_mem_zip (hp.mem_iff.1 hx)).2 hr.2⟩⟩)))))))))))
 ·exact .inr (.inr (.inr (.inr (.inr (.inr (.inr (.inr (.inr (.inr (.inr (.inr (.inl h1))))))))))))
 ·exact .inr (.inr (.inr (.inr (.inr (.inr (.inr (.inr (.inr (.inr (.inr (.inr (.inr (.inl h1)))))))))))))
 ·exact .inr (.inr (.inr (.inr (.inr (.inr (.inr (.inr (.inr (.inr (.inr (.inr (.inr (.inr (.inl h1))))))))))))))
 ·exact .inr (.inr (.inr (.inr (.inr (.inr (.inr (.inr (.inr (.inr (.inr (.inr (.inr (.inr (.inr (.inl h1)))))))))))))))
 ·obtain ⟨a, zs, e, hz⟩ := h1
  exact .inr (.inr (.inr (.inr (.inr (.inr (.inr (.inr (.inr (.inr (.inr (.inr (.inr (.inr (.inr (.inr ⟨a, zs, e, hz.mono fun z x hx hr => hit x z hx hr⟩)))))))))))))))
instance : Inhabited (Y → Prop) := ⟨fun _ => True⟩
def OutB (r : V → Y → Prop) (v : V) (y : Y) : Prop := ∃ L : List (ByteArray × Y), y = RKids 4 (L.flatMap prY) ∧ (L.map fun p => kwIdx p.1).Nodup ∧ (∀ p ∈ L, kwIdx p.1 ≠ 0 ∧ kwIdx p.1 ≠ 35 ∧ ∃ x, getV v p.1 = some x ∧ ItemR r (shIdx (kwIdx p.1)) x p.2) ∧
 ∀ key x, getV v key = some x → kwIdx key ≠ 0 → kwIdx key ≠ 35 → ∃ p ∈ L, p.1 = key
theorem OutB.mono {r r' : V → Y → Prop} {v : V} {y : Y} (h : ∀ x z, SizeOf.sizeOf x < SizeOf.sizeOf v → r x z → r' x z) (ho : OutB r v y) : OutB r' v y := by
 obtain ⟨L, h1, h2, h3, h4⟩ := ho
 refine ⟨L, h1, h2, fun p hp => ?_, h4⟩
 obtain ⟨a, b, x, hx, hi⟩ := h3 p hp
 exact ⟨a, b, x, hx, hi.mono fun x' z' hs => h x' z' (Nat.lt_of_le_of_lt hs (xA (getV_mem hx)))⟩
noncomputable def OutR : V → Y → Prop := V.fix (α := Y → Prop) (fun v r y => OutB r v y)
theorem outR_iff (v : V) (y : Y) : OutR v y ↔ OutB OutR v y := by
 have := V.fix_eq (α := Y → Prop) (G := fun v r y => OutB r v y) (fun t g g' h => by
  funext y
  apply propext
  exact ⟨OutB.mono fun x z hx hr => by rw [← h x hx]; exact hr, OutB.mono fun x z hx hr => by rw [h x hx]; exact hr⟩) v
 show V.fix (α := Y → Prop) _ v y ↔ _
 rw [this]
 rfl
def C105 (ft : DA) (mb : Nat) (G : Gr) (v : V) : Prop := ∀ b, Unf G v b → CtR Tryz.prog 105 #[ptr b] [.gr mb G, .tab, ft] (fun u D' => ∃ y, OutR v y ∧ RN y u D')
def NumW (ft : DA) : Prop := ∀ n : Int, -1000000000 < n → n < 1000000000 → n.tmod 4 ≠ 0 → CtR Tryz.prog 188 #[.float .f64 (quartBits n)] [ft] (RN (scal tFloat (quartF n)))
def DA.ev (e : EV) (u v : Value) : DA := ⟨fun w ok => EvP w ok e u v, fun h1 h2 h => EvP.mono h1 h2 h⟩
section rules
variable {P : Program} {n : Nat} {F : List Nat} {c : Ctx F} {ops : Array Oper} {d : Nat} {T : TypeId} {l : List Oper} {k : List KI} {Q : Post} {e : Env} {M : List HA} {D : List DA}
theorem run_rowp (j : Nat) {v : Value} {bs : List Nat} (hj : D[j]? = some (.rowp v bs)) (next : ∀ A c', v = .slice A bs.length c' → bs.length ≤ c' → c' ≤ maxLen → Run P n c k Q e M D) : Run P n c k Q e M D := by
 intro a w hf
 obtain ⟨A, c', h1, h2, h3, _⟩ : RowPtrs w (c.now M w) v bs := hf.toFitsW.dt hj
 exact next A c' h1 h2 h3 a w hf
theorem op_idxRowp (j : Nat) {x y : Operand} {A : Option Addr} {m cap i : Nat} {kd : IntKind} {S E sz by_ : Nat} {bs : List Nat} (hS : SliceOf P S E sz by_) (hd : Nat.blt d n = true) (hx : ev e x = some (.slice A m cap)) (hy : ev e y = some (.int kd (i : Nat))) (hj : D[j]? = some (.rowp (.slice A m cap) bs)) (hi : i < m)
  (next : RunOps P n c ops l k Q ((d, .pointer (some (At A (i * sz)))) :: e) M D) : RunOp P n c ops (some d) (.indexAddr S x y) T l k Q e M D := by
 intro a w hf
 obtain ⟨A', c', hv, _, _, hit⟩ : RowPtrs w (c.now M w) (.slice A m cap) bs := hf.toFitsW.dt hj
 injection hv with hA hm
 subst hA
 subst hm
 obtain ⟨a', ha, _⟩ := hit i bs[i] (List.getElem?_eq_getElem hi)
 subst ha
 exact wR (T := T) hS hd hx hy hi next a w hf
theorem rowp_cell {w : World} (h : FitsW c M D w) {j i b : Nat} {A : Option Addr} {m cap : Nat} {bs : List Nat} (hj : D[j]? = some (.rowp (.slice A m cap) bs)) (hb : bs[i]? = some b) : w.cell? (At A (i * 1)) = some (ptr b) := by
 obtain ⟨A', c', hv, _, _, hit⟩ : RowPtrs w (c.now M w) (.slice A m cap) bs := h.dt hj
 injection hv with hA hm
 subst hA
 obtain ⟨a, ha, _, hc⟩ := hit i b hb
 subst ha
 rw [Nat.mul_one]
 exact hc
theorem ops_nam (j i : Nat) {nbs : List Nat} {l' : List (ByteArray × Nat)} {q : ByteArray × Nat} {nb : Nat} (hj : D[j]? = some (.nam nbs l')) (hq : l'[i]? = some q) (hn : nbs[i]? = some nb) (next : q.1.size ≤ maxLen → RunOps P n c ops l k Q e M (.dblk nb [.string q.1, ptr q.2] 179 :: D)) : RunOps P n c ops l k Q e M D :=
 ops_open (fun w ok h => ((dget h j hj : (DA.nam nbs l').p w ok).2 i q nb hq hn).1) fun h1 => ops_more _ (fun w ok h => ((dget h j hj : (DA.nam nbs l').p w ok).2 i q nb hq hn).2) (next h1)
theorem run_namLen (j : Nat) {nbs : List Nat} {l' : List (ByteArray × Nat)} (hj : D[j]? = some (.nam nbs l')) (next : nbs.length = l'.length → Run P n c k Q e M D) : Run P n c k Q e M D :=
 rJ (fun w ok h => (dget h j hj : (DA.nam nbs l').p w ok).1) next
theorem run_depLen (j : Nat) {nbs : List Nat} {l' : List (ByteArray × List ByteArray)} (hj : D[j]? = some (.dep nbs l')) (next : nbs.length = l'.length → Run P n c k Q e M D) : Run P n c k Q e M D :=
 rJ (fun w ok h => (dget h j hj : (DA.dep nbs l').p w ok).1) next
theorem ops_exp {α : Type} (pr : α → Prop) (DD : α → List DA) (h : ∀ (w : World) (ok : Nat → Prop), (∀ d ∈ D, d.p w ok) → ∃ x, pr x ∧ ∀ d ∈ DD x, d.p w ok) (next : ∀ x, pr x → RunOps P n c ops l k Q e M (DD x ++ D)) : RunOps P n c ops l k Q e M D := by
 intro a w hf
 obtain ⟨x, hx, hd⟩ := h w _ hf.dat
 exact next x hx a w (hf.world (hf.toFitsW.data fun d hd' => (List.mem_append.1 hd').elim (hd d) (hf.dat d)))
theorem ops_dep (j i : Nat) {nbs : List Nat} {l' : List (ByteArray × List ByteArray)} {q : ByteArray × List ByteArray} {nb : Nat} (hj : D[j]? = some (.dep nbs l')) (hq : l'[i]? = some q) (hn : nbs[i]? = some nb)
  (next : ∀ tb p2 sl2, q.1.size ≤ maxLen → RunOps P n c ops l k Q e M (.dblk nb [.string q.1, ptr tb] 192 :: .dblk tb [.pointer none, .pointer (some p2)] 194 :: .pts p2 sl2 :: .strs sl2 q.2 :: D)) : RunOps P n c ops l k Q e M D :=
 ops_exp (α := Nat × Addr × Value) (fun _ => q.1.size ≤ maxLen) (fun x => [.dblk nb [.string q.1, ptr x.1] 192, .dblk x.1 [.pointer none, .pointer (some x.2.1)] 194, .pts x.2.1 x.2.2, .strs x.2.2 q.2]) (fun w ok h => by
  obtain ⟨tb, p2, sl2, h1, h2, h3, h4, h5⟩ := (dget h j hj : (DA.dep nbs l').p w ok).2 i q nb hq hn
  exact ⟨(tb, p2, sl2), h1, allc h2 (allc h3 (allc h4 (all1 h5)))⟩) (fun x hx => next x.1 x.2.1 x.2.2 hx)
theorem run_numI (j : Nat) {u : Value} {x : Int} (hj : D[j]? = some (.fv u (.numI x))) (next : ∀ b p, u = ptr b → Run P n c k Q e M (.dblk b [.pointer (some p), .pointer none] 213 :: .pts p (.int .i64 x) :: D)) : Run P n c k Q e M D :=
 vT (α := Nat × Addr) (fun y => u = ptr y.1) (fun y => [.dblk y.1 [.pointer (some y.2), .pointer none] 213, .pts y.2 (.int .i64 x)]) (fun w ok h => by
  obtain ⟨b, p, h1, h3, h4⟩ : FvP w ok (.numI x) u := dget h j hj
  exact ⟨(b, p), h1, allc h3 (all1 h4)⟩) (fun x hx => next x.1 x.2 hx)
theorem run_numF (j : Nat) {u : Value} {x : Nat} (hj : D[j]? = some (.fv u (.numF x))) (next : ∀ b p, u = ptr b → Run P n c k Q e M (.dblk b [.pointer none, .pointer (some p)] 213 :: .pts p (.float .f64 x) :: D)) : Run P n c k Q e M D :=
 vT (α := Nat × Addr) (fun y => u = ptr y.1) (fun y => [.dblk y.1 [.pointer none, .pointer (some y.2)] 213, .pts y.2 (.float .f64 x)]) (fun w ok h => by
  obtain ⟨b, p, h1, h3, h4⟩ : FvP w ok (.numF x) u := dget h j hj
  exact ⟨(b, p), h1, allc h3 (all1 h4)⟩) (fun x hx => next x.1 x.2 hx)
theorem run_enums (j : Nat) {u : Value} {es : List EV} (hj : D[j]? = some (.fv u (.enums es))) (next : ∀ p A c', u = .pointer (some p) → es.length ≤ c' → c' ≤ maxLen → Run P n c k Q e M (.pts p (.slice A es.length c') :: .evrow A c' es :: D)) : Run P n c k Q e M D :=
 vT (α := Addr × Option Addr × Nat) (fun x => u = .pointer (some x.1) ∧ es.length ≤ x.2.2 ∧ x.2.2 ≤ maxLen) (fun x => [.pts x.1 (.slice x.2.1 es.length x.2.2), .evrow x.2.1 x.2.2 es]) (fun w ok h => by
  obtain ⟨p, A, c', h1, h2, h3, h4, h5⟩ : FvP w ok (.enums es) u := dget h j hj
  exact ⟨(p, A, c'), ⟨h1, h3, h4⟩, allc h2 (all1 ⟨h3, h4, h5⟩)⟩) (fun x hx => next x.1 x.2.1 x.2.2 hx.1 hx.2.1 hx.2.2)
theorem ops_ev (j i : Nat) {A : Option Addr} {c' : Nat} {es : List EV} {x : EV} (hj : D[j]? = some (.evrow A c' es)) (hi : es[i]? = some x) (next : ∀ q q', RunOps P n c ops l k Q e M (.cells A (i * 2) [.pointer q, .pointer q'] :: .ev x (.pointer q) (.pointer q') :: D)) : RunOps P n c ops l k Q e M D :=
  ops_exp (α := Option Addr × Option Addr) (fun _ => True) (fun y => [.cells A (i * 2) [.pointer y.1, .pointer y.2], .ev x (.pointer y.1) (.pointer y.2)]) (fun w ok h => by
    obtain ⟨a, u, u', h1, h2, h3, h4, h5⟩ := (dget h j hj : (DA.evrow A c' es).p w ok).2.2 i x hi
    have hq : ∃ q q', u = .pointer q ∧ u' = .pointer q' := by
      cases x with
      | str s => obtain ⟨p, a, b, _⟩ := h5; exact ⟨_, _, a, b⟩
      | bool s => obtain ⟨p, a, b, _⟩ := h5; exact ⟨_, _, a, b⟩
    obtain ⟨q, q', rfl, rfl⟩ := hq
    refine ⟨(q, q'), trivial, allc ⟨a, h1, h2, fun j u hj => ?_⟩ (all1 h5)⟩
    match j, hj with
    | 0, hj => cases hj; exact h3
    | 1, hj => cases hj; exact h4
    | j + 2, hj => simp at hj) (fun x _ => next x.1 x.2)
theorem op_idxEv (j : Nat) {x y : Operand} {A : Option Addr} {m cap c' i : Nat} {kd : IntKind} {S E sz by_ : Nat} {es : List EV} (hS : SliceOf P S E sz by_) (hd : Nat.blt d n = true) (hx : ev e x = some (.slice A m cap)) (hy : ev e y = some (.int kd (i : Nat))) (hj : D[j]? = some (.evrow A c' es)) (hi : i < m) (hm : m = es.length)
  (next : RunOps P n c ops l k Q ((d, .pointer (some (At A (i * sz)))) :: e) M D) : RunOp P n c ops (some d) (.indexAddr S x y) T l k Q e M D := by
 intro a w hf
 have hit := (hf.toFitsW.dt hj : (DA.evrow A c' es).p w _).2.2
 subst hm
 obtain ⟨a', _, _, ha, _⟩ := hit i es[i] (List.getElem?_eq_getElem hi)
 subst ha
 exact wR (T := T) hS hd hx hy hi next a w hf
theorem op_loadC (j : Nat) {x : Operand} {A : Option Addr} {o : Nat} {vs : List Value} (hT : Aggr P T vs.length) (hd : Nat.blt d n = true) (hx : ev e x = some (.pointer (some (At A o)))) (hj : D[j]? = some (.cells A o vs))
  (next : RunOps P n c ops l k Q ((d, .agg vs.toArray) :: e) M D) {T' : TypeId} : RunOp P n c ops (some d) (.load T x) T' l k Q e M D :=
 op_loadAgg hT hd hx (fun w h j u hj' => by
  obtain ⟨a, rfl, _, hc⟩ := h.dt hj
  have := hc j u hj'
  simp only [At, Option.getD_some, add_add']
  exact this) next
theorem yT (i j q : Nat) {xs : List Value} {L : List (ByteArray × Y)} {b nb : Nat} {key : ByteArray} {y : Y} (hi : D[i]? = some (.ptrs xs (L.flatMap prY))) (hj : D[j]? = some (.node b (scal tStr key))) (hq : D[q]? = some (.node nb y))
  (next : Run P n c k Q e M (.ptrs (xs ++ [ptr b, ptr nb]) ((L ++ [(key, y)]).flatMap prY) :: D)) : Run P n c k Q e M D :=
 xI (.ptrs (xs ++ [ptr b, ptr nb]) ((L ++ [(key, y)]).flatMap prY)) (fun w ok h => by
  have h1 : PtrsP w ok _ _ := PtrsP.snoc (dget h q hq) (PtrsP.snoc (dget h j hj) (dget h i hi))
  have e1 : (L ++ [(key, y)]).flatMap prY = L.flatMap prY ++ [scal tStr key] ++ [y] := by simp [prY]
  rw [show (DA.ptrs (xs ++ [ptr b, ptr nb]) ((L ++ [(key, y)]).flatMap prY)).p w ok = PtrsP w ok (xs ++ [ptr b, ptr nb]) ((L ++ [(key, y)]).flatMap prY) from rfl, e1]
  simpa using h1) next
end rules
end Go.Jw

namespace Go.Jw
open Go Go.RowKit Go.Proofs
theorem inf139 : Tryz.prog.info? 139 = some Tryz.t139 := zY Tryz.typeInfo139
theorem sc139 : Scalar Tryz.prog 139 := ⟨_, Tryz.t139, Tryz.underlying139, (by intro _ h; cases h), (by intro _ _ h; cases h), inf139, rfl⟩
theorem si139 : ∃ i, Tryz.prog.info? 139 = some i ∧ i.size = 1 := ⟨_, inf139, rfl⟩
theorem ze139 : Zero Tryz.prog 139 (match Tryz.t139.zero with | some z => z.cells.toList | none => []) := ⟨Tryz.t139, _, inf139, rfl, rfl⟩
theorem sl139 : SliceOf Tryz.prog 139 3 1 8 := ⟨Tryz.t3, _, Tryz.underlying139, zY Tryz.typeInfo3, rfl, rfl, rfl, rfl, by decide⟩
theorem sl142 : SliceOf Tryz.prog 142 5 1 1 := ⟨Tryz.t5, _, Tryz.underlying142, zY Tryz.typeInfo5, rfl, rfl, rfl, rfl, by decide⟩
theorem inf189 : Tryz.prog.info? 189 = some Tryz.t189 := zY Tryz.typeInfo189
theorem sc189 : Scalar Tryz.prog 189 := ⟨_, Tryz.t189, Tryz.underlying189, (by intro _ h; cases h), (by intro _ _ h; cases h), inf189, rfl⟩
theorem inf206 : Tryz.prog.info? 206 = some Tryz.t206 := zY Tryz.typeInfo206
theorem sc206 : Scalar Tryz.prog 206 := ⟨_, Tryz.t206, Tryz.underlying206, (by intro _ h; cases h), (by intro _ _ h; cases h), inf206, rfl⟩
theorem inf235 : Tryz.prog.info? 235 = some Tryz.t235 := zY Tryz.typeInfo235
theorem sc235 : Scalar Tryz.prog 235 := ⟨_, Tryz.t235, Tryz.underlying235, (by intro _ h; cases h), (by intro _ _ h; cases h), inf235, rfl⟩
theorem si235 : ∃ i, Tryz.prog.info? 235 = some i ∧ i.size = 1 := ⟨_, inf235, rfl⟩
theorem inf246 : Tryz.prog.info? 246 = some Tryz.t246 := zY Tryz.typeInfo246
theorem ze246 : Zero Tryz.prog 246 (match Tryz.t246.zero with | some z => z.cells.toList | none => []) := ⟨Tryz.t246, _, inf246, rfl, rfl⟩
theorem fo305_0 : FieldOff Tryz.prog 305 0 0 := ⟨_, _, Tryz.t206, 0, Tryz.underlying305, rfl, rfl, zY Tryz.typeInfo206, rfl⟩
theorem inf349 : Tryz.prog.info? 349 = some Tryz.t349 := zY Tryz.typeInfo349
theorem sc349 : Scalar Tryz.prog 349 := ⟨_, Tryz.t349, Tryz.underlying349, (by intro _ h; cases h), (by intro _ _ h; cases h), inf349, rfl⟩
theorem sl349 : SliceOf Tryz.prog 349 214 1 8 := ⟨Tryz.t214, _, Tryz.underlying349, zY Tryz.typeInfo214, rfl, rfl, rfl, rfl, by decide⟩
end Go.Jw

namespace Go.Jw
open Go Go.RowKit Go.Proofs
set_option maxRecDepth 8000
theorem fun152 : Fun Tryz.prog 152 := ⟨_, Tryz.func152, by kernel_rfl, rfl⟩
theorem c152 (s : ByteArray) (hs : s.size ≤ maxLen) : CtV Tryz.prog 152 #[.string s, .string ⟨#[35]⟩] [] (.string ⟨(Lib.trimSuffix s.data.toList [35]).toArray⟩) :=
  pJ fun152 fun w ok h => (Tryz.strings_TrimSuffix s ⟨#[35]⟩ w (by unfold maxLen at hs; omega)).mono (by
    rintro e w' ⟨rfl, rfl⟩
    exact ⟨rfl, Chg.refl _ _⟩)
theorem c157b (u : Value) (x : Bool) : CtR Tryz.prog 157 #[u] [.fv u (.sbB x)] (RN (scal tBool (fbB x))) := by
 refine Ct.of_run (args := [u]) Tryz.func157 (by kernel_rfl) rfl Tryz.ntmps157 rfl (fun c => ?_)
 refine run_sbB 0 rfl (fun b p hu => ?_)
 subst hu
 refine zD (zB ?_)
 refine zA (zE rfl rfl ?_)
 refine zC (zD ?_)
 refine zB (sT ?_)
 refine zA (zH fo185_0 rfl rfl ?_)
 refine zA (zM 0 sc63 rfl rfl rfl rfl ?_)
 refine zA (yF pn63 rfl rfl ?_)
 refine zC (yE rfl (rfl) ?_)
 refine zD (zB ?_)
 refine sT (zA ?_)
 refine zH fo185_1 rfl rfl (zA ?_)
 refine zM 0 sc112 rfl rfl rfl rfl (zA ?_)
 refine yF pn112 rfl rfl (zC ?_)
 refine kE [(17, _), (0, _)] rfl (yG rfl (rfl) ?_)
 refine zD (zB ?_)
 refine sT (zA ?_)
 refine zH fo185_1 rfl rfl (zA ?_)
 refine zM 0 sc112 rfl rfl rfl rfl (zA ?_)
 refine zP rfl rfl (zA ?_)
 refine yV 1 sc4 rfl rfl rfl (zA ?_)
 refine zW rfl rfl rfl (c153 x) sub0 (fun u24 D24 hv24 => ?_)
 obtain ⟨b24, rfl, rfl⟩ := hv24
 refine zA (zE rfl rfl ?_)
 refine zC (kE [(2, _)] rfl ?_)
 exact zI Tryz.results157 rfl ⟨rfl, b24, rfl, rfl⟩ nS (sub1 0 rfl)
theorem c157s (ft : DA) (mb : Nat) (G : Gr) (u : Value) (q : Nat) (v : V) (hU : Unf G v q) (H : C105 ft mb G v) : CtR Tryz.prog 157 #[u] [.fv u (.sbS q), .gr mb G, .tab, ft] (fun u D' => ∃ y, OutR v y ∧ RN y u D') := by
 refine Ct.of_run (args := [u]) Tryz.func157 (by kernel_rfl) rfl Tryz.ntmps157 rfl (fun c => ?_)
 refine run_sbS 0 rfl (fun b hu => ?_)
 subst hu
 refine zD (zB ?_)
 refine zA (zE rfl rfl ?_)
 refine zC (zD ?_)
 refine zB (sT ?_)
 refine zA (zH fo185_0 rfl rfl ?_)
 refine zA (zM 0 sc63 rfl rfl rfl rfl ?_)
 refine zA (yF pn63 rfl rfl ?_)
 refine zC (yG rfl (rfl) ?_)
 refine zD (zB ?_)
 refine sT (zA ?_)
 refine zH fo185_0 rfl rfl (zA ?_)
 refine zM 0 sc63 rfl rfl rfl rfl (zA ?_)
 refine zW rfl rfl rfl (H q hU) (subc 2 rfl (sub2 3 4 rfl rfl)) (fun u12 D12 hv12 => ?_)
 obtain ⟨y12, hy12, b12, rfl, rfl⟩ := hv12
 refine zA (zE rfl rfl ?_)
 refine zC (kE [(2, _)] rfl ?_)
 exact zI Tryz.results157 rfl ⟨rfl, y12, hy12, b12, rfl, rfl⟩ nS (sub1 0 rfl)
theorem c163 (ft : DA) (mb : Nat) (G : Gr) (x : Value) (bs : List Nat) (xs : List V) (hl : xs.length ≤ 400000) (hb : All2 (fun b z => Unf G z b) bs xs) (H : ∀ z ∈ xs, C105 ft mb G z) : CtR Tryz.prog 163 #[x] [.rowp x bs, .gr mb G, .tab, ft] (fun u D' => ∃ zs, All2 (fun z x => OutR x z) zs xs ∧ RN (RKids 2 zs) u D') := by
 refine Ct.of_run (args := [x]) Tryz.func163 (by kernel_rfl) rfl Tryz.ntmps163 rfl (fun c => ?_)
 refine run_rowp 0 rfl (fun A1 c1 hx hk1 hk2 => ?_)
 subst hx
 unfold maxLen at hk2
 have hbl := hb.1
 refine zD (zB ?_)
 refine zA (zE rfl rfl ?_)
 refine zC (zD ?_)
 refine zB (zA ?_)
 refine wF sl148 rfl rfl rfl (fun b6 => ?_)
 refine zA (zE rfl rfl ?_)
 refine zC (zD ?_)
 refine zD (zB ?_)
 refine zA (zF rfl rfl ?_)
 refine zA (yU sl137 rfl rfl ?_)
 refine zA (zF rfl rfl ?_)
 refine zC (zN ?_)
 refine kE [(9, _), (3, _), (8, _), (7, _)] rfl (qF ?_)
 refine xU 2 (fun (⟨i, A, ca, xs1, zs⟩ : Nat × Option Addr × Nat × List Value × List Y) => i ≤ bs.length ∧ All2 (fun z x => OutR x z) zs (xs.take i)) (fun (⟨i, A, ca, xs1, zs⟩ : Nat × Option Addr × Nat × List Value × List Y) => [(9, .int .i64 ((i : Nat) : Int)), (3, .slice A i ca)]) (fun (⟨i, A, ca, xs1, zs⟩ : Nat × Option Addr × Nat × List Value × List Y) => HA.row A i ca 102 1 xs1 :: []) (fun (⟨i, A, ca, xs1, zs⟩ : Nat × Option Addr × Nat × List Value × List Y) => .ptrs xs1 zs :: .rowp (.slice A1 bs.length c1) bs :: .gr mb G :: .tab :: ft :: []) (fun (⟨i, A, ca, xs1, zs⟩ : Nat × Option Addr × Nat × List Value × List Y) => bs.length - i) (0, _, _, [], []) (⟨by show 0 ≤ _; omega, All2.nil _⟩) (eC rfl (eC rfl (eN _))) rfl rfl ?_ (eC rfl (eC rfl (eN _)))
 intro ⟨i, A, ca, xs1, zs⟩ hI K hK
 replace hI : i ≤ bs.length ∧ All2 (fun z x => OutR x z) zs (xs.take i) := hI
 change Run _ _ _ _ _ [(9, .int .i64 ((i : Nat) : Int)), (3, .slice A i ca), (8, _), (7, _)] (HA.row A i ca 102 1 xs1 :: []) (.ptrs xs1 zs :: .rowp (.slice A1 bs.length c1) bs :: .gr mb G :: .tab :: ft :: [])
 obtain ⟨hi, hall⟩ := hI
 refine zD (zB ?_)
 refine zA (xT rfl rfl rfl ?_)
 refine zC (zD ?_)
 refine zS rfl (fun h10 => ?_) (fun h10 => ?_)
 ·refine zJ (zD ?_)
  refine zN (zD ?_)
  refine zB (zA ?_)
  refine op_idxRowp 1 sl137 rfl rfl rfl rfl h10 ?_
  have hlt : i < bs.length := h10
  have hlx : i < xs.length := by omega
  refine zA (xO sc63 rfl rfl (fun _ h => rowp_cell h (j := 1) rfl (List.getElem?_eq_getElem hlt)) ?_)
  refine zA (zE rfl rfl ?_)
  refine zC (zB ?_)
  refine sT (zA ?_)
  refine zW rfl rfl rfl (H _ (List.getElem_mem hlx) _ (hb.2 i _ _ (List.getElem?_eq_getElem hlt) (List.getElem?_eq_getElem hlx))) (subc 2 rfl (sub2 3 4 rfl rfl)) (fun u15 D15 hv15 => ?_)
  obtain ⟨y15, hy15, b15, rfl, rfl⟩ := hv15
  refine zA (zZ sl148 rfl rfl rfl rfl rfl (fun b16 => ?_))
  refine zA ?_
  refine yL 1 0 sl148 rfl rfl rfl rfl rfl rfl rfl (by unfold maxLen; omega) (by omega) (fun A17 c17 => ?_)
  refine zA (zE rfl rfl ?_)
  refine zC (kE [(3, _), (9, _), (8, _), (7, _)] rfl ?_)
  refine zQ (zB ?_)
  refine zA (xH rfl rfl (by omega) ?_)
  refine zA (zF rfl rfl ?_)
  refine zC (vO 1 0 rfl rfl ?_)
  exact kQ (hK (i + 1, _, _, _, zs ++ [y15]) (⟨by show i + 1 ≤ _; omega, qI hlx hall hy15⟩) (by show bs.length - (i + 1) < bs.length - i; omega)) (eC rfl (eC rfl (eC rfl (eC rfl (eN _))))) (hD := (subc 0 rfl sQ))
 obtain rfl : i = bs.length := by omega
 rw [hb.1, List.take_length] at hall
 refine uQ 0 0 _ rfl rfl (by intro b h; cases h) (yK rfl ?_)
 refine zD (zB ?_)
 refine zA (zF rfl rfl ?_)
 refine zA (zW rfl rfl rfl (c185 _ _ _ _) (sub1 0 rfl) (fun u20 D20 hv20 => ?_))
 obtain ⟨b20, rfl, rfl⟩ := hv20
 refine zA (zE rfl rfl ?_)
 exact zC (zI Tryz.results163 rfl ⟨rfl, zs, hall, b20, rfl, rfl⟩ nS (sub1 0 rfl))
theorem c155s (ft : DA) (mb : Nat) (G : Gr) (u : Value) (q : Nat) (v : V) (hU : Unf G v q) (H : C105 ft mb G v) : CtR Tryz.prog 155 #[u] [.fv u (.itS q), .gr mb G, .tab, ft] (fun u D' => ∃ y, OutR v y ∧ RN y u D') := by
 refine Ct.of_run (args := [u]) Tryz.func155 (by kernel_rfl) rfl Tryz.ntmps155 rfl (fun c => ?_)
 refine run_itS 0 rfl (fun b hu => ?_)
 subst hu
 refine zD (zB ?_)
 refine zA (zE rfl rfl ?_)
 refine zC (zD ?_)
 refine zB (sT ?_)
 refine zA (zH fo187_0 rfl rfl ?_)
 refine zA (zM 0 sc63 rfl rfl rfl rfl ?_)
 refine zA (yF pn63 rfl rfl ?_)
 refine zC (yG rfl (rfl) ?_)
 refine zD (zB ?_)
 refine sT (zA ?_)
 refine zH fo187_0 rfl rfl (zA ?_)
 refine zM 0 sc63 rfl rfl rfl rfl (zA ?_)
 refine zW rfl rfl rfl (H q hU) (subc 2 rfl (sub2 3 4 rfl rfl)) (fun u12 D12 hv12 => ?_)
 obtain ⟨y12, hy12, b12, rfl, rfl⟩ := hv12
 refine zA (zE rfl rfl ?_)
 refine zC (kE [(2, _)] rfl ?_)
 exact zI Tryz.results155 rfl ⟨rfl, y12, hy12, b12, rfl, rfl⟩ nS (sub1 0 rfl)
theorem c155l (ft : DA) (mb : Nat) (G : Gr) (u : Value) (bs : List Nat) (xs : List V) (hl : xs.length ≤ 400000) (hb : All2 (fun b z => Unf G z b) bs xs) (H : ∀ z ∈ xs, C105 ft mb G z) : CtR Tryz.prog 155 #[u] [.fv u (.itL bs), .gr mb G, .tab, ft] (fun u D' => ∃ zs, All2 (fun z x => OutR x z) zs xs ∧ RN (RKids 2 zs) u D') := by
 refine Ct.of_run (args := [u]) Tryz.func155 (by kernel_rfl) rfl Tryz.ntmps155 rfl (fun c => ?_)
 refine run_itL 0 rfl (fun b p sl hu => ?_)
 subst hu
 refine zD (zB ?_)
 refine zA (zE rfl rfl ?_)
 refine zC (zD ?_)
 refine zB (sT ?_)
 refine zA (zH fo187_0 rfl rfl ?_)
 refine zA (zM 0 sc63 rfl rfl rfl rfl ?_)
 refine zA (yF pn63 rfl rfl ?_)
 refine zC (yE rfl (rfl) ?_)
 refine zD (zB ?_)
 refine sT (zA ?_)
 refine zH fo187_1 rfl rfl (zA ?_)
 refine zM 0 sc122 rfl rfl rfl rfl (zA ?_)
 refine yF pn122 rfl rfl (zC ?_)
 refine kE [(17, _), (0, _)] rfl (yG rfl (rfl) ?_)
 refine zD (zB ?_)
 refine sT (zA ?_)
 refine zH fo187_1 rfl rfl (zA ?_)
 refine zM 0 sc122 rfl rfl rfl rfl (zA ?_)
 refine zP rfl rfl (zA ?_)
 refine yV 1 sc137 rfl rfl rfl (zA ?_)
 refine zW rfl rfl rfl (c163 ft mb G sl bs xs hl hb H) (subc 2 rfl (subc 4 rfl (sub2 5 6 rfl rfl))) (fun u24 D24 hv24 => ?_)
 obtain ⟨zs, hz, b24, rfl, rfl⟩ := hv24
 refine zA (zE rfl rfl ?_)
 refine zC (kE [(2, _)] rfl ?_)
 exact zI Tryz.results155 rfl ⟨rfl, zs, hz, b24, rfl, rfl⟩ nS (sub1 0 rfl)
theorem c158 (ft : DA) (mb : Nat) (G : Gr) (x : Value) (l : List (ByteArray × Nat)) (ps : List (ByteArray × V)) (hl : ps.length ≤ 400000) (hb : All2 (URel G) l ps) (H : ∀ p ∈ ps, C105 ft mb G p.2) : CtR Tryz.prog 158 #[x] [.fv x (.named l), .gr mb G, .tab, ft] (fun u D' => ∃ L : List (ByteArray × Y), All2 (fun q p => q.1 = p.1 ∧ OutR p.2 q.2) L ps ∧ RN (RKids 4 (L.flatMap prY)) u D') := by
 refine Ct.of_run (args := [x]) Tryz.func158 (by kernel_rfl) rfl Tryz.ntmps158 rfl (fun c => ?_)
 refine run_named 0 rfl (fun p sl nbs hx => ?_)
 subst hx
 refine run_rowp 1 rfl (fun A1 c1 hx hk1 hk2 => ?_)
 subst hx
 refine run_namLen 2 rfl (fun hnl => ?_)
 unfold maxLen at hk2
 have hbl := hb.1
 refine zD (zB ?_)
 refine zA (zE rfl rfl ?_)
 refine zC (zD ?_)
 refine zB (zA ?_)
 refine wF sl148 rfl rfl rfl (fun b6 => ?_)
 refine zA (zE rfl rfl ?_)
 refine zC (zD ?_)
 refine zD (zB ?_)
 refine sT (zA ?_)
 refine yV 0 sc110 rfl rfl rfl (zA ?_)
 refine yU sl110 rfl rfl (zA ?_)
 refine zF rfl rfl (zC ?_)
 refine zN (kE [(11, _), (3, _), (10, _), (9, _)] rfl ?_)
 refine qF (xU 2 (fun (⟨i, m, A, ca, xs1, L⟩ : Nat × Nat × Option Addr × Nat × List Value × List (ByteArray × Y)) => i ≤ nbs.length ∧ m = 2 * i ∧ All2 (fun (q : ByteArray × Y) (p : ByteArray × V) => q.1 = p.1 ∧ OutR p.2 q.2) L (ps.take i)) (fun (⟨i, m, A, ca, xs1, L⟩ : Nat × Nat × Option Addr × Nat × List Value × List (ByteArray × Y)) => [(11, .int .i64 ((i : Nat) : Int)), (3, .slice A m ca)]) (fun (⟨i, m, A, ca, xs1, L⟩ : Nat × Nat × Option Addr × Nat × List Value × List (ByteArray × Y)) => HA.row A m ca 102 1 xs1 :: []) (fun (⟨i, m, A, ca, xs1, L⟩ : Nat × Nat × Option Addr × Nat × List Value × List (ByteArray × Y)) => .ptrs xs1 (L.flatMap prY) :: .pts p (.slice A1 nbs.length c1) :: .rowp (.slice A1 nbs.length c1) nbs :: .nam nbs l :: .fv (.pointer (some p)) (.named l) :: .gr mb G :: .tab :: ft :: []) (fun (⟨i, m, A, ca, xs1, L⟩ : Nat × Nat × Option Addr × Nat × List Value × List (ByteArray × Y)) => nbs.length - i) (0, 0, _, _, [], []) (⟨by show 0 ≤ _; omega, rfl, All2.nil _⟩) (eC rfl (eC rfl (eN _))) rfl rfl ?_ (eC rfl (eC rfl (eN _))))
 intro ⟨i, m, A, ca, xs1, L⟩ hI K hK
 replace hI : i ≤ nbs.length ∧ m = 2 * i ∧ All2 (fun (q : ByteArray × Y) (p : ByteArray × V) => q.1 = p.1 ∧ OutR p.2 q.2) L (ps.take i) := hI
 change Run _ _ _ _ _ [(11, .int .i64 ((i : Nat) : Int)), (3, .slice A m ca), (10, _), (9, _)] (HA.row A m ca 102 1 xs1 :: []) (.ptrs xs1 (L.flatMap prY) :: .pts p (.slice A1 nbs.length c1) :: .rowp (.slice A1 nbs.length c1) nbs :: .nam nbs l :: .fv (.pointer (some p)) (.named l) :: .gr mb G :: .tab :: ft :: [])
 obtain ⟨hi, hm, hall⟩ := hI
 refine zD (zB ?_)
 refine zA (xT rfl rfl rfl ?_)
 refine zC (zD ?_)
 refine zS rfl (fun h12 => ?_) (fun h12 => ?_)
 ·refine zJ (zD ?_)
  refine zN (zD ?_)
  refine zB (zA ?_)
  refine op_idxRowp 2 sl110 rfl rfl rfl rfl h12 ?_
  have hlt : i < nbs.length := h12
  have hll : i < l.length := by omega
  have hlx : i < ps.length := by omega
  refine ops_nam 3 i rfl (List.getElem?_eq_getElem hll) (List.getElem?_eq_getElem hlt) (fun hks => ?_)
  refine zA (xO sc125 rfl rfl (fun _ h => rowp_cell h (j := 3) rfl (List.getElem?_eq_getElem hlt)) ?_)
  refine zA (zE rfl rfl ?_)
  refine zC (xX xE ?_)
  refine yJ (tP 0 rfl wanted0 (yO rfl) ?_)
  refine tP 1 rfl wanted0 (yO rfl) (tP 2 rfl wanted0 (wG rfl) ?_)
  refine tP 3 rfl wanted0 (yN fo179_0 rfl) (tP 5 rfl wanted0 (yO rfl) ?_)
  refine tP 6 rfl wanted0 (wG rfl) (tP 7 rfl wanted0 (yN fo179_1 rfl) ?_)
  refine yZ (tM 4 rfl wanted0 (tE 0 sc9 rfl rfl rfl) ?_)
  refine tM 8 rfl wanted0 (tE 0 sc63 rfl rfl rfl) (yA 9 (by decide +kernel) ?_)
  refine yC (I2 := [[4], [3, 2, 1, 0], []]) rfl wanted0 (by decide +kernel) (fun Kd hKd => ?_)
  refine zW rfl rfl rfl (H _ (List.getElem_mem hlx) _ (hb.2 i _ _ (List.getElem?_eq_getElem hll) (List.getElem?_eq_getElem hlx)).2) (subc 6 rfl (sub2 7 8 rfl rfl)) (fun u24 D24 hv24 => ?_)
  obtain ⟨y24, hy24, b24, rfl, rfl⟩ := hv24
  refine hKd _ _ _ (hC (hC (zL (yD)))) (yA 10 (by decide +kernel) ?_)
  refine yC (I2 := [[], [], []]) rfl wanted0 (by decide +kernel) (fun Kd hKd => ?_)
  refine yR 0 rfl rfl rfl (c150 _ _ _ _ _ _ hks (by omega)) rfl sub0 (fun u25 M25 D25 hv25 => ?_)
  obtain ⟨A25, c25, b25, rfl, rfl, rfl⟩ := hv25
  refine hKd _ _ _ (zL (zL (zL (yD)))) (yJ ?_)
  refine tP 11 rfl wanted0 (xZ rfl) (xF (by decide +kernel) ?_)
  refine kE [(3, _), (11, _), (10, _), (9, _)] rfl (zQ ?_)
  refine zB (zA ?_)
  refine xH rfl rfl (by omega) (zA ?_)
  refine zF rfl rfl (zC ?_)
  refine yT 3 0 1 rfl rfl rfl ?_
  exact kQ (hK (i + 1, _, _, _, _, L ++ [((l[i]'hll).1, y24)]) (⟨by show i + 1 ≤ _; omega, by show m + 2 = 2 * (i + 1); omega, qI hlx hall ⟨(hb.2 i _ _ (List.getElem?_eq_getElem hll) (List.getElem?_eq_getElem hlx)).1, hy24⟩⟩) (by show nbs.length - (i + 1) < nbs.length - i; omega)) (eC rfl (eC rfl (eC rfl (eC rfl (eN _))))) (hD := (subc 0 rfl sQ))
 obtain rfl : i = nbs.length := by omega
 rw [hnl, hb.1, List.take_length] at hall
 refine uQ 0 0 _ rfl rfl (by intro b h; cases h) (yK rfl ?_)
 refine zD (zB ?_)
 refine zA (zF rfl rfl ?_)
 refine zA (zW rfl rfl rfl (c186 _ _ _ _) (sub1 0 rfl) (fun u28 D28 hv28 => ?_))
 obtain ⟨b28, rfl, rfl⟩ := hv28
 refine zA (zE rfl rfl ?_)
 exact zC (zI Tryz.results158 rfl ⟨rfl, L, hall, b28, rfl, rfl⟩ nS (sub1 0 rfl))
theorem c187 (tb : Nat) (p2 : Addr) (sl2 : Value) (l : List ByteArray) (hl : l.length ≤ 1000000) : CtR Tryz.prog 187 #[ptr tb] [.dblk tb [.pointer none, .pointer (some p2)] 194, .pts p2 sl2, .strs sl2 l] (RN (RKids 2 (l.map (scal tStr)))) := by
 refine Ct.of_run (args := [ptr tb]) Tryz.func187 (by kernel_rfl) rfl Tryz.ntmps187 rfl (fun c => ?_)
 refine zD (zB ?_)
 refine zA (zE rfl rfl ?_)
 refine zC (zD ?_)
 refine zB (sT ?_)
 refine zA (zH fo194_0 rfl rfl ?_)
 refine zA (zM 0 sc63 rfl rfl rfl rfl ?_)
 refine zA (yF pn63 rfl rfl ?_)
 refine zC (yE rfl (rfl) ?_)
 refine zD (zB ?_)
 refine sT (zA ?_)
 refine zH fo194_1 rfl rfl (zA ?_)
 refine zM 0 sc117 rfl rfl rfl rfl (zA ?_)
 refine yF pn117 rfl rfl (zC ?_)
 refine kE [(17, _), (0, _)] rfl (yG rfl (rfl) ?_)
 refine zD (zB ?_)
 refine sT (zA ?_)
 refine zH fo194_1 rfl rfl (zA ?_)
 refine zM 0 sc117 rfl rfl rfl rfl (zA ?_)
 refine zP rfl rfl (zA ?_)
 refine yV 1 sc22 rfl rfl rfl (zA ?_)
 refine zW rfl rfl rfl (c156 _ l hl) (sub1 2 rfl) (fun u24 D24 hv24 => ?_)
 obtain ⟨b24, rfl, rfl⟩ := hv24
 refine zA (zE rfl rfl ?_)
 refine zC (kE [(2, _)] rfl ?_)
 exact zI Tryz.results187 rfl ⟨rfl, b24, rfl, rfl⟩ nS (sub1 0 rfl)
theorem c159 (x : Value) (l : List (ByteArray × List ByteArray)) (hl : l.length ≤ 400000) (hls : ∀ q ∈ l, q.2.length ≤ 1000000) : CtR Tryz.prog 159 #[x] [.fv x (.deps l)] (RN (RKids 4 ((l.map (fun q => (q.1, RKids 2 (q.2.map (scal tStr))))).flatMap prY))) := by
 refine Ct.of_run (args := [x]) Tryz.func159 (by kernel_rfl) rfl Tryz.ntmps159 rfl (fun c => ?_)
 refine run_deps 0 rfl (fun p sl nbs hx => ?_)
 subst hx
 refine run_rowp 1 rfl (fun A1 c1 hx hk1 hk2 => ?_)
 subst hx
 refine run_depLen 2 rfl (fun hnl => ?_)
 unfold maxLen at hk2
 refine zD (zB ?_)
 refine zA (zE rfl rfl ?_)
 refine zC (zD ?_)
 refine zB (zA ?_)
 refine wF sl148 rfl rfl rfl (fun b6 => ?_)
 refine zA (zE rfl rfl ?_)
 refine zC (zD ?_)
 refine zD (zB ?_)
 refine sT (zA ?_)
 refine yV 0 sc188 rfl rfl rfl (zA ?_)
 refine yU sl188 rfl rfl (zA ?_)
 refine zF rfl rfl (zC ?_)
 refine zN (kE [(11, _), (3, _), (10, _), (9, _)] rfl ?_)
 refine qF (xU 2 (fun (⟨i, m, A, ca, xs1⟩ : Nat × Nat × Option Addr × Nat × List Value) => i ≤ nbs.length ∧ m = 2 * i) (fun (⟨i, m, A, ca, xs1⟩ : Nat × Nat × Option Addr × Nat × List Value) => [(11, .int .i64 ((i : Nat) : Int)), (3, .slice A m ca)]) (fun (⟨i, m, A, ca, xs1⟩ : Nat × Nat × Option Addr × Nat × List Value) => HA.row A m ca 102 1 xs1 :: []) (fun (⟨i, m, A, ca, xs1⟩ : Nat × Nat × Option Addr × Nat × List Value) => .ptrs xs1 (((l.take i).map (fun q => (q.1, RKids 2 (q.2.map (scal tStr))))).flatMap prY) :: .pts p (.slice A1 nbs.length c1) :: .rowp (.slice A1 nbs.length c1) nbs :: .dep nbs l :: .fv (.pointer (some p)) (.deps l) :: []) (fun (⟨i, m, A, ca, xs1⟩ : Nat × Nat × Option Addr × Nat × List Value) => nbs.length - i) (0, 0, _, _, []) (⟨by show 0 ≤ _; omega, rfl⟩) (eC rfl (eC rfl (eN _))) rfl rfl ?_ (eC rfl (eC rfl (eN _))))
 intro ⟨i, m, A, ca, xs1⟩ hI K hK
 replace hI : i ≤ nbs.length ∧ m = 2 * i := hI
 change Run _ _ _ _ _ [(11, .int .i64 ((i : Nat) : Int)), (3, .slice A m ca), (10, _), (9, _)] (HA.row A m ca 102 1 xs1 :: []) (.ptrs xs1 (((l.take i).map (fun q => (q.1, RKids 2 (q.2.map (scal tStr))))).flatMap prY) :: .pts p (.slice A1 nbs.length c1) :: .rowp (.slice A1 nbs.length c1) nbs :: .dep nbs l :: .fv (.pointer (some p)) (.deps l) :: [])
 obtain ⟨hi, hm⟩ := hI
 refine zD (zB ?_)
 refine zA (xT rfl rfl rfl ?_)
 refine zC (zD ?_)
 refine zS rfl (fun h12 => ?_) (fun h12 => ?_)
 ·refine zJ (zD ?_)
  refine zN (zD ?_)
  refine zB (zA ?_)
  refine op_idxRowp 2 sl188 rfl rfl rfl rfl h12 ?_
  have hlt : i < nbs.length := h12
  have hll : i < l.length := by omega
  refine ops_dep 3 i rfl (List.getElem?_eq_getElem hll) (List.getElem?_eq_getElem hlt) (fun tb p2 sl2 hks => ?_)
  refine zA (xO sc189 rfl rfl (fun _ h => rowp_cell h (j := 6) rfl (List.getElem?_eq_getElem hlt)) ?_)
  refine zA (zE rfl rfl ?_)
  refine zC (xX xE ?_)
  refine yJ (tP 0 rfl wanted0 (yO rfl) ?_)
  refine tP 1 rfl wanted0 (yO rfl) (tP 2 rfl wanted0 (wG rfl) ?_)
  refine tP 3 rfl wanted0 (yN fo192_0 rfl) (tP 5 rfl wanted0 (yO rfl) ?_)
  refine tP 6 rfl wanted0 (wG rfl) (tP 7 rfl wanted0 (yN fo192_1 rfl) ?_)
  refine yZ (tM 4 rfl wanted0 (tE 0 sc9 rfl rfl rfl) ?_)
  refine tM 8 rfl wanted0 (tE 0 sc190 rfl rfl rfl) (yA 9 (by decide +kernel) ?_)
  refine yC (I2 := [[4], [3, 2, 1, 0], []]) rfl wanted0 (by decide +kernel) (fun Kd hKd => ?_)
  refine zW rfl rfl rfl (c187 _ _ _ _ (hls _ (List.getElem_mem hll))) (subc 1 rfl (sub2 2 3 rfl rfl)) (fun u24 D24 hv24 => ?_)
  obtain ⟨b24, rfl, rfl⟩ := hv24
  refine hKd _ _ _ (hC (hC (zL (yD)))) (yA 10 (by decide +kernel) ?_)
  refine yC (I2 := [[], [], []]) rfl wanted0 (by decide +kernel) (fun Kd hKd => ?_)
  refine yR 0 rfl rfl rfl (c150 _ _ _ _ _ _ hks (by omega)) rfl sub0 (fun u25 M25 D25 hv25 => ?_)
  obtain ⟨A25, c25, b25, rfl, rfl, rfl⟩ := hv25
  refine hKd _ _ _ (zL (zL (zL (yD)))) (yJ ?_)
  refine tP 11 rfl wanted0 (xZ rfl) (xF (by decide +kernel) ?_)
  refine kE [(3, _), (11, _), (10, _), (9, _)] rfl (zQ ?_)
  refine zB (zA ?_)
  refine xH rfl rfl (by omega) (zA ?_)
  refine zF rfl rfl (zC ?_)
  refine yT 6 0 1 rfl rfl rfl ?_
  rw [tD (f := fun q : ByteArray × List ByteArray => (q.1, RKids 2 (q.2.map (scal tStr)))) hll]
  exact kQ (hK (i + 1, _, _, _, _) (⟨by show i + 1 ≤ _; omega, by show m + 2 = 2 * (i + 1); omega⟩) (by show nbs.length - (i + 1) < nbs.length - i; omega)) (eC rfl (eC rfl (eC rfl (eC rfl (eN _))))) (hD := (subc 0 rfl sQ))
 obtain rfl : i = nbs.length := by omega
 rw [hnl, List.take_length]
 refine uQ 0 0 _ rfl rfl (by intro b h; cases h) (yK rfl ?_)
 refine zD (zB ?_)
 refine zA (zF rfl rfl ?_)
 refine zA (zW rfl rfl rfl (c186 _ _ _ _) (sub1 0 rfl) (fun u28 D28 hv28 => ?_))
 obtain ⟨b28, rfl, rfl⟩ := hv28
 refine zA (zE rfl rfl ?_)
 exact zC (zI Tryz.results159 rfl ⟨rfl, b28, rfl, rfl⟩ nS (sub1 0 rfl))
theorem c160i (u : Value) (n : Int) (h0 : -9223372036854775808 ≤ n) (h1 : n ≤ 9223372036854775807) : CtR Tryz.prog 160 #[u] [.fv u (.numI n), .tab] (RN (scal tInt (itoaB n))) := by
 refine Ct.of_run (args := [u]) Tryz.func160 (by kernel_rfl) rfl Tryz.ntmps160 rfl (fun c => ?_)
 refine run_numI 0 rfl (fun b p hu => ?_)
 subst hu
 refine zD (zB ?_)
 refine zA (zE rfl rfl ?_)
 refine zC (zD ?_)
 refine zB (sT ?_)
 refine zA (zH fo213_0 rfl rfl ?_)
 refine zA (zM 0 sc114 rfl rfl rfl rfl ?_)
 refine zA (yF pn114 rfl rfl ?_)
 refine zC (yG rfl (rfl) ?_)
 refine zD (zB ?_)
 refine sT (zA ?_)
 refine zH fo213_0 rfl rfl (zA ?_)
 refine zM 0 sc114 rfl rfl rfl rfl (zA ?_)
 refine zP rfl rfl (zA ?_)
 refine yV 1 sc2 rfl rfl rfl (zA ?_)
 refine zW rfl rfl rfl (c161 n h0 h1) (sub1 3 rfl) (fun u14 D14 hv14 => ?_)
 obtain ⟨b14, rfl, rfl⟩ := hv14
 refine zA (zE rfl rfl ?_)
 refine zC (kE [(2, _)] rfl ?_)
 exact zI Tryz.results160 rfl ⟨rfl, b14, rfl, rfl⟩ nS (sub1 0 rfl)
theorem c160f (ft : DA) (u : Value) (f : Nat) (y : Y) (H : CtR Tryz.prog 188 #[.float .f64 f] [ft] (RN y)) : CtR Tryz.prog 160 #[u] [.fv u (.numF f), ft] (RN y) := by
 refine Ct.of_run (args := [u]) Tryz.func160 (by kernel_rfl) rfl Tryz.ntmps160 rfl (fun c => ?_)
 refine run_numF 0 rfl (fun b p hu => ?_)
 subst hu
 refine zD (zB ?_)
 refine zA (zE rfl rfl ?_)
 refine zC (zD ?_)
 refine zB (sT ?_)
 refine zA (zH fo213_0 rfl rfl ?_)
 refine zA (zM 0 sc114 rfl rfl rfl rfl ?_)
 refine zA (yF pn114 rfl rfl ?_)
 refine zC (yE rfl (rfl) ?_)
 refine zD (zB ?_)
 refine sT (zA ?_)
 refine zH fo213_1 rfl rfl (zA ?_)
 refine zM 0 sc211 rfl rfl rfl rfl (zA ?_)
 refine yF pn211 rfl rfl (zC ?_)
 refine kE [(19, _), (0, _)] rfl (yG rfl (rfl) ?_)
 refine zD (zB ?_)
 refine sT (zA ?_)
 refine zH fo213_1 rfl rfl (zA ?_)
 refine zM 0 sc211 rfl rfl rfl rfl (zA ?_)
 refine zP rfl rfl (zA ?_)
 refine yV 1 sc214 rfl rfl rfl (zA ?_)
 refine zW rfl rfl rfl (H) (sub1 3 rfl) (fun u26 D26 hv26 => ?_)
 obtain ⟨b26, rfl, rfl⟩ := hv26
 refine zA (zE rfl rfl ?_)
 refine zC (kE [(2, _)] rfl ?_)
 exact zI Tryz.results160 rfl ⟨rfl, b26, rfl, rfl⟩ nS (sub1 0 rfl)
theorem c189s (b : Nat) (p : Addr) (s : ByteArray) (hs : s.size ≤ maxLen) : Ct Tryz.prog 189 #[ptr b] [.blk b [.pointer (some p), .pointer none] 223] [.pts p (.string s)] (fun u M' D' => M' = [] ∧ RN (scal tStr s) u D') := by
 refine Ct.of_run (args := [ptr b]) Tryz.func189 (by kernel_rfl) rfl Tryz.ntmps189 rfl (fun c => ?_)
 refine zD (zB ?_)
 refine zA (zE rfl rfl ?_)
 refine zC (zD ?_)
 refine zB (sT ?_)
 refine zA (zH fo223_0 rfl rfl ?_)
 refine zA (zT 0 sc111 rfl rfl rfl rfl ?_)
 refine zA (yF pn111 rfl rfl ?_)
 refine zC (yG rfl (rfl) ?_)
 refine zD (zB ?_)
 refine sT (zA ?_)
 refine zH fo223_0 rfl rfl (zA ?_)
 refine zT 0 sc111 rfl rfl rfl rfl (zA ?_)
 refine zP rfl rfl (zA ?_)
 refine yV 0 sc9 rfl rfl rfl (zA ?_)
 refine zW rfl rfl rfl (c151 s hs) sub0 (fun u14 D14 hv14 => ?_)
 obtain ⟨b14, rfl, rfl⟩ := hv14
 refine zA (zE rfl rfl ?_)
 refine zC (kE [(2, _)] rfl ?_)
 exact zI Tryz.results189 rfl ⟨rfl, b14, rfl, rfl⟩ nS (sub1 0 rfl)
theorem c189b (b : Nat) (p : Addr) (s : Bool) : Ct Tryz.prog 189 #[ptr b] [.blk b [.pointer none, .pointer (some p)] 223] [.pts p (.bool s)] (fun u M' D' => M' = [] ∧ RN (scal tBool (fbB s)) u D') := by
 refine Ct.of_run (args := [ptr b]) Tryz.func189 (by kernel_rfl) rfl Tryz.ntmps189 rfl (fun c => ?_)
 refine zD (zB ?_)
 refine zA (zE rfl rfl ?_)
 refine zC (zD ?_)
 refine zB (sT ?_)
 refine zA (zH fo223_0 rfl rfl ?_)
 refine zA (zT 0 sc111 rfl rfl rfl rfl ?_)
 refine zA (yF pn111 rfl rfl ?_)
 refine zC (yE rfl (rfl) ?_)
 refine zD (zB ?_)
 refine sT (zA ?_)
 refine zH fo223_1 rfl rfl (zA ?_)
 refine zT 0 sc112 rfl rfl rfl rfl (zA ?_)
 refine yF pn112 rfl rfl (zC ?_)
 refine kE [(19, _), (0, _)] rfl (yG rfl (rfl) ?_)
 refine zD (zB ?_)
 refine sT (zA ?_)
 refine zH fo223_1 rfl rfl (zA ?_)
 refine zT 0 sc112 rfl rfl rfl rfl (zA ?_)
 refine zP rfl rfl (zA ?_)
 refine yV 0 sc4 rfl rfl rfl (zA ?_)
 refine zW rfl rfl rfl (c153 s) sub0 (fun u26 D26 hv26 => ?_)
 obtain ⟨b26, rfl, rfl⟩ := hv26
 refine zA (zE rfl rfl ?_)
 refine zC (kE [(2, _)] rfl ?_)
 exact zI Tryz.results189 rfl ⟨rfl, b26, rfl, rfl⟩ nS (sub1 0 rfl)
theorem c189 (b : Nat) (x : EV) (q q' : Option Addr) : Ct Tryz.prog 189 #[ptr b] [.blk b [.pointer q, .pointer q'] 223] [.ev x (.pointer q) (.pointer q')] (fun u M' D' => M' = [] ∧ RN (evY x) u D') := by
  refine ⟨(c189b b ⟨0, 0, none⟩ true).1, fun w ok hok hM hn hD => ?_⟩
  have h := hD _ List.mem_cons_self
  cases x with
  | str s =>
    obtain ⟨p, h1, h2, h3, h4⟩ : EvP w ok (.str s) (.pointer q) (.pointer q') := h
    cases h1; cases h2
    exact (c189s b p s h3).2 w ok hok hM hn (fun d hd => by rw [List.mem_singleton.1 hd]; exact h4)
  | bool s =>
    obtain ⟨p, h1, h2, h4⟩ : EvP w ok (.bool s) (.pointer q) (.pointer q') := h
    cases h1; cases h2
    exact (c189b b p s).2 w ok hok hM hn (fun d hd => by rw [List.mem_singleton.1 hd]; exact h4)
theorem c162 (x : Value) (l : List EV) (hl : l.length ≤ 400000) : CtR Tryz.prog 162 #[x] [.fv x (.enums l)] (RN (RKids 2 (l.map evY))) := by
 refine Ct.of_run (args := [x]) Tryz.func162 (by kernel_rfl) rfl Tryz.ntmps162 rfl (fun c => ?_)
 refine run_enums 0 rfl (fun p A1 c1 hx hk1 hk2 => ?_)
 subst hx
 unfold maxLen at hk2
 refine zD (zB ?_)
 refine zA (zE rfl rfl ?_)
 refine zC (zD ?_)
 refine zB (zA ?_)
 refine wF sl148 rfl rfl rfl (fun b6 => ?_)
 refine zA (zE rfl rfl ?_)
 refine zC (zD ?_)
 refine zD (zB ?_)
 refine sT (zA ?_)
 refine yV 0 sc221 rfl rfl rfl (zA ?_)
 refine yU sl221 rfl rfl (zA ?_)
 refine zF rfl rfl (zC ?_)
 refine zN (kE [(11, _), (3, _), (10, _), (9, _)] rfl ?_)
 refine xI (.ptrs [] ((l.take 0).map evY)) (fun w ok h => rfl) ?_
 refine xU 2 (fun (⟨i, A, ca, xs1⟩ : Nat × Option Addr × Nat × List Value) => i ≤ l.length) (fun (⟨i, A, ca, xs1⟩ : Nat × Option Addr × Nat × List Value) => [(11, .int .i64 ((i : Nat) : Int)), (3, .slice A i ca)]) (fun (⟨i, A, ca, xs1⟩ : Nat × Option Addr × Nat × List Value) => HA.row A i ca 102 1 xs1 :: []) (fun (⟨i, A, ca, xs1⟩ : Nat × Option Addr × Nat × List Value) => .ptrs xs1 ((l.take i).map evY) :: .pts p (.slice A1 l.length c1) :: .evrow A1 c1 l :: .fv (.pointer (some p)) (.enums l) :: []) (fun (⟨i, A, ca, xs1⟩ : Nat × Option Addr × Nat × List Value) => l.length - i) (0, _, _, []) (by show 0 ≤ _; omega) (eC rfl (eC rfl (eN _))) rfl rfl ?_ (eC rfl (eC rfl (eN _)))
 intro ⟨i, A, ca, xs1⟩ hI K hK
 replace hI : i ≤ l.length := hI
 change Run _ _ _ _ _ [(11, .int .i64 ((i : Nat) : Int)), (3, .slice A i ca), (10, _), (9, _)] (HA.row A i ca 102 1 xs1 :: []) (.ptrs xs1 ((l.take i).map evY) :: .pts p (.slice A1 l.length c1) :: .evrow A1 c1 l :: .fv (.pointer (some p)) (.enums l) :: [])
 refine zD (zB ?_)
 refine zA (xT rfl rfl rfl ?_)
 refine zC (zD ?_)
 refine zS rfl (fun h12 => ?_) (fun h12 => ?_)
 ·refine zJ (zD ?_)
  refine zN (zD ?_)
  refine zB (zA ?_)
  refine op_idxEv 2 sl221 rfl rfl rfl rfl h12 rfl ?_
  have hlt : i < l.length := h12
  refine ops_ev 2 i rfl (List.getElem?_eq_getElem hlt) (fun q1 q2 => ?_)
  refine zA (op_loadC 0 ag223 rfl rfl rfl ?_)
  refine zA (yM ze223 rfl (fun b5 => ?_))
  change RunOps _ _ _ _ _ _ _ _ (HA.blk _ [_, _] _ :: _) _
  refine zA (zR 0 (M' := [HA.blk _ [_, _] _, _]) rfl rfl rfl rfl si223 rfl rfl rfl ?_)
  refine zC (zB ?_)
  refine zA (zF rfl rfl ?_)
  refine zA (yR 0 rfl rfl rfl (c189 _ _ _ _) rfl (sub1 1 rfl) (fun u16 M16 D16 hv16 => ?_))
  obtain ⟨rfl, b16, rfl, rfl⟩ := hv16
  refine zA (zZ sl148 rfl rfl rfl rfl rfl (fun b17 => ?_))
  refine zA ?_
  refine yL 1 0 sl148 rfl rfl rfl rfl rfl rfl rfl (by unfold maxLen; omega) (by omega) (fun A18 c18 => ?_)
  refine zA (zE rfl rfl ?_)
  refine zC (zQ ?_)
  refine zB (zA ?_)
  refine xH rfl rfl (by omega) (zA ?_)
  refine zF rfl rfl (zC ?_)
  refine kE [(11, _), (3, _), (10, _), (9, _)] rfl (vO 3 0 rfl rfl ?_)
  rw [tD]
  exact kQ (hK (i + 1, _, _, _) (by show i + 1 ≤ _; omega) (by show l.length - (i + 1) < l.length - i; omega)) (eC rfl (eC rfl (eC rfl (eC rfl (eN _))))) (hD := (subc 0 rfl sQ))
 obtain rfl : i = l.length := by omega
 rw [List.take_length]
 refine uQ 0 0 _ rfl rfl (by intro b h; cases h) (yK rfl ?_)
 refine zD (zB ?_)
 refine zA (zF rfl rfl ?_)
 refine zA (zW rfl rfl rfl (c185 _ _ _ _) (sub1 0 rfl) (fun u21 D21 hv21 => ?_))
 obtain ⟨b21, rfl, rfl⟩ := hv21
 refine zA (zE rfl rfl ?_)
 exact zC (zI Tryz.results162 rfl ⟨rfl, b21, rfl, rfl⟩ nS (sub1 0 rfl))
end Go.Jw

namespace Go.Jw
open Go Go.RowKit Go.Proofs
set_option maxRecDepth 8000
def keyOf : Nat → ByteArray
  | 1 => k1
  | 2 => k2
  | 3 => k3
  | 6 => k6
  | 7 => k7
  | 8 => k8
  | 9 => k9
  | 10 => k10
  | 11 => k11
  | 12 => k12
  | 13 => k13
  | 14 => k14
  | 15 => k15
  | 16 => k16
  | 17 => k17
  | 18 => k18
  | 19 => k19
  | 20 => k20
  | 21 => k21
  | 22 => k22
  | 23 => k23
  | 24 => k24
  | 25 => k25
  | 26 => k26
  | 27 => k27
  | 28 => k28
  | 29 => k29
  | 30 => k30
  | 31 => k31
  | 32 => k32
  | 33 => k33
  | 34 => k34
  | 35 => k35
  | 36 => k36
  | _ => ⟨#[]⟩
def kwAll : List Nat := [36, 32, 31, 30, 29, 28, 26, 20, 19, 18, 17, 16, 14, 13, 12, 11, 10, 9, 8, 7, 6, 3, 25, 23, 24, 22, 21, 34, 15, 27, 1, 2, 33]
theorem kw_case {key : ByteArray} : key = keyOf (kwIdx key) ∧ kwIdx key ∈ [35, 36, 32, 31, 30, 29, 28, 26, 20, 19, 18, 17, 16, 14, 13, 12, 11, 10, 9, 8, 7, 6, 3, 25, 23, 24, 22, 21, 34, 15, 27, 1, 2, 33] ∨ kwIdx key = 0 := by
 unfold kwIdx
 by_cases e1 : key = ⟨#[36, 115, 99, 104, 101, 109, 97]⟩
 ·rw [if_pos e1]; exact .inl ⟨e1, by decide⟩
 rw [if_neg e1]
 by_cases e2 : key = ⟨#[105, 100]⟩
 ·rw [if_pos e2]; exact .inl ⟨e2, by decide⟩
 rw [if_neg e2]
 by_cases e6 : key = ⟨#[109, 117, 108, 116, 105, 112, 108, 101, 79, 102]⟩
 ·rw [if_pos e6]; exact .inl ⟨e6, by decide⟩
 rw [if_neg e6]
 by_cases e7 : key = ⟨#[109, 97, 120, 105, 109, 117, 109]⟩
 ·rw [if_pos e7]; exact .inl ⟨e7, by decide⟩
 rw [if_neg e7]
 by_cases e8 : key = ⟨#[101, 120, 99, 108, 117, 115, 105, 118, 101, 77, 97, 120, 105, 109, 117, 109]⟩
 ·rw [if_pos e8]; exact .inl ⟨e8, by decide⟩
 rw [if_neg e8]
 by_cases e9 : key = ⟨#[109, 105, 110, 105, 109, 117, 109]⟩
 ·rw [if_pos e9]; exact .inl ⟨e9, by decide⟩
 rw [if_neg e9]
 by_cases e10 : key = ⟨#[101, 120, 99, 108, 117, 115, 105, 118, 101, 77, 105, 110, 105, 109, 117, 109]⟩
 ·rw [if_pos e10]; exact .inl ⟨e10, by decide⟩
 rw [if_neg e10]
 by_cases e11 : key = ⟨#[109, 97, 120, 76, 101, 110, 103, 116, 104]⟩
 ·rw [if_pos e11]; exact .inl ⟨e11, by decide⟩
 rw [if_neg e11]
 by_cases e12 : key = ⟨#[109, 105, 110, 76, 101, 110, 103, 116, 104]⟩
 ·rw [if_pos e12]; exact .inl ⟨e12, by decide⟩
 rw [if_neg e12]
 by_cases e13 : key = ⟨#[112, 97, 116, 116, 101, 114, 110]⟩
 ·rw [if_pos e13]; exact .inl ⟨e13, by decide⟩
 rw [if_neg e13]
 by_cases e14 : key = ⟨#[97, 100, 100, 105, 116, 105, 111, 110, 97, 108, 73, 116, 101, 109, 115]⟩
 ·rw [if_pos e14]; exact .inl ⟨e14, by decide⟩
 rw [if_neg e14]
 by_cases e15 : key = ⟨#[105, 116, 101, 109, 115]⟩
 ·rw [if_pos e15]; exact .inl ⟨e15, by decide⟩
 rw [if_neg e15]
 by_cases e16 : key = ⟨#[109, 97, 120, 73, 116, 101, 109, 115]⟩
 ·rw [if_pos e16]; exact .inl ⟨e16, by decide⟩
 rw [if_neg e16]
 by_cases e17 : key = ⟨#[109, 105, 110, 73, 116, 101, 109, 115]⟩
 ·rw [if_pos e17]; exact .inl ⟨e17, by decide⟩
 rw [if_neg e17]
 by_cases e18 : key = ⟨#[117, 110, 105, 113, 117, 101, 73, 116, 101, 109, 115]⟩
 ·rw [if_pos e18]; exact .inl ⟨e18, by decide⟩
 rw [if_neg e18]
 by_cases e19 : key = ⟨#[109, 97, 120, 80, 114, 111, 112, 101, 114, 116, 105, 101, 115]⟩
 ·rw [if_pos e19]; exact .inl ⟨e19, by decide⟩
 rw [if_neg e19]
 by_cases e20 : key = ⟨#[109, 105, 110, 80, 114, 111, 112, 101, 114, 116, 105, 101, 115]⟩
 ·rw [if_pos e20]; exact .inl ⟨e20, by decide⟩
 rw [if_neg e20]
 by_cases e21 : key = ⟨#[114, 101, 113, 117, 105, 114, 101, 100]⟩
 ·rw [if_pos e21]; exact .inl ⟨e21, by decide⟩
 rw [if_neg e21]
 by_cases e22 : key = ⟨#[97, 100, 100, 105, 116, 105, 111, 110, 97, 108, 80, 114, 111, 112, 101, 114, 116, 105, 101, 115]⟩
 ·rw [if_pos e22]; exact .inl ⟨e22, by decide⟩
 rw [if_neg e22]
 by_cases e23 : key = ⟨#[112, 114, 111, 112, 101, 114, 116, 105, 101, 115]⟩
 ·rw [if_pos e23]; exact .inl ⟨e23, by decide⟩
 rw [if_neg e23]
 by_cases e24 : key = ⟨#[112, 97, 116, 116, 101, 114, 110, 80, 114, 111, 112, 101, 114, 116, 105, 101, 115]⟩
 ·rw [if_pos e24]; exact .inl ⟨e24, by decide⟩
 rw [if_neg e24]
 by_cases e25 : key = ⟨#[100, 101, 112, 101, 110, 100, 101, 110, 99, 105, 101, 115]⟩
 ·rw [if_pos e25]; exact .inl ⟨e25, by decide⟩
 rw [if_neg e25]
 by_cases e26 : key = ⟨#[101, 110, 117, 109]⟩
 ·rw [if_pos e26]; exact .inl ⟨e26, by decide⟩
 rw [if_neg e26]
 by_cases e27 : key = ⟨#[116, 121, 112, 101]⟩
 ·rw [if_pos e27]; exact .inl ⟨e27, by decide⟩
 rw [if_neg e27]
 by_cases e28 : key = ⟨#[97, 108, 108, 79, 102]⟩
 ·rw [if_pos e28]; exact .inl ⟨e28, by decide⟩
 rw [if_neg e28]
 by_cases e29 : key = ⟨#[97, 110, 121, 79, 102]⟩
 ·rw [if_pos e29]; exact .inl ⟨e29, by decide⟩
 rw [if_neg e29]
 by_cases e30 : key = ⟨#[111, 110, 101, 79, 102]⟩
 ·rw [if_pos e30]; exact .inl ⟨e30, by decide⟩
 rw [if_neg e30]
 by_cases e31 : key = ⟨#[110, 111, 116]⟩
 ·rw [if_pos e31]; exact .inl ⟨e31, by decide⟩
 rw [if_neg e31]
 by_cases e32 : key = ⟨#[100, 101, 102, 105, 110, 105, 116, 105, 111, 110, 115]⟩
 ·rw [if_pos e32]; exact .inl ⟨e32, by decide⟩
 rw [if_neg e32]
 by_cases e33 : key = ⟨#[116, 105, 116, 108, 101]⟩
 ·rw [if_pos e33]; exact .inl ⟨e33, by decide⟩
 rw [if_neg e33]
 by_cases e34 : key = ⟨#[100, 101, 115, 99, 114, 105, 112, 116, 105, 111, 110]⟩
 ·rw [if_pos e34]; exact .inl ⟨e34, by decide⟩
 rw [if_neg e34]
 by_cases e35 : key = ⟨#[100, 101, 102, 97, 117, 108, 116]⟩
 ·rw [if_pos e35]; exact .inl ⟨e35, by decide⟩
 rw [if_neg e35]
 by_cases e36 : key = ⟨#[102, 111, 114, 109, 97, 116]⟩
 ·rw [if_pos e36]; exact .inl ⟨e36, by decide⟩
 rw [if_neg e36]
 by_cases e3 : key = ⟨#[36, 114, 101, 102]⟩
 ·rw [if_pos e3]; exact .inl ⟨e3, by decide⟩
 rw [if_neg e3]
 exact .inr rfl
theorem kw_key {key : ByteArray} {q : Nat} (h : kwIdx key = q) (h0 : q ≠ 0) : key = keyOf q := by
 subst h
 exact kw_case.elim (fun h => h.1) (fun h => absurd h h0)
theorem kw_mem {key : ByteArray} (h0 : kwIdx key ≠ 0) (h35 : kwIdx key ≠ 35) : kwIdx key ∈ kwAll := by
 rcases kw_case (key := key) with h | h
 ·exact (List.mem_cons.1 h.2).elim (fun e => absurd e h35) id
 ·exact absurd h h0
theorem kw_range {key : ByteArray} (h0 : kwIdx key ≠ 0) : 1 ≤ kwIdx key ∧ kwIdx key ≤ 36 := by
 rcases kw_case (key := key) with h | h
 ·have := h.2
  generalize kwIdx key = q at this
  simp only [List.mem_cons, List.not_mem_nil, or_false] at this
  omega
 ·exact absurd h h0
theorem kw_inj {a b : ByteArray} (h : kwIdx a = kwIdx b) (h0 : kwIdx a ≠ 0) : a = b := (kw_key rfl h0).trans (by rw [h]; exact (kw_key rfl (by rwa [← h])).symm)
structure WI (v : V) (f : Flds) (qs : List Nat) (L : List (ByteArray × Y)) : Prop where
 nd : (L.map fun p => kwIdx p.1).Nodup
 mem : ∀ p ∈ L, kwIdx p.1 ∈ qs ∧ kwIdx p.1 ≠ 0 ∧ kwIdx p.1 ≠ 35 ∧ ∃ x, getV v p.1 = some x ∧ ItemR OutR (shIdx (kwIdx p.1)) x p.2
 all : ∀ q ∈ qs, f q ≠ none → ∃ p ∈ L, kwIdx p.1 = q
 len : L.length ≤ qs.length
theorem WI.nil (v : V) (f : Flds) : WI v f [] [] := ⟨by simp, by simp, by simp, by simp⟩
theorem WI.skip {v : V} {f : Flds} {qs : List Nat} {L : List (ByteArray × Y)} {q : Nat} (h : WI v f qs L) (hq : f q = none) : WI v f (q :: qs) L :=
 ⟨h.nd, fun p hp => ⟨List.mem_cons_of_mem _ (h.mem p hp).1, (h.mem p hp).2⟩, fun r hr hn => (List.mem_cons.1 hr).elim (fun e => absurd (e ▸ hq) hn) (fun hr => h.all r hr hn), Nat.le_succ_of_le h.len⟩
theorem WI.add {v : V} {f : Flds} {qs : List Nat} {L : List (ByteArray × Y)} {q : Nat} {key : ByteArray} {x : V} {z : Y} (h : WI v f qs L) (hn : qs.contains q = false) (hkw : kwIdx key = q) (h0 : q ≠ 0) (h35 : q ≠ 35) (hx : getV v key = some x) (hi : ItemR OutR (shIdx q) x z) : WI v f (q :: qs) (L ++ [(key, z)]) := by
 have hn' : q ∉ qs := by simpa using hn
 subst hkw
 refine ⟨?_, ?_, ?_, by simp; exact h.len⟩
 ·rw [List.map_append, List.nodup_append]
  refine ⟨h.nd, by simp, ?_⟩
  intro a ha b hb hab
  obtain ⟨p, hp, rfl⟩ := List.mem_map.1 ha
  simp only [List.map_cons, List.map_nil, List.mem_singleton] at hb
  subst hab
  exact hn' (hb ▸ (h.mem p hp).1)
 ·intro p hp
  rcases List.mem_append.1 hp with hp | hp
  ·exact ⟨List.mem_cons_of_mem _ (h.mem p hp).1, (h.mem p hp).2⟩
  ·rw [List.mem_singleton.1 hp]
   exact ⟨List.mem_cons_self, h0, h35, x, hx, hi⟩
 ·intro r hr hnn
  rcases List.mem_cons.1 hr with rfl | hr
  ·exact ⟨(key, z), by simp, rfl⟩
  ·obtain ⟨p, hp, e⟩ := h.all r hr hnn
   exact ⟨p, List.mem_append_left _ hp, e⟩
theorem WI.out {G : Gr} {v : V} {f : Flds} {L : List (ByteArray × Y)} (h : WI v f kwAll L) (hU : ∀ i, 1 ≤ i → i ≤ 36 → FldRel (fun b x => Unf G x b) v i (f i)) : OutR v (RKids 4 (L.flatMap prY)) := by
 refine (outR_iff v _).2 ⟨L, rfl, h.nd, fun p hp => (h.mem p hp).2, fun key x hx h0 h35 => ?_⟩
 have hm := kw_mem h0 h35
 have hq := kw_range h0
 have hf := hU _ hq.1 hq.2
 obtain ⟨p, hp, e⟩ := h.all _ hm (fun hn => by rw [hn] at hf; have := hf key rfl; rw [hx] at this; cases this)
 exact ⟨p, hp, kw_inj e (by rw [e]; exact h0)⟩
theorem IsPlain.len60 : ∀ {d : Nat} {t : V}, IsPlain d t → t.items.length ≤ 60
  | 0, .mk q m s ks ts, h => by
    obtain ⟨_, h2, _⟩ := h
    simp only [V.items] at h2 ⊢
    subst h2; simp
  | d + 1, .mk q m s ks ts, h => by
    rcases h with ⟨_, h2, _⟩ | ⟨_, h2, _⟩
    · simp only [V.items] at h2 ⊢
      subst h2; simp
    · exact h2
theorem Pl.len {v : V} (h : Pl v) : v.items.length ≤ 60 := h.elim fun _ h => h.len60
theorem perm_len {ps : List (ByteArray × V)} {x : V} (hp : ps.Perm (x.keys.zip x.items)) (h : x.items.length ≤ 60) : ps.length ≤ 400000 := by
 rw [hp.length_eq, List.length_zip]; omega
structure Fld (ft : DA) (mb : Nat) (G : Gr) (sh : Int) (x : V) : Prop where
 pl : Pl x
 fit : FitLoc sh x
 kid : ∀ z ∈ kidsOf sh x, C105 ft mb G z
 num : sh = 3 → x.kind = 6 → CtR Tryz.prog 188 #[.float .f64 (quartBits x.num)] [ft] (RN (scal tFloat (quartF x.num)))
section
variable {ft : DA} {mb : Nat} {G : Gr} {x : V} {fv : FVal} {u : Value}
theorem Fld.int (h : x.kind = 2 ∨ x.kind = 6) (hp : Pl x) : -9223372036854775808 ≤ x.num ∧ x.num ≤ 9223372036854775807 := by
 have := hp.num.num h
 omega
theorem CtR.data {P : Program} {f : FuncId} {args : Array Value} {D D2 : List DA} {R : Value → List DA → Prop} (h : CtR P f args D R) (hs : ∀ d ∈ D, d ∈ D2) : CtR P f args D2 R := Ct.data h hs
theorem w3 (h : Fld ft mb G 3 x) (hr : FvRel (fun b z => Unf G z b) 3 x fv) : CtR Tryz.prog 160 #[u] [.fv u fv, .gr mb G, .tab, ft] (fun u D' => ∃ z, ItemR OutR 3 x z ∧ RN z u D') := by
 cases fv <;> try exact absurd hr.1 (by decide)
 case any => exact absurd (show (3 : Int) = 14 from hr) (by decide)
 case numI n =>
  obtain ⟨_, hk, rfl⟩ := hr
  have hb := Fld.int (.inl hk) h.pl
  exact ((c160i u x.num hb.1 hb.2).data (sub2 0 2 rfl rfl)).mono fun u D' hn => ⟨_, .inr (.inr (.inl ⟨rfl, hk, rfl⟩)), hn⟩
 case numF n =>
  obtain ⟨_, hk, rfl⟩ := hr
  exact ((c160f ft u _ _ (h.num rfl hk)).data (sub2 0 3 rfl rfl)).mono fun u D' hn => ⟨_, .inr (.inr (.inr (.inl ⟨rfl, hk, rfl⟩))), hn⟩
theorem w6 (h : Fld ft mb G 6 x) (hr : FvRel (fun b z => Unf G z b) 6 x fv) : CtR Tryz.prog 157 #[u] [.fv u fv, .gr mb G, .tab, ft] (fun u D' => ∃ z, ItemR OutR 6 x z ∧ RN z u D') := by
 cases fv <;> try exact absurd hr.1 (by decide)
 case any => exact absurd (show (6 : Int) = 14 from hr) (by decide)
 case sbS q =>
  obtain ⟨_, hk, hU⟩ := hr
  refine (c157s ft mb G u q x hU (h.kid x (by rw [kids6 hk]; simp))).mono fun u D' hn => ?_
  obtain ⟨z, hz, hn⟩ := hn
  exact ⟨z, .inr (.inr (.inr (.inr (.inr (.inr (.inr (.inl ⟨rfl, hk, hz⟩))))))), hn⟩
 case sbB b =>
  obtain ⟨_, hk, rfl⟩ := hr
  exact ((c157b u _).data (sub1 0 rfl)).mono fun u D' hn => ⟨_, .inr (.inr (.inr (.inr (.inr (.inr (.inl ⟨rfl, hk, rfl⟩)))))), hn⟩
theorem w7 (h : Fld ft mb G 7 x) (hr : FvRel (fun b z => Unf G z b) 7 x fv) : CtR Tryz.prog 155 #[u] [.fv u fv, .gr mb G, .tab, ft] (fun u D' => ∃ z, ItemR OutR 7 x z ∧ RN z u D') := by
 cases fv <;> try exact absurd hr.1 (by decide)
 case any => exact absurd (show (7 : Int) = 14 from hr) (by decide)
 case itS q =>
  obtain ⟨_, hk, hU⟩ := hr
  refine (c155s ft mb G u q x hU (h.kid x (by rw [kids7 hk]; simp))).mono fun u D' hn => ?_
  obtain ⟨z, hz, hn⟩ := hn
  exact ⟨z, .inr (.inr (.inr (.inr (.inr (.inr (.inr (.inr (.inl ⟨rfl, hk, hz⟩)))))))), hn⟩
 case itL bs =>
  obtain ⟨_, hk, hU⟩ := hr
  have h5 : ∀ y ∈ x.items, y.kind = 5 := by
   have := h.fit
   simp [FitLoc, hk] at this
   exact this
  refine (c155l ft mb G u bs x.items (by have := h.pl.len; omega) hU (fun z hz => h.kid z (by rw [kids7l hk h5]; exact hz))).mono fun u D' hn => ?_
  obtain ⟨zs, hz, hn⟩ := hn
  exact ⟨_, .inr (.inr (.inr (.inr (.inr (.inr (.inr (.inr (.inr (.inl ⟨rfl, hk, zs, rfl, hz⟩))))))))), hn⟩
theorem w9 (h : Fld ft mb G 9 x) (hr : FvRel (fun b z => Unf G z b) 9 x fv) : CtR Tryz.prog 158 #[u] [.fv u fv, .gr mb G, .tab, ft] (fun u D' => ∃ z, ItemR OutR 9 x z ∧ RN z u D') := by
 cases fv <;> try exact absurd hr.1 (by decide)
 case any => exact absurd (show (9 : Int) = 14 from hr) (by decide)
 case named l =>
  obtain ⟨_, ps, hp, hU⟩ := hr
  have h5 : ∀ y ∈ x.items, y.kind = 5 := by
   have := h.fit
   simp [FitLoc] at this
   exact this.2
  refine (c158 ft mb G u l ps (perm_len hp h.pl.len) hU (fun p hq => h.kid p.2 (by rw [kids9 h5]; exact (List.of_mem_zip (hp.mem_iff.1 hq)).2))).mono fun u D' hn => ?_
  obtain ⟨L, hz, hn⟩ := hn
  exact ⟨_, .inr (.inr (.inr (.inr (.inr (.inr (.inr (.inr (.inr (.inr (.inr (.inl ⟨rfl, ps, L, rfl, hp, hz⟩))))))))))), hn⟩
theorem w10 (h : Fld ft mb G 10 x) (hr : FvRel (fun b z => Unf G z b) 10 x fv) : CtR Tryz.prog 159 #[u] [.fv u fv, .gr mb G, .tab, ft] (fun u D' => ∃ z, ItemR OutR 10 x z ∧ RN z u D') := by
 cases fv <;> try exact absurd hr.1 (by decide)
 case any => exact absurd (show (10 : Int) = 14 from hr) (by decide)
 case deps l =>
  obtain ⟨_, ps, hp, rfl⟩ := hr
  refine ((c159 u _ (by rw [List.length_map]; exact perm_len hp h.pl.len) (fun q hq => ?_)).data (sub1 0 rfl)).mono fun u D' hn => ?_
  ·obtain ⟨p, hm, rfl⟩ := List.mem_map.1 hq
   have := (h.pl.item p.2 (List.of_mem_zip (hp.mem_iff.1 hm)).2).len
   rw [List.length_map]; omega
  ·rw [List.map_map] at hn
   exact ⟨_, .inr (.inr (.inr (.inr (.inr (.inr (.inr (.inr (.inr (.inr (.inr (.inr (.inl ⟨rfl, ps, hp, rfl⟩)))))))))))), hn⟩
theorem w11 (h : Fld ft mb G 11 x) (hr : FvRel (fun b z => Unf G z b) 11 x fv) : CtR Tryz.prog 162 #[u] [.fv u fv, .gr mb G, .tab, ft] (fun u D' => ∃ z, ItemR OutR 11 x z ∧ RN z u D') := by
 cases fv <;> try exact absurd hr.1 (by decide)
 case any => exact absurd (show (11 : Int) = 14 from hr) (by decide)
 case enums l =>
  obtain ⟨_, rfl⟩ := hr
  exact ((c162 u _ (by rw [List.length_map]; have := h.pl.len; omega)).data (sub1 0 rfl)).mono fun u D' hn => ⟨_, .inr (.inr (.inr (.inr (.inr (.inr (.inr (.inr (.inr (.inr (.inr (.inr (.inr (.inl ⟨rfl, rfl⟩))))))))))))), hn⟩
theorem w12 (h : Fld ft mb G 12 x) (hr : FvRel (fun b z => Unf G z b) 12 x fv) : CtR Tryz.prog 154 #[u] [.fv u fv, .gr mb G, .tab, ft] (fun u D' => ∃ z, ItemR OutR 12 x z ∧ RN z u D') := by
 cases fv <;> try exact absurd hr.1 (by decide)
 case any => exact absurd (show (12 : Int) = 14 from hr) (by decide)
 case tyS s =>
  obtain ⟨_, hk, rfl⟩ := hr
  exact ((c154s u _).data (sub1 0 rfl)).mono fun u D' hn => ⟨_, .inr (.inr (.inr (.inr (.inr (.inr (.inr (.inr (.inr (.inr (.inr (.inr (.inr (.inr (.inl ⟨rfl, hk, rfl⟩)))))))))))))), hn⟩
 case tyL s =>
  obtain ⟨_, hk, rfl⟩ := hr
  exact ((c154l u _ (by rw [List.length_map]; have := h.pl.len; omega)).data (sub1 0 rfl)).mono fun u D' hn => ⟨_, .inr (.inr (.inr (.inr (.inr (.inr (.inr (.inr (.inr (.inr (.inr (.inr (.inr (.inr (.inr (.inl ⟨rfl, hk, rfl⟩))))))))))))))), hn⟩
theorem w8 {sl : Value} {bs : List ByteArray} (h : Fld ft mb G 8 x) (hr : bs = x.items.map V.text) : CtR Tryz.prog 156 #[sl] [.strs sl bs] (fun u D' => ∃ z, ItemR OutR 8 x z ∧ RN z u D') := by
 subst hr
 exact (c156 sl _ (by rw [List.length_map]; have := h.pl.len; omega)).mono fun u D' hn => ⟨_, .inr (.inr (.inr (.inr (.inr (.inr (.inr (.inr (.inr (.inr (.inl ⟨rfl, rfl⟩)))))))))), hn⟩
theorem w13 {sl : Value} {bs : List Nat} (h : Fld ft mb G 13 x) (hr : All2 (fun b z => Unf G z b) bs x.items) : CtR Tryz.prog 163 #[sl] [.rowp sl bs, .gr mb G, .tab, ft] (fun u D' => ∃ z, ItemR OutR 13 x z ∧ RN z u D') := by
 have h5 : ∀ y ∈ x.items, y.kind = 5 := by
  have := h.fit
  simp [FitLoc] at this
  exact this.2
 refine (c163 ft mb G sl bs x.items (by have := h.pl.len; omega) hr (fun z hz => h.kid z (by rw [kids13 h5]; exact hz))).mono fun u D' hn => ?_
 obtain ⟨zs, hz, hn⟩ := hn
 exact ⟨_, .inr (.inr (.inr (.inr (.inr (.inr (.inr (.inr (.inr (.inr (.inr (.inr (.inr (.inr (.inr (.inr ⟨rfl, zs, rfl, hz⟩))))))))))))))), hn⟩
theorem w5 {b : Nat} (h : Fld ft mb G 5 x) (hr : Unf G x b) : CtR Tryz.prog 105 #[ptr b] [.gr mb G, .tab, ft] (fun u D' => ∃ z, ItemR OutR 5 x z ∧ RN z u D') := by
 refine (h.kid x (by simp [kidsOf]) b hr).mono fun u D' hn => ?_
 obtain ⟨z, hz, hn⟩ := hn
 exact ⟨z, .inr (.inr (.inr (.inr (.inr (.inl ⟨rfl, hz⟩))))), hn⟩
end
section rules
variable {P : Program} {n : Nat} {F : List Nat} {c : Ctx F} {ops : Array Oper} {d : Nat} {T : TypeId} {l : List Oper} {k : List KI} {Q : Post} {e : Env} {M : List HA} {D : List DA}
theorem wA (j q : Nat) {mb : Nat} {cs : List Value} {f : Flds} {G : Gr} {v : V} {p : Option Addr} (hj : D[j]? = some (.flds mb cs f)) (h0 : q ≠ 0) (h36 : q ≤ 36) (hc : cs[q]? = some (.pointer p)) (hp : p.isSome = (f q).isSome) (hb : p.isSome = true) (hU : ∀ i, 1 ≤ i → i ≤ 36 → FldRel (fun b x => Unf G x b) v i (f i))
  (next : ∀ fv x a, p = some a → f q = some fv → getV v (keyOf q) = some x → kwIdx (keyOf q) = q → FvRel (fun b x => Unf G x b) (shIdx q) x fv → Run P n c k Q e M (.fv (.pointer (some a)) fv :: D)) : Run P n c k Q e M D := by
 obtain ⟨a, rfl⟩ := Option.isSome_iff_exists.1 hb
 rw [hb] at hp
 obtain ⟨fv, hfv⟩ := Option.isSome_iff_exists.1 hp.symm
 have hr := hU q (by omega) h36
 rw [hfv] at hr
 obtain ⟨key, x, hkw, hgx, hrel⟩ := hr
 have hkey := kw_key hkw h0
 subst hkey
 refine xI (.fv (.pointer (some a)) fv) (fun w ok h => ?_) (next fv x a rfl hfv hgx hkw hrel)
 obtain ⟨u, hu, hm⟩ := (dget h j hj : (DA.flds mb cs f).p w ok).2.2 q (by omega) h36
 rw [hc] at hu
 cases hu
 rw [hfv] at hm
 exact hm
theorem xB (j q : Nat) {mb : Nat} {cs : List Value} {f : Flds} (hj : D[j]? = some (.flds mb cs f)) (h1 : 1 ≤ q) (h2 : q ≤ 36) (next : ∀ p, cs[q]? = some (.pointer p) → p.isSome = (f q).isSome → Run P n c k Q e M D) : Run P n c k Q e M D := by
 intro a w hf
 obtain ⟨p, h3, h4⟩ := fld_cell (hf.toFitsW.dt hj) q h1 h2
 exact next p h3 h4 a w hf
end rules
theorem wB {p : Option Addr} {o : Option FVal} (hp : p.isSome = o.isSome) (h : p.isSome = false) : o = none := by
  rw [h] at hp
  cases o with
  | none => rfl
  | some v => cases hp
theorem ro_none {G : Gr} {v : V} {f : Flds} (hU : ∀ i, 1 ≤ i → i ≤ 36 → FldRel (fun b x => Unf G x b) v i (f i)) (q : Nat) (h1 : 1 ≤ q) (h2 : q ≤ 36) (hq : (q :: kwAll).Nodup) (h35 : q ≠ 35) : f q = none := by
  have := hU q h1 h2
  cases hf : f q with
  | none => rfl
  | some fv =>
    rw [hf] at this
    obtain ⟨key, x, hk, _⟩ := this
    have := kw_mem (key := key) (by omega) (by omega)
    rw [hk] at this
    exact absurd this (List.nodup_cons.1 hq).1
theorem bool_of {U : Nat → V → Prop} {x : V} {fv : FVal} (h : FvRel U 2 x fv) : fv = .bool (decide (x.num = 1)) := by
 cases fv <;> simp_all [FvRel]
theorem int_of {U : Nat → V → Prop} {x : V} {fv : FVal} (h : FvRel U 4 x fv) : fv = .int x.num := by
 cases fv <;> simp_all [FvRel]
theorem texts_of {U : Nat → V → Prop} {x : V} {fv : FVal} (h : FvRel U 8 x fv) : fv = .texts (x.items.map V.text) := by
 cases fv <;> simp_all [FvRel]
theorem list_of {U : Nat → V → Prop} {x : V} {fv : FVal} (h : FvRel U 13 x fv) : ∃ bs, fv = .list bs ∧ All2 U bs x.items := by
 cases fv <;> simp_all [FvRel]
theorem one_of {U : Nat → V → Prop} {x : V} {fv : FVal} (h : FvRel U 5 x fv) : ∃ b, fv = .one b ∧ U b x := by
 cases fv <;> simp_all [FvRel]
theorem yW {P : Program} {n : Nat} {F : List Nat} {c : Ctx F} {k : List KI} {Q : Post} {e : Env} {M : List HA} {D : List DA} {α : Type} {x : Code} (ts : List Nat) (I : α → Prop) (ch : α → Env) (MM : α → List HA) (DD : α → List DA)
  (h1 : ∀ K : Act → World → Prop, (∀ y, I y → ∀ a w, Fits n c (ch y ++ keep ts e) (MM y) (DD y) a w → K a w) → Run P n c (.code x :: .cont K :: k) Q e M D)
  (h2 : ∀ y, I y → Run P n c k Q (ch y ++ keep ts e) (MM y) (DD y)) : Run P n c (.code x :: k) Q e M D :=
 run_join (α := {y : α // I y}) (fun y => ch y.1 ++ keep ts e) (fun y => MM y.1) (fun y => DD y.1) (fun K hK => h1 K (fun y hy => hK ⟨y, hy⟩)) (fun y => h2 y.1 y.2)

end Go.Jw

namespace Go.Jw
open Go Go.RowKit Go.Proofs
set_option maxRecDepth 8000
theorem c152f (s : ByteArray) (hs : s.size ≤ maxLen) (hf : IsFourth s) : ∃ T : ByteArray, (T = ⟨#[104, 116, 116, 112, 58, 47, 47, 106, 115, 111, 110, 45, 115, 99, 104, 101, 109, 97, 46, 111, 114, 103, 47, 100, 114, 97, 102, 116, 45, 48, 52, 47, 115, 99, 104, 101, 109, 97]⟩ ∨ T = ⟨#[35]⟩ ∨ T = ⟨#[]⟩) ∧ CtV Tryz.prog 152 #[.string s, .string ⟨#[35]⟩] [] (.string T) := by
 refine ⟨_, ?_, c152 s hs⟩
 rcases hf with rfl | rfl | rfl | rfl | rfl
 ·exact .inl (by decide +kernel)
 ·exact .inl (by decide +kernel)
 ·exact .inr (.inr (by decide +kernel))
 ·exact .inr (.inr (by decide +kernel))
 ·exact .inr (.inl (by decide +kernel))
abbrev T5 := Nat × Option Addr × Nat × List Value × List (ByteArray × Y)
abbrev eE : T5 → Env := fun ⟨m, A, ca, xs, L⟩ => [(4, .slice A m ca)]
abbrev eM (b6 : Nat) : T5 → List HA := fun ⟨m, A, ca, xs, L⟩ => HA.row A m ca 102 1 xs :: HA.blk b6 (ycells 4 ⟨#[]⟩ ⟨#[]⟩ none 0 0) 150 :: []
abbrev eD (b : Nat) (cs : List Value) (mb2 mb : Nat) (f : Flds) (G : Gr) (ft : DA) : T5 → List DA := fun ⟨m, A, ca, xs, L⟩ => .ptrs xs (L.flatMap prY) :: .dblk b cs 124 :: .flds mb2 cs f :: .gr mb G :: .tab :: ft :: []
set_option maxHeartbeats 4000000 in
theorem c105w (ft : DA) (mb : Nat) (G : Gr) (v : V) (HF : ∀ key x, getV v key = some x → kwIdx key ≠ 0 → Fld ft mb G (shIdx (kwIdx key)) x) (hid : ∀ x, getV v kId = some x → ∃ u, getV v kSchema = some u ∧ IsFourth u.text) : C105 ft mb G v := by
 intro b hb
 refine Ct.of_run (args := [ptr b]) Tryz.func105 (by kernel_rfl) rfl Tryz.ntmps105 rfl (fun c => ?_)
 obtain ⟨f, ⟨cs, hg⟩, hU⟩ := (uY G v b).1 hb
 refine run_gr 0 rfl hg (fun mb2 hcl => ?_)
 refine xB 1 33 rfl (by decide) (by decide) (fun p33 hc33 hp33 => ?_)
 refine xB 1 2 rfl (by decide) (by decide) (fun p2 hc2 hp2 => ?_)
 refine xB 1 1 rfl (by decide) (by decide) (fun p1 hc1 hp1 => ?_)
 refine xB 1 4 rfl (by decide) (by decide) (fun p4 hc4 hp4 => ?_)
 have hn4 : p4.isSome = false := by rw [hp4, ro_none hU 4 (by decide) (by decide) (by decide) (by decide)]; rfl
 refine xB 1 5 rfl (by decide) (by decide) (fun p5 hc5 hp5 => ?_)
 have hn5 : p5.isSome = false := by rw [hp5, ro_none hU 5 (by decide) (by decide) (by decide) (by decide)]; rfl
 refine xB 1 27 rfl (by decide) (by decide) (fun p27 hc27 hp27 => ?_)
 refine xB 1 15 rfl (by decide) (by decide) (fun p15 hc15 hp15 => ?_)
 refine xB 1 34 rfl (by decide) (by decide) (fun p34 hc34 hp34 => ?_)
 refine xB 1 21 rfl (by decide) (by decide) (fun p21 hc21 hp21 => ?_)
 refine xB 1 22 rfl (by decide) (by decide) (fun p22 hc22 hp22 => ?_)
 refine xB 1 24 rfl (by decide) (by decide) (fun p24 hc24 hp24 => ?_)
 refine xB 1 23 rfl (by decide) (by decide) (fun p23 hc23 hp23 => ?_)
 refine xB 1 25 rfl (by decide) (by decide) (fun p25 hc25 hp25 => ?_)
 refine xB 1 3 rfl (by decide) (by decide) (fun p3 hc3 hp3 => ?_)
 refine xB 1 6 rfl (by decide) (by decide) (fun p6 hc6 hp6 => ?_)
 refine xB 1 7 rfl (by decide) (by decide) (fun p7 hc7 hp7 => ?_)
 refine xB 1 8 rfl (by decide) (by decide) (fun p8 hc8 hp8 => ?_)
 refine xB 1 9 rfl (by decide) (by decide) (fun p9 hc9 hp9 => ?_)
 refine xB 1 10 rfl (by decide) (by decide) (fun p10 hc10 hp10 => ?_)
 refine xB 1 11 rfl (by decide) (by decide) (fun p11 hc11 hp11 => ?_)
 refine xB 1 12 rfl (by decide) (by decide) (fun p12 hc12 hp12 => ?_)
 refine xB 1 13 rfl (by decide) (by decide) (fun p13 hc13 hp13 => ?_)
 refine xB 1 14 rfl (by decide) (by decide) (fun p14 hc14 hp14 => ?_)
 refine xB 1 16 rfl (by decide) (by decide) (fun p16 hc16 hp16 => ?_)
 refine xB 1 17 rfl (by decide) (by decide) (fun p17 hc17 hp17 => ?_)
 refine xB 1 18 rfl (by decide) (by decide) (fun p18 hc18 hp18 => ?_)
 refine xB 1 19 rfl (by decide) (by decide) (fun p19 hc19 hp19 => ?_)
 refine xB 1 20 rfl (by decide) (by decide) (fun p20 hc20 hp20 => ?_)
 refine xB 1 26 rfl (by decide) (by decide) (fun p26 hc26 hp26 => ?_)
 refine xB 1 28 rfl (by decide) (by decide) (fun p28 hc28 hp28 => ?_)
 refine xB 1 29 rfl (by decide) (by decide) (fun p29 hc29 hp29 => ?_)
 refine xB 1 30 rfl (by decide) (by decide) (fun p30 hc30 hp30 => ?_)
 refine xB 1 31 rfl (by decide) (by decide) (fun p31 hc31 hp31 => ?_)
 refine xB 1 32 rfl (by decide) (by decide) (fun p32 hc32 hp32 => ?_)
 refine xB 1 35 rfl (by decide) (by decide) (fun p35 hc35 hp35 => ?_)
 refine xB 1 36 rfl (by decide) (by decide) (fun p36 hc36 hp36 => ?_)
 refine xI (.ptrs [] (([] : List (ByteArray × Y)).flatMap prY)) (fun w ok h => rfl) (zD ?_)
 refine zB (zA ?_)
 refine zE rfl rfl (zC ?_)
 refine zD (zB ?_)
 refine zA (xR rfl rfl (bu150_0 ..) ?_)
 refine zA (xL rfl rfl rfl (fun b6 => ?_))
 refine zA (zE rfl rfl ?_)
 refine zC (zD ?_)
 refine zB (zA ?_)
 refine wF sl148 rfl rfl rfl (fun b7 => ?_)
 refine zA (zE rfl rfl ?_)
 refine zC (zD ?_)
 refine zD (zB ?_)
 refine sT (zA ?_)
 refine zH fo124_33 rfl rfl (zA ?_)
 refine zM 1 sc111 rfl rfl rfl hc33 (zA ?_)
 refine yF pn111 rfl rfl (zC ?_)
 refine kE [(12, _), (4, _), (3, _), (0, _)] rfl (yW [3, 0] (fun (⟨m, A, ca, xs, L⟩ : T5) => WI v f [33] L ∧ m ≤ 2) eE (eM b6) (eD b cs mb2 mb f G ft) ?_ ?_)
 ·intro K hK
  refine yI rfl (fun h12 => ?_) (fun h12 => ?_)
  ·refine wA 2 33 rfl (by decide) (by decide) hc33 hp33 h12 hU (fun fv x a hpa hfv hgx hkw hr => ?_)
   subst hpa
   have hF := HF _ _ hgx (by rw [hkw]; decide)
   rw [hkw] at hF
   change Fld ft mb G 1 x at hF
   change FvRel _ 1 x fv at hr
   obtain rfl := sS hr
   refine sO 0 rfl (fun p hp hs => ?_)
   cases hp
   refine zB (sT ?_)
   refine zA (zH fo124_33 rfl rfl ?_)
   refine zA (zM 3 sc111 rfl rfl rfl hc33 ?_)
   refine zA (zP rfl rfl ?_)
   refine zA (yV 0 sc9 rfl rfl rfl ?_)
   refine zA (zW rfl rfl rfl (c151 _ hs) sub0 (fun u20 D20 hv20 => ?_))
   obtain ⟨b20, rfl, rfl⟩ := hv20
   refine zA ?_
   refine yR 0 rfl rfl rfl (c150 _ _ _ _ _ _ (by decide) (by omega)) rfl sub0 (fun u21 M21 D21 hv21 => ?_)
   obtain ⟨A21, c21, b21, rfl, rfl, rfl⟩ := hv21
   refine zA (zE rfl rfl ?_)
   refine zC (kE [(4, _), (3, _), (0, _)] rfl ?_)
   refine yT (L := []) 4 0 1 rfl rfl rfl ?_
   exact kQ (hK (_, _, _, _, [] ++ [(keyOf 33, _)]) ⟨(WI.nil v f).add rfl hkw (by decide) (by decide) hgx (.inl ⟨rfl, rfl⟩), by show _ + 2 ≤ _; omega⟩) (eC rfl (eC rfl (eC rfl (eN _)))) (hD := (subc 0 rfl sQ))
  refine zJ ?_
  exact kQ (hK (_, _, _, _, []) ⟨(WI.nil v f).skip (wB hp33 h12), by show _ ≤ _; omega⟩) (eC rfl (eC rfl (eC rfl (eN _))))
 intro ⟨m, A, ca, xs, L⟩ hI
 replace hI : WI v f [33] L ∧ m ≤ 2 := hI
 change Run _ _ _ _ _ [(4, .slice A m ca), (3, _), (0, _)] (HA.row A m ca 102 1 xs :: HA.blk b6 (ycells 4 ⟨#[]⟩ ⟨#[]⟩ none 0 0) 150 :: []) (.ptrs xs (L.flatMap prY) :: .dblk b cs 124 :: .flds mb2 cs f :: .gr mb G :: .tab :: ft :: [])
 obtain ⟨hW, hm⟩ := hI
 refine zD (zD ?_)
 refine zB (sT ?_)
 refine zA (zH rQ rfl rfl ?_)
 refine zA (zM 1 sc111 rfl rfl rfl hc2 ?_)
 refine zA (yF pn111 rfl rfl ?_)
 refine zC (kE [(26, _), (4, _), (3, _), (0, _)] rfl ?_)
 refine yW [3, 0] (fun (⟨m, A, ca, xs, L⟩ : T5) => WI v f [2, 33] L ∧ m ≤ 4) eE (eM b6) (eD b cs mb2 mb f G ft) ?_ ?_
 ·intro Kj2 hKj2
  refine yI rfl (fun h26 => ?_) (fun h26 => ?_)
  ·refine wA 2 2 rfl (by decide) (by decide) hc2 hp2 h26 hU (fun fv x a hpa hfv hgx hkw hr => ?_)
   subst hpa
   have hF := HF _ _ hgx (by rw [hkw]; decide)
   rw [hkw] at hF
   change Fld ft mb G 1 x at hF
   change FvRel _ 1 x fv at hr
   obtain rfl := sS hr
   refine sO 0 rfl (fun p hp hs => ?_)
   cases hp
   obtain ⟨u1, hu1, hfo⟩ := hid x hgx
   have hb1 : p1.isSome = true := by
    cases hq1 : p1.isSome with
    | true => rfl
    | false =>
     have := hU 1 (by decide) (by decide)
     rw [wB hp1 hq1] at this
     rw [show getV v kSchema = none from this kSchema (by decide +kernel)] at hu1
     cases hu1
   refine wA 4 1 rfl (by decide) (by decide) hc1 hp1 hb1 hU (fun fv1 x1 a1 hpa1 hfv1 hgx1 hkw1 hr1 => ?_)
   subst hpa1
   change FvRel _ 1 x1 fv1 at hr1
   obtain rfl := sS hr1
   refine sO 0 rfl (fun p1 hq1 hs1 => ?_)
   cases hq1
   rw [show getV v kSchema = some x1 from hgx1] at hu1
   cases hu1
   obtain ⟨T, hT, hcT⟩ := c152f _ hs1 hfo
   refine zD (zB ?_)
   refine sT (zA ?_)
   refine zH fo124_1 rfl rfl (zA ?_)
   refine zM 5 sc111 rfl rfl rfl hc1 (zA ?_)
   refine zP rfl rfl (zA ?_)
   refine yV 0 sc9 rfl rfl rfl (zA ?_)
   refine zV rfl rfl rfl hcT sub0 (zC ?_)
   refine zN (zD ?_)
   refine zN (zD ?_)
   refine zN (zN ?_)
   refine zN (zD ?_)
   refine zD (zD ?_)
   refine zB (zA ?_)
   refine zU rfl rfl rfl (zA ?_)
   refine zE rfl rfl (zC ?_)
   refine zS rfl (fun h34 => ?_) (fun h34 => ?_)
   ·refine yK rfl (zQ ?_)
    refine zQ (zD ?_)
    refine zB (sT ?_)
    refine zA (zH rQ rfl rfl ?_)
    refine zA (zM 5 sc111 rfl rfl rfl hc2 ?_)
    refine zA (zP rfl rfl ?_)
    refine zA (yV 2 sc9 rfl rfl rfl ?_)
    refine zA (zW rfl rfl rfl (c151 _ hs) sub0 (fun u47 D47 hv47 => ?_))
    obtain ⟨b47, rfl, rfl⟩ := hv47
    refine zA ?_
    refine yR 0 rfl rfl rfl (c150 _ _ _ _ _ _ (by decide) (by omega)) rfl sub0 (fun u48 M48 D48 hv48 => ?_)
    obtain ⟨A48, c48, b48, rfl, rfl, rfl⟩ := hv48
    refine zA (zE rfl rfl ?_)
    refine zC (kE [(4, _), (3, _), (0, _)] rfl ?_)
    refine yK rfl (yT (L := L) 6 0 1 rfl rfl rfl ?_)
    exact kQ (hKj2 (_, _, _, _, L ++ [(keyOf 2, _)]) ⟨hW.add rfl hkw (by decide) (by decide) hgx (.inl ⟨rfl, rfl⟩), by show _ + 2 ≤ _; omega⟩) (eC rfl (eC rfl (eC rfl (eN _)))) (hD := (subc 0 rfl sQ))
   refine zJ (zD ?_)
   refine zD (zB ?_)
   refine zA (zU rfl rfl rfl ?_)
   refine zA (zE rfl rfl ?_)
   refine zC (kE [(36, _), (33, _), (4, _), (3, _), (0, _)] rfl ?_)
   refine zS rfl (fun h36 => ?_) (fun h36 => ?_)
   ·refine yK rfl (zQ ?_)
    refine zD (zB ?_)
    refine sT (zA ?_)
    refine zH rQ rfl rfl (zA ?_)
    refine zM 5 sc111 rfl rfl rfl hc2 (zA ?_)
    refine zP rfl rfl (zA ?_)
    refine yV 2 sc9 rfl rfl rfl (zA ?_)
    refine zW rfl rfl rfl (c151 _ hs) sub0 (fun u47 D47 hv47 => ?_)
    obtain ⟨b47, rfl, rfl⟩ := hv47
    refine zA ?_
    refine yR 0 rfl rfl rfl (c150 _ _ _ _ _ _ (by decide) (by omega)) rfl sub0 (fun u48 M48 D48 hv48 => ?_)
    obtain ⟨A48, c48, b48, rfl, rfl, rfl⟩ := hv48
    refine zA (zE rfl rfl ?_)
    refine zC (kE [(4, _), (3, _), (0, _)] rfl ?_)
    refine yK rfl (yT (L := L) 6 0 1 rfl rfl rfl ?_)
    exact kQ (hKj2 (_, _, _, _, L ++ [(keyOf 2, _)]) ⟨hW.add rfl hkw (by decide) (by decide) hgx (.inl ⟨rfl, rfl⟩), by show _ + 2 ≤ _; omega⟩) (eC rfl (eC rfl (eC rfl (eN _)))) (hD := (subc 0 rfl sQ))
   refine zJ (zD ?_)
   refine zB (zA ?_)
   refine zU rfl rfl rfl (zA ?_)
   refine zE rfl rfl (zC ?_)
   refine zS rfl (fun h38 => ?_) (fun h38 => ?_)
   ·refine yK rfl (zD ?_)
    refine zB (sT ?_)
    refine zA (zH rQ rfl rfl ?_)
    refine zA (zM 5 sc111 rfl rfl rfl hc2 ?_)
    refine zA (zP rfl rfl ?_)
    refine zA (yV 2 sc9 rfl rfl rfl ?_)
    refine zA (zW rfl rfl rfl (c151 _ hs) sub0 (fun u47 D47 hv47 => ?_))
    obtain ⟨b47, rfl, rfl⟩ := hv47
    refine zA ?_
    refine yR 0 rfl rfl rfl (c150 _ _ _ _ _ _ (by decide) (by omega)) rfl sub0 (fun u48 M48 D48 hv48 => ?_)
    obtain ⟨A48, c48, b48, rfl, rfl, rfl⟩ := hv48
    refine zA (zE rfl rfl ?_)
    refine zC (kE [(4, _), (3, _), (0, _)] rfl ?_)
    refine yK rfl (yT (L := L) 6 0 1 rfl rfl rfl ?_)
    exact kQ (hKj2 (_, _, _, _, L ++ [(keyOf 2, _)]) ⟨hW.add rfl hkw (by decide) (by decide) hgx (.inl ⟨rfl, rfl⟩), by show _ + 2 ≤ _; omega⟩) (eC rfl (eC rfl (eC rfl (eN _)))) (hD := (subc 0 rfl sQ))
   exact (hT.elim h34 (fun h => h.elim h36 h38)).elim
  refine zJ ?_
  exact kQ (hKj2 (_, _, _, _, L) ⟨hW.skip (wB hp2 h26), by show _ ≤ _; omega⟩) (eC rfl (eC rfl (eC rfl (eN _))))
 intro ⟨m, A, ca, xs, L⟩ hI
 replace hI : WI v f [2, 33] L ∧ m ≤ 4 := hI
 change Run _ _ _ _ _ [(4, .slice A m ca), (3, _), (0, _)] (HA.row A m ca 102 1 xs :: HA.blk b6 (ycells 4 ⟨#[]⟩ ⟨#[]⟩ none 0 0) 150 :: []) (.ptrs xs (L.flatMap prY) :: .dblk b cs 124 :: .flds mb2 cs f :: .gr mb G :: .tab :: ft :: [])
 obtain ⟨hW, hm⟩ := hI
 refine zD (zD ?_)
 refine zB (sT ?_)
 refine zA (zH fo124_1 rfl rfl ?_)
 refine zA (zM 1 sc111 rfl rfl rfl hc1 ?_)
 refine zA (yF pn111 rfl rfl ?_)
 refine zC (kE [(62, _), (4, _), (3, _), (0, _)] rfl ?_)
 refine yW [3, 0] (fun (⟨m, A, ca, xs, L⟩ : T5) => WI v f [1, 2, 33] L ∧ m ≤ 6) eE (eM b6) (eD b cs mb2 mb f G ft) ?_ ?_
 ·intro Kj3 hKj3
  refine yI rfl (fun h62 => ?_) (fun h62 => ?_)
  ·refine wA 2 1 rfl (by decide) (by decide) hc1 hp1 h62 hU (fun fv x a hpa hfv hgx hkw hr => ?_)
   subst hpa
   have hF := HF _ _ hgx (by rw [hkw]; decide)
   rw [hkw] at hF
   change Fld ft mb G 1 x at hF
   change FvRel _ 1 x fv at hr
   obtain rfl := sS hr
   refine sO 0 rfl (fun p hp hs => ?_)
   cases hp
   refine zB (sT ?_)
   refine zA (zH fo124_1 rfl rfl ?_)
   refine zA (zM 3 sc111 rfl rfl rfl hc1 ?_)
   refine zA (zP rfl rfl ?_)
   refine zA (yV 0 sc9 rfl rfl rfl ?_)
   refine zA (zW rfl rfl rfl (c151 _ hs) sub0 (fun u70 D70 hv70 => ?_))
   obtain ⟨b70, rfl, rfl⟩ := hv70
   refine zA ?_
   refine yR 0 rfl rfl rfl (c150 _ _ _ _ _ _ (by decide) (by omega)) rfl sub0 (fun u71 M71 D71 hv71 => ?_)
   obtain ⟨A71, c71, b71, rfl, rfl, rfl⟩ := hv71
   refine zA (zE rfl rfl ?_)
   refine zC (kE [(4, _), (3, _), (0, _)] rfl ?_)
   refine yT (L := L) 4 0 1 rfl rfl rfl ?_
   exact kQ (hKj3 (_, _, _, _, L ++ [(keyOf 1, _)]) ⟨hW.add rfl hkw (by decide) (by decide) hgx (.inl ⟨rfl, rfl⟩), by show _ + 2 ≤ _; omega⟩) (eC rfl (eC rfl (eC rfl (eN _)))) (hD := (subc 0 rfl sQ))
  refine zJ ?_
  exact kQ (hKj3 (_, _, _, _, L) ⟨hW.skip (wB hp1 h62), by show _ ≤ _; omega⟩) (eC rfl (eC rfl (eC rfl (eN _))))
 intro ⟨m, A, ca, xs, L⟩ hI
 replace hI : WI v f [1, 2, 33] L ∧ m ≤ 6 := hI
 change Run _ _ _ _ _ [(4, .slice A m ca), (3, _), (0, _)] (HA.row A m ca 102 1 xs :: HA.blk b6 (ycells 4 ⟨#[]⟩ ⟨#[]⟩ none 0 0) 150 :: []) (.ptrs xs (L.flatMap prY) :: .dblk b cs 124 :: .flds mb2 cs f :: .gr mb G :: .tab :: ft :: [])
 obtain ⟨hW, hm⟩ := hI
 refine zD (zD ?_)
 refine zB (sT ?_)
 refine zA (zH fo124_4 rfl rfl ?_)
 refine zA (zM 1 sc112 rfl rfl rfl hc4 ?_)
 refine zA (yF pn112 rfl rfl ?_)
 refine zA (zF rfl rfl ?_)
 refine vB (s := 77) rfl (hn4) (zG rfl rfl rfl rfl ?_)
 refine zG rfl rfl rfl rfl (zG rfl rfl rfl rfl ?_)
 refine zG rfl rfl rfl rfl (zG rfl rfl rfl rfl ?_)
 refine zG rfl rfl rfl rfl (zA ?_)
 refine zO rfl rfl rfl (zC ?_)
 refine kE [(84, _), (4, _), (3, _), (0, _)] rfl (wY rfl ?_)
 refine zJ (zD ?_)
 refine zD (zB ?_)
 refine sT (zA ?_)
 refine zH fo124_5 rfl rfl (zA ?_)
 refine zM 1 sc112 rfl rfl rfl hc5 (zA ?_)
 refine yF pn112 rfl rfl (zA ?_)
 refine zF rfl rfl (vB (s := 99) rfl (hn5) ?_)
 refine zG rfl rfl rfl rfl (zG rfl rfl rfl rfl ?_)
 refine zG rfl rfl rfl rfl (zG rfl rfl rfl rfl ?_)
 refine zG rfl rfl rfl rfl (zG rfl rfl rfl rfl ?_)
 refine zA (zO rfl rfl rfl ?_)
 refine zC (kE [(106, _), (4, _), (3, _), (0, _)] rfl ?_)
 refine wY rfl (zJ ?_)
 refine zD (zD ?_)
 refine zB (sT ?_)
 refine zA (zH fo124_27 rfl rfl ?_)
 refine zA (zM 1 sc121 rfl rfl rfl hc27 ?_)
 refine zA (yF pn121 rfl rfl ?_)
 refine zC (kE [(120, _), (4, _), (3, _), (0, _)] rfl ?_)
 refine yW [3, 0] (fun (⟨m, A, ca, xs, L⟩ : T5) => WI v f [27, 1, 2, 33] L ∧ m ≤ 8) eE (eM b6) (eD b cs mb2 mb f G ft) ?_ ?_
 ·intro Kj4 hKj4
  refine yI rfl (fun h120 => ?_) (fun h120 => ?_)
  ·refine wA 2 27 rfl (by decide) (by decide) hc27 hp27 h120 hU (fun fv x a hpa hfv hgx hkw hr => ?_)
   subst hpa
   have hF := HF _ _ hgx (by rw [hkw]; decide)
   rw [hkw] at hF
   change Fld ft mb G 12 x at hF
   change FvRel _ 12 x fv at hr
   refine zB (sT ?_)
   refine zA (zH fo124_27 rfl rfl ?_)
   refine zA (zM 2 sc121 rfl rfl rfl hc27 ?_)
   refine zA (zW rfl rfl rfl (w12 hF hr) (subc 0 rfl (subc 4 rfl (sub2 5 6 rfl rfl))) (fun u126 D126 hv126 => ?_))
   obtain ⟨z, hz, b126, rfl, rfl⟩ := hv126
   refine zA ?_
   refine yR 0 rfl rfl rfl (c150 _ _ _ _ _ _ (by decide) (by omega)) rfl sub0 (fun u127 M127 D127 hv127 => ?_)
   obtain ⟨A127, c127, b127, rfl, rfl, rfl⟩ := hv127
   refine zA (zE rfl rfl ?_)
   refine zC (yT (L := L) 3 0 1 rfl rfl rfl ?_)
   exact kQ (hKj4 (_, _, _, _, L ++ [(keyOf 27, _)]) ⟨hW.add rfl hkw (by decide) (by decide) hgx hz, by show _ + 2 ≤ _; omega⟩) (eC rfl (eC rfl (eC rfl (eN _)))) (hD := (subc 0 rfl sQ))
  refine zJ ?_
  exact kQ (hKj4 (_, _, _, _, L) ⟨hW.skip (wB hp27 h120), by show _ ≤ _; omega⟩) (eC rfl (eC rfl (eC rfl (eN _))))
 intro ⟨m, A, ca, xs, L⟩ hI
 replace hI : WI v f [27, 1, 2, 33] L ∧ m ≤ 8 := hI
 change Run _ _ _ _ _ [(4, .slice A m ca), (3, _), (0, _)] (HA.row A m ca 102 1 xs :: HA.blk b6 (ycells 4 ⟨#[]⟩ ⟨#[]⟩ none 0 0) 150 :: []) (.ptrs xs (L.flatMap prY) :: .dblk b cs 124 :: .flds mb2 cs f :: .gr mb G :: .tab :: ft :: [])
 obtain ⟨hW, hm⟩ := hI
 refine zD (zD ?_)
 refine zB (sT ?_)
 refine zA (zH fo124_15 rfl rfl ?_)
 refine zA (zM 1 sc116 rfl rfl rfl hc15 ?_)
 refine zA (yF pn116 rfl rfl ?_)
 refine zC (kE [(132, _), (4, _), (3, _), (0, _)] rfl ?_)
 refine yW [3, 0] (fun (⟨m, A, ca, xs, L⟩ : T5) => WI v f [15, 27, 1, 2, 33] L ∧ m ≤ 10) eE (eM b6) (eD b cs mb2 mb f G ft) ?_ ?_
 ·intro Kj5 hKj5
  refine yI rfl (fun h132 => ?_) (fun h132 => ?_)
  ·refine wA 2 15 rfl (by decide) (by decide) hc15 hp15 h132 hU (fun fv x a hpa hfv hgx hkw hr => ?_)
   subst hpa
   have hF := HF _ _ hgx (by rw [hkw]; decide)
   rw [hkw] at hF
   change Fld ft mb G 7 x at hF
   change FvRel _ 7 x fv at hr
   refine zB (sT ?_)
   refine zA (zH fo124_15 rfl rfl ?_)
   refine zA (zM 2 sc116 rfl rfl rfl hc15 ?_)
   refine zA (zW rfl rfl rfl (w7 hF hr) (subc 0 rfl (subc 4 rfl (sub2 5 6 rfl rfl))) (fun u138 D138 hv138 => ?_))
   obtain ⟨z, hz, b138, rfl, rfl⟩ := hv138
   refine zA ?_
   refine yR 0 rfl rfl rfl (c150 _ _ _ _ _ _ (by decide) (by omega)) rfl sub0 (fun u139 M139 D139 hv139 => ?_)
   obtain ⟨A139, c139, b139, rfl, rfl, rfl⟩ := hv139
   refine zA (zE rfl rfl ?_)
   refine zC (yT (L := L) 3 0 1 rfl rfl rfl ?_)
   exact kQ (hKj5 (_, _, _, _, L ++ [(keyOf 15, _)]) ⟨hW.add rfl hkw (by decide) (by decide) hgx hz, by show _ + 2 ≤ _; omega⟩) (eC rfl (eC rfl (eC rfl (eN _)))) (hD := (subc 0 rfl sQ))
  refine zJ ?_
  exact kQ (hKj5 (_, _, _, _, L) ⟨hW.skip (wB hp15 h132), by show _ ≤ _; omega⟩) (eC rfl (eC rfl (eC rfl (eN _))))
 intro ⟨m, A, ca, xs, L⟩ hI
 replace hI : WI v f [15, 27, 1, 2, 33] L ∧ m ≤ 10 := hI
 change Run _ _ _ _ _ [(4, .slice A m ca), (3, _), (0, _)] (HA.row A m ca 102 1 xs :: HA.blk b6 (ycells 4 ⟨#[]⟩ ⟨#[]⟩ none 0 0) 150 :: []) (.ptrs xs (L.flatMap prY) :: .dblk b cs 124 :: .flds mb2 cs f :: .gr mb G :: .tab :: ft :: [])
 obtain ⟨hW, hm⟩ := hI
 refine zD (zD ?_)
 refine zB (sT ?_)
 refine zA (zH fo124_34 rfl rfl ?_)
 refine zA (zM 1 sc111 rfl rfl rfl hc34 ?_)
 refine zA (yF pn111 rfl rfl ?_)
 refine zC (kE [(144, _), (4, _), (3, _), (0, _)] rfl ?_)
 refine yW [3, 0] (fun (⟨m, A, ca, xs, L⟩ : T5) => WI v f [34, 15, 27, 1, 2, 33] L ∧ m ≤ 12) eE (eM b6) (eD b cs mb2 mb f G ft) ?_ ?_
 ·intro Kj6 hKj6
  refine yI rfl (fun h144 => ?_) (fun h144 => ?_)
  ·refine wA 2 34 rfl (by decide) (by decide) hc34 hp34 h144 hU (fun fv x a hpa hfv hgx hkw hr => ?_)
   subst hpa
   have hF := HF _ _ hgx (by rw [hkw]; decide)
   rw [hkw] at hF
   change Fld ft mb G 1 x at hF
   change FvRel _ 1 x fv at hr
   obtain rfl := sS hr
   refine sO 0 rfl (fun p hp hs => ?_)
   cases hp
   refine zB (sT ?_)
   refine zA (zH fo124_34 rfl rfl ?_)
   refine zA (zM 3 sc111 rfl rfl rfl hc34 ?_)
   refine zA (zP rfl rfl ?_)
   refine zA (yV 0 sc9 rfl rfl rfl ?_)
   refine zA (zW rfl rfl rfl (c151 _ hs) sub0 (fun u152 D152 hv152 => ?_))
   obtain ⟨b152, rfl, rfl⟩ := hv152
   refine zA ?_
   refine yR 0 rfl rfl rfl (c150 _ _ _ _ _ _ (by decide) (by omega)) rfl sub0 (fun u153 M153 D153 hv153 => ?_)
   obtain ⟨A153, c153, b153, rfl, rfl, rfl⟩ := hv153
   refine zA (zE rfl rfl ?_)
   refine zC (kE [(4, _), (3, _), (0, _)] rfl ?_)
   refine yT (L := L) 4 0 1 rfl rfl rfl ?_
   exact kQ (hKj6 (_, _, _, _, L ++ [(keyOf 34, _)]) ⟨hW.add rfl hkw (by decide) (by decide) hgx (.inl ⟨rfl, rfl⟩), by show _ + 2 ≤ _; omega⟩) (eC rfl (eC rfl (eC rfl (eN _)))) (hD := (subc 0 rfl sQ))
  refine zJ ?_
  exact kQ (hKj6 (_, _, _, _, L) ⟨hW.skip (wB hp34 h144), by show _ ≤ _; omega⟩) (eC rfl (eC rfl (eC rfl (eN _))))
 intro ⟨m, A, ca, xs, L⟩ hI
 replace hI : WI v f [34, 15, 27, 1, 2, 33] L ∧ m ≤ 12 := hI
 change Run _ _ _ _ _ [(4, .slice A m ca), (3, _), (0, _)] (HA.row A m ca 102 1 xs :: HA.blk b6 (ycells 4 ⟨#[]⟩ ⟨#[]⟩ none 0 0) 150 :: []) (.ptrs xs (L.flatMap prY) :: .dblk b cs 124 :: .flds mb2 cs f :: .gr mb G :: .tab :: ft :: [])
 obtain ⟨hW, hm⟩ := hI
 refine zD (zD ?_)
 refine zB (sT ?_)
 refine zA (zH fo124_21 rfl rfl ?_)
 refine zA (zM 1 sc117 rfl rfl rfl hc21 ?_)
 refine zA (yF pn117 rfl rfl ?_)
 refine zC (kE [(158, _), (4, _), (3, _), (0, _)] rfl ?_)
 refine yW [3, 0] (fun (⟨m, A, ca, xs, L⟩ : T5) => WI v f [21, 34, 15, 27, 1, 2, 33] L ∧ m ≤ 14) eE (eM b6) (eD b cs mb2 mb f G ft) ?_ ?_
 ·intro Kj7 hKj7
  refine yI rfl (fun h158 => ?_) (fun h158 => ?_)
  ·refine wA 2 21 rfl (by decide) (by decide) hc21 hp21 h158 hU (fun fv x a hpa hfv hgx hkw hr => ?_)
   subst hpa
   have hF := HF _ _ hgx (by rw [hkw]; decide)
   rw [hkw] at hF
   change Fld ft mb G 8 x at hF
   change FvRel _ 8 x fv at hr
   obtain rfl := texts_of hr
   refine run_texts 0 rfl (fun p sl hp => ?_)
   cases hp
   refine zB (sT ?_)
   refine zA (zH fo124_21 rfl rfl ?_)
   refine zA (zM 4 sc117 rfl rfl rfl hc21 ?_)
   refine zA (zP rfl rfl ?_)
   refine zA (yV 0 sc22 rfl rfl rfl ?_)
   refine zA (zW rfl rfl rfl (w8 hF rfl) (sub1 1 rfl) (fun u166 D166 hv166 => ?_))
   obtain ⟨z, hz, b166, rfl, rfl⟩ := hv166
   refine zA ?_
   refine yR 0 rfl rfl rfl (c150 _ _ _ _ _ _ (by decide) (by omega)) rfl sub0 (fun u167 M167 D167 hv167 => ?_)
   obtain ⟨A167, c167, b167, rfl, rfl, rfl⟩ := hv167
   refine zA (zE rfl rfl ?_)
   refine zC (kE [(4, _), (3, _), (0, _)] rfl ?_)
   refine yT (L := L) 5 0 1 rfl rfl rfl ?_
   exact kQ (hKj7 (_, _, _, _, L ++ [(keyOf 21, _)]) ⟨hW.add rfl hkw (by decide) (by decide) hgx hz, by show _ + 2 ≤ _; omega⟩) (eC rfl (eC rfl (eC rfl (eN _)))) (hD := (subc 0 rfl sQ))
  refine zJ ?_
  exact kQ (hKj7 (_, _, _, _, L) ⟨hW.skip (wB hp21 h158), by show _ ≤ _; omega⟩) (eC rfl (eC rfl (eC rfl (eN _))))
 intro ⟨m, A, ca, xs, L⟩ hI
 replace hI : WI v f [21, 34, 15, 27, 1, 2, 33] L ∧ m ≤ 14 := hI
 change Run _ _ _ _ _ [(4, .slice A m ca), (3, _), (0, _)] (HA.row A m ca 102 1 xs :: HA.blk b6 (ycells 4 ⟨#[]⟩ ⟨#[]⟩ none 0 0) 150 :: []) (.ptrs xs (L.flatMap prY) :: .dblk b cs 124 :: .flds mb2 cs f :: .gr mb G :: .tab :: ft :: [])
 obtain ⟨hW, hm⟩ := hI
 refine zD (zD ?_)
 refine zB (sT ?_)
 refine zA (zH fo124_22 rfl rfl ?_)
 refine zA (zM 1 sc115 rfl rfl rfl hc22 ?_)
 refine zA (yF pn115 rfl rfl ?_)
 refine zC (kE [(172, _), (4, _), (3, _), (0, _)] rfl ?_)
 refine yW [3, 0] (fun (⟨m, A, ca, xs, L⟩ : T5) => WI v f [22, 21, 34, 15, 27, 1, 2, 33] L ∧ m ≤ 16) eE (eM b6) (eD b cs mb2 mb f G ft) ?_ ?_
 ·intro Kj8 hKj8
  refine yI rfl (fun h172 => ?_) (fun h172 => ?_)
  ·refine wA 2 22 rfl (by decide) (by decide) hc22 hp22 h172 hU (fun fv x a hpa hfv hgx hkw hr => ?_)
   subst hpa
   have hF := HF _ _ hgx (by rw [hkw]; decide)
   rw [hkw] at hF
   change Fld ft mb G 6 x at hF
   change FvRel _ 6 x fv at hr
   refine zB (sT ?_)
   refine zA (zH fo124_22 rfl rfl ?_)
   refine zA (zM 2 sc115 rfl rfl rfl hc22 ?_)
   refine zA (zW rfl rfl rfl (w6 hF hr) (subc 0 rfl (subc 4 rfl (sub2 5 6 rfl rfl))) (fun u178 D178 hv178 => ?_))
   obtain ⟨z, hz, b178, rfl, rfl⟩ := hv178
   refine zA ?_
   refine yR 0 rfl rfl rfl (c150 _ _ _ _ _ _ (by decide) (by omega)) rfl sub0 (fun u179 M179 D179 hv179 => ?_)
   obtain ⟨A179, c179, b179, rfl, rfl, rfl⟩ := hv179
   refine zA (zE rfl rfl ?_)
   refine zC (yT (L := L) 3 0 1 rfl rfl rfl ?_)
   exact kQ (hKj8 (_, _, _, _, L ++ [(keyOf 22, _)]) ⟨hW.add rfl hkw (by decide) (by decide) hgx hz, by show _ + 2 ≤ _; omega⟩) (eC rfl (eC rfl (eC rfl (eN _)))) (hD := (subc 0 rfl sQ))
  refine zJ ?_
  exact kQ (hKj8 (_, _, _, _, L) ⟨hW.skip (wB hp22 h172), by show _ ≤ _; omega⟩) (eC rfl (eC rfl (eC rfl (eN _))))
 intro ⟨m, A, ca, xs, L⟩ hI
 replace hI : WI v f [22, 21, 34, 15, 27, 1, 2, 33] L ∧ m ≤ 16 := hI
 change Run _ _ _ _ _ [(4, .slice A m ca), (3, _), (0, _)] (HA.row A m ca 102 1 xs :: HA.blk b6 (ycells 4 ⟨#[]⟩ ⟨#[]⟩ none 0 0) 150 :: []) (.ptrs xs (L.flatMap prY) :: .dblk b cs 124 :: .flds mb2 cs f :: .gr mb G :: .tab :: ft :: [])
 obtain ⟨hW, hm⟩ := hI
 refine zD (zD ?_)
 refine zB (sT ?_)
 refine zA (zH fo124_24 rfl rfl ?_)
 refine zA (zM 1 sc118 rfl rfl rfl hc24 ?_)
 refine zA (yF pn118 rfl rfl ?_)
 refine zC (kE [(184, _), (4, _), (3, _), (0, _)] rfl ?_)
 refine yW [3, 0] (fun (⟨m, A, ca, xs, L⟩ : T5) => WI v f [24, 22, 21, 34, 15, 27, 1, 2, 33] L ∧ m ≤ 18) eE (eM b6) (eD b cs mb2 mb f G ft) ?_ ?_
 ·intro Kj9 hKj9
  refine yI rfl (fun h184 => ?_) (fun h184 => ?_)
  ·refine wA 2 24 rfl (by decide) (by decide) hc24 hp24 h184 hU (fun fv x a hpa hfv hgx hkw hr => ?_)
   subst hpa
   have hF := HF _ _ hgx (by rw [hkw]; decide)
   rw [hkw] at hF
   change Fld ft mb G 9 x at hF
   change FvRel _ 9 x fv at hr
   refine zB (sT ?_)
   refine zA (zH fo124_24 rfl rfl ?_)
   refine zA (zM 2 sc118 rfl rfl rfl hc24 ?_)
   refine zA (zW rfl rfl rfl (w9 hF hr) (subc 0 rfl (subc 4 rfl (sub2 5 6 rfl rfl))) (fun u190 D190 hv190 => ?_))
   obtain ⟨z, hz, b190, rfl, rfl⟩ := hv190
   refine zA ?_
   refine yR 0 rfl rfl rfl (c150 _ _ _ _ _ _ (by decide) (by omega)) rfl sub0 (fun u191 M191 D191 hv191 => ?_)
   obtain ⟨A191, c191, b191, rfl, rfl, rfl⟩ := hv191
   refine zA (zE rfl rfl ?_)
   refine zC (yT (L := L) 3 0 1 rfl rfl rfl ?_)
   exact kQ (hKj9 (_, _, _, _, L ++ [(keyOf 24, _)]) ⟨hW.add rfl hkw (by decide) (by decide) hgx hz, by show _ + 2 ≤ _; omega⟩) (eC rfl (eC rfl (eC rfl (eN _)))) (hD := (subc 0 rfl sQ))
  refine zJ ?_
  exact kQ (hKj9 (_, _, _, _, L) ⟨hW.skip (wB hp24 h184), by show _ ≤ _; omega⟩) (eC rfl (eC rfl (eC rfl (eN _))))
 intro ⟨m, A, ca, xs, L⟩ hI
 replace hI : WI v f [24, 22, 21, 34, 15, 27, 1, 2, 33] L ∧ m ≤ 18 := hI
 change Run _ _ _ _ _ [(4, .slice A m ca), (3, _), (0, _)] (HA.row A m ca 102 1 xs :: HA.blk b6 (ycells 4 ⟨#[]⟩ ⟨#[]⟩ none 0 0) 150 :: []) (.ptrs xs (L.flatMap prY) :: .dblk b cs 124 :: .flds mb2 cs f :: .gr mb G :: .tab :: ft :: [])
 obtain ⟨hW, hm⟩ := hI
 refine zD (zD ?_)
 refine zB (sT ?_)
 refine zA (zH fo124_23 rfl rfl ?_)
 refine zA (zM 1 sc118 rfl rfl rfl hc23 ?_)
 refine zA (yF pn118 rfl rfl ?_)
 refine zC (kE [(196, _), (4, _), (3, _), (0, _)] rfl ?_)
 refine yW [3, 0] (fun (⟨m, A, ca, xs, L⟩ : T5) => WI v f [23, 24, 22, 21, 34, 15, 27, 1, 2, 33] L ∧ m ≤ 20) eE (eM b6) (eD b cs mb2 mb f G ft) ?_ ?_
 ·intro Kj10 hKj10
  refine yI rfl (fun h196 => ?_) (fun h196 => ?_)
  ·refine wA 2 23 rfl (by decide) (by decide) hc23 hp23 h196 hU (fun fv x a hpa hfv hgx hkw hr => ?_)
   subst hpa
   have hF := HF _ _ hgx (by rw [hkw]; decide)
   rw [hkw] at hF
   change Fld ft mb G 9 x at hF
   change FvRel _ 9 x fv at hr
   refine zB (sT ?_)
   refine zA (zH fo124_23 rfl rfl ?_)
   refine zA (zM 2 sc118 rfl rfl rfl hc23 ?_)
   refine zA (zW rfl rfl rfl (w9 hF hr) (subc 0 rfl (subc 4 rfl (sub2 5 6 rfl rfl))) (fun u202 D202 hv202 => ?_))
   obtain ⟨z, hz, b202, rfl, rfl⟩ := hv202
   refine zA ?_
   refine yR 0 rfl rfl rfl (c150 _ _ _ _ _ _ (by decide) (by omega)) rfl sub0 (fun u203 M203 D203 hv203 => ?_)
   obtain ⟨A203, c203, b203, rfl, rfl, rfl⟩ := hv203
   refine zA (zE rfl rfl ?_)
   refine zC (yT (L := L) 3 0 1 rfl rfl rfl ?_)
   exact kQ (hKj10 (_, _, _, _, L ++ [(keyOf 23, _)]) ⟨hW.add rfl hkw (by decide) (by decide) hgx hz, by show _ + 2 ≤ _; omega⟩) (eC rfl (eC rfl (eC rfl (eN _)))) (hD := (subc 0 rfl sQ))
  refine zJ ?_
  exact kQ (hKj10 (_, _, _, _, L) ⟨hW.skip (wB hp23 h196), by show _ ≤ _; omega⟩) (eC rfl (eC rfl (eC rfl (eN _))))
 intro ⟨m, A, ca, xs, L⟩ hI
 replace hI : WI v f [23, 24, 22, 21, 34, 15, 27, 1, 2, 33] L ∧ m ≤ 20 := hI
 change Run _ _ _ _ _ [(4, .slice A m ca), (3, _), (0, _)] (HA.row A m ca 102 1 xs :: HA.blk b6 (ycells 4 ⟨#[]⟩ ⟨#[]⟩ none 0 0) 150 :: []) (.ptrs xs (L.flatMap prY) :: .dblk b cs 124 :: .flds mb2 cs f :: .gr mb G :: .tab :: ft :: [])
 obtain ⟨hW, hm⟩ := hI
 refine zD (zD ?_)
 refine zB (sT ?_)
 refine zA (zH fo124_25 rfl rfl ?_)
 refine zA (zM 1 sc119 rfl rfl rfl hc25 ?_)
 refine zA (yF pn119 rfl rfl ?_)
 refine zC (kE [(208, _), (4, _), (3, _), (0, _)] rfl ?_)
 refine yW [3, 0] (fun (⟨m, A, ca, xs, L⟩ : T5) => WI v f [25, 23, 24, 22, 21, 34, 15, 27, 1, 2, 33] L ∧ m ≤ 22) eE (eM b6) (eD b cs mb2 mb f G ft) ?_ ?_
 ·intro Kj11 hKj11
  refine yI rfl (fun h208 => ?_) (fun h208 => ?_)
  ·refine wA 2 25 rfl (by decide) (by decide) hc25 hp25 h208 hU (fun fv x a hpa hfv hgx hkw hr => ?_)
   subst hpa
   have hF := HF _ _ hgx (by rw [hkw]; decide)
   rw [hkw] at hF
   change Fld ft mb G 10 x at hF
   change FvRel _ 10 x fv at hr
   refine zB (sT ?_)
   refine zA (zH fo124_25 rfl rfl ?_)
   refine zA (zM 2 sc119 rfl rfl rfl hc25 ?_)
   refine zA (zW rfl rfl rfl (w10 hF hr) (subc 0 rfl (subc 4 rfl (sub2 5 6 rfl rfl))) (fun u214 D214 hv214 => ?_))
   obtain ⟨z, hz, b214, rfl, rfl⟩ := hv214
   refine zA ?_
   refine yR 0 rfl rfl rfl (c150 _ _ _ _ _ _ (by decide) (by omega)) rfl sub0 (fun u215 M215 D215 hv215 => ?_)
   obtain ⟨A215, c215, b215, rfl, rfl, rfl⟩ := hv215
   refine zA (zE rfl rfl ?_)
   refine zC (yT (L := L) 3 0 1 rfl rfl rfl ?_)
   exact kQ (hKj11 (_, _, _, _, L ++ [(keyOf 25, _)]) ⟨hW.add rfl hkw (by decide) (by decide) hgx hz, by show _ + 2 ≤ _; omega⟩) (eC rfl (eC rfl (eC rfl (eN _)))) (hD := (subc 0 rfl sQ))
  refine zJ ?_
  exact kQ (hKj11 (_, _, _, _, L) ⟨hW.skip (wB hp25 h208), by show _ ≤ _; omega⟩) (eC rfl (eC rfl (eC rfl (eN _))))
 intro ⟨m, A, ca, xs, L⟩ hI
 replace hI : WI v f [25, 23, 24, 22, 21, 34, 15, 27, 1, 2, 33] L ∧ m ≤ 22 := hI
 change Run _ _ _ _ _ [(4, .slice A m ca), (3, _), (0, _)] (HA.row A m ca 102 1 xs :: HA.blk b6 (ycells 4 ⟨#[]⟩ ⟨#[]⟩ none 0 0) 150 :: []) (.ptrs xs (L.flatMap prY) :: .dblk b cs 124 :: .flds mb2 cs f :: .gr mb G :: .tab :: ft :: [])
 obtain ⟨hW, hm⟩ := hI
 refine zD (zD ?_)
 refine zB (sT ?_)
 refine zA (zH fo124_3 rfl rfl ?_)
 refine zA (zM 1 sc111 rfl rfl rfl hc3 ?_)
 refine zA (yF pn111 rfl rfl ?_)
 refine zC (kE [(220, _), (4, _), (3, _), (0, _)] rfl ?_)
 refine yW [3, 0] (fun (⟨m, A, ca, xs, L⟩ : T5) => WI v f [3, 25, 23, 24, 22, 21, 34, 15, 27, 1, 2, 33] L ∧ m ≤ 24) eE (eM b6) (eD b cs mb2 mb f G ft) ?_ ?_
 ·intro Kj12 hKj12
  refine yI rfl (fun h220 => ?_) (fun h220 => ?_)
  ·refine wA 2 3 rfl (by decide) (by decide) hc3 hp3 h220 hU (fun fv x a hpa hfv hgx hkw hr => ?_)
   subst hpa
   have hF := HF _ _ hgx (by rw [hkw]; decide)
   rw [hkw] at hF
   change Fld ft mb G 1 x at hF
   change FvRel _ 1 x fv at hr
   obtain rfl := sS hr
   refine sO 0 rfl (fun p hp hs => ?_)
   cases hp
   refine zB (sT ?_)
   refine zA (zH fo124_3 rfl rfl ?_)
   refine zA (zM 3 sc111 rfl rfl rfl hc3 ?_)
   refine zA (zP rfl rfl ?_)
   refine zA (yV 0 sc9 rfl rfl rfl ?_)
   refine zA (zW rfl rfl rfl (c151 _ hs) sub0 (fun u228 D228 hv228 => ?_))
   obtain ⟨b228, rfl, rfl⟩ := hv228
   refine zA ?_
   refine yR 0 rfl rfl rfl (c150 _ _ _ _ _ _ (by decide) (by omega)) rfl sub0 (fun u229 M229 D229 hv229 => ?_)
   obtain ⟨A229, c229, b229, rfl, rfl, rfl⟩ := hv229
   refine zA (zE rfl rfl ?_)
   refine zC (kE [(4, _), (3, _), (0, _)] rfl ?_)
   refine yT (L := L) 4 0 1 rfl rfl rfl ?_
   exact kQ (hKj12 (_, _, _, _, L ++ [(keyOf 3, _)]) ⟨hW.add rfl hkw (by decide) (by decide) hgx (.inl ⟨rfl, rfl⟩), by show _ + 2 ≤ _; omega⟩) (eC rfl (eC rfl (eC rfl (eN _)))) (hD := (subc 0 rfl sQ))
  refine zJ ?_
  exact kQ (hKj12 (_, _, _, _, L) ⟨hW.skip (wB hp3 h220), by show _ ≤ _; omega⟩) (eC rfl (eC rfl (eC rfl (eN _))))
 intro ⟨m, A, ca, xs, L⟩ hI
 replace hI : WI v f [3, 25, 23, 24, 22, 21, 34, 15, 27, 1, 2, 33] L ∧ m ≤ 24 := hI
 change Run _ _ _ _ _ [(4, .slice A m ca), (3, _), (0, _)] (HA.row A m ca 102 1 xs :: HA.blk b6 (ycells 4 ⟨#[]⟩ ⟨#[]⟩ none 0 0) 150 :: []) (.ptrs xs (L.flatMap prY) :: .dblk b cs 124 :: .flds mb2 cs f :: .gr mb G :: .tab :: ft :: [])
 obtain ⟨hW, hm⟩ := hI
 refine zD (zD ?_)
 refine zB (sT ?_)
 refine zA (zH fo124_6 rfl rfl ?_)
 refine zA (zM 1 sc113 rfl rfl rfl hc6 ?_)
 refine zA (yF pn113 rfl rfl ?_)
 refine zC (kE [(234, _), (4, _), (3, _), (0, _)] rfl ?_)
 refine yW [3, 0] (fun (⟨m, A, ca, xs, L⟩ : T5) => WI v f [6, 3, 25, 23, 24, 22, 21, 34, 15, 27, 1, 2, 33] L ∧ m ≤ 26) eE (eM b6) (eD b cs mb2 mb f G ft) ?_ ?_
 ·intro Kj13 hKj13
  refine yI rfl (fun h234 => ?_) (fun h234 => ?_)
  ·refine wA 2 6 rfl (by decide) (by decide) hc6 hp6 h234 hU (fun fv x a hpa hfv hgx hkw hr => ?_)
   subst hpa
   have hF := HF _ _ hgx (by rw [hkw]; decide)
   rw [hkw] at hF
   change Fld ft mb G 3 x at hF
   change FvRel _ 3 x fv at hr
   refine zB (sT ?_)
   refine zA (zH fo124_6 rfl rfl ?_)
   refine zA (zM 2 sc113 rfl rfl rfl hc6 ?_)
   refine zA (zW rfl rfl rfl (w3 hF hr) (subc 0 rfl (subc 4 rfl (sub2 5 6 rfl rfl))) (fun u240 D240 hv240 => ?_))
   obtain ⟨z, hz, b240, rfl, rfl⟩ := hv240
   refine zA ?_
   refine yR 0 rfl rfl rfl (c150 _ _ _ _ _ _ (by decide) (by omega)) rfl sub0 (fun u241 M241 D241 hv241 => ?_)
   obtain ⟨A241, c241, b241, rfl, rfl, rfl⟩ := hv241
   refine zA (zE rfl rfl ?_)
   refine zC (yT (L := L) 3 0 1 rfl rfl rfl ?_)
   exact kQ (hKj13 (_, _, _, _, L ++ [(keyOf 6, _)]) ⟨hW.add rfl hkw (by decide) (by decide) hgx hz, by show _ + 2 ≤ _; omega⟩) (eC rfl (eC rfl (eC rfl (eN _)))) (hD := (subc 0 rfl sQ))
  refine zJ ?_
  exact kQ (hKj13 (_, _, _, _, L) ⟨hW.skip (wB hp6 h234), by show _ ≤ _; omega⟩) (eC rfl (eC rfl (eC rfl (eN _))))
 intro ⟨m, A, ca, xs, L⟩ hI
 replace hI : WI v f [6, 3, 25, 23, 24, 22, 21, 34, 15, 27, 1, 2, 33] L ∧ m ≤ 26 := hI
 change Run _ _ _ _ _ [(4, .slice A m ca), (3, _), (0, _)] (HA.row A m ca 102 1 xs :: HA.blk b6 (ycells 4 ⟨#[]⟩ ⟨#[]⟩ none 0 0) 150 :: []) (.ptrs xs (L.flatMap prY) :: .dblk b cs 124 :: .flds mb2 cs f :: .gr mb G :: .tab :: ft :: [])
 obtain ⟨hW, hm⟩ := hI
 refine zD (zD ?_)
 refine zB (sT ?_)
 refine zA (zH fo124_7 rfl rfl ?_)
 refine zA (zM 1 sc113 rfl rfl rfl hc7 ?_)
 refine zA (yF pn113 rfl rfl ?_)
 refine zC (kE [(246, _), (4, _), (3, _), (0, _)] rfl ?_)
 refine yW [3, 0] (fun (⟨m, A, ca, xs, L⟩ : T5) => WI v f [7, 6, 3, 25, 23, 24, 22, 21, 34, 15, 27, 1, 2, 33] L ∧ m ≤ 28) eE (eM b6) (eD b cs mb2 mb f G ft) ?_ ?_
 ·intro Kj14 hKj14
  refine yI rfl (fun h246 => ?_) (fun h246 => ?_)
  ·refine wA 2 7 rfl (by decide) (by decide) hc7 hp7 h246 hU (fun fv x a hpa hfv hgx hkw hr => ?_)
   subst hpa
   have hF := HF _ _ hgx (by rw [hkw]; decide)
   rw [hkw] at hF
   change Fld ft mb G 3 x at hF
   change FvRel _ 3 x fv at hr
   refine zB (sT ?_)
   refine zA (zH fo124_7 rfl rfl ?_)
   refine zA (zM 2 sc113 rfl rfl rfl hc7 ?_)
   refine zA (zW rfl rfl rfl (w3 hF hr) (subc 0 rfl (subc 4 rfl (sub2 5 6 rfl rfl))) (fun u252 D252 hv252 => ?_))
   obtain ⟨z, hz, b252, rfl, rfl⟩ := hv252
   refine zA ?_
   refine yR 0 rfl rfl rfl (c150 _ _ _ _ _ _ (by decide) (by omega)) rfl sub0 (fun u253 M253 D253 hv253 => ?_)
   obtain ⟨A253, c253, b253, rfl, rfl, rfl⟩ := hv253
   refine zA (zE rfl rfl ?_)
   refine zC (yT (L := L) 3 0 1 rfl rfl rfl ?_)
   exact kQ (hKj14 (_, _, _, _, L ++ [(keyOf 7, _)]) ⟨hW.add rfl hkw (by decide) (by decide) hgx hz, by show _ + 2 ≤ _; omega⟩) (eC rfl (eC rfl (eC rfl (eN _)))) (hD := (subc 0 rfl sQ))
  refine zJ ?_
  exact kQ (hKj14 (_, _, _, _, L) ⟨hW.skip (wB hp7 h246), by show _ ≤ _; omega⟩) (eC rfl (eC rfl (eC rfl (eN _))))
 intro ⟨m, A, ca, xs, L⟩ hI
 replace hI : WI v f [7, 6, 3, 25, 23, 24, 22, 21, 34, 15, 27, 1, 2, 33] L ∧ m ≤ 28 := hI
 change Run _ _ _ _ _ [(4, .slice A m ca), (3, _), (0, _)] (HA.row A m ca 102 1 xs :: HA.blk b6 (ycells 4 ⟨#[]⟩ ⟨#[]⟩ none 0 0) 150 :: []) (.ptrs xs (L.flatMap prY) :: .dblk b cs 124 :: .flds mb2 cs f :: .gr mb G :: .tab :: ft :: [])
 obtain ⟨hW, hm⟩ := hI
 refine zD (zD ?_)
 refine zB (sT ?_)
 refine zA (zH fo124_8 rfl rfl ?_)
 refine zA (zM 1 sc112 rfl rfl rfl hc8 ?_)
 refine zA (yF pn112 rfl rfl ?_)
 refine zC (kE [(258, _), (4, _), (3, _), (0, _)] rfl ?_)
 refine yW [3, 0] (fun (⟨m, A, ca, xs, L⟩ : T5) => WI v f [8, 7, 6, 3, 25, 23, 24, 22, 21, 34, 15, 27, 1, 2, 33] L ∧ m ≤ 30) eE (eM b6) (eD b cs mb2 mb f G ft) ?_ ?_
 ·intro Kj15 hKj15
  refine yI rfl (fun h258 => ?_) (fun h258 => ?_)
  ·refine wA 2 8 rfl (by decide) (by decide) hc8 hp8 h258 hU (fun fv x a hpa hfv hgx hkw hr => ?_)
   subst hpa
   have hF := HF _ _ hgx (by rw [hkw]; decide)
   rw [hkw] at hF
   change Fld ft mb G 2 x at hF
   change FvRel _ 2 x fv at hr
   obtain rfl := bool_of hr
   refine run_bool 0 rfl (fun p hp => ?_)
   cases hp
   refine zB (sT ?_)
   refine zA (zH fo124_8 rfl rfl ?_)
   refine zA (zM 3 sc112 rfl rfl rfl hc8 ?_)
   refine zA (zP rfl rfl ?_)
   refine zA (yV 0 sc4 rfl rfl rfl ?_)
   refine zA (zW rfl rfl rfl (c153 _) sub0 (fun u266 D266 hv266 => ?_))
   obtain ⟨b266, rfl, rfl⟩ := hv266
   refine zA ?_
   refine yR 0 rfl rfl rfl (c150 _ _ _ _ _ _ (by decide) (by omega)) rfl sub0 (fun u267 M267 D267 hv267 => ?_)
   obtain ⟨A267, c267, b267, rfl, rfl, rfl⟩ := hv267
   refine zA (zE rfl rfl ?_)
   refine zC (kE [(4, _), (3, _), (0, _)] rfl ?_)
   refine yT (L := L) 4 0 1 rfl rfl rfl ?_
   exact kQ (hKj15 (_, _, _, _, L ++ [(keyOf 8, _)]) ⟨hW.add rfl hkw (by decide) (by decide) hgx (.inr (.inl ⟨rfl, rfl⟩)), by show _ + 2 ≤ _; omega⟩) (eC rfl (eC rfl (eC rfl (eN _)))) (hD := (subc 0 rfl sQ))
  refine zJ ?_
  exact kQ (hKj15 (_, _, _, _, L) ⟨hW.skip (wB hp8 h258), by show _ ≤ _; omega⟩) (eC rfl (eC rfl (eC rfl (eN _))))
 intro ⟨m, A, ca, xs, L⟩ hI
 replace hI : WI v f [8, 7, 6, 3, 25, 23, 24, 22, 21, 34, 15, 27, 1, 2, 33] L ∧ m ≤ 30 := hI
 change Run _ _ _ _ _ [(4, .slice A m ca), (3, _), (0, _)] (HA.row A m ca 102 1 xs :: HA.blk b6 (ycells 4 ⟨#[]⟩ ⟨#[]⟩ none 0 0) 150 :: []) (.ptrs xs (L.flatMap prY) :: .dblk b cs 124 :: .flds mb2 cs f :: .gr mb G :: .tab :: ft :: [])
 obtain ⟨hW, hm⟩ := hI
 refine zD (zD ?_)
 refine zB (sT ?_)
 refine zA (zH fo124_9 rfl rfl ?_)
 refine zA (zM 1 sc113 rfl rfl rfl hc9 ?_)
 refine zA (yF pn113 rfl rfl ?_)
 refine zC (kE [(272, _), (4, _), (3, _), (0, _)] rfl ?_)
 refine yW [3, 0] (fun (⟨m, A, ca, xs, L⟩ : T5) => WI v f [9, 8, 7, 6, 3, 25, 23, 24, 22, 21, 34, 15, 27, 1, 2, 33] L ∧ m ≤ 32) eE (eM b6) (eD b cs mb2 mb f G ft) ?_ ?_
 ·intro Kj16 hKj16
  refine yI rfl (fun h272 => ?_) (fun h272 => ?_)
  ·refine wA 2 9 rfl (by decide) (by decide) hc9 hp9 h272 hU (fun fv x a hpa hfv hgx hkw hr => ?_)
   subst hpa
   have hF := HF _ _ hgx (by rw [hkw]; decide)
   rw [hkw] at hF
   change Fld ft mb G 3 x at hF
   change FvRel _ 3 x fv at hr
   refine zB (sT ?_)
   refine zA (zH fo124_9 rfl rfl ?_)
   refine zA (zM 2 sc113 rfl rfl rfl hc9 ?_)
   refine zA (zW rfl rfl rfl (w3 hF hr) (subc 0 rfl (subc 4 rfl (sub2 5 6 rfl rfl))) (fun u278 D278 hv278 => ?_))
   obtain ⟨z, hz, b278, rfl, rfl⟩ := hv278
   refine zA ?_
   refine yR 0 rfl rfl rfl (c150 _ _ _ _ _ _ (by decide) (by omega)) rfl sub0 (fun u279 M279 D279 hv279 => ?_)
   obtain ⟨A279, c279, b279, rfl, rfl, rfl⟩ := hv279
   refine zA (zE rfl rfl ?_)
   refine zC (yT (L := L) 3 0 1 rfl rfl rfl ?_)
   exact kQ (hKj16 (_, _, _, _, L ++ [(keyOf 9, _)]) ⟨hW.add rfl hkw (by decide) (by decide) hgx hz, by show _ + 2 ≤ _; omega⟩) (eC rfl (eC rfl (eC rfl (eN _)))) (hD := (subc 0 rfl sQ))
  refine zJ ?_
  exact kQ (hKj16 (_, _, _, _, L) ⟨hW.skip (wB hp9 h272), by show _ ≤ _; omega⟩) (eC rfl (eC rfl (eC rfl (eN _))))
 intro ⟨m, A, ca, xs, L⟩ hI
 replace hI : WI v f [9, 8, 7, 6, 3, 25, 23, 24, 22, 21, 34, 15, 27, 1, 2, 33] L ∧ m ≤ 32 := hI
 change Run _ _ _ _ _ [(4, .slice A m ca), (3, _), (0, _)] (HA.row A m ca 102 1 xs :: HA.blk b6 (ycells 4 ⟨#[]⟩ ⟨#[]⟩ none 0 0) 150 :: []) (.ptrs xs (L.flatMap prY) :: .dblk b cs 124 :: .flds mb2 cs f :: .gr mb G :: .tab :: ft :: [])
 obtain ⟨hW, hm⟩ := hI
 refine zD (zD ?_)
 refine zB (sT ?_)
 refine zA (zH fo124_10 rfl rfl ?_)
 refine zA (zM 1 sc112 rfl rfl rfl hc10 ?_)
 refine zA (yF pn112 rfl rfl ?_)
 refine zC (kE [(284, _), (4, _), (3, _), (0, _)] rfl ?_)
 refine yW [3, 0] (fun (⟨m, A, ca, xs, L⟩ : T5) => WI v f [10, 9, 8, 7, 6, 3, 25, 23, 24, 22, 21, 34, 15, 27, 1, 2, 33] L ∧ m ≤ 34) eE (eM b6) (eD b cs mb2 mb f G ft) ?_ ?_
 ·intro Kj17 hKj17
  refine yI rfl (fun h284 => ?_) (fun h284 => ?_)
  ·refine wA 2 10 rfl (by decide) (by decide) hc10 hp10 h284 hU (fun fv x a hpa hfv hgx hkw hr => ?_)
   subst hpa
   have hF := HF _ _ hgx (by rw [hkw]; decide)
   rw [hkw] at hF
   change Fld ft mb G 2 x at hF
   change FvRel _ 2 x fv at hr
   obtain rfl := bool_of hr
   refine run_bool 0 rfl (fun p hp => ?_)
   cases hp
   refine zB (sT ?_)
   refine zA (zH fo124_10 rfl rfl ?_)
   refine zA (zM 3 sc112 rfl rfl rfl hc10 ?_)
   refine zA (zP rfl rfl ?_)
   refine zA (yV 0 sc4 rfl rfl rfl ?_)
   refine zA (zW rfl rfl rfl (c153 _) sub0 (fun u292 D292 hv292 => ?_))
   obtain ⟨b292, rfl, rfl⟩ := hv292
   refine zA ?_
   refine yR 0 rfl rfl rfl (c150 _ _ _ _ _ _ (by decide) (by omega)) rfl sub0 (fun u293 M293 D293 hv293 => ?_)
   obtain ⟨A293, c293, b293, rfl, rfl, rfl⟩ := hv293
   refine zA (zE rfl rfl ?_)
   refine zC (kE [(4, _), (3, _), (0, _)] rfl ?_)
   refine yT (L := L) 4 0 1 rfl rfl rfl ?_
   exact kQ (hKj17 (_, _, _, _, L ++ [(keyOf 10, _)]) ⟨hW.add rfl hkw (by decide) (by decide) hgx (.inr (.inl ⟨rfl, rfl⟩)), by show _ + 2 ≤ _; omega⟩) (eC rfl (eC rfl (eC rfl (eN _)))) (hD := (subc 0 rfl sQ))
  refine zJ ?_
  exact kQ (hKj17 (_, _, _, _, L) ⟨hW.skip (wB hp10 h284), by show _ ≤ _; omega⟩) (eC rfl (eC rfl (eC rfl (eN _))))
 intro ⟨m, A, ca, xs, L⟩ hI
 replace hI : WI v f [10, 9, 8, 7, 6, 3, 25, 23, 24, 22, 21, 34, 15, 27, 1, 2, 33] L ∧ m ≤ 34 := hI
 change Run _ _ _ _ _ [(4, .slice A m ca), (3, _), (0, _)] (HA.row A m ca 102 1 xs :: HA.blk b6 (ycells 4 ⟨#[]⟩ ⟨#[]⟩ none 0 0) 150 :: []) (.ptrs xs (L.flatMap prY) :: .dblk b cs 124 :: .flds mb2 cs f :: .gr mb G :: .tab :: ft :: [])
 obtain ⟨hW, hm⟩ := hI
 refine zD (zD ?_)
 refine zB (sT ?_)
 refine zA (zH fo124_11 rfl rfl ?_)
 refine zA (zM 1 sc114 rfl rfl rfl hc11 ?_)
 refine zA (yF pn114 rfl rfl ?_)
 refine zC (kE [(298, _), (4, _), (3, _), (0, _)] rfl ?_)
 refine yW [3, 0] (fun (⟨m, A, ca, xs, L⟩ : T5) => WI v f [11, 10, 9, 8, 7, 6, 3, 25, 23, 24, 22, 21, 34, 15, 27, 1, 2, 33] L ∧ m ≤ 36) eE (eM b6) (eD b cs mb2 mb f G ft) ?_ ?_
 ·intro Kj18 hKj18
  refine yI rfl (fun h298 => ?_) (fun h298 => ?_)
  ·refine wA 2 11 rfl (by decide) (by decide) hc11 hp11 h298 hU (fun fv x a hpa hfv hgx hkw hr => ?_)
   subst hpa
   have hF := HF _ _ hgx (by rw [hkw]; decide)
   rw [hkw] at hF
   change Fld ft mb G 4 x at hF
   change FvRel _ 4 x fv at hr
   obtain rfl := int_of hr
   refine run_int 0 rfl (fun p hp => ?_)
   cases hp
   have hn := Fld.int (.inl (by have := hF.fit; simp [FitLoc] at this; exact this.1)) hF.pl
   refine zB (sT ?_)
   refine zA (zH fo124_11 rfl rfl ?_)
   refine zA (zM 3 sc114 rfl rfl rfl hc11 ?_)
   refine zA (zP rfl rfl ?_)
   refine zA (yV 0 sc2 rfl rfl rfl ?_)
   refine zA (zW rfl rfl rfl (c161 _ hn.1 hn.2) (sub1 6 rfl) (fun u306 D306 hv306 => ?_))
   obtain ⟨b306, rfl, rfl⟩ := hv306
   refine zA ?_
   refine yR 0 rfl rfl rfl (c150 _ _ _ _ _ _ (by decide) (by omega)) rfl sub0 (fun u307 M307 D307 hv307 => ?_)
   obtain ⟨A307, c307, b307, rfl, rfl, rfl⟩ := hv307
   refine zA (zE rfl rfl ?_)
   refine zC (kE [(4, _), (3, _), (0, _)] rfl ?_)
   refine yT (L := L) 4 0 1 rfl rfl rfl ?_
   exact kQ (hKj18 (_, _, _, _, L ++ [(keyOf 11, _)]) ⟨hW.add rfl hkw (by decide) (by decide) hgx (.inr (.inr (.inr (.inr (.inl ⟨rfl, rfl⟩))))), by show _ + 2 ≤ _; omega⟩) (eC rfl (eC rfl (eC rfl (eN _)))) (hD := (subc 0 rfl sQ))
  refine zJ ?_
  exact kQ (hKj18 (_, _, _, _, L) ⟨hW.skip (wB hp11 h298), by show _ ≤ _; omega⟩) (eC rfl (eC rfl (eC rfl (eN _))))
 intro ⟨m, A, ca, xs, L⟩ hI
 replace hI : WI v f [11, 10, 9, 8, 7, 6, 3, 25, 23, 24, 22, 21, 34, 15, 27, 1, 2, 33] L ∧ m ≤ 36 := hI
 change Run _ _ _ _ _ [(4, .slice A m ca), (3, _), (0, _)] (HA.row A m ca 102 1 xs :: HA.blk b6 (ycells 4 ⟨#[]⟩ ⟨#[]⟩ none 0 0) 150 :: []) (.ptrs xs (L.flatMap prY) :: .dblk b cs 124 :: .flds mb2 cs f :: .gr mb G :: .tab :: ft :: [])
 obtain ⟨hW, hm⟩ := hI
 refine zD (zD ?_)
 refine zB (sT ?_)
 refine zA (zH fo124_12 rfl rfl ?_)
 refine zA (zM 1 sc114 rfl rfl rfl hc12 ?_)
 refine zA (yF pn114 rfl rfl ?_)
 refine zC (kE [(312, _), (4, _), (3, _), (0, _)] rfl ?_)
 refine yW [3, 0] (fun (⟨m, A, ca, xs, L⟩ : T5) => WI v f [12, 11, 10, 9, 8, 7, 6, 3, 25, 23, 24, 22, 21, 34, 15, 27, 1, 2, 33] L ∧ m ≤ 38) eE (eM b6) (eD b cs mb2 mb f G ft) ?_ ?_
 ·intro Kj19 hKj19
  refine yI rfl (fun h312 => ?_) (fun h312 => ?_)
  ·refine wA 2 12 rfl (by decide) (by decide) hc12 hp12 h312 hU (fun fv x a hpa hfv hgx hkw hr => ?_)
   subst hpa
   have hF := HF _ _ hgx (by rw [hkw]; decide)
   rw [hkw] at hF
   change Fld ft mb G 4 x at hF
   change FvRel _ 4 x fv at hr
   obtain rfl := int_of hr
   refine run_int 0 rfl (fun p hp => ?_)
   cases hp
   have hn := Fld.int (.inl (by have := hF.fit; simp [FitLoc] at this; exact this.1)) hF.pl
   refine zB (sT ?_)
   refine zA (zH fo124_12 rfl rfl ?_)
   refine zA (zM 3 sc114 rfl rfl rfl hc12 ?_)
   refine zA (zP rfl rfl ?_)
   refine zA (yV 0 sc2 rfl rfl rfl ?_)
   refine zA (zW rfl rfl rfl (c161 _ hn.1 hn.2) (sub1 6 rfl) (fun u320 D320 hv320 => ?_))
   obtain ⟨b320, rfl, rfl⟩ := hv320
   refine zA ?_
   refine yR 0 rfl rfl rfl (c150 _ _ _ _ _ _ (by decide) (by omega)) rfl sub0 (fun u321 M321 D321 hv321 => ?_)
   obtain ⟨A321, c321, b321, rfl, rfl, rfl⟩ := hv321
   refine zA (zE rfl rfl ?_)
   refine zC (kE [(4, _), (3, _), (0, _)] rfl ?_)
   refine yT (L := L) 4 0 1 rfl rfl rfl ?_
   exact kQ (hKj19 (_, _, _, _, L ++ [(keyOf 12, _)]) ⟨hW.add rfl hkw (by decide) (by decide) hgx (.inr (.inr (.inr (.inr (.inl ⟨rfl, rfl⟩))))), by show _ + 2 ≤ _; omega⟩) (eC rfl (eC rfl (eC rfl (eN _)))) (hD := (subc 0 rfl sQ))
  refine zJ ?_
  exact kQ (hKj19 (_, _, _, _, L) ⟨hW.skip (wB hp12 h312), by show _ ≤ _; omega⟩) (eC rfl (eC rfl (eC rfl (eN _))))
 intro ⟨m, A, ca, xs, L⟩ hI
 replace hI : WI v f [12, 11, 10, 9, 8, 7, 6, 3, 25, 23, 24, 22, 21, 34, 15, 27, 1, 2, 33] L ∧ m ≤ 38 := hI
 change Run _ _ _ _ _ [(4, .slice A m ca), (3, _), (0, _)] (HA.row A m ca 102 1 xs :: HA.blk b6 (ycells 4 ⟨#[]⟩ ⟨#[]⟩ none 0 0) 150 :: []) (.ptrs xs (L.flatMap prY) :: .dblk b cs 124 :: .flds mb2 cs f :: .gr mb G :: .tab :: ft :: [])
 obtain ⟨hW, hm⟩ := hI
 refine zD (zD ?_)
 refine zB (sT ?_)
 refine zA (zH fo124_13 rfl rfl ?_)
 refine zA (zM 1 sc111 rfl rfl rfl hc13 ?_)
 refine zA (yF pn111 rfl rfl ?_)
 refine zC (kE [(326, _), (4, _), (3, _), (0, _)] rfl ?_)
 refine yW [3, 0] (fun (⟨m, A, ca, xs, L⟩ : T5) => WI v f [13, 12, 11, 10, 9, 8, 7, 6, 3, 25, 23, 24, 22, 21, 34, 15, 27, 1, 2, 33] L ∧ m ≤ 40) eE (eM b6) (eD b cs mb2 mb f G ft) ?_ ?_
 ·intro Kj20 hKj20
  refine yI rfl (fun h326 => ?_) (fun h326 => ?_)
  ·refine wA 2 13 rfl (by decide) (by decide) hc13 hp13 h326 hU (fun fv x a hpa hfv hgx hkw hr => ?_)
   subst hpa
   have hF := HF _ _ hgx (by rw [hkw]; decide)
   rw [hkw] at hF
   change Fld ft mb G 1 x at hF
   change FvRel _ 1 x fv at hr
   obtain rfl := sS hr
   refine sO 0 rfl (fun p hp hs => ?_)
   cases hp
   refine zB (sT ?_)
   refine zA (zH fo124_13 rfl rfl ?_)
   refine zA (zM 3 sc111 rfl rfl rfl hc13 ?_)
   refine zA (zP rfl rfl ?_)
   refine zA (yV 0 sc9 rfl rfl rfl ?_)
   refine zA (zW rfl rfl rfl (c151 _ hs) sub0 (fun u334 D334 hv334 => ?_))
   obtain ⟨b334, rfl, rfl⟩ := hv334
   refine zA ?_
   refine yR 0 rfl rfl rfl (c150 _ _ _ _ _ _ (by decide) (by omega)) rfl sub0 (fun u335 M335 D335 hv335 => ?_)
   obtain ⟨A335, c335, b335, rfl, rfl, rfl⟩ := hv335
   refine zA (zE rfl rfl ?_)
   refine zC (kE [(4, _), (3, _), (0, _)] rfl ?_)
   refine yT (L := L) 4 0 1 rfl rfl rfl ?_
   exact kQ (hKj20 (_, _, _, _, L ++ [(keyOf 13, _)]) ⟨hW.add rfl hkw (by decide) (by decide) hgx (.inl ⟨rfl, rfl⟩), by show _ + 2 ≤ _; omega⟩) (eC rfl (eC rfl (eC rfl (eN _)))) (hD := (subc 0 rfl sQ))
  refine zJ ?_
  exact kQ (hKj20 (_, _, _, _, L) ⟨hW.skip (wB hp13 h326), by show _ ≤ _; omega⟩) (eC rfl (eC rfl (eC rfl (eN _))))
 intro ⟨m, A, ca, xs, L⟩ hI
 replace hI : WI v f [13, 12, 11, 10, 9, 8, 7, 6, 3, 25, 23, 24, 22, 21, 34, 15, 27, 1, 2, 33] L ∧ m ≤ 40 := hI
 change Run _ _ _ _ _ [(4, .slice A m ca), (3, _), (0, _)] (HA.row A m ca 102 1 xs :: HA.blk b6 (ycells 4 ⟨#[]⟩ ⟨#[]⟩ none 0 0) 150 :: []) (.ptrs xs (L.flatMap prY) :: .dblk b cs 124 :: .flds mb2 cs f :: .gr mb G :: .tab :: ft :: [])
 obtain ⟨hW, hm⟩ := hI
 refine zD (zD ?_)
 refine zB (sT ?_)
 refine zA (zH fo124_14 rfl rfl ?_)
 refine zA (zM 1 sc115 rfl rfl rfl hc14 ?_)
 refine zA (yF pn115 rfl rfl ?_)
 refine zC (kE [(340, _), (4, _), (3, _), (0, _)] rfl ?_)
 refine yW [3, 0] (fun (⟨m, A, ca, xs, L⟩ : T5) => WI v f [14, 13, 12, 11, 10, 9, 8, 7, 6, 3, 25, 23, 24, 22, 21, 34, 15, 27, 1, 2, 33] L ∧ m ≤ 42) eE (eM b6) (eD b cs mb2 mb f G ft) ?_ ?_
 ·intro Kj21 hKj21
  refine yI rfl (fun h340 => ?_) (fun h340 => ?_)
  ·refine wA 2 14 rfl (by decide) (by decide) hc14 hp14 h340 hU (fun fv x a hpa hfv hgx hkw hr => ?_)
   subst hpa
   have hF := HF _ _ hgx (by rw [hkw]; decide)
   rw [hkw] at hF
   change Fld ft mb G 6 x at hF
   change FvRel _ 6 x fv at hr
   refine zB (sT ?_)
   refine zA (zH fo124_14 rfl rfl ?_)
   refine zA (zM 2 sc115 rfl rfl rfl hc14 ?_)
   refine zA (zW rfl rfl rfl (w6 hF hr) (subc 0 rfl (subc 4 rfl (sub2 5 6 rfl rfl))) (fun u346 D346 hv346 => ?_))
   obtain ⟨z, hz, b346, rfl, rfl⟩ := hv346
   refine zA ?_
   refine yR 0 rfl rfl rfl (c150 _ _ _ _ _ _ (by decide) (by omega)) rfl sub0 (fun u347 M347 D347 hv347 => ?_)
   obtain ⟨A347, c347, b347, rfl, rfl, rfl⟩ := hv347
   refine zA (zE rfl rfl ?_)
   refine zC (yT (L := L) 3 0 1 rfl rfl rfl ?_)
   exact kQ (hKj21 (_, _, _, _, L ++ [(keyOf 14, _)]) ⟨hW.add rfl hkw (by decide) (by decide) hgx hz, by show _ + 2 ≤ _; omega⟩) (eC rfl (eC rfl (eC rfl (eN _)))) (hD := (subc 0 rfl sQ))
  refine zJ ?_
  exact kQ (hKj21 (_, _, _, _, L) ⟨hW.skip (wB hp14 h340), by show _ ≤ _; omega⟩) (eC rfl (eC rfl (eC rfl (eN _))))
 intro ⟨m, A, ca, xs, L⟩ hI
 replace hI : WI v f [14, 13, 12, 11, 10, 9, 8, 7, 6, 3, 25, 23, 24, 22, 21, 34, 15, 27, 1, 2, 33] L ∧ m ≤ 42 := hI
 change Run _ _ _ _ _ [(4, .slice A m ca), (3, _), (0, _)] (HA.row A m ca 102 1 xs :: HA.blk b6 (ycells 4 ⟨#[]⟩ ⟨#[]⟩ none 0 0) 150 :: []) (.ptrs xs (L.flatMap prY) :: .dblk b cs 124 :: .flds mb2 cs f :: .gr mb G :: .tab :: ft :: [])
 obtain ⟨hW, hm⟩ := hI
 refine zD (zD ?_)
 refine zB (sT ?_)
 refine zA (zH fo124_16 rfl rfl ?_)
 refine zA (zM 1 sc114 rfl rfl rfl hc16 ?_)
 refine zA (yF pn114 rfl rfl ?_)
 refine zC (kE [(352, _), (4, _), (3, _), (0, _)] rfl ?_)
 refine yW [3, 0] (fun (⟨m, A, ca, xs, L⟩ : T5) => WI v f [16, 14, 13, 12, 11, 10, 9, 8, 7, 6, 3, 25, 23, 24, 22, 21, 34, 15, 27, 1, 2, 33] L ∧ m ≤ 44) eE (eM b6) (eD b cs mb2 mb f G ft) ?_ ?_
 ·intro Kj22 hKj22
  refine yI rfl (fun h352 => ?_) (fun h352 => ?_)
  ·refine wA 2 16 rfl (by decide) (by decide) hc16 hp16 h352 hU (fun fv x a hpa hfv hgx hkw hr => ?_)
   subst hpa
   have hF := HF _ _ hgx (by rw [hkw]; decide)
   rw [hkw] at hF
   change Fld ft mb G 4 x at hF
   change FvRel _ 4 x fv at hr
   obtain rfl := int_of hr
   refine run_int 0 rfl (fun p hp => ?_)
   cases hp
   have hn := Fld.int (.inl (by have := hF.fit; simp [FitLoc] at this; exact this.1)) hF.pl
   refine zB (sT ?_)
   refine zA (zH fo124_16 rfl rfl ?_)
   refine zA (zM 3 sc114 rfl rfl rfl hc16 ?_)
   refine zA (zP rfl rfl ?_)
   refine zA (yV 0 sc2 rfl rfl rfl ?_)
   refine zA (zW rfl rfl rfl (c161 _ hn.1 hn.2) (sub1 6 rfl) (fun u360 D360 hv360 => ?_))
   obtain ⟨b360, rfl, rfl⟩ := hv360
   refine zA ?_
   refine yR 0 rfl rfl rfl (c150 _ _ _ _ _ _ (by decide) (by omega)) rfl sub0 (fun u361 M361 D361 hv361 => ?_)
   obtain ⟨A361, c361, b361, rfl, rfl, rfl⟩ := hv361
   refine zA (zE rfl rfl ?_)
   refine zC (kE [(4, _), (3, _), (0, _)] rfl ?_)
   refine yT (L := L) 4 0 1 rfl rfl rfl ?_
   exact kQ (hKj22 (_, _, _, _, L ++ [(keyOf 16, _)]) ⟨hW.add rfl hkw (by decide) (by decide) hgx (.inr (.inr (.inr (.inr (.inl ⟨rfl, rfl⟩))))), by show _ + 2 ≤ _; omega⟩) (eC rfl (eC rfl (eC rfl (eN _)))) (hD := (subc 0 rfl sQ))
  refine zJ ?_
  exact kQ (hKj22 (_, _, _, _, L) ⟨hW.skip (wB hp16 h352), by show _ ≤ _; omega⟩) (eC rfl (eC rfl (eC rfl (eN _))))
 intro ⟨m, A, ca, xs, L⟩ hI
 replace hI : WI v f [16, 14, 13, 12, 11, 10, 9, 8, 7, 6, 3, 25, 23, 24, 22, 21, 34, 15, 27, 1, 2, 33] L ∧ m ≤ 44 := hI
 change Run _ _ _ _ _ [(4, .slice A m ca), (3, _), (0, _)] (HA.row A m ca 102 1 xs :: HA.blk b6 (ycells 4 ⟨#[]⟩ ⟨#[]⟩ none 0 0) 150 :: []) (.ptrs xs (L.flatMap prY) :: .dblk b cs 124 :: .flds mb2 cs f :: .gr mb G :: .tab :: ft :: [])
 obtain ⟨hW, hm⟩ := hI
 refine zD (zD ?_)
 refine zB (sT ?_)
 refine zA (zH fo124_17 rfl rfl ?_)
 refine zA (zM 1 sc114 rfl rfl rfl hc17 ?_)
 refine zA (yF pn114 rfl rfl ?_)
 refine zC (kE [(366, _), (4, _), (3, _), (0, _)] rfl ?_)
 refine yW [3, 0] (fun (⟨m, A, ca, xs, L⟩ : T5) => WI v f [17, 16, 14, 13, 12, 11, 10, 9, 8, 7, 6, 3, 25, 23, 24, 22, 21, 34, 15, 27, 1, 2, 33] L ∧ m ≤ 46) eE (eM b6) (eD b cs mb2 mb f G ft) ?_ ?_
 ·intro Kj23 hKj23
  refine yI rfl (fun h366 => ?_) (fun h366 => ?_)
  ·refine wA 2 17 rfl (by decide) (by decide) hc17 hp17 h366 hU (fun fv x a hpa hfv hgx hkw hr => ?_)
   subst hpa
   have hF := HF _ _ hgx (by rw [hkw]; decide)
   rw [hkw] at hF
   change Fld ft mb G 4 x at hF
   change FvRel _ 4 x fv at hr
   obtain rfl := int_of hr
   refine run_int 0 rfl (fun p hp => ?_)
   cases hp
   have hn := Fld.int (.inl (by have := hF.fit; simp [FitLoc] at this; exact this.1)) hF.pl
   refine zB (sT ?_)
   refine zA (zH fo124_17 rfl rfl ?_)
   refine zA (zM 3 sc114 rfl rfl rfl hc17 ?_)
   refine zA (zP rfl rfl ?_)
   refine zA (yV 0 sc2 rfl rfl rfl ?_)
   refine zA (zW rfl rfl rfl (c161 _ hn.1 hn.2) (sub1 6 rfl) (fun u374 D374 hv374 => ?_))
   obtain ⟨b374, rfl, rfl⟩ := hv374
   refine zA ?_
   refine yR 0 rfl rfl rfl (c150 _ _ _ _ _ _ (by decide) (by omega)) rfl sub0 (fun u375 M375 D375 hv375 => ?_)
   obtain ⟨A375, c375, b375, rfl, rfl, rfl⟩ := hv375
   refine zA (zE rfl rfl ?_)
   refine zC (kE [(4, _), (3, _), (0, _)] rfl ?_)
   refine yT (L := L) 4 0 1 rfl rfl rfl ?_
   exact kQ (hKj23 (_, _, _, _, L ++ [(keyOf 17, _)]) ⟨hW.add rfl hkw (by decide) (by decide) hgx (.inr (.inr (.inr (.inr (.inl ⟨rfl, rfl⟩))))), by show _ + 2 ≤ _; omega⟩) (eC rfl (eC rfl (eC rfl (eN _)))) (hD := (subc 0 rfl sQ))
  refine zJ ?_
  exact kQ (hKj23 (_, _, _, _, L) ⟨hW.skip (wB hp17 h366), by show _ ≤ _; omega⟩) (eC rfl (eC rfl (eC rfl (eN _))))
 intro ⟨m, A, ca, xs, L⟩ hI
 replace hI : WI v f [17, 16, 14, 13, 12, 11, 10, 9, 8, 7, 6, 3, 25, 23, 24, 22, 21, 34, 15, 27, 1, 2, 33] L ∧ m ≤ 46 := hI
 change Run _ _ _ _ _ [(4, .slice A m ca), (3, _), (0, _)] (HA.row A m ca 102 1 xs :: HA.blk b6 (ycells 4 ⟨#[]⟩ ⟨#[]⟩ none 0 0) 150 :: []) (.ptrs xs (L.flatMap prY) :: .dblk b cs 124 :: .flds mb2 cs f :: .gr mb G :: .tab :: ft :: [])
 obtain ⟨hW, hm⟩ := hI
 refine zD (zD ?_)
 refine zB (sT ?_)
 refine zA (zH fo124_18 rfl rfl ?_)
 refine zA (zM 1 sc112 rfl rfl rfl hc18 ?_)
 refine zA (yF pn112 rfl rfl ?_)
 refine zC (kE [(380, _), (4, _), (3, _), (0, _)] rfl ?_)
 refine yW [3, 0] (fun (⟨m, A, ca, xs, L⟩ : T5) => WI v f [18, 17, 16, 14, 13, 12, 11, 10, 9, 8, 7, 6, 3, 25, 23, 24, 22, 21, 34, 15, 27, 1, 2, 33] L ∧ m ≤ 48) eE (eM b6) (eD b cs mb2 mb f G ft) ?_ ?_
 ·intro Kj24 hKj24
  refine yI rfl (fun h380 => ?_) (fun h380 => ?_)
  ·refine wA 2 18 rfl (by decide) (by decide) hc18 hp18 h380 hU (fun fv x a hpa hfv hgx hkw hr => ?_)
   subst hpa
   have hF := HF _ _ hgx (by rw [hkw]; decide)
   rw [hkw] at hF
   change Fld ft mb G 2 x at hF
   change FvRel _ 2 x fv at hr
   obtain rfl := bool_of hr
   refine run_bool 0 rfl (fun p hp => ?_)
   cases hp
   refine zB (sT ?_)
   refine zA (zH fo124_18 rfl rfl ?_)
   refine zA (zM 3 sc112 rfl rfl rfl hc18 ?_)
   refine zA (zP rfl rfl ?_)
   refine zA (yV 0 sc4 rfl rfl rfl ?_)
   refine zA (zW rfl rfl rfl (c153 _) sub0 (fun u388 D388 hv388 => ?_))
   obtain ⟨b388, rfl, rfl⟩ := hv388
   refine zA ?_
   refine yR 0 rfl rfl rfl (c150 _ _ _ _ _ _ (by decide) (by omega)) rfl sub0 (fun u389 M389 D389 hv389 => ?_)
   obtain ⟨A389, c389, b389, rfl, rfl, rfl⟩ := hv389
   refine zA (zE rfl rfl ?_)
   refine zC (kE [(4, _), (3, _), (0, _)] rfl ?_)
   refine yT (L := L) 4 0 1 rfl rfl rfl ?_
   exact kQ (hKj24 (_, _, _, _, L ++ [(keyOf 18, _)]) ⟨hW.add rfl hkw (by decide) (by decide) hgx (.inr (.inl ⟨rfl, rfl⟩)), by show _ + 2 ≤ _; omega⟩) (eC rfl (eC rfl (eC rfl (eN _)))) (hD := (subc 0 rfl sQ))
  refine zJ ?_
  exact kQ (hKj24 (_, _, _, _, L) ⟨hW.skip (wB hp18 h380), by show _ ≤ _; omega⟩) (eC rfl (eC rfl (eC rfl (eN _))))
 intro ⟨m, A, ca, xs, L⟩ hI
 replace hI : WI v f [18, 17, 16, 14, 13, 12, 11, 10, 9, 8, 7, 6, 3, 25, 23, 24, 22, 21, 34, 15, 27, 1, 2, 33] L ∧ m ≤ 48 := hI
 change Run _ _ _ _ _ [(4, .slice A m ca), (3, _), (0, _)] (HA.row A m ca 102 1 xs :: HA.blk b6 (ycells 4 ⟨#[]⟩ ⟨#[]⟩ none 0 0) 150 :: []) (.ptrs xs (L.flatMap prY) :: .dblk b cs 124 :: .flds mb2 cs f :: .gr mb G :: .tab :: ft :: [])
 obtain ⟨hW, hm⟩ := hI
 refine zD (zD ?_)
 refine zB (sT ?_)
 refine zA (zH fo124_19 rfl rfl ?_)
 refine zA (zM 1 sc114 rfl rfl rfl hc19 ?_)
 refine zA (yF pn114 rfl rfl ?_)
 refine zC (kE [(394, _), (4, _), (3, _), (0, _)] rfl ?_)
 refine yW [3, 0] (fun (⟨m, A, ca, xs, L⟩ : T5) => WI v f [19, 18, 17, 16, 14, 13, 12, 11, 10, 9, 8, 7, 6, 3, 25, 23, 24, 22, 21, 34, 15, 27, 1, 2, 33] L ∧ m ≤ 50) eE (eM b6) (eD b cs mb2 mb f G ft) ?_ ?_
 ·intro Kj25 hKj25
  refine yI rfl (fun h394 => ?_) (fun h394 => ?_)
  ·refine wA 2 19 rfl (by decide) (by decide) hc19 hp19 h394 hU (fun fv x a hpa hfv hgx hkw hr => ?_)
   subst hpa
   have hF := HF _ _ hgx (by rw [hkw]; decide)
   rw [hkw] at hF
   change Fld ft mb G 4 x at hF
   change FvRel _ 4 x fv at hr
   obtain rfl := int_of hr
   refine run_int 0 rfl (fun p hp => ?_)
   cases hp
   have hn := Fld.int (.inl (by have := hF.fit; simp [FitLoc] at this; exact this.1)) hF.pl
   refine zB (sT ?_)
   refine zA (zH fo124_19 rfl rfl ?_)
   refine zA (zM 3 sc114 rfl rfl rfl hc19 ?_)
   refine zA (zP rfl rfl ?_)
   refine zA (yV 0 sc2 rfl rfl rfl ?_)
   refine zA (zW rfl rfl rfl (c161 _ hn.1 hn.2) (sub1 6 rfl) (fun u402 D402 hv402 => ?_))
   obtain ⟨b402, rfl, rfl⟩ := hv402
   refine zA ?_
   refine yR 0 rfl rfl rfl (c150 _ _ _ _ _ _ (by decide) (by omega)) rfl sub0 (fun u403 M403 D403 hv403 => ?_)
   obtain ⟨A403, c403, b403, rfl, rfl, rfl⟩ := hv403
   refine zA (zE rfl rfl ?_)
   refine zC (kE [(4, _), (3, _), (0, _)] rfl ?_)
   refine yT (L := L) 4 0 1 rfl rfl rfl ?_
   exact kQ (hKj25 (_, _, _, _, L ++ [(keyOf 19, _)]) ⟨hW.add rfl hkw (by decide) (by decide) hgx (.inr (.inr (.inr (.inr (.inl ⟨rfl, rfl⟩))))), by show _ + 2 ≤ _; omega⟩) (eC rfl (eC rfl (eC rfl (eN _)))) (hD := (subc 0 rfl sQ))
  refine zJ ?_
  exact kQ (hKj25 (_, _, _, _, L) ⟨hW.skip (wB hp19 h394), by show _ ≤ _; omega⟩) (eC rfl (eC rfl (eC rfl (eN _))))
 intro ⟨m, A, ca, xs, L⟩ hI
 replace hI : WI v f [19, 18, 17, 16, 14, 13, 12, 11, 10, 9, 8, 7, 6, 3, 25, 23, 24, 22, 21, 34, 15, 27, 1, 2, 33] L ∧ m ≤ 50 := hI
 change Run _ _ _ _ _ [(4, .slice A m ca), (3, _), (0, _)] (HA.row A m ca 102 1 xs :: HA.blk b6 (ycells 4 ⟨#[]⟩ ⟨#[]⟩ none 0 0) 150 :: []) (.ptrs xs (L.flatMap prY) :: .dblk b cs 124 :: .flds mb2 cs f :: .gr mb G :: .tab :: ft :: [])
 obtain ⟨hW, hm⟩ := hI
 refine zD (zD ?_)
 refine zB (sT ?_)
 refine zA (zH fo124_20 rfl rfl ?_)
 refine zA (zM 1 sc114 rfl rfl rfl hc20 ?_)
 refine zA (yF pn114 rfl rfl ?_)
 refine zC (kE [(408, _), (4, _), (3, _), (0, _)] rfl ?_)
 refine yW [3, 0] (fun (⟨m, A, ca, xs, L⟩ : T5) => WI v f [20, 19, 18, 17, 16, 14, 13, 12, 11, 10, 9, 8, 7, 6, 3, 25, 23, 24, 22, 21, 34, 15, 27, 1, 2, 33] L ∧ m ≤ 52) eE (eM b6) (eD b cs mb2 mb f G ft) ?_ ?_
 ·intro Kj26 hKj26
  refine yI rfl (fun h408 => ?_) (fun h408 => ?_)
  ·refine wA 2 20 rfl (by decide) (by decide) hc20 hp20 h408 hU (fun fv x a hpa hfv hgx hkw hr => ?_)
   subst hpa
   have hF := HF _ _ hgx (by rw [hkw]; decide)
   rw [hkw] at hF
   change Fld ft mb G 4 x at hF
   change FvRel _ 4 x fv at hr
   obtain rfl := int_of hr
   refine run_int 0 rfl (fun p hp => ?_)
   cases hp
   have hn := Fld.int (.inl (by have := hF.fit; simp [FitLoc] at this; exact this.1)) hF.pl
   refine zB (sT ?_)
   refine zA (zH fo124_20 rfl rfl ?_)
   refine zA (zM 3 sc114 rfl rfl rfl hc20 ?_)
   refine zA (zP rfl rfl ?_)
   refine zA (yV 0 sc2 rfl rfl rfl ?_)
   refine zA (zW rfl rfl rfl (c161 _ hn.1 hn.2) (sub1 6 rfl) (fun u416 D416 hv416 => ?_))
   obtain ⟨b416, rfl, rfl⟩ := hv416
   refine zA ?_
   refine yR 0 rfl rfl rfl (c150 _ _ _ _ _ _ (by decide) (by omega)) rfl sub0 (fun u417 M417 D417 hv417 => ?_)
   obtain ⟨A417, c417, b417, rfl, rfl, rfl⟩ := hv417
   refine zA (zE rfl rfl ?_)
   refine zC (kE [(4, _), (3, _), (0, _)] rfl ?_)
   refine yT (L := L) 4 0 1 rfl rfl rfl ?_
   exact kQ (hKj26 (_, _, _, _, L ++ [(keyOf 20, _)]) ⟨hW.add rfl hkw (by decide) (by decide) hgx (.inr (.inr (.inr (.inr (.inl ⟨rfl, rfl⟩))))), by show _ + 2 ≤ _; omega⟩) (eC rfl (eC rfl (eC rfl (eN _)))) (hD := (subc 0 rfl sQ))
  refine zJ ?_
  exact kQ (hKj26 (_, _, _, _, L) ⟨hW.skip (wB hp20 h408), by show _ ≤ _; omega⟩) (eC rfl (eC rfl (eC rfl (eN _))))
 intro ⟨m, A, ca, xs, L⟩ hI
 replace hI : WI v f [20, 19, 18, 17, 16, 14, 13, 12, 11, 10, 9, 8, 7, 6, 3, 25, 23, 24, 22, 21, 34, 15, 27, 1, 2, 33] L ∧ m ≤ 52 := hI
 change Run _ _ _ _ _ [(4, .slice A m ca), (3, _), (0, _)] (HA.row A m ca 102 1 xs :: HA.blk b6 (ycells 4 ⟨#[]⟩ ⟨#[]⟩ none 0 0) 150 :: []) (.ptrs xs (L.flatMap prY) :: .dblk b cs 124 :: .flds mb2 cs f :: .gr mb G :: .tab :: ft :: [])
 obtain ⟨hW, hm⟩ := hI
 refine zD (zD ?_)
 refine zB (sT ?_)
 refine zA (zH fo124_26 rfl rfl ?_)
 refine zA (zM 1 sc120 rfl rfl rfl hc26 ?_)
 refine zA (yF pn120 rfl rfl ?_)
 refine zC (kE [(422, _), (4, _), (3, _), (0, _)] rfl ?_)
 refine yW [3, 0] (fun (⟨m, A, ca, xs, L⟩ : T5) => WI v f [26, 20, 19, 18, 17, 16, 14, 13, 12, 11, 10, 9, 8, 7, 6, 3, 25, 23, 24, 22, 21, 34, 15, 27, 1, 2, 33] L ∧ m ≤ 54) eE (eM b6) (eD b cs mb2 mb f G ft) ?_ ?_
 ·intro Kj27 hKj27
  refine yI rfl (fun h422 => ?_) (fun h422 => ?_)
  ·refine wA 2 26 rfl (by decide) (by decide) hc26 hp26 h422 hU (fun fv x a hpa hfv hgx hkw hr => ?_)
   subst hpa
   have hF := HF _ _ hgx (by rw [hkw]; decide)
   rw [hkw] at hF
   change Fld ft mb G 11 x at hF
   change FvRel _ 11 x fv at hr
   refine zB (sT ?_)
   refine zA (zH fo124_26 rfl rfl ?_)
   refine zA (zM 2 sc120 rfl rfl rfl hc26 ?_)
   refine zA (zW rfl rfl rfl (w11 hF hr) (subc 0 rfl (subc 4 rfl (sub2 5 6 rfl rfl))) (fun u428 D428 hv428 => ?_))
   obtain ⟨z, hz, b428, rfl, rfl⟩ := hv428
   refine zA ?_
   refine yR 0 rfl rfl rfl (c150 _ _ _ _ _ _ (by decide) (by omega)) rfl sub0 (fun u429 M429 D429 hv429 => ?_)
   obtain ⟨A429, c429, b429, rfl, rfl, rfl⟩ := hv429
   refine zA (zE rfl rfl ?_)
   refine zC (yT (L := L) 3 0 1 rfl rfl rfl ?_)
   exact kQ (hKj27 (_, _, _, _, L ++ [(keyOf 26, _)]) ⟨hW.add rfl hkw (by decide) (by decide) hgx hz, by show _ + 2 ≤ _; omega⟩) (eC rfl (eC rfl (eC rfl (eN _)))) (hD := (subc 0 rfl sQ))
  refine zJ ?_
  exact kQ (hKj27 (_, _, _, _, L) ⟨hW.skip (wB hp26 h422), by show _ ≤ _; omega⟩) (eC rfl (eC rfl (eC rfl (eN _))))
 intro ⟨m, A, ca, xs, L⟩ hI
 replace hI : WI v f [26, 20, 19, 18, 17, 16, 14, 13, 12, 11, 10, 9, 8, 7, 6, 3, 25, 23, 24, 22, 21, 34, 15, 27, 1, 2, 33] L ∧ m ≤ 54 := hI
 change Run _ _ _ _ _ [(4, .slice A m ca), (3, _), (0, _)] (HA.row A m ca 102 1 xs :: HA.blk b6 (ycells 4 ⟨#[]⟩ ⟨#[]⟩ none 0 0) 150 :: []) (.ptrs xs (L.flatMap prY) :: .dblk b cs 124 :: .flds mb2 cs f :: .gr mb G :: .tab :: ft :: [])
 obtain ⟨hW, hm⟩ := hI
 refine zD (zD ?_)
 refine zB (sT ?_)
 refine zA (zH fo124_28 rfl rfl ?_)
 refine zA (zM 1 sc122 rfl rfl rfl hc28 ?_)
 refine zA (yF pn122 rfl rfl ?_)
 refine zC (kE [(434, _), (4, _), (3, _), (0, _)] rfl ?_)
 refine yW [3, 0] (fun (⟨m, A, ca, xs, L⟩ : T5) => WI v f [28, 26, 20, 19, 18, 17, 16, 14, 13, 12, 11, 10, 9, 8, 7, 6, 3, 25, 23, 24, 22, 21, 34, 15, 27, 1, 2, 33] L ∧ m ≤ 56) eE (eM b6) (eD b cs mb2 mb f G ft) ?_ ?_
 ·intro Kj28 hKj28
  refine yI rfl (fun h434 => ?_) (fun h434 => ?_)
  ·refine wA 2 28 rfl (by decide) (by decide) hc28 hp28 h434 hU (fun fv x a hpa hfv hgx hkw hr => ?_)
   subst hpa
   have hF := HF _ _ hgx (by rw [hkw]; decide)
   rw [hkw] at hF
   change Fld ft mb G 13 x at hF
   change FvRel _ 13 x fv at hr
   obtain ⟨bs, rfl, hbs⟩ := list_of hr
   refine run_list 0 rfl (fun p sl hp => ?_)
   cases hp
   refine zB (sT ?_)
   refine zA (zH fo124_28 rfl rfl ?_)
   refine zA (zM 4 sc122 rfl rfl rfl hc28 ?_)
   refine zA (zP rfl rfl ?_)
   refine zA (yV 0 sc137 rfl rfl rfl ?_)
   refine zA (zW rfl rfl rfl (w13 hF hbs) (subc 1 rfl (subc 6 rfl (sub2 7 8 rfl rfl))) (fun u442 D442 hv442 => ?_))
   obtain ⟨z, hz, b442, rfl, rfl⟩ := hv442
   refine zA ?_
   refine yR 0 rfl rfl rfl (c150 _ _ _ _ _ _ (by decide) (by omega)) rfl sub0 (fun u443 M443 D443 hv443 => ?_)
   obtain ⟨A443, c443, b443, rfl, rfl, rfl⟩ := hv443
   refine zA (zE rfl rfl ?_)
   refine zC (kE [(4, _), (3, _), (0, _)] rfl ?_)
   refine yT (L := L) 5 0 1 rfl rfl rfl ?_
   exact kQ (hKj28 (_, _, _, _, L ++ [(keyOf 28, _)]) ⟨hW.add rfl hkw (by decide) (by decide) hgx hz, by show _ + 2 ≤ _; omega⟩) (eC rfl (eC rfl (eC rfl (eN _)))) (hD := (subc 0 rfl sQ))
  refine zJ ?_
  exact kQ (hKj28 (_, _, _, _, L) ⟨hW.skip (wB hp28 h434), by show _ ≤ _; omega⟩) (eC rfl (eC rfl (eC rfl (eN _))))
 intro ⟨m, A, ca, xs, L⟩ hI
 replace hI : WI v f [28, 26, 20, 19, 18, 17, 16, 14, 13, 12, 11, 10, 9, 8, 7, 6, 3, 25, 23, 24, 22, 21, 34, 15, 27, 1, 2, 33] L ∧ m ≤ 56 := hI
 change Run _ _ _ _ _ [(4, .slice A m ca), (3, _), (0, _)] (HA.row A m ca 102 1 xs :: HA.blk b6 (ycells 4 ⟨#[]⟩ ⟨#[]⟩ none 0 0) 150 :: []) (.ptrs xs (L.flatMap prY) :: .dblk b cs 124 :: .flds mb2 cs f :: .gr mb G :: .tab :: ft :: [])
 obtain ⟨hW, hm⟩ := hI
 refine zD (zD ?_)
 refine zB (sT ?_)
 refine zA (zH fo124_29 rfl rfl ?_)
 refine zA (zM 1 sc122 rfl rfl rfl hc29 ?_)
 refine zA (yF pn122 rfl rfl ?_)
 refine zC (kE [(448, _), (4, _), (3, _), (0, _)] rfl ?_)
 refine yW [3, 0] (fun (⟨m, A, ca, xs, L⟩ : T5) => WI v f [29, 28, 26, 20, 19, 18, 17, 16, 14, 13, 12, 11, 10, 9, 8, 7, 6, 3, 25, 23, 24, 22, 21, 34, 15, 27, 1, 2, 33] L ∧ m ≤ 58) eE (eM b6) (eD b cs mb2 mb f G ft) ?_ ?_
 ·intro Kj29 hKj29
  refine yI rfl (fun h448 => ?_) (fun h448 => ?_)
  ·refine wA 2 29 rfl (by decide) (by decide) hc29 hp29 h448 hU (fun fv x a hpa hfv hgx hkw hr => ?_)
   subst hpa
   have hF := HF _ _ hgx (by rw [hkw]; decide)
   rw [hkw] at hF
   change Fld ft mb G 13 x at hF
   change FvRel _ 13 x fv at hr
   obtain ⟨bs, rfl, hbs⟩ := list_of hr
   refine run_list 0 rfl (fun p sl hp => ?_)
   cases hp
   refine zB (sT ?_)
   refine zA (zH fo124_29 rfl rfl ?_)
   refine zA (zM 4 sc122 rfl rfl rfl hc29 ?_)
   refine zA (zP rfl rfl ?_)
   refine zA (yV 0 sc137 rfl rfl rfl ?_)
   refine zA (zW rfl rfl rfl (w13 hF hbs) (subc 1 rfl (subc 6 rfl (sub2 7 8 rfl rfl))) (fun u456 D456 hv456 => ?_))
   obtain ⟨z, hz, b456, rfl, rfl⟩ := hv456
   refine zA ?_
   refine yR 0 rfl rfl rfl (c150 _ _ _ _ _ _ (by decide) (by omega)) rfl sub0 (fun u457 M457 D457 hv457 => ?_)
   obtain ⟨A457, c457, b457, rfl, rfl, rfl⟩ := hv457
   refine zA (zE rfl rfl ?_)
   refine zC (kE [(4, _), (3, _), (0, _)] rfl ?_)
   refine yT (L := L) 5 0 1 rfl rfl rfl ?_
   exact kQ (hKj29 (_, _, _, _, L ++ [(keyOf 29, _)]) ⟨hW.add rfl hkw (by decide) (by decide) hgx hz, by show _ + 2 ≤ _; omega⟩) (eC rfl (eC rfl (eC rfl (eN _)))) (hD := (subc 0 rfl sQ))
  refine zJ ?_
  exact kQ (hKj29 (_, _, _, _, L) ⟨hW.skip (wB hp29 h448), by show _ ≤ _; omega⟩) (eC rfl (eC rfl (eC rfl (eN _))))
 intro ⟨m, A, ca, xs, L⟩ hI
 replace hI : WI v f [29, 28, 26, 20, 19, 18, 17, 16, 14, 13, 12, 11, 10, 9, 8, 7, 6, 3, 25, 23, 24, 22, 21, 34, 15, 27, 1, 2, 33] L ∧ m ≤ 58 := hI
 change Run _ _ _ _ _ [(4, .slice A m ca), (3, _), (0, _)] (HA.row A m ca 102 1 xs :: HA.blk b6 (ycells 4 ⟨#[]⟩ ⟨#[]⟩ none 0 0) 150 :: []) (.ptrs xs (L.flatMap prY) :: .dblk b cs 124 :: .flds mb2 cs f :: .gr mb G :: .tab :: ft :: [])
 obtain ⟨hW, hm⟩ := hI
 refine zD (zD ?_)
 refine zB (sT ?_)
 refine zA (zH fo124_30 rfl rfl ?_)
 refine zA (zM 1 sc122 rfl rfl rfl hc30 ?_)
 refine zA (yF pn122 rfl rfl ?_)
 refine zC (kE [(462, _), (4, _), (3, _), (0, _)] rfl ?_)
 refine yW [3, 0] (fun (⟨m, A, ca, xs, L⟩ : T5) => WI v f [30, 29, 28, 26, 20, 19, 18, 17, 16, 14, 13, 12, 11, 10, 9, 8, 7, 6, 3, 25, 23, 24, 22, 21, 34, 15, 27, 1, 2, 33] L ∧ m ≤ 60) eE (eM b6) (eD b cs mb2 mb f G ft) ?_ ?_
 ·intro Kj30 hKj30
  refine yI rfl (fun h462 => ?_) (fun h462 => ?_)
  ·refine wA 2 30 rfl (by decide) (by decide) hc30 hp30 h462 hU (fun fv x a hpa hfv hgx hkw hr => ?_)
   subst hpa
   have hF := HF _ _ hgx (by rw [hkw]; decide)
   rw [hkw] at hF
   change Fld ft mb G 13 x at hF
   change FvRel _ 13 x fv at hr
   obtain ⟨bs, rfl, hbs⟩ := list_of hr
   refine run_list 0 rfl (fun p sl hp => ?_)
   cases hp
   refine zB (sT ?_)
   refine zA (zH fo124_30 rfl rfl ?_)
   refine zA (zM 4 sc122 rfl rfl rfl hc30 ?_)
   refine zA (zP rfl rfl ?_)
   refine zA (yV 0 sc137 rfl rfl rfl ?_)
   refine zA (zW rfl rfl rfl (w13 hF hbs) (subc 1 rfl (subc 6 rfl (sub2 7 8 rfl rfl))) (fun u470 D470 hv470 => ?_))
   obtain ⟨z, hz, b470, rfl, rfl⟩ := hv470
   refine zA ?_
   refine yR 0 rfl rfl rfl (c150 _ _ _ _ _ _ (by decide) (by omega)) rfl sub0 (fun u471 M471 D471 hv471 => ?_)
   obtain ⟨A471, c471, b471, rfl, rfl, rfl⟩ := hv471
   refine zA (zE rfl rfl ?_)
   refine zC (kE [(4, _), (3, _), (0, _)] rfl ?_)
   refine yT (L := L) 5 0 1 rfl rfl rfl ?_
   exact kQ (hKj30 (_, _, _, _, L ++ [(keyOf 30, _)]) ⟨hW.add rfl hkw (by decide) (by decide) hgx hz, by show _ + 2 ≤ _; omega⟩) (eC rfl (eC rfl (eC rfl (eN _)))) (hD := (subc 0 rfl sQ))
  refine zJ ?_
  exact kQ (hKj30 (_, _, _, _, L) ⟨hW.skip (wB hp30 h462), by show _ ≤ _; omega⟩) (eC rfl (eC rfl (eC rfl (eN _))))
 intro ⟨m, A, ca, xs, L⟩ hI
 replace hI : WI v f [30, 29, 28, 26, 20, 19, 18, 17, 16, 14, 13, 12, 11, 10, 9, 8, 7, 6, 3, 25, 23, 24, 22, 21, 34, 15, 27, 1, 2, 33] L ∧ m ≤ 60 := hI
 change Run _ _ _ _ _ [(4, .slice A m ca), (3, _), (0, _)] (HA.row A m ca 102 1 xs :: HA.blk b6 (ycells 4 ⟨#[]⟩ ⟨#[]⟩ none 0 0) 150 :: []) (.ptrs xs (L.flatMap prY) :: .dblk b cs 124 :: .flds mb2 cs f :: .gr mb G :: .tab :: ft :: [])
 obtain ⟨hW, hm⟩ := hI
 refine zD (zD ?_)
 refine zB (sT ?_)
 refine zA (zH fo124_31 rfl rfl ?_)
 refine zA (zM 1 sc63 rfl rfl rfl hc31 ?_)
 refine zA (yF pn63 rfl rfl ?_)
 refine zC (kE [(476, _), (4, _), (3, _), (0, _)] rfl ?_)
 refine yW [3, 0] (fun (⟨m, A, ca, xs, L⟩ : T5) => WI v f [31, 30, 29, 28, 26, 20, 19, 18, 17, 16, 14, 13, 12, 11, 10, 9, 8, 7, 6, 3, 25, 23, 24, 22, 21, 34, 15, 27, 1, 2, 33] L ∧ m ≤ 62) eE (eM b6) (eD b cs mb2 mb f G ft) ?_ ?_
 ·intro Kj31 hKj31
  refine yI rfl (fun h476 => ?_) (fun h476 => ?_)
  ·refine wA 2 31 rfl (by decide) (by decide) hc31 hp31 h476 hU (fun fv x a hpa hfv hgx hkw hr => ?_)
   subst hpa
   have hF := HF _ _ hgx (by rw [hkw]; decide)
   rw [hkw] at hF
   change Fld ft mb G 5 x at hF
   change FvRel _ 5 x fv at hr
   obtain ⟨q1, rfl, hbs⟩ := one_of hr
   refine rJ (p := (.pointer (some a) : Value) = ptr q1) (fun w ok h => (dget h 0 rfl : FvP w ok (.one q1) _)) (fun hq1 => ?_)
   cases hq1
   refine zB (sT ?_)
   refine zA (zH fo124_31 rfl rfl ?_)
   refine zA (zM 2 sc63 rfl rfl rfl hc31 ?_)
   refine zA (zW rfl rfl rfl (w5 hF hbs) (subc 4 rfl (sub2 5 6 rfl rfl)) (fun u482 D482 hv482 => ?_))
   obtain ⟨z, hz, b482, rfl, rfl⟩ := hv482
   refine zA ?_
   refine yR 0 rfl rfl rfl (c150 _ _ _ _ _ _ (by decide) (by omega)) rfl sub0 (fun u483 M483 D483 hv483 => ?_)
   obtain ⟨A483, c483, b483, rfl, rfl, rfl⟩ := hv483
   refine zA (zE rfl rfl ?_)
   refine zC (yT (L := L) 3 0 1 rfl rfl rfl ?_)
   exact kQ (hKj31 (_, _, _, _, L ++ [(keyOf 31, _)]) ⟨hW.add rfl hkw (by decide) (by decide) hgx hz, by show _ + 2 ≤ _; omega⟩) (eC rfl (eC rfl (eC rfl (eN _)))) (hD := (subc 0 rfl sQ))
  refine zJ ?_
  exact kQ (hKj31 (_, _, _, _, L) ⟨hW.skip (wB hp31 h476), by show _ ≤ _; omega⟩) (eC rfl (eC rfl (eC rfl (eN _))))
 intro ⟨m, A, ca, xs, L⟩ hI
 replace hI : WI v f [31, 30, 29, 28, 26, 20, 19, 18, 17, 16, 14, 13, 12, 11, 10, 9, 8, 7, 6, 3, 25, 23, 24, 22, 21, 34, 15, 27, 1, 2, 33] L ∧ m ≤ 62 := hI
 change Run _ _ _ _ _ [(4, .slice A m ca), (3, _), (0, _)] (HA.row A m ca 102 1 xs :: HA.blk b6 (ycells 4 ⟨#[]⟩ ⟨#[]⟩ none 0 0) 150 :: []) (.ptrs xs (L.flatMap prY) :: .dblk b cs 124 :: .flds mb2 cs f :: .gr mb G :: .tab :: ft :: [])
 obtain ⟨hW, hm⟩ := hI
 refine zD (zD ?_)
 refine zB (sT ?_)
 refine zA (zH fo124_32 rfl rfl ?_)
 refine zA (zM 1 sc118 rfl rfl rfl hc32 ?_)
 refine zA (yF pn118 rfl rfl ?_)
 refine zC (kE [(488, _), (4, _), (3, _), (0, _)] rfl ?_)
 refine yW [3, 0] (fun (⟨m, A, ca, xs, L⟩ : T5) => WI v f [32, 31, 30, 29, 28, 26, 20, 19, 18, 17, 16, 14, 13, 12, 11, 10, 9, 8, 7, 6, 3, 25, 23, 24, 22, 21, 34, 15, 27, 1, 2, 33] L ∧ m ≤ 64) eE (eM b6) (eD b cs mb2 mb f G ft) ?_ ?_
 ·intro Kj32 hKj32
  refine yI rfl (fun h488 => ?_) (fun h488 => ?_)
  ·refine wA 2 32 rfl (by decide) (by decide) hc32 hp32 h488 hU (fun fv x a hpa hfv hgx hkw hr => ?_)
   subst hpa
   have hF := HF _ _ hgx (by rw [hkw]; decide)
   rw [hkw] at hF
   change Fld ft mb G 9 x at hF
   change FvRel _ 9 x fv at hr
   refine zB (sT ?_)
   refine zA (zH fo124_32 rfl rfl ?_)
   refine zA (zM 2 sc118 rfl rfl rfl hc32 ?_)
   refine zA (zW rfl rfl rfl (w9 hF hr) (subc 0 rfl (subc 4 rfl (sub2 5 6 rfl rfl))) (fun u494 D494 hv494 => ?_))
   obtain ⟨z, hz, b494, rfl, rfl⟩ := hv494
   refine zA ?_
   refine yR 0 rfl rfl rfl (c150 _ _ _ _ _ _ (by decide) (by omega)) rfl sub0 (fun u495 M495 D495 hv495 => ?_)
   obtain ⟨A495, c495, b495, rfl, rfl, rfl⟩ := hv495
   refine zA (zE rfl rfl ?_)
   refine zC (yT (L := L) 3 0 1 rfl rfl rfl ?_)
   exact kQ (hKj32 (_, _, _, _, L ++ [(keyOf 32, _)]) ⟨hW.add rfl hkw (by decide) (by decide) hgx hz, by show _ + 2 ≤ _; omega⟩) (eC rfl (eC rfl (eC rfl (eN _)))) (hD := (subc 0 rfl sQ))
  refine zJ ?_
  exact kQ (hKj32 (_, _, _, _, L) ⟨hW.skip (wB hp32 h488), by show _ ≤ _; omega⟩) (eC rfl (eC rfl (eC rfl (eN _))))
 intro ⟨m, A, ca, xs, L⟩ hI
 replace hI : WI v f [32, 31, 30, 29, 28, 26, 20, 19, 18, 17, 16, 14, 13, 12, 11, 10, 9, 8, 7, 6, 3, 25, 23, 24, 22, 21, 34, 15, 27, 1, 2, 33] L ∧ m ≤ 64 := hI
 change Run _ _ _ _ _ [(4, .slice A m ca), (3, _), (0, _)] (HA.row A m ca 102 1 xs :: HA.blk b6 (ycells 4 ⟨#[]⟩ ⟨#[]⟩ none 0 0) 150 :: []) (.ptrs xs (L.flatMap prY) :: .dblk b cs 124 :: .flds mb2 cs f :: .gr mb G :: .tab :: ft :: [])
 obtain ⟨hW, hm⟩ := hI
 refine zD (zD ?_)
 refine zB (sT ?_)
 refine zA (zH fo124_35 rfl rfl ?_)
 refine zA (zM 1 sc102 rfl rfl rfl hc35 ?_)
 refine zA (yF pn102 rfl rfl ?_)
 refine zC (kE [(500, _), (4, _), (3, _), (0, _)] rfl ?_)
 refine yW [3, 0] (fun (⟨m, A, ca, xs, L⟩ : T5) => WI v f [32, 31, 30, 29, 28, 26, 20, 19, 18, 17, 16, 14, 13, 12, 11, 10, 9, 8, 7, 6, 3, 25, 23, 24, 22, 21, 34, 15, 27, 1, 2, 33] L ∧ m ≤ 64) eE (eM b6) (eD b cs mb2 mb f G ft) ?_ ?_
 ·intro Kj33 hKj33
  refine yI rfl (fun h500 => ?_) (fun h500 => ?_)
  ·refine zJ ?_
   exact kQ (hKj33 (_, _, _, _, L) ⟨hW, hm⟩) (eC rfl (eC rfl (eC rfl (eN _))))
  refine zJ ?_
  exact kQ (hKj33 (_, _, _, _, L) ⟨hW, hm⟩) (eC rfl (eC rfl (eC rfl (eN _))))
 intro ⟨m, A, ca, xs, L⟩ hI
 replace hI : WI v f [32, 31, 30, 29, 28, 26, 20, 19, 18, 17, 16, 14, 13, 12, 11, 10, 9, 8, 7, 6, 3, 25, 23, 24, 22, 21, 34, 15, 27, 1, 2, 33] L ∧ m ≤ 64 := hI
 change Run _ _ _ _ _ [(4, .slice A m ca), (3, _), (0, _)] (HA.row A m ca 102 1 xs :: HA.blk b6 (ycells 4 ⟨#[]⟩ ⟨#[]⟩ none 0 0) 150 :: []) (.ptrs xs (L.flatMap prY) :: .dblk b cs 124 :: .flds mb2 cs f :: .gr mb G :: .tab :: ft :: [])
 obtain ⟨hW, hm⟩ := hI
 refine zD (zD ?_)
 refine zB (sT ?_)
 refine zA (zH fo124_36 rfl rfl ?_)
 refine zA (zM 1 sc111 rfl rfl rfl hc36 ?_)
 refine zA (yF pn111 rfl rfl ?_)
 refine zC (kE [(505, _), (4, _), (3, _), (0, _)] rfl ?_)
 refine yW [3] (fun (⟨m, A, ca, xs, L⟩ : T5) => WI v f [36, 32, 31, 30, 29, 28, 26, 20, 19, 18, 17, 16, 14, 13, 12, 11, 10, 9, 8, 7, 6, 3, 25, 23, 24, 22, 21, 34, 15, 27, 1, 2, 33] L ∧ m ≤ 66) eE (eM b6) (eD b cs mb2 mb f G ft) ?_ ?_
 ·intro Kj34 hKj34
  refine yI rfl (fun h505 => ?_) (fun h505 => ?_)
  ·refine wA 2 36 rfl (by decide) (by decide) hc36 hp36 h505 hU (fun fv x a hpa hfv hgx hkw hr => ?_)
   subst hpa
   have hF := HF _ _ hgx (by rw [hkw]; decide)
   rw [hkw] at hF
   change Fld ft mb G 1 x at hF
   change FvRel _ 1 x fv at hr
   obtain rfl := sS hr
   refine sO 0 rfl (fun p hp hs => ?_)
   cases hp
   refine zB (sT ?_)
   refine zA (zH fo124_36 rfl rfl ?_)
   refine zA (zM 3 sc111 rfl rfl rfl hc36 ?_)
   refine zA (zP rfl rfl ?_)
   refine zA (yV 0 sc9 rfl rfl rfl ?_)
   refine zA (zW rfl rfl rfl (c151 _ hs) sub0 (fun u513 D513 hv513 => ?_))
   obtain ⟨b513, rfl, rfl⟩ := hv513
   refine zA ?_
   refine yR 0 rfl rfl rfl (c150 _ _ _ _ _ _ (by decide) (by omega)) rfl sub0 (fun u514 M514 D514 hv514 => ?_)
   obtain ⟨A514, c514, b514, rfl, rfl, rfl⟩ := hv514
   refine zA (zE rfl rfl ?_)
   refine zC (kE [(4, _), (3, _)] rfl ?_)
   refine yT (L := L) 4 0 1 rfl rfl rfl ?_
   exact kQ (hKj34 (_, _, _, _, L ++ [(keyOf 36, _)]) ⟨hW.add rfl hkw (by decide) (by decide) hgx (.inl ⟨rfl, rfl⟩), by show _ + 2 ≤ _; omega⟩) (eC rfl (eC rfl (eN _))) (hD := (subc 0 rfl sQ))
  refine zJ ?_
  exact kQ (hKj34 (_, _, _, _, L) ⟨hW.skip (wB hp36 h505), by show _ ≤ _; omega⟩) (eC rfl (eC rfl (eN _)))
 intro ⟨m, A, ca, xs, L⟩ hI
 replace hI : WI v f [36, 32, 31, 30, 29, 28, 26, 20, 19, 18, 17, 16, 14, 13, 12, 11, 10, 9, 8, 7, 6, 3, 25, 23, 24, 22, 21, 34, 15, 27, 1, 2, 33] L ∧ m ≤ 66 := hI
 change Run _ _ _ _ _ [(4, .slice A m ca), (3, _)] (HA.row A m ca 102 1 xs :: HA.blk b6 (ycells 4 ⟨#[]⟩ ⟨#[]⟩ none 0 0) 150 :: []) (.ptrs xs (L.flatMap prY) :: .dblk b cs 124 :: .flds mb2 cs f :: .gr mb G :: .tab :: ft :: [])
 obtain ⟨hW, hm⟩ := hI
 refine zD (zB ?_)
 refine sT (zA ?_)
 refine zH wO rfl rfl (zA ?_)
 refine zR 1 (M' := [_, HA.blk _ [_, _, _, _, _, _, _, _, _, _, _, _] _]) rfl rfl rfl rfl si148 rfl rfl rfl (zC ?_)
 refine zD (zB ?_)
 refine sT (zC ?_)
 refine uQ 0 0 _ rfl rfl (by intro b h; cases h) (vX 0 0 rfl rfl (by intro b h; cases h) (by decide) (by decide) ?_)
 exact zI Tryz.results105 rfl ⟨rfl, _, hW.out hU, b6, rfl, rfl⟩ nS (sub1 0 rfl)
end Go.Jw

namespace Go.Jw
open Go Go.RowKit Go.Proofs
theorem qK {v x : V} {key : ByteArray} (h : getV v key = some x) : ∃ j : Nat, v.keys[j]? = some key ∧ v.items[j]? = some x := by
  unfold getV at h
  rcases pG v.keys key with hn | ⟨j, hj, hlt⟩
  · rw [if_pos hn] at h; cases h
  · rw [hj, if_neg (by omega)] at h
    simp only [Int.toNat_natCast] at h
    refine ⟨j, ?_, h⟩
    unfold findI at hj
    split at hj
    · rename_i hlt3
      have h4 := List.findIdx_getElem (w := hlt3)
      have h5 : v.keys.findIdx (fun x => decide (x = key)) = j := by omega
      simp only [h5] at h4
      rw [List.getElem?_eq_getElem hlt]
      simpa using h4
    · omega
theorem kids_mem {sh : Int} {x z : V} (h : z ∈ kidsOf sh x) : z = x ∨ z ∈ x.items := by
 unfold kidsOf at h
 split at h
 ·simp at h; exact .inl h
 split at h
 ·split at h <;> simp at h
  exact .inl h
 split at h
 ·split at h
  ·simp at h; exact .inl h
  ·exact .inr (List.mem_filter.1 h).1
 split at h
 ·exact .inr (List.mem_filter.1 h).1
 ·simp at h
theorem c105 (ft : DA) (mb : Nat) (G : Gr) (v : V) : (NumW ft ∨ NoNum v) → Pl v → IsShape v → C105 ft mb G v := by
 refine V.indS (p := fun v => (NumW ft ∨ NoNum v) → Pl v → IsShape v → C105 ft mb G v) (fun v IH hN hp hs => ?_) v
 have hfit := ((wZ v).1 hs).2
 refine c105w ft mb G v (fun key x hx h0 => ?_) (fun x hx => ?_)
 ·obtain ⟨j, hj1, hj2⟩ := qK hx
  have hsh := kw_sh h0
  obtain ⟨hf, hk, _⟩ := hfit j _ _ hj1 hj2
  have hpl := hp.item _ (List.mem_of_getElem? hj2)
  have hnn : NumW ft ∨ (shapeOf key ≠ 3 ∧ ∀ z ∈ kidsOf (shapeOf key) x, NoNum z) := hN.imp id fun h => ⟨((qJ v).1 h j _ _ hj1 hj2).1, ((qJ v).1 h j _ _ hj1 hj2).2.2⟩
  rw [hsh] at hf hk hnn
  refine ⟨hpl, hf, fun z hz => ?_, fun h3 h6 => ?_⟩
  ·refine IH z (Nat.lt_of_le_of_lt (uX hz) (pH hj2)) (hnn.imp id fun h => h.2 z hz) ?_ (hk z hz)
   rcases kids_mem hz with rfl | h
   ·exact hpl
   ·exact hpl.item _ h
  ·rcases hnn with h | h
   ·have := hpl.num.num (.inr h6)
    exact h x.num this.1 this.2 (hpl.frac h6)
   ·exact absurd h3 h.1
 ·obtain ⟨j, hj1, hj2⟩ := qK hx
  exact (hfit j _ _ hj1 hj2).2.2 rfl
end Go.Jw

namespace Go.Jw
open Go Go.RowKit Go.Proofs
def rl (s : ByteArray) : List UInt8 := s.data.toList
theorem rC (s : ByteArray) : s.toList = rl s := ByteArray.toList_eq s
theorem rl_inj {a b : ByteArray} (h : rl a = rl b) : a = b := by
 cases a; cases b
 simp only [rl] at h
 rw [Array.toList_inj.1 h]
theorem rl_app (a b : ByteArray) : rl (a ++ b) = rl a ++ rl b := by simp [rl]
def srtP {α : Type} (l : List (ByteArray × α)) : List (ByteArray × α) := l.mergeSort (fun a b => decide (rl a.1 ≤ rl b.1))
theorem qL {α : Type} (l : List (ByteArray × α)) : (srtP l).Perm l := List.mergeSort_perm _ _
theorem srtP_sorted {α : Type} (l : List (ByteArray × α)) : (srtP l).Pairwise (fun a b => rl a.1 ≤ rl b.1) := by
 have := List.pairwise_mergeSort (le := fun (a b : ByteArray × α) => decide (rl a.1 ≤ rl b.1)) (fun a b c h1 h2 => decide_eq_true (List.le_trans (of_decide_eq_true h1) (of_decide_eq_true h2))) (fun a b => by
  rcases List.le_total (rl a.1) (rl b.1) with h | h <;> simp [h]) l
 exact this.imp fun h => of_decide_eq_true h
theorem fst_inj {α : Type} {l : List (ByteArray × α)} (hn : (l.map Prod.fst).Nodup) {a b : ByteArray × α} (ha : a ∈ l) (hb : b ∈ l) (h : a.1 = b.1) : a = b := by
  induction l with
  | nil => cases ha
  | cons x l ih =>
    rw [List.map_cons, List.nodup_cons] at hn
    rcases List.mem_cons.1 ha with h1 | h1 <;> rcases List.mem_cons.1 hb with h2 | h2
    · rw [h1, h2]
    · exact absurd (List.mem_map.2 ⟨b, h2, by rw [← h, h1]⟩) hn.1
    · exact absurd (List.mem_map.2 ⟨a, h1, by rw [h, h2]⟩) hn.1
    · exact ih hn.2 h1 h2
theorem srtP_eq {α : Type} {l l' : List (ByteArray × α)} (hp : l'.Perm l) (hs : l'.Pairwise (fun a b => rl a.1 ≤ rl b.1)) (hn : (l.map Prod.fst).Nodup) : srtP l = l' :=
 List.Perm.eq_of_pairwise (le := fun (a b : ByteArray × α) => rl a.1 ≤ rl b.1) (fun a b ha hb h1 h2 => fst_inj hn ((qL l).mem_iff.1 ha) (hp.mem_iff.1 hb) (rl_inj (List.le_antisymm h1 h2))) (srtP_sorted l) hs ((qL l).trans hp.symm)
theorem keysOk_lt {ks : List ByteArray} (h : KeysOk ks) : ks.Pairwise (fun a b => rl a < rl b) := by
  have step : ∀ j (hj : j + 1 < ks.length), rl ks[j] < rl ks[j + 1] := by
    intro j hj
    have hs := (h (j + 1) hj).2 (by omega)
    have h4 : ¬ (rl ks[j + 1] < rl ks[j]) := by
      have := hs.1
      rw [less_lt, rC, rC] at this
      simpa using this
    refine Classical.byContradiction fun hc => hs.2 (rl_inj (List.le_antisymm (List.not_lt.1 hc) (List.not_lt.1 h4)))
  rw [List.pairwise_iff_getElem]
  intro i j hi hj hij
  induction j with
  | zero => omega
  | succ j ih =>
    rcases Nat.lt_or_eq_of_le (Nat.le_of_lt_succ hij) with h6 | h6
    · exact List.lt_trans (ih (by omega) h6) (step j hj)
    · subst h6; exact step i hj
theorem lt_nodup {ks : List ByteArray} (h : ks.Pairwise (fun a b => rl a < rl b)) : ks.Nodup := h.imp fun hlt he => by subst he; exact List.lt_irrefl _ hlt
theorem zip_pw {α : Type} {ks : List ByteArray} {ts : List α} (h : ks.Pairwise (fun a b => rl a < rl b)) : (ks.zip ts).Pairwise (fun a b => rl a.1 < rl b.1) := by
  induction ks generalizing ts with
  | nil => simp
  | cons k ks ih =>
    cases ts with
    | nil => simp
    | cons t ts =>
      rw [List.pairwise_cons] at h
      rw [List.zip_cons_cons, List.pairwise_cons]
      exact ⟨fun p hp => h.1 _ (List.of_mem_zip hp).1, ih h.2⟩
theorem pw_fst {α : Type} {l : List (ByteArray × α)} (h : l.Pairwise (fun a b => rl a.1 < rl b.1)) : (l.map Prod.fst).Nodup := by
 rw [List.nodup_iff_pairwise_ne, List.pairwise_map]
 exact h.imp fun hlt he => by rw [he] at hlt; exact List.lt_irrefl _ hlt
theorem pw_le {α : Type} {l : List (ByteArray × α)} (h : l.Pairwise (fun a b => rl a.1 < rl b.1)) : l.Pairwise (fun a b => rl a.1 ≤ rl b.1) := h.imp fun hlt => List.le_of_lt hlt
noncomputable def srtV : V → V := V.fix (α := V) (fun t f => if t.kind = 5 then .mk 5 t.num t.text ((srtP (t.keys.zip (t.items.map f))).map Prod.fst) ((srtP (t.keys.zip (t.items.map f))).map Prod.snd) else .mk t.kind t.num t.text t.keys (t.items.map f))
theorem srtV_eq (t : V) : srtV t = if t.kind = 5 then .mk 5 t.num t.text ((srtP (t.keys.zip (t.items.map srtV))).map Prod.fst) ((srtP (t.keys.zip (t.items.map srtV))).map Prod.snd) else .mk t.kind t.num t.text t.keys (t.items.map srtV) :=
 V.fix_eq (α := V) (G := fun t f => if t.kind = 5 then .mk 5 t.num t.text ((srtP (t.keys.zip (t.items.map f))).map Prod.fst) ((srtP (t.keys.zip (t.items.map f))).map Prod.snd) else .mk t.kind t.num t.text t.keys (t.items.map f)) (fun t g g' h => by
  have : t.items.map g = t.items.map g' := List.map_congr_left fun x hx => h x (xA hx)
  simp only [this]) t
theorem srtV_map {n : Int} {s : ByteArray} {ks : List ByteArray} {ts : List V} {l : List (ByteArray × V)} (h : srtP (ks.zip (ts.map srtV)) = l) : srtV (.mk 5 n s ks ts) = .mk 5 n s (l.map Prod.fst) (l.map Prod.snd) := by
 rw [srtV_eq]
 simp only [V.kind, V.num, V.text, V.keys, V.items, if_true, h]
theorem srtV_no {q n : Int} {s : ByteArray} {ks : List ByteArray} {ts : List V} (h : q ≠ 5) : srtV (.mk q n s ks ts) = .mk q n s ks (ts.map srtV) := by
 rw [srtV_eq]
 simp only [V.kind, V.num, V.text, V.keys, V.items]
 exact if_neg h
noncomputable def outY : V → Y := V.fix (α := Y) (fun t f => if t.kind = 1 then scal tBool (fbB (decide (t.num = 1))) else if t.kind = 2 then scal tInt (itoaB t.num) else if t.kind = 6 then scal tFloat (quartF t.num) else if t.kind = 3 then scal tStr t.text
  else if t.kind = 4 then RKids 2 (t.items.map f) else if t.kind = 5 then RKids 4 ((t.keys.zip (t.items.map f)).flatMap prY) else scal tNull sNull)
theorem sU (t : V) : outY t = if t.kind = 1 then scal tBool (fbB (decide (t.num = 1))) else if t.kind = 2 then scal tInt (itoaB t.num) else if t.kind = 6 then scal tFloat (quartF t.num) else if t.kind = 3 then scal tStr t.text
  else if t.kind = 4 then RKids 2 (t.items.map outY) else if t.kind = 5 then RKids 4 ((t.keys.zip (t.items.map outY)).flatMap prY) else scal tNull sNull :=
 V.fix_eq (G := fun t f => if t.kind = 1 then scal tBool (fbB (decide (t.num = 1))) else if t.kind = 2 then scal tInt (itoaB t.num) else if t.kind = 6 then scal tFloat (quartF t.num) else if t.kind = 3 then scal tStr t.text
  else if t.kind = 4 then RKids 2 (t.items.map f) else if t.kind = 5 then RKids 4 ((t.keys.zip (t.items.map f)).flatMap prY) else scal tNull sNull) (fun t g g' h => by
  have : t.items.map g = t.items.map g' := List.map_congr_left fun x hx => h x (xA hx)
  simp only [this]) t
def isWr (key : ByteArray) : Bool := isKw key && !isQuiet key
noncomputable def wr : V → V := V.fix (α := V) (fun t g => filterV 5 0 ⟨#[]⟩ isWr (fun k v => turnV (shapeOf k) g v) t)
theorem wr_eq (t : V) : wr t = filterV 5 0 ⟨#[]⟩ isWr (fun k v => turnV (shapeOf k) wr v) t :=
 V.fix_eq (G := fun t g => filterV 5 0 ⟨#[]⟩ isWr (fun k v => turnV (shapeOf k) g v) t) (fun t g g' h => sI fun k v hv => rS fun x hx => h x (Nat.lt_of_le_of_lt hx (xA hv))) t
theorem wr_kind (t : V) : (wr t).kind = 5 := by rw [wr_eq]; rfl
theorem uS (t : V) : (normalV t).kind = 5 := by rw [tN]; rfl
theorem pM {k m k' m' : Int} {s s' : ByteArray} {q q' : ByteArray → Bool} {f f' : ByteArray → V → V} {t : V} : filterV k m s q f (filterV k' m' s' q' f' t) = filterV k m s (fun x => q' x && q x) (fun x v => f x (f' x v)) t := by
  obtain ⟨tk, tn, ts, ks, its⟩ := t
  unfold filterV
  simp only [V.keys, V.items]
  have hz : (((ks.zip its).filter (fun p => q' p.1)).map (·.1)).zip (((ks.zip its).filter (fun p => q' p.1)).map (fun p => f' p.1 p.2)) = ((ks.zip its).filter (fun p => q' p.1)).map (fun p => (p.1, f' p.1 p.2)) := by
    rw [List.zip_map, ]
    generalize (ks.zip its).filter (fun p => q' p.1) = l
    induction l with
    | nil => rfl
    | cons a l ih => simp [ih]
  rw [hz]
  have hf : (((ks.zip its).filter (fun p => q' p.1)).map (fun p => (p.1, f' p.1 p.2))).filter (fun p => q p.1) = ((ks.zip its).filter (fun p => q' p.1 && q p.1)).map (fun p => (p.1, f' p.1 p.2)) := by
    rw [List.filter_map, List.filter_filter]
    congr 1
    apply List.filter_congr
    intro p hp
    simp [Function.comp, Bool.and_comm]
  rw [hf, List.map_map, List.map_map]
  rfl
theorem turn_turn {sh : Int} {b g : V → V} {x : V} (hk : ∀ y, (g y).kind = 5) : turnV sh b (turnV sh g x) = turnV sh (fun y => if y.kind = 5 then b (g y) else if sh = 5 then b (g y) else b y) x := by
 have hm : ∀ y, mapKids b (mapKids g y) = mapKids (fun y => if y.kind = 5 then b (g y) else if sh = 5 then b (g y) else b y) y := by
  intro y
  by_cases h : y.kind = 5
  ·rw [vR h, vR (hk y), vR h, if_pos h]
  ·rw [rR h, rR h, rR h]
 have ha : turnAll b (turnAll g x) = turnAll (fun y => if y.kind = 5 then b (g y) else if sh = 5 then b (g y) else b y) x := by
  unfold turnAll
  simp only [V.kind, V.keys, V.items, List.map_map]
  congr 1
  exact List.map_congr_left fun y _ => hm y
 unfold turnV
 by_cases h5 : sh = 5
 ·simp [h5]
 by_cases h6 : sh = 6
 ·by_cases hx : x.kind = 5 <;> simp [h6, hx, hk]
 by_cases h7 : sh = 7
 ·by_cases hx : x.kind = 5
  ·simp [h7, hx, hk]
  ·have hkk : ¬ (turnAll g x).kind = 5 := hx
   subst h7
   simp only [hx, if_false, if_neg hkk, show ¬ ((7 : Int) = 5) from by decide, show ¬ ((7 : Int) = 6) from by decide, if_true] at ha ⊢
   exact ha
 by_cases h9 : sh = 9 ∨ sh = 13
 ·simp only [if_neg h5, if_neg h6, if_neg h7, if_pos h9] at ha ⊢
  exact ha
 ·simp only [if_neg h5, if_neg h6, if_neg h7, if_neg h9]
theorem bare_wr (v : V) : bareV (wr v) = bareV (normalV v) := by
 refine V.indS (p := fun v => bareV (wr v) = bareV (normalV v)) (fun v IH => ?_) v
 rw [wr_eq, tN, bareV_eq, bareV_eq, pM, pM]
 have h1 : ∀ x ∈ v.items, ∀ k, turnV (shapeOf k) bareV (turnV (shapeOf k) wr x) = turnV (shapeOf k) bareV (turnV (shapeOf k) normalV x) := by
  intro x hx k
  rw [turn_turn wr_kind, turn_turn uS]
  refine rS fun y hy => ?_
  have hlt := Nat.lt_of_le_of_lt hy (xA hx)
  rw [IH y hlt]
 have h2 : (fun x => isWr x && !isQuiet x) = (fun x => isKw x && !isQuiet x) := by
  funext x
  unfold isWr
  cases isKw x <;> cases isQuiet x <;> rfl
 rw [h2]
 exact sI fun k x hx => h1 x hx k
end Go.Jw

