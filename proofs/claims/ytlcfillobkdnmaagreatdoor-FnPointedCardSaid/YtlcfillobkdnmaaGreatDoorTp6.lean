/- the law FnPointed, as its card FnPointedCardSaid: part 6, the proof's texts, made small by a program. -/
import Derived.Test.YtlcfillobkdnmaaGreatDoorTp5
import Derived.Test.YtlcfillobkdnmaaGreatDoorCards
set_option linter.unusedVariables false
set_option linter.unusedSimpArgs false
set_option maxHeartbeats 4000000
namespace Go.Jw
open Go Go.RowKit Go.Proofs Go.ChangeShapes Go.WideShapes Go.Proofs.YtlcfillobkdnmaaGreatDoor
set_option maxRecDepth 100000
section
variable {P : Program} {w : World}
theorem pC {α β : Type} {f : α → Option β} {h : α → β} : ∀ (l : List α), (∀ x ∈ l, f x = some (h x)) → l.mapM f = some (l.map h)
  | [], _ => rfl
  | a :: l, H => by
    rw [List.mapM_cons, H a List.mem_cons_self, pC l (fun x hx => H x (List.mem_cons_of_mem _ hx))]
    rfl
theorem wcell_lit {b off : Nat} {T : TypeId} {cs : List Value} (h : w.heap[b]? = some (.cells cs.toArray T (0, 0))) : w.cell? ⟨b, off, none⟩ = cs[off]? := by
 unfold World.cell?
 simp [h]
theorem wcells_lit {b off n : Nat} {T : TypeId} {cs : List Value} (h : w.heap[b]? = some (.cells cs.toArray T (0, 0))) (hn : off + n ≤ cs.length) : w.cells? 0 ⟨b, off, none⟩ n = some ((cs.drop off).take n) := by
  unfold World.cells?
  rw [if_pos (Nat.zero_le _), pC (h := fun i => cs.getD (off + i) (.bool false)) (List.range n) (fun i hi => ?_)]
  · congr 1
    apply List.ext_getElem?
    intro j
    rw [List.getElem?_map, List.getElem?_take, List.getElem?_drop]
    by_cases hj : j < n
    · rw [if_pos hj, List.getElem?_range hj]
      simp [List.getD_eq_getElem?_getD, List.getElem?_eq_getElem (show off + j < cs.length by omega)]
    · rw [if_neg hj, List.getElem?_eq_none (by simpa using hj)]
      rfl
  · have hi' := List.mem_range.1 hi
    have : (⟨b, off, none⟩ : Addr).add i = ⟨b, off + i, none⟩ := by
      unfold Addr.add
      by_cases h0 : i = 0
      · subst h0; rfl
      · rw [if_neg h0]
    rw [this, wcell_lit h, List.getD_eq_getElem?_getD, List.getElem?_eq_getElem (show off + i < cs.length by omega)]
    rfl
variable {H : Type} {enc : TypeId × Value → H} {sp : Nat → Bool} {held : Bool}
theorem trod_sliceL {fuel : Nat} {t e : TypeId} {b n k : Nat} {T : TypeId} {cs : List Value} {g : Nat → DataW H} (ht : P.underlying t = some (.slice e)) (hk : P.cellsOf e = k) (hb : w.heap[b]? = some (.cells cs.toArray T (0, 0))) (hl : cs.length = n * k) (hn : n ≤ maxLen)
  (he : ∀ i, i < n → DataW.trod enc P w 0 sp held fuel e ((cs.drop (i * k)).take k) = some (g i, [])) : DataW.trod enc P w 0 sp held (fuel + 1) t [.slice (some ⟨b, 0, none⟩) n n] = some (.slice ((List.range n).map g) [], MemPlace.row ⟨b, 0, none⟩ (n * k)) := by
 subst hk
 have hel : ∀ i ∈ List.range n, (w.cells? 0 ((⟨b, 0, none⟩ : Addr).add (i * P.cellsOf e)) (P.cellsOf e)).bind (DataW.trod enc P w 0 sp held fuel e) = some ((g i, []) : DataW H × List MemPlace) := by
  intro i hi
  have hi' := List.mem_range.1 hi
  have : (⟨b, 0, none⟩ : Addr).add (i * P.cellsOf e) = ⟨b, i * P.cellsOf e, none⟩ := by
   unfold Addr.add
   by_cases h0 : i * P.cellsOf e = 0
   ·rw [if_pos h0, h0]
   ·rw [if_neg h0, Nat.zero_add]
  have hle : i * P.cellsOf e + P.cellsOf e ≤ cs.length := by
   rw [hl]
   have := Nat.mul_le_mul_right (P.cellsOf e) (show i + 1 ≤ n by omega)
   rw [Nat.succ_mul] at this
   exact this
  rw [this, wcells_lit hb hle, Option.bind_some, he i hi']
 unfold DataW.trod
 simp only [ht]
 rw [if_pos ⟨Nat.zero_le _, Nat.le_refl _, hn⟩, pC _ hel]
 simp [Nat.sub_self]
theorem trod_arrayL {fuel : Nat} {t e : TypeId} {n k : Nat} {cs : List Value} {g : Nat → DataW H} (ht : P.underlying t = some (.array n e)) (hk : P.cellsOf e = k) (hl : cs.length = P.cellsOf t)
  (he : ∀ i, i < n → DataW.trod enc P w 0 sp held fuel e ((cs.drop (i * k)).take k) = some (g i, [])) : DataW.trod enc P w 0 sp held (fuel + 1) t cs = some (.agg ((List.range n).map g), []) := by
 subst hk
 have hel : ∀ i ∈ List.range n, DataW.trod enc P w 0 sp held fuel e ((cs.drop (i * P.cellsOf e)).take (P.cellsOf e)) = some ((g i, []) : DataW H × List MemPlace) := fun i hi => he i (List.mem_range.1 hi)
 unfold DataW.trod
 simp only [ht]
 rw [if_pos hl, pC _ hel]
 simp
theorem vH {n : String} {d : DataW Unit} {r : List (String × DataW Unit)} {p q : List MemPlace} {g t T : Nat} {cs : List Value} (fuel : Nat) (hg : P.globalNamed n = some g) (ht : (P.globals[g]?).map (·.type) = some t) (hh : w.heap[g]? = some (.cells cs.toArray T (0, 0)))
  (hd : DataW.trod (fun _ => ()) P w 0 (fun _ => true) false fuel t cs = some (d, p)) (hr : DataW.LaidVars P w r q) : DataW.LaidVars P w ((n, d) :: r) (MemPlace.row ⟨g, 0, none⟩ cs.length ++ p ++ q) :=
 ⟨g, t, cs.toArray, fuel, p, q, hg, ht, by unfold World.var?; rw [hg]; simp [hh], by simpa using hd, hr, by simp⟩
def wplainB : Value → Bool
  | .iface .. => false
  | _ => true
theorem xZ {b off : Nat} {T : TypeId} {cs : List Value} (h : w.heap[b]? = some (.cells cs.toArray T (0, 0))) (hn : cs.all wplainB = true) :
  (∃ c t, w.heap[b]? = some (.cells c t (0, 0))) ∧ ∀ u v, w.cell? ⟨b, off, none⟩ = some (.iface u v) → Value.okWide P w .any 0 u v := by
 refine ⟨⟨_, _, h⟩, fun u v hc => ?_⟩
 rw [wcell_lit h] at hc
 have := List.all_eq_true.1 hn _ (List.mem_of_getElem? hc)
 cases this
theorem wgood_one {b off : Nat} {T u : TypeId} {v : Value} (h : w.heap[b]? = some (.cells [.iface u v].toArray T (0, 0))) (hn : Value.okWideB P w u v = true) :
  (∃ c t, w.heap[b]? = some (.cells c t (0, 0))) ∧ ∀ u' v', w.cell? ⟨b, off, none⟩ = some (.iface u' v') → Value.okWide P w .any 0 u' v' := by
 refine ⟨⟨_, _, h⟩, fun u' v' hc => ?_⟩
 rw [wcell_lit h] at hc
 have := List.mem_of_getElem? hc
 simp only [List.mem_singleton, Value.iface.injEq] at this
 obtain ⟨rfl, rfl⟩ := this
 exact Value.okWide_of_okWideB hn
end
theorem wflat_at {α : Type} (f : α → List Value) (k : Nat) (hf : ∀ x, (f x).length = k) : ∀ (l : List α) (i : Nat) (h : i < l.length), ((l.flatMap f).drop (i * k)).take k = f l[i]
  | [], i, h => by simp at h
  | x :: l, 0, _ => by simp [List.flatMap_cons, ← hf x]
  | x :: l, i + 1, h => by
    rw [List.flatMap_cons, Nat.succ_mul, Nat.add_comm, ← List.drop_drop, List.drop_append_of_le_length (by rw [hf x]; exact Nat.le_refl _), ← hf x, List.drop_length, List.nil_append, hf x]
    exact wflat_at f k hf l i (by simpa using h)
theorem wflat_len {α : Type} (f : α → List Value) (k : Nat) (hf : ∀ x, (f x).length = k) (l : List α) : (l.flatMap f).length = l.length * k := by
  induction l with
  | nil => simp
  | cons x l ih => rw [List.flatMap_cons, List.length_append, hf, ih, List.length_cons, Nat.succ_mul, Nat.add_comm]
theorem wrange_get {α β : Type} [Inhabited α] (f : α → β) (l : List α) : (List.range l.length).map (fun i => f (l.getD i default)) = l.map f := by
  apply List.ext_getElem?
  intro j
  rw [List.getElem?_map, List.getElem?_map]
  by_cases h : j < l.length
  · rw [List.getElem?_range h, List.getElem?_eq_getElem h]
    simp [List.getD_eq_getElem?_getD, h]
  · rw [List.getElem?_eq_none (by simpa using h), List.getElem?_eq_none (by simpa using h)]
    rfl
def wlitOf : Value → DataW Unit
  | .int k n => .lit (.int k n)
  | .float k b => .lit (.float k b)
  | _ => .nil
def wlitB (d : TypeDesc) : Value → Bool
  | .int k n => (match d with | .int k' => decide (k = k') | _ => false) && (Lit.int k n).wf
  | .float k n => (match d with | .float k' => decide (k = k') | _ => false) && (Lit.float k n).wf
  | _ => false
theorem wtrod_lit {P : Program} {w : World} {sp : Nat → Bool} {held : Bool} {fuel : Nat} {e : TypeId} {d : TypeDesc} {v : Value} (he : P.underlying e = some d) (h : wlitB d v = true) : DataW.trod (fun _ => ()) P w 0 sp held (fuel + 1) e [v] = some (wlitOf v, []) := by
 unfold DataW.trod
 cases v <;> simp [wlitB] at h <;> cases d <;> simp at h <;> (obtain ⟨rfl, h2⟩ := h; simp [he, wlitOf, h2])
theorem pV {P : Program} {w : World} {fuel : Nat} {t e : TypeId} {d : TypeDesc} {b n : Nat} {T : TypeId} {cs : List Value} (ht : P.underlying t = some (.slice e)) (he : P.underlying e = some d) (hk : P.cellsOf e = 1) (hb : w.heap[b]? = some (.cells cs.toArray T (0, 0))) (hl : cs.length = n) (hn : n ≤ maxLen) (hs : cs.all (wlitB d) = true) :
    DataW.trod (fun _ => ()) P w 0 (fun _ => true) false (fuel + 2) t [.slice (some ⟨b, 0, none⟩) n n] = some (.slice (cs.map wlitOf) [], MemPlace.row ⟨b, 0, none⟩ n) := by
  subst hl
  have := trod_sliceL (P := P) (w := w) (enc := fun _ => ()) (sp := fun _ => true) (held := false) (fuel := fuel + 1) (k := 1) (n := cs.length) (g := fun i => wlitOf (cs.getD i (.bool false))) ht hk hb (by omega) hn (fun i hi => by
    have h1 : (cs.drop (i * 1)).take 1 = [cs[i]] := by rw [Nat.mul_one, List.drop_eq_getElem_cons hi]; rfl
    rw [h1, wtrod_lit he (List.all_eq_true.1 hs _ (List.getElem_mem hi)), List.getD_eq_getElem?_getD, List.getElem?_eq_getElem hi]
    rfl)
  rw [this, Nat.mul_one]
  congr 2
  have h2 : (List.range cs.length).map (fun i => wlitOf (cs.getD i (.bool false))) = cs.map wlitOf := @wrange_get _ _ ⟨.bool false⟩ wlitOf cs
  rw [h2]
def pwF (x : Nat × Nat) : List Value := [Value.int .u64 x.1, Value.int .u64 x.2]
def chF (x : Nat × List UInt8) : List Value := [Value.int .i64 x.1, Value.string ⟨x.2.toArray⟩]
def wc0 : List Value := [.int .u64 1, .int .u64 10, .int .u64 100, .int .u64 1000, .int .u64 10000, .int .u64 100000, .int .u64 1000000, .int .u64 10000000, .int .u64 100000000, .int .u64 1000000000, .int .u64 10000000000, .int .u64 100000000000, .int .u64 1000000000000, .int .u64 10000000000000, .int .u64 100000000000000, .int .u64 1000000000000000, .int .u64 10000000000000000, .int .u64 100000000000000000, .int .u64 1000000000000000000, .int .u64 10000000000000000000]
def wc1 : List Value := [.iface 226 (.pointer (some ⟨18, 0, none⟩))]
def wc2 : List Value := [.iface 226 (.pointer (some ⟨19, 0, none⟩))]
def wc3 : List Value := [.int .u64 23, .int .u64 8, .int .i64 (-127)]
def wc4 : List Value := [.bool true]
def wc5 : List Value := [.int .u64 52, .int .u64 11, .int .i64 (-1023)]
def wc6 : List Value := [.int .u8 0, .int .u8 1, .int .u8 28, .int .u8 2, .int .u8 29, .int .u8 14, .int .u8 24, .int .u8 3, .int .u8 30, .int .u8 22, .int .u8 20, .int .u8 15, .int .u8 25, .int .u8 17, .int .u8 4, .int .u8 8, .int .u8 31, .int .u8 27, .int .u8 13, .int .u8 23, .int .u8 21, .int .u8 19, .int .u8 16, .int .u8 7, .int .u8 26, .int .u8 12, .int .u8 18, .int .u8 6, .int .u8 11, .int .u8 5, .int .u8 10, .int .u8 9]
def wc7 : List Value := [.int .u8 0, .int .u8 1, .int .u8 56, .int .u8 2, .int .u8 57, .int .u8 49, .int .u8 28, .int .u8 3, .int .u8 61, .int .u8 58, .int .u8 42, .int .u8 50, .int .u8 38, .int .u8 29, .int .u8 17, .int .u8 4, .int .u8 62, .int .u8 47, .int .u8 59, .int .u8 36, .int .u8 45, .int .u8 43, .int .u8 51, .int .u8 22, .int .u8 53, .int .u8 39, .int .u8 33, .int .u8 30, .int .u8 24, .int .u8 18, .int .u8 12, .int .u8 5, .int .u8 63, .int .u8 55, .int .u8 48, .int .u8 27, .int .u8 60, .int .u8 41, .int .u8 37, .int .u8 16, .int .u8 46, .int .u8 35, .int .u8 44, .int .u8 21, .int .u8 52, .int .u8 32, .int .u8 23, .int .u8 11, .int .u8 54, .int .u8 26, .int .u8 40, .int .u8 15, .int .u8 34, .int .u8 20, .int .u8 31, .int .u8 10, .int .u8 25, .int .u8 14, .int .u8 19, .int .u8 9, .int .u8 13, .int .u8 8, .int .u8 7, .int .u8 6]
def wc8 : List Value := [.slice (some ⟨20, 0, none⟩) 11 11]
def wc9 : List Value := [.slice (some ⟨21, 0, none⟩) 9 9]
def wc10 : List Value := [.slice (some ⟨22, 0, none⟩) 23 23]
def wc11 : List Value := Pinned.pow10Rows.flatMap pwF
def wc12 : List Value := [.slice (some ⟨23, 0, none⟩) Pinned.cheatRows.length Pinned.cheatRows.length]
def wc18 : List Value := [.string ⟨#[105, 110, 118, 97, 108, 105, 100, 32, 115, 121, 110, 116, 97, 120]⟩]
def wc19 : List Value := [.string ⟨#[118, 97, 108, 117, 101, 32, 111, 117, 116, 32, 111, 102, 32, 114, 97, 110, 103, 101]⟩]
def wc20 : List Value := [.float .f32 1065353216, .float .f32 1092616192, .float .f32 1120403456, .float .f32 1148846080, .float .f32 1176256512, .float .f32 1203982336, .float .f32 1232348160, .float .f32 1259902592, .float .f32 1287568416, .float .f32 1315859240, .float .f32 1343554297]
def wc21 : List Value := [.int .i64 1, .int .i64 3, .int .i64 6, .int .i64 9, .int .i64 13, .int .i64 16, .int .i64 19, .int .i64 23, .int .i64 26]
def wc22 : List Value := [.float .f64 4607182418800017408, .float .f64 4621819117588971520, .float .f64 4636737291354636288, .float .f64 4652007308841189376, .float .f64 4666723172467343360, .float .f64 4681608360884174848, .float .f64 4696837146684686336, .float .f64 4711630319722168320, .float .f64 4726483295884279808, .float .f64 4741671816366391296, .float .f64 4756540486875873280, .float .f64 4771362005757984768, .float .f64 4786511204640096256, .float .f64 4801453603149578240, .float .f64 4816244402031689728, .float .f64 4831355200913801216, .float .f64 4846369599423283200, .float .f64 4861130398305394688, .float .f64 4876203697187506176, .float .f64 4891288408196988160, .float .f64 4906019910204099648, .float .f64 4921056587992461136, .float .f64 4936209963552724370]
def wc23 : List Value := Pinned.cheatRows.flatMap chF
noncomputable def wW (os : Os) (args : Array Value) : World := ((laidWorld os).forCall (fun _ _ => 0) ⟨#[], args, []⟩).memory
theorem wh0 (os : Os) (args : Array Value) : (wW os args).heap[0]? = some (.cells wc0.toArray 270 (0, 0)) := by kernel_rfl
theorem wh1 (os : Os) (args : Array Value) : (wW os args).heap[1]? = some (.cells wc1.toArray 77 (0, 0)) := by kernel_rfl
theorem wh2 (os : Os) (args : Array Value) : (wW os args).heap[2]? = some (.cells wc2.toArray 77 (0, 0)) := by kernel_rfl
theorem wh3 (os : Os) (args : Array Value) : (wW os args).heap[3]? = some (.cells wc3.toArray 305 (0, 0)) := by kernel_rfl
theorem wh4 (os : Os) (args : Array Value) : (wW os args).heap[4]? = some (.cells wc4.toArray 4 (0, 0)) := by kernel_rfl
theorem wh5 (os : Os) (args : Array Value) : (wW os args).heap[5]? = some (.cells wc5.toArray 305 (0, 0)) := by kernel_rfl
theorem wh6 (os : Os) (args : Array Value) : (wW os args).heap[6]? = some (.cells wc6.toArray 323 (0, 0)) := by kernel_rfl
theorem wh7 (os : Os) (args : Array Value) : (wW os args).heap[7]? = some (.cells wc7.toArray 324 (0, 0)) := by kernel_rfl
theorem wh8 (os : Os) (args : Array Value) : (wW os args).heap[8]? = some (.cells wc8.toArray 340 (0, 0)) := by kernel_rfl
theorem wh9 (os : Os) (args : Array Value) : (wW os args).heap[9]? = some (.cells wc9.toArray 139 (0, 0)) := by kernel_rfl
theorem wh10 (os : Os) (args : Array Value) : (wW os args).heap[10]? = some (.cells wc10.toArray 349 (0, 0)) := by kernel_rfl
theorem wh11 (os : Os) (args : Array Value) : (wW os args).heap[11]? = some (.cells wc11.toArray 360 (0, 0)) := by kernel_rfl
theorem wh12 (os : Os) (args : Array Value) : (wW os args).heap[12]? = some (.cells wc12.toArray 366 (0, 0)) := by kernel_rfl
theorem wh18 (os : Os) (args : Array Value) : (wW os args).heap[18]? = some (.cells wc18.toArray 228 (0, 0)) := by kernel_rfl
theorem wh19 (os : Os) (args : Array Value) : (wW os args).heap[19]? = some (.cells wc19.toArray 228 (0, 0)) := by kernel_rfl
theorem wh20 (os : Os) (args : Array Value) : (wW os args).heap[20]? = some (.cells wc20.toArray 288 (0, 0)) := by kernel_rfl
theorem wh21 (os : Os) (args : Array Value) : (wW os args).heap[21]? = some (.cells wc21.toArray 3 (0, 0)) := by kernel_rfl
theorem wh22 (os : Os) (args : Array Value) : (wW os args).heap[22]? = some (.cells wc22.toArray 214 (0, 0)) := by kernel_rfl
theorem wh23 (os : Os) (args : Array Value) : (wW os args).heap[23]? = some (.cells wc23.toArray 365 (0, 0)) := by kernel_rfl
theorem wt0 (w : World) : DataW.trod (fun _ => ()) Tryz.prog w 0 (fun _ => true) false 8 270 wc0 = some (Rows.laid_internal_strconv_uint64pow10, []) := by kernel_rfl
theorem wt3 (w : World) : DataW.trod (fun _ => ()) Tryz.prog w 0 (fun _ => true) false 8 305 wc3 = some (Rows.laid_internal_strconv_float32info, []) := by kernel_rfl
theorem wt4 (w : World) : DataW.trod (fun _ => ()) Tryz.prog w 0 (fun _ => true) false 8 4 wc4 = some (Rows.laid_internal_strconv_optimize, []) := by kernel_rfl
theorem wt5 (w : World) : DataW.trod (fun _ => ()) Tryz.prog w 0 (fun _ => true) false 8 305 wc5 = some (Rows.laid_internal_strconv_float64info, []) := by kernel_rfl
theorem wt6 (w : World) : DataW.trod (fun _ => ()) Tryz.prog w 0 (fun _ => true) false 8 323 wc6 = some (Rows.laid_math_bits_deBruijn32tab, []) := by kernel_rfl
theorem wt7 (w : World) : DataW.trod (fun _ => ()) Tryz.prog w 0 (fun _ => true) false 8 324 wc7 = some (Rows.laid_math_bits_deBruijn64tab, []) := by kernel_rfl
theorem wt8 (os : Os) (args : Array Value) : DataW.trod (fun _ => ()) Tryz.prog (wW os args) 0 (fun _ => true) false 8 340 wc8 = some (Rows.laid_internal_strconv_float32pow10, MemPlace.row ⟨20, 0, none⟩ 11) :=
 (pV (fuel := 6) (e := 288) (d := .float .f32) (cs := wc20) (n := 11) (by kernel_rfl) (by kernel_rfl) (by kernel_rfl) (wh20 os args) rfl (by unfold maxLen; omega) (by kernel_rfl)).trans (by kernel_rfl)
theorem wt9 (os : Os) (args : Array Value) : DataW.trod (fun _ => ()) Tryz.prog (wW os args) 0 (fun _ => true) false 8 139 wc9 = some (Rows.laid_internal_strconv_powtab, MemPlace.row ⟨21, 0, none⟩ 9) :=
 (pV (fuel := 6) (e := 3) (d := .int .i64) (cs := wc21) (n := 9) (by kernel_rfl) (by kernel_rfl) (by kernel_rfl) (wh21 os args) rfl (by unfold maxLen; omega) (by kernel_rfl)).trans (by kernel_rfl)
theorem wt10 (os : Os) (args : Array Value) : DataW.trod (fun _ => ()) Tryz.prog (wW os args) 0 (fun _ => true) false 8 349 wc10 = some (Rows.laid_internal_strconv_float64pow10, MemPlace.row ⟨22, 0, none⟩ 23) :=
 (pV (fuel := 6) (e := 214) (d := .float .f64) (cs := wc22) (n := 23) (by kernel_rfl) (by kernel_rfl) (by kernel_rfl) (wh22 os args) rfl (by unfold maxLen; omega) (by kernel_rfl)).trans (by kernel_rfl)
theorem wt1 (os : Os) (args : Array Value) : DataW.trod (fun _ => ()) Tryz.prog (wW os args) 0 (fun _ => true) false 8 77 wc1 = some (Rows.laid_strconv_ErrSyntax, MemPlace.row ⟨18, 0, none⟩ 1) := by kernel_rfl
theorem wo1 (os : Os) (args : Array Value) : Value.okWideB Tryz.prog (wW os args) 226 (.pointer (some ⟨18, 0, none⟩)) = true := by kernel_rfl
theorem wt2 (os : Os) (args : Array Value) : DataW.trod (fun _ => ()) Tryz.prog (wW os args) 0 (fun _ => true) false 8 77 wc2 = some (Rows.laid_strconv_ErrRange, MemPlace.row ⟨19, 0, none⟩ 1) := by kernel_rfl
theorem wo2 (os : Os) (args : Array Value) : Value.okWideB Tryz.prog (wW os args) 226 (.pointer (some ⟨19, 0, none⟩)) = true := by kernel_rfl
theorem wpw_one (w : World) (x : Nat × Nat) (h1 : (Lit.int .u64 (x.1 : Int)).wf = true) (h2 : (Lit.int .u64 (x.2 : Int)).wf = true) : DataW.trod (fun _ => ()) Tryz.prog w 0 (fun _ => true) false 7 359 (pwF x) = some (.agg [.lit (.int .u64 x.1), .lit (.int .u64 x.2)], []) := by
 have e1 : Tryz.prog.underlying 359 = some (.struct #[⟨ "hi", 235, 0, false, "", "internal/strconv", 0⟩, ⟨ "lo", 235, 1, false, "", "internal/strconv", 8⟩]) := by kernel_rfl
 have e2 : Tryz.prog.cellsOf 359 = 2 := by kernel_rfl
 have e3 : Tryz.prog.cellsOf 235 = 1 := by kernel_rfl
 have e4 : Tryz.prog.underlying 235 = some (.int .u64) := by kernel_rfl
 unfold DataW.trod
 simp only [e1, pwF, e2]
 rw [if_pos (show ([Value.int .u64 (x.1 : Int), Value.int .u64 (x.2 : Int)] : List Value).length = 2 from rfl)]
 simp only [List.mapM_cons, List.mapM_nil, e3]
 have t1 : DataW.trod (fun _ => ()) Tryz.prog w 0 (fun _ => true) false 6 235 [Value.int .u64 x.1] = some (.lit (.int .u64 x.1), []) := wtrod_lit (fuel := 5) e4 (by simp [wlitB, h1])
 have t2 : DataW.trod (fun _ => ()) Tryz.prog w 0 (fun _ => true) false 6 235 [Value.int .u64 x.2] = some (.lit (.int .u64 x.2), []) := wtrod_lit (fuel := 5) e4 (by simp [wlitB, h2])
 simp [t1, t2]
theorem wt11 (w : World) : DataW.trod (fun _ => ()) Tryz.prog w 0 (fun _ => true) false 8 360 wc11 = some (Rows.laid_internal_strconv_pow10Tab, []) := by
  have hl : wc11.length = Pinned.pow10Rows.length * 2 := wflat_len pwF 2 (fun _ => rfl) _
  have hr : Pinned.pow10Rows.length = 696 := by kernel_rfl
  have hwf : Pinned.pow10Rows.all (fun x => (Lit.int .u64 x.1).wf && (Lit.int .u64 x.2).wf) = true := by kernel_rfl
  have := trod_arrayL (P := Tryz.prog) (w := w) (enc := fun _ => ()) (sp := fun _ => true) (held := false) (fuel := 7) (t := 360) (e := 359) (n := 696) (k := 2) (cs := wc11) (g := fun i => (fun x : Nat × Nat => (.agg [.lit (.int .u64 x.1), .lit (.int .u64 x.2)] : DataW Unit)) (Pinned.pow10Rows.getD i default)) (by kernel_rfl) (by kernel_rfl) (by rw [hl, hr]; kernel_rfl) (fun i hi => by
    have hi' : i < Pinned.pow10Rows.length := by rw [hr]; exact hi
    have h1 : (wc11.drop (i * 2)).take 2 = pwF Pinned.pow10Rows[i] := wflat_at pwF 2 (fun _ => rfl) _ i hi'
    have h2 := List.all_eq_true.1 hwf _ (List.getElem_mem hi')
    simp only [Bool.and_eq_true] at h2
    rw [h1, List.getD_eq_getElem?_getD, List.getElem?_eq_getElem hi', Option.getD_some]
    exact wpw_one w _ h2.1 h2.2)
  rw [this]
  have h3 := wrange_get (fun x : Nat × Nat => (.agg [.lit (.int .u64 x.1), .lit (.int .u64 x.2)] : DataW Unit)) Pinned.pow10Rows
  rw [hr] at h3
  rw [h3]
  rfl
theorem wch_one (w : World) (x : Nat × List UInt8) (h1 : (Lit.int .i64 (x.1 : Int)).wf = true) (h2 : x.2.length ≤ maxLen) : DataW.trod (fun _ => ()) Tryz.prog w 0 (fun _ => true) false 7 365 (chF x) = some (.agg [.lit (.int .i64 x.1), .lit (.string x.2)], []) := by
 have e1 : Tryz.prog.underlying 365 = some (.struct #[⟨ "delta", 3, 0, false, "", "internal/strconv", 0⟩, ⟨ "cutoff", 9, 1, false, "", "internal/strconv", 8⟩]) := by kernel_rfl
 have e2 : Tryz.prog.cellsOf 365 = 2 := by kernel_rfl
 have e3 : Tryz.prog.cellsOf 3 = 1 := by kernel_rfl
 have e4 : Tryz.prog.cellsOf 9 = 1 := by kernel_rfl
 have e5 : Tryz.prog.underlying 3 = some (.int .i64) := by kernel_rfl
 have e6 : Tryz.prog.underlying 9 = some .string := by kernel_rfl
 have t1 : DataW.trod (fun _ => ()) Tryz.prog w 0 (fun _ => true) false 6 3 [Value.int .i64 x.1] = some (.lit (.int .i64 x.1), []) := wtrod_lit (fuel := 5) e5 (by simp [wlitB, h1])
 have t2 : DataW.trod (fun _ => ()) Tryz.prog w 0 (fun _ => true) false 6 9 [Value.string ⟨x.2.toArray⟩] = some (.lit (.string x.2), []) := by
  unfold DataW.trod
  have : (ByteArray.mk x.2.toArray).size ≤ maxLen := by simpa [ByteArray.size] using h2
  simp [e6, this]
 unfold DataW.trod
 simp only [e1, chF, e2]
 rw [if_pos (show ([Value.int .i64 (x.1 : Int), Value.string ⟨x.2.toArray⟩] : List Value).length = 2 from rfl)]
 simp only [List.mapM_cons, List.mapM_nil, e3, e4]
 simp [t1, t2]
theorem wt12 (os : Os) (args : Array Value) : DataW.trod (fun _ => ()) Tryz.prog (wW os args) 0 (fun _ => true) false 8 366 wc12 = some (Rows.laid_internal_strconv_leftcheats, MemPlace.row ⟨23, 0, none⟩ 122) := by
  have hl : wc23.length = Pinned.cheatRows.length * 2 := wflat_len chF 2 (fun _ => rfl) _
  have hr : Pinned.cheatRows.length = 61 := by kernel_rfl
  have hwf : Pinned.cheatRows.all (fun x => (Lit.int .i64 x.1).wf && decide (x.2.length ≤ maxLen)) = true := by kernel_rfl
  have := trod_sliceL (P := Tryz.prog) (w := wW os args) (enc := fun _ => ()) (sp := fun _ => true) (held := false) (fuel := 7) (t := 366) (e := 365) (b := 23) (n := 61) (k := 2) (T := 365) (cs := wc23) (g := fun i => (fun x : Nat × List UInt8 => (.agg [.lit (.int .i64 x.1), .lit (.string x.2)] : DataW Unit)) (Pinned.cheatRows.getD i default)) (by kernel_rfl) (by kernel_rfl) (wh23 os args) (by rw [hl, hr]) (by unfold maxLen; omega) (fun i hi => by
    have hi' : i < Pinned.cheatRows.length := by rw [hr]; exact hi
    have h1 : (wc23.drop (i * 2)).take 2 = chF Pinned.cheatRows[i] := wflat_at chF 2 (fun _ => rfl) _ i hi'
    have h2 := List.all_eq_true.1 hwf _ (List.getElem_mem hi')
    simp only [Bool.and_eq_true, decide_eq_true_eq] at h2
    rw [h1, List.getD_eq_getElem?_getD, List.getElem?_eq_getElem hi', Option.getD_some]
    exact wch_one _ _ h2.1 h2.2)
  have h3 := wrange_get (fun x : Nat × List UInt8 => (.agg [.lit (.int .i64 x.1), .lit (.string x.2)] : DataW Unit)) Pinned.cheatRows
  rw [hr] at h3
  rw [h3] at this
  exact this
def wPs : List MemPlace := MemPlace.row ⟨6, 0, none⟩ wc6.length ++ [] ++ (MemPlace.row ⟨7, 0, none⟩ wc7.length ++ [] ++ (MemPlace.row ⟨3, 0, none⟩ wc3.length ++ [] ++ (MemPlace.row ⟨5, 0, none⟩ wc5.length ++ [] ++ (MemPlace.row ⟨4, 0, none⟩ wc4.length ++ [] ++ (MemPlace.row ⟨9, 0, none⟩ wc9.length ++ MemPlace.row ⟨21, 0, none⟩ 9 ++ (MemPlace.row ⟨10, 0, none⟩ wc10.length ++ MemPlace.row ⟨22, 0, none⟩ 23 ++ (MemPlace.row ⟨8, 0, none⟩ wc8.length ++ MemPlace.row ⟨20, 0, none⟩ 11 ++ (MemPlace.row ⟨0, 0, none⟩ wc0.length ++ [] ++ (MemPlace.row ⟨2, 0, none⟩ wc2.length ++ MemPlace.row ⟨19, 0, none⟩ 1 ++ (MemPlace.row ⟨1, 0, none⟩ wc1.length ++ MemPlace.row ⟨18, 0, none⟩ 1 ++ (MemPlace.row ⟨12, 0, none⟩ wc12.length ++ MemPlace.row ⟨23, 0, none⟩ 122 ++ (MemPlace.row ⟨11, 0, none⟩ wc11.length ++ [] ++ ([])))))))))))))
theorem wLv (os : Os) (args : Array Value) : DataW.LaidVars Tryz.prog (wW os args) Rows.fnTextedRow.laid wPs :=
 vH 8 (by kernel_rfl) (by kernel_rfl) (wh6 os args) (wt6 _) (vH 8 (by kernel_rfl) (by kernel_rfl) (wh7 os args) (wt7 _) (vH 8 (by kernel_rfl) (by kernel_rfl) (wh3 os args) (wt3 _) (vH 8 (by kernel_rfl) (by kernel_rfl) (wh5 os args) (wt5 _) (vH 8 (by kernel_rfl) (by kernel_rfl) (wh4 os args) (wt4 _) (vH 8 (by kernel_rfl) (by kernel_rfl) (wh9 os args) (wt9 os args) (vH 8 (by kernel_rfl) (by kernel_rfl) (wh10 os args) (wt10 os args) (vH 8 (by kernel_rfl) (by kernel_rfl) (wh8 os args) (wt8 os args) (vH 8 (by kernel_rfl) (by kernel_rfl) (wh0 os args) (wt0 _) (vH 8 (by kernel_rfl) (by kernel_rfl) (wh2 os args) (wt2 os args) (vH 8 (by kernel_rfl) (by kernel_rfl) (wh1 os args) (wt1 os args) (vH 8 (by kernel_rfl) (by kernel_rfl) (wh12 os args) (wt12 os args) (vH 8 (by kernel_rfl) (by kernel_rfl) (wh11 os args) (wt11 _) (rfl)))))))))))))
def wBs : List Nat := [0, 1, 2, 3, 4, 5, 6, 7, 8, 9, 10, 11, 12, 18, 19, 20, 21, 22, 23]
theorem wNd : nodupBits 1400 wPs 0 = true := by kernel_rfl
theorem wIn : inB wBs wPs = true := by kernel_rfl
theorem laid_met (os : Os) (args : Array Value) : laidMet Tryz.prog Rows.fnTextedRow.laid (wW os args) := by
 refine ⟨wPs, wLv os args, (nodupBits_sound wNd).1, fun b off hp => ?_⟩
 have h1 := List.all_eq_true.1 wIn _ hp
 have hb : b ∈ wBs := by simpa using h1
 simp only [wBs, List.mem_cons, List.not_mem_nil, or_false] at hb
 rcases hb with rfl | rfl | rfl | rfl | rfl | rfl | rfl | rfl | rfl | rfl | rfl | rfl | rfl | rfl | rfl | rfl | rfl | rfl | rfl
 ·exact xZ (wh0 os args) (by kernel_rfl)
 ·exact wgood_one (wh1 os args) (wo1 os args)
 ·exact wgood_one (wh2 os args) (wo2 os args)
 ·exact xZ (wh3 os args) (by kernel_rfl)
 ·exact xZ (wh4 os args) (by kernel_rfl)
 ·exact xZ (wh5 os args) (by kernel_rfl)
 ·exact xZ (wh6 os args) (by kernel_rfl)
 ·exact xZ (wh7 os args) (by kernel_rfl)
 ·exact xZ (wh8 os args) (by kernel_rfl)
 ·exact xZ (wh9 os args) (by kernel_rfl)
 ·exact xZ (wh10 os args) (by kernel_rfl)
 ·exact xZ (wh11 os args) (by kernel_rfl)
 ·exact xZ (wh12 os args) (by kernel_rfl)
 ·exact xZ (wh18 os args) (by kernel_rfl)
 ·exact xZ (wh19 os args) (by kernel_rfl)
 ·exact xZ (wh20 os args) (by kernel_rfl)
 ·exact xZ (wh21 os args) (by kernel_rfl)
 ·exact xZ (wh22 os args) (by kernel_rfl)
 ·exact xZ (wh23 os args) (by kernel_rfl)
end Go.Jw

namespace Go.Jw
open Go Go.RowKit Go.Proofs Go.ChangeShapes Go.WideShapes Go.ChangeAt Go.Proofs.YtlcfillobkdnmaaGreatDoor
set_option maxRecDepth 100000
noncomputable abbrev jP : Program := Tryz.pinned.checked.prog
def jL : List Char := ([104, 97, 114, 110, 101, 115, 115, 32, 51, 52, 54, 53, 50, 48, 98, 97, 101, 52, 98, 52, 51, 99, 98, 99, 55, 56, 100, 101, 53, 53, 51, 57, 50, 50, 101, 54, 99, 51, 55, 50, 100, 97, 98, 97, 102, 48, 98, 100, 48, 48, 53, 100, 102, 57, 97, 97, 102, 99, 54, 50, 57, 100, 55, 55, 100, 51, 48, 101, 52, 48, 56, 53, 32, 99, 117, 116, 32, 97, 116, 32, 108, 111, 111, 112, 46, 101, 120, 97, 109, 112, 108, 101, 47, 112, 117, 98, 45, 103, 48, 49, 53, 50, 50, 47, 108, 97, 119, 115, 46, 70, 110, 84, 101, 120, 116, 101, 100, 32, 108, 111, 111, 112, 46, 101, 120, 97, 109, 112, 108, 101, 47, 112, 117, 98, 45, 103, 48, 49, 53, 50, 50, 47, 108, 97, 119, 115, 46, 70, 110, 87, 114, 105, 116, 116, 101, 110, 32, 108, 111, 111, 112, 46, 101, 120, 97, 109, 112, 108, 101, 47, 112, 117, 98, 45, 103, 48, 49, 53, 50, 50, 47, 108, 97, 119, 115, 46, 70, 110, 87, 114, 105, 116, 116, 101, 110, 84, 119, 105, 99, 101, 32, 108, 111, 111, 112, 46, 101, 120, 97, 109, 112, 108, 101, 47, 112, 117, 98, 45, 103, 48, 49, 53, 50, 50, 47, 108, 97, 119, 115, 46, 70, 110, 65, 100, 100, 101, 100, 32, 108, 111, 111, 112, 46, 101, 120, 97, 109, 112, 108, 101, 47, 112, 117, 98, 45, 103, 48, 49, 53, 50, 50, 47, 108, 97, 119, 115, 46, 70, 110, 70, 111, 117, 110, 100, 32, 108, 111, 111, 112, 46, 101, 120, 97, 109, 112, 108, 101, 47, 112, 117, 98, 45, 103, 48, 49, 53, 50, 50, 47, 108, 97, 119, 115, 46, 70, 110, 80, 111, 105, 110, 116, 101, 100, 32, 108, 111, 111, 112, 46, 101, 120, 97, 109, 112, 108, 101, 47, 112, 117, 98, 45, 103, 48, 49, 53, 50, 50, 47, 108, 97, 119, 115, 46, 70, 110, 67, 111, 112, 105, 101, 100, 32, 108, 111, 111, 112, 46, 101, 120, 97, 109, 112, 108, 101, 47, 112, 117, 98, 45, 103, 48, 49, 53, 50, 50, 47, 108, 97, 119, 115, 46, 70, 110, 67, 111, 112, 105, 101, 100, 65, 99, 99, 101, 112, 116, 115, 32, 108, 111, 111, 112, 46, 101, 120, 97, 109, 112, 108, 101, 47, 112, 117, 98, 45, 103, 48, 49, 53, 50, 50, 47, 108, 97, 119, 115, 46, 70, 110, 65, 108, 108, 83, 116, 101, 112, 115, 32, 108, 111, 111, 112, 46, 101, 120, 97, 109, 112, 108, 101, 47, 112, 117, 98, 45, 103, 48, 49, 53, 50, 50, 47, 108, 97, 119, 115, 46, 70, 110, 67, 104, 111, 115, 101, 110, 32, 108, 111, 111, 112, 46, 101, 120, 97, 109, 112, 108, 101, 47, 112, 117, 98, 45, 103, 48, 49, 53, 50, 50, 47, 108, 97, 119, 115, 46, 70, 110, 67, 104, 111, 115, 101, 110, 78, 97, 114, 114, 111, 119, 115, 32, 108, 111, 111, 112, 46, 101, 120, 97, 109, 112, 108, 101, 47, 112, 117, 98, 45, 103, 48, 49, 53, 50, 50, 47, 108, 97, 119, 115, 46, 70, 110, 77, 101, 114, 103, 101, 100, 32, 108, 111, 111, 112, 46, 101, 120, 97, 109, 112, 108, 101, 47, 112, 117, 98, 45, 103, 48, 49, 53, 50, 50, 47, 108, 97, 119, 115, 46, 70, 110, 77, 101, 114, 103, 101, 100, 65, 99, 99, 101, 112, 116, 115, 32, 108, 111, 111, 112, 46, 101, 120, 97, 109, 112, 108, 101, 47, 112, 117, 98, 45, 103, 48, 49, 53, 50, 50, 47, 108, 97, 119, 115, 46, 70, 110, 82, 101, 115, 111, 108, 118, 101, 100, 32, 108, 111, 111, 112, 46, 101, 120, 97, 109, 112, 108, 101, 47, 112, 117, 98, 45, 103, 48, 49, 53, 50, 50, 47, 108, 97, 119, 115, 46, 70, 110, 82, 101, 115, 111, 108, 118, 101, 100, 65, 99, 99, 101, 112, 116, 115, 32, 108, 111, 111, 112, 46, 101, 120, 97, 109, 112, 108, 101, 47, 112, 117, 98, 45, 103, 48, 49, 53, 50, 50, 47, 108, 97, 119, 115, 46, 70, 110, 82, 101, 115, 111, 108, 118, 101, 100, 84, 119, 105, 99, 101] : List Nat).map Char.ofNat
def jW : List (List Char) := ([[104, 97, 114, 110, 101, 115, 115], [51, 52, 54, 53, 50, 48, 98, 97, 101, 52, 98, 52, 51, 99, 98, 99, 55, 56, 100, 101, 53, 53, 51, 57, 50, 50, 101, 54, 99, 51, 55, 50, 100, 97, 98, 97, 102, 48, 98, 100, 48, 48, 53, 100, 102, 57, 97, 97, 102, 99, 54, 50, 57, 100, 55, 55, 100, 51, 48, 101, 52, 48, 56, 53], [99, 117, 116], [97, 116], [108, 111, 111, 112, 46, 101, 120, 97, 109, 112, 108, 101, 47, 112, 117, 98, 45, 103, 48, 49, 53, 50, 50, 47, 108, 97, 119, 115, 46, 70, 110, 84, 101, 120, 116, 101, 100], [108, 111, 111, 112, 46, 101, 120, 97, 109, 112, 108, 101, 47, 112, 117, 98, 45, 103, 48, 49, 53, 50, 50, 47, 108, 97, 119, 115, 46, 70, 110, 87, 114, 105, 116, 116, 101, 110], [108, 111, 111, 112, 46, 101, 120, 97, 109, 112, 108, 101, 47, 112, 117, 98, 45, 103, 48, 49, 53, 50, 50, 47, 108, 97, 119, 115, 46, 70, 110, 87, 114, 105, 116, 116, 101, 110, 84, 119, 105, 99, 101], [108, 111, 111, 112, 46, 101, 120, 97, 109, 112, 108, 101, 47, 112, 117, 98, 45, 103, 48, 49, 53, 50, 50, 47, 108, 97, 119, 115, 46, 70, 110, 65, 100, 100, 101, 100], [108, 111, 111, 112, 46, 101, 120, 97, 109, 112, 108, 101, 47, 112, 117, 98, 45, 103, 48, 49, 53, 50, 50, 47, 108, 97, 119, 115, 46, 70, 110, 70, 111, 117, 110, 100], [108, 111, 111, 112, 46, 101, 120, 97, 109, 112, 108, 101, 47, 112, 117, 98, 45, 103, 48, 49, 53, 50, 50, 47, 108, 97, 119, 115, 46, 70, 110, 80, 111, 105, 110, 116, 101, 100], [108, 111, 111, 112, 46, 101, 120, 97, 109, 112, 108, 101, 47, 112, 117, 98, 45, 103, 48, 49, 53, 50, 50, 47, 108, 97, 119, 115, 46, 70, 110, 67, 111, 112, 105, 101, 100], [108, 111, 111, 112, 46, 101, 120, 97, 109, 112, 108, 101, 47, 112, 117, 98, 45, 103, 48, 49, 53, 50, 50, 47, 108, 97, 119, 115, 46, 70, 110, 67, 111, 112, 105, 101, 100, 65, 99, 99, 101, 112, 116, 115], [108, 111, 111, 112, 46, 101, 120, 97, 109, 112, 108, 101, 47, 112, 117, 98, 45, 103, 48, 49, 53, 50, 50, 47, 108, 97, 119, 115, 46, 70, 110, 65, 108, 108, 83, 116, 101, 112, 115], [108, 111, 111, 112, 46, 101, 120, 97, 109, 112, 108, 101, 47, 112, 117, 98, 45, 103, 48, 49, 53, 50, 50, 47, 108, 97, 119, 115, 46, 70, 110, 67, 104, 111, 115, 101, 110], [108, 111, 111, 112, 46, 101, 120, 97, 109, 112, 108, 101, 47, 112, 117, 98, 45, 103, 48, 49, 53, 50, 50, 47, 108, 97, 119, 115, 46, 70, 110, 67, 104, 111, 115, 101, 110, 78, 97, 114, 114, 111, 119, 115], [108, 111, 111, 112, 46, 101, 120, 97, 109, 112, 108, 101, 47, 112, 117, 98, 45, 103, 48, 49, 53, 50, 50, 47, 108, 97, 119, 115, 46, 70, 110, 77, 101, 114, 103, 101, 100], [108, 111, 111, 112, 46, 101, 120, 97, 109, 112, 108, 101, 47, 112, 117, 98, 45, 103, 48, 49, 53, 50, 50, 47, 108, 97, 119, 115, 46, 70, 110, 77, 101, 114, 103, 101, 100, 65, 99, 99, 101, 112, 116, 115], [108, 111, 111, 112, 46, 101, 120, 97, 109, 112, 108, 101, 47, 112, 117, 98, 45, 103, 48, 49, 53, 50, 50, 47, 108, 97, 119, 115, 46, 70, 110, 82, 101, 115, 111, 108, 118, 101, 100], [108, 111, 111, 112, 46, 101, 120, 97, 109, 112, 108, 101, 47, 112, 117, 98, 45, 103, 48, 49, 53, 50, 50, 47, 108, 97, 119, 115, 46, 70, 110, 82, 101, 115, 111, 108, 118, 101, 100, 65, 99, 99, 101, 112, 116, 115], [108, 111, 111, 112, 46, 101, 120, 97, 109, 112, 108, 101, 47, 112, 117, 98, 45, 103, 48, 49, 53, 50, 50, 47, 108, 97, 119, 115, 46, 70, 110, 82, 101, 115, 111, 108, 118, 101, 100, 84, 119, 105, 99, 101]] : List (List Nat)).map fun l => l.map Char.ofNat
theorem hI : jP.initOrder = String.ofList jL := by kernel_rfl
theorem hW0 : wordsSigns jL = jW := by kernel_rfl
theorem hW : wordsSigns jP.initOrder.toList = jW := by rw [hI, String.toList_ofList, hW0]
theorem jh : behindMainWord (wordsSigns jP.initOrder.toList) = "cut".toList :: jW.drop 3 := by rw [hW]; kernel_rfl
theorem make_of {P : Program} {rest : List (List Char)} (h : behindMainWord (wordsSigns P.initOrder.toList) = "cut".toList :: rest) : P.make = some .cut := by unfold Program.make; rw [h]; rfl
theorem lifts_of {P : Program} {rest : List (List Char)} (h : behindMainWord (wordsSigns P.initOrder.toList) = "cut".toList :: rest) : P.liftsFinal = false := by unfold Program.liftsFinal Program.headLifts; rw [h]; rfl
theorem enter_of {P : Program} {rest : List (List Char)} (h : behindMainWord (wordsSigns P.initOrder.toList) = "cut".toList :: rest) (l1 : P.laysLater = false) (l2 : P.bearsReflect = false) (l3 : P.doorFits [] = true) : P.mayEnter = true := by
 have h1 : (stripLifts liftWords ("cut".toList :: rest)).1 = [] := rfl
 have h2 : (stripLifts liftWords ("cut".toList :: rest)).2 = "cut".toList :: rest := rfl
 unfold Program.mayEnter
 rw [h]
 simp only [h1, h2, l1, l2, l3, List.head?_cons]
 simp
theorem jl1 : jP.laysLater = false := by kernel_rfl
theorem jl2 : jP.bearsReflect = false := by kernel_rfl
theorem jl3 : jP.doorFits [] = true := by kernel_rfl
theorem j1 : (laidOutB jP) = true := by kernel_rfl
theorem j2 : (mapsRowed jP) = true := by kernel_rfl
theorem j6 : ((jP.stops == [])) = true := by kernel_rfl
theorem j8 : ((jP.stopKnobs == [])) = true := by kernel_rfl
theorem j24 : (jP.stopsHeard) = true := by kernel_rfl
theorem j25 : (jP.mayEnter) = true := enter_of jh jl1 jl2 jl3
noncomputable abbrev jC8 : OpenClaim := Rows.fnPointedRow
noncomputable abbrev jS8 : ChangeSpec := (OpenSpec.ofChange Rows.fnPointedSpec).bare
noncomputable abbrev jF8 : Func := Tryz.f8
theorem j0_8 : (jC8.wf (OpenSpec.ofChange jS8)) = true := by kernel_rfl
theorem j3_8 : (jF8.params.all (jP.readableRec ·)) = true := by kernel_rfl
theorem j4_8 : (namedTie jP jC8.named jS8.vars) = true := by kernel_rfl
theorem j5_8 : ((jC8.stops == [])) = true := by kernel_rfl
theorem j7_8 : ((jC8.knobs == [])) = true := by kernel_rfl
theorem j9_8 : ((jC8.inPlace == jP.inPlace 8)) = true := by kernel_rfl
theorem j10_8 : ((jC8.unfollowed == jP.unfollowed 8)) = true := by kernel_rfl
theorem j11_8 : ((jC8.recurses == jP.recurses 8)) = true := by kernel_rfl
theorem j12_8 : ((jC8.named == jP.varsNamed 8)) = true := by kernel_rfl
theorem j13_8 : ((jC8.maps == (jF8.params.toList ++ jS8.plain.varTypes jP).any (jP.mapsRec ·))) = true := by kernel_rfl
theorem j14_8 : ((jC8.ifaces == (jF8.params.toList ++ jS8.plain.varTypes jP).any (jP.ifacesRec ·))) = true := by kernel_rfl
theorem j15_8 : ((jC8.mapsOut == jP.mapsAmong jF8.resultTypes.toList)) = true := by kernel_rfl
theorem j16_8 : ((jC8.loops == (jF8.params.toList ++ jS8.plain.varTypes jP).any (jP.loopsFrom ·))) = true := by kernel_rfl
theorem j17_8 : ((jC8.wideKeys == (jF8.params.toList ++ jS8.plain.varTypes jP ++ jF8.resultTypes.toList).any (jP.wideKeysFrom ·))) = true := by kernel_rfl
theorem j18_8 : (jS8.vars.all (jP.varReadable ·)) = true := by kernel_rfl
theorem j19_8 : (jF8.resultTypes.all (fun t => jP.readableRec t && decide (t < jP.types.size))) = true := by kernel_rfl
theorem j20_8 : ((jC8.ifacesOut == jF8.resultTypes.toList.any (jP.ifacesRec ·))) = true := by kernel_rfl
theorem j21_8 : ((jC8.loopsOut == jF8.resultTypes.toList.any (jP.loopsFrom ·))) = true := by kernel_rfl
theorem j22_8 : ((jC8.plainKeys == jP.plainKeys)) = true := by kernel_rfl
theorem j23_8 : (jC8.shortTexts.isNone) = true := by kernel_rfl
theorem j26_8 : ((jC8.lifted == jP.liftsFinal)) = true := by rw [lifts_of jh]; kernel_rfl
theorem j27_8 : ((jP.make == some jC8.make)) = true := by rw [make_of jh]; kernel_rfl
theorem j28_8 : ((jC8.kinds == (if jC8.domain.isEmpty then [] else jF8.params.toList.map fun t => match jP.underlying t with | some (.int k) => some k | _ => none))) = true := by kernel_rfl
theorem j29_8 : ((jC8.pinned == jC8.pinnedBy)) = true := by kernel_rfl
theorem j30_8 : ((jC8.veiled == (jF8.params.toList ++ jS8.plain.varTypes jP ++ jF8.resultTypes.toList).any (jP.veiledRec ·))) = true := by kernel_rfl
theorem j31_8 : (jC8.veiledFits jP jF8.params.toList (jF8.params.toList ++ jS8.plain.varTypes jP ++ jF8.resultTypes.toList)) = true := by kernel_rfl
theorem jAll8 : joinedFacts jP 8 jF8 jS8 jC8 = true := by
 unfold joinedFacts
 simp only [Bool.and_eq_true]
 exact ⟨⟨⟨⟨⟨⟨⟨⟨⟨⟨⟨⟨⟨⟨⟨⟨⟨⟨⟨⟨⟨⟨⟨⟨⟨⟨⟨⟨⟨⟨⟨j0_8, j1⟩, j2⟩, j3_8⟩, j4_8⟩, j5_8⟩, j6⟩, j7_8⟩, j8⟩, j9_8⟩, j10_8⟩, j11_8⟩, j12_8⟩, j13_8⟩, j14_8⟩, j15_8⟩, j16_8⟩, j17_8⟩, j18_8⟩, j19_8⟩, j20_8⟩, j21_8⟩, j22_8⟩, j23_8⟩, j24⟩, j25⟩, j26_8⟩, j27_8⟩, j28_8⟩, j29_8⟩, j30_8⟩, j31_8⟩
theorem jgoes8 : false = jC8.goesBy jP := by kernel_rfl
theorem jtext8 : jC8.wfByText (OpenSpec.ofChange Rows.fnPointedSpec) = true := by kernel_rfl
def wArg : Value := .agg #[.int .i64 0, .int .i64 0, .string ⟨#[]⟩, .slice none 0 0, .slice none 0 0]
theorem main_of {P : Program} {h s : List Char} {r : List (List Char)} (hw : wordsSigns P.initOrder.toList = h :: s :: r) (h1 : h = "harness".toList) (h2 : isSumSigns s = true) : P.mainIs = some (true, s) := by
 unfold Program.mainIs
 rw [hw, h1]
 simp only [h2]
 rfl
theorem jhd : wordsSigns jP.initOrder.toList = "harness".toList :: "346520bae4b43cbc78de553922e6c372dabaf0bd005df9aafc629d77d30e4085".toList :: jW.drop 2 := by rw [hW]; kernel_rfl
theorem jsum : isSumSigns "346520bae4b43cbc78de553922e6c372dabaf0bd005df9aafc629d77d30e4085".toList = true := by kernel_rfl
theorem jmain : jP.mainIs = some (true, "346520bae4b43cbc78de553922e6c372dabaf0bd005df9aafc629d77d30e4085".toList) := main_of jhd rfl jsum
theorem reads8 (os : Os) {H : Type} (enc : TypeId × Value → H) : ∃ places, DataW.whole enc Tryz.prog ((laidWorld os).forCall (fun _ _ => 0) ⟨#[], #[wArg, .string ⟨#[]⟩], []⟩).memory Tryz.f8.params.toList Rows.fnPointedSpec.vars false #[wArg, .string ⟨#[]⟩].toList 8 = some ([.agg [.lit (.int .i64 0), .lit (.int .i64 0), .lit (.string []), .nil, .nil], .lit (.string [])], [], places) :=
 ⟨[], by kernel_rfl⟩
theorem lifted8 (os : Os) (started : os.Started) (H : Type) (enc : TypeId × Value → H) (F : Stop.Interp) :
    ReturnsInHanded {} Tryz.checked os 8 .any ((OpenSpec.ofChange Rows.fnPointedSpec).preRow enc Tryz.prog Tryz.f8 Rows.fnPointedRow.domain false Rows.fnPointedRow.laid) (((OpenSpec.ofChange Rows.fnPointedSpec).at F).post enc Tryz.prog Tryz.f8 false true false false) := by
  obtain ⟨places, hx⟩ := reads8 os enc
  refine returnsInHanded_of_row (C := Tryz.checked) (s := (OpenSpec.ofChange Rows.fnPointedSpec)) own started (by kernel_rfl) Tryz.func8
    (witness_row_atRef (enc := enc) (C := Tryz.checked) false (laidWorld os) #[wArg, .string ⟨#[]⟩] rfl (vars_ref os _) (by kernel_rfl) (by kernel_rfl)
      (OpenSpec.preRow_of_cond 8 hx (by kernel_rfl) (fun k hk => by cases hk) (by kernel_rfl) (laid_met os _))) ?_
  intro W base args ds gs before hval hW _ _ _ hL _ _
  exact contract8 H enc W base args ds gs before hval hW hL
theorem said8 : Rows.FnPointedSaid :=
  OpenClaim.holds_of_cond 8 Tryz.f8 rfl rfl rfl rfl rfl rfl rfl ⟨rfl, rfl, rfl, rfl, rfl⟩ rfl rfl rfl rfl rfl (by kernel_rfl) Tryz.func8 jAll8
    (of_decide_eq_true (by kernel_rfl)) (by unfold Func.isWrapper; first | (rw [if_pos (by decide +kernel)]; kernel_rfl) | (rw [if_neg (by decide +kernel)]; exact ⟨rfl, rfl⟩))
    (fun os started H enc _ F => by rw [OpenClaim.pre_eq_preRow]; exact lifted8 os started H enc F)
theorem plain8 (f : FuncId) (fn : Func) (hf : Tryz.pinned.checked.prog.funcNamed "loop.example/pub-g01522/laws.FnPointed" = some f) (hfn : Tryz.pinned.checked.prog.funcs[f]? = some fn) :
  true = Tryz.pinned.checked.prog.looks [] ∧ ∀ (j : Nat) t, fn.params[j]? = some t → Tryz.pinned.checked.prog.wantsStandIn t = false := by
 obtain rfl : f = 8 := Option.some.inj ((show Tryz.prog.funcNamed "loop.example/pub-g01522/laws.FnPointed" = some 8 by kernel_rfl).symm.trans hf) |>.symm
 obtain rfl : fn = Tryz.f8 := (Option.some.inj (Tryz.func8.symm.trans hfn)).symm
 refine ⟨by kernel_rfl, fun j t ht => ?_⟩
 rw [Tryz.params8] at ht
 have hm : t ∈ #[25, 9] := Array.mem_of_getElem? ht
 simp only [List.mem_toArray, List.mem_cons, List.not_mem_nil, or_false] at hm
 rcases hm with rfl | rfl
 ·exact (show Tryz.prog.wantsStandIn 25 = false by kernel_rfl)
 ·exact (show Tryz.prog.wantsStandIn 9 = false by kernel_rfl)
theorem card8 : Rows.FnPointedCardSaid :=
 Claim7.holds_tied_plain_at .later [] _ _ _ _ said8 (fun _ h => by cases h) jtext8 (fun _ h => by cases h) (ty_row _ rfl rfl) rfl ⟨rfl, rfl⟩ jmain rfl plain8 jgoes8
end Go.Jw
namespace Go.Proofs.YtlcfillobkdnmaaGreatDoor
/-- Whatever the input: the law FnPointed returns true, and what it reads, reads ags it did. -/
theorem fnPointed_holds : Rows.FnPointedCardSaid := Go.Jw.card8
end Go.Proofs.YtlcfillobkdnmaaGreatDoor

