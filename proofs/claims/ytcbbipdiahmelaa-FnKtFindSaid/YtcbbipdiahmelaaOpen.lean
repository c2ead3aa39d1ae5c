/- What an argument that can be read holds, told in the words of the walks: whole numbers, bools, strings, slices and structs of these, to any depth; no condition. -/
import Derived.Test.YtcbbipdiahmelaaWWords
import Derived.ChangeArms
namespace Go.Proofs.YtcbbipdiahmelaaW.Opens
open Go.RowKit Go.Proofs.YtcbbipdiahmelaaW.PrintWords
section
variable {H : Type} (enc : TypeId × Value → H) (P : Program) (w : World) (base : Nat) (spare : Nat → Bool) (held : Bool)

/-- Whatever reads as type t is a value of the kind d, and G holds of it. -/
def Opens {α : Type} (t : TypeId) (d : Kd α) (G : α → Prop) : Prop := ∀ (fuel : Nat) (cs : List Value) (x : DataW H × List MemPlace), DataW.trod enc P w base spare held fuel t cs = some x → ∃ a, d.K w a cs ∧ G a

variable {enc P w base spare held}
theorem Opens.int {t : TypeId} {k : IntKind} (ht : P.underlying t = some (.int k)) : Opens enc P w base spare held t (Kd.int k) (fun n => (Lit.int k n).wf = true) := fun _ _ _ h => by
  obtain ⟨n, rfl, _, hw⟩ := DataW.trod_int ht h
  exact ⟨n, rfl, hw⟩
theorem Opens.bool {t : TypeId} (ht : P.underlying t = some .bool) : Opens enc P w base spare held t Kd.bool (fun _ => True) := fun _ _ _ h => by
  obtain ⟨n, rfl, _⟩ := DataW.trod_bool ht h
  exact ⟨n, rfl, trivial⟩
theorem Opens.string {t : TypeId} (ht : P.underlying t = some .string) : Opens enc P w base spare held t Kd.string (fun s => s.size ≤ maxLen) := fun _ _ _ h => by
  obtain ⟨n, rfl, _, hw⟩ := DataW.trod_string ht h
  exact ⟨n, rfl, hw⟩

theorem list_of_each {α : Type} (Q : Nat → α → Prop) : ∀ n : Nat, (∀ i, i < n → ∃ a, Q i a) → ∃ xs : List α, xs.length = n ∧ ∀ i a, xs[i]? = some a → Q i a
  | 0, _ => ⟨[], rfl, fun i a h => by simp at h⟩
  | n + 1, h => by
    obtain ⟨xs, hl, hx⟩ := list_of_each Q n (fun i hi => h i (by omega))
    obtain ⟨a, ha⟩ := h n (by omega)
    refine ⟨xs ++ [a], by simp [hl], fun i b hb => ?_⟩
    rcases Nat.lt_trichotomy i n with hi | hi | hi
    · rw [List.getElem?_append_left (by omega)] at hb
      exact hx i b hb
    · subst hi
      rw [List.getElem?_append_right (by omega), hl] at hb
      simp at hb
      subst hb
      exact ha
    · rw [List.getElem?_eq_none (by simp; omega)] at hb
      cases hb
theorem add_add (a : Addr) (x y : Nat) : (a.add x).add y = a.add (x + y) := by
  unfold Addr.add
  by_cases hx : x = 0
  · subst hx; simp
  · by_cases hy : y = 0
    · subst hy; simp [hx]
    · simp [hx, hy, Nat.add_assoc]
theorem mapM_len {α β : Type} {f : α → Option β} : ∀ {l : List α} {r : List β}, l.mapM f = some r → r.length = l.length
  | [], r, h => by simp at h; subst h; rfl
  | a :: l, r, h => by
    simp only [List.mapM_cons, Option.bind_eq_bind, Option.bind_eq_some_iff] at h
    obtain ⟨b, _, bs, hbs, hr⟩ := h
    simp only [Option.pure_def, Option.some.injEq] at hr
    subst hr
    simp [mapM_len hbs]
theorem mapM_at {α β : Type} {f : α → Option β} : ∀ {l : List α} {r : List β}, l.mapM f = some r → ∀ (i : Nat) (u : β), r[i]? = some u → ∃ a, l[i]? = some a ∧ f a = some u
  | [], r, h, i, u, hu => by simp at h; subst h; simp at hu
  | a :: l, r, h, i, u, hu => by
    simp only [List.mapM_cons, Option.bind_eq_bind, Option.bind_eq_some_iff] at h
    obtain ⟨b, hb, bs, hbs, hr⟩ := h
    simp only [Option.pure_def, Option.some.injEq] at hr
    subst hr
    cases i with
    | zero => simp at hu; subst hu; exact ⟨a, rfl, hb⟩
    | succ i =>
      simp only [List.getElem?_cons_succ] at hu
      obtain ⟨z, hz, hf⟩ := mapM_at hbs i u hu
      exact ⟨z, by simpa using hz, hf⟩
theorem cells_at {a : Addr} {n : Nat} {cs : List Value} (h : w.cells? base a n = some cs) : cs.length = n ∧ ∀ i u, cs[i]? = some u → w.cell? (a.add i) = some u := by
  unfold World.cells? at h
  split at h
  · refine ⟨by simpa using mapM_len h, fun i u hu => ?_⟩
    obtain ⟨z, hz, hf⟩ := mapM_at h i u hu
    have hi : z = i := by
      obtain ⟨hi, he⟩ := List.getElem?_eq_some_iff.1 hz
      simpa using he.symm
    subst hi
    exact hf
  · cases h

theorem Opens.slice {α : Type} {t e : TypeId} {d : Kd α} {G : α → Prop} (ht : P.underlying t = some (.slice e)) (hc : P.cellsOf e = d.sz) (he : Opens enc P w base spare held e d G) :
    Opens enc P w base spare held t (Kd.slice e d) (fun xs => xs.length ≤ 9223372036854775807 ∧ ∀ x ∈ xs, G x) := fun fuel cs x h => by
  rcases DataW.trod_slice ht h with ⟨rfl, _⟩ | ⟨a, len, cap, elems, rest, n, _, rfl, _, _, hl, hm, hlen, hel, _, _⟩
  · exact ⟨[], ⟨none, 0, rfl, Nat.le_refl 0, Kd.C_nil d w⟩, by simp, fun x hx => by simp at hx⟩
  · have each : ∀ i, i < len → ∃ y, (∃ c, c.length = d.sz ∧ d.K w y c ∧ ∀ j u, c[j]? = some u → w.cell? (a.add (i * d.sz + j)) = some u) ∧ G y := by
      intro i hi
      have h1 := hel i hi
      obtain ⟨z, hz⟩ : ∃ z, elems[i]? = some z := ⟨_, List.getElem?_eq_getElem (by omega)⟩
      rw [hz] at h1
      obtain ⟨c, hc1, hc2⟩ := Option.bind_eq_some_iff.1 h1
      obtain ⟨y, hy, hg⟩ := he n c z hc2
      rw [hc] at hc1
      obtain ⟨hcl, hcc⟩ := cells_at hc1
      exact ⟨y, ⟨c, hcl, hy, fun j u hu => by rw [← add_add]; exact hcc j u hu⟩, hg⟩
    obtain ⟨xs, hxl, hxs⟩ := list_of_each _ len each
    refine ⟨xs, ⟨some a, cap, by rw [hxl], by omega, rfl, by rw [hxl]; unfold maxLen at hm; omega, fun _ => ⟨a, rfl, fun j p hp => (hxs j p hp).1⟩⟩, by rw [hxl]; unfold maxLen at hm; omega, fun y hy => ?_⟩
    obtain ⟨i, hi⟩ := List.getElem?_of_mem hy
    exact (hxs i y hi).2

/-- Fields one behind the other. -/
def Parts {α : Type} (enc : TypeId × Value → H) (P : Program) (w : World) (base : Nat) (spare : Nat → Bool) (held : Bool) (ts : List TypeId) (d : Kd α) (G : α → Prop) : Prop :=
  ∀ (fuel : Nat) (cs : List Value), cs.length = (ts.map P.cellsOf).sum → (∀ (i : Nat) (t : TypeId), ts[i]? = some t → ∃ y, DataW.trod enc P w base spare held fuel t ((cs.drop ((ts.take i).map P.cellsOf).sum).take (P.cellsOf t)) = some y) → ∃ a, d.K w a cs ∧ G a
theorem Parts.one {α : Type} {t : TypeId} {d : Kd α} {G : α → Prop} (h : Opens enc P w base spare held t d G) : Parts enc P w base spare held [t] d G := fun fuel cs hl hf => by
  obtain ⟨y, hy⟩ := hf 0 t rfl
  simp only [List.map_cons, List.map_nil, List.sum_cons, List.sum_nil, Nat.add_zero] at hl
  simp only [List.take_zero, List.map_nil, List.sum_nil, List.drop_zero] at hy
  rw [← hl, List.take_length] at hy
  exact h fuel cs y hy
theorem Parts.cons {α β : Type} {t : TypeId} {ts : List TypeId} {d : Kd α} {d' : Kd β} {G : α → Prop} {G' : β → Prop} (h : Opens enc P w base spare held t d G) (h' : Parts enc P w base spare held ts d' G') :
    Parts enc P w base spare held (t :: ts) (Kd.pair d d') (fun p => G p.1 ∧ G' p.2) := fun fuel cs hl hf => by
  simp only [List.map_cons, List.sum_cons] at hl
  obtain ⟨y, hy⟩ := hf 0 t rfl
  simp only [List.take_zero, List.map_nil, List.sum_nil, List.drop_zero] at hy
  obtain ⟨a, ha, hga⟩ := h fuel _ y hy
  obtain ⟨b, hb, hgb⟩ := h' fuel (cs.drop (P.cellsOf t)) (by rw [List.length_drop]; omega) (fun i u hu => by
    obtain ⟨z, hz⟩ := hf (i + 1) u (by simpa using hu)
    refine ⟨z, ?_⟩
    rw [List.drop_drop]
    simpa [List.take_succ_cons, List.map_cons, List.sum_cons, Nat.add_comm] using hz)
  exact ⟨(a, b), ⟨_, _, (List.take_append_drop (P.cellsOf t) cs).symm, ha, hb⟩, hga, hgb⟩
theorem Opens.struct {α β : Type} {t : TypeId} {fs : Array Field} {ts : List TypeId} {d : Kd α} {G : α → Prop} (f : β → α) (g : α → β) (hfg : ∀ a, f (g a) = a) (ht : P.underlying t = some (.struct fs))
    (hts : fs.toList.map (·.type) = ts) (hoff : fs.toList.map (·.offset) = (List.range ts.length).map fun i => ((ts.take i).map P.cellsOf).sum) (hsz : P.cellsOf t = (ts.map P.cellsOf).sum)
    (h : Parts enc P w base spare held ts d G) : Opens enc P w base spare held t (Kd.iso d f) (fun b => G (f b)) := fun fuel cs x hx => by
  obtain ⟨xs, n, rfl, _, hl, hxl, hf⟩ := DataW.trod_struct ht hx
  have hlen : ts.length = fs.size := by rw [← hts]; simp
  obtain ⟨a, ha, hg⟩ := h n cs (by rw [hl, hsz]) (fun i u hu => by
    have hi : i < ts.length := (List.getElem?_eq_some_iff.1 hu).1
    obtain ⟨fd, hfd⟩ : ∃ fd, fs[i]? = some fd := ⟨_, Array.getElem?_eq_getElem (by omega)⟩
    have h1 := hf i fd hfd
    have htype : fd.type = u := by
      have : (fs.toList.map (·.type))[i]? = some fd.type := by rw [List.getElem?_map, Array.getElem?_toList, hfd]; rfl
      rw [hts, hu] at this
      exact (Option.some.inj this).symm
    have hoffs : fd.offset = ((ts.take i).map P.cellsOf).sum := by
      have : (fs.toList.map (·.offset))[i]? = some fd.offset := by rw [List.getElem?_map, Array.getElem?_toList, hfd]; rfl
      rw [hoff, List.getElem?_map, List.getElem?_range hi] at this
      exact (Option.some.inj this).symm
    rw [htype, hoffs, List.getElem?_eq_getElem (by omega)] at h1
    exact ⟨_, h1⟩)
  exact ⟨g a, by show d.K w (f (g a)) cs; rw [hfg]; exact ha, by show G (f (g a)); rw [hfg]; exact hg⟩
theorem Opens.imp {α : Type} {t : TypeId} {d : Kd α} {G G' : α → Prop} (h : Opens enc P w base spare held t d G) (hG : ∀ a, G a → G' a) : Opens enc P w base spare held t d G' := fun fuel cs x hx => by
  obtain ⟨a, ha, hg⟩ := h fuel cs x hx
  exact ⟨a, ha, hG a hg⟩
end
end Go.Proofs.YtcbbipdiahmelaaW.Opens
