import PyProof.Rows.All
import Wide.All
import OpenK.AllK
import Wide.FinOn
import PySem.Challenge.RW_jf0016_01
set_option Elab.async false
set_option compiler.extract_closed false

/-! # P1 -/
namespace Mine
set_option linter.unusedVariables false
set_option linter.unusedSimpArgs false
noncomputable abbrev Oc := List UInt8

/-! ## Orders by the first place that parts -/
noncomputable def lx {α : Type} (r : α → α → Prop) : List α → List α → Prop
  | [], [] => False
  | [], _ :: _ => True
  | _ :: _, [] => False
  | a :: x, b :: y => r a b ∨ (a = b ∧ lx r x y)
structure Lin {α : Type} (r : α → α → Prop) : Prop where
  irr : ∀ a, ¬ r a a
  tr : ∀ {a b c}, r a b → r b c → r a c
  tri : ∀ a b, r a b ∨ a = b ∨ r b a
theorem lin_u8 : Lin (fun a b : UInt8 => a < b) where
  irr a h := by rw [UInt8.lt_iff_toNat_lt] at h; omega
  tr h k := by rw [UInt8.lt_iff_toNat_lt] at *; omega
  tri a b := by rw [UInt8.lt_iff_toNat_lt, UInt8.lt_iff_toNat_lt, ← UInt8.toNat_inj]; omega
section
variable {α : Type} {r : α → α → Prop}
theorem lx_irr (L : Lin r) : ∀ x, ¬ lx r x x
  | [], h => h
  | a :: x, h => h.elim (L.irr a) fun h => lx_irr L x h.2
theorem lx_tr (L : Lin r) : ∀ {x y z : List α}, lx r x y → lx r y z → lx r x z
  | [], [], _, h, _ => h.elim
  | [], _ :: _, [], _, k => k.elim
  | [], _ :: _, _ :: _, _, _ => trivial
  | _ :: _, [], _, h, _ => h.elim
  | _ :: _, _ :: _, [], _, k => k.elim
  | a :: x, b :: y, c :: z, h, k => by
    rcases h with h | ⟨rfl, h⟩
    · rcases k with k | ⟨rfl, k⟩
      · exact .inl (L.tr h k)
      · exact .inl h
    · rcases k with k | ⟨rfl, k⟩
      · exact .inl k
      · exact .inr ⟨rfl, lx_tr L h k⟩
theorem lx_trich (L : Lin r) : ∀ x y : List α, lx r x y ∨ x = y ∨ lx r y x
  | [], [] => .inr (.inl rfl)
  | [], _ :: _ => .inl trivial
  | _ :: _, [] => .inr (.inr trivial)
  | a :: x, b :: y => by
    rcases L.tri a b with h | rfl | h
    · exact .inl (.inl h)
    · rcases lx_trich L x y with h | rfl | h
      · exact .inl (.inr ⟨rfl, h⟩)
      · exact .inr (.inl rfl)
      · exact .inr (.inr (.inr ⟨rfl, h⟩))
    · exact .inr (.inr (.inl h))
theorem lin_lx (L : Lin r) : Lin (lx r) := ⟨lx_irr L, fun h k => lx_tr L h k, lx_trich L⟩
theorem Lin.asym (L : Lin r) {a b : α} (h : r a b) : ¬ r b a := fun k => L.irr a (L.tr h k)
/-- not behind, and not the same: ahead -/
theorem lx_app (L : Lin r) : ∀ (p : List α) {x y : List α}, lx r (p ++ x) (p ++ y) ↔ lx r x y
  | [], _, _ => Iff.rfl
  | a :: p, x, y => by
    show (r a a ∨ (a = a ∧ lx r (p ++ x) (p ++ y))) ↔ _
    rw [lx_app L p]
    exact ⟨fun h => h.elim (fun h => (L.irr a h).elim) (·.2), fun h => .inr ⟨rfl, h⟩⟩
theorem lx_ext (p : List α) {t : List α} (h : t ≠ []) (L : Lin r) : lx r p (p ++ t) := by
  have := (lx_app L p (x := []) (y := t)).mpr (by cases t with | nil => exact (h rfl).elim | cons _ _ => trivial)
  rwa [List.append_nil] at this
theorem lx_cases (L : Lin r) : ∀ p x : List α, (∃ t, x = p ++ t) ∨ (∀ u, lx r (p ++ u) x) ∨ (∀ u, lx r x (p ++ u))
  | [], x => .inl ⟨x, rfl⟩
  | a :: p, [] => .inr (.inr fun u => trivial)
  | a :: p, b :: x => by
    rcases L.tri a b with h | rfl | h
    · exact .inr (.inl fun u => .inl h)
    · rcases lx_cases L p x with ⟨t, rfl⟩ | h | h
      · exact .inl ⟨t, rfl⟩
      · exact .inr (.inl fun u => .inr ⟨rfl, h u⟩)
      · exact .inr (.inr fun u => .inr ⟨rfl, h u⟩)
    · exact .inr (.inr fun u => .inl h)
end
/-- the octets' order; the names', the least label first -/
noncomputable def bl : Oc → Oc → Prop := lx (fun a b : UInt8 => a < b)
theorem lin_bl : Lin bl := lin_lx lin_u8
noncomputable def ql : List Oc → List Oc → Prop := lx bl
theorem lin_ql : Lin ql := lin_lx lin_bl
noncomputable def nl (a b : List Oc) : Prop := ql a.reverse b.reverse
theorem lin_nl : Lin nl where
  irr a := lin_ql.irr _
  tr h k := lin_ql.tr h k
  tri a b := by
    rcases lin_ql.tri a.reverse b.reverse with h | h | h
    · exact .inl h
    · exact .inr (.inl (List.reverse_inj.mp h))
    · exact .inr (.inr h)

/-! ## Labels -/
noncomputable def capi (c : UInt8) : Prop := 65 ≤ c.toNat ∧ c.toNat ≤ 90
structure Gd (l : Oc) : Prop where
  pos : 1 ≤ l.length
  top : l.length ≤ 63
  caps : ∀ c ∈ l, ¬ capi c
noncomputable def nx (c : UInt8) : UInt8 := if c = 64 then 91 else c + 1
noncomputable def dc (c : UInt8) : UInt8 := if c = 91 then 64 else c - 1
theorem u8n (c : UInt8) (n : Nat) (hn : n < 256) : (c = UInt8.ofNat n) ↔ c.toNat = n := by
  rw [← UInt8.toNat_inj, UInt8.toNat_ofNat_of_lt' hn]
theorem nx_nat {c : UInt8} (h : c ≠ 255) : (nx c).toNat = if c.toNat = 64 then 91 else c.toNat + 1 := by
  have h255 : c.toNat ≠ 255 := fun e => h ((u8n c 255 (by omega)).mpr e)
  have hlt := c.toNat_lt
  unfold nx
  by_cases h64 : c = 64
  · subst h64; rfl
  · have : c.toNat ≠ 64 := fun e => h64 ((u8n c 64 (by omega)).mpr e)
    rw [if_neg h64, if_neg this, UInt8.toNat_add]
    show (c.toNat + 1) % 256 = _
    omega
theorem dc_nat {c : UInt8} (h : c ≠ 0) : (dc c).toNat = if c.toNat = 91 then 64 else c.toNat - 1 := by
  have h0 : c.toNat ≠ 0 := fun e => h ((u8n c 0 (by omega)).mpr e)
  have hlt := c.toNat_lt
  unfold dc
  by_cases h91 : c = 91
  · subst h91; rfl
  · have : c.toNat ≠ 91 := fun e => h91 ((u8n c 91 (by omega)).mpr e)
    rw [if_neg h91, if_neg this, UInt8.toNat_sub_of_le]
    · rfl
    · rw [UInt8.le_iff_toNat_le]; show 1 ≤ c.toNat; omega
noncomputable def incr : Oc → Option Oc
  | [] => none
  | a :: l => match incr l with
    | some l' => some (a :: l')
    | none => if a = 255 then none else some [nx a]
theorem incr_gt : ∀ {l l' : Oc}, incr l = some l' → bl l l' ∧ 1 ≤ l'.length ∧ l'.length ≤ l.length ∧ ((∀ c ∈ l, ¬ capi c) → ∀ c ∈ l', ¬ capi c)
  | [], _, h => nomatch h
  | a :: l, l', h => by
    unfold incr at h
    split at h
    · rename_i l2 h2
      cases h
      obtain ⟨h3, h4, h5, h6⟩ := incr_gt h2
      refine ⟨.inr ⟨rfl, h3⟩, by simp, by simp; omega, fun hc c hm => ?_⟩
      rcases List.mem_cons.mp hm with rfl | hm
      · exact hc _ (.head _)
      · exact h6 (fun c hc' => hc c (.tail _ hc')) c hm
    · split at h
      · cases h
      · rename_i ha
        cases h
        have e := nx_nat ha
        refine ⟨.inl ?_, by simp, by simp, fun hc c hm => ?_⟩
        · show a < nx a
          rw [UInt8.lt_iff_toNat_lt, e]; split <;> omega
        · rw [List.mem_singleton] at hm
          subst hm
          have := hc a (.head _)
          unfold capi at *
          rw [e]; split <;> omega
theorem incr_least : ∀ {l m : Oc}, (∀ c ∈ m, ¬ capi c) → bl l m → (¬ ∃ t, m = l ++ t) → ∃ l', incr l = some l' ∧ (l' = m ∨ bl l' m)
  | [], m, _, _, h => (h ⟨m, rfl⟩).elim
  | a :: l, [], _, h, _ => h.elim
  | a :: l, b :: m, hc, h, hn => by
    unfold incr
    rcases h with h | ⟨rfl, h⟩
    · cases hi : incr l with
      | some l' => exact ⟨_, rfl, .inr (.inl h)⟩
      | none =>
        have h255 : a ≠ 255 := fun e => by
          subst e
          have h := UInt8.lt_iff_toNat_lt.mp h
          have := b.toNat_lt
          have : (255 : UInt8).toNat = 255 := rfl
          omega
        dsimp only
        rw [if_neg h255]
        refine ⟨_, rfl, ?_⟩
        have e := nx_nat h255
        have h := UInt8.lt_iff_toNat_lt.mp h
        have hb := hc b (.head _)
        unfold capi at hb
        by_cases q : (nx a).toNat = b.toNat
        · have q := UInt8.toNat_inj.mp q
          cases m with
          | nil => exact .inl (by rw [q])
          | cons d m => exact .inr (.inr ⟨q, trivial⟩)
        · refine .inr (.inl ?_)
          show nx a < b
          rw [UInt8.lt_iff_toNat_lt]
          split at e <;> omega
    · obtain ⟨l', e, hl⟩ := incr_least (l := l) (m := m) (fun c hm => hc c (.tail _ hm)) h fun ⟨t, e⟩ => hn ⟨t, by rw [e]; rfl⟩
      rw [e]
      exact ⟨_, rfl, hl.elim (fun e => .inl (by rw [e])) fun h => .inr (.inr ⟨rfl, h⟩)⟩

/-! ## Names -/
noncomputable def sz (p : List Oc) : Nat := (p.map fun l => l.length + 1).sum
theorem sz_nil : sz [] = 0 := rfl
theorem sz_cons (l : Oc) (p : List Oc) : sz (l :: p) = l.length + 1 + sz p := by simp [sz]
theorem sz_append (p x : List Oc) : sz (p ++ x) = sz p + sz x := by simp [sz]
theorem sz_rev (p : List Oc) : sz p.reverse = sz p := by induction p with | nil => rfl | cons l p ih => rw [List.reverse_cons, sz_append, ih, sz_cons, sz_cons, sz_nil]; omega
structure Vl (B : Nat) (p : List Oc) : Prop where
  gd : ∀ l ∈ p, Gd l
  sz : sz p ≤ B
noncomputable def suc2 (B : Nat) : List Oc → List Oc
  | [] => []
  | l :: p => if l.length < 63 ∧ sz (l :: p) + 1 ≤ B then (l ++ [0]) :: p else match incr l with
    | some l' => l' :: p
    | none => suc2 B p
noncomputable def suc1 (B : Nat) (p : List Oc) : List Oc := if sz p + 2 ≤ B then [0] :: p else suc2 B p
theorem gd_zero : Gd [0] := ⟨by simp, by simp, fun c h => by rw [List.mem_singleton] at h; subst h; unfold capi; decide⟩
theorem Vl.tail {B : Nat} {l : Oc} {p : List Oc} (h : Vl B (l :: p)) : Vl B p := ⟨fun m hm => h.gd m (.tail _ hm), by have := h.sz; rw [sz_cons] at this; omega⟩
theorem caps_app {l m : Oc} (h : ∀ c ∈ l, ¬ capi c) (k : ∀ c ∈ m, ¬ capi c) : ∀ c ∈ l ++ m, ¬ capi c := fun c hc => (List.mem_append.mp hc).elim (h c) (k c)
theorem rev_suffix {p x : List Oc} : p <:+ x ↔ ∃ t, x.reverse = p.reverse ++ t := by
  constructor
  · rintro ⟨t, rfl⟩; exact ⟨t.reverse, by simp⟩
  · rintro ⟨t, h⟩
    refine ⟨t.reverse, ?_⟩
    have := congrArg List.reverse h
    simpa using this.symm
theorem nl_cons {a : List Oc} {l m : Oc} (h : bl l m) (u v : List Oc) : nl (u ++ l :: a) (v ++ m :: a) := by
  unfold nl
  rw [List.reverse_append, List.reverse_append, List.reverse_cons, List.reverse_cons, List.append_assoc, List.append_assoc]
  exact (lx_app lin_bl _).mpr (.inl h)
theorem nl_cons0 {a : List Oc} {l m : Oc} (h : bl l m) : nl (l :: a) (m :: a) := nl_cons h [] []
theorem nl_ext (u : List Oc) (a : List Oc) (h : u ≠ []) : nl a (u ++ a) := by
  unfold nl
  rw [List.reverse_append]
  exact lx_ext _ (by simpa using h) lin_bl
theorem nl_cases (p x : List Oc) : (∃ t, x = t ++ p) ∨ (∀ u, nl (u ++ p) x) ∨ (∀ u, nl x (u ++ p)) := by
  rcases lx_cases lin_bl p.reverse x.reverse with ⟨t, h⟩ | h | h
  · refine .inl ⟨t.reverse, ?_⟩
    have := congrArg List.reverse h
    simpa using this
  · refine .inr (.inl fun u => ?_)
    unfold nl; rw [List.reverse_append]; exact h _
  · refine .inr (.inr fun u => ?_)
    unfold nl; rw [List.reverse_append]; exact h _
theorem last_or (t : List Oc) : t = [] ∨ ∃ r m, t = r ++ [m] := by
  rcases List.eq_nil_or_concat t with h | ⟨r, m, h⟩
  · exact .inl h
  · exact .inr ⟨r, m, by simpa using h⟩
theorem suc2_ok {B : Nat} : ∀ {p : List Oc}, Vl B p → Vl B (suc2 B p) ∧ (suc2 B p ≠ [] → nl p (suc2 B p) ∧ ¬ p <:+ suc2 B p)
  | [], h => ⟨h, fun k => (k rfl).elim⟩
  | l :: p, h => by
    have hl := h.gd l (.head _)
    have hs := h.sz
    unfold suc2
    have nsuf : ∀ {m : Oc}, m ≠ l → ¬ (l :: p) <:+ (m :: p) := fun hm k => hm (List.cons.inj (k.eq_of_length (by simp))).1.symm
    split
    · rename_i q
      refine ⟨⟨fun m hm => ?_, by rw [sz_cons] at q ⊢; rw [List.length_append]; simp; omega⟩, fun _ => ?_⟩
      · rcases List.mem_cons.mp hm with rfl | hm
        · exact ⟨by simp, by simp; omega, caps_app hl.caps gd_zero.caps⟩
        · exact h.gd m (.tail _ hm)
      · exact ⟨nl_cons0 (lx_ext _ (by simp) lin_u8), nsuf fun e => by have := congrArg List.length e; simp at this⟩
    · split
      · rename_i l' e
        obtain ⟨h1, h2, h3, h4⟩ := incr_gt e
        refine ⟨⟨fun m hm => ?_, by rw [sz_cons] at hs ⊢; omega⟩, fun _ => ?_⟩
        · rcases List.mem_cons.mp hm with rfl | hm
          · exact ⟨h2, by have := hl.top; omega, h4 hl.caps⟩
          · exact h.gd m (.tail _ hm)
        · exact ⟨nl_cons0 h1, nsuf fun e => lin_bl.irr l (e ▸ h1)⟩
      · obtain ⟨a, b⟩ := suc2_ok h.tail
        refine ⟨a, fun k => ?_⟩
        obtain ⟨b1, b2⟩ := b k
        rcases nl_cases p (suc2 B p) with ⟨t, e⟩ | c | c
        · exact (b2 ⟨t, e.symm⟩).elim
        · exact ⟨c [l], fun ⟨t, e⟩ => b2 ⟨t ++ [l], by rw [← e]; simp⟩⟩
        · exact (lin_nl.asym b1 (c [])).elim
theorem suc2_least {B : Nat} : ∀ {p x : List Oc}, Vl B p → Vl B x → nl p x → ¬ p <:+ x → suc2 B p ≠ [] ∧ ¬ nl x (suc2 B p)
  | [], x, _, _, _, k => (k (List.nil_suffix)).elim
  | l :: p, x, hp, hx, h, k => by
    have hl := hp.gd l (.head _)
    unfold suc2
    rcases nl_cases p x with ⟨t, rfl⟩ | c | c
    · rcases last_or t with rfl | ⟨r, m, rfl⟩
      · exact (lin_nl.asym h (nl_ext [l] p (by simp))).elim
      · rw [List.append_assoc] at *
        have hm := hx.gd m (by simp)
        have hz := hx.sz
        rw [sz_append] at hz
        simp only [List.cons_append, List.nil_append] at *
        rw [sz_cons] at hz
        have lm : bl l m := by
          rcases lin_bl.tri l m with q | rfl | q
          · exact q
          · exact (k ⟨r, rfl⟩).elim
          · exact (lin_nl.asym h (nl_cons (a := p) q r [])).elim
        -- y ≤ m gives the end
        have fin : ∀ y, (y = m ∨ bl y m) → ¬ nl (r ++ m :: p) (y :: p) := fun y hy hh => by
          rcases hy with rfl | hy
          · by_cases hr : r = []
            · subst hr; exact lin_nl.irr _ hh
            · exact lin_nl.asym hh (nl_ext r _ hr)
          · exact lin_nl.asym hh (nl_cons hy [] r)
        have pos : m ≠ [] := fun e => by subst e; have := hm.pos; simp at this
        by_cases e : ∃ t, m = l ++ t
        · obtain ⟨t, rfl⟩ := e
          have ht : t ≠ [] := fun e => by subst e; rw [List.append_nil] at lm; exact lin_bl.irr _ lm
          have ht1 : 1 ≤ t.length := List.length_pos_iff.mpr ht
          have h63 := hm.top
          rw [List.length_append] at h63 hz
          rw [if_pos ⟨by omega, by rw [sz_cons]; omega⟩]
          refine ⟨by simp, fin _ ?_⟩
          cases t with
          | nil => exact (ht rfl).elim
          | cons d t =>
            by_cases hd : d = 0
            · subst hd
              cases t with
              | nil => exact .inl rfl
              | cons d' t => exact .inr ((lx_app lin_u8 l).mpr (.inr ⟨rfl, trivial⟩))
            · refine .inr ((lx_app lin_u8 l).mpr (.inl ?_))
              show (0 : UInt8) < d
              rw [UInt8.lt_iff_toNat_lt]
              have : d.toNat ≠ 0 := fun e => hd ((u8n d 0 (by omega)).mpr e)
              show 0 < d.toNat
              omega
        · split
          · refine ⟨by simp, fin _ (.inr ?_)⟩
            rcases lx_cases lin_u8 l m with ⟨t, q⟩ | q | q
            · exact (e ⟨t, q⟩).elim
            · exact q [0]
            · exact (lin_bl.asym lm (by have := q []; rwa [List.append_nil] at this)).elim
          · obtain ⟨l', e1, e2⟩ := incr_least hm.caps lm e
            rw [e1]
            exact ⟨by simp, fin _ e2⟩
    · have big : ∀ y, ¬ nl x (y :: p) := fun y => lin_nl.asym (c [y])
      split
      · exact ⟨by simp, big _⟩
      · split
        · exact ⟨by simp, big _⟩
        · refine suc2_least hp.tail hx (c []) fun ⟨t, e⟩ => ?_
          subst e
          have := c t
          exact lin_nl.irr _ this
    · exact (lin_nl.asym h (c [l])).elim
theorem suc1_ok {B : Nat} {p : List Oc} (h : Vl B p) : Vl B (suc1 B p) ∧ (suc1 B p ≠ [] → nl p (suc1 B p)) := by
  unfold suc1
  split
  · refine ⟨⟨fun m hm => ?_, by rw [sz_cons]; simp; omega⟩, fun _ => nl_ext [[0]] p (by simp)⟩
    rcases List.mem_cons.mp hm with rfl | hm
    · exact gd_zero
    · exact h.gd m hm
  · exact ⟨(suc2_ok h).1, fun k => ((suc2_ok h).2 k).1⟩
theorem zero_le {m : Oc} (h : m ≠ []) : [0] = m ∨ bl [0] m := by
  cases m with
  | nil => exact (h rfl).elim
  | cons d t =>
    by_cases hd : d = 0
    · subst hd
      cases t with
      | nil => exact .inl rfl
      | cons d' t => exact .inr (.inr ⟨rfl, trivial⟩)
    · refine .inr (.inl ?_)
      show (0 : UInt8) < d
      rw [UInt8.lt_iff_toNat_lt]
      have : d.toNat ≠ 0 := fun e => hd ((u8n d 0 (by omega)).mpr e)
      show 0 < d.toNat
      omega
/-- a longer one's last label ahead of the part -/
theorem nl_le_cons {r p : List Oc} {y m : Oc} (hy : y = m ∨ bl y m) : ¬ nl (r ++ m :: p) (y :: p) := fun hh => by
  rcases hy with rfl | hy
  · by_cases hr : r = []
    · subst hr; exact lin_nl.irr _ hh
    · exact lin_nl.asym hh (nl_ext r _ hr)
  · exact lin_nl.asym hh (nl_cons hy [] r)
theorem Gd.ne {m : Oc} (h : Gd m) : m ≠ [] := fun e => by subst e; have := h.pos; simp at this
theorem suc1_least {B : Nat} {p x : List Oc} (hp : Vl B p) (hx : Vl B x) (h : nl p x) : suc1 B p ≠ [] ∧ ¬ nl x (suc1 B p) := by
  unfold suc1
  rcases nl_cases p x with ⟨t, rfl⟩ | c | c
  · rcases last_or t with rfl | ⟨r, m, rfl⟩
    · exact (lin_nl.irr _ h).elim
    · have hm := hx.gd m (by simp)
      have hz := hx.sz
      rw [List.append_assoc, List.cons_append, List.nil_append] at *
      rw [sz_append, sz_cons] at hz
      have := hm.pos
      rw [if_pos (by omega)]
      exact ⟨by simp, nl_le_cons (zero_le hm.ne)⟩
  · split
    · exact ⟨by simp, lin_nl.asym (c [[0]])⟩
    · exact suc2_least hp hx h fun ⟨t, e⟩ => by subst e; exact lin_nl.irr _ (c t)
  · exact (lin_nl.asym h (c [])).elim

/-! ## back -/
noncomputable def padsF : Nat → Nat → List Oc
  | 0, _ => []
  | k + 1, n => if n > 64 then padsF k (n - 64) ++ [List.replicate 63 255] else if n ≥ 2 then [List.replicate (n - 1) 255] else []
noncomputable def pads (n : Nat) : List Oc := padsF n n
theorem padsF_zero : ∀ k : Nat, padsF k 0 = []
  | 0 => rfl
  | _ + 1 => rfl
theorem padsF_eq : ∀ {k m n : Nat}, n ≤ k → n ≤ m → padsF k n = padsF m n
  | 0, m, n, hk, _ => by rw [Nat.le_zero.mp hk, padsF_zero, padsF_zero]
  | k + 1, 0, n, _, hm => by rw [Nat.le_zero.mp hm, padsF_zero, padsF_zero]
  | k + 1, m + 1, n, hk, hm => by
    show (if n > 64 then padsF k (n - 64) ++ [List.replicate 63 255] else _) = if n > 64 then padsF m (n - 64) ++ [List.replicate 63 255] else _
    by_cases h : n > 64
    · rw [if_pos h, if_pos h, padsF_eq (k := k) (m := m) (by omega) (by omega)]
    · rw [if_neg h, if_neg h]
theorem pads_eq (n : Nat) : pads n = if n > 64 then pads (n - 64) ++ [List.replicate 63 255] else if n ≥ 2 then [List.replicate (n - 1) 255] else [] := by
  unfold pads
  cases n with
  | zero => rfl
  | succ k =>
    show (if k + 1 > 64 then padsF k (k + 1 - 64) ++ [List.replicate 63 255] else _) = _
    by_cases h : k + 1 > 64
    · rw [if_pos h, if_pos h, padsF_eq (k := k) (m := k + 1 - 64) (by omega) (Nat.le_refl _)]
    · rw [if_neg h, if_neg h]
noncomputable def padN (B : Nat) (p : List Oc) : List Oc := pads (B - sz p) ++ p
noncomputable def padL (r : Nat) (l : Oc) : Oc := l ++ List.replicate (min (63 - l.length) (r - l.length - 1)) 255
theorem rep_caps (k : Nat) : ∀ c ∈ List.replicate k (255 : UInt8), ¬ capi c := fun c h => by
  rw [List.eq_of_mem_replicate h]; unfold capi; decide
theorem rep_gd {k : Nat} (h1 : 1 ≤ k) (h2 : k ≤ 63) : Gd (List.replicate k 255) := ⟨by simpa using h1, by simpa using h2, rep_caps k⟩
theorem pads_ok : ∀ (n : Nat), (∀ l ∈ pads n, Gd l) ∧ sz (pads n) ≤ n := fun n => by
  induction n using Nat.strongRecOn with
  | ind n ih =>
    rw [pads_eq]
    split
    · have := ih (n - 64) (by omega)
      refine ⟨fun l hl => ?_, ?_⟩
      · rcases List.mem_append.mp hl with hl | hl
        · exact this.1 l hl
        · rw [List.mem_singleton] at hl; subst hl; exact rep_gd (by omega) (by omega)
      · rw [sz_append, sz_cons, sz_nil, List.length_replicate]; omega
    · split
      · refine ⟨fun l hl => ?_, ?_⟩
        · rw [List.mem_singleton] at hl; subst hl; exact rep_gd (by omega) (by omega)
        · rw [sz_cons, sz_nil, List.length_replicate]; omega
      · exact ⟨(fun l hl => by cases hl), Nat.zero_le _⟩
/-- the greatest octets -/
theorem rep_max : ∀ {k : Nat} {m : Oc}, m.length ≤ k → m = List.replicate k 255 ∨ bl m (List.replicate k 255)
  | 0, [], _ => .inl rfl
  | k + 1, [], _ => .inr trivial
  | k + 1, d :: m, h => by
    rw [List.replicate_succ]
    by_cases hd : d = 255
    · subst hd
      rcases rep_max (k := k) (m := m) (by simpa using h) with e | e
      · exact .inl (by rw [← e])
      · exact .inr (.inr ⟨rfl, e⟩)
    · refine .inr (.inl ?_)
      show d < 255
      rw [UInt8.lt_iff_toNat_lt]
      have := d.toNat_lt
      have : d.toNat ≠ 255 := fun e => hd ((u8n d 255 (by omega)).mpr e)
      show d.toNat < 255
      omega
theorem pads_max : ∀ (n : Nat) (q : List Oc), (∀ l ∈ q, Gd l) → sz q ≤ n → q = (pads n).reverse ∨ ql q (pads n).reverse := fun n => by
  induction n using Nat.strongRecOn with
  | ind n ih =>
    intro q hg hs
    cases q with
    | nil =>
      by_cases h : pads n = []
      · exact .inl (by rw [h]; rfl)
      · refine .inr ?_
        have : (pads n).reverse ≠ [] := by simpa using h
        cases e : (pads n).reverse with
        | nil => exact (this e).elim
        | cons a b => trivial
    | cons m q =>
      have hm := hg m (.head _)
      rw [sz_cons] at hs
      have := hm.pos
      rw [pads_eq]
      split
      · rw [List.reverse_append]
        show _ = List.replicate 63 255 :: _ ∨ ql _ (List.replicate 63 255 :: _)
        rcases rep_max (k := 63) hm.top with e | e
        · have hk : m.length = 63 := by rw [e]; simp
          rcases ih (n - 64) (by omega) q (fun l hl => hg l (.tail _ hl)) (by omega) with f | f
          · exact .inl (by rw [e, f]; rfl)
          · exact .inr (.inr ⟨e, f⟩)
        · exact .inr (.inl e)
      · rw [if_pos (by omega)]
        show _ = [List.replicate (n - 1) 255] ∨ ql _ [List.replicate (n - 1) 255]
        rcases rep_max (k := n - 1) (m := m) (by omega) with e | e
        · have hk : m.length = n - 1 := by rw [e]; simp
          have : q = [] := by
            cases q with
            | nil => rfl
            | cons d q => rw [sz_cons] at hs; omega
          exact .inl (by rw [e, this])
        · exact .inr (.inl e)
theorem padN_ok {B : Nat} {p : List Oc} (h : Vl B p) : Vl B (padN B p) := by
  have q := pads_ok (B - sz p)
  have := h.sz
  refine ⟨fun l hl => (List.mem_append.mp hl).elim (q.1 l) (h.gd l), ?_⟩
  unfold padN
  rw [sz_append]; omega
theorem padN_max {B : Nat} {p t : List Oc} (h : Vl B (t ++ p)) : ¬ nl (padN B p) (t ++ p) := by
  have hz := h.sz
  rw [sz_append] at hz
  have := pads_max (B - sz p) t.reverse (fun l hl => h.gd l (by simp at hl; simp [hl])) (by rw [sz_rev]; omega)
  unfold padN nl
  rw [List.reverse_append, List.reverse_append]
  intro k
  have k := (lx_app lin_bl _).mp k
  rcases this with e | e
  · rw [e] at k; exact lin_ql.irr _ k
  · exact lin_ql.asym k e
noncomputable def low1 (r : Nat) (l : Oc) : Oc := if l.getLast? = some 0 then l.dropLast else padL r (l.dropLast ++ [dc (l.getLastD 0)])
noncomputable def prd (B : Nat) (pre : Bool) : List Oc → List Oc
  | [] => padN B []
  | l :: p => if l = [0] then p else if pre then padN B (low1 (B - sz p) l :: p) else low1 (B - sz p) l :: p
theorem prd_cons (B : Nat) (pre : Bool) (l : Oc) (p : List Oc) : prd B pre (l :: p) = if l = [0] then p else if pre then padN B (low1 (B - sz p) l :: p) else low1 (B - sz p) l :: p := rfl
theorem split_last {l : Oc} (h : l ≠ []) : ∃ a c, l = a ++ [c] := by
  rcases List.eq_nil_or_concat l with e | ⟨r, m, e⟩
  · exact (h e).elim
  · exact ⟨r, m, by simpa using e⟩
theorem low1_ok {r : Nat} {l : Oc} (hl : Gd l) (h0 : l ≠ [0]) (hr : l.length + 1 ≤ r) : Gd (low1 r l) ∧ (low1 r l).length + 1 ≤ r ∧ bl (low1 r l) l := by
  obtain ⟨a, c, rfl⟩ := split_last hl.ne
  have ht := hl.top
  rw [List.length_append] at ht hr
  simp only [List.length_cons, List.length_nil] at ht hr
  have ca : ∀ x ∈ a, ¬ capi x := fun x hx => hl.caps x (by simp [hx])
  unfold low1
  split
  · rename_i e
    have : c = 0 := by simpa using e
    subst this
    rw [List.dropLast_concat]
    have ha : a ≠ [] := fun e => by subst e; exact h0 rfl
    exact ⟨⟨List.length_pos_iff.mpr ha, by omega, ca⟩, by omega, lx_ext _ (by simp) lin_u8⟩
  · rename_i e
    have hc : c ≠ 0 := fun q => e (by rw [q]; simp)
    rw [List.dropLast_concat]
    have hg : (a ++ [c]).getLastD 0 = c := by simp
    rw [hg]
    have dn := dc_nat hc
    have cc := hl.caps c (by simp)
    have c0 : c.toNat ≠ 0 := fun e => hc ((u8n c 0 (by omega)).mpr e)
    refine ⟨⟨?_, ?_, ?_⟩, ?_, ?_⟩
    · unfold padL; simp; omega
    · unfold padL; simp; omega
    · unfold padL
      refine caps_app (caps_app ca fun x hx => ?_) (rep_caps _)
      rw [List.mem_singleton] at hx; subst hx
      unfold capi at *
      rw [dn]; split <;> omega
    · unfold padL; simp; omega
    · unfold padL
      rw [List.append_assoc]
      refine (lx_app lin_u8 a).mpr (.inl ?_)
      show dc c < c
      rw [UInt8.lt_iff_toNat_lt, dn]; split <;> omega
theorem low1_max {r : Nat} {l m : Oc} (hl : Gd l) (h0 : l ≠ [0]) (hr : l.length + 1 ≤ r) (hm : Gd m) (hmr : m.length + 1 ≤ r) (h : bl m l) : m = low1 r l ∨ bl m (low1 r l) := by
  obtain ⟨a, c, rfl⟩ := split_last hl.ne
  have ht := hl.top
  rw [List.length_append] at ht hr
  simp only [List.length_cons, List.length_nil] at ht hr
  rcases lx_cases lin_u8 a m with ⟨t, rfl⟩ | q | q
  · have hk := (lx_app lin_u8 a).mp h
    have ht63 := hm.top
    rw [List.length_append] at ht63 hmr
    unfold low1
    split
    · rename_i e
      have : c = 0 := by simpa using e
      subst this
      rw [List.dropLast_concat]
      cases t with
      | nil => exact .inl (by simp)
      | cons d t =>
        rcases hk with hk | ⟨_, hk⟩
        · have hk := UInt8.lt_iff_toNat_lt.mp hk
          have : (0 : UInt8).toNat = 0 := rfl
          omega
        · cases t <;> exact hk.elim
    · rename_i e
      have hc : c ≠ 0 := fun q => e (by rw [q]; simp)
      rw [List.dropLast_concat]
      have hg : (a ++ [c]).getLastD 0 = c := by simp
      rw [hg]
      have dn := dc_nat hc
      unfold padL
      cases t with
      | nil =>
        refine .inr ?_
        rw [List.append_nil, List.append_assoc]
        exact lx_ext _ (by simp) lin_u8
      | cons d t =>
        have cd := hm.caps d (by simp)
        have hdc : d < c := by
          rcases hk with hk | ⟨_, hk⟩
          · exact hk
          · cases t <;> exact hk.elim
        have hdc := UInt8.lt_iff_toNat_lt.mp hdc
        have cc := hl.caps c (by simp)
        unfold capi at cd cc
        simp only [List.length_cons] at ht63 hmr
        rw [List.append_assoc]
        have key : d :: t = dc c :: List.replicate (min (63 - (a ++ [dc c]).length) (r - (a ++ [dc c]).length - 1)) 255 ∨ bl (d :: t) (dc c :: List.replicate (min (63 - (a ++ [dc c]).length) (r - (a ++ [dc c]).length - 1)) 255) := by
          by_cases q : d.toNat = (dc c).toNat
          · have q := UInt8.toNat_inj.mp q
            subst q
            rcases rep_max (k := min (63 - (a ++ [dc c]).length) (r - (a ++ [dc c]).length - 1)) (m := t) (by simp; omega) with e | e
            · exact .inl (by rw [← e])
            · exact .inr (.inr ⟨rfl, e⟩)
          · refine .inr (.inl ?_)
            show d < dc c
            rw [UInt8.lt_iff_toNat_lt]
            split at dn <;> omega
        rcases key with e | e
        · exact .inl (by rw [e]; rfl)
        · exact .inr ((lx_app lin_u8 a).mpr e)
  · exact (lin_bl.asym h (q [c])).elim
  · refine .inr ?_
    unfold low1
    split
    · rw [List.dropLast_concat]; have := q []; rwa [List.append_nil] at this
    · rw [List.dropLast_concat]; unfold padL; rw [List.append_assoc]; exact q _
theorem prd_ok {B : Nat} {b : Bool} {l : Oc} {p : List Oc} (h : Vl B (l :: p)) : Vl B (prd B b (l :: p)) ∧ nl (prd B b (l :: p)) (l :: p) := by
  have hl := h.gd l (.head _)
  have hz := h.sz
  rw [sz_cons] at hz
  rw [prd_cons]
  split
  · exact ⟨h.tail, nl_ext [l] p (by simp)⟩
  · rename_i h0
    obtain ⟨h1, h2, h3⟩ := low1_ok hl h0 (show l.length + 1 ≤ B - sz p by omega)
    have hv : Vl B (low1 (B - sz p) l :: p) := ⟨fun m hm => (List.mem_cons.mp hm).elim (fun e => e ▸ h1) fun hm => h.gd m (.tail _ hm), by rw [sz_cons]; omega⟩
    split
    · refine ⟨padN_ok hv, ?_⟩
      unfold padN
      exact nl_cons h3 _ []
    · exact ⟨hv, nl_cons0 h3⟩
theorem prd_len {B : Nat} {l : Oc} {p : List Oc} : (prd B false (l :: p)).length ≤ (l :: p).length := by
  rw [prd_cons]; split <;> simp
theorem prd_top {B : Nat} {b : Bool} {x : List Oc} (hx : Vl B x) : ¬ nl (prd B b []) x := by
  have := padN_max (B := B) (p := []) (t := x) (by rwa [List.append_nil])
  rwa [List.append_nil] at this
theorem prd_core {B : Nat} {l : Oc} {p x : List Oc} (hp : Vl B (l :: p)) (hx : Vl B x) (h : nl x (l :: p)) :
    (∀ u, nl x (u ++ p)) ∨ x = p ∨ (l ≠ [0] ∧ ∃ r m, x = r ++ m :: p ∧ (m = low1 (B - sz p) l ∨ bl m (low1 (B - sz p) l))) := by
  have hl := hp.gd l (.head _)
  have hz := hp.sz
  rw [sz_cons] at hz
  rcases nl_cases p x with ⟨t, rfl⟩ | c | c
  · rcases last_or t with rfl | ⟨r, m, rfl⟩
    · exact .inr (.inl rfl)
    · have hm := hx.gd m (by simp)
      have hs := hx.sz
      rw [List.append_assoc, List.cons_append, List.nil_append] at *
      rw [sz_append, sz_cons] at hs
      have lm : bl m l := by
        rcases lin_bl.tri m l with q | rfl | q
        · exact q
        · by_cases hr : r = []
          · subst hr; exact (lin_nl.irr _ h).elim
          · exact (lin_nl.asym h (nl_ext r _ hr)).elim
        · exact (lin_nl.asym h (nl_cons q [] r)).elim
      have h0 : l ≠ [0] := fun e => by
        subst e
        rcases zero_le hm.ne with e | e
        · subst e; exact lin_bl.irr _ lm
        · exact lin_bl.asym lm e
      exact .inr (.inr ⟨h0, r, m, rfl, low1_max hl h0 (by omega) hm (by omega) lm⟩)
  · exact (lin_nl.asym h (c [l])).elim
  · exact .inl c
theorem prd_max {B : Nat} {l : Oc} {p x : List Oc} (hp : Vl B (l :: p)) (hx : Vl B x) (h : nl x (l :: p)) : ¬ nl (prd B true (l :: p)) x := by
  rw [prd_cons]
  rcases prd_core hp hx h with c | rfl | ⟨h0, r, m, rfl, hm⟩
  · split
    · exact lin_nl.asym (c [])
    · rw [if_pos rfl]; unfold padN
      have := c (pads (B - sz (low1 (B - sz p) l :: p)) ++ [low1 (B - sz p) l])
      rw [List.append_assoc] at this
      exact lin_nl.asym this
  · split
    · exact lin_nl.irr _
    · rw [if_pos rfl]; unfold padN
      have := nl_ext (pads (B - sz (low1 (B - sz x) l :: x)) ++ [low1 (B - sz x) l]) x (by simp)
      rw [List.append_assoc] at this
      exact lin_nl.asym this
  · rw [if_neg h0, if_pos rfl]
    rcases hm with rfl | hm
    · exact padN_max hx
    · unfold padN; exact lin_nl.asym (nl_cons hm r _)
theorem prd_short {B : Nat} {l : Oc} {p x : List Oc} (hp : Vl B (l :: p)) (hx : Vl B x) (h : nl x (l :: p)) (hn : x.length ≤ (l :: p).length) : ¬ nl (prd B false (l :: p)) x := by
  rw [prd_cons]
  rcases prd_core hp hx h with c | rfl | ⟨h0, r, m, rfl, hm⟩
  · split
    · exact lin_nl.asym (c [])
    · exact lin_nl.asym (c [_])
  · split
    · exact lin_nl.irr _
    · exact lin_nl.asym (nl_ext [_] x (by simp))
  · rw [if_neg h0]
    have hr : r = [] := by
      cases r with
      | nil => rfl
      | cons d r => simp at hn; omega
    subst hr
    rcases hm with rfl | hm
    · exact lin_nl.irr _
    · exact lin_nl.asym (nl_cons0 hm)
end Mine

/-! # TopA -/
namespace Mine
open PySem PySem.W PyProof.Rows
set_option Elab.async false
set_option maxRecDepth 100000
set_option linter.unusedVariables false
open PySem.W.Fast

/-! ## The top: run once by the kernel, on the library's trees, in the library's quick words -/

/-- the view: the law's def alone -/
noncomputable def vw (p : Program) : Program := view p [43]

noncomputable def runT (st : SharedT → Thread → Option (SharedT × Thread)) (ok thr : Thread → Bool) : Nat → SharedT → Thread → Option SharedT
  | 0, _, _ => none
  | n + 1, s, t => match thr t with
    | true => some s
    | false => match ok t with
      | false => none
      | true => match st s t with
        | some (s', t') => runT st ok thr n s' t'
        | none => none

theorem runT_spec {tb : String → Option Builtin} {p : Program} {w : World} {n₀ : Nat} {ann : Option Value} : ∀ {n : Nat} {s s' : SharedT} {t : Thread},
    runT (stepT (denote tb) p w) (stepOk n₀ ann) through n s t = some s' → topRun tb p w n₀ ann n s.abs t = some s'.abs
  | 0, _, _, _, h => by cases h
  | n + 1, s, s', t, h => by
    unfold runT at h
    unfold topRun
    cases h1 : through t with
    | true => rw [h1] at h; cases h; rfl
    | false =>
      rw [h1] at h
      dsimp only at h ⊢
      cases h2 : stepOk n₀ ann t with
      | false => rw [h2] at h; cases h
      | true =>
        rw [h2] at h
        dsimp only at h ⊢
        cases h3 : stepT (denote tb) p w s t with
        | none => rw [h3] at h; cases h
        | some x =>
          obtain ⟨s₂, t₂⟩ := x
          rw [h3] at h
          rw [stepT_spec h3]
          exact runT_spec h

noncomputable def t0 (P : Params) : BT := (List.range 11).foldl (fun t i => t.ins i ((boot_heap P).objs[i]?.getD default)) BT.nil

/-! ### What the top leaves: the objects that the walk reads -/
noncomputable abbrev S (x : String) : Str := Str.ofString x
noncomputable def en (P : Params) (x : Str) (t : Tok) (v : Value) : DictEntry := ⟨PyData.keyHash P x, .str x t, v⟩
noncomputable def stAt (p : Program) (i : Nat) : Stmt := p.main.body.getD i (.Pass default)
noncomputable def subAt : Stmt → Nat → Stmt
  | .ClassDef _ _ _ b .., j => b.getD j (.Pass default)
  | _, _ => .Pass default
noncomputable def fnP : Stmt → Arguments
  | .FunctionDef _ a .. => a
  | _ => default
noncomputable def fnB : Stmt → List Stmt
  | .FunctionDef _ _ b .. => b
  | _ => []
noncomputable def fnS : Stmt → Scope
  | .FunctionDef _ _ _ _ _ _ sc .. => sc
  | _ => default
noncomputable def fn (s : Stmt) (name qual : Str) (dV pm : Value) (cd : Addr) : Obj :=
  { cls := .type "function", data := .func (fnOf name qual (fnP s) (fnB s) (fnS s) dV .none .none pm none (.ref cd) .none) }
noncomputable def kf0 (p : Program) (P : Params) : Frag := [
  (2, ⟨.none, none, (.dict #[en P (S "type.__subclasses__.Exception.0") 212 (.int (31) 0),
      en P (S "type.__subclasses__.Exception.n") 213 (.int (1) 0)] 2), #[]⟩),
  (3, ⟨(.type "dict"), none, (.dict #[en P (S "__name__") 165 (.str (S "law_jf0016_01") 858),
      en P (S "__doc__") 166 .none,
      en P (S "__package__") 167 .none,
      en P (S "__loader__") 168 (.builtin "__main__.__loader__#opaque"),
      en P (S "__spec__") 169 .none,
      en P (S "__annotations__") 170 (.ref 6),
      en P (S "__builtins__") 171 (.ref 4),
      en P (S "__file__") 173 (.str (S "/claim/cut.py") 172),
      en P (S "__cached__") 174 .none,
      en P (S "_wall") 193 (.ref 21),
      en P (S "DNSException") 215 (.ref 31),
      en P (S "FormError") 231 (.ref 44),
      en P (S "DnsSyntaxError") 247 (.ref 56),
      en P (S "NameRelation") 279 (.ref 68),
      en P (S "EmptyLabel") 295 (.ref 82),
      en P (S "NeedAbsoluteNameOrOrigin") 311 (.ref 94),
      en P (S "NameTooLong") 327 (.ref 106),
      en P (S "LabelTooLong") 343 (.ref 118),
      en P (S "AbsoluteConcatenation") 359 (.ref 130),
      en P (S "NoParent") 375 (.ref 142),
      en P (S "NeedSubdomainOfOrigin") 391 (.ref 154),
      en P (S "_validate_labels") 404 (.ref 163),
      en P (S "_maybe_convert_to_binary") 411 (.ref 170),
      en P (S "Name") 679 (.ref 387),
      en P (S "root") 719 (.ref 394),
      en P (S "empty") 739 (.ref 410),
      en P (S "_MINIMAL_OCTET") 741 (.bytes #[0] 740),
      en P (S "_MINIMAL_OCTET_VALUE") 743 (.int (0) 742),
      en P (S "_SUCCESSOR_PREFIX") 779 (.ref 425),
      en P (S "_MAXIMAL_OCTET") 781 (.bytes #[255] 780),
      en P (S "_MAXIMAL_OCTET_VALUE") 783 (.int (255) 782),
      en P (S "_AT_SIGN_VALUE") 785 (.int (64) 784),
      en P (S "_LEFT_SQUARE_BRACKET_VALUE") 787 (.int (91) 786),
      en P (S "_wire_length") 796 (.ref 445),
      en P (S "_pad_to_max_name") 805 (.ref 452),
      en P (S "_pad_to_max_label") 816 (.ref 459),
      en P (S "_absolute_predecessor") 831 (.ref 466),
      en P (S "_absolute_successor") 845 (.ref 473),
      en P (S "_handle_relativity_and_call") 857 (.ref 480),
      en P (S "_law_octets") 868 (.ref 487),
      en P (S "_law_label") 878 (.ref 494),
      en P (S "_law_size") 884 (.ref 499),
      en P (S "_law_name") 895 (.ref 506),
      en P (S "_law_less") 906 (.ref 513),
      en P (S "_law_under") 914 (.ref 520),
      en P (S "_law_fits") 923 (.ref 527),
      en P (S "_law_near") 929 (.ref 532),
      en P (S "_law_refused") 938 (.ref 539),
      en P (S "_law_between") 952 (.ref 546),
      en P (S "law") 958 (.ref 551)] 50), #[]⟩),
  (30, ⟨(.type "dict"), none, (.dict #[en P (S "__module__") 203 (.str (S "dns.exception") 194),
      en P (S "__firstlineno__") 207 (.int (5) 206),
      en P (S "__static_attributes__") 208 (.ref 29),
      en P (S "__weakref__") 210 (.ref 32),
      en P (S "__doc__") 211 .none] 3), #[]⟩),
  (31, ⟨(.type "type"), none, (.cls ⟨(S "DNSException"), [(.type "Exception")], [(.ref 31), (.type "Exception"), (.type "BaseException"), (.type "object")], 30, (S "DNSException"), true, [], [(.ref 44), (.ref 56), (.ref 94), (.ref 130), (.ref 142), (.ref 154)], false, none, false⟩), #[some (.ref 22), none, some (.str (S "DNSException") 196), some (.str (S "DNSException") 204), some (.builtin "Exception.__new__"), some (.bool true)]⟩),
  (43, ⟨(.type "dict"), none, (.dict #[en P (S "__module__") 223 (.str (S "dns.exception") 194),
      en P (S "__firstlineno__") 227 (.int (7) 226),
      en P (S "__static_attributes__") 228 (.ref 42),
      en P (S "__doc__") 229 .none] 2), #[]⟩),
  (44, ⟨(.type "type"), none, (.cls ⟨(S "FormError"), [(.ref 31)], [(.ref 44), (.ref 31), (.type "Exception"), (.type "BaseException"), (.type "object")], 43, (S "FormError"), true, [], [(.ref 106)], false, none, false⟩), #[some (.ref 35), none, some (.str (S "FormError") 216), some (.str (S "FormError") 224), some (.builtin "Exception.__new__"), some (.bool true)]⟩),
  (67, ⟨(.type "dict"), none, (.dict #[en P (S "__module__") 257 (.str (S "dns.name") 248),
      en P (S "__firstlineno__") 261 (.int (12) 260),
      en P (S "NONE") 263 (.int (0) 262),
      en P (S "SUPERDOMAIN") 265 (.int (1) 264),
      en P (S "SUBDOMAIN") 267 (.int (2) 266),
      en P (S "EQUAL") 269 (.int (3) 268),
      en P (S "COMMONANCESTOR") 271 (.int (4) 270),
      en P (S "__static_attributes__") 272 (.ref 66),
      en P (S "__dict__") 274 (.ref 69),
      en P (S "__weakref__") 276 (.ref 70),
      en P (S "__doc__") 277 .none] 4), #[]⟩),
  (68, ⟨(.type "type"), none, (.cls ⟨(S "NameRelation"), [(.type "object")], [(.ref 68), (.type "object")], 67, (S "NameRelation"), true, [], [], false, none, false⟩), #[none, none, some (.str (S "NameRelation") 250), some (.str (S "NameRelation") 258), some (.builtin "object.__new__"), some (.bool true)]⟩),
  (93, ⟨(.type "dict"), none, (.dict #[en P (S "__module__") 303 (.str (S "dns.name") 248),
      en P (S "__firstlineno__") 307 (.int (20) 306),
      en P (S "__static_attributes__") 308 (.ref 92),
      en P (S "__doc__") 309 .none] 2), #[]⟩),
  (94, ⟨(.type "type"), none, (.cls ⟨(S "NeedAbsoluteNameOrOrigin"), [(.ref 31)], [(.ref 94), (.ref 31), (.type "Exception"), (.type "BaseException"), (.type "object")], 93, (S "NeedAbsoluteNameOrOrigin"), true, [], [], false, none, false⟩), #[some (.ref 85), none, some (.str (S "NeedAbsoluteNameOrOrigin") 296), some (.str (S "NeedAbsoluteNameOrOrigin") 304), some (.builtin "Exception.__new__"), some (.bool true)]⟩),
  (105, ⟨(.type "dict"), none, (.dict #[en P (S "__module__") 319 (.str (S "dns.name") 248),
      en P (S "__firstlineno__") 323 (.int (22) 322),
      en P (S "__static_attributes__") 324 (.ref 104),
      en P (S "__doc__") 325 .none] 2), #[]⟩),
  (106, ⟨(.type "type"), none, (.cls ⟨(S "NameTooLong"), [(.ref 44)], [(.ref 106), (.ref 44), (.ref 31), (.type "Exception"), (.type "BaseException"), (.type "object")], 105, (S "NameTooLong"), true, [], [], false, none, false⟩), #[some (.ref 97), none, some (.str (S "NameTooLong") 312), some (.str (S "NameTooLong") 320), some (.builtin "Exception.__new__"), some (.bool true)]⟩),
  (153, ⟨(.type "dict"), none, (.dict #[en P (S "__module__") 383 (.str (S "dns.name") 248),
      en P (S "__firstlineno__") 387 (.int (30) 386),
      en P (S "__static_attributes__") 388 (.ref 152),
      en P (S "__doc__") 389 .none] 2), #[]⟩),
  (154, ⟨(.type "type"), none, (.cls ⟨(S "NeedSubdomainOfOrigin"), [(.ref 31)], [(.ref 154), (.ref 31), (.type "Exception"), (.type "BaseException"), (.type "object")], 153, (S "NeedSubdomainOfOrigin"), true, [], [], false, none, false⟩), #[some (.ref 145), none, some (.str (S "NeedSubdomainOfOrigin") 376), some (.str (S "NeedSubdomainOfOrigin") 384), some (.builtin "Exception.__new__"), some (.bool true)]⟩),
  (162, ⟨(.type "code"), none, (.fields #[(.str (S "_validate_labels") 392), (.str (S "_validate_labels") 393), (.str (S "/claim/cut.py") 394), (.int (32) 0), (.int (1) 0), (.int (0) 0), (.int (0) 0), (.int (3) 0), (.ref 157), (.bool true), (.int (181) 0), (.ref 158), .none, (.ref 159), (.ref 160), (.ref 161), (.int (402) 0), (.int (32) 0), (.str (S "/claim/cut.py") 403)]), #[]⟩),
  (163, fn (stAt p 14) (S "_validate_labels") (S "_validate_labels") .none (.str (S "dns.name") 248) 162),
  (169, ⟨(.type "code"), none, (.fields #[(.str (S "_maybe_convert_to_binary") 405), (.str (S "_maybe_convert_to_binary") 406), (.str (S "/claim/cut.py") 407), (.int (49) 0), (.int (1) 0), (.int (0) 0), (.int (0) 0), (.int (3) 0), (.ref 164), (.bool true), (.int (181) 0), (.ref 165), .none, (.ref 166), (.ref 167), (.ref 168), (.int (409) 0), (.int (49) 0), (.str (S "/claim/cut.py") 410)]), #[]⟩),
  (170, fn (stAt p 15) (S "_maybe_convert_to_binary") (S "_maybe_convert_to_binary") .none (.str (S "dns.name") 248) 169),
  (181, ⟨(.type "code"), none, (.fields #[(.str (S "__init__") 424), (.str (S "Name.__init__") 425), (.str (S "/claim/cut.py") 426), (.int (56) 0), (.int (2) 0), (.int (0) 0), (.int (0) 0), (.int (3) 0), (.ref 178), (.bool true), (.int (181) 0), (.ref 179), .none, .none, .none, (.ref 180), (.int (427) 0), (.int (56) 0), (.str (S "/claim/cut.py") 428)]), #[]⟩),
  (182, fn (subAt (stAt p 16) 0) (S "__init__") (S "Name.__init__") .none (.str (S "dns.name") 248) 181)]
noncomputable def kf1 (p : Program) (P : Params) : Frag := [
  (188, ⟨(.type "code"), none, (.fields #[(.str (S "is_absolute") 430), (.str (S "Name.is_absolute") 431), (.str (S "/claim/cut.py") 432), (.int (61) 0), (.int (1) 0), (.int (0) 0), (.int (0) 0), (.int (3) 0), (.ref 183), (.bool true), (.int (181) 0), (.ref 184), .none, (.ref 185), (.ref 186), (.ref 187), (.int (434) 0), (.int (61) 0), (.str (S "/claim/cut.py") 435)]), #[]⟩),
  (189, fn (subAt (stAt p 16) 1) (S "is_absolute") (S "Name.is_absolute") .none (.str (S "dns.name") 248) 188),
  (202, ⟨(.type "code"), none, (.fields #[(.str (S "fullcompare") 444), (.str (S "Name.fullcompare") 445), (.str (S "/claim/cut.py") 446), (.int (67) 0), (.int (2) 0), (.int (0) 0), (.int (0) 0), (.int (3) 0), (.ref 197), (.bool true), (.int (181) 0), (.ref 198), .none, (.ref 199), (.ref 200), (.ref 201), (.int (460) 0), (.int (67) 0), (.str (S "/claim/cut.py") 461)]), #[]⟩),
  (203, fn (subAt (stAt p 16) 3) (S "fullcompare") (S "Name.fullcompare") .none (.str (S "dns.name") 248) 202),
  (209, ⟨(.type "code"), none, (.fields #[(.str (S "is_subdomain") 463), (.str (S "Name.is_subdomain") 464), (.str (S "/claim/cut.py") 465), (.int (111) 0), (.int (2) 0), (.int (0) 0), (.int (0) 0), (.int (3) 0), (.ref 204), (.bool true), (.int (181) 0), (.ref 205), .none, (.ref 206), (.ref 207), (.ref 208), (.int (470) 0), (.int (111) 0), (.str (S "/claim/cut.py") 471)]), #[]⟩),
  (210, fn (subAt (stAt p 16) 4) (S "is_subdomain") (S "Name.is_subdomain") .none (.str (S "dns.name") 248) 209),
  (230, ⟨(.type "code"), none, (.fields #[(.str (S "__eq__") 488), (.str (S "Name.__eq__") 489), (.str (S "/claim/cut.py") 490), (.int (123) 0), (.int (2) 0), (.int (0) 0), (.int (0) 0), (.int (3) 0), (.ref 225), (.bool true), (.int (181) 0), (.ref 226), .none, (.ref 227), (.ref 228), (.ref 229), (.int (493) 0), (.int (123) 0), (.str (S "/claim/cut.py") 494)]), #[]⟩),
  (231, fn (subAt (stAt p 16) 7) (S "__eq__") (S "Name.__eq__") .none (.str (S "dns.name") 248) 230),
  (237, ⟨(.type "code"), none, (.fields #[(.str (S "__ne__") 496), (.str (S "Name.__ne__") 497), (.str (S "/claim/cut.py") 498), (.int (129) 0), (.int (2) 0), (.int (0) 0), (.int (0) 0), (.int (3) 0), (.ref 232), (.bool true), (.int (181) 0), (.ref 233), .none, (.ref 234), (.ref 235), (.ref 236), (.int (501) 0), (.int (129) 0), (.str (S "/claim/cut.py") 502)]), #[]⟩),
  (238, fn (subAt (stAt p 16) 8) (S "__ne__") (S "Name.__ne__") .none (.str (S "dns.name") 248) 237),
  (303, ⟨(.type "code"), none, (.fields #[(.str (S "__len__") 572), (.str (S "Name.__len__") 573), (.str (S "/claim/cut.py") 574), (.int (171) 0), (.int (1) 0), (.int (0) 0), (.int (0) 0), (.int (3) 0), (.ref 298), (.bool true), (.int (181) 0), (.ref 299), .none, (.ref 300), (.ref 301), (.ref 302), (.int (576) 0), (.int (171) 0), (.str (S "/claim/cut.py") 577)]), #[]⟩),
  (304, fn (subAt (stAt p 16) 17) (S "__len__") (S "Name.__len__") .none (.str (S "dns.name") 248) 303),
  (310, ⟨(.type "code"), none, (.fields #[(.str (S "__getitem__") 579), (.str (S "Name.__getitem__") 580), (.str (S "/claim/cut.py") 581), (.int (174) 0), (.int (2) 0), (.int (0) 0), (.int (0) 0), (.int (3) 0), (.ref 305), (.bool true), (.int (181) 0), (.ref 306), .none, (.ref 307), (.ref 308), (.ref 309), (.int (584) 0), (.int (174) 0), (.str (S "/claim/cut.py") 585)]), #[]⟩),
  (311, fn (subAt (stAt p 16) 18) (S "__getitem__") (S "Name.__getitem__") .none (.str (S "dns.name") 248) 310),
  (338, ⟨(.type "code"), none, (.fields #[(.str (S "concatenate") 611), (.str (S "Name.concatenate") 612), (.str (S "/claim/cut.py") 613), (.int (186) 0), (.int (2) 0), (.int (0) 0), (.int (0) 0), (.int (3) 0), (.ref 333), (.bool true), (.int (181) 0), (.ref 334), .none, (.ref 335), (.ref 336), (.ref 337), (.int (617) 0), (.int (186) 0), (.str (S "/claim/cut.py") 618)]), #[]⟩),
  (339, fn (subAt (stAt p 16) 22) (S "concatenate") (S "Name.concatenate") .none (.str (S "dns.name") 248) 338),
  (345, ⟨(.type "code"), none, (.fields #[(.str (S "relativize") 620), (.str (S "Name.relativize") 621), (.str (S "/claim/cut.py") 622), (.int (193) 0), (.int (2) 0), (.int (0) 0), (.int (0) 0), (.int (3) 0), (.ref 340), (.bool true), (.int (181) 0), (.ref 341), .none, (.ref 342), (.ref 343), (.ref 344), (.int (625) 0), (.int (193) 0), (.str (S "/claim/cut.py") 626)]), #[]⟩),
  (346, fn (subAt (stAt p 16) 23) (S "relativize") (S "Name.relativize") .none (.str (S "dns.name") 248) 345),
  (352, ⟨(.type "code"), none, (.fields #[(.str (S "derelativize") 628), (.str (S "Name.derelativize") 629), (.str (S "/claim/cut.py") 630), (.int (199) 0), (.int (2) 0), (.int (0) 0), (.int (0) 0), (.int (3) 0), (.ref 347), (.bool true), (.int (181) 0), (.ref 348), .none, (.ref 349), (.ref 350), (.ref 351), (.int (633) 0), (.int (199) 0), (.str (S "/claim/cut.py") 634)]), #[]⟩),
  (353, fn (subAt (stAt p 16) 24) (S "derelativize") (S "Name.derelativize") .none (.str (S "dns.name") 248) 352)]
noncomputable def kf2 (p : Program) (P : Params) : Frag := [
  (367, ⟨(.type "code"), none, (.fields #[(.str (S "parent") 645), (.str (S "Name.parent") 646), (.str (S "/claim/cut.py") 647), (.int (208) 0), (.int (1) 0), (.int (0) 0), (.int (0) 0), (.int (3) 0), (.ref 362), (.bool true), (.int (181) 0), (.ref 363), .none, (.ref 364), (.ref 365), (.ref 366), (.int (649) 0), (.int (208) 0), (.str (S "/claim/cut.py") 650)]), #[]⟩),
  (368, fn (subAt (stAt p 16) 26) (S "parent") (S "Name.parent") .none (.str (S "dns.name") 248) 367),
  (369, ⟨(.type "tuple"), none, (.seq #[(.bool true)] 0), #[]⟩),
  (375, ⟨(.type "code"), none, (.fields #[(.str (S "predecessor") 652), (.str (S "Name.predecessor") 653), (.str (S "/claim/cut.py") 654), (.int (213) 0), (.int (3) 0), (.int (0) 0), (.int (0) 0), (.int (3) 0), (.ref 370), (.bool true), (.int (181) 0), (.ref 371), .none, (.ref 372), (.ref 373), (.ref 374), (.int (658) 0), (.int (213) 0), (.str (S "/claim/cut.py") 659)]), #[]⟩),
  (376, fn (subAt (stAt p 16) 27) (S "predecessor") (S "Name.predecessor") (.ref 369) (.str (S "dns.name") 248) 375),
  (377, ⟨(.type "tuple"), none, (.seq #[(.bool true)] 0), #[]⟩),
  (383, ⟨(.type "code"), none, (.fields #[(.str (S "successor") 661), (.str (S "Name.successor") 662), (.str (S "/claim/cut.py") 663), (.int (216) 0), (.int (3) 0), (.int (0) 0), (.int (0) 0), (.int (3) 0), (.ref 378), (.bool true), (.int (181) 0), (.ref 379), .none, (.ref 380), (.ref 381), (.ref 382), (.int (667) 0), (.int (216) 0), (.str (S "/claim/cut.py") 668)]), #[]⟩),
  (384, fn (subAt (stAt p 16) 28) (S "successor") (S "Name.successor") (.ref 377) (.str (S "dns.name") 248) 383),
  (386, ⟨(.type "dict"), none, (.dict #[en P (S "__module__") 419 (.str (S "dns.name") 248),
      en P (S "__firstlineno__") 423 (.int (54) 422),
      en P (S "__init__") 429 (.ref 182),
      en P (S "is_absolute") 436 (.ref 189),
      en P (S "is_wild") 443 (.ref 196),
      en P (S "fullcompare") 462 (.ref 203),
      en P (S "is_subdomain") 472 (.ref 210),
      en P (S "is_superdomain") 480 (.ref 217),
      en P (S "canonicalize") 487 (.ref 224),
      en P (S "__eq__") 495 (.ref 231),
      en P (S "__ne__") 503 (.ref 238),
      en P (S "__lt__") 511 (.ref 245),
      en P (S "__le__") 519 (.ref 252),
      en P (S "__ge__") 527 (.ref 259),
      en P (S "__gt__") 535 (.ref 266),
      en P (S "to_text") 544 (.ref 274),
      en P (S "to_styled_text") 552 (.ref 281),
      en P (S "to_digestable") 560 (.ref 289),
      en P (S "to_wire") 571 (.ref 297),
      en P (S "__len__") 578 (.ref 304),
      en P (S "__getitem__") 586 (.ref 311),
      en P (S "__add__") 594 (.ref 318),
      en P (S "__sub__") 602 (.ref 325),
      en P (S "split") 610 (.ref 332),
      en P (S "concatenate") 619 (.ref 339),
      en P (S "relativize") 627 (.ref 346),
      en P (S "derelativize") 635 (.ref 353),
      en P (S "choose_relativity") 644 (.ref 361),
      en P (S "parent") 651 (.ref 368),
      en P (S "predecessor") 660 (.ref 376),
      en P (S "successor") 669 (.ref 384),
      en P (S "__static_attributes__") 671 (.ref 385),
      en P (S "__dict__") 673 (.ref 388),
      en P (S "__weakref__") 675 (.ref 389),
      en P (S "__doc__") 676 .none,
      en P (S "__hash__") 677 .none] 5), #[]⟩),
  (387, ⟨(.type "type"), none, (.cls ⟨(S "Name"), [(.type "object")], [(.ref 387), (.type "object")], 386, (S "Name"), true, [], [], false, none, false⟩), #[none, none, some (.str (S "Name") 412), some (.str (S "Name") 420), some (.builtin "object.__new__"), some (.bool true)]⟩),
  (393, ⟨(.type "dict"), none, (.dict #[en P (S "labels") 687 (.ref 403)] 1), #[]⟩),
  (394, ⟨(.ref 387), (some 393), .plain, #[]⟩),
  (403, ⟨(.type "tuple"), none, (.seq #[(.bytes #[] 680)] 0), #[]⟩),
  (409, ⟨(.type "dict"), none, (.dict #[en P (S "labels") 724 (.ref 418)] 1), #[]⟩),
  (410, ⟨(.ref 387), (some 409), .plain, #[]⟩),
  (418, ⟨(.type "tuple"), none, (.seq #[] 0), #[]⟩),
  (424, ⟨(.type "dict"), none, (.dict #[en P (S "labels") 750 (.ref 434)] 1), #[]⟩),
  (425, ⟨(.ref 387), (some 424), .plain, #[]⟩),
  (434, ⟨(.type "tuple"), none, (.seq #[(.bytes #[0] 740)] 0), #[]⟩),
  (444, ⟨(.type "code"), none, (.fields #[(.str (S "_wire_length") 788), (.str (S "_wire_length") 789), (.str (S "/claim/cut.py") 790), (.int (227) 0), (.int (1) 0), (.int (0) 0), (.int (0) 0), (.int (3) 0), (.ref 439), (.bool true), (.int (181) 0), (.ref 440), .none, (.ref 441), (.ref 442), (.ref 443), (.int (794) 0), (.int (227) 0), (.str (S "/claim/cut.py") 795)]), #[]⟩)]
noncomputable def kf3 (p : Program) (P : Params) : Frag := [
  (445, fn (stAt p 26) (S "_wire_length") (S "_wire_length") .none (.str (S "dns.name") 248) 444),
  (451, ⟨(.type "code"), none, (.fields #[(.str (S "_pad_to_max_name") 797), (.str (S "_pad_to_max_name") 798), (.str (S "/claim/cut.py") 799), (.int (232) 0), (.int (1) 0), (.int (0) 0), (.int (0) 0), (.int (3) 0), (.ref 446), (.bool true), (.int (181) 0), (.ref 447), .none, (.ref 448), (.ref 449), (.ref 450), (.int (803) 0), (.int (232) 0), (.str (S "/claim/cut.py") 804)]), #[]⟩),
  (452, fn (stAt p 27) (S "_pad_to_max_name") (S "_pad_to_max_name") .none (.str (S "dns.name") 248) 451),
  (458, ⟨(.type "code"), none, (.fields #[(.str (S "_pad_to_max_label") 806), (.str (S "_pad_to_max_label") 807), (.str (S "/claim/cut.py") 808), (.int (243) 0), (.int (2) 0), (.int (0) 0), (.int (0) 0), (.int (3) 0), (.ref 453), (.bool true), (.int (181) 0), (.ref 454), .none, (.ref 455), (.ref 456), (.ref 457), (.int (814) 0), (.int (243) 0), (.str (S "/claim/cut.py") 815)]), #[]⟩),
  (459, fn (stAt p 28) (S "_pad_to_max_label") (S "_pad_to_max_label") .none (.str (S "dns.name") 248) 458),
  (465, ⟨(.type "code"), none, (.fields #[(.str (S "_absolute_predecessor") 817), (.str (S "_absolute_predecessor") 818), (.str (S "/claim/cut.py") 819), (.int (250) 0), (.int (3) 0), (.int (0) 0), (.int (0) 0), (.int (3) 0), (.ref 460), (.bool true), (.int (181) 0), (.ref 461), .none, (.ref 462), (.ref 463), (.ref 464), (.int (829) 0), (.int (250) 0), (.str (S "/claim/cut.py") 830)]), #[]⟩),
  (466, fn (stAt p 29) (S "_absolute_predecessor") (S "_absolute_predecessor") .none (.str (S "dns.name") 248) 465),
  (472, ⟨(.type "code"), none, (.fields #[(.str (S "_absolute_successor") 832), (.str (S "_absolute_successor") 833), (.str (S "/claim/cut.py") 834), (.int (276) 0), (.int (3) 0), (.int (0) 0), (.int (0) 0), (.int (3) 0), (.ref 467), (.bool true), (.int (181) 0), (.ref 468), .none, (.ref 469), (.ref 470), (.ref 471), (.int (843) 0), (.int (276) 0), (.str (S "/claim/cut.py") 844)]), #[]⟩),
  (473, fn (stAt p 30) (S "_absolute_successor") (S "_absolute_successor") .none (.str (S "dns.name") 248) 472),
  (479, ⟨(.type "code"), none, (.fields #[(.str (S "_handle_relativity_and_call") 846), (.str (S "_handle_relativity_and_call") 847), (.str (S "/claim/cut.py") 848), (.int (306) 0), (.int (4) 0), (.int (0) 0), (.int (0) 0), (.int (3) 0), (.ref 474), (.bool true), (.int (181) 0), (.ref 475), .none, (.ref 476), (.ref 477), (.ref 478), (.int (855) 0), (.int (306) 0), (.str (S "/claim/cut.py") 856)]), #[]⟩),
  (480, fn (stAt p 31) (S "_handle_relativity_and_call") (S "_handle_relativity_and_call") .none (.str (S "dns.name") 248) 479),
  (486, ⟨(.type "code"), none, (.fields #[(.str (S "_law_octets") 860), (.str (S "_law_octets") 861), (.str (S "/claim/cut.py") 862), (.int (322) 0), (.int (1) 0), (.int (0) 0), (.int (0) 0), (.int (3) 0), (.ref 481), (.bool true), (.int (181) 0), (.ref 482), .none, (.ref 483), (.ref 484), (.ref 485), (.int (866) 0), (.int (322) 0), (.str (S "/claim/cut.py") 867)]), #[]⟩),
  (487, fn (stAt p 33) (S "_law_octets") (S "_law_octets") .none (.str (S "law_jf0016_01") 858) 486),
  (493, ⟨(.type "code"), none, (.fields #[(.str (S "_law_label") 869), (.str (S "_law_label") 870), (.str (S "/claim/cut.py") 871), (.int (330) 0), (.int (2) 0), (.int (0) 0), (.int (0) 0), (.int (3) 0), (.ref 488), (.bool true), (.int (181) 0), (.ref 489), .none, (.ref 490), (.ref 491), (.ref 492), (.int (876) 0), (.int (330) 0), (.str (S "/claim/cut.py") 877)]), #[]⟩),
  (494, fn (stAt p 34) (S "_law_label") (S "_law_label") .none (.str (S "law_jf0016_01") 858) 493),
  (498, ⟨(.type "code"), none, (.fields #[(.str (S "_law_size") 879), (.str (S "_law_size") 880), (.str (S "/claim/cut.py") 881), (.int (340) 0), (.int (1) 0), (.int (0) 0), (.int (0) 0), (.int (3) 0), (.ref 495), (.bool true), (.int (181) 0), (.ref 496), .none, .none, .none, (.ref 497), (.int (882) 0), (.int (340) 0), (.str (S "/claim/cut.py") 883)]), #[]⟩),
  (499, fn (stAt p 35) (S "_law_size") (S "_law_size") .none (.str (S "law_jf0016_01") 858) 498),
  (505, ⟨(.type "code"), none, (.fields #[(.str (S "_law_name") 885), (.str (S "_law_name") 886), (.str (S "/claim/cut.py") 887), (.int (342) 0), (.int (2) 0), (.int (0) 0), (.int (0) 0), (.int (3) 0), (.ref 500), (.bool true), (.int (181) 0), (.ref 501), .none, (.ref 502), (.ref 503), (.ref 504), (.int (893) 0), (.int (342) 0), (.str (S "/claim/cut.py") 894)]), #[]⟩),
  (506, fn (stAt p 36) (S "_law_name") (S "_law_name") .none (.str (S "law_jf0016_01") 858) 505),
  (512, ⟨(.type "code"), none, (.fields #[(.str (S "_law_less") 896), (.str (S "_law_less") 897), (.str (S "/claim/cut.py") 898), (.int (349) 0), (.int (2) 0), (.int (0) 0), (.int (0) 0), (.int (3) 0), (.ref 507), (.bool true), (.int (181) 0), (.ref 508), .none, (.ref 509), (.ref 510), (.ref 511), (.int (904) 0), (.int (349) 0), (.str (S "/claim/cut.py") 905)]), #[]⟩)]
noncomputable def kf4 (p : Program) (P : Params) : Frag := [
  (513, fn (stAt p 37) (S "_law_less") (S "_law_less") .none (.str (S "law_jf0016_01") 858) 512),
  (519, ⟨(.type "code"), none, (.fields #[(.str (S "_law_under") 907), (.str (S "_law_under") 908), (.str (S "/claim/cut.py") 909), (.int (356) 0), (.int (2) 0), (.int (0) 0), (.int (0) 0), (.int (3) 0), (.ref 514), (.bool true), (.int (181) 0), (.ref 515), .none, (.ref 516), (.ref 517), (.ref 518), (.int (912) 0), (.int (356) 0), (.str (S "/claim/cut.py") 913)]), #[]⟩),
  (520, fn (stAt p 38) (S "_law_under") (S "_law_under") .none (.str (S "law_jf0016_01") 858) 519),
  (526, ⟨(.type "code"), none, (.fields #[(.str (S "_law_fits") 915), (.str (S "_law_fits") 916), (.str (S "/claim/cut.py") 917), (.int (358) 0), (.int (2) 0), (.int (0) 0), (.int (0) 0), (.int (3) 0), (.ref 521), (.bool true), (.int (181) 0), (.ref 522), .none, (.ref 523), (.ref 524), (.ref 525), (.int (921) 0), (.int (358) 0), (.str (S "/claim/cut.py") 922)]), #[]⟩),
  (527, fn (stAt p 39) (S "_law_fits") (S "_law_fits") .none (.str (S "law_jf0016_01") 858) 526),
  (531, ⟨(.type "code"), none, (.fields #[(.str (S "_law_near") 924), (.str (S "_law_near") 925), (.str (S "/claim/cut.py") 926), (.int (365) 0), (.int (2) 0), (.int (0) 0), (.int (0) 0), (.int (3) 0), (.ref 528), (.bool true), (.int (181) 0), (.ref 529), .none, .none, .none, (.ref 530), (.int (927) 0), (.int (365) 0), (.str (S "/claim/cut.py") 928)]), #[]⟩),
  (532, fn (stAt p 40) (S "_law_near") (S "_law_near") .none (.str (S "law_jf0016_01") 858) 531),
  (538, ⟨(.type "code"), none, (.fields #[(.str (S "_law_refused") 930), (.str (S "_law_refused") 931), (.str (S "/claim/cut.py") 932), (.int (379) 0), (.int (3) 0), (.int (0) 0), (.int (0) 0), (.int (3) 0), (.ref 533), (.bool true), (.int (181) 0), (.ref 534), .none, (.ref 535), (.ref 536), (.ref 537), (.int (936) 0), (.int (379) 0), (.str (S "/claim/cut.py") 937)]), #[]⟩),
  (539, fn (stAt p 41) (S "_law_refused") (S "_law_refused") .none (.str (S "law_jf0016_01") 858) 538),
  (545, ⟨(.type "code"), none, (.fields #[(.str (S "_law_between") 939), (.str (S "_law_between") 940), (.str (S "/claim/cut.py") 941), (.int (390) 0), (.int (4) 0), (.int (0) 0), (.int (0) 0), (.int (3) 0), (.ref 540), (.bool true), (.int (181) 0), (.ref 541), .none, (.ref 542), (.ref 543), (.ref 544), (.int (950) 0), (.int (390) 0), (.str (S "/claim/cut.py") 951)]), #[]⟩),
  (546, fn (stAt p 42) (S "_law_between") (S "_law_between") .none (.str (S "law_jf0016_01") 858) 545),
  (550, ⟨(.type "code"), none, (.fields #[(.str (S "law") 953), (.str (S "law") 954), (.str (S "/claim/cut.py") 955), (.int (402) 0), (.int (1) 0), (.int (0) 0), (.int (0) 0), (.int (3) 0), (.ref 547), (.bool true), (.int (181) 0), (.ref 548), .none, .none, .none, (.ref 549), (.int (956) 0), (.int (402) 0), (.str (S "/claim/cut.py") 957)]), #[]⟩),
  (551, fn (stAt p 43) (S "law") (S "law") .none (.str (S "law_jf0016_01") 858) 550)]
noncomputable def KF (p : Program) (P : Params) : Frag := kf0 p P ++ kf1 p P ++ kf2 p P ++ kf3 p P ++ kf4 p P
noncomputable def KA : List Nat := [2, 3, 30, 31, 43, 44, 67, 68, 93, 94, 105, 106, 153, 154, 162, 163, 169, 170, 181, 182, 188, 189, 202, 203, 209, 210, 230, 231, 237, 238, 303, 304, 310, 311, 338, 339, 345, 346, 352, 353, 367, 368, 369, 375, 376, 377, 383, 384, 386, 387, 393, 394, 403, 409, 410, 418, 424, 425, 434, 444, 445, 451, 452, 458, 459, 465, 466, 472, 473, 479, 480, 486, 487, 493, 494, 498, 499, 505, 506, 512, 513, 519, 520, 526, 527, 531, 532, 538, 539, 545, 546, 550, 551]


noncomputable def loose : List Str := (["_wall", "DNSException", "FormError", "DnsSyntaxError", "NameRelation", "EmptyLabel", "NeedAbsoluteNameOrOrigin", "NameTooLong", "LabelTooLong", "AbsoluteConcatenation", "NoParent", "NeedSubdomainOfOrigin", "_validate_labels", "_maybe_convert_to_binary"] : List Str) ++ (["Name", "root", "empty", "_MINIMAL_OCTET", "_MINIMAL_OCTET_VALUE", "_SUCCESSOR_PREFIX", "_MAXIMAL_OCTET", "_MAXIMAL_OCTET_VALUE", "_AT_SIGN_VALUE", "_LEFT_SQUARE_BRACKET_VALUE", "_wire_length", "_pad_to_max_name", "_pad_to_max_label", "_absolute_predecessor"] : List Str) ++ (["_absolute_successor", "_handle_relativity_and_call", "_law_octets", "_law_label", "_law_size", "_law_name", "_law_less", "_law_under", "_law_fits", "_law_near", "_law_refused", "_law_between"] : List Str)
noncomputable abbrev N0 : Nat := 11400
noncomputable def obs (s : Shared) : List (Option Obj) := KA.map s.heap.get?
noncomputable def val (p : Program) (w : World) : List (Option Obj) := (KF p w.params).map fun x => some x.2
noncomputable abbrev XT (s : Shared) : Bool := recOk [] s

theorem said0 : PySem.Challenge.rw_jf0016_01.wellSaid = true := by decide +kernel
theorem of_row (h : PySem.Challenge.rw_jf0016_01.row.wellSaid = true → PySem.Challenge.rw_jf0016_01.row.Holds) : PySem.Challenge.rw_jf0016_01.Holds := holds_law said0 h

noncomputable def s0 (w : World) (os : OsState) : SharedT := ⟨t0 w.params, 11, {}, #[], boot_drawn, boot_toks, os⟩
noncomputable def looks (seen : Program → List Str → List Str → (Shared → Bool) → Bool → Shared → α) (p : Program) (mods : List Str) (w : World) (s : SharedT) : Bool × α × List (Option Obj) :=
  (staticsOk mods (boot_heap w.params) s.abs.heap && namesBound p s.abs.heap && gensDone s.abs && laidKept (boot_heap w.params) s.abs.heap, seen (vw p) loose mods XT true s.abs, obs s.abs)

end Mine

/-! # TopB -/
namespace Mine
open PySem PySem.W PyProof.Rows
set_option Elab.async false
set_option maxRecDepth 100000
set_option linter.unusedVariables false
open PySem.W.Fast

/-- the run and what is seen behind it, in the quick words -/
noncomputable def PQ (w : World) : Prop := ∀ os, (runT (tw10156331382660048174 (tw11892475500146522536 tw14364793385576792824) PySem.Challenge.pw_jf0016_01 w) (tw6613529449190102663 11 (some (.ref 6))) through N0 (s0 w os) (topStub PySem.Challenge.pw_jf0016_01)).map
    (looks tw4187177175401517315 PySem.Challenge.pw_jf0016_01 (importedModules PySem.Challenge.pw_jf0016_01.main.body) w) = some (true, openGood (vw PySem.Challenge.pw_jf0016_01) loose, val PySem.Challenge.pw_jf0016_01 w)
noncomputable abbrev wf (w : World) (a b : Bool) : World := (w.withFollow "comprehension-iter-twice" a).withFollow "special-get-raises" b
theorem pq00 (w : World) : PQ (wf w false false) := by intro os; kernel_rfl
theorem pq01 (w : World) : PQ (wf w false true) := by intro os; kernel_rfl
theorem pq10 (w : World) : PQ (wf w true false) := by intro os; kernel_rfl
theorem pq11 (w : World) : PQ (wf w true true) := by intro os; kernel_rfl
/-- both rows, the first asked of the world as it is turned by the second -/
theorem pq (w : World) : PQ w := by
  have h : ∀ a b : Bool, PQ (wf w a b) := fun a b => by
    cases a <;> cases b
    · exact pq00 w
    · exact pq01 w
    · exact pq10 w
    · exact pq11 w
  have e := h (w.params.followText "comprehension-iter-twice") (w.params.followText "special-get-raises")
  unfold wf at e
  rw [World.withFollow_self, World.withFollow_self] at e
  exact e
noncomputable abbrev TheRun (p : Program) (w : World) : Prop := ∀ os, (runT (stepT (denote treeTable) p w) (stepOk 11 (some (.ref 6))) through N0 (s0 w os) (topStub p)).map (looks openSeen p (importedModules p.main.body) w) = some (true, openGood (vw p) loose, val p w)
theorem run_r (w : World) : TheRun PySem.Challenge.pw_jf0016_01 w := by
  have h := pq w
  unfold PQ at h
  rw [← te10156331382660048174, ← te11892475500146522536, ← te14364793385576792824, ← te6613529449190102663, ← te4187177175401517315] at h
  exact h

theorem left_of {p q : Program} {lo : List Str} {Xt : Shared → Bool} {α : Type} {Yf : Shared → α} {Ya : World → α} {N : Nat} {g0 : Bool} {H₀ : Params → Heap} {gs₀ : Array GenState} {d₀ : Drawn} {k₀ : Nat} {m₀ : Nat} {ann : Option Value}
    (open_ : ∀ w : World, (fencedOpening treeTable p w N).map (fun s => (s.heap, s.gens, s.drawn, s.toks)) = some (H₀ w.params, gs₀, d₀, k₀))
    (size : ∀ w : World, ((H₀ w.params).isNs mainGlobals && gs₀.size == 0, (H₀ w.params).objs.size, (H₀ w.params).nsMap mainGlobals "__annotations__") = (true, m₀, ann))
    (run : ∀ (w : World) (os : OsState), ∃ s₁, topRun treeTable p w m₀ ann N ⟨H₀ w.params, gs₀, d₀, k₀, os⟩ (topStub p) = some s₁ ∧
      (staticsOk (importedModules p.main.body) (H₀ w.params) s₁.heap && namesBound p s₁.heap && gensDone s₁ && laidKept (H₀ w.params) s₁.heap) = true ∧
      openSeen q lo (importedModules p.main.body) Xt g0 s₁ = openGood q lo ∧ Yf s₁ = Ya w) : LeftO p q lo Xt Yf Ya N g0 := fun w => by
  obtain ⟨⟨h, gs, d, k, os⟩, e, e'⟩ := Option.map_eq_some_iff.mp (open_ w)
  obtain ⟨rfl, rfl, rfl, rfl⟩ : h = H₀ w.params ∧ gs = gs₀ ∧ d = d₀ ∧ k = k₀ := by simpa using e'
  obtain ⟨z1, z2, z3⟩ : _ ∧ _ ∧ _ := by simpa only [Prod.mk.injEq] using size w
  obtain ⟨s₁, r, l1, l2, l3⟩ := run w os
  have t : topFrom treeTable p w N ⟨H₀ w.params, gs, d, k, os⟩ = some s₁ := by
    unfold topFrom
    dsimp only
    rw [z1, z2, z3, r]
    show (match staticsOk (importedModules p.main.body) (H₀ w.params) s₁.heap && namesBound p s₁.heap && gensDone s₁ && laidKept (H₀ w.params) s₁.heap with | true => _ | false => _) = _
    rw [l1]
  unfold openEnds
  rw [e]
  show (topFrom treeTable p w N _).map _ = _
  rw [t]
  exact congrArg some (Prod.ext l2 l3)

theorem s0_abs (w : World) (os : OsState) : (s0 w os).abs = ⟨boot_heap w.params, Array.mk [], boot_drawn, boot_toks, os⟩ := by kernel_rfl
theorem opens : ∀ w : World, (fencedOpening treeTable PySem.Challenge.pw_jf0016_01 w N0).map (fun s => (s.heap, s.gens, s.drawn, s.toks)) = some (boot_heap w.params, Array.mk [], boot_drawn, boot_toks) :=
  boot_open (by kernel_rfl) (by decide +kernel) (fun s => by kernel_rfl)
theorem sizes : ∀ w : World, ((boot_heap w.params).isNs mainGlobals && (Array.mk [] : Array GenState).size == 0, (boot_heap w.params).objs.size, (boot_heap w.params).nsMap mainGlobals "__annotations__") = (true, 11, some (.ref 6)) := by intro w; kernel_rfl

theorem left : LeftO PySem.Challenge.pw_jf0016_01 (vw PySem.Challenge.pw_jf0016_01) loose XT obs (val PySem.Challenge.pw_jf0016_01) N0 := by
  refine left_of opens sizes fun w os => ?_
  obtain ⟨s₁, r, e⟩ := Option.map_eq_some_iff.mp (run_r w os)
  have q := runT_spec r
  rw [s0_abs] at q
  obtain ⟨e1, e2, e3⟩ : _ ∧ _ ∧ _ := by simpa only [looks, Prod.mk.injEq] using e
  exact ⟨_, q, e1, e2, e3⟩
end Mine

/-! # TopC -/
namespace Mine
open PySem PySem.W PyProof.Rows
set_option Elab.async false
set_option maxRecDepth 100000
set_option linter.unusedVariables false
/-- what stands of the top at a heap of the call -/
structure Wd (w : World) (h : Heap) : Prop where
  K : (KF PySem.Challenge.pw_jf0016_01 w.params).In h
  T : ∃ mg mb, TopRead (vw PySem.Challenge.pw_jf0016_01) (looseW (vw PySem.Challenge.pw_jf0016_01) loose) mg mb h
theorem Wd.keeps {w : World} {h h' : Heap} (W : Wd w h) (k : ∀ b o, h.get? b = some o → h'.get? b = some o) : Wd w h' :=
  ⟨W.K.keeps k, let ⟨mg, mb, t⟩ := W.T; ⟨mg, mb, t.keeps k⟩⟩
end Mine

/-! # L1 -/
namespace Mine
open PySem PySem.W PyProof.Rows
set_option Elab.async false
set_option maxRecDepth 100000
set_option linter.unusedVariables false

noncomputable abbrev pw : Program := PySem.Challenge.pw_jf0016_01
noncomputable abbrev MM (w : World) : Model := model pw w
noncomputable abbrev Bs := List UInt8

/-! ## Values as data -/
inductive PV where
  | none | bool (b : Bool) | int (i : Int) | str (s : Str) | bytes (b : Bs) | tup (l : List PV) | lst (l : List PV) | nm (l : List Bs) | val (v : Value) | own (a : Addr) | rng (a b c : Int) | slc (lo hi : Option Int)

mutual
inductive Rep (g : Heap) : Value → PV → Prop where
  | none : Rep g .none .none
  | bool (b : Bool) : Rep g (.bool b) (.bool b)
  | int (i : Int) (t : Tok) : Rep g (.int i t) (.int i)
  | str (x : Str) (t : Tok) : Rep g (.str x t) (.str x)
  | bytes (b : Array UInt8) (t : Tok) : Rep g (.bytes b t) (.bytes b.toList)
  | tup {a : Addr} {o : Obj} {vs : Array Value} {n : Nat} {l : List PV} : g.get? a = some o → o.cls = .type "tuple" → o.data = .seq vs n → Reps g vs.toList l → Rep g (.ref a) (.tup l)
  | lst {a : Addr} {o : Obj} {vs : Array Value} {n : Nat} {l : List PV} : g.get? a = some o → o.cls = .type "list" → o.data = .seq vs n → Reps g vs.toList l → Rep g (.ref a) (.lst l)
  | nm {x dx t : Addr} {n nt : Nat} {hs : Int} {tk : Tok} {ot : Obj} {vs : Array Value} {l : List Bs} : g.get? x = some (instObj 387 dx) → g.get? dx = some (dictOf [⟨hs, .str (S "labels") tk, .ref t⟩] n) →
      g.get? t = some ot → ot.cls = .type "tuple" → ot.data = .seq vs nt → Reps g vs.toList (l.map .bytes) → Rep g (.ref x) (.nm l)
  | val (v : Value) : Rep g v (.val v)
  | own (a : Addr) : Rep g (.ref a) (.own a)
  | rng {r : Addr} {a b c : Int} {t u v : Tok} : IsRange g r a b c t u v → Rep g (.ref r) (.rng a b c)
  | slc {r : Addr} {l u : Value} {lo hi : Option Int} : g.IsSliceOf r l u .none → IsPart l lo → IsPart u hi → Rep g (.ref r) (.slc lo hi)
inductive Reps (g : Heap) : List Value → List PV → Prop where
  | nil : Reps g [] []
  | cons {v : Value} {p : PV} {vs : List Value} {ps : List PV} : Rep g v p → Reps g vs ps → Reps g (v :: vs) (p :: ps)
end
noncomputable abbrev Sub (g h : Heap) : Prop := ∀ b o, g.get? b = some o → h.get? b = some o
theorem Sub.refl (g : Heap) : Sub g g := fun _ _ e => e
theorem Sub.trans {a b c : Heap} (x : Sub a b) (y : Sub b c) : Sub a c := fun b o e => y _ _ (x _ _ e)
theorem Rep.keeps {g g' : Heap} (k : Sub g g') {v : Value} {p : PV} (r : Rep g v p) : Rep g' v p :=
  Rep.rec (g := g) (motive_1 := fun v p _ => Rep g' v p) (motive_2 := fun vs ps _ => Reps g' vs ps) .none .bool .int .str .bytes (fun a b c _ r => .tup (k _ _ a) b c r) (fun a b c _ r => .lst (k _ _ a) b c r) (fun a b c d e _ r => .nm (k _ _ a) (k _ _ b) (k _ _ c) d e r)
    .val .own (fun e => .rng (k _ _ e)) (fun e a b => .slc (match e with | ⟨o, e, r⟩ => ⟨o, k _ _ e, r⟩) a b) .nil (fun _ _ a b => .cons a b) r
theorem Reps.keeps {g g' : Heap} (k : Sub g g') {vs : List Value} {ps : List PV} (r : Reps g vs ps) : Reps g' vs ps :=
  Reps.rec (g := g) (motive_1 := fun v p _ => Rep g' v p) (motive_2 := fun vs ps _ => Reps g' vs ps) .none .bool .int .str .bytes (fun a b c _ r => .tup (k _ _ a) b c r) (fun a b c _ r => .lst (k _ _ a) b c r) (fun a b c d e _ r => .nm (k _ _ a) (k _ _ b) (k _ _ c) d e r)
    .val .own (fun e => .rng (k _ _ e)) (fun e a b => .slc (match e with | ⟨o, e, r⟩ => ⟨o, k _ _ e, r⟩) a b) .nil (fun _ _ a b => .cons a b) r
section
variable {g : Heap} {v : Value} {vs : List Value}
noncomputable def RepI (g : Heap) (v : Value) : PV → Prop
  | .none => v = .none
  | .bool b => v = .bool b
  | .int i => ∃ t, v = .int i t
  | .str x => ∃ t, v = .str x t
  | .bytes l => ∃ b t, v = .bytes b t ∧ l = b.toList
  | .tup l => ∃ (a : Addr) (o : Obj) (vs : Array Value) (n : Nat), v = .ref a ∧ g.get? a = some o ∧ o.cls = .type "tuple" ∧ o.data = .seq vs n ∧ Reps g vs.toList l
  | .lst l => ∃ (a : Addr) (o : Obj) (vs : Array Value) (n : Nat), v = .ref a ∧ g.get? a = some o ∧ o.cls = .type "list" ∧ o.data = .seq vs n ∧ Reps g vs.toList l
  | .nm _ => True
  | .val u => v = u
  | .own a => v = .ref a
  | .rng a b c => ∃ (x : Addr) (t u w : Tok), v = .ref x ∧ IsRange g x a b c t u w
  | .slc lo hi => ∃ (a : Addr) (l u : Value), v = .ref a ∧ g.IsSliceOf a l u .none ∧ IsPart l lo ∧ IsPart u hi
theorem Rep.inv {p : PV} (r : Rep g v p) : RepI g v p := by
  cases r with
  | none | bool | val | own => rfl
  | int | str => exact ⟨_, rfl⟩
  | bytes => exact ⟨_, _, rfl, rfl⟩
  | tup a b c d => exact ⟨_, _, _, _, rfl, a, b, c, d⟩
  | lst a b c d => exact ⟨_, _, _, _, rfl, a, b, c, d⟩
  | nm => trivial
  | rng e => exact ⟨_, _, _, _, rfl, e⟩
  | slc a b c => exact ⟨_, _, _, rfl, a, b, c⟩
noncomputable def RepsI (g : Heap) (vs : List Value) : List PV → Prop
  | [] => vs = []
  | p :: ps => ∃ v ws, vs = v :: ws ∧ Rep g v p ∧ Reps g ws ps
theorem Reps.inv {ps : List PV} (r : Reps g vs ps) : RepsI g vs ps := by
  cases r with
  | nil => rfl
  | cons a b => exact ⟨_, _, rfl, a, b⟩
theorem Rep.none_inv (r : Rep g v .none) : v = .none := r.inv
theorem Rep.bool_inv {b : Bool} (r : Rep g v (.bool b)) : v = .bool b := r.inv
theorem Rep.int_inv {i : Int} (r : Rep g v (.int i)) : ∃ t, v = .int i t := r.inv
theorem Rep.str_inv {x : Str} (r : Rep g v (.str x)) : ∃ t, v = .str x t := r.inv
theorem Rep.bytes_inv {l : Bs} (r : Rep g v (.bytes l)) : ∃ b t, v = .bytes b t ∧ l = b.toList := r.inv
theorem Rep.tup_inv {l : List PV} (r : Rep g v (.tup l)) : ∃ (a : Addr) (o : Obj) (vs : Array Value) (n : Nat), v = .ref a ∧ g.get? a = some o ∧ o.cls = .type "tuple" ∧ o.data = .seq vs n ∧ Reps g vs.toList l := r.inv
theorem Rep.lst_inv {l : List PV} (r : Rep g v (.lst l)) : ∃ (a : Addr) (o : Obj) (vs : Array Value) (n : Nat), v = .ref a ∧ g.get? a = some o ∧ o.cls = .type "list" ∧ o.data = .seq vs n ∧ Reps g vs.toList l := r.inv
theorem Rep.val_inv {u : Value} (r : Rep g v (.val u)) : v = u := r.inv
theorem Rep.own_inv {a : Addr} (r : Rep g v (.own a)) : v = .ref a := r.inv
theorem Rep.slc_inv {lo hi : Option Int} (r : Rep g v (.slc lo hi)) : ∃ (a : Addr) (l u : Value), v = .ref a ∧ g.IsSliceOf a l u .none ∧ IsPart l lo ∧ IsPart u hi := r.inv
theorem Rep.rng_inv {a b c : Int} (r : Rep g v (.rng a b c)) : ∃ (x : Addr) (t u w : Tok), v = .ref x ∧ IsRange g x a b c t u w := r.inv
theorem Reps.nil_inv (r : Reps g vs []) : vs = [] := r.inv
theorem Reps.cons_inv {p : PV} {ps : List PV} (r : Reps g vs (p :: ps)) : ∃ v ws, vs = v :: ws ∧ Rep g v p ∧ Reps g ws ps := r.inv
theorem Reps.one_inv {p : PV} (r : Reps g vs [p]) : ∃ v, vs = [v] ∧ Rep g v p := by
  obtain ⟨_, _, rfl, a, b⟩ := r.cons_inv
  obtain rfl := b.nil_inv
  exact ⟨_, rfl, a⟩
theorem Reps.two_inv {p q : PV} (r : Reps g vs [p, q]) : ∃ v u, vs = [v, u] ∧ Rep g v p ∧ Rep g u q := by
  obtain ⟨_, _, rfl, a, b⟩ := r.cons_inv
  obtain ⟨_, rfl, c⟩ := b.one_inv
  exact ⟨_, _, rfl, a, c⟩
theorem Reps.three_inv {p q x : PV} (r : Reps g vs [p, q, x]) : ∃ v u y, vs = [v, u, y] ∧ Rep g v p ∧ Rep g u q ∧ Rep g y x := by
  obtain ⟨_, _, rfl, a, b⟩ := r.cons_inv
  obtain ⟨_, _, rfl, c, d⟩ := b.two_inv
  exact ⟨_, _, _, rfl, a, c, d⟩
end
theorem Reps.length {g : Heap} : ∀ {vs : List Value} {ps : List PV}, Reps g vs ps → vs.length = ps.length
  | _, [], r => by rw [r.nil_inv]; rfl
  | _, _ :: _, r => by
    obtain ⟨_, _, rfl, _, b⟩ := r.cons_inv
    rw [List.length_cons, List.length_cons, b.length]
theorem Reps.get {g : Heap} : ∀ {vs : List Value} {ps : List PV} {i : Nat} {p : PV}, Reps g vs ps → ps[i]? = some p → ∃ v, vs[i]? = some v ∧ Rep g v p
  | _, [], i, p, r, e => by rw [List.getElem?_nil] at e; cases e
  | _, q :: ps, i, p, r, e => by
    obtain ⟨v, ws, rfl, a, b⟩ := r.cons_inv
    cases i with
    | zero => exact ⟨v, rfl, Option.some.inj (show some q = some p from e) ▸ a⟩
    | succ i => exact b.get (i := i) (by rw [List.getElem?_cons_succ] at e; exact e)
theorem Reps.append {g : Heap} : ∀ {vs ws : List Value} {ps qs : List PV}, Reps g vs ps → Reps g ws qs → Reps g (vs ++ ws) (ps ++ qs)
  | _, _, [], _, r, y => by rw [r.nil_inv]; exact y
  | _, _, _ :: _, _, r, y => by
    obtain ⟨_, _, rfl, a, b⟩ := r.cons_inv
    exact .cons a (b.append y)
theorem Reps.drop {g : Heap} : ∀ {vs : List Value} {ps : List PV} (n : Nat), Reps g vs ps → Reps g (vs.drop n) (ps.drop n)
  | _, [], n, r => by rw [r.nil_inv, List.drop_nil, List.drop_nil]; exact .nil
  | _, _ :: _, 0, r => r
  | _, _ :: _, n + 1, r => by
    obtain ⟨_, _, rfl, _, b⟩ := r.cons_inv
    exact b.drop n
theorem Reps.take {g : Heap} : ∀ {vs : List Value} {ps : List PV} (n : Nat), Reps g vs ps → Reps g (vs.take n) (ps.take n)
  | _, [], n, r => by rw [r.nil_inv, List.take_nil, List.take_nil]; exact .nil
  | _, _ :: _, 0, _ => .nil
  | _, _ :: _, n + 1, r => by
    obtain ⟨_, _, rfl, a, b⟩ := r.cons_inv
    exact .cons a (b.take n)
theorem Reps.reverse {g : Heap} : ∀ {vs : List Value} {ps : List PV}, Reps g vs ps → Reps g vs.reverse ps.reverse
  | _, [], r => by rw [r.nil_inv]; exact .nil
  | _, _ :: _, r => by
    obtain ⟨_, _, rfl, a, b⟩ := r.cons_inv
    rw [List.reverse_cons, List.reverse_cons]; exact b.reverse.append (.cons a .nil)

/-! ## The heap in parts: frozen (g), the frames' dicts, cells that are owned -/
inductive MV where
  | lst (l : List PV) | ba (b : Bs) | cell0 | inst (dx : Addr) | dict0 | dict1 (p : PV)
noncomputable def CellRep (g : Heap) : MV → Obj → Prop
  | .lst l, o => ∃ vs n, o = { cls := .type "list", data := .seq vs n } ∧ Reps g vs.toList l
  | .ba b, o => o.cls = .type "bytearray" ∧ ∃ x, o.data = .bytearray x 0 ∧ x.toList = b
  | .cell0, o => o.data = .cell Option.none
  | .inst dx, o => o = instObj 387 dx
  | .dict0, o => o = emptyDict
  | .dict1 p, o => ∃ hs tk v n, o = dictOf [⟨hs, .str (S "labels") tk, v⟩] n ∧ Rep g v p
theorem CellRep.keeps {g g' : Heap} (k : Sub g g') : ∀ {m : MV} {o : Obj}, CellRep g m o → CellRep g' m o
  | .lst _, _, ⟨vs, n, b, r⟩ => ⟨vs, n, b, r.keeps k⟩
  | .ba _, _, h => h
  | .cell0, _, h => h
  | .inst _, _, h => h
  | .dict0, _, h => h
  | .dict1 _, _, ⟨a, b, v, n, e, r⟩ => ⟨a, b, v, n, e, r.keeps k⟩
noncomputable abbrev Kap := List (Addr × MV)
noncomputable abbrev Rho := Str → Option PV
inductive Cells (g : Heap) : Kap → List (Addr × Obj) → Prop where
  | nil : Cells g [] []
  | cons {a : Addr} {m : MV} {o : Obj} {κ : Kap} {cs : List (Addr × Obj)} : CellRep g m o → Cells g κ cs → Cells g ((a, m) :: κ) ((a, o) :: cs)
theorem Cells.nil_inv {g : Heap} {cs : List (Addr × Obj)} (C : Cells g [] cs) : cs = [] := by cases C; rfl
theorem Cells.cons_inv {g : Heap} {a : Addr} {m : MV} {κ : Kap} {cs : List (Addr × Obj)} (C : Cells g ((a, m) :: κ) cs) : ∃ o cs', cs = (a, o) :: cs' ∧ CellRep g m o ∧ Cells g κ cs' := by cases C with | cons r c => exact ⟨_, _, rfl, r, c⟩
theorem Cells.keeps {g g' : Heap} (k : Sub g g') {κ : Kap} {cs : List (Addr × Obj)} (C : Cells g κ cs) : Cells g' κ cs := by
  induction C with
  | nil => exact .nil
  | cons a _ ih => exact .cons (a.keeps k) ih
noncomputable def frs (fs : List Env) : List Addr := fs.filterMap (·.frame)
structure Lv (w : World) (fs : List Env) (g : Heap) (R : List (Addr × Obj)) (h : Heap) : Prop where
  W : Wd w g
  keep : Sub g h
  fr : h.FunFrames g fs
  nf : (frs fs).Nodup
  cell : ∀ c ∈ R, h.get? c.1 = some c.2 ∧ g.get? c.1 = none ∧ c.1 ∉ frs fs
  nd : (R.map (·.1)).Nodup

/-- the frames that are not L stand, up to their slots -/
noncomputable def FrKeep (fs : List Env) (L : Option Addr) (h h' : Heap) : Prop := ∀ a ∈ frs fs, L ≠ some a → ∀ o, h.get? a = some o → ∃ sl, h'.get? a = some { o with slots := sl }
theorem FrKeep.refl (fs : List Env) (L : Option Addr) (h : Heap) : FrKeep fs L h h := fun _ _ _ o e => ⟨o.slots, e⟩
theorem FrKeep.trans {fs : List Env} {L : Option Addr} {a b c : Heap} (x : FrKeep fs L a b) (y : FrKeep fs L b c) : FrKeep fs L a c := fun q hq hL o e =>
  let ⟨_, e1⟩ := x q hq hL o e; let ⟨sl, e2⟩ := y q hq hL _ e1; ⟨sl, e2⟩
theorem FrKeep.of_sub {fs : List Env} {L : Option Addr} {h h' : Heap} (k : Sub h h') : FrKeep fs L h h' := fun _ _ _ o e => ⟨o.slots, k _ _ e⟩

noncomputable def VarAt (E : Env) (m : Str → Option Value) (g : Heap) (x : Str) (p : PV) : Prop :=
  (E.kindOf x = some .local → ∃ v, m x = some v ∧ Rep g v p) ∧
  (E.kindOf x = some .cell ∨ E.kindOf x = some .free → ∃ c o v, E.cells.lookup x = some c ∧ g.get? c = some o ∧ o.data = .cell (some v) ∧ Rep g v p)
theorem VarAt.keeps {E : Env} {m : Str → Option Value} {g g' : Heap} {x : Str} {p : PV} (k : Sub g g') (v : VarAt E m g x p) : VarAt E m g' x p :=
  ⟨fun e => let ⟨a, b, c⟩ := v.1 e; ⟨a, b, c.keeps k⟩, fun e => let ⟨a, b, c, d, q, f, r⟩ := v.2 e; ⟨a, b, c, d, k _ _ q, f, r.keeps k⟩⟩

structure SatC (w : World) (fs : List Env) (E : Env) (g : Heap) (R : List (Addr × Obj)) (ρ : Rho) (κ : Kap) (m : Str → Option Value) (cs : List (Addr × Obj)) (h : Heap) : Prop where
  lv : Lv w fs g (cs ++ R) h
  ns : h.Ns E.locals m
  gl : g.get? E.locals = none
  cl : ∀ c ∈ cs ++ R, c.1 ≠ E.locals
  vars : ∀ x p, ρ x = some p → VarAt E m g x p
  cells : Cells g κ cs
noncomputable def Sat (w : World) (fs : List Env) (E : Env) (g : Heap) (R : List (Addr × Obj)) (ρ : Rho) (κ : Kap) (h : Heap) : Prop := ∃ m cs, SatC w fs E g R ρ κ m cs h

/-- the addresses that may change -/
noncomputable def dyn (fs : List Env) (L : Addr) (R : List (Addr × Obj)) : List Addr := frs fs ++ L :: R.map (·.1)

theorem funFrames_mem {h g : Heap} {fs : List Env} (x : h.FunFrames g fs) {a : Addr} (m : a ∈ frs fs) : g.get? a = none ∧ ∃ o, h.get? a = some o ∧ ∀ vs, o.data ≠ .fields vs := x.mem m
theorem funFrames_next {g g' h h' : Heap} : ∀ {fs : List Env}, h.FunFrames g fs → (∀ a ∈ frs fs, g'.get? a = none) → (∀ a ∈ frs fs, ∃ o, h'.get? a = some o ∧ ∀ vs, o.data ≠ .fields vs) → h'.FunFrames g' fs
  | [], _, _, _ => trivial
  | env :: r, ⟨hk, ⟨L, o, hf, hn, ho, hd⟩, hr⟩, a, b => by
    have hm : L ∈ frs (env :: r) := List.mem_filterMap.mpr ⟨env, .head _, hf⟩
    obtain ⟨o', e1, e2⟩ := b L hm
    have sub : ∀ q ∈ frs r, q ∈ frs (env :: r) := fun q hq => by
      obtain ⟨e, he, hef⟩ := List.mem_filterMap.mp hq
      exact List.mem_filterMap.mpr ⟨e, .tail _ he, hef⟩
    exact ⟨hk, ⟨L, o', hf, a L hm, e1, e2⟩, funFrames_next hr (fun q hq => a q (sub q hq)) fun q hq => b q (sub q hq)⟩

section
variable {w : World} {fs : List Env} {E : Env} {g h h' : Heap} {R : List (Addr × Obj)} {ρ : Rho} {κ : Kap} {m : Str → Option Value} {cs : List (Addr × Obj)}
theorem SatC.notDyn (S : SatC w fs E g R ρ κ m cs h) {b : Addr} {o : Obj} (e : g.get? b = some o) : b ∉ dyn fs E.locals (cs ++ R) := fun hm => by
  unfold dyn at hm
  rcases List.mem_append.mp hm with q | q
  · rw [(funFrames_mem S.lv.fr q).1] at e; cases e
  · rcases List.mem_cons.mp q with q | q
    · rw [q, S.gl] at e; cases e
    · obtain ⟨c, hc, rfl⟩ := List.mem_map.mp q
      rw [(S.lv.cell c hc).2.1] at e; cases e
theorem SatC.dynLt (S : SatC w fs E g R ρ κ m cs h) {b : Addr} (hb : b ∈ dyn fs E.locals (cs ++ R)) : b < h.objs.size := by
  unfold dyn at hb
  rcases List.mem_append.mp hb with q | q
  · obtain ⟨o, e, _⟩ := (funFrames_mem S.lv.fr q).2; exact Heap.lt_size e
  · rcases List.mem_cons.mp q with q | q
    · rw [q]; exact S.ns.lt
    · obtain ⟨c, hc, rfl⟩ := List.mem_map.mp q
      exact Heap.lt_size (S.lv.cell c hc).1

/-- the canonical frozen part of a later heap -/
theorem SatC.next (S : SatC w fs E g R ρ κ m cs h) (k : Sub g h') (hc : ∀ c ∈ cs ++ R, h'.get? c.1 = some c.2) (hn : h'.Ns E.locals m) (hf : ∀ a ∈ frs fs, ∃ o, h'.get? a = some o ∧ ∀ vs, o.data ≠ .fields vs) :
    SatC w fs E (hideAll h' (dyn fs E.locals (cs ++ R))) R ρ κ m cs h' ∧ Sub g (hideAll h' (dyn fs E.locals (cs ++ R))) := by
  have sub : Sub g (hideAll h' (dyn fs E.locals (cs ++ R))) := fun b o e => hideAll_get _ (k b o e) (S.notDyn e)
  have nn : ∀ a ∈ dyn fs E.locals (cs ++ R), (hideAll h' (dyn fs E.locals (cs ++ R))).get? a = none := fun a ha => hideAll_none _ ha
  refine ⟨⟨⟨S.lv.W.keeps sub, fun b o e => of_hideAll _ e, funFrames_next S.lv.fr (fun a ha => nn a (List.mem_append_left _ ha)) hf, S.lv.nf, fun c q => ⟨hc c q, nn _ (List.mem_append_right _ (.tail _ (List.mem_map_of_mem q))), (S.lv.cell c q).2.2⟩, S.lv.nd⟩,
    hn, nn _ (List.mem_append_right _ (.head _)), S.cl, fun x p e => (S.vars x p e).keeps sub, S.cells.keeps sub⟩, sub⟩
theorem SatC.grow (S : SatC w fs E g R ρ κ m cs h) (k : Sub h h') :
    SatC w fs E (hideAll h' (dyn fs E.locals (cs ++ R))) R ρ κ m cs h' ∧ Sub g (hideAll h' (dyn fs E.locals (cs ++ R))) :=
  S.next (S.lv.keep.trans k) (fun c hc => k _ _ (S.lv.cell c hc).1) (S.ns.keeps k) fun a ha => let ⟨o, e, q⟩ := (funFrames_mem S.lv.fr ha).2; ⟨o, k _ _ e, q⟩
theorem SatC.push (S : SatC w fs E g R ρ κ m cs h) {o : Obj} (ho : o.isFreed = false) : ∃ g', SatC w fs E g' R ρ κ m cs (h.push o) ∧ Sub g g' ∧ g'.get? h.objs.size = some o := by
  have q := S.grow (h' := h.push o) fun b o' e => Heap.get?_push_of_some _ e
  refine ⟨_, q.1, q.2, hideAll_get _ (Heap.get?_push_size _ ho) fun hm => ?_⟩
  exact absurd (S.dynLt hm) (Nat.lt_irrefl _)
end
end Mine

/-! # L2 -/
namespace Mine
open PySem PySem.W PyProof.Rows PySem.Calls
set_option Elab.async false
set_option maxRecDepth 100000
set_option linter.unusedVariables false

/-! ## Judgements: from every state of the data's shape the tree ends in a state of the data's shape -/
structure Jx where
  w : World
  scope : Scope
  n : Nat
  md : Bool
noncomputable def Bud (A : Around) (n : Nat) : Prop := A.depth + 4 * n < 900 ∧ A.units + 16 * n < 9000
structure Good (c : Jx) (A : Around) (fs : List Env) (E : Env) : Prop where
  sc : E.scope = c.scope
  kd : E.scope.kind = .function
  gl : E.globals = mainGlobals
  bl : E.builtins = builtinsNs
  fr : A.frames = some fs
  hd : A.handled = none
  bud : Bud A c.n
  top : c.md = true → ∃ fs', fs = E :: fs' ∧ E.frame = some E.locals
structure Stp (fs : List Env) (L : Option Addr) (s s' : Shared) : Prop where
  fr : FrKeep fs L s.heap s'.heap
  gens : s'.gens = s.gens
  os : s'.os = s.os
theorem Stp.trans {fs : List Env} {L : Option Addr} {a b c : Shared} (x : Stp fs L a b) (y : Stp fs L b c) : Stp fs L a c := ⟨x.fr.trans y.fr, y.gens.trans x.gens, y.os.trans x.os⟩
theorem Stp.refl (fs : List Env) (L : Option Addr) (s : Shared) : Stp fs L s s := ⟨FrKeep.refl fs L s.heap, rfl, rfl⟩
theorem Stp.heap {fs : List Env} {L : Option Addr} {s : Shared} {h' : Heap} {tk : Nat} (k : FrKeep fs L s.heap h') : Stp fs L s { s with heap := h', toks := tk } := ⟨k, rfl, rfl⟩
theorem Stp.toks {fs : List Env} {L : Option Addr} {s : Shared} {tk : Nat} : Stp fs L s { s with toks := tk } := ⟨FrKeep.refl fs L s.heap, rfl, rfl⟩

noncomputable def Post {α β : Type} (c : Jx) (fs : List Env) (E : Env) (g : Heap) (R : List (Addr × Obj)) (s : Shared) (Rp : Heap → α → β → Prop) (Q : β → Rho → Kap → Prop) : α → Shared → Prop := fun a s' =>
  ∃ g' ρ' κ' b, Sub g g' ∧ Sat c.w fs E g' R ρ' κ' s'.heap ∧ Stp fs (some E.locals) s s' ∧ Rp g' a b ∧ Q b ρ' κ'
noncomputable abbrev XP := Addr → Rho → Kap → Prop
noncomputable def noX : XP := fun _ _ _ => False
noncomputable def Exc (c : Jx) (fs : List Env) (E : Env) (g : Heap) (R : List (Addr × Obj)) (s : Shared) (X : XP) : Value → Shared → Prop := fun e s' =>
  ∃ g' ρ' κ' m cs C ea, e = .ref ea ∧ Sub g g' ∧ Stp fs (some E.locals) s s' ∧ X C ρ' κ' ∧
    ((∃ B a0, SatC c.w fs E g' R ρ' κ' m cs s'.heap ∧ Heap.FlyingW B fs ea (.ref C) a0 s'.heap ∧ Sub g' B ∧ ∀ q ∈ cs ++ R, B.get? q.1 = some q.2) ∨
     (c.md = true ∧ ∃ h₁ args, SatC c.w fs E g' R ρ' κ' m cs h₁ ∧ Heap.MadeExcOf h₁ s'.heap ea (.ref C) args))

section
variable {α β γ δ : Type} {c : Jx} {A : Around} {fs : List Env} {E : Env} {g g1 : Heap} {R : List (Addr × Obj)} {s s1 : Shared} {ρ ρ1 : Rho} {κ κ1 : Kap} {X : XP}
theorem Post.up {Rp : Heap → α → β → Prop} {Q : β → Rho → Kap → Prop} {a : α} {s' : Shared} (k : Sub g g1) (st : Stp fs (some E.locals) s s1) (p : Post c fs E g1 R s1 Rp Q a s') : Post c fs E g R s Rp Q a s' :=
  Exists.imp (fun _ => Exists.imp fun _ => Exists.imp fun _ => Exists.imp fun _ q => ⟨k.trans q.1, q.2.1, st.trans q.2.2.1, q.2.2.2⟩) p
theorem Exc.up {e : Value} {s' : Shared} (k : Sub g g1) (st : Stp fs (some E.locals) s s1) (p : Exc c fs E g1 R s1 X e s') : Exc c fs E g R s X e s' :=
  Exists.imp (fun _ => Exists.imp fun _ => Exists.imp fun _ => Exists.imp fun _ => Exists.imp fun _ => Exists.imp fun _ => Exists.imp fun _ q => ⟨q.1, k.trans q.2.1, st.trans q.2.2.1, q.2.2.2⟩) p
theorem Exc.no {e : Value} {s' : Shared} (p : Exc c fs E g R s noX e s') : False :=
  p.elim fun _ p => p.elim fun _ p => p.elim fun _ p => p.elim fun _ p => p.elim fun _ p => p.elim fun _ p => p.elim fun _ q => q.2.2.2.1
theorem Exc.mono {X' : XP} {e : Value} {s' : Shared} (hX : ∀ C ρ κ, X C ρ κ → X' C ρ κ) (p : Exc c fs E g R s X e s') : Exc c fs E g R s X' e s' :=
  Exists.imp (fun _ => Exists.imp fun _ => Exists.imp fun _ => Exists.imp fun _ => Exists.imp fun _ => Exists.imp fun _ => Exists.imp fun _ q => ⟨q.1, q.2.1, q.2.2.1, hX _ _ _ q.2.2.2.1, q.2.2.2.2⟩) p
theorem Post.mono {Rp : Heap → α → β → Prop} {Q Q' : β → Rho → Kap → Prop} {a : α} {s' : Shared} (hQ : ∀ b ρ κ, Q b ρ κ → Q' b ρ κ) (p : Post c fs E g R s Rp Q a s') : Post c fs E g R s Rp Q' a s' :=
  Exists.imp (fun _ => Exists.imp fun _ => Exists.imp fun _ => Exists.imp fun _ q => ⟨q.1, q.2.1, q.2.2.1, q.2.2.2.1, hQ _ _ _ q.2.2.2.2⟩) p

/-- on: from an inner state back to the outer one -/
theorem lift {t : Sem α} {Rp : Heap → α → β → Prop} {Q : β → Rho → Kap → Prop} {g0 : Heap} {s0 : Shared} (k : Sub g0 g) (st : Stp fs (some E.locals) s0 s)
    (h : wpAny (MM c.w) A t (Post c fs E g R s Rp Q) (Exc c fs E g R s X) s) : wpAny (MM c.w) A t (Post c fs E g0 R s0 Rp Q) (Exc c fs E g0 R s0 X) s :=
  wpAny_mono h (fun _ _ q => q.up k st) fun _ _ q => q.up k st
theorem chain {t : Sem α} {K : α → Shared → Prop} {Rp : Heap → α → β → Prop} {Q : β → Rho → Kap → Prop} {g0 : Heap} {s0 : Shared} (k : Sub g0 g) (st : Stp fs (some E.locals) s0 s) (hg : s.gens = #[])
    (h : wpAny (MM c.w) A t (Post c fs E g R s Rp Q) (Exc c fs E g R s X) s)
    (next : ∀ a s1 g1 ρ1 κ1 b, Sub g g1 → Sub g0 g1 → Stp fs (some E.locals) s0 s1 → Sat c.w fs E g1 R ρ1 κ1 s1.heap → s1.gens = #[] → Rp g1 a b → Q b ρ1 κ1 → K a s1) :
    wpAny (MM c.w) A t K (Exc c fs E g0 R s0 X) s :=
  wpAny_mono h (fun a s1 p => by
    obtain ⟨g1, ρ1, κ1, b, x1, x2, x3, x4, x5⟩ := p
    exact next a s1 g1 ρ1 κ1 b x1 (k.trans x1) (st.trans x3) x2 (x3.gens.trans hg) x4 x5) fun _ _ q => q.up k st
noncomputable abbrev chain0 {t : Sem α} {K : α → Shared → Prop} {Rp : Heap → α → β → Prop} {Q : β → Rho → Kap → Prop} (hg : s.gens = #[])
    (h : wpAny (MM c.w) A t (Post c fs E g R s Rp Q) (Exc c fs E g R s X) s)
    (next : ∀ a s1 g1 ρ1 κ1 b, Sub g g1 → Sub g g1 → Stp fs (some E.locals) s s1 → Sat c.w fs E g1 R ρ1 κ1 s1.heap → s1.gens = #[] → Rp g1 a b → Q b ρ1 κ1 → K a s1) :
    wpAny (MM c.w) A t K (Exc c fs E g R s X) s := chain (.refl _) (.refl ..) hg h next

theorem post {Rp : Heap → α → β → Prop} {Q : β → Rho → Kap → Prop} {a : α} {b : β} {tk : Nat} (S : Sat c.w fs E g R ρ κ s.heap) (r : Rp g a b) (q : Q b ρ κ) : Post c fs E g R s Rp Q a { s with toks := tk } :=
  ⟨g, ρ, κ, b, .refl _, S, .toks, r, q⟩
theorem post0 {Rp : Heap → α → β → Prop} {Q : β → Rho → Kap → Prop} {a : α} {b : β} (S : Sat c.w fs E g R ρ κ s.heap) (r : Rp g a b) (q : Q b ρ κ) : Post c fs E g R s Rp Q a s :=
  ⟨g, ρ, κ, b, .refl _, S, .refl .., r, q⟩
end

/-- expressions -/
noncomputable def E1 (c : Jx) (e : Expr) (ρ : Rho) (κ : Kap) (Q : PV → Rho → Kap → Prop) (X : XP) : Prop := ∀ A fs E g R s, Good c A fs E → Sat c.w fs E g R ρ κ s.heap → s.gens = #[] →
  wpAny (MM c.w) A (eval e E) (Post c fs E g R s Rep Q) (Exc c fs E g R s X) s
noncomputable def EL (c : Jx) (pos : Pos) (es : List Expr) (ρ : Rho) (κ : Kap) (Q : List PV → Rho → Kap → Prop) (X : XP) : Prop := ∀ A fs E g R s, Good c A fs E → Sat c.w fs E g R ρ κ s.heap → s.gens = #[] →
  wpAny (MM c.w) A (spliced (backTo pos (starEach es E))) (Post c fs E g R s Reps Q) (Exc c fs E g R s X) s
/-- a test -/
noncomputable def B1 (c : Jx) (e : Expr) (ρ : Rho) (κ : Kap) (Q : Bool → Rho → Kap → Prop) (X : XP) : Prop := ∀ A fs E g R s, Good c A fs E → Sat c.w fs E g R ρ κ s.heap → s.gens = #[] →
  wpAny (MM c.w) A (isTrue e E (eval e E)) (Post c fs E g R s (fun _ a b => a = b) Q) (Exc c fs E g R s X) s
/-- an operation on values in hand -/
noncomputable def VL (c : Jx) (f : List Value → Sem Value) (ps : List PV) (ρ : Rho) (κ : Kap) (Q : PV → Rho → Kap → Prop) (X : XP) : Prop := ∀ A fs E g R s vs, Good c A fs E → Sat c.w fs E g R ρ κ s.heap → s.gens = #[] → Reps g vs ps →
  wpAny (MM c.w) A (f vs) (Post c fs E g R s Rep Q) (Exc c fs E g R s X) s
noncomputable def V1 (c : Jx) (f : Value → Sem Value) (p : PV) (ρ : Rho) (κ : Kap) (Q : PV → Rho → Kap → Prop) (X : XP) : Prop := ∀ A fs E g R s v, Good c A fs E → Sat c.w fs E g R ρ κ s.heap → s.gens = #[] → Rep g v p →
  wpAny (MM c.w) A (f v) (Post c fs E g R s Rep Q) (Exc c fs E g R s X) s
noncomputable def V2 (c : Jx) (f : Value → Value → Sem Value) (p q : PV) (ρ : Rho) (κ : Kap) (Q : PV → Rho → Kap → Prop) (X : XP) : Prop := ∀ A fs E g R s v u, Good c A fs E → Sat c.w fs E g R ρ κ s.heap → s.gens = #[] → Rep g v p → Rep g u q →
  wpAny (MM c.w) A (f v u) (Post c fs E g R s Rep Q) (Exc c fs E g R s X) s
/-- the truth of a value in hand -/
noncomputable def T1 (c : Jx) (p : PV) (ρ : Rho) (κ : Kap) (Q : Bool → Rho → Kap → Prop) (X : XP) : Prop := ∀ A fs E g R s v, Good c A fs E → Sat c.w fs E g R ρ κ s.heap → s.gens = #[] → Rep g v p →
  wpAny (MM c.w) A (truthy v) (Post c fs E g R s (fun _ a b => a = b) Q) (Exc c fs E g R s X) s
inductive PF where
  | next | brk | cont | ret (p : PV)
noncomputable def RF (g : Heap) : Flow → PF → Prop
  | .next, .next => True | .brk, .brk => True | .cont, .cont => True | .ret v, .ret p => Rep g v p | _, _ => False
@[elab_as_elim] theorem rf_cases {g : Heap} {f : Flow} {b : PF} {C : Flow → PF → Prop} (r : RF g f b) (h1 : C .next .next) (h2 : C .brk .brk) (h3 : C .cont .cont) (h4 : ∀ v p, Rep g v p → C (.ret v) (.ret p)) : C f b := by
  cases f <;> cases b <;> first | exact r.elim | exact h1 | exact h2 | exact h3 | exact h4 _ _ r
/-- statements -/
noncomputable def C1 (c : Jx) (st : Stmt) (ρ : Rho) (κ : Kap) (Q : PF → Rho → Kap → Prop) (X : XP) : Prop := ∀ A fs E g R s, Good c A fs E → Sat c.w fs E g R ρ κ s.heap → s.gens = #[] →
  wpAny (MM c.w) A (exec st E) (Post c fs E g R s RF Q) (Exc c fs E g R s X) s
noncomputable def CS (c : Jx) (sts : List Stmt) (ρ : Rho) (κ : Kap) (Q : PF → Rho → Kap → Prop) (X : XP) : Prop := ∀ A fs E g R s, Good c A fs E → Sat c.w fs E g R ρ κ s.heap → s.gens = #[] →
  wpAny (MM c.w) A (execs sts E) (Post c fs E g R s RF Q) (Exc c fs E g R s X) s

section
variable {c : Jx} {ρ : Rho} {κ : Kap} {X X' : XP}
theorem E1.mono {e : Expr} {Q Q' : PV → Rho → Kap → Prop} (h : E1 c e ρ κ Q X) (hQ : ∀ p ρ κ, Q p ρ κ → Q' p ρ κ) (hX : ∀ C ρ κ, X C ρ κ → X' C ρ κ) : E1 c e ρ κ Q' X' := fun A fs E g R s G S hg =>
  wpAny_mono (h A fs E g R s G S hg) (fun _ _ p => p.mono hQ) fun _ _ p => p.mono hX
theorem CS.mono {e : List Stmt} {Q Q' : PF → Rho → Kap → Prop} (h : CS c e ρ κ Q X) (hQ : ∀ p ρ κ, Q p ρ κ → Q' p ρ κ) (hX : ∀ C ρ κ, X C ρ κ → X' C ρ κ) : CS c e ρ κ Q' X' := fun A fs E g R s G S hg =>
  wpAny_mono (h A fs E g R s G S hg) (fun _ _ p => p.mono hQ) fun _ _ p => p.mono hX
theorem noX_any {X : XP} : ∀ C ρ κ, noX C ρ κ → X C ρ κ := fun _ _ _ h => h.elim

/-! ### expressions -/
theorem e_local {x : Str} {pos : Pos} {p : PV} {Q : PV → Rho → Kap → Prop} (hk : c.scope.names.lookup x = some .local) (hd : (x == ("__debug__" : Str)) = false) (hρ : ρ x = some p) (h : Q p ρ κ) :
    E1 c (.Name x pos) ρ κ Q X := fun A fs E g R s G S hg => by
  obtain ⟨m, cs, S⟩ := S
  have hk' : E.kindOf x = some .local := by unfold Env.kindOf; rw [G.sc, hk]
  obtain ⟨v, hv, r⟩ := (S.vars x p hρ).1 hk'
  exact wpAny_Name (wpAny_loadName_local G.kd hk' S.ns hv (post0 ⟨m, cs, S⟩ r h)) hd
theorem e_cell {x : Str} {pos : Pos} {p : PV} {Q : PV → Rho → Kap → Prop} (hk : c.scope.names.lookup x = some .cell) (hd : (x == ("__debug__" : Str)) = false) (hρ : ρ x = some p) (h : Q p ρ κ) :
    E1 c (.Name x pos) ρ κ Q X := fun A fs E g R s G S hg => by
  obtain ⟨m, cs, S⟩ := S
  have hk' : E.kindOf x = some .cell := by unfold Env.kindOf; rw [G.sc, hk]
  obtain ⟨a, o, v, h1, h2, h3, r⟩ := (S.vars x p hρ).2 (.inl hk')
  exact wpAny_Name (wpAny_loadName_cell G.kd hk' h1 ⟨o, S.lv.keep _ _ h2, h3⟩ (post0 ⟨m, cs, S⟩ r h)) hd
theorem e_global {x : Str} {pos : Pos} {v : Value} {p : PV} {Q : PV → Rho → Kap → Prop} (hk : c.scope.names.lookup x = some .globalImplicit) (hd : (x == ("__debug__" : Str)) = false)
    (e : nsIn (KF pw c.w.params) mainGlobals x = some (some v)) (r : ∀ g, Wd c.w g → Rep g v p) (h : Q p ρ κ) : E1 c (.Name x pos) ρ κ Q X := fun A fs E g R s G S hg => by
  have S' := S
  obtain ⟨m, cs, S⟩ := S
  have hk' : E.kindOf x = some .globalImplicit := by unfold Env.kindOf; rw [G.sc, hk]
  obtain ⟨mg, mb, T⟩ := S.lv.W.T
  exact Name_function_global G.kd hk' (loadGlobal_global (G.gl ▸ T.g.keeps S.lv.keep) (mg_of S.lv.W.K T.g e) (post0 S' (r g S.lv.W) h)) hd
theorem e_builtin {x : Str} {pos : Pos} {v : Value} {Q : PV → Rho → Kap → Prop} (hk : c.scope.names.lookup x = some .globalImplicit) (hd : (x == ("__debug__" : Str)) = false)
    (e : nsIn (KF pw c.w.params) mainGlobals x = some none) (hv : bootBuiltins x = some v) (hn : x ≠ "__name__") (h : Q (.val v) ρ κ) : E1 c (.Name x pos) ρ κ Q X := fun A fs E g R s G S hg => by
  have S' := S
  obtain ⟨m, cs, S⟩ := S
  have hk' : E.kindOf x = some .globalImplicit := by unfold Env.kindOf; rw [G.sc, hk]
  obtain ⟨mg, mb, T⟩ := S.lv.W.T
  exact Name_function_global G.kd hk' (loadGlobal_builtin (G.gl ▸ T.g.keeps S.lv.keep) (mg_none_of S.lv.W.K T.g e) (G.bl ▸ T.b.keeps S.lv.keep) ((T.builtins x hn).trans hv) (post0 S' (.val v) h)) hd
theorem e_int {i : Int} {k : Nat} {pos : Pos} {Q : PV → Rho → Kap → Prop} (h : Q (.int i) ρ κ) : E1 c (.Constant (.int i) k pos) ρ κ Q X := fun A fs E g R s G S hg =>
  wpAny_Constant_int (post S (.int i _) h)
theorem e_bool {b : Bool} {k : Nat} {pos : Pos} {Q : PV → Rho → Kap → Prop} (h : Q (.bool b) ρ κ) : E1 c (.Constant (.bool b) k pos) ρ κ Q X := fun A fs E g R s G S hg => by
  show wpAny _ _ (pure (Value.bool b)) _ _ _
  exact wpAny_pure (post0 S (.bool b) h)
theorem e_str {x : Str} {k : Nat} {pos : Pos} {Q : PV → Rho → Kap → Prop} (h : Q (.str x) ρ κ) : E1 c (.Constant (.str x) k pos) ρ κ Q X := fun A fs E g R s G S hg => by
  show wpAny _ _ (mkText x) _ _ _
  exact wpAny_mkText (post S (.str x _) h)
theorem e_bytes {b : List UInt8} {k : Nat} {pos : Pos} {Q : PV → Rho → Kap → Prop} (h : Q (.bytes b) ρ κ) : E1 c (.Constant (.bytes b) k pos) ρ κ Q X := fun A fs E g R s G S hg => by
  show wpAny _ _ (mkTextBytes b.toArray) _ _ _
  exact fun _ _ _ => post S (by have := Rep.bytes (g := g) b.toArray s.toks; exact this) h

theorem e_BinOp {l r : Expr} {op : Operator} {pos : Pos} {Q : PV → Rho → Kap → Prop} (h : E1 c l ρ κ (fun a ρ1 κ1 => E1 c r ρ1 κ1 (fun b ρ2 κ2 => V2 c (binaryOp op) a b ρ2 κ2 Q X) X) X) : E1 c (.BinOp l op r pos) ρ κ Q X :=
  fun A fs E g R s G S hg => wpAny_BinOp (chain0 hg (h A fs E g R s G S hg) fun a s1 g1 ρ1 κ1 b _ k1 st1 S1 hg1 r1 q1 => chain k1 st1 hg1 (q1 A fs E g1 R s1 G S1 hg1) fun a' s2 g2 ρ2 κ2 b' k12 k2 st2 S2 hg2 r2 q2 => lift k2 st2 (q2 A fs E g2 R s2 a a' G S2 hg2 (r1.keeps k12) r2))
theorem e_Compare {l r : Expr} {op : CmpOp} {pos : Pos} {Q : PV → Rho → Kap → Prop} (hm : behindInMarks op r = false) (h : E1 c l ρ κ (fun a ρ1 κ1 => E1 c r ρ1 κ1 (fun b ρ2 κ2 => V2 c (compareOp op) a b ρ2 κ2 Q X) X) X) : E1 c (.Compare l [op] [r] pos) ρ κ Q X :=
  fun A fs E g R s G S hg => wpAny_Compare1 (chain0 hg (h A fs E g R s G S hg) fun a s1 g1 ρ1 κ1 b _ k1 st1 S1 hg1 r1 q1 => chain k1 st1 hg1 (q1 A fs E g1 R s1 G S1 hg1) fun a' s2 g2 ρ2 κ2 b' k12 k2 st2 S2 hg2 r2 q2 => lift k2 st2 (q2 A fs E g2 R s2 a a' G S2 hg2 (r1.keeps k12) r2)) hm
theorem e_UnaryOp {x : Expr} {op : UnaryOp} {pos : Pos} {Q : PV → Rho → Kap → Prop} (h : E1 c x ρ κ (fun a ρ1 κ1 => V1 c (unaryOp op) a ρ1 κ1 Q X) X) : E1 c (.UnaryOp op x pos) ρ κ Q X :=
  fun A fs E g R s G S hg => wpAny_UnaryOp (chain0 hg (h A fs E g R s G S hg) fun a s1 g1 ρ1 κ1 b _ k1 st1 S1 hg1 r1 q1 => lift k1 st1 (q1 A fs E g1 R s1 a G S1 hg1 r1))
theorem e_IfExp {t b o : Expr} {pos : Pos} {Q : PV → Rho → Kap → Prop} (h : B1 c t ρ κ (fun x ρ1 κ1 => if x = true then E1 c b ρ1 κ1 Q X else E1 c o ρ1 κ1 Q X) X) : E1 c (.IfExp t b o pos) ρ κ Q X :=
  fun A fs E g R s G S hg => wpAny_IfExp (wpAny_mono (h A fs E g R s G S hg) (fun x s1 p => by
    obtain ⟨g1, ρ1, κ1, y, x1, x2, x3, rfl, x5⟩ := p
    cases x <;> exact wpAny_mono (x5 A fs E g1 R s1 G x2 (x3.gens.trans hg)) (fun _ _ q => q.up x1 x3) fun _ _ q => q.up x1 x3) fun _ _ e => e)
theorem e_And {x y : Expr} {pos : Pos} {Q : PV → Rho → Kap → Prop} (h : E1 c x ρ κ (fun a ρ1 κ1 => T1 c a ρ1 κ1 (fun b ρ2 κ2 => if b = true then E1 c y ρ2 κ2 Q X else Q a ρ2 κ2) X) X) : E1 c (.BoolOp .And [x, y] pos) ρ κ Q X :=
  fun A fs E g R s G S hg => wpAny_And2 (chain0 hg (h A fs E g R s G S hg) fun a s1 g1 ρ1 κ1 b _ k1 st1 S1 hg1 r1 q1 => chain k1 st1 hg1 (q1 A fs E g1 R s1 a G S1 hg1 r1) fun t s2 g2 ρ2 κ2 y k12 k2 st2 S2 hg2 e x5 => by
    subst e
    cases t
    · exact ⟨g2, ρ2, κ2, b, k2, S2, st2, r1.keeps k12, x5⟩
    · exact lift k2 st2 (x5 A fs E g2 R s2 G S2 hg2))
theorem e_Or {x y : Expr} {pos : Pos} {Q : PV → Rho → Kap → Prop} (h : E1 c x ρ κ (fun a ρ1 κ1 => T1 c a ρ1 κ1 (fun b ρ2 κ2 => if b = true then Q a ρ2 κ2 else E1 c y ρ2 κ2 Q X) X) X) : E1 c (.BoolOp .Or [x, y] pos) ρ κ Q X :=
  fun A fs E g R s G S hg => wpAny_Or2 (chain0 hg (h A fs E g R s G S hg) fun a s1 g1 ρ1 κ1 b _ k1 st1 S1 hg1 r1 q1 => chain k1 st1 hg1 (q1 A fs E g1 R s1 a G S1 hg1 r1) fun t s2 g2 ρ2 κ2 y k12 k2 st2 S2 hg2 e x5 => by
    subst e
    cases t
    · exact lift k2 st2 (x5 A fs E g2 R s2 G S2 hg2)
    · exact ⟨g2, ρ2, κ2, b, k2, S2, st2, r1.keeps k12, x5⟩)
theorem e_Subscript {v i : Expr} {pos : Pos} {Q : PV → Rho → Kap → Prop} (h : E1 c v ρ κ (fun a ρ1 κ1 => E1 c i ρ1 κ1 (fun b ρ2 κ2 => V2 c (subscriptTail v i) a b ρ2 κ2 Q X) X) X) : E1 c (.Subscript v i pos) ρ κ Q X :=
  fun A fs E g R s G S hg => Subscript_ (chain0 hg (h A fs E g R s G S hg) fun a s1 g1 ρ1 κ1 b _ k1 st1 S1 hg1 r1 q1 => chain k1 st1 hg1 (q1 A fs E g1 R s1 G S1 hg1) fun a' s2 g2 ρ2 κ2 b' k12 k2 st2 S2 hg2 r2 q2 => lift k2 st2 (q2 A fs E g2 R s2 a a' G S2 hg2 (r1.keeps k12) r2))

theorem el_nil {pos : Pos} {Q : List PV → Rho → Kap → Prop} (h : Q [] ρ κ) : EL c pos [] ρ κ Q X := fun A fs E g R s G S hg => wpAny_items_nil (post0 S .nil h)
theorem el_cons {pos : Pos} {e : Expr} {es : List Expr} {Q : List PV → Rho → Kap → Prop} (he : ∀ E, starEach (e :: es) E = (false, eval e E) :: starEach es E)
    (h : E1 c e ρ κ (fun p ρ1 κ1 => EL c pos es ρ1 κ1 (fun ps ρ2 κ2 => Q (p :: ps) ρ2 κ2) X) X) : EL c pos (e :: es) ρ κ Q X := fun A fs E g R s G S hg =>
  wpAny_items_cons (wpAny_mono (h A fs E g R s G S hg) (fun v s1 p => by
    obtain ⟨g1, ρ1, κ1, b, x1, x2, x3, x4, x5⟩ := p
    refine wpAny_mono (x5 A fs E g1 R s1 G x2 (x3.gens.trans hg)) (fun vs s2 q => ?_) fun _ _ q => q.up x1 x3
    obtain ⟨g2, ρ2, κ2, bs, y1, y2, y3, y4, y5⟩ := q
    exact ⟨g2, ρ2, κ2, _, x1.trans y1, y2, x3.trans y3, .cons (x4.keeps y1) y4, y5⟩) fun _ _ e => e) (he E)

/-! ### tests -/
theorem b_plain {e : Expr} {Q : Bool → Rho → Kap → Prop} (he : ∀ E whole, isTrue e E whole = (do let v ← whole; standAt e.pos; holding [v] (truthy v))) (h : E1 c e ρ κ (fun a ρ1 κ1 => T1 c a ρ1 κ1 Q X) X) : B1 c e ρ κ Q X :=
  fun A fs E g R s G S hg => isTrue_plain (chain0 hg (h A fs E g R s G S hg) fun a s1 g1 ρ1 κ1 b _ k1 st1 S1 hg1 r1 q1 => lift k1 st1 (q1 A fs E g1 R s1 a G S1 hg1 r1)) (he E _)
theorem b_Compare {l r : Expr} {op : CmpOp} {pos : Pos} {Q : Bool → Rho → Kap → Prop} (hm : behindInMarks op r = false) (h : E1 c l ρ κ (fun a ρ1 κ1 => E1 c r ρ1 κ1 (fun b ρ2 κ2 => V2 c (compareOp op) a b ρ2 κ2 (fun p ρ3 κ3 => T1 c p ρ3 κ3 Q X) X) X) X) : B1 c (.Compare l [op] [r] pos) ρ κ Q X :=
  fun A fs E g R s G S hg => wpAny_isTrue_Compare1 (chain0 hg (h A fs E g R s G S hg) fun a s1 g1 ρ1 κ1 b _ k1 st1 S1 hg1 r1 q1 => chain k1 st1 hg1 (q1 A fs E g1 R s1 G S1 hg1) fun a' s2 g2 ρ2 κ2 b' k12 k2 st2 S2 hg2 r2 q2 =>
    chain k2 st2 hg2 (q2 A fs E g2 R s2 a a' G S2 hg2 (r1.keeps k12) r2) fun a3 s3 g3 ρ3 κ3 b3 _ k3 st3 S3 hg3 r3 q3 => lift k3 st3 (q3 A fs E g3 R s3 a3 G S3 hg3 r3)) hm
theorem b_Not {x : Expr} {pos : Pos} {Q : Bool → Rho → Kap → Prop} (h : B1 c x ρ κ (fun b ρ1 κ1 => Q (!b) ρ1 κ1) X) : B1 c (.UnaryOp .Not x pos) ρ κ Q X :=
  fun A fs E g R s G S hg => wpAny_isTrue_Not (wpAny_mono (h A fs E g R s G S hg) (fun b s1 p => by
    obtain ⟨g1, ρ1, κ1, y, x1, x2, x3, rfl, x5⟩ := p; exact ⟨g1, ρ1, κ1, _, x1, x2, x3, rfl, x5⟩) fun _ _ e => e)
theorem b_nilAnd {Q : Bool → Rho → Kap → Prop} (h : Q true ρ κ) : ∀ A fs E g R s, Good c A fs E → Sat c.w fs E g R ρ κ s.heap → s.gens = #[] → wpAny (MM c.w) A (allTrue .And [] E) (Post c fs E g R s (fun _ a b => a = b) Q) (Exc c fs E g R s X) s :=
  fun A fs E g R s G S hg => by rw [arm_allTrue_nil]; exact wpAny_pure (post0 S rfl h)
noncomputable def AT (c : Jx) (op : BoolOp) (es : List Expr) (ρ : Rho) (κ : Kap) (Q : Bool → Rho → Kap → Prop) (X : XP) : Prop := ∀ A fs E g R s, Good c A fs E → Sat c.w fs E g R ρ κ s.heap → s.gens = #[] →
  wpAny (MM c.w) A (allTrue op es E) (Post c fs E g R s (fun _ a b => a = b) Q) (Exc c fs E g R s X) s
theorem at_nil {op : BoolOp} {Q : Bool → Rho → Kap → Prop} (h : Q (op == .And) ρ κ) : AT c op [] ρ κ Q X := fun A fs E g R s G S hg => by rw [arm_allTrue_nil]; exact wpAny_pure (post0 S rfl h)
theorem at_And {e : Expr} {es : List Expr} {Q : Bool → Rho → Kap → Prop} (h : B1 c e ρ κ (fun b ρ1 κ1 => if b = true then AT c .And es ρ1 κ1 Q X else Q false ρ1 κ1) X) : AT c .And (e :: es) ρ κ Q X := fun A fs E g R s G S hg => by
  rw [arm_allTrue_cons]
  refine wpAny_bind (wpAny_mono (h A fs E g R s G S hg) (fun b s1 p => ?_) fun _ _ e => e)
  obtain ⟨g1, ρ1, κ1, y, x1, x2, x3, rfl, x5⟩ := p
  cases b
  · exact wpAny_pure ⟨g1, ρ1, κ1, _, x1, x2, x3, rfl, x5⟩
  · exact wpAny_mono (x5 A fs E g1 R s1 G x2 (x3.gens.trans hg)) (fun _ _ q => q.up x1 x3) fun _ _ q => q.up x1 x3
theorem at_Or {e : Expr} {es : List Expr} {Q : Bool → Rho → Kap → Prop} (h : B1 c e ρ κ (fun b ρ1 κ1 => if b = true then Q true ρ1 κ1 else AT c .Or es ρ1 κ1 Q X) X) : AT c .Or (e :: es) ρ κ Q X := fun A fs E g R s G S hg => by
  rw [arm_allTrue_cons]
  refine wpAny_bind (wpAny_mono (h A fs E g R s G S hg) (fun b s1 p => ?_) fun _ _ e => e)
  obtain ⟨g1, ρ1, κ1, y, x1, x2, x3, rfl, x5⟩ := p
  cases b
  · exact wpAny_mono (x5 A fs E g1 R s1 G x2 (x3.gens.trans hg)) (fun _ _ q => q.up x1 x3) fun _ _ q => q.up x1 x3
  · exact wpAny_pure ⟨g1, ρ1, κ1, _, x1, x2, x3, rfl, x5⟩
theorem b_BoolOp {op : BoolOp} {es : List Expr} {pos : Pos} {Q : Bool → Rho → Kap → Prop} (h : AT c op es ρ κ Q X) : B1 c (.BoolOp op es pos) ρ κ Q X := fun A fs E g R s G S hg => by rw [arm_isTrue_BoolOp]; exact h A fs E g R s G S hg
theorem t_bool {b : Bool} {Q : Bool → Rho → Kap → Prop} (h : Q b ρ κ) : T1 c (.bool b) ρ κ Q X := fun A fs E g R s v G S hg r => by (first | obtain ⟨_, rfl⟩ := r.int_inv | obtain rfl := r.nil_inv | obtain ⟨_, _, rfl, rfl⟩ := r.bytes_inv | obtain rfl := r.bool_inv | obtain rfl := r.val_inv | obtain rfl := r.own_inv | obtain ⟨_, rfl⟩ := r.str_inv | cases r); exact wpAny_truthy_bool (post0 S rfl h)

/-! ### statements -/
theorem cs_nil {Q : PF → Rho → Kap → Prop} (h : Q .next ρ κ) : CS c [] ρ κ Q X := fun A fs E g R s G S hg => wpAny_execs_nil (post0 (b := .next) S trivial h)
/-- behind a statement: the rest, or out -/
noncomputable def seqQ (c : Jx) (rest : List Stmt) (Q : PF → Rho → Kap → Prop) (X : XP) : PF → Rho → Kap → Prop := fun f ρ κ => match f with | .next => CS c rest ρ κ Q X | f => Q f ρ κ
theorem seq_next {rest : List Stmt} {Q : PF → Rho → Kap → Prop} (h : CS c rest ρ κ Q X) : seqQ c rest Q X .next ρ κ := h
theorem seq_ret {rest : List Stmt} {p : PV} {Q : PF → Rho → Kap → Prop} (h : Q (.ret p) ρ κ) : seqQ c rest Q X (.ret p) ρ κ := h
theorem seq_cont {rest : List Stmt} {Q : PF → Rho → Kap → Prop} (h : Q .cont ρ κ) : seqQ c rest Q X .cont ρ κ := h
theorem cs_cons {st : Stmt} {rest : List Stmt} {Q : PF → Rho → Kap → Prop} (h : C1 c st ρ κ (seqQ c rest Q X) X) : CS c (st :: rest) ρ κ Q X :=
  fun A fs E g R s G S hg => wpAny_execs_cons (wpAny_mono (h A fs E g R s G S hg) (fun fl s1 p => by
    obtain ⟨g1, ρ1, κ1, y, x1, x2, x3, x4, x5⟩ := p
    revert x5
    exact rf_cases x4 (fun x5 => wpAny_mono (x5 A fs E g1 R s1 G x2 (x3.gens.trans hg)) (fun _ _ q => q.up x1 x3) (fun _ _ q => q.up x1 x3)) (fun x5 => ⟨g1, ρ1, κ1, .brk, x1, x2, x3, trivial, x5⟩) (fun x5 => ⟨g1, ρ1, κ1, .cont, x1, x2, x3, trivial, x5⟩) fun v q x4 x5 => ⟨g1, ρ1, κ1, .ret q, x1, x2, x3, x4, x5⟩) fun _ _ e => e)
theorem c_Pass {pos : Pos} {Q : PF → Rho → Kap → Prop} (h : Q .next ρ κ) : C1 c (.Pass pos) ρ κ Q X := fun A fs E g R s G S hg => wpAny_Pass (post0 (b := .next) S trivial h)
theorem c_Continue {pos : Pos} {Q : PF → Rho → Kap → Prop} (h : Q .cont ρ κ) : C1 c (.Continue pos) ρ κ Q X := fun A fs E g R s G S hg => wpAny_Continue (post0 (b := .cont) S trivial h)
theorem c_Return {e : Expr} {pos : Pos} {Q : PF → Rho → Kap → Prop} (h : E1 c e ρ κ (fun p ρ1 κ1 => Q (.ret p) ρ1 κ1) X) : C1 c (.Return (some e) pos) ρ κ Q X :=
  fun A fs E g R s G S hg => wpAny_Return_some (wpAny_mono (h A fs E g R s G S hg) (fun v s1 p => by
    obtain ⟨g1, ρ1, κ1, y, x1, x2, x3, x4, x5⟩ := p; exact ⟨g1, ρ1, κ1, .ret y, x1, x2, x3, x4, x5⟩) fun _ _ e => e)
theorem c_If {t : Expr} {b o : List Stmt} {pos : Pos} {Q : PF → Rho → Kap → Prop} (h : B1 c t ρ κ (fun x ρ1 κ1 => if x = true then CS c b ρ1 κ1 Q X else CS c o ρ1 κ1 Q X) X) : C1 c (.If t b o pos) ρ κ Q X :=
  fun A fs E g R s G S hg => wpAny_If (wpAny_mono (h A fs E g R s G S hg) (fun x s1 p => by
    obtain ⟨g1, ρ1, κ1, y, x1, x2, x3, rfl, x5⟩ := p
    cases x <;> exact wpAny_mono (x5 A fs E g1 R s1 G x2 (x3.gens.trans hg)) (fun _ _ q => q.up x1 x3) fun _ _ q => q.up x1 x3) fun _ _ e => e)

/-- a name's new value -/
noncomputable def upd (ρ : Rho) (x : Str) (p : PV) : Rho := fun y => if y = x then some p else ρ y
theorem upd_same (ρ : Rho) (x : Str) (p : PV) : upd ρ x p x = some p := if_pos rfl
theorem upd_ne {ρ : Rho} {x y : Str} {p : PV} {r : Option PV} (h : y ≠ x) (e : ρ y = r) : upd ρ x p y = r := (if_neg h).trans e

theorem sat_store {w : World} {fs : List Env} {E : Env} {g h h' : Heap} {R : List (Addr × Obj)} {m : Str → Option Value} {cs : List (Addr × Obj)} {x : Str} {v : Value} {p : PV} (S : SatC w fs E g R ρ κ m cs h)
    (hx : E.kindOf x = some .local) (r : Rep g v p) (hn : h'.Ns E.locals (fun y => if y = x then some v else m y)) (hs : Heap.SameBut E.locals h h') :
    Sat w fs E g R (upd ρ x p) κ h' := by
  refine ⟨_, cs, ⟨⟨S.lv.W, fun b o e => (hs.2 b fun q => ?_).trans (S.lv.keep b o e), funFrames_next S.lv.fr (fun a ha => (funFrames_mem S.lv.fr ha).1) fun a ha => ?_, S.lv.nf, fun q hq => ⟨(hs.2 _ (S.cl q hq)).trans (S.lv.cell q hq).1, (S.lv.cell q hq).2⟩, S.lv.nd⟩,
    hn, S.gl, S.cl, fun y q e => ?_, S.cells⟩⟩
  · rw [q, S.gl] at e; cases e
  · by_cases q : a = E.locals
    · obtain ⟨o, es, ep, ho, hd, _⟩ := hn
      exact ⟨o, q ▸ ho, fun vs z => by rw [hd] at z; cases z⟩
    · obtain ⟨o, e, z⟩ := (funFrames_mem S.lv.fr ha).2
      exact ⟨o, (hs.2 a q).trans e, z⟩
  · unfold upd at e
    by_cases z : y = x
    · subst z
      rw [if_pos rfl] at e; cases e
      exact ⟨fun _ => ⟨v, if_pos rfl, r⟩, fun k => by rcases k with k | k <;> (rw [hx] at k; cases k)⟩
    · rw [if_neg z] at e
      have o := S.vars y q e
      exact ⟨fun k => let ⟨u, a, b⟩ := o.1 k; ⟨u, (if_neg z).trans a, b⟩, o.2⟩
theorem frKeep_same {fs : List Env} {L : Addr} {h h' : Heap} (hs : Heap.SameBut L h h') : FrKeep fs (some L) h h' := fun a ha hL o e => ⟨o.slots, (hs.2 a fun q => hL (by rw [q])).trans e⟩
theorem store_local {A : Around} {fs : List Env} {E : Env} {g : Heap} {R : List (Addr × Obj)} {s : Shared} {x : Str} {v : Value} {p : PV} {Q : PF → Rho → Kap → Prop} {EE : Value → Shared → Prop} (G : Good c A fs E) (S : Sat c.w fs E g R ρ κ s.heap)
    (hk : c.scope.names.lookup x = some .local) (r : Rep g v p) (h : Q .next (upd ρ x p) κ) : wpAny (MM c.w) A (storeName E x v) (fun _ => Post c fs E g R s RF Q .next) EE s := by
  obtain ⟨m, cs, S⟩ := S
  have hx : E.kindOf x = some .local := by unfold Env.kindOf; rw [G.sc, hk]
  exact wpAny_storeName_local hx S.ns (fun h' hn hs => ⟨g, _, κ, .next, .refl _, sat_store S hx r hn hs, ⟨frKeep_same hs, rfl, rfl⟩, trivial, h⟩)
    (by show (E.scope.kind == .class || (E.scope.kind == .module && E.locals != E.globals)) = false; rw [G.kd]; rfl)
theorem c_Assign {x : Str} {p' pos : Pos} {e : Expr} {Q : PF → Rho → Kap → Prop} (hs : ∀ E, swapsWith e (some (.Name x p')) pos.line E = pure false) (hk : c.scope.names.lookup x = some .local)
    (h : E1 c e ρ κ (fun p ρ1 κ1 => Q .next (upd ρ1 x p) κ1) X) : C1 c (.Assign [.Name x p'] e pos) ρ κ Q X :=
  fun A fs E g R s G S hg => wpAny_Assign_Name (wpAny_mono (h A fs E g R s G S hg) (fun v s1 p => by
    obtain ⟨g1, ρ1, κ1, y, x1, x2, x3, x4, x5⟩ := p
    exact wpAny_mono (store_local G x2 hk x4 x5) (fun _ _ q => q.up x1 x3) fun _ _ q => q) fun _ _ e => e) (hs E)
theorem c_AugAssign {x : Str} {p' pos : Pos} {op : Operator} {e : Expr} {a : PV} {Q : PF → Rho → Kap → Prop} (hk : c.scope.names.lookup x = some .local) (hρ : ρ x = some a)
    (h : E1 c e ρ κ (fun b ρ1 κ1 => V2 c (inplaceOp op) a b ρ1 κ1 (fun p ρ2 κ2 => Q .next (upd ρ2 x p) κ2) X) X) : C1 c (.AugAssign (.Name x p') op e pos) ρ κ Q X :=
  fun A fs E g R s G S hg => by
  have S' := S
  obtain ⟨m, cs, S⟩ := S
  have hx : E.kindOf x = some .local := by unfold Env.kindOf; rw [G.sc, hk]
  obtain ⟨v, hv, r⟩ := (S.vars x a hρ).1 hx
  refine wpAny_AugAssign_Name (wpAny_loadName_local G.kd hx S.ns hv (chain0 hg (h A fs E g R s G S' hg) fun u s1 g1 ρ1 κ1 b k1 k1' st1 S1 hg1 r1 q1 => chain k1' st1 hg1 (q1 A fs E g1 R s1 v u G S1 hg1 (r.keeps k1) r1) fun z s2 g2 ρ2 κ2 y k12 k2 st2 S2 hg2 r2 q2 => ?_))
  exact wpAny_mono (store_local G S2 hk r2 q2) (fun _ _ q => q.up k2 st2) fun _ _ q => q
end
end Mine

/-! # L3 -/
namespace Mine
open PySem PySem.W PyProof.Rows PySem.Calls
set_option Elab.async false
set_option maxRecDepth 100000
set_option linter.unusedVariables false

/-! ## Iterators -/
noncomputable def IterOk (w : World) (g : Heap) (it : Addr) (K : Nat → Obj → Prop) (l : List PV) : Prop :=
  (∀ i p, l[i]? = some p → ∀ (A : Around) (Q : Option Value → Shared → Prop) (EE : Value → Shared → Prop) (s : Shared) (o : Obj), Sub g s.heap → s.heap.get? it = some o → K i o →
    (∀ h' tk v o', Rep g v p → Heap.SameBut it s.heap h' → h'.get? it = some o' → K (i + 1) o' → Q (some v) { s with heap := h', toks := tk }) → wpAny (MM w) A (pyNext (.ref it)) Q EE s) ∧
  (∀ (A : Around) (Q : Option Value → Shared → Prop) (EE : Value → Shared → Prop) (s : Shared) (o : Obj), Sub g s.heap → s.heap.get? it = some o → K l.length o → A.handled = none →
    (∀ h', Heap.ExtBut it s.heap h' → Q none { s with heap := h' }) → wpAny (MM w) A (pyNext (.ref it)) Q EE s)
/-- p can be walked: its items are l -/
noncomputable def IT (w : World) (p : PV) (l : List PV) : Prop := ∀ (A : Around) (EE : Value → Shared → Prop) (g : Heap) (s : Shared) (v : Value) (Q : Value → Shared → Prop), Sub g s.heap → Rep g v p →
  (∀ o K, IterOk w g s.heap.objs.size K l → K 0 o → o.isFreed = false → Q (.ref s.heap.objs.size) { s with heap := s.heap.push o }) → wpAny (MM w) A (pyIter v) Q EE s

theorem reps_at {g : Heap} {vs : Array Value} {l : List PV} {i : Nat} {p : PV} (r : Reps g vs.toList l) (e : l[i]? = some p) : ∃ v, vs[i]? = some v ∧ Rep g v p := by
  obtain ⟨v, h1, h2⟩ := r.get e
  exact ⟨v, by rw [← Array.getElem?_toList]; exact h1, h2⟩
theorem reps_end {g : Heap} {vs : Array Value} {l : List PV} (r : Reps g vs.toList l) : vs[l.length]? = none := by
  rw [← Array.getElem?_toList, ← r.length]; simp
theorem it_list (w : World) (l : List PV) : IT w (.lst l) l := fun A EE g s v Q k r h => by
  obtain ⟨a, o, vs, n, rfl, ho, hc, hd, hr⟩ := r.lst_inv
  refine wpAny_pyIter_list ⟨o, k _ _ ho, hc, n, hd⟩ (h _ (fun i o => o.cls = .type "list_iterator" ∧ o.data = .fields #[.ref a, .int i 0]) ⟨fun i p e A Q EE s' oi k' hi hK hq => ?_, fun A Q EE s' oi k' hi hK hh hq => ?_⟩ ⟨rfl, rfl⟩ rfl)
  · obtain ⟨u, hu, ru⟩ := reps_at hr e
    refine wpAny_pyNext_list_item ⟨oi, hi, hK.1, hK.2⟩ ⟨o, k' _ _ ho, hc, n, hd⟩ hu fun h' ⟨o', e1, e2, e3⟩ hs => hq h' s'.toks u o' ru hs e1 ⟨e2, e3⟩
  · exact wpAny_pyNext_list_end hh ⟨oi, hi, hK.1, hK.2⟩ ⟨o, k' _ _ ho, hc, n, hd⟩ (reps_end hr) hq
theorem it_tup (w : World) (l : List PV) : IT w (.tup l) l := fun A EE g s v Q k r h => by
  obtain ⟨a, o, vs, n, rfl, ho, hc, hd, hr⟩ := r.tup_inv
  refine wpAny_pyIter_tuple ⟨o, k _ _ ho, hc, n, hd⟩ (h _ (fun i o => o.cls = .type "tuple_iterator" ∧ o.data = .fields #[.ref a, .int i 0]) ⟨fun i p e A Q EE s' oi k' hi hK hq => ?_, fun A Q EE s' oi k' hi hK hh hq => ?_⟩ ⟨rfl, rfl⟩ rfl)
  · obtain ⟨u, hu, ru⟩ := reps_at hr e
    refine wpAny_pyNext_tuple_item ⟨oi, hi, hK.1, hK.2⟩ ⟨o, k' _ _ ho, hc, n, hd⟩ hu fun h' ⟨o', e1, e2, e3⟩ hs => hq h' s'.toks u o' ru hs e1 ⟨e2, e3⟩
  · exact wpAny_pyNext_tuple_end hh ⟨oi, hi, hK.1, hK.2⟩ ⟨o, k' _ _ ho, hc, n, hd⟩ (reps_end hr) hq
noncomputable def rngItems (a b c : Int) : List PV := (List.range (Builtin.Range.rangeSize a b c).toNat).map fun (i : Nat) => PV.int (a + i * c)
theorem it_rng (w : World) (a b c : Int) (hs : Builtin.Range.small a b c = true) : IT w (.rng a b c) (rngItems a b c) := fun A EE g s v Q k r h => by
  cases r with
  | @rng r _ _ _ t u v e =>
    refine wpAny_pyIter_range (k _ _ e) hs (h _ (fun i o => o = { cls := .type "range_iterator", dict := none, data := .fields #[rawInt (a + i * c), rawInt (Builtin.Range.rangeSize a b c - i), rawInt c], slots := #[] })
      ⟨fun i p e A Q EE s' oi k' hi hK hq => ?_, fun A Q EE s' oi k' hi hK hh hq => ?_⟩ (by simp) rfl)
    · unfold rngItems at e
      rw [List.getElem?_map] at e
      obtain ⟨j, hj, rfl⟩ := Option.map_eq_some_iff.mp e
      rw [List.getElem?_range] at hj
      · cases hj
        have hl : i < (Builtin.Range.rangeSize a b c).toNat := by
          have := List.getElem?_eq_some_iff.mp (Option.map_eq_some_iff.mp e).choose_spec.1
          simpa using this.1
        refine wpAny_pyNext_range_item (x := a + i * c) (left := Builtin.Range.rangeSize a b c - i) (step := c) (hi.trans (congrArg some hK)) (by omega) fun h' e1 hs' => hq h' _ _ _ (.int _ _) hs' e1 ?_
        have q1 : a + (i : Int) * c + c = a + ((i + 1 : Nat) : Int) * c := by rw [Int.natCast_add, Int.add_mul]; omega
        have q2 : Builtin.Range.rangeSize a b c - (i : Int) - 1 = Builtin.Range.rangeSize a b c - ((i + 1 : Nat) : Int) := by omega
        rw [q1, q2]
      · have := List.getElem?_eq_some_iff.mp hj; simpa using this.1
    · have hlen : (rngItems a b c).length = (Builtin.Range.rangeSize a b c).toNat := by simp [rngItems]
      rw [hlen] at hK
      exact wpAny_pyNext_range_end (x := a + (Builtin.Range.rangeSize a b c).toNat * c) (left := Builtin.Range.rangeSize a b c - (Builtin.Range.rangeSize a b c).toNat) (step := c) hh (hi.trans (congrArg some hK)) (by omega) hq

/-! ## Cells of the frame rule -/
section
variable {w : World} {fs : List Env} {E : Env} {g h h' : Heap} {R : List (Addr × Obj)} {ρ : Rho} {κ : Kap} {m : Str → Option Value} {cs : List (Addr × Obj)} {a : Addr} {o o' : Obj}
theorem SatC.pushR (S : SatC w fs E g R ρ κ m cs h) (ho : o.isFreed = false) : SatC w fs E g ((h.objs.size, o) :: R) ρ κ m cs (h.push o) := by
  have up : ∀ b x, h.get? b = some x → (h.push o).get? b = some x := fun b x e => Heap.get?_push_of_some _ e
  have lt : ∀ c ∈ cs ++ R, c.1 < h.objs.size := fun c hc => Heap.lt_size (S.lv.cell c hc).1
  have gn : g.get? h.objs.size = none := by
    cases q : g.get? h.objs.size with
    | none => rfl
    | some x => exact absurd (Heap.lt_size (S.lv.keep _ _ q)) (Nat.lt_irrefl _)
  have new : (h.push o).get? h.objs.size = some o ∧ g.get? h.objs.size = none ∧ h.objs.size ∉ frs fs := ⟨Heap.get?_push_size _ ho, gn, fun hm => by
    obtain ⟨x, e, _⟩ := (funFrames_mem S.lv.fr hm).2; exact absurd (Heap.lt_size e) (Nat.lt_irrefl _)⟩
  refine ⟨⟨S.lv.W, fun b x e => up _ _ (S.lv.keep b x e), funFrames_next S.lv.fr (fun b hb => (funFrames_mem S.lv.fr hb).1) fun b hb => let ⟨x, e, z⟩ := (funFrames_mem S.lv.fr hb).2; ⟨x, up _ _ e, z⟩, S.lv.nf, fun c hc => ?_, ?_⟩,
    S.ns.keeps up, S.gl, fun c hc => ?_, S.vars, S.cells⟩
  · rcases List.mem_append.mp hc with q | q
    · have := S.lv.cell c (List.mem_append_left _ q); exact ⟨up _ _ this.1, this.2⟩
    · rcases List.mem_cons.mp q with rfl | q
      · exact new
      · have := S.lv.cell c (List.mem_append_right _ q); exact ⟨up _ _ this.1, this.2⟩
  · have nd := S.lv.nd
    rw [List.map_append, List.nodup_append] at nd ⊢
    rw [List.map_cons]
    refine ⟨nd.1, List.nodup_cons.mpr ⟨fun hm => ?_, nd.2.1⟩, fun x hx y hy e => ?_⟩
    · obtain ⟨c, hc, e⟩ := List.mem_map.mp hm
      exact absurd (lt c (List.mem_append_right _ hc)) (e ▸ Nat.lt_irrefl _)
    · rcases List.mem_cons.mp hy with rfl | hy
      · obtain ⟨c, hc, e'⟩ := List.mem_map.mp hx
        exact absurd (lt c (List.mem_append_left _ hc)) (e' ▸ e ▸ Nat.lt_irrefl _)
      · exact nd.2.2 x hx y hy e
  · rcases List.mem_append.mp hc with q | q
    · exact S.cl c (List.mem_append_left _ q)
    · rcases List.mem_cons.mp q with rfl | q
      · exact Nat.ne_of_gt S.ns.lt
      · exact S.cl c (List.mem_append_right _ q)
theorem SatC.headR (S : SatC w fs E g ((a, o) :: R) ρ κ m cs h) : h.get? a = some o ∧ g.get? a = none ∧ a ∉ frs fs ∧ a ≠ E.locals ∧ ∀ c ∈ cs ++ R, c.1 ≠ a := by
  have hm : (a, o) ∈ cs ++ (a, o) :: R := List.mem_append_right _ (.head _)
  refine ⟨(S.lv.cell _ hm).1, (S.lv.cell _ hm).2.1, (S.lv.cell _ hm).2.2, S.cl _ hm, fun c hc e => ?_⟩
  have nd := S.lv.nd
  rw [List.map_append, List.nodup_append, List.map_cons] at nd
  rcases List.mem_append.mp hc with q | q
  · exact nd.2.2 c.1 (List.mem_map_of_mem q) a (.head _) e
  · exact (List.nodup_cons.mp nd.2.1).1 (List.mem_map.mpr ⟨c, q, e⟩)
theorem SatC.setR (S : SatC w fs E g ((a, o) :: R) ρ κ m cs h) (hs : Heap.SameBut a h h') (e : h'.get? a = some o') : SatC w fs E g ((a, o') :: R) ρ κ m cs h' := by
  obtain ⟨h1, h2, h3, h4, h5⟩ := S.headR
  refine ⟨⟨S.lv.W, fun b x q => (hs.2 b fun z => by rw [z, h2] at q; cases q).trans (S.lv.keep b x q), funFrames_next S.lv.fr (fun b hb => (funFrames_mem S.lv.fr hb).1) fun b hb => ?_, S.lv.nf, fun c hc => ?_, ?_⟩, S.ns.sameBut hs (Ne.symm h4), S.gl, fun c hc => ?_, S.vars, S.cells⟩
  · obtain ⟨x, q, z⟩ := (funFrames_mem S.lv.fr hb).2
    exact ⟨x, (hs.2 b fun y => h3 (y ▸ hb)).trans q, z⟩
  · rcases List.mem_append.mp hc with q | q
    · have := S.lv.cell c (List.mem_append_left _ q); exact ⟨(hs.2 _ (h5 c (List.mem_append_left _ q))).trans this.1, this.2⟩
    · rcases List.mem_cons.mp q with rfl | q
      · exact ⟨e, h2, h3⟩
      · have := S.lv.cell c (List.mem_append_right _ (.tail _ q)); exact ⟨(hs.2 _ (h5 c (List.mem_append_right _ q))).trans this.1, this.2⟩
  · have nd := S.lv.nd
    rw [List.map_append, List.map_cons] at nd ⊢; exact nd
  · rcases List.mem_append.mp hc with q | q
    · exact S.cl c (List.mem_append_left _ q)
    · rcases List.mem_cons.mp q with rfl | q
      · exact h4
      · exact S.cl c (List.mem_append_right _ (.tail _ q))
theorem SatC.dropR (S : SatC w fs E g ((a, o) :: R) ρ κ m cs h) : SatC w fs E g R ρ κ m cs h := by
  have sub : ∀ c ∈ cs ++ R, c ∈ cs ++ (a, o) :: R := fun c hc => by
    rcases List.mem_append.mp hc with q | q
    · exact List.mem_append_left _ q
    · exact List.mem_append_right _ (.tail _ q)
  refine ⟨⟨S.lv.W, S.lv.keep, S.lv.fr, S.lv.nf, fun c hc => S.lv.cell c (sub c hc), ?_⟩, S.ns, S.gl, fun c hc => S.cl c (sub c hc), S.vars, S.cells⟩
  have nd := S.lv.nd
  rw [List.map_append, List.map_cons] at nd
  rw [List.map_append]
  exact nd.sublist (List.Sublist.append (List.Sublist.refl _) (List.sublist_cons_self _ _))
/-- the cell has gone its own way -/
theorem SatC.leaveR (S : SatC w fs E g ((a, o) :: R) ρ κ m cs h) (hs : Heap.ExtBut a h h') : (∃ g', Sub g g' ∧ SatC w fs E g' R ρ κ m cs h') ∧ FrKeep fs (some E.locals) h h' := by
  obtain ⟨h1, h2, h3, h4, h5⟩ := S.headR
  have D := S.dropR
  have N := D.next (h' := h') (fun b x e => hs b x (fun z => by rw [z, h2] at e; cases e) (S.lv.keep b x e)) (fun c hc => hs _ _ (h5 c hc) (D.lv.cell c hc).1) (S.ns.extBut hs (Ne.symm h4))
    fun b hb => let ⟨x, e, z⟩ := (funFrames_mem S.lv.fr hb).2; ⟨x, hs _ _ (fun y => h3 (y ▸ hb)) e, z⟩
  exact ⟨⟨_, N.2, N.1⟩, fun b hb _ x e => ⟨x.slots, hs _ _ (fun y => h3 (y ▸ hb)) e⟩⟩
end

/-! ## for, while -/
section
variable {c : Jx} {ρ : Rho} {κ : Kap} {X X' : XP}
theorem frKeep_but {fs : List Env} {L : Option Addr} {a : Addr} {h h' : Heap} (hs : Heap.SameBut a h h') (hn : a ∉ frs fs) : FrKeep fs L h h' := fun b hb _ o e => ⟨o.slots, (hs.2 b fun q => hn (q ▸ hb)).trans e⟩

/-- a turn's end -/
noncomputable def turnQ (I : Rho → Kap → Prop) (Q : PF → Rho → Kap → Prop) : PF → Rho → Kap → Prop := fun f ρ κ => match f with | .next => I ρ κ | .cont => I ρ κ | .brk => Q .next ρ κ | .ret v => Q (.ret v) ρ κ
theorem turn_next {I : Rho → Kap → Prop} {Q : PF → Rho → Kap → Prop} (h : I ρ κ) : turnQ I Q .next ρ κ := h
theorem turn_cont {I : Rho → Kap → Prop} {Q : PF → Rho → Kap → Prop} (h : I ρ κ) : turnQ I Q .cont ρ κ := h
theorem turn_ret {I : Rho → Kap → Prop} {Q : PF → Rho → Kap → Prop} {p : PV} (h : Q (.ret p) ρ κ) : turnQ I Q (.ret p) ρ κ := h
theorem c_For {x : Str} {px pos : Pos} {iter : Expr} {body : List Stmt} {Q : PF → Rho → Kap → Prop} (I : List PV → Rho → Kap → Prop)
    (hs : ∀ E v, foldedSetIterable iter E v = pure v) (hk : c.scope.names.lookup x = some .local)
    (h : E1 c iter ρ κ (fun p ρ1 κ1 => ∃ l, IT c.w p l ∧ I l ρ1 κ1) X)
    (turn : ∀ p rest ρ1 κ1, I (p :: rest) ρ1 κ1 → CS c body (upd ρ1 x p) κ1 (turnQ (I rest) Q) noX)
    (fin : ∀ ρ1 κ1, I [] ρ1 κ1 → Q .next ρ1 κ1) : C1 c (.For (.Name x px) iter body [] pos) ρ κ Q X := fun A fs E g R s G S hg => by
  refine wpAny_For (chain0 hg (h A fs E g R s G S hg) fun v s1 g1 ρ1 κ1 p _ k1 st1 S1 hg1 r1 q1 => ?_) (hs E)
  obtain ⟨l, hit, hI⟩ := q1
  obtain ⟨m1, cs1, S1⟩ := S1
  refine hit A _ g1 s1 v _ S1.lv.keep r1 fun o0 K hok hK0 hf0 => ?_
  generalize hita : s1.heap.objs.size = it at hok
  have S2 : SatC c.w fs E g1 ((it, o0) :: R) ρ1 κ1 m1 cs1 (s1.heap.push o0) := hita ▸ S1.pushR hf0
  have anyE : ∀ {g' : Heap} {R' : List (Addr × Obj)} {s' : Shared} {EE : Value → Shared → Prop} {v : Value} {s'' : Shared}, Exc c fs E g' R' s' noX v s'' → EE v s'' := fun e => e.no.elim
  refine codeAny_forLoop (fun n s' => ∃ g2 ρ2 κ2 m2 cs2 o i, Sub g1 g2 ∧ SatC c.w fs E g2 ((it, o) :: R) ρ2 κ2 m2 cs2 s'.heap ∧ Stp fs (some E.locals) s1 s' ∧ K i o ∧ i + n = l.length ∧ I (l.drop i) ρ2 κ2) ?_ l.length
    ⟨g1, ρ1, κ1, m1, cs1, o0, 0, .refl _, S2, ⟨.of_sub fun b x e => Heap.get?_push_of_some _ e, rfl, rfl⟩, hK0, by omega, hI⟩
  rintro n s' ⟨g2, ρ2, κ2, m2, cs2, o, i, k2, S3, st2, hK, hn, hI'⟩
  obtain ⟨a1, a2, a3, a4, a5⟩ := S3.headR
  rcases Nat.lt_or_ge i l.length with hlt | hge
  · have hp : l[i]? = some l[i] := List.getElem?_eq_getElem hlt
    refine hok.1 i _ hp A _ _ s' o (k2.trans S3.lv.keep) a1 hK fun h' tk u o' ru hsb ho' hK' => ?_
    have S4 := S3.setR hsb ho'
    have hx : E.kindOf x = some .local := by unfold Env.kindOf; rw [G.sc, hk]
    refine wpAny_assign_Name (wpAny_storeName_local hx S4.ns (fun h'' hn'' hs'' => ?_) (by show (E.scope.kind == .class || (E.scope.kind == .module && E.locals != E.globals)) = false; rw [G.kd]; rfl))
    have S5 := sat_store S4 hx (ru.keeps k2) hn'' hs''
    have st3 : Stp fs (some E.locals) s1 { s' with heap := h'', toks := tk + 1 } := st2.trans ⟨(frKeep_but hsb a3).trans (frKeep_same hs''), rfl, rfl⟩
    have hd : l.drop i = l[i] :: l.drop (i + 1) := List.drop_eq_getElem_cons hlt
    rw [hd] at hI'
    refine wpAny_mono (turn _ _ _ _ hI' A fs E g2 _ _ G S5 (st3.gens.trans hg1)) (fun f s5 p => ?_) fun _ _ e => e.no.elim
    obtain ⟨g3, ρ3, κ3, b, x1, ⟨m3, cs3, x2⟩, x3, x4, x5⟩ := p
    have stp := st3.trans x3
    revert x5
    refine rf_cases x4 (fun x5 => ?_) (fun x5 => ?_) (fun x5 => ?_) fun v q x4 x5 => ?_
    · exact ⟨n - 1, by omega, g3, ρ3, κ3, m3, cs3, o', i + 1, k2.trans x1, x2, stp, hK', by omega, x5⟩
    · exact ⟨g3, ρ3, κ3, .next, k1.trans (k2.trans x1), ⟨m3, cs3, x2.dropR⟩, st1.trans stp, trivial, x5⟩
    · exact ⟨n - 1, by omega, g3, ρ3, κ3, m3, cs3, o', i + 1, k2.trans x1, x2, stp, hK', by omega, x5⟩
    · exact ⟨g3, ρ3, κ3, .ret _, k1.trans (k2.trans x1), ⟨m3, cs3, x2.dropR⟩, st1.trans stp, x4, x5⟩
  · have hi : i = l.length := by omega
    subst hi
    refine hok.2 A _ _ s' o (k2.trans S3.lv.keep) a1 hK G.hd fun h' he => ?_
    obtain ⟨⟨g3, k3, S4⟩, fk⟩ := S3.leaveR he
    rw [List.drop_length] at hI'
    exact wpAny_execs_nil ⟨g3, ρ2, κ2, .next, k1.trans (k2.trans k3), ⟨m2, cs2, S4⟩, st1.trans (st2.trans ⟨fk, rfl, rfl⟩), trivial, fin _ _ hI'⟩

theorem c_While {test : Expr} {body : List Stmt} {pos : Pos} {Q : PF → Rho → Kap → Prop} (I : Nat → Rho → Kap → Prop) (n : Nat) (h : I n ρ κ)
    (turn : ∀ n ρ1 κ1, I n ρ1 κ1 → B1 c test ρ1 κ1 (fun b ρ2 κ2 => if b = true then CS c body ρ2 κ2 (turnQ (fun ρ3 κ3 => ∃ m, m < n ∧ I m ρ3 κ3) Q) noX else Q .next ρ2 κ2) noX) :
    C1 c (.While test body [] pos) ρ κ Q X := fun A fs E g R s G S hg => by
  refine wpAny_While (codeAny_whileLoop (fun n s' => ∃ g2 ρ2 κ2, Sub g g2 ∧ Sat c.w fs E g2 R ρ2 κ2 s'.heap ∧ Stp fs (some E.locals) s s' ∧ I n ρ2 κ2) ?_ n ⟨g, ρ, κ, .refl _, S, .refl .., h⟩)
  rintro n s' ⟨g2, ρ2, κ2, k2, S2, st2, hI⟩
  have hg2 := st2.gens.trans hg
  refine wpAny_mono (turn n ρ2 κ2 hI A fs E g2 R s' G S2 hg2) (fun b s3 p => ?_) fun _ _ e => e.no.elim
  obtain ⟨g3, ρ3, κ3, b', x1, x2, x3, rfl, x5⟩ := p
  cases b
  · exact wpAny_execs_nil ⟨g3, ρ3, κ3, .next, k2.trans x1, x2, st2.trans x3, trivial, x5⟩
  · refine wpAny_mono (x5 A fs E g3 R s3 G x2 (x3.gens.trans hg2)) (fun f s4 q => ?_) fun _ _ e => e.no.elim
    obtain ⟨g4, ρ4, κ4, b4, y1, y2, y3, y4, y5⟩ := q
    have kk := k2.trans (x1.trans y1)
    have ss := st2.trans (x3.trans y3)
    revert y5
    refine rf_cases y4 (fun y5 => ?_) (fun y5 => ?_) (fun y5 => ?_) fun v q y4 y5 => ?_
    · obtain ⟨m, hm, hI'⟩ := y5; exact ⟨m, hm, g4, ρ4, κ4, kk, y2, ss, hI'⟩
    · exact ⟨g4, ρ4, κ4, .next, kk, y2, ss, trivial, y5⟩
    · obtain ⟨m, hm, hI'⟩ := y5; exact ⟨m, hm, g4, ρ4, κ4, kk, y2, ss, hI'⟩
    · exact ⟨g4, ρ4, κ4, .ret _, kk, y2, ss, y4, y5⟩
end
end Mine

/-! # L4 -/
namespace Mine
open PySem PySem.W PyProof.Rows PySem.Calls
set_option Elab.async false
set_option maxRecDepth 100000
set_option linter.unusedVariables false

/-! ## Calls -/
noncomputable def CPost (w : World) (fs : List Env) (g : Heap) (R : List (Addr × Obj)) (s : Shared) (Q : PV → Prop) : Value → Shared → Prop := fun v s' =>
  ∃ g' p, Sub g g' ∧ Lv w fs g' R s'.heap ∧ Stp fs none s s' ∧ Rep g' v p ∧ Q p
noncomputable def CExc (w : World) (fs : List Env) (g : Heap) (R : List (Addr × Obj)) (s : Shared) (X : Addr → Prop) : Value → Shared → Prop := fun e s' =>
  ∃ g' C ea a0 B, e = .ref ea ∧ Sub g g' ∧ Lv w fs g' R s'.heap ∧ Stp fs none s s' ∧ X C ∧ Heap.FlyingW B fs ea (.ref C) a0 s'.heap ∧ Sub g' B ∧ ∀ q ∈ R, B.get? q.1 = some q.2
/-- what a call of f gives at data ps, with n levels of room -/
noncomputable def CT (w : World) (f : Value) (ps : List PV) (n : Nat) (Q : PV → Prop) (X : Addr → Prop) : Prop := ∀ A fs g R s vs, A.frames = some fs → A.handled = none → Bud A n → Lv w fs g R s.heap → Reps g vs ps → s.gens = #[] →
  wpAny (MM w) A (call f vs) (CPost w fs g R s Q) (CExc w fs g R s X) s
/-- a call of f -/
noncomputable abbrev callF (f : Value) : List Value → Sem Value := fun vs => PySem.call f vs
noncomputable def noC : Addr → Prop := fun _ => False

section
variable {w : World} {fs : List Env} {E : Env} {g g' h h' : Heap} {R : List (Addr × Obj)} {ρ : Rho} {κ : Kap} {m : Str → Option Value} {cs : List (Addr × Obj)} {a : Addr} {o o' : Obj}
theorem FrKeep.none_to {L : Option Addr} (k : FrKeep fs none h h') : FrKeep fs L h h' := fun a ha _ o e => k a ha (by simp) o e
theorem ns_slots {m : Str → Option Value} {a : Addr} (hn : h.Ns a m) (k : ∀ o, h.get? a = some o → ∃ sl, h'.get? a = some { o with slots := sl }) : h'.Ns a m := by
  obtain ⟨o, es, ep, ho, hd, r⟩ := hn
  obtain ⟨sl, e⟩ := k o ho
  exact ⟨_, es, ep, e, hd, r⟩
/-- the cells that a call must leave as they are: the owned ones, and the block's own dict where it is no frame's -/
theorem SatC.toCall (S : SatC w fs E g R ρ κ m cs h) : ∃ lc, Lv w fs g (lc ++ (cs ++ R)) h ∧ ∀ g' h', Sub g g' → Lv w fs g' (lc ++ (cs ++ R)) h' → FrKeep fs none h h' → SatC w fs E g' R ρ κ m cs h' := by
  by_cases hf : E.locals ∈ frs fs
  · refine ⟨[], S.lv, fun g' h' k L fk => ⟨L, ns_slots S.ns fun o e => fk _ hf (by simp) o e, (funFrames_mem L.fr hf).1, S.cl, fun x p e => (S.vars x p e).keeps k, S.cells.keeps k⟩⟩
  · obtain ⟨oL, es, ep, hL, hd, r⟩ := S.ns
    refine ⟨[(E.locals, oL)], ⟨S.lv.W, S.lv.keep, S.lv.fr, S.lv.nf, fun c hc => ?_, ?_⟩, fun g' h' k L fk => ?_⟩
    · rcases List.mem_cons.mp hc with rfl | hc
      · exact ⟨hL, S.gl, hf⟩
      · exact S.lv.cell c hc
    · show ((E.locals, oL).1 :: (cs ++ R).map (·.1)).Nodup
      refine List.nodup_cons.mpr ⟨fun hm => ?_, S.lv.nd⟩
      obtain ⟨c, hc, e⟩ := List.mem_map.mp hm
      exact S.cl c hc e
    · have e := L.cell (E.locals, oL) (.head _)
      exact ⟨⟨L.W, L.keep, L.fr, L.nf, fun c hc => L.cell c (.tail _ hc), S.lv.nd⟩, ⟨oL, es, ep, e.1, hd, r⟩, e.2.1, S.cl, fun x p e => (S.vars x p e).keeps k, S.cells.keeps k⟩
theorem Stp.none_to {L : Option Addr} {s s' : Shared} (k : Stp fs none s s') : Stp fs L s s' := ⟨k.fr.none_to, k.gens, k.os⟩
end

section
variable {c : Jx} {ρ : Rho} {κ : Kap} {X X' : XP}
theorem v_call {f : Value} {ps : List PV} {n : Nat} {Q0 : PV → Prop} {X0 : Addr → Prop} {Q : PV → Rho → Kap → Prop} (h : CT c.w f ps n Q0 X0) (hn : n ≤ c.n) (hQ : ∀ p, Q0 p → Q p ρ κ) (hX : ∀ C, X0 C → X C ρ κ) :
    VL c (callF f) ps ρ κ Q X := fun A fs E g R s vs G S hg r => by
  obtain ⟨m, cs, S⟩ := S
  obtain ⟨lc, L, back⟩ := S.toCall
  have hb : Bud A n := ⟨by have := G.bud.1; omega, by have := G.bud.2; omega⟩
  refine wpAny_mono (h A fs g _ s vs G.fr G.hd hb L r hg) (fun v s' p => ?_) fun e s' p => ?_
  · obtain ⟨g', q, k, L', st, rq, hq⟩ := p
    exact ⟨g', ρ, κ, q, k, ⟨m, cs, back g' _ k L' st.fr⟩, st.none_to, rq, hQ q hq⟩
  · obtain ⟨g', C, ea, a0, B, rfl, k, L', st, hC, fl, kB, cB⟩ := p
    exact ⟨g', ρ, κ, m, cs, C, ea, rfl, k, st.none_to, hX C hC, .inl ⟨B, a0, back g' _ k L' st.fr, fl, kB, fun q hq => cB q (List.mem_append_right _ hq)⟩⟩

noncomputable def KeepOk (w : World) (f : Value) : Prop := ∀ h, (KF pw w.params).In h → ∃ k, (k = Keeper.frame ∨ k = Keeper.machine ∨ k = Keeper.boundFrame) ∧ Looks (MM w) h (keeperOf f) k
theorem keep_ref {w : World} {a : Addr} (h : keepIn (KF pw w.params) (.ref a) = true) : KeepOk w (.ref a) := fun _ X => keeps_K h _ X
theorem keep_machine {w : World} {f : Value} (h : keeperOf f = pure .machine) : KeepOk w f := fun _ _ => ⟨.machine, .inr (.inl rfl), Looks.of_pure h⟩

theorem evalArgs_of {M : Model} {A : Around} {EE : Value → Shared → Prop} {s : Shared} {f : Value} {Q : Args → Shared → Prop} : ∀ {trees : List (Bool × Sem Value)}, trees.any (·.1) = false → wpAny M A (spliced trees) (fun vs s' => Q ⟨vs, []⟩ s') EE s → wpAny M A (evalArgs f true trees []) Q EE s
  | [], _, h => by
    unfold evalArgs
    show wpAny M A (spliced [] >>= _) Q EE s
    exact wpAny_bind (wpAny_mono h (fun vs s' h' => wpAny_holding (wpAny_bind (wpAny_pure (wpAny_bind (wpAny_pure (wpAny_pure h')))))) fun _ _ x => x)
  | (b, x) :: r, hp, h => by
    have hb : b = false := by cases b with | false => rfl | true => cases hp
    subst hb
    exact evalArgs_plain h

theorem callWith_ {A : Around} {fs : List Env} {E : Env} {g0 g : Heap} {R : List (Addr × Obj)} {s0 s : Shared} {f : Value} {firstv : List Value} {first : List PV} {es : List Expr} {pos : Pos} {Q : PV → Rho → Kap → Prop}
    (G : Good c A fs E) (S : Sat c.w fs E g R ρ κ s.heap) (hg : s.gens = #[]) (k0 : Sub g0 g) (st0 : Stp fs (some E.locals) s0 s) (hk : KeepOk c.w f) (hp : (backTo pos (starEach es E)).any (·.1) = false) (rf : Reps g firstv first)
    (h : EL c pos es ρ κ (fun ps ρ1 κ1 => VL c (callF f) (first ++ ps) ρ1 κ1 Q X) X) :
    wpAny (MM c.w) A (callWith pos f firstv (backTo pos (starEach es E)) []) (Post c fs E g0 R s0 Rep Q) (Exc c fs E g0 R s0 X) s := by
  refine callWith_of (P := fun h => (KF pw c.w.params).In h) (by rw [hp]; rfl) hk (evalArgs_of hp ?_)
  exact chain k0 st0 hg (h A fs E g R s G S hg) fun vs s1 g1 ρ1 κ1 ps k1 k01 st1 S1 hg1 r1 q1 => by
      refine ⟨?_, lift k01 st1 (q1 A fs E g1 R s1 _ G S1 hg1 ((rf.keeps k1).append r1))⟩
      obtain ⟨m, cs, S1⟩ := S1
      exact S1.lv.W.K.keeps S1.lv.keep

theorem e_CallName {x : Str} {p pos : Pos} {es : List Expr} {f : Value} {Q : PV → Rho → Kap → Prop} (hk : KeepOk c.w f) (hp : ∀ E, (backTo pos (starEach es E)).any (·.1) = false)
    (h : E1 c (.Name x p) ρ κ (fun q ρ1 κ1 => q = .val f ∧ EL c pos es ρ1 κ1 (fun ps ρ2 κ2 => VL c (callF f) ps ρ2 κ2 Q X) X) X) : E1 c (.Call (.Name x p) es [] pos) ρ κ Q X := fun A fs E g R s G S hg =>
  Call_Name rfl (chain0 hg (h A fs E g R s G S hg) fun v s1 g1 ρ1 κ1 q _ k1 st1 S1 hg1 r1 q1 => by
    obtain ⟨rfl, q1⟩ := q1
    (first | obtain ⟨_, rfl⟩ := r1.int_inv | obtain rfl := r1.nil_inv | obtain ⟨_, _, rfl, rfl⟩ := r1.bytes_inv | obtain rfl := r1.bool_inv | obtain rfl := r1.val_inv | obtain rfl := r1.own_inv | obtain ⟨_, rfl⟩ := r1.str_inv | cases r1)
    exact callWith_ G S1 hg1 k1 st1 hk (hp E) .nil q1)

/-- the method's function for a value in hand -/
noncomputable def MG (c : Jx) (ρ : Rho) (κ : Kap) (p : PV) (name : Str) (f : Value) : Prop := ∀ (A : Around) (fs : List Env) (E : Env) (g : Heap) (R : List (Addr × Obj)) (s : Shared) (v : Value) (pl : Sem Bool) (Q : Value × List Value → Shared → Prop) (EE : Value → Shared → Prop),
  Good c A fs E → Sat c.w fs E g R ρ κ s.heap → Rep g v p → Q (f, [v]) s → wpAny (MM c.w) A (getMethod v name pl) Q EE s
theorem e_CallMeth {o : Expr} {name : Str} {apos pos : Pos} {es : List Expr} {f : Value} {Q : PV → Rho → Kap → Prop} (pl : Env → Sem Bool)
    (he : ∀ E, eval (.Call (.Attribute o name apos) es [] pos) E = (do
      let ov ← eval o E
      standAt apos.atName
      let (f, first) ← holding [ov] (getMethod ov name (pl E))
      callWith pos f first (backTo pos (starEach es E)) [])) (hk : KeepOk c.w f) (hp : ∀ E, (backTo pos (starEach es E)).any (·.1) = false)
    (h : E1 c o ρ κ (fun q ρ1 κ1 => MG c ρ1 κ1 q name f ∧ EL c pos es ρ1 κ1 (fun ps ρ2 κ2 => VL c (callF f) (q :: ps) ρ2 κ2 Q X) X) X) : E1 c (.Call (.Attribute o name apos) es [] pos) ρ κ Q X := fun A fs E g R s G S hg =>
  MethodCall_ (pl := pl E) (chain0 hg (h A fs E g R s G S hg) fun v s1 g1 ρ1 κ1 q _ k1 st1 S1 hg1 r1 q1 => by
    obtain ⟨hm, q1⟩ := q1
    exact hm A fs E g1 R s1 v _ _ _ G S1 r1 (callWith_ (first := [q]) G S1 hg1 k1 st1 hk (hp E) (.cons r1 .nil) q1)) (he E)

theorem e_Attr {v : Expr} {attr : Str} {pos : Pos} {Q : PV → Rho → Kap → Prop} (hb : ∀ E, attributeBase v attr E (eval v E) = eval v E) (h : E1 c v ρ κ (fun a ρ1 κ1 => V1 c (fun o => getAttr o attr true) a ρ1 κ1 Q X) X) : E1 c (.Attribute v attr pos) ρ κ Q X :=
  fun A fs E g R s G S hg => by
    rw [arm_eval_Attribute, hb E]
    refine wpAny_bind (chain0 hg (h A fs E g R s G S hg) fun a s1 g1 ρ1 κ1 b _ k1 st1 S1 hg1 r1 q1 => wpAny_bind (wpAny_standAt (wpAny_bind (wpAny_holding ?_))))
    exact chain k1 st1 hg1 (q1 A fs E g1 R s1 a G S1 hg1 r1) fun r s2 g2 ρ2 κ2 b2 _ k2 st2 S2 hg2 r2 q2 => wpAny_bind (wpAny_letTemporaryGo (wpAny_pure ⟨g2, ρ2, κ2, b2, k2, S2, st2, r2, q2⟩))

/-- an expression for its effects -/
theorem c_Expr {e : Expr} {pos : Pos} {Q : PF → Rho → Kap → Prop} (hi : ∀ E : Env, E.scope = c.scope → interactive E = false) (hs : ∀ E, swapsWith e none pos.line E = pure false)
    (h : E1 c e ρ κ (fun p ρ1 κ1 => p = .none ∧ Q .next ρ1 κ1) X) : C1 c (.Expr e pos) ρ κ Q X := fun A fs E g R s G S hg =>
  wpAny_Expr (wpAny_mono (h A fs E g R s G S hg) (fun v s1 p => by
    obtain ⟨g1, ρ1, κ1, y, x1, x2, x3, x4, rfl, x5⟩ := p
    cases x4
    exact ⟨g1, ρ1, κ1, .next, x1, x2, x3, trivial, x5⟩) fun _ _ e => e) (hi E G.sc) (hs E)
end

/-! ## A def's call -/
section
variable {w : World} {fs : List Env} {E : Env} {g g' h h' : Heap} {R : List (Addr × Obj)} {ρ : Rho} {κ : Kap} {m : Str → Option Value} {cs : List (Addr × Obj)} {a : Addr} {o o' : Obj}
theorem frs_cons {env : Env} {L : Addr} (hf : env.frame = some L) : frs (env :: fs) = L :: frs fs := by unfold frs; rw [List.filterMap_cons, hf]
theorem Lv.frame (l : Lv w fs g R h) {env : Env} {L : Addr} (hf : env.frame = some L) (hk : env.scope.kind = .function) (hL : h.objs.size ≤ L) (up : Sub h h') (hn : h'.Ns L m) : Lv w (env :: fs) g R h' := by
  obtain ⟨oL, es, ep, ho, hd, r⟩ := hn
  have gn : ∀ x, g.get? L = some x → False := fun x q => by have := Heap.lt_size (l.keep _ _ q); exact absurd (Nat.lt_of_lt_of_le this hL) (Nat.lt_irrefl _)
  have gn' : g.get? L = none := by cases q : g.get? L with | none => rfl | some x => exact (gn x q).elim
  have frx : h'.FunFrames g fs := funFrames_next l.fr (fun b hb => (funFrames_mem l.fr hb).1) fun b hb => let ⟨x, e, z⟩ := (funFrames_mem l.fr hb).2; ⟨x, up _ _ e, z⟩
  refine ⟨l.W, l.keep.trans up, ⟨by rw [hk]; decide, ⟨L, oL, hf, gn', ho, fun vs z => by rw [hd] at z; cases z⟩, frx⟩, ?_, fun c hc => ⟨up _ _ (l.cell c hc).1, (l.cell c hc).2.1, ?_⟩, l.nd⟩
  · rw [frs_cons hf]
    refine List.nodup_cons.mpr ⟨fun hm => ?_, l.nf⟩
    obtain ⟨x, e, _⟩ := (funFrames_mem l.fr hm).2
    exact absurd (Nat.lt_of_lt_of_le (Heap.lt_size e) hL) (Nat.lt_irrefl _)
  · rw [frs_cons hf]
    refine fun hm => (List.mem_cons.mp hm).elim (fun e => ?_) (l.cell c hc).2.2
    have := Heap.lt_size (l.cell c hc).1
    rw [e] at this
    exact absurd (Nat.lt_of_lt_of_le this hL) (Nat.lt_irrefl _)
theorem Lv.pop {env : Env} {L : Addr} (hf : env.frame = some L) (l : Lv w (env :: fs) g R h) : Lv w fs g R h := by
  have nf := l.nf
  rw [frs_cons hf] at nf
  exact ⟨l.W, l.keep, l.fr.2.2, (List.nodup_cons.mp nf).2, fun c hc => ⟨(l.cell c hc).1, (l.cell c hc).2.1, fun hm => (l.cell c hc).2.2 (by rw [frs_cons hf]; exact .tail _ hm)⟩, l.nd⟩
theorem Lv.dropL {l1 : List (Addr × Obj)} (l : Lv w fs g (l1 ++ R) h) : Lv w fs g R h :=
  ⟨l.W, l.keep, l.fr, l.nf, fun c hc => l.cell c (List.mem_append_right _ hc), by have := l.nd; rw [List.map_append, List.nodup_append] at this; exact this.2.1⟩
theorem FrKeep.pop {env : Env} {L : Addr} (hf : env.frame = some L) (nf : (frs (env :: fs)).Nodup) (k : FrKeep (env :: fs) (some L) h h') : FrKeep fs none h h' := fun b hb _ o e => by
  rw [frs_cons hf] at nf
  exact k b (by rw [frs_cons hf]; exact .tail _ hb) (fun q => (List.nodup_cons.mp nf).1 (Option.some.inj q ▸ hb)) o e
end

theorem zip_lookup {g : Heap} {x : Str} : ∀ {ns : List Str} {vs : List Value} {ps : List PV} {p : PV}, Reps g vs ps → (ns.zip ps).lookup x = some p → ∃ v, (ns.zip vs).lookup x = some v ∧ Rep g v p
  | [], _, _, _, _, e => by simp at e
  | _ :: _, _, _, _, .nil, e => by simp at e
  | n :: ns, _, _, _, .cons a b, e => by
    simp only [List.zip_cons_cons, List.lookup_cons] at e ⊢
    split at e
    · cases e; exact ⟨_, rfl, a⟩
    · exact zip_lookup b e
theorem zip_mem {x : Str} : ∀ {ns : List Str} {ps : List PV} {p : PV}, (ns.zip ps).lookup x = some p → x ∈ ns
  | [], _, _, e => by simp at e
  | _ :: _, [], _, e => by simp at e
  | n :: ns, _ :: _, _, e => by
    simp only [List.zip_cons_cons, List.lookup_cons] at e
    split at e
    · rename_i q; rw [beq_iff_eq.mp q]; exact .head _
    · exact .tail _ (zip_mem e)
/-- the names that a call binds -/
noncomputable def binds (ns : List Str) (ps : List PV) : Rho := fun x => (ns.zip ps).lookup x
theorem lookup_rev_zip {α : Type} {x : Str} : ∀ {ns : List Str} {vs : List α}, ns.Nodup → (ns.zip vs).reverse.lookup x = (ns.zip vs).lookup x
  | [], _, _ => by simp
  | _ :: _, [], _ => by simp
  | n :: ns, v :: vs, nd => by
    have nd' := List.nodup_cons.mp nd
    rw [List.zip_cons_cons, List.reverse_cons, List.lookup_append, lookup_rev_zip nd'.2, List.lookup_cons]
    by_cases q : x = n
    · subst q
      have : (ns.zip vs).lookup x = none := by
        cases z : (ns.zip vs).lookup x with
        | none => rfl
        | some u =>
          exfalso
          have : ∀ {ns : List Str} {vs : List α}, (ns.zip vs).lookup x = some u → x ∈ ns := fun {ns vs} e => by
            induction ns generalizing vs with
            | nil => simp at e
            | cons k ks ih => cases vs with
              | nil => simp at e
              | cons y ys =>
                simp only [List.zip_cons_cons, List.lookup_cons] at e
                split at e
                · rename_i q; rw [beq_iff_eq.mp q]; exact .head _
                · exact .tail _ (ih e)
          exact nd'.1 (this z)
      rw [this]; simp
    · have : (x == n) = false := by simpa using q
      simp [List.lookup_cons, this]

noncomputable abbrev fobj (name qual : Str) (params : Arguments) (body : List Stmt) (scope : Scope) (dV pm : Value) (cd : Addr) : FuncData := fnOf name qual params body scope dV .none .none pm none (.ref cd) .none
/-- the body's end as the call's -/
noncomputable def QB (Q : PV → Prop) : PF → Rho → Kap → Prop := fun f _ _ => match f with | .ret p => Q p | .next => Q .none | _ => False
theorem qb_ret {Q : PV → Prop} {p : PV} {ρ : Rho} {κ : Kap} (h : Q p) : QB Q (.ret p) ρ κ := h
theorem qb_next {Q : PV → Prop} {ρ : Rho} {κ : Kap} (h : Q .none) : QB Q .next ρ κ := h
theorem def_entry {w : World} {A : Around} {fs : List Env} {g : Heap} {R : List (Addr × Obj)} {s : Shared} {name qual : Str} {params : Arguments} {body : List Stmt} {scope : Scope} {dV pm : Value} {cd a : Addr} {ns : List Str} {vs as : List Value} {ps : List PV} {κ : Kap} {cs : List (Addr × Obj)} {n : Nat}
    {Qb : PF → Rho → Kap → Prop} {Xb : XP} {RR : Result → Shared → Prop}
    (hfr : A.frames = some fs) (hh : A.handled = none) (hb : Bud A (n + 1)) (L : Lv w fs g (cs ++ R) s.heap) (hc : Cells g κ cs) (hr : Reps g vs ps) (hg : s.gens = #[])
    (hK : (KF pw w.params).lookup a = some ⟨.type "function", none, .func (fobj name qual params body scope dV pm cd), #[]⟩) (hcd : codeIn (KF pw w.params) (.ref cd) qual = true)
    (hbind : BindsTo s (fobj name qual params body scope dV pm cd) ⟨as, []⟩ (ns.zip vs)) (nd : ns.Nodup) (hloc : ∀ x ∈ ns, scope.names.lookup x = some .local) (hcell : ∀ x ∈ scope.names, x.2 ≠ .cell)
    (hk : scope.kind = .function) (hco : scope.isCoroutine = false) (hgen : scope.isGenerator = false)
    (hbody : CS ⟨w, scope, n, true⟩ body (binds ns ps) κ Qb Xb)
    (ret : ∀ v p s' g' ρ' κ' cs', Sub g g' → Lv w fs g' (cs' ++ R) s'.heap → Cells g' κ' cs' → Stp fs none s s' → Rep g' v p → (Qb (.ret p) ρ' κ' ∨ (p = .none ∧ Qb .next ρ' κ')) → RR (.ok (.ret v)) s')
    (raise : ∀ e s', (∃ g' C ea a0 B ρ' κ', e = .ref ea ∧ Sub g g' ∧ Lv w fs g' R s'.heap ∧ Stp fs none s s' ∧ Xb C ρ' κ' ∧ Heap.FlyingW B fs ea (.ref C) a0 s'.heap ∧ Sub g' B ∧ ∀ q ∈ R, B.get? q.1 = some q.2) → RR (.error e) s')
    (nobrk : ∀ ρ κ, ¬ Qb .brk ρ κ ∧ ¬ Qb .cont ρ κ) : codeAny (MM w) A (.call (.ref a) ⟨as, []⟩) RR s := by
  obtain ⟨mg, mb, T⟩ := L.W.T
  refine codeAny_call_def (fd := fobj name qual params body scope dV pm cd) (body := body) (binds := ns.zip vs) (by have := hb.1; unfold recursionLimit; omega) (L.keep _ _ (L.W.K _ _ hK)) rfl (T.nolimit.keeps L.keep) (codeRec_of (L.W.K.keeps L.keep) hcd) rfl hbind hcell
    (fun x hx => hloc x.1 (List.of_mem_zip hx).1) (fun h₀ hns up => ?_) hco hgen hk
  generalize hE : callEnv (fobj name qual params body scope dV pm cd) s.heap.objs.size a = env
  have hf : env.frame = some s.heap.objs.size := by rw [← hE]; rfl
  have hsc : env.scope = scope := by rw [← hE]; rfl
  have hlo : env.locals = s.heap.objs.size := by rw [← hE]; rfl
  have G : Good ⟨w, scope, n, true⟩ (A.deeper env) (env :: fs) env := ⟨hsc, hsc ▸ hk, by rw [← hE]; rfl, by rw [← hE]; rfl, Around.frames_deeper hfr, hh, ⟨by have := hb.1; show A.depth + 1 + 4 * n < 900; omega, by have := hb.2; show A.units + 3 + 16 * n < 9000; omega⟩, fun _ => ⟨fs, rfl, by rw [hlo]; exact hf⟩⟩
  have L' := L.frame hf (hsc ▸ hk) (Nat.le_refl _) up hns
  have S : Sat w (env :: fs) env g R (binds ns ps) κ h₀ := by
    refine ⟨_, cs, ⟨L', hlo ▸ hns, hlo ▸ L'.fr.2.1.elim fun L₁ q => ?_, fun c hc e => ?_, fun x p e => ⟨fun _ => ?_, fun k => ?_⟩, hc⟩⟩
    · obtain ⟨_, e1, e2, _⟩ := q; rw [hf] at e1; cases e1; exact e2
    · have := (L'.cell c hc).2.2
      rw [frs_cons hf, e, hlo] at this
      exact this (.head _)
    · obtain ⟨v, e1, e2⟩ := zip_lookup hr e
      exact ⟨v, (lookup_rev_zip nd).trans e1, e2⟩
    · have := hloc x (zip_mem e)
      unfold Env.kindOf at k
      rw [hsc, this] at k
      rcases k with k | k <;> cases k
  have st0 : Stp fs none s { s with heap := h₀, toks := s.toks + (ns.zip vs).length } := ⟨.of_sub up, rfl, rfl⟩
  refine wpAny_mono (hbody (A.deeper env) (env :: fs) env g R _ G S hg) (fun f s' p => ?_) fun e s' p => ?_
  · obtain ⟨g', ρ', κ', b, k, ⟨m', cs', S'⟩, st, rf, q⟩ := p
    have st' : Stp fs none s s' := st0.trans ⟨(hlo ▸ st.fr).pop hf S'.lv.nf, st.gens, st.os⟩
    have Lp := S'.lv.pop hf
    revert q
    refine rf_cases rf (fun q => ?_) (fun q => ?_) (fun q => ?_) fun v u rf q => ?_
    · exact ret .none .none s' g' ρ' κ' cs' k Lp S'.cells st' .none (.inr ⟨rfl, q⟩)
    · exact ((nobrk _ _).1 q).elim
    · exact ((nobrk _ _).2 q).elim
    · exact ret _ _ s' g' ρ' κ' cs' k Lp S'.cells st' rf (.inl q)
  · obtain ⟨g', ρ', κ', m', cs', C, ea, rfl, k, st, hX, hcase⟩ := p
    have close : ∀ h' B a0, Heap.FlyingW B fs ea (.ref C) a0 h' → Sub g' B → (∀ q ∈ R, B.get? q.1 = some q.2) → s'.heap.UpToSlots h' → Lv w fs g' R s'.heap → RR (.error (.ref ea)) { s' with heap := h' } := fun h' B a0 fl kB cB us Lp => by
      have fkeep : FrKeep fs none s'.heap h' := fun b hb _ o e => us b o e (by
        obtain ⟨o', e', z⟩ := (funFrames_mem Lp.fr hb).2
        rw [e] at e'; cases e'; exact z)
      have nf : (frs (env :: fs)).Nodup := L'.nf
      refine raise _ _ ⟨g', C, ea, a0, B, ρ', κ', rfl, k, ⟨Lp.W, kB.trans fl.1, funFrames_next Lp.fr (fun b hb => (funFrames_mem Lp.fr hb).1) fun b hb => (funFrames_mem fl.2.2.1 hb).2, Lp.nf, fun c hc => ⟨fl.1 _ _ (cB c hc), (Lp.cell c hc).2⟩, Lp.nd⟩,
        st0.trans (Stp.trans ⟨(hlo ▸ st.fr).pop hf nf, st.gens, st.os⟩ ⟨fkeep, rfl, rfl⟩), hX, fl, kB, cB⟩
    rcases hcase with ⟨B, a0, S', fl, kB, cB⟩ | ⟨_, h₁, args, S', mk⟩
    · refine wpAny_leaves_onW (Around.frames_deeper hfr) hf fl fun h' fl' us => ?_
      exact close h' B a0 fl' kB (fun q hq => cB q (List.mem_append_right _ hq)) us (S'.lv.pop hf).dropL
    · have Lp := S'.lv
      have ne : ∀ {b : Addr} {o : Obj}, b ∉ frs (env :: fs) → h₁.get? b = some o → (hideAll h₁ (frs (env :: fs))).get? b = some o := fun hn e => hideAll_get _ e hn
      have lp : Lv w (env :: fs) g' (cs' ++ R) s'.heap := ⟨Lp.W, Lp.keep.trans mk.keeps, funFrames_next Lp.fr (fun b hb => (funFrames_mem Lp.fr hb).1) (fun b hb => let ⟨o, e, z⟩ := (funFrames_mem Lp.fr hb).2; ⟨o, mk.keeps _ _ e, z⟩), Lp.nf, fun c hc => ⟨mk.keeps _ _ (Lp.cell c hc).1, (Lp.cell c hc).2⟩, Lp.nd⟩
      refine wpAny_leaves_madeW (base := hideAll h₁ (frs (env :: fs))) (Around.frames_deeper hfr) hf (fun b o e => of_hideAll _ e) (funFrames_next Lp.fr (fun b hb => hideAll_none _ hb) fun b hb => (funFrames_mem Lp.fr hb).2) mk fun h' t fl _ _ us => ?_
      refine close h' _ _ fl (fun b o e => ne (fun hm => ?_) (Lp.keep b o e)) (fun q hq => ne (Lp.cell q (List.mem_append_right _ hq)).2.2 (Lp.cell q (List.mem_append_right _ hq)).1) us (lp.pop hf).dropL
      rw [(funFrames_mem Lp.fr hm).1] at e; cases e

theorem ct_def {w : World} {name qual : Str} {params : Arguments} {body : List Stmt} {scope : Scope} {dV pm : Value} {cd a : Addr} (ns : List Str) {ps : List PV} {n : Nat} {Q : PV → Prop} {X : Addr → Prop}
    (hK : (KF pw w.params).lookup a = some ⟨.type "function", none, .func (fobj name qual params body scope dV pm cd), #[]⟩) (hcd : codeIn (KF pw w.params) (.ref cd) qual = true)
    (hlen : ns.length = ps.length) (hbind : ∀ vs : List Value, vs.length = ns.length → bindArgs (fobj name qual params body scope dV pm cd) ⟨vs, []⟩ = pure (ns.zip vs)) (nd : ns.Nodup) (hloc : ∀ x ∈ ns, scope.names.lookup x = some .local) (hcell : ∀ x ∈ scope.names, x.2 ≠ .cell)
    (hk : scope.kind = .function) (hco : scope.isCoroutine = false) (hgen : scope.isGenerator = false)
    (hbody : CS ⟨w, scope, n, true⟩ body (binds ns ps) [] (QB Q) (fun C _ _ => X C)) : CT w (.ref a) ps (n + 1) Q X := fun A fs g R s vs hfr hh hb L hr hg => by
  refine wpAny_call (def_entry (cs := []) hfr hh hb L .nil hr hg hK hcd (.of_eq (hbind vs (by rw [hr.length, hlen]))) nd hloc hcell hk hco hgen hbody (fun v p s' g' ρ' κ' cs' k L' _ st rv q => ?_) (fun e s' q => ?_) (fun _ _ => ⟨fun h => h, fun h => h⟩))
  · exact ⟨g', p, k, L'.dropL, st, rv, q.elim id fun ⟨e, z⟩ => e ▸ z⟩
  · obtain ⟨g', C, ea, a0, B, ρ', κ', h1, h2, h3, h4, h5, h6, h7, h8⟩ := q
    exact ⟨g', C, ea, a0, B, h1, h2, h3, h4, h5, h6, h7, h8⟩
end Mine

/-! # L5 -/
namespace Mine
open PySem PySem.W PyProof.Rows PySem.Calls
set_option Elab.async false
set_option maxRecDepth 100000
set_option linter.unusedVariables false

/-! ## Operations -/
section
variable {c : Jx} {ρ : Rho} {κ : Kap} {X X' : XP} {Q : PV → Rho → Kap → Prop}
theorem v_add {i j : Int} (h : Q (.int (i + j)) ρ κ) : V2 c (binaryOp .Add) (.int i) (.int j) ρ κ Q X := fun A fs E g R s v u G S hg r1 r2 => by
  (first | obtain ⟨_, rfl⟩ := r1.int_inv | obtain rfl := r1.nil_inv | obtain ⟨_, _, rfl, rfl⟩ := r1.bytes_inv | obtain rfl := r1.bool_inv | obtain rfl := r1.val_inv | obtain rfl := r1.own_inv | obtain ⟨_, rfl⟩ := r1.str_inv | cases r1); (first | obtain ⟨_, rfl⟩ := r2.int_inv | obtain rfl := r2.nil_inv | obtain ⟨_, _, rfl, rfl⟩ := r2.bytes_inv | obtain rfl := r2.bool_inv | obtain rfl := r2.val_inv | obtain rfl := r2.own_inv | obtain ⟨_, rfl⟩ := r2.str_inv | cases r2); exact PyProof.Rows.add_int (post S (.int _ _) h)
theorem v_sub {i j : Int} (h : Q (.int (i - j)) ρ κ) : V2 c (binaryOp .Sub) (.int i) (.int j) ρ κ Q X := fun A fs E g R s v u G S hg r1 r2 => by
  (first | obtain ⟨_, rfl⟩ := r1.int_inv | obtain rfl := r1.nil_inv | obtain ⟨_, _, rfl, rfl⟩ := r1.bytes_inv | obtain rfl := r1.bool_inv | obtain rfl := r1.val_inv | obtain rfl := r1.own_inv | obtain ⟨_, rfl⟩ := r1.str_inv | cases r1); (first | obtain ⟨_, rfl⟩ := r2.int_inv | obtain rfl := r2.nil_inv | obtain ⟨_, _, rfl, rfl⟩ := r2.bytes_inv | obtain rfl := r2.bool_inv | obtain rfl := r2.val_inv | obtain rfl := r2.own_inv | obtain ⟨_, rfl⟩ := r2.str_inv | cases r2); exact PyProof.Rows.sub_int (post S (.int _ _) h)
theorem v_iadd {i j : Int} (h : Q (.int (i + j)) ρ κ) : V2 c (inplaceOp .Add) (.int i) (.int j) ρ κ Q X := fun A fs E g R s v u G S hg r1 r2 => by
  (first | obtain ⟨_, rfl⟩ := r1.int_inv | obtain rfl := r1.nil_inv | obtain ⟨_, _, rfl, rfl⟩ := r1.bytes_inv | obtain rfl := r1.bool_inv | obtain rfl := r1.val_inv | obtain rfl := r1.own_inv | obtain ⟨_, rfl⟩ := r1.str_inv | cases r1); (first | obtain ⟨_, rfl⟩ := r2.int_inv | obtain rfl := r2.nil_inv | obtain ⟨_, _, rfl, rfl⟩ := r2.bytes_inv | obtain rfl := r2.bool_inv | obtain rfl := r2.val_inv | obtain rfl := r2.own_inv | obtain ⟨_, rfl⟩ := r2.str_inv | cases r2); exact PyProof.Rows.iadd_int (post S (.int _ _) h)
theorem v_isub {i j : Int} (h : Q (.int (i - j)) ρ κ) : V2 c (inplaceOp .Sub) (.int i) (.int j) ρ κ Q X := fun A fs E g R s v u G S hg r1 r2 => by
  (first | obtain ⟨_, rfl⟩ := r1.int_inv | obtain rfl := r1.nil_inv | obtain ⟨_, _, rfl, rfl⟩ := r1.bytes_inv | obtain rfl := r1.bool_inv | obtain rfl := r1.val_inv | obtain rfl := r1.own_inv | obtain ⟨_, rfl⟩ := r1.str_inv | cases r1); (first | obtain ⟨_, rfl⟩ := r2.int_inv | obtain rfl := r2.nil_inv | obtain ⟨_, _, rfl, rfl⟩ := r2.bytes_inv | obtain rfl := r2.bool_inv | obtain rfl := r2.val_inv | obtain rfl := r2.own_inv | obtain ⟨_, rfl⟩ := r2.str_inv | cases r2); exact PyProof.Rows.isub_int (post S (.int _ _) h)
theorem v_mod {i j : Int} (hj : j ≠ 0) (h : Q (.int (i.fmod j)) ρ κ) : V2 c (binaryOp .Mod) (.int i) (.int j) ρ κ Q X := fun A fs E g R s v u G S hg r1 r2 => by
  (first | obtain ⟨_, rfl⟩ := r1.int_inv | obtain rfl := r1.nil_inv | obtain ⟨_, _, rfl, rfl⟩ := r1.bytes_inv | obtain rfl := r1.bool_inv | obtain rfl := r1.val_inv | obtain rfl := r1.own_inv | obtain ⟨_, rfl⟩ := r1.str_inv | cases r1); (first | obtain ⟨_, rfl⟩ := r2.int_inv | obtain rfl := r2.nil_inv | obtain ⟨_, _, rfl, rfl⟩ := r2.bytes_inv | obtain rfl := r2.bool_inv | obtain rfl := r2.val_inv | obtain rfl := r2.own_inv | obtain ⟨_, rfl⟩ := r2.str_inv | cases r2); exact PyProof.Rows.mod_int' hj (post S (.int _ _) h)
theorem v_div {i j : Int} (hj : j ≠ 0) (hl : j.natAbs.log2 < 30) (h : Q (.int (i.fdiv j)) ρ κ) : V2 c (binaryOp .FloorDiv) (.int i) (.int j) ρ κ Q X := fun A fs E g R s v u G S hg r1 r2 => by
  (first | obtain ⟨_, rfl⟩ := r1.int_inv | obtain rfl := r1.nil_inv | obtain ⟨_, _, rfl, rfl⟩ := r1.bytes_inv | obtain rfl := r1.bool_inv | obtain rfl := r1.val_inv | obtain rfl := r1.own_inv | obtain ⟨_, rfl⟩ := r1.str_inv | cases r1); (first | obtain ⟨_, rfl⟩ := r2.int_inv | obtain rfl := r2.nil_inv | obtain ⟨_, _, rfl, rfl⟩ := r2.bytes_inv | obtain rfl := r2.bool_inv | obtain rfl := r2.val_inv | obtain rfl := r2.own_inv | obtain ⟨_, rfl⟩ := r2.str_inv | cases r2); exact PyProof.Rows.floordiv_int hj (post S (.int _ _) h) (.inl (PyProof.noPylong_of_log2 (by omega)))
theorem v_eq {i j : Int} (h : Q (.bool (i == j)) ρ κ) : V2 c (compareOp .Eq) (.int i) (.int j) ρ κ Q X := fun A fs E g R s v u G S hg r1 r2 => by
  (first | obtain ⟨_, rfl⟩ := r1.int_inv | obtain rfl := r1.nil_inv | obtain ⟨_, _, rfl, rfl⟩ := r1.bytes_inv | obtain rfl := r1.bool_inv | obtain rfl := r1.val_inv | obtain rfl := r1.own_inv | obtain ⟨_, rfl⟩ := r1.str_inv | cases r1); (first | obtain ⟨_, rfl⟩ := r2.int_inv | obtain rfl := r2.nil_inv | obtain ⟨_, _, rfl, rfl⟩ := r2.bytes_inv | obtain rfl := r2.bool_inv | obtain rfl := r2.val_inv | obtain rfl := r2.own_inv | obtain ⟨_, rfl⟩ := r2.str_inv | cases r2); exact PyProof.Rows.eq_int (post0 S (.bool _) h)
theorem v_ne {i j : Int} (h : Q (.bool (i != j)) ρ κ) : V2 c (compareOp .NotEq) (.int i) (.int j) ρ κ Q X := fun A fs E g R s v u G S hg r1 r2 => by
  (first | obtain ⟨_, rfl⟩ := r1.int_inv | obtain rfl := r1.nil_inv | obtain ⟨_, _, rfl, rfl⟩ := r1.bytes_inv | obtain rfl := r1.bool_inv | obtain rfl := r1.val_inv | obtain rfl := r1.own_inv | obtain ⟨_, rfl⟩ := r1.str_inv | cases r1); (first | obtain ⟨_, rfl⟩ := r2.int_inv | obtain rfl := r2.nil_inv | obtain ⟨_, _, rfl, rfl⟩ := r2.bytes_inv | obtain rfl := r2.bool_inv | obtain rfl := r2.val_inv | obtain rfl := r2.own_inv | obtain ⟨_, rfl⟩ := r2.str_inv | cases r2); exact PyProof.Rows.ne_int (post0 S (.bool _) h)
theorem v_lt {i j : Int} (h : Q (.bool (decide (i < j))) ρ κ) : V2 c (compareOp .Lt) (.int i) (.int j) ρ κ Q X := fun A fs E g R s v u G S hg r1 r2 => by
  (first | obtain ⟨_, rfl⟩ := r1.int_inv | obtain rfl := r1.nil_inv | obtain ⟨_, _, rfl, rfl⟩ := r1.bytes_inv | obtain rfl := r1.bool_inv | obtain rfl := r1.val_inv | obtain rfl := r1.own_inv | obtain ⟨_, rfl⟩ := r1.str_inv | cases r1); (first | obtain ⟨_, rfl⟩ := r2.int_inv | obtain rfl := r2.nil_inv | obtain ⟨_, _, rfl, rfl⟩ := r2.bytes_inv | obtain rfl := r2.bool_inv | obtain rfl := r2.val_inv | obtain rfl := r2.own_inv | obtain ⟨_, rfl⟩ := r2.str_inv | cases r2); exact PyProof.Rows.lt_int (post0 S (.bool _) h)
theorem v_le {i j : Int} (h : Q (.bool (decide (i ≤ j))) ρ κ) : V2 c (compareOp .LtE) (.int i) (.int j) ρ κ Q X := fun A fs E g R s v u G S hg r1 r2 => by
  (first | obtain ⟨_, rfl⟩ := r1.int_inv | obtain rfl := r1.nil_inv | obtain ⟨_, _, rfl, rfl⟩ := r1.bytes_inv | obtain rfl := r1.bool_inv | obtain rfl := r1.val_inv | obtain rfl := r1.own_inv | obtain ⟨_, rfl⟩ := r1.str_inv | cases r1); (first | obtain ⟨_, rfl⟩ := r2.int_inv | obtain rfl := r2.nil_inv | obtain ⟨_, _, rfl, rfl⟩ := r2.bytes_inv | obtain rfl := r2.bool_inv | obtain rfl := r2.val_inv | obtain rfl := r2.own_inv | obtain ⟨_, rfl⟩ := r2.str_inv | cases r2); exact PyProof.Rows.le_int (post0 S (.bool _) h)
theorem v_gt {i j : Int} (h : Q (.bool (decide (j < i))) ρ κ) : V2 c (compareOp .Gt) (.int i) (.int j) ρ κ Q X := fun A fs E g R s v u G S hg r1 r2 => by
  (first | obtain ⟨_, rfl⟩ := r1.int_inv | obtain rfl := r1.nil_inv | obtain ⟨_, _, rfl, rfl⟩ := r1.bytes_inv | obtain rfl := r1.bool_inv | obtain rfl := r1.val_inv | obtain rfl := r1.own_inv | obtain ⟨_, rfl⟩ := r1.str_inv | cases r1); (first | obtain ⟨_, rfl⟩ := r2.int_inv | obtain rfl := r2.nil_inv | obtain ⟨_, _, rfl, rfl⟩ := r2.bytes_inv | obtain rfl := r2.bool_inv | obtain rfl := r2.val_inv | obtain rfl := r2.own_inv | obtain ⟨_, rfl⟩ := r2.str_inv | cases r2); exact PyProof.Rows.gt_int (post0 S (.bool _) h)
theorem v_ge {i j : Int} (h : Q (.bool (decide (j ≤ i))) ρ κ) : V2 c (compareOp .GtE) (.int i) (.int j) ρ κ Q X := fun A fs E g R s v u G S hg r1 r2 => by
  (first | obtain ⟨_, rfl⟩ := r1.int_inv | obtain rfl := r1.nil_inv | obtain ⟨_, _, rfl, rfl⟩ := r1.bytes_inv | obtain rfl := r1.bool_inv | obtain rfl := r1.val_inv | obtain rfl := r1.own_inv | obtain ⟨_, rfl⟩ := r1.str_inv | cases r1); (first | obtain ⟨_, rfl⟩ := r2.int_inv | obtain rfl := r2.nil_inv | obtain ⟨_, _, rfl, rfl⟩ := r2.bytes_inv | obtain rfl := r2.bool_inv | obtain rfl := r2.val_inv | obtain rfl := r2.own_inv | obtain ⟨_, rfl⟩ := r2.str_inv | cases r2); exact PyProof.Rows.ge_int (post0 S (.bool _) h)
theorem v_neg {i : Int} (h : Q (.int (-i)) ρ κ) : V1 c (unaryOp .USub) (.int i) ρ κ Q X := fun A fs E g R s v G S hg r => by
  (first | obtain ⟨_, rfl⟩ := r.int_inv | obtain rfl := r.nil_inv | obtain ⟨_, _, rfl, rfl⟩ := r.bytes_inv | obtain rfl := r.bool_inv | obtain rfl := r.val_inv | obtain rfl := r.own_inv | obtain ⟨_, rfl⟩ := r.str_inv | cases r); exact PyProof.Rows.neg_int (post S (.int _ _) h)
theorem l_len_bytes {b : Bs} (hb : b.length ≤ 1099511627776) (h : Q (.int b.length) ρ κ) : VL c (callF (.builtin "len")) [.bytes b] ρ κ Q X := fun A fs E g R s vs G S hg r => by
  obtain ⟨_, rfl, r1⟩ := r.one_inv; (first | obtain ⟨_, rfl⟩ := r1.int_inv | obtain rfl := r1.nil_inv | obtain ⟨_, _, rfl, rfl⟩ := r1.bytes_inv | obtain rfl := r1.bool_inv | obtain rfl := r1.val_inv | obtain rfl := r1.own_inv | obtain ⟨_, rfl⟩ := r1.str_inv | cases r1)
  exact len_bytes (by simpa using hb) (post S (.int _ _) (by simpa using h))
theorem l_len_tup {l : List PV} (hl : l.length ≤ 1099511627776) (h : Q (.int l.length) ρ κ) : VL c (callF (.builtin "len")) [.tup l] ρ κ Q X := fun A fs E g R s vs G S hg r => by
  have S' := S
  obtain ⟨m, cs, S⟩ := S
  obtain ⟨_, rfl, r1⟩ := r.one_inv
  obtain ⟨a, o, vs, n, rfl, ho, hc, hd, hr⟩ := r1.tup_inv
  have e : vs.size = l.length := by have := hr.length; simpa using this
  exact PyProof.Rows.len_tuple ⟨o, S.lv.keep _ _ ho, hc, n, hd⟩ (by omega) (post S' (.int _ _) (by rw [e]; exact h))
theorem l_len_lst {l : List PV} (hl : l.length ≤ 1099511627776) (h : Q (.int l.length) ρ κ) : VL c (callF (.builtin "len")) [.lst l] ρ κ Q X := fun A fs E g R s vs G S hg r => by
  have S' := S
  obtain ⟨m, cs, S⟩ := S
  obtain ⟨_, rfl, r1⟩ := r.one_inv
  obtain ⟨a, o, vs, n, rfl, ho, hc, hd, hr⟩ := r1.lst_inv
  have e : vs.size = l.length := by have := hr.length; simpa using this
  exact call_len_list ⟨o, S.lv.keep _ _ ho, hc, n, hd⟩ (by omega) (post S' (.int _ _) (by rw [e]; exact h))
end

/-- names of the world: a built-in function or type -/
theorem e_bi {c : Jx} {ρ : Rho} {κ : Kap} {X : XP} {Q : PV → Rho → Kap → Prop} {x : Str} {pos : Pos} {v : Value} (hv : bootBuiltins x = some v) (hk : c.scope.names.lookup x = some .globalImplicit) (hd : (x == ("__debug__" : Str)) = false)
    (hn : (x == ("__name__" : Str)) = false) (e : nsIn (KF pw c.w.params) mainGlobals x = some none) (h : Q (.val v) ρ κ) : E1 c (.Name x pos) ρ κ Q X :=
  e_builtin hk hd e hv (fun q => by rw [q] at hn; simp at hn) h
theorem e_CallBi {c : Jx} {ρ : Rho} {κ : Kap} {X : XP} {Q : PV → Rho → Kap → Prop} {x : Str} {p pos : Pos} {es : List Expr} {f : Value} (hv : bootBuiltins x = some f) (hm : keeperOf f = pure .machine) (hk : c.scope.names.lookup x = some .globalImplicit) (hd : (x == ("__debug__" : Str)) = false)
    (hn : (x == ("__name__" : Str)) = false) (e : nsIn (KF pw c.w.params) mainGlobals x = some none) (hp : ∀ E, (backTo pos (starEach es E)).any (·.1) = false) (h : EL c pos es ρ κ (fun ps ρ2 κ2 => VL c (callF f) ps ρ2 κ2 Q X) X) : E1 c (.Call (.Name x p) es [] pos) ρ κ Q X :=
  e_CallName (keep_machine hm) hp (e_bi hv hk hd hn e ⟨rfl, h⟩)
/-- a built-in's name, that the text does not bind -/
structure BiIs (P : Params) (x : Str) (f : Value) : Prop where
  hv : bootBuiltins x = some f
  hm : keeperOf f = pure .machine
  hn : (x == ("__name__" : Str)) = false
  e : nsIn (KF pw P) mainGlobals x = some none
theorem e_CallBi2 {c : Jx} {ρ : Rho} {κ : Kap} {X : XP} {Q : PV → Rho → Kap → Prop} {x : Str} {p pos : Pos} {es : List Expr} {f : Value} (b : BiIs c.w.params x f) (hk : c.scope.names.lookup x = some .globalImplicit) (hd : (x == ("__debug__" : Str)) = false)
    (hp : ∀ E, (backTo pos (starEach es E)).any (·.1) = false) (h : EL c pos es ρ κ (fun ps ρ2 κ2 => VL c (callF f) ps ρ2 κ2 Q X) X) : E1 c (.Call (.Name x p) es [] pos) ρ κ Q X := e_CallBi b.hv b.hm hk hd b.hn b.e hp h
theorem b_Name {c : Jx} {ρ : Rho} {κ : Kap} {X : XP} {x : Str} {p : Pos} {Q : Bool → Rho → Kap → Prop} (h : E1 c (.Name x p) ρ κ (fun a ρ1 κ1 => T1 c a ρ1 κ1 Q X) X) : B1 c (.Name x p) ρ κ Q X := b_plain (fun _ _ => rfl) h
theorem b_Call {c : Jx} {ρ : Rho} {κ : Kap} {X : XP} {f : Expr} {as : List Expr} {ks : List Keyword} {p : Pos} {Q : Bool → Rho → Kap → Prop} (h : E1 c (.Call f as ks p) ρ κ (fun a ρ1 κ1 => T1 c a ρ1 κ1 Q X) X) : B1 c (.Call f as ks p) ρ κ Q X := b_plain (fun _ _ => rfl) h
theorem e_CallDef {c : Jx} {ρ : Rho} {κ : Kap} {X : XP} {Q : PV → Rho → Kap → Prop} {x : Str} {p pos : Pos} {es : List Expr} {a : Addr} (e : nsIn (KF pw c.w.params) mainGlobals x = some (some (.ref a))) (hm : keepIn (KF pw c.w.params) (.ref a) = true) (hk : c.scope.names.lookup x = some .globalImplicit) (hd : (x == ("__debug__" : Str)) = false)
    (hp : ∀ E, (backTo pos (starEach es E)).any (·.1) = false) (h : EL c pos es ρ κ (fun ps ρ2 κ2 => VL c (callF (.ref a)) ps ρ2 κ2 Q X) X) : E1 c (.Call (.Name x p) es [] pos) ρ κ Q X :=
  e_CallName (keep_ref hm) hp (e_global hk hd e (fun _ _ => .val _) ⟨rfl, h⟩)
theorem upd_neb {ρ : Rho} {x y : Str} {p : PV} {r : Option PV} (h : (y == x) = false) (e : ρ y = r) : upd ρ x p y = r := upd_ne (fun q => by rw [q] at h; simp at h) e
theorem binds_same (x : Str) (ns : List Str) (p : PV) (ps : List PV) : binds (x :: ns) (p :: ps) x = some p := by simp [binds]
theorem binds_neb {x y : Str} {ns : List Str} {p : PV} {ps : List PV} {r : Option PV} (h : (y == x) = false) (e : binds ns ps y = r) : binds (x :: ns) (p :: ps) y = r := by simpa [binds, List.lookup_cons, h] using e

/-- the looks at a def's scope -/
noncomputable def fnOk (sc : Scope) (ns : List Str) : Bool := decide ns.Nodup && ns.all (fun x => sc.names.lookup x == some .local) && sc.names.all (fun x => x.2 != .cell) && sc.kind == .function && !sc.isCoroutine && !sc.isGenerator
theorem fnOk_of {sc : Scope} {ns : List Str} (h : fnOk sc ns = true) : ns.Nodup ∧ (∀ x ∈ ns, sc.names.lookup x = some .local) ∧ (∀ x ∈ sc.names, x.2 ≠ .cell) ∧ sc.kind = .function ∧ sc.isCoroutine = false ∧ sc.isGenerator = false := by
  simp only [fnOk, Bool.and_eq_true, decide_eq_true_eq, List.all_eq_true, beq_iff_eq, Bool.not_eq_true', bne_iff_ne, ne_eq] at h
  obtain ⟨⟨⟨⟨⟨a, b⟩, c⟩, d⟩, e⟩, f⟩ := h
  exact ⟨a, b, c, d, e, f⟩
theorem ct_fn {w : World} {st : Stmt} {name qual : Str} {dV pm : Value} {cd a : Addr} (ns : List Str) {ps : List PV} {n : Nat} {Q : PV → Prop} {X : Addr → Prop}
    (hK : (KF pw w.params).lookup a = some (fn st name qual dV pm cd)) (hcd : codeIn (KF pw w.params) (.ref cd) qual = true)
    (hbind : ∀ vs : List Value, vs.length = ns.length → bindArgs (fobj name qual (fnP st) (fnB st) (fnS st) dV pm cd) ⟨vs, []⟩ = pure (ns.zip vs)) (ok : fnOk (fnS st) ns = true) (hlen : ns.length = ps.length)
    (hbody : CS ⟨w, fnS st, n, true⟩ (fnB st) (binds ns ps) [] (QB Q) (fun C _ _ => X C)) : CT w (.ref a) ps (n + 1) Q X :=
  let ⟨a1, a2, a3, a4, a5, a6⟩ := fnOk_of ok
  ct_def ns hK hcd hlen hbind a1 a2 a3 a4 a5 a6 hbody
end Mine

/-! # L6 -/
namespace Mine
open PySem PySem.W PyProof.Rows PySem.Calls
set_option Elab.async false
set_option maxRecDepth 100000
set_option linter.unusedVariables false
/-! ## The defs' entries and the names of the text (printed by GenD, mkL6) -/
theorem lenS {n : Nat} {P : List Value → Prop} (h : ∀ a ws, ws.length = n → P (a :: ws)) : ∀ vs, vs.length = n + 1 → P vs := fun vs => List.casesOn vs (fun e => absurd e (Nat.succ_ne_zero n).symm) fun a ws e => h a ws (Nat.succ.inj e)
theorem len0 {P : List Value → Prop} (h : P []) : ∀ vs, vs.length = 0 → P vs := fun vs e => List.eq_nil_of_length_eq_zero e ▸ h
theorem len1 {P : List Value → Prop} (h : ∀ a, P [a]) : ∀ vs, vs.length = 1 → P vs := lenS fun a => len0 (P := fun ws => P (a :: ws)) (h a)
theorem len2 {P : List Value → Prop} (h : ∀ a b, P [a, b]) : ∀ vs, vs.length = 2 → P vs := lenS fun a => len1 (P := fun ws => P (a :: ws)) (h a)
theorem len3 {P : List Value → Prop} (h : ∀ a b c, P [a, b, c]) : ∀ vs, vs.length = 3 → P vs := lenS fun a => len2 (P := fun ws => P (a :: ws)) (h a)
theorem len4 {P : List Value → Prop} (h : ∀ a b c d, P [a, b, c, d]) : ∀ vs, vs.length = 4 → P vs := lenS fun a => len3 (P := fun ws => P (a :: ws)) (h a)
theorem d_validatelabels {w : World} {n : Nat} {p0 : PV} {Q : PV → Prop} {X : Addr → Prop} (h : CS ⟨w, fnS (stAt pw 14), n, true⟩ (fnB (stAt pw 14)) (binds [S "labels"] [p0]) [] (QB Q) (fun C _ _ => X C)) : CT w (.ref 163) [p0] (n + 1) Q X :=
  ct_fn [S "labels"] (st := (stAt pw 14)) (name := S "_validate_labels") (qual := S "_validate_labels") (dV := .none) (pm := (.str (S "dns.name") 248)) (cd := 162) (by kernel_rfl) (by kernel_rfl) (len1 fun v0 => by kernel_rfl) (by kernel_rfl) rfl h
theorem d_maybeconverttobinary {w : World} {n : Nat} {p0 : PV} {Q : PV → Prop} {X : Addr → Prop} (h : CS ⟨w, fnS (stAt pw 15), n, true⟩ (fnB (stAt pw 15)) (binds [S "label"] [p0]) [] (QB Q) (fun C _ _ => X C)) : CT w (.ref 170) [p0] (n + 1) Q X :=
  ct_fn [S "label"] (st := (stAt pw 15)) (name := S "_maybe_convert_to_binary") (qual := S "_maybe_convert_to_binary") (dV := .none) (pm := (.str (S "dns.name") 248)) (cd := 169) (by kernel_rfl) (by kernel_rfl) (len1 fun v0 => by kernel_rfl) (by kernel_rfl) rfl h
theorem d_minit {w : World} {n : Nat} {p0 p1 : PV} {Q : PV → Prop} {X : Addr → Prop} (h : CS ⟨w, fnS (subAt (stAt pw 16) 0), n, true⟩ (fnB (subAt (stAt pw 16) 0)) (binds [S "self", S "labels"] [p0, p1]) [] (QB Q) (fun C _ _ => X C)) : CT w (.ref 182) [p0, p1] (n + 1) Q X :=
  ct_fn [S "self", S "labels"] (st := (subAt (stAt pw 16) 0)) (name := S "__init__") (qual := S "Name.__init__") (dV := .none) (pm := (.str (S "dns.name") 248)) (cd := 181) (by kernel_rfl) (by kernel_rfl) (len2 fun v0 v1 => by kernel_rfl) (by kernel_rfl) rfl h
theorem d_misabsolute {w : World} {n : Nat} {p0 : PV} {Q : PV → Prop} {X : Addr → Prop} (h : CS ⟨w, fnS (subAt (stAt pw 16) 1), n, true⟩ (fnB (subAt (stAt pw 16) 1)) (binds [S "self"] [p0]) [] (QB Q) (fun C _ _ => X C)) : CT w (.ref 189) [p0] (n + 1) Q X :=
  ct_fn [S "self"] (st := (subAt (stAt pw 16) 1)) (name := S "is_absolute") (qual := S "Name.is_absolute") (dV := .none) (pm := (.str (S "dns.name") 248)) (cd := 188) (by kernel_rfl) (by kernel_rfl) (len1 fun v0 => by kernel_rfl) (by kernel_rfl) rfl h
theorem d_mfullcompare {w : World} {n : Nat} {p0 p1 : PV} {Q : PV → Prop} {X : Addr → Prop} (h : CS ⟨w, fnS (subAt (stAt pw 16) 3), n, true⟩ (fnB (subAt (stAt pw 16) 3)) (binds [S "self", S "other"] [p0, p1]) [] (QB Q) (fun C _ _ => X C)) : CT w (.ref 203) [p0, p1] (n + 1) Q X :=
  ct_fn [S "self", S "other"] (st := (subAt (stAt pw 16) 3)) (name := S "fullcompare") (qual := S "Name.fullcompare") (dV := .none) (pm := (.str (S "dns.name") 248)) (cd := 202) (by kernel_rfl) (by kernel_rfl) (len2 fun v0 v1 => by kernel_rfl) (by kernel_rfl) rfl h
theorem d_missubdomain {w : World} {n : Nat} {p0 p1 : PV} {Q : PV → Prop} {X : Addr → Prop} (h : CS ⟨w, fnS (subAt (stAt pw 16) 4), n, true⟩ (fnB (subAt (stAt pw 16) 4)) (binds [S "self", S "other"] [p0, p1]) [] (QB Q) (fun C _ _ => X C)) : CT w (.ref 210) [p0, p1] (n + 1) Q X :=
  ct_fn [S "self", S "other"] (st := (subAt (stAt pw 16) 4)) (name := S "is_subdomain") (qual := S "Name.is_subdomain") (dV := .none) (pm := (.str (S "dns.name") 248)) (cd := 209) (by kernel_rfl) (by kernel_rfl) (len2 fun v0 v1 => by kernel_rfl) (by kernel_rfl) rfl h
theorem d_meq {w : World} {n : Nat} {p0 p1 : PV} {Q : PV → Prop} {X : Addr → Prop} (h : CS ⟨w, fnS (subAt (stAt pw 16) 7), n, true⟩ (fnB (subAt (stAt pw 16) 7)) (binds [S "self", S "other"] [p0, p1]) [] (QB Q) (fun C _ _ => X C)) : CT w (.ref 231) [p0, p1] (n + 1) Q X :=
  ct_fn [S "self", S "other"] (st := (subAt (stAt pw 16) 7)) (name := S "__eq__") (qual := S "Name.__eq__") (dV := .none) (pm := (.str (S "dns.name") 248)) (cd := 230) (by kernel_rfl) (by kernel_rfl) (len2 fun v0 v1 => by kernel_rfl) (by kernel_rfl) rfl h
theorem d_mne {w : World} {n : Nat} {p0 p1 : PV} {Q : PV → Prop} {X : Addr → Prop} (h : CS ⟨w, fnS (subAt (stAt pw 16) 8), n, true⟩ (fnB (subAt (stAt pw 16) 8)) (binds [S "self", S "other"] [p0, p1]) [] (QB Q) (fun C _ _ => X C)) : CT w (.ref 238) [p0, p1] (n + 1) Q X :=
  ct_fn [S "self", S "other"] (st := (subAt (stAt pw 16) 8)) (name := S "__ne__") (qual := S "Name.__ne__") (dV := .none) (pm := (.str (S "dns.name") 248)) (cd := 237) (by kernel_rfl) (by kernel_rfl) (len2 fun v0 v1 => by kernel_rfl) (by kernel_rfl) rfl h
theorem d_mlen {w : World} {n : Nat} {p0 : PV} {Q : PV → Prop} {X : Addr → Prop} (h : CS ⟨w, fnS (subAt (stAt pw 16) 17), n, true⟩ (fnB (subAt (stAt pw 16) 17)) (binds [S "self"] [p0]) [] (QB Q) (fun C _ _ => X C)) : CT w (.ref 304) [p0] (n + 1) Q X :=
  ct_fn [S "self"] (st := (subAt (stAt pw 16) 17)) (name := S "__len__") (qual := S "Name.__len__") (dV := .none) (pm := (.str (S "dns.name") 248)) (cd := 303) (by kernel_rfl) (by kernel_rfl) (len1 fun v0 => by kernel_rfl) (by kernel_rfl) rfl h
theorem d_mgetitem {w : World} {n : Nat} {p0 p1 : PV} {Q : PV → Prop} {X : Addr → Prop} (h : CS ⟨w, fnS (subAt (stAt pw 16) 18), n, true⟩ (fnB (subAt (stAt pw 16) 18)) (binds [S "self", S "index"] [p0, p1]) [] (QB Q) (fun C _ _ => X C)) : CT w (.ref 311) [p0, p1] (n + 1) Q X :=
  ct_fn [S "self", S "index"] (st := (subAt (stAt pw 16) 18)) (name := S "__getitem__") (qual := S "Name.__getitem__") (dV := .none) (pm := (.str (S "dns.name") 248)) (cd := 310) (by kernel_rfl) (by kernel_rfl) (len2 fun v0 v1 => by kernel_rfl) (by kernel_rfl) rfl h
theorem d_mconcatenate {w : World} {n : Nat} {p0 p1 : PV} {Q : PV → Prop} {X : Addr → Prop} (h : CS ⟨w, fnS (subAt (stAt pw 16) 22), n, true⟩ (fnB (subAt (stAt pw 16) 22)) (binds [S "self", S "other"] [p0, p1]) [] (QB Q) (fun C _ _ => X C)) : CT w (.ref 339) [p0, p1] (n + 1) Q X :=
  ct_fn [S "self", S "other"] (st := (subAt (stAt pw 16) 22)) (name := S "concatenate") (qual := S "Name.concatenate") (dV := .none) (pm := (.str (S "dns.name") 248)) (cd := 338) (by kernel_rfl) (by kernel_rfl) (len2 fun v0 v1 => by kernel_rfl) (by kernel_rfl) rfl h
theorem d_mrelativize {w : World} {n : Nat} {p0 p1 : PV} {Q : PV → Prop} {X : Addr → Prop} (h : CS ⟨w, fnS (subAt (stAt pw 16) 23), n, true⟩ (fnB (subAt (stAt pw 16) 23)) (binds [S "self", S "origin"] [p0, p1]) [] (QB Q) (fun C _ _ => X C)) : CT w (.ref 346) [p0, p1] (n + 1) Q X :=
  ct_fn [S "self", S "origin"] (st := (subAt (stAt pw 16) 23)) (name := S "relativize") (qual := S "Name.relativize") (dV := .none) (pm := (.str (S "dns.name") 248)) (cd := 345) (by kernel_rfl) (by kernel_rfl) (len2 fun v0 v1 => by kernel_rfl) (by kernel_rfl) rfl h
theorem d_mderelativize {w : World} {n : Nat} {p0 p1 : PV} {Q : PV → Prop} {X : Addr → Prop} (h : CS ⟨w, fnS (subAt (stAt pw 16) 24), n, true⟩ (fnB (subAt (stAt pw 16) 24)) (binds [S "self", S "origin"] [p0, p1]) [] (QB Q) (fun C _ _ => X C)) : CT w (.ref 353) [p0, p1] (n + 1) Q X :=
  ct_fn [S "self", S "origin"] (st := (subAt (stAt pw 16) 24)) (name := S "derelativize") (qual := S "Name.derelativize") (dV := .none) (pm := (.str (S "dns.name") 248)) (cd := 352) (by kernel_rfl) (by kernel_rfl) (len2 fun v0 v1 => by kernel_rfl) (by kernel_rfl) rfl h
theorem d_mparent {w : World} {n : Nat} {p0 : PV} {Q : PV → Prop} {X : Addr → Prop} (h : CS ⟨w, fnS (subAt (stAt pw 16) 26), n, true⟩ (fnB (subAt (stAt pw 16) 26)) (binds [S "self"] [p0]) [] (QB Q) (fun C _ _ => X C)) : CT w (.ref 368) [p0] (n + 1) Q X :=
  ct_fn [S "self"] (st := (subAt (stAt pw 16) 26)) (name := S "parent") (qual := S "Name.parent") (dV := .none) (pm := (.str (S "dns.name") 248)) (cd := 367) (by kernel_rfl) (by kernel_rfl) (len1 fun v0 => by kernel_rfl) (by kernel_rfl) rfl h
-- defaults: Name.predecessor 376 (subAt (stAt pw 16) 27) [S "self", S "origin", S "prefix_ok"] (.ref 369) (.str (S "dns.name") 248) 375
-- defaults: Name.successor 384 (subAt (stAt pw 16) 28) [S "self", S "origin", S "prefix_ok"] (.ref 377) (.str (S "dns.name") 248) 383
theorem d_wirelength {w : World} {n : Nat} {p0 : PV} {Q : PV → Prop} {X : Addr → Prop} (h : CS ⟨w, fnS (stAt pw 26), n, true⟩ (fnB (stAt pw 26)) (binds [S "labels"] [p0]) [] (QB Q) (fun C _ _ => X C)) : CT w (.ref 445) [p0] (n + 1) Q X :=
  ct_fn [S "labels"] (st := (stAt pw 26)) (name := S "_wire_length") (qual := S "_wire_length") (dV := .none) (pm := (.str (S "dns.name") 248)) (cd := 444) (by kernel_rfl) (by kernel_rfl) (len1 fun v0 => by kernel_rfl) (by kernel_rfl) rfl h
theorem d_padtomaxname {w : World} {n : Nat} {p0 : PV} {Q : PV → Prop} {X : Addr → Prop} (h : CS ⟨w, fnS (stAt pw 27), n, true⟩ (fnB (stAt pw 27)) (binds [S "name"] [p0]) [] (QB Q) (fun C _ _ => X C)) : CT w (.ref 452) [p0] (n + 1) Q X :=
  ct_fn [S "name"] (st := (stAt pw 27)) (name := S "_pad_to_max_name") (qual := S "_pad_to_max_name") (dV := .none) (pm := (.str (S "dns.name") 248)) (cd := 451) (by kernel_rfl) (by kernel_rfl) (len1 fun v0 => by kernel_rfl) (by kernel_rfl) rfl h
theorem d_padtomaxlabel {w : World} {n : Nat} {p0 p1 : PV} {Q : PV → Prop} {X : Addr → Prop} (h : CS ⟨w, fnS (stAt pw 28), n, true⟩ (fnB (stAt pw 28)) (binds [S "label", S "suffix_labels"] [p0, p1]) [] (QB Q) (fun C _ _ => X C)) : CT w (.ref 459) [p0, p1] (n + 1) Q X :=
  ct_fn [S "label", S "suffix_labels"] (st := (stAt pw 28)) (name := S "_pad_to_max_label") (qual := S "_pad_to_max_label") (dV := .none) (pm := (.str (S "dns.name") 248)) (cd := 458) (by kernel_rfl) (by kernel_rfl) (len2 fun v0 v1 => by kernel_rfl) (by kernel_rfl) rfl h
theorem d_absolutepredecessor {w : World} {n : Nat} {p0 p1 p2 : PV} {Q : PV → Prop} {X : Addr → Prop} (h : CS ⟨w, fnS (stAt pw 29), n, true⟩ (fnB (stAt pw 29)) (binds [S "name", S "origin", S "prefix_ok"] [p0, p1, p2]) [] (QB Q) (fun C _ _ => X C)) : CT w (.ref 466) [p0, p1, p2] (n + 1) Q X :=
  ct_fn [S "name", S "origin", S "prefix_ok"] (st := (stAt pw 29)) (name := S "_absolute_predecessor") (qual := S "_absolute_predecessor") (dV := .none) (pm := (.str (S "dns.name") 248)) (cd := 465) (by kernel_rfl) (by kernel_rfl) (len3 fun v0 v1 v2 => by kernel_rfl) (by kernel_rfl) rfl h
theorem d_absolutesuccessor {w : World} {n : Nat} {p0 p1 p2 : PV} {Q : PV → Prop} {X : Addr → Prop} (h : CS ⟨w, fnS (stAt pw 30), n, true⟩ (fnB (stAt pw 30)) (binds [S "name", S "origin", S "prefix_ok"] [p0, p1, p2]) [] (QB Q) (fun C _ _ => X C)) : CT w (.ref 473) [p0, p1, p2] (n + 1) Q X :=
  ct_fn [S "name", S "origin", S "prefix_ok"] (st := (stAt pw 30)) (name := S "_absolute_successor") (qual := S "_absolute_successor") (dV := .none) (pm := (.str (S "dns.name") 248)) (cd := 472) (by kernel_rfl) (by kernel_rfl) (len3 fun v0 v1 v2 => by kernel_rfl) (by kernel_rfl) rfl h
theorem d_handlerelativityandcall {w : World} {n : Nat} {p0 p1 p2 p3 : PV} {Q : PV → Prop} {X : Addr → Prop} (h : CS ⟨w, fnS (stAt pw 31), n, true⟩ (fnB (stAt pw 31)) (binds [S "onward", S "name", S "origin", S "prefix_ok"] [p0, p1, p2, p3]) [] (QB Q) (fun C _ _ => X C)) : CT w (.ref 480) [p0, p1, p2, p3] (n + 1) Q X :=
  ct_fn [S "onward", S "name", S "origin", S "prefix_ok"] (st := (stAt pw 31)) (name := S "_handle_relativity_and_call") (qual := S "_handle_relativity_and_call") (dV := .none) (pm := (.str (S "dns.name") 248)) (cd := 479) (by kernel_rfl) (by kernel_rfl) (len4 fun v0 v1 v2 v3 => by kernel_rfl) (by kernel_rfl) rfl h
theorem d_lawoctets {w : World} {n : Nat} {p0 : PV} {Q : PV → Prop} {X : Addr → Prop} (h : CS ⟨w, fnS (stAt pw 33), n, true⟩ (fnB (stAt pw 33)) (binds [S "number"] [p0]) [] (QB Q) (fun C _ _ => X C)) : CT w (.ref 487) [p0] (n + 1) Q X :=
  ct_fn [S "number"] (st := (stAt pw 33)) (name := S "_law_octets") (qual := S "_law_octets") (dV := .none) (pm := (.str (S "law_jf0016_01") 858)) (cd := 486) (by kernel_rfl) (by kernel_rfl) (len1 fun v0 => by kernel_rfl) (by kernel_rfl) rfl h
theorem d_lawlabel {w : World} {n : Nat} {p0 p1 : PV} {Q : PV → Prop} {X : Addr → Prop} (h : CS ⟨w, fnS (stAt pw 34), n, true⟩ (fnB (stAt pw 34)) (binds [S "number", S "room"] [p0, p1]) [] (QB Q) (fun C _ _ => X C)) : CT w (.ref 494) [p0, p1] (n + 1) Q X :=
  ct_fn [S "number", S "room"] (st := (stAt pw 34)) (name := S "_law_label") (qual := S "_law_label") (dV := .none) (pm := (.str (S "law_jf0016_01") 858)) (cd := 493) (by kernel_rfl) (by kernel_rfl) (len2 fun v0 v1 => by kernel_rfl) (by kernel_rfl) rfl h
theorem d_lawsize {w : World} {n : Nat} {p0 : PV} {Q : PV → Prop} {X : Addr → Prop} (h : CS ⟨w, fnS (stAt pw 35), n, true⟩ (fnB (stAt pw 35)) (binds [S "labels"] [p0]) [] (QB Q) (fun C _ _ => X C)) : CT w (.ref 499) [p0] (n + 1) Q X :=
  ct_fn [S "labels"] (st := (stAt pw 35)) (name := S "_law_size") (qual := S "_law_size") (dV := .none) (pm := (.str (S "law_jf0016_01") 858)) (cd := 498) (by kernel_rfl) (by kernel_rfl) (len1 fun v0 => by kernel_rfl) (by kernel_rfl) rfl h
theorem d_lawname {w : World} {n : Nat} {p0 p1 : PV} {Q : PV → Prop} {X : Addr → Prop} (h : CS ⟨w, fnS (stAt pw 36), n, true⟩ (fnB (stAt pw 36)) (binds [S "numbers", S "suffix"] [p0, p1]) [] (QB Q) (fun C _ _ => X C)) : CT w (.ref 506) [p0, p1] (n + 1) Q X :=
  ct_fn [S "numbers", S "suffix"] (st := (stAt pw 36)) (name := S "_law_name") (qual := S "_law_name") (dV := .none) (pm := (.str (S "law_jf0016_01") 858)) (cd := 505) (by kernel_rfl) (by kernel_rfl) (len2 fun v0 v1 => by kernel_rfl) (by kernel_rfl) rfl h
theorem d_lawless {w : World} {n : Nat} {p0 p1 : PV} {Q : PV → Prop} {X : Addr → Prop} (h : CS ⟨w, fnS (stAt pw 37), n, true⟩ (fnB (stAt pw 37)) (binds [S "one", S "other"] [p0, p1]) [] (QB Q) (fun C _ _ => X C)) : CT w (.ref 513) [p0, p1] (n + 1) Q X :=
  ct_fn [S "one", S "other"] (st := (stAt pw 37)) (name := S "_law_less") (qual := S "_law_less") (dV := .none) (pm := (.str (S "law_jf0016_01") 858)) (cd := 512) (by kernel_rfl) (by kernel_rfl) (len2 fun v0 v1 => by kernel_rfl) (by kernel_rfl) rfl h
theorem d_lawunder {w : World} {n : Nat} {p0 p1 : PV} {Q : PV → Prop} {X : Addr → Prop} (h : CS ⟨w, fnS (stAt pw 38), n, true⟩ (fnB (stAt pw 38)) (binds [S "one", S "other"] [p0, p1]) [] (QB Q) (fun C _ _ => X C)) : CT w (.ref 520) [p0, p1] (n + 1) Q X :=
  ct_fn [S "one", S "other"] (st := (stAt pw 38)) (name := S "_law_under") (qual := S "_law_under") (dV := .none) (pm := (.str (S "law_jf0016_01") 858)) (cd := 519) (by kernel_rfl) (by kernel_rfl) (len2 fun v0 v1 => by kernel_rfl) (by kernel_rfl) rfl h
theorem d_lawfits {w : World} {n : Nat} {p0 p1 : PV} {Q : PV → Prop} {X : Addr → Prop} (h : CS ⟨w, fnS (stAt pw 39), n, true⟩ (fnB (stAt pw 39)) (binds [S "labels", S "origin"] [p0, p1]) [] (QB Q) (fun C _ _ => X C)) : CT w (.ref 527) [p0, p1] (n + 1) Q X :=
  ct_fn [S "labels", S "origin"] (st := (stAt pw 39)) (name := S "_law_fits") (qual := S "_law_fits") (dV := .none) (pm := (.str (S "law_jf0016_01") 858)) (cd := 526) (by kernel_rfl) (by kernel_rfl) (len2 fun v0 v1 => by kernel_rfl) (by kernel_rfl) rfl h
-- cells: _law_near
theorem d_lawrefused {w : World} {n : Nat} {p0 p1 p2 : PV} {Q : PV → Prop} {X : Addr → Prop} (h : CS ⟨w, fnS (stAt pw 41), n, true⟩ (fnB (stAt pw 41)) (binds [S "name", S "origin", S "onward"] [p0, p1, p2]) [] (QB Q) (fun C _ _ => X C)) : CT w (.ref 539) [p0, p1, p2] (n + 1) Q X :=
  ct_fn [S "name", S "origin", S "onward"] (st := (stAt pw 41)) (name := S "_law_refused") (qual := S "_law_refused") (dV := .none) (pm := (.str (S "law_jf0016_01") 858)) (cd := 538) (by kernel_rfl) (by kernel_rfl) (len3 fun v0 v1 v2 => by kernel_rfl) (by kernel_rfl) rfl h
theorem d_lawbetween {w : World} {n : Nat} {p0 p1 p2 p3 : PV} {Q : PV → Prop} {X : Addr → Prop} (h : CS ⟨w, fnS (stAt pw 42), n, true⟩ (fnB (stAt pw 42)) (binds [S "name", S "rows", S "origin", S "other"] [p0, p1, p2, p3]) [] (QB Q) (fun C _ _ => X C)) : CT w (.ref 546) [p0, p1, p2, p3] (n + 1) Q X :=
  ct_fn [S "name", S "rows", S "origin", S "other"] (st := (stAt pw 42)) (name := S "_law_between") (qual := S "_law_between") (dV := .none) (pm := (.str (S "law_jf0016_01") 858)) (cd := 545) (by kernel_rfl) (by kernel_rfl) (len4 fun v0 v1 v2 v3 => by kernel_rfl) (by kernel_rfl) rfl h
-- cells: law
theorem g_validatelabels (P : Params) : nsIn (KF pw P) mainGlobals (S "_validate_labels") = some (some (.ref 163)) := by kernel_rfl
theorem g_maybeconverttobinary (P : Params) : nsIn (KF pw P) mainGlobals (S "_maybe_convert_to_binary") = some (some (.ref 170)) := by kernel_rfl
theorem g_Name (P : Params) : nsIn (KF pw P) mainGlobals (S "Name") = some (some (.ref 387)) := by kernel_rfl
theorem g_root (P : Params) : nsIn (KF pw P) mainGlobals (S "root") = some (some (.ref 394)) := by kernel_rfl
theorem g_empty (P : Params) : nsIn (KF pw P) mainGlobals (S "empty") = some (some (.ref 410)) := by kernel_rfl
theorem g_SUCCESSORPREFIX (P : Params) : nsIn (KF pw P) mainGlobals (S "_SUCCESSOR_PREFIX") = some (some (.ref 425)) := by kernel_rfl
theorem g_NameRelation (P : Params) : nsIn (KF pw P) mainGlobals (S "NameRelation") = some (some (.ref 68)) := by kernel_rfl
theorem g_NeedAbsoluteNameOrOrigin (P : Params) : nsIn (KF pw P) mainGlobals (S "NeedAbsoluteNameOrOrigin") = some (some (.ref 94)) := by kernel_rfl
theorem g_NameTooLong (P : Params) : nsIn (KF pw P) mainGlobals (S "NameTooLong") = some (some (.ref 106)) := by kernel_rfl
theorem g_NeedSubdomainOfOrigin (P : Params) : nsIn (KF pw P) mainGlobals (S "NeedSubdomainOfOrigin") = some (some (.ref 154)) := by kernel_rfl
theorem g_wirelength (P : Params) : nsIn (KF pw P) mainGlobals (S "_wire_length") = some (some (.ref 445)) := by kernel_rfl
theorem g_padtomaxname (P : Params) : nsIn (KF pw P) mainGlobals (S "_pad_to_max_name") = some (some (.ref 452)) := by kernel_rfl
theorem g_padtomaxlabel (P : Params) : nsIn (KF pw P) mainGlobals (S "_pad_to_max_label") = some (some (.ref 459)) := by kernel_rfl
theorem g_absolutepredecessor (P : Params) : nsIn (KF pw P) mainGlobals (S "_absolute_predecessor") = some (some (.ref 466)) := by kernel_rfl
theorem g_absolutesuccessor (P : Params) : nsIn (KF pw P) mainGlobals (S "_absolute_successor") = some (some (.ref 473)) := by kernel_rfl
theorem g_handlerelativityandcall (P : Params) : nsIn (KF pw P) mainGlobals (S "_handle_relativity_and_call") = some (some (.ref 480)) := by kernel_rfl
theorem g_lawoctets (P : Params) : nsIn (KF pw P) mainGlobals (S "_law_octets") = some (some (.ref 487)) := by kernel_rfl
theorem g_lawlabel (P : Params) : nsIn (KF pw P) mainGlobals (S "_law_label") = some (some (.ref 494)) := by kernel_rfl
theorem g_lawsize (P : Params) : nsIn (KF pw P) mainGlobals (S "_law_size") = some (some (.ref 499)) := by kernel_rfl
theorem g_lawname (P : Params) : nsIn (KF pw P) mainGlobals (S "_law_name") = some (some (.ref 506)) := by kernel_rfl
theorem g_lawless (P : Params) : nsIn (KF pw P) mainGlobals (S "_law_less") = some (some (.ref 513)) := by kernel_rfl
theorem g_lawunder (P : Params) : nsIn (KF pw P) mainGlobals (S "_law_under") = some (some (.ref 520)) := by kernel_rfl
theorem g_lawfits (P : Params) : nsIn (KF pw P) mainGlobals (S "_law_fits") = some (some (.ref 527)) := by kernel_rfl
theorem g_lawnear (P : Params) : nsIn (KF pw P) mainGlobals (S "_law_near") = some (some (.ref 532)) := by kernel_rfl
theorem g_lawrefused (P : Params) : nsIn (KF pw P) mainGlobals (S "_law_refused") = some (some (.ref 539)) := by kernel_rfl
theorem g_lawbetween (P : Params) : nsIn (KF pw P) mainGlobals (S "_law_between") = some (some (.ref 546)) := by kernel_rfl
theorem g_law (P : Params) : nsIn (KF pw P) mainGlobals (S "law") = some (some (.ref 551)) := by kernel_rfl
theorem g_MINIMALOCTET (P : Params) : nsIn (KF pw P) mainGlobals (S "_MINIMAL_OCTET") = some (some (.bytes #[0] 740)) := by kernel_rfl
theorem g_MINIMALOCTETVALUE (P : Params) : nsIn (KF pw P) mainGlobals (S "_MINIMAL_OCTET_VALUE") = some (some (.int 0 742)) := by kernel_rfl
theorem g_MAXIMALOCTET (P : Params) : nsIn (KF pw P) mainGlobals (S "_MAXIMAL_OCTET") = some (some (.bytes #[255] 780)) := by kernel_rfl
theorem g_MAXIMALOCTETVALUE (P : Params) : nsIn (KF pw P) mainGlobals (S "_MAXIMAL_OCTET_VALUE") = some (some (.int 255 782)) := by kernel_rfl
theorem g_ATSIGNVALUE (P : Params) : nsIn (KF pw P) mainGlobals (S "_AT_SIGN_VALUE") = some (some (.int 64 784)) := by kernel_rfl
theorem g_LEFTSQUAREBRACKETVALUE (P : Params) : nsIn (KF pw P) mainGlobals (S "_LEFT_SQUARE_BRACKET_VALUE") = some (some (.int 91 786)) := by kernel_rfl
theorem n_len (P : Params) : BiIs P (S "len") (.builtin "len") := ⟨PyProof.Rows.Boot.«len», rfl, by kernel_rfl, by kernel_rfl⟩
theorem n_list (P : Params) : BiIs P (S "list") (.type "list") := ⟨PyProof.Rows.Boot.«list», rfl, by kernel_rfl, by kernel_rfl⟩
theorem n_bytes (P : Params) : BiIs P (S "bytes") (.type "bytes") := ⟨PyProof.Rows.Boot.«bytes», rfl, by kernel_rfl, by kernel_rfl⟩
theorem n_range (P : Params) : BiIs P (S "range") (.type "range") := ⟨PyProof.Rows.Boot.«range», rfl, by kernel_rfl, by kernel_rfl⟩
theorem n_min (P : Params) : BiIs P (S "min") (.builtin "min") := ⟨PyProof.Rows.Boot.«min», rfl, by kernel_rfl, by kernel_rfl⟩
theorem n_tuple (P : Params) : BiIs P (S "tuple") (.type "tuple") := ⟨PyProof.Rows.Boot.«tuple», rfl, by kernel_rfl, by kernel_rfl⟩
theorem n_bytearray (P : Params) : BiIs P (S "bytearray") (.type "bytearray") := ⟨PyProof.Rows.Boot.«bytearray», rfl, by kernel_rfl, by kernel_rfl⟩
theorem n_reversed (P : Params) : BiIs P (S "reversed") (.type "reversed") := ⟨PyProof.Rows.Boot.«reversed», rfl, by kernel_rfl, by kernel_rfl⟩
theorem n_isinstance (P : Params) : BiIs P (S "isinstance") (.builtin "isinstance") := ⟨PyProof.Rows.Boot.«isinstance», rfl, by kernel_rfl, by kernel_rfl⟩
theorem n_abs (P : Params) : BiIs P (S "abs") (.builtin "abs") := ⟨PyProof.Rows.Boot.«abs», rfl, by kernel_rfl, by kernel_rfl⟩
theorem n_sum (P : Params) : BiIs P (S "sum") (.builtin "sum") := ⟨PyProof.Rows.Boot.«sum», rfl, by kernel_rfl, by kernel_rfl⟩
theorem n_max (P : Params) : BiIs P (S "max") (.builtin "max") := ⟨PyProof.Rows.Boot.«max», rfl, by kernel_rfl, by kernel_rfl⟩
end Mine

/-! # L7 -/
namespace Mine
open PySem PySem.W PyProof.Rows PySem.Calls
set_option Elab.async false
set_option maxRecDepth 100000
set_option linter.unusedVariables false

/-! ## Subscripts -/
/-- a slice's run -/
noncomputable def cut {α : Type} (lo hi : Option Int) (l : List α) : List α := (l.drop (lo.elim 0 (clipAt l.length))).take (hi.elim l.length (clipAt l.length) - lo.elim 0 (clipAt l.length))
/-- an index's place -/
noncomputable def idx (n : Nat) (i : Int) : Nat := (if i < 0 then i + n else i).toNat
theorem cut_map {α β : Type} (f : α → β) (lo hi : Option Int) (l : List α) : cut lo hi (l.map f) = (cut lo hi l).map f := by unfold cut; rw [List.length_map, List.map_take, List.map_drop]
theorem cut_from {α : Type} (a : Nat) (l : List α) : cut (some (a : Int)) none l = l.drop a := by
  unfold cut; simp only [Option.elim, clipAt_nat]
  rcases Nat.le_total a l.length with h | h
  · rw [Nat.min_eq_left h, List.take_of_length_le (by simp)]
  · rw [Nat.min_eq_right h, List.drop_of_length_le (Nat.le_refl _), List.drop_of_length_le h]; simp
theorem cut_upto {α : Type} (b : Nat) (l : List α) : cut none (some (b : Int)) l = l.take b := by
  unfold cut; simp only [Option.elim, clipAt_nat, List.drop_zero, Nat.sub_zero]
  rcases Nat.le_total b l.length with h | h
  · rw [Nat.min_eq_left h]
  · rw [Nat.min_eq_right h, List.take_of_length_le (Nat.le_refl _), List.take_of_length_le h]
theorem cut_but {α : Type} (k : Nat) (hk : 1 ≤ k) (l : List α) : cut none (some (-(k : Int))) l = l.take (l.length - k) := by
  unfold cut; simp only [Option.elim, clipAt_neg _ _ hk, List.drop_zero, Nat.sub_zero]
theorem cut_length {α : Type} (lo hi : Option Int) (l : List α) : (cut lo hi l).length ≤ l.length := by unfold cut; rw [List.length_take, List.length_drop]; omega

section
variable {w : World} {A : Around} {EE : Value → Shared → Prop} {s : Shared}
theorem sub_any {value slice : Expr} {o i : Value} {T id : String} {Q : Value → Shared → Prop} (hT : s.TypeIs o T) (hl : typeLookup (.type T) "__getitem__" = pure (some (.builtin id)))
    (h : wpAny (MM w) A (getItem o i) Q EE s) : wpAny (MM w) A (subscriptTail value slice o i) Q EE s := by
  unfold subscriptTail
  refine wpAny_bind ?_
  rw [getitemInPython_of_ne hT.not_modules]
  refine wpAny_bind (wpAny_specialOf hT hl ?_)
  have fin : ∀ ops, wpAny (MM w) A (operate ops (getItem o i)) (fun r s₃ => wpAny (MM w) A (letTemporaryGo value o r >>= fun _ => pure r) Q EE s₃) EE s := fun ops =>
    wpAny_operating (wpAny_mono h (fun r s₃ h₃ => wpAny_bind (wpAny_letTemporaryGo (wpAny_pure h₃))) fun _ _ x => x)
  have fin' : wpAny (MM w) A (subscripted slice false o i) (fun r s₃ => wpAny (MM w) A (letTemporaryGo value o r >>= fun _ => pure r) Q EE s₃) EE s := by
    unfold subscripted
    split
    · exact fin _
    · rename_i h1 h2; cases h2
    · exact fin _
  first
    | exact wpAny_pure (wpAny_bind fin')
    | exact wpAny_bind (wpAny_pure (wpAny_bind fin'))
    | exact wpAny_bind fin'
end

section
variable {c : Jx} {ρ : Rho} {κ : Kap} {X X' : XP} {Q : PV → Rho → Kap → Prop}
theorem push_post {fs : List Env} {E : Env} {g : Heap} {R : List (Addr × Obj)} {s : Shared} {o : Obj} {p : PV} {tk : Nat} (S : Sat c.w fs E g R ρ κ s.heap) (ho : o.isFreed = false)
    (r : ∀ g', Sub g g' → g'.get? s.heap.objs.size = some o → Rep g' (.ref s.heap.objs.size) p) (q : Q p ρ κ) : Post c fs E g R s Rep Q (.ref s.heap.objs.size) { s with heap := s.heap.push o, toks := tk } := by
  obtain ⟨m, cs, S⟩ := S
  obtain ⟨g', S', k, e⟩ := S.push ho
  exact ⟨g', ρ, κ, p, k, ⟨m, cs, S'⟩, ⟨.of_sub fun b x e => Heap.get?_push_of_some _ e, rfl, rfl⟩, r g' k e, q⟩

/-- a part of a slice -/
noncomputable def EP (c : Jx) (e : Option Expr) (ρ : Rho) (κ : Kap) (Q : Option Int → Rho → Kap → Prop) (X : XP) : Prop := ∀ A fs E g R s, Good c A fs E → Sat c.w fs E g R ρ κ s.heap → s.gens = #[] →
  wpAny (MM c.w) A (evalPart e E) (Post c fs E g R s (fun _ => IsPart) Q) (Exc c fs E g R s X) s
theorem ep_none {Q : Option Int → Rho → Kap → Prop} (h : Q none ρ κ) : EP c none ρ κ Q X := fun A fs E g R s G S hg => by
  rw [evalPart_none]; exact wpAny_pure (post0 S .none h)
theorem ep_some {e : Expr} {Q : Option Int → Rho → Kap → Prop} (h : E1 c e ρ κ (fun p ρ1 κ1 => ∃ i, p = .int i ∧ Q (some i) ρ1 κ1) X) : EP c (some e) ρ κ Q X := fun A fs E g R s G S hg => by
  refine wpAny_mono (h A fs E g R s G S hg) (fun v s1 p => ?_) fun _ _ e => e
  obtain ⟨g1, ρ1, κ1, b, x1, x2, x3, x4, i, rfl, x5⟩ := p
  cases x4
  exact ⟨g1, ρ1, κ1, some i, x1, x2, x3, .int _ _, x5⟩
theorem e_Slice {lo hi : Option Expr} {pos : Pos} (h : EP c lo ρ κ (fun a ρ1 κ1 => EP c hi ρ1 κ1 (fun b ρ2 κ2 => Q (.slc a b) ρ2 κ2) X) X) : E1 c (.Slice lo hi none pos) ρ κ Q X := fun A fs E g R s G S hg => by
  refine wpAny_Slice (chain0 hg (h A fs E g R s G S hg) fun l s1 g1 ρ1 κ1 a _ k1 st1 S1 hg1 r1 q1 => chain k1 st1 hg1 (q1 A fs E g1 R s1 G S1 hg1) fun u s2 g2 ρ2 κ2 b k12 k2 st2 S2 hg2 r2 q2 => ?_)
  rw [evalPart_none]
  exact wpAny_pure (Post.up k2 st2 (push_post (tk := s2.toks) S2 rfl (fun g' k e => .slc ⟨_, e, rfl, rfl⟩ r1 r2) q2))

theorem e_SubSlice {v : Expr} {lo hi : Option Expr} {p pos : Pos} (h : E1 c v ρ κ (fun a ρ1 κ1 => EP c lo ρ1 κ1 (fun x ρ2 κ2 => EP c hi ρ2 κ2 (fun y ρ3 κ3 => V2 c (subscriptTail v (.Slice lo hi none p)) a (.slc x y) ρ3 κ3 Q X) X) X) X) : E1 c (.Subscript v (.Slice lo hi none p) pos) ρ κ Q X :=
  e_Subscript (h.mono (fun _ _ _ h => e_Slice h) fun _ _ _ h => h)

theorem s_bytes {v sl : Expr} {b : Bs} {i : Int} (hz : b.length ≤ 16777216) (h0 : -(b.length : Int) ≤ i) (h1 : i < b.length) (h : Q (.int (b.getD (idx b.length i) 0).toNat) ρ κ) : V2 c (subscriptTail v sl) (.bytes b) (.int i) ρ κ Q X := fun A fs E g R s a u G S hg r1 r2 => by
  (first | obtain ⟨_, rfl⟩ := r1.int_inv | obtain rfl := r1.nil_inv | obtain ⟨_, _, rfl, rfl⟩ := r1.bytes_inv | obtain rfl := r1.bool_inv | obtain rfl := r1.val_inv | obtain rfl := r1.own_inv | obtain ⟨_, rfl⟩ := r1.str_inv | cases r1); (first | obtain ⟨_, rfl⟩ := r2.int_inv | obtain rfl := r2.nil_inv | obtain ⟨_, _, rfl, rfl⟩ := r2.bytes_inv | obtain rfl := r2.bool_inv | obtain rfl := r2.val_inv | obtain rfl := r2.own_inv | obtain ⟨_, rfl⟩ := r2.str_inv | cases r2)
  rename_i b t ti
  refine sub_any (typeIs_bytes _ _ _) FB.slot_bytes_getitem.lookup (getItem_gives (typeIs_bytes s _ t) (by decide) FB.slot_bytes_getitem FB.entry_bytes_getitem (FB.args_bytes_getitem_2 _ _) (gives_bytes_getitem _ i t ti (b.toList.getD (idx b.toList.length i) 0) ?_ ?_) (post S (.int _ _) h))
  · simp only [Builtin.Bytes.fitsIndex, Bool.and_eq_true, decide_eq_true_eq]; omega
  · rw [Array.length_toList] at *
    have e : seqIndex? i b.size = some (idx b.size i) := by unfold seqIndex? idx; split <;> (simp only [Bool.and_eq_true, decide_eq_true_eq]; rw [if_pos (by omega)])
    have hl : idx b.size i < b.size := by unfold idx; split <;> omega
    rw [e]; simp [hl]
theorem s_bytes_cut {v sl : Expr} {b : Bs} {lo hi : Option Int} (hz : b.length ≤ 16777216) (h : Q (.bytes (cut lo hi b)) ρ κ) : V2 c (subscriptTail v sl) (.bytes b) (.slc lo hi) ρ κ Q X := fun A fs E g R s a u G S hg r1 r2 => by
  (first | obtain ⟨_, rfl⟩ := r1.int_inv | obtain rfl := r1.nil_inv | obtain ⟨_, _, rfl, rfl⟩ := r1.bytes_inv | obtain rfl := r1.bool_inv | obtain rfl := r1.val_inv | obtain rfl := r1.own_inv | obtain ⟨_, rfl⟩ := r1.str_inv | cases r1)
  obtain ⟨_, _, _, rfl, hs, pl, pu⟩ := r2.slc_inv
  rename_i b t ad l u
  have S' := S
  obtain ⟨m, cs, S⟩ := S
  have e := KBc.picked_eq b lo hi
  refine sub_any (typeIs_bytes _ _ _) FB.slot_bytes_getitem.lookup (getItem_meets (typeIs_bytes s _ t) (by decide) FB.slot_bytes_getitem FB.entry_bytes_getitem (FB.args_bytes_getitem_2 _ _) (KBc.meets_slice2 b t ad pl pu)
    ⟨let ⟨o, e, r⟩ := hs; ⟨o, S.lv.keep _ _ e, r⟩, Nat.le_trans (KBc.size_picked_le b lo hi) (by rw [sizeLine_eq]; simpa using hz), fun t' k => post S' (by have := Rep.bytes (g := g) (KBy.picked b lo hi) t'; exact this) ?_⟩)
  rw [e]; exact h
theorem idx_seq {n : Nat} {i : Int} (h0 : -(n : Int) ≤ i) (h1 : i < n) : seqIndex? i n = some (idx n i) ∧ idx n i < n := by
  refine ⟨?_, by unfold idx; split <;> omega⟩
  unfold seqIndex? idx; split <;> (simp only [Bool.and_eq_true, decide_eq_true_eq]; rw [if_pos (by omega)])
theorem s_lst {v sl : Expr} {l : List PV} {i : Int} {p : PV} (hz : l.length ≤ 16777216) (h0 : -(l.length : Int) ≤ i) (h1 : i < l.length) (e : l[idx l.length i]? = some p) (h : Q p ρ κ) : V2 c (subscriptTail v sl) (.lst l) (.int i) ρ κ Q X := fun A fs E g R s a u G S hg r1 r2 => by
  (first | obtain ⟨_, rfl⟩ := r2.int_inv | obtain rfl := r2.nil_inv | obtain ⟨_, _, rfl, rfl⟩ := r2.bytes_inv | obtain rfl := r2.bool_inv | obtain rfl := r2.val_inv | obtain rfl := r2.own_inv | obtain ⟨_, rfl⟩ := r2.str_inv | cases r2)
  have S' := S
  obtain ⟨m, cs, S⟩ := S
  obtain ⟨a, o, vs, n, rfl, ho, hc, hd, hr⟩ := r1.lst_inv
  obtain ⟨x, hx, rx⟩ := reps_at hr e
  have hn : vs.size = l.length := by have := hr.length; simpa using this
  have hl : s.heap.IsList a vs := ⟨o, S.lv.keep _ _ ho, hc, n, hd⟩
  refine sub_any hl.typeIs slot_list_getitem.lookup ?_
  rcases Int.lt_or_le i 0 with q | q
  · exact wpAny_getItem_list_neg hl q (by omega) (by omega) (by rw [hn]; simpa [idx, q] using hx) (post0 S' rx h)
  · exact wpAny_getItem_list hl q (by omega) (by simpa [idx, Int.not_lt.mpr q] using hx) (post0 S' rx h)
theorem s_tup {v sl : Expr} {l : List PV} {i : Int} {p : PV} (hz : l.length ≤ 16777216) (h0 : -(l.length : Int) ≤ i) (h1 : i < l.length) (e : l[idx l.length i]? = some p) (h : Q p ρ κ) : V2 c (subscriptTail v sl) (.tup l) (.int i) ρ κ Q X := fun A fs E g R s a u G S hg r1 r2 => by
  (first | obtain ⟨_, rfl⟩ := r2.int_inv | obtain rfl := r2.nil_inv | obtain ⟨_, _, rfl, rfl⟩ := r2.bytes_inv | obtain rfl := r2.bool_inv | obtain rfl := r2.val_inv | obtain rfl := r2.own_inv | obtain ⟨_, rfl⟩ := r2.str_inv | cases r2)
  have S' := S
  obtain ⟨m, cs, S⟩ := S
  obtain ⟨a, o, vs, n, rfl, ho, hc, hd, hr⟩ := r1.tup_inv
  obtain ⟨x, hx, rx⟩ := reps_at hr e
  have hn : vs.size = l.length := by have := hr.length; simpa using this
  have hl : IsTup s.heap a vs := ⟨o, S.lv.keep _ _ ho, hc, n, hd⟩
  exact sub_any hl.typeIs slot_tuple_getitem.lookup (getItem_tuple hl (by omega) (by omega) (by rw [hn]; exact (idx_seq h0 h1).1) hx (post0 S' rx h))
theorem reps_cut {g : Heap} {vs : List Value} {l : List PV} (lo hi : Option Int) (r : Reps g vs l) : Reps g (cut lo hi vs) (cut lo hi l) := by
  unfold cut; rw [r.length]; exact (r.drop _).take _
theorem s_lst_cut {v sl : Expr} {l : List PV} {lo hi : Option Int} (hz : l.length ≤ 16777216) (h : Q (.lst (cut lo hi l)) ρ κ) : V2 c (subscriptTail v sl) (.lst l) (.slc lo hi) ρ κ Q X := fun A fs E g R s a u G S hg r1 r2 => by
  have S' := S
  obtain ⟨m, cs, S⟩ := S
  obtain ⟨a, o, vs, n, rfl, ho, hc, hd, hr⟩ := r1.lst_inv
  obtain ⟨_, _, _, rfl, hs, pl, pu⟩ := r2.slc_inv
  have hl : s.heap.IsList a vs := ⟨o, S.lv.keep _ _ ho, hc, n, hd⟩
  have hn : vs.size = l.length := by have := hr.length; simpa using this
  refine sub_any hl.typeIs slot_list_getitem.lookup (wpAny_getItem_list_slice hl (let ⟨o, e, r⟩ := hs; ⟨o, S.lv.keep _ _ e, r⟩) pl pu .none (by simp) (push_post (tk := s.toks) S' rfl (fun g' k e => ?_) h) (by rw [hn, sizeLine_eq]; exact hz))
  refine .lst e rfl rfl ?_
  have := reps_cut lo hi (hr.keeps k)
  rw [slicePick_plain]
  unfold cut at this
  rw [hr.length] at this
  rw [hn]
  exact this
end

/-! tuples' slices -/
section
variable {w : World} {A : Around} {EE : Value → Shared → Prop} {s : Shared}
theorem adjust_plain (lo hi : Option Int) (n : Nat) : Builtin.Slice.sliceAdjust lo hi 1 (n : Int) = (((lo.elim 0 (clipAt n) : Nat) : Int), ((hi.elim n (clipAt n) : Nat) : Int)) := by
  unfold Builtin.Slice.sliceAdjust
  have h1 : ¬ ((1 : Int) < 0) := by omega
  simp only [h1, if_false]
  cases lo <;> cases hi <;> simp only [Option.elim, clipAt_cast, Prod.mk.injEq] <;> refine ⟨?_, ?_⟩ <;> first | rfl | trivial | (split <;> omega)
theorem places_plain (a b : Nat) : Builtin.Slice.slicePlaces (a : Int) (b : Int) 1 = b - a := by
  unfold Builtin.Slice.slicePlaces
  have h1 : (1 : Int) > 0 := by omega
  simp only [h1, if_true, Int.ediv_one]
  split <;> omega
theorem slicePart_ {v : Value} {p : Option Int} {Q : Option Int → Shared → Prop} (hp : IsPart v p) (h : Q p s) : wpAny (MM w) A (Builtin.Slice.slicePartIndex v) Q EE s := by
  cases hp
  · exact slicePart_none h
  · exact slicePart_int h
theorem sliceApplied_ {sl : Addr} {l u : Value} {lo hi : Option Int} {n : Nat} {Q : Int × Int × Nat → Shared → Prop} (hs : s.heap.IsSliceOf sl l u .none) (pl : IsPart l lo) (pu : IsPart u hi)
    (h : Q (((lo.elim 0 (clipAt n) : Nat) : Int), 1, hi.elim n (clipAt n) - lo.elim 0 (clipAt n)) s) : wpAny (MM w) A (Builtin.Slice.sliceApplied (.ref sl) (pure (n : Int))) Q EE s := by
  obtain ⟨os, hos, hcs, hds⟩ := id hs
  unfold Builtin.Slice.sliceApplied Builtin.Slice.sliceFields
  refine wpAny_bind (wpAny_bind (wpAny_field hos hds (x := l) rfl (wpAny_bind (wpAny_field hos hds (x := u) rfl (wpAny_bind (wpAny_field hos hds (x := .none) rfl (wpAny_pure ?_)))))))
  refine wpAny_bind (slicePart_none ?_)
  show wpAny _ _ (if ((1 : Int) == 0) = true then _ else _) _ _ s
  rw [if_neg (by decide)]
  refine wpAny_bind (slicePart_ pl (wpAny_bind (slicePart_ pu (wpAny_bind (wpAny_pure ?_)))))
  show wpAny _ _ (match Builtin.Slice.sliceAdjust lo hi 1 (n : Int) with | (lo, hi) => pure (lo, (1 : Int), Builtin.Slice.slicePlaces lo hi 1)) _ _ s
  rw [adjust_plain]
  show wpAny _ _ (pure (_, (1 : Int), Builtin.Slice.slicePlaces _ _ 1)) _ _ s
  rw [places_plain]
  exact wpAny_pure h
theorem pick_plain (xs : Array Value) (a k : Nat) : ((List.range k).filterMap fun (j : Nat) => xs[((a : Int) + (j : Int) * 1).toNat]?) = (xs.toList.drop a).take k := by
  have e : (fun (j : Nat) => xs[((a : Int) + (j : Int) * 1).toNat]?) = fun j => xs[a + j]? := by
    funext j
    have : ((a : Int) + (j : Int) * 1).toNat = a + j := by omega
    rw [this]
  rw [e]
  have := pick_run xs a k
  rw [List.filterMap_map] at this
  have e2 : ((fun x => xs[x]?) ∘ fun x => a + x) = fun j => xs[a + j]? := rfl
  rw [e2] at this
  exact this
theorem tuple_cut {t sl : Addr} {items : Array Value} {l u : Value} {lo hi : Option Int} {Q : Value → Shared → Prop} (ht : IsTup s.heap t items) (hs : s.heap.IsSliceOf sl l u .none) (pl : IsPart l lo) (pu : IsPart u hi) (hsz : items.size ≤ sizeLine)
    (h1 : cut lo hi items.toList = items.toList → Q (.ref t) s) (h2 : Q (.ref s.heap.objs.size) { s with heap := s.heap.push { cls := .type "tuple", data := .seq (cut lo hi items.toList).toArray } }) : wpAny (MM w) A (getItem (.ref t) (.ref sl)) Q EE s := by
  have hok : sizeOk (.seq (cut lo hi items.toList).toArray) := by
    show (cut lo hi items.toList).toArray.size ≤ sizeLine
    have := cut_length lo hi items.toList
    rw [List.size_toArray]; have e : items.toList.length = items.size := Array.length_toList; omega
  obtain ⟨os, hos, hcs, hds⟩ := id hs
  have hTs : s.TypeIs (.ref sl) "slice" := ⟨os, hos, hcs⟩
  unfold getItem
  try with_reducible refine wpAny_holding ?_
  first | refine wpAny_bind (wpAny_pure ?_) | skip
  refine wpAny_bind (wpAny_sequenceKey ht.typeIs (by decide) ?_)
  refine wpAny_bind (wpAny_callSpecial?_slot (name := Str.ofString "__getitem__") ht.typeIs slot_tuple_getitem
    (wpAny_call_entry slot_tuple_getitem ht.typeIs entry_tuple_getitem ?_ (args_tuple_getitem _ _)))
  show wpAny _ _ (Builtin.Tuple.tupleItemsOf (.ref t) >>= _) _ _ s
  refine wpAny_bind (tupleItemsOf_ ht ?_)
  refine wpAny_bind (wpAny_typeOf hTs ?_)
  rw [if_pos (by decide)]
  refine wpAny_bind (sliceApplied_ hs pl pu ?_)
  generalize hA : lo.elim 0 (clipAt items.size) = a
  generalize hB : hi.elim items.size (clipAt items.size) - a = k
  have hcut : cut lo hi items.toList = (items.toList.drop a).take k := by unfold cut; rw [Array.length_toList, hA, hB]
  show wpAny _ _ (if ((a : Int) == 0 && (1 : Int) == 1 && k == items.size) = true then _ else _) _ _ s
  have mk : ∀ xs : Array Value, xs = (cut lo hi items.toList).toArray → ∀ A', wpAny (MM w) A' (Builtin.Tuple.tupleExact xs) (fun v s' => v = .ref s.heap.objs.size ∧ s' = { s with heap := s.heap.push { cls := .type "tuple", data := .seq (cut lo hi items.toList).toArray } }) (fun _ _ => False) s := fun xs e A' => by
    subst e; exact wpAny_newObj_type ⟨rfl, rfl⟩ hok
  have pk : ((List.range k).filterMap fun (j : Nat) => items[((a : Int) + (j : Int) * 1).toNat]?).toArray = (cut lo hi items.toList).toArray := by rw [pick_plain, hcut]
  have last : ∀ {QQ : Fin → Shared → Prop}, QQ (.done (.ret (.ref s.heap.objs.size))) { s with heap := s.heap.push { cls := .type "tuple", data := .seq (cut lo hi items.toList).toArray } } → ∀ A', wpAny (MM w) A' (do
      let r ← Builtin.Tuple.tupleExact ((List.range k).filterMap fun (j : Nat) => items[((a : Int) + (j : Int) * 1).toNat]?).toArray
      ret r) QQ EE s := fun hq A' => wpAny_bind (wpAny_mono (mk _ pk A') (fun v s' hv => by obtain ⟨rfl, rfl⟩ := hv; exact wpAny_pure hq) fun _ _ e => e.elim)
  split
  · rename_i hw
    have hw' : a = 0 ∧ k = items.size := by
      simp only [Bool.and_eq_true, beq_iff_eq] at hw; omega
    have hsame : cut lo hi items.toList = items.toList := by rw [hcut, hw'.1, hw'.2, List.drop_zero, List.take_of_length_le (by simp)]
    unfold Builtin.Tuple.tupleIsExact
    refine wpAny_bind (wpAny_bind (wpAny_typeOf ht.typeIs (wpAny_pure ?_)))
    rw [if_pos (by decide)]
    exact wpAny_bind (wpAny_rule (wpAny_pure ⟨_, rfl, wpAny_pure (h1 hsame)⟩))
  · exact last ⟨_, rfl, wpAny_pure h2⟩ _
end

section
variable {c : Jx} {ρ : Rho} {κ : Kap} {X X' : XP} {Q : PV → Rho → Kap → Prop}
theorem s_tup_cut {v sl : Expr} {l : List PV} {lo hi : Option Int} (hz : l.length ≤ 16777216) (h : Q (.tup (cut lo hi l)) ρ κ) : V2 c (subscriptTail v sl) (.tup l) (.slc lo hi) ρ κ Q X := fun A fs E g R s a u G S hg r1 r2 => by
  have S' := S
  obtain ⟨m, cs, S⟩ := S
  obtain ⟨a, o, vs, n, rfl, ho, hc, hd, hr⟩ := r1.tup_inv
  obtain ⟨_, _, _, rfl, hs, pl, pu⟩ := r2.slc_inv
  have hl : IsTup s.heap a vs := ⟨o, S.lv.keep _ _ ho, hc, n, hd⟩
  have hn : vs.size = l.length := by have := hr.length; simpa using this
  refine sub_any hl.typeIs slot_tuple_getitem.lookup (tuple_cut hl (let ⟨o, e, r⟩ := hs; ⟨o, S.lv.keep _ _ e, r⟩) pl pu (by rw [hn, sizeLine_eq]; exact hz) (fun e => post0 S' (.tup ho hc hd ?_) h) (push_post (tk := s.toks) S' rfl (fun g' k e => .tup e rfl rfl (reps_cut lo hi (hr.keeps k))) h))
  exact e ▸ reps_cut lo hi hr
end
end Mine

/-! # L8 -/
namespace Mine
open PySem PySem.W PyProof.Rows PySem.Calls
set_option Elab.async false
set_option maxRecDepth 100000
set_option linter.unusedVariables false

/-! ## bytes -/
section
open Builtin
theorem fslot_bytes_lt : Slot "bytes" (cmpInfo .Lt).2.1 "bytes.__lt__" :=
  .of (owner := "bytes") (n := "__lt__") (by rw [typeLookup_type, builtinLookup_eq_fast]; kernel_rfl) (by decide +kernel) (by decide +kernel) (by decide +kernel)
    (by first | exact .inl (by decide +kernel) | exact .inr (by decide +kernel)) (by rw [isSubtype_type]; kernel_rfl)
theorem fentry_bytes_lt : entryFor table "bytes.__lt__" = some Builtin.«bytes.__lt__» := entryFor_of_tree (by kernel_rfl)
theorem fargs_bytes_lt (a b : Value) : argsOk "bytes.__lt__" ⟨[a, b], []⟩ := by
  unfold argsOk; rw [signature?_of (id := "bytes.__lt__") (n := ['_', '_', 't', 'l', '_', '_']) (o := ['s', 'e', 't', 'y', 'b']) (by kernel_rfl) FB.owner_bytes]; kernel_rfl
theorem fslot_bytes_gt : Slot "bytes" (cmpInfo .Gt).2.1 "bytes.__gt__" :=
  .of (owner := "bytes") (n := "__gt__") (by rw [typeLookup_type, builtinLookup_eq_fast]; kernel_rfl) (by decide +kernel) (by decide +kernel) (by decide +kernel)
    (by first | exact .inl (by decide +kernel) | exact .inr (by decide +kernel)) (by rw [isSubtype_type]; kernel_rfl)
theorem fentry_bytes_gt : entryFor table "bytes.__gt__" = some Builtin.«bytes.__gt__» := entryFor_of_tree (by kernel_rfl)
theorem fargs_bytes_gt (a b : Value) : argsOk "bytes.__gt__" ⟨[a, b], []⟩ := by
  unfold argsOk; rw [signature?_of (id := "bytes.__gt__") (n := ['_', '_', 't', 'g', '_', '_']) (o := ['s', 'e', 't', 'y', 'b']) (by kernel_rfl) FB.owner_bytes]; kernel_rfl
theorem fslot_bytes_lower : Slot "bytes" "lower" "bytes.lower" :=
  .of (owner := "bytes") (n := "lower") (by rw [typeLookup_type, builtinLookup_eq_fast]; kernel_rfl) (by decide +kernel) (by decide +kernel) (by decide +kernel)
    (by first | exact .inl (by decide +kernel) | exact .inr (by decide +kernel)) (by rw [isSubtype_type]; kernel_rfl)
theorem ftype_bytes_lower : typeOf (.builtin "bytes.lower") = pure (.type "method_descriptor") := by show builtinType _ = _; rw [builtinType_eq_fast]; kernel_rfl
theorem fentry_bytes_lower : entryFor table "bytes.lower" = some Builtin.«bytes.lower» := entryFor_of_tree (by kernel_rfl)
theorem fargs_bytes_lower (a : Value) : argsOk "bytes.lower" ⟨[a], []⟩ := by
  unfold argsOk; rw [signature?_of (id := "bytes.lower") (n := ['r', 'e', 'w', 'o', 'l']) (o := ['s', 'e', 't', 'y', 'b']) (by kernel_rfl) FB.owner_bytes]; kernel_rfl
theorem gives_bytes_lt (b c : Array UInt8) (t u : Tok) : Gives («bytes.__lt__» ⟨[.bytes b t, .bytes c u], []⟩) (.val (.bool (Bytes.order b.toList c.toList == .lt))) := by
  refine .of_wp fun M A E s Q hq => ?_
  show wpAny M A (isInstance (.bytes c u) (.type "bytes") >>= fun r => _) _ E s
  refine wpAny_bind (wpAny_isInstance (typeIs_bytes s c u) F.sub_bytes_bytes ?_)
  exact wpAny_pure ⟨_, rfl, hq⟩
theorem gives_bytes_gt (b c : Array UInt8) (t u : Tok) : Gives («bytes.__gt__» ⟨[.bytes b t, .bytes c u], []⟩) (.val (.bool (Bytes.order b.toList c.toList == .gt))) := by
  refine .of_wp fun M A E s Q hq => ?_
  show wpAny M A (isInstance (.bytes c u) (.type "bytes") >>= fun r => _) _ E s
  refine wpAny_bind (wpAny_isInstance (typeIs_bytes s c u) F.sub_bytes_bytes ?_)
  exact wpAny_pure ⟨_, rfl, hq⟩
end
/-- lower case, by the octet -/
noncomputable def low (c : UInt8) : UInt8 := if 65 ≤ c && c ≤ 90 then c + 32 else c
/-- the octets' order -/
noncomputable abbrev bord (a b : Bs) : Ordering := Builtin.Bytes.order a b
section
variable {c : Jx} {ρ : Rho} {κ : Kap} {X X' : XP} {Q : PV → Rho → Kap → Prop}
theorem v_beq {a b : Bs} (h : Q (.bool (a == b)) ρ κ) : V2 c (compareOp .Eq) (.bytes a) (.bytes b) ρ κ Q X := fun A fs E g R s v u G S hg r1 r2 => by
  (first | obtain ⟨_, rfl⟩ := r1.int_inv | obtain rfl := r1.nil_inv | obtain ⟨_, _, rfl, rfl⟩ := r1.bytes_inv | obtain rfl := r1.bool_inv | obtain rfl := r1.val_inv | obtain rfl := r1.own_inv | obtain ⟨_, rfl⟩ := r1.str_inv | cases r1); (first | obtain ⟨_, rfl⟩ := r2.int_inv | obtain rfl := r2.nil_inv | obtain ⟨_, _, rfl, rfl⟩ := r2.bytes_inv | obtain rfl := r2.bool_inv | obtain rfl := r2.val_inv | obtain rfl := r2.own_inv | obtain ⟨_, rfl⟩ := r2.str_inv | cases r2); exact eq_bytes (post0 S (.bool _) h)
theorem v_bne {a b : Bs} (h : Q (.bool (a != b)) ρ κ) : V2 c (compareOp .NotEq) (.bytes a) (.bytes b) ρ κ Q X := fun A fs E g R s v u G S hg r1 r2 => by
  (first | obtain ⟨_, rfl⟩ := r1.int_inv | obtain rfl := r1.nil_inv | obtain ⟨_, _, rfl, rfl⟩ := r1.bytes_inv | obtain rfl := r1.bool_inv | obtain rfl := r1.val_inv | obtain rfl := r1.own_inv | obtain ⟨_, rfl⟩ := r1.str_inv | cases r1); (first | obtain ⟨_, rfl⟩ := r2.int_inv | obtain rfl := r2.nil_inv | obtain ⟨_, _, rfl, rfl⟩ := r2.bytes_inv | obtain rfl := r2.bool_inv | obtain rfl := r2.val_inv | obtain rfl := r2.own_inv | obtain ⟨_, rfl⟩ := r2.str_inv | cases r2); exact ne_bytes (post0 S (.bool _) h)
theorem v_blt {a b : Bs} (h : Q (.bool (bord a b == .lt)) ρ κ) : V2 c (compareOp .Lt) (.bytes a) (.bytes b) ρ κ Q X := fun A fs E g R s v u G S hg r1 r2 => by
  (first | obtain ⟨_, rfl⟩ := r1.int_inv | obtain rfl := r1.nil_inv | obtain ⟨_, _, rfl, rfl⟩ := r1.bytes_inv | obtain rfl := r1.bool_inv | obtain rfl := r1.val_inv | obtain rfl := r1.own_inv | obtain ⟨_, rfl⟩ := r1.str_inv | cases r1); (first | obtain ⟨_, rfl⟩ := r2.int_inv | obtain rfl := r2.nil_inv | obtain ⟨_, _, rfl, rfl⟩ := r2.bytes_inv | obtain rfl := r2.bool_inv | obtain rfl := r2.val_inv | obtain rfl := r2.own_inv | obtain ⟨_, rfl⟩ := r2.str_inv | cases r2)
  exact compareOp_gives (op := .Lt) (typeIs_bytes s _ _) (typeIs_bytes s _ _) fslot_bytes_lt fentry_bytes_lt (fargs_bytes_lt _ _) (gives_bytes_lt _ _ _ _) (fun e => nomatch e) (post0 S (.bool _) h)
theorem v_bgt {a b : Bs} (h : Q (.bool (bord a b == .gt)) ρ κ) : V2 c (compareOp .Gt) (.bytes a) (.bytes b) ρ κ Q X := fun A fs E g R s v u G S hg r1 r2 => by
  (first | obtain ⟨_, rfl⟩ := r1.int_inv | obtain rfl := r1.nil_inv | obtain ⟨_, _, rfl, rfl⟩ := r1.bytes_inv | obtain rfl := r1.bool_inv | obtain rfl := r1.val_inv | obtain rfl := r1.own_inv | obtain ⟨_, rfl⟩ := r1.str_inv | cases r1); (first | obtain ⟨_, rfl⟩ := r2.int_inv | obtain rfl := r2.nil_inv | obtain ⟨_, _, rfl, rfl⟩ := r2.bytes_inv | obtain rfl := r2.bool_inv | obtain rfl := r2.val_inv | obtain rfl := r2.own_inv | obtain ⟨_, rfl⟩ := r2.str_inv | cases r2)
  exact compareOp_gives (op := .Gt) (typeIs_bytes s _ _) (typeIs_bytes s _ _) fslot_bytes_gt fentry_bytes_gt (fargs_bytes_gt _ _) (gives_bytes_gt _ _ _ _) (fun e => nomatch e) (post0 S (.bool _) h)
theorem v_badd {a b : Bs} (hz : a.length + b.length ≤ 16777216) (h : Q (.bytes (a ++ b)) ρ κ) : V2 c (binaryOp .Add) (.bytes a) (.bytes b) ρ κ Q X := fun A fs E g R s v u G S hg r1 r2 => by
  (first | obtain ⟨_, rfl⟩ := r1.int_inv | obtain rfl := r1.nil_inv | obtain ⟨_, _, rfl, rfl⟩ := r1.bytes_inv | obtain rfl := r1.bool_inv | obtain rfl := r1.val_inv | obtain rfl := r1.own_inv | obtain ⟨_, rfl⟩ := r1.str_inv | cases r1); (first | obtain ⟨_, rfl⟩ := r2.int_inv | obtain rfl := r2.nil_inv | obtain ⟨_, _, rfl, rfl⟩ := r2.bytes_inv | obtain rfl := r2.bool_inv | obtain rfl := r2.val_inv | obtain rfl := r2.own_inv | obtain ⟨_, rfl⟩ := r2.str_inv | cases r2)
  rename_i a t1 b t2
  exact KBy.add_bytes (by simpa using hz) fun t' k => post S (by have := Rep.bytes (g := g) (a ++ b) t'; exact this) (by simpa using h)
theorem v_bmul {a : UInt8} {n : Int} (hlo : -1048576 ≤ n) (hn : n ≤ 1048576) (h : Q (.bytes (List.replicate n.toNat a)) ρ κ) : V2 c (binaryOp .Mult) (.bytes [a]) (.int n) ρ κ Q X := fun A fs E g R s v u G S hg r1 r2 => by
  (first | obtain ⟨_, rfl⟩ := r2.int_inv | obtain rfl := r2.nil_inv | obtain ⟨_, _, rfl, rfl⟩ := r2.bytes_inv | obtain rfl := r2.bool_inv | obtain rfl := r2.val_inv | obtain rfl := r2.own_inv | obtain ⟨_, rfl⟩ := r2.str_inv | cases r2)
  generalize hb : [a] = b at r1
  (first | obtain ⟨_, rfl⟩ := r1.int_inv | obtain rfl := r1.nil_inv | obtain ⟨_, _, rfl, rfl⟩ := r1.bytes_inv | obtain rfl := r1.bool_inv | obtain rfl := r1.val_inv | obtain rfl := r1.own_inv | obtain ⟨_, rfl⟩ := r1.str_inv | cases r1)
  rename_i t1 b t2
  have eb : b = #[a] := by apply Array.toList_inj.mp; rw [← hb]
  subst eb
  have key : ∀ t' : Tok, Rep g (.bytes ((List.replicate n.toNat [a]).flatten).toArray t') (.bytes (List.replicate n.toNat a)) := fun t' => by
    have := Rep.bytes (g := g) ((List.replicate n.toNat [a]).flatten).toArray t'
    have e : ((List.replicate n.toNat [a]).flatten) = List.replicate n.toNat a := by induction n.toNat with | zero => rfl | succ k ih => rw [List.replicate_succ, List.flatten_cons, ih]; rfl
    rw [e] at this ⊢; exact this
  exact bytes_mul_any (b := [a]) (by simp) hlo hn (by simp) fun t' k => post S (key t') h
theorem t_bytes {b : Bs} {Q : Bool → Rho → Kap → Prop} (hz : b.length ≤ 16777216) (h : Q (!b.isEmpty) ρ κ) : T1 c (.bytes b) ρ κ Q X := fun A fs E g R s v G S hg r => by
  (first | obtain ⟨_, rfl⟩ := r.int_inv | obtain rfl := r.nil_inv | obtain ⟨_, _, rfl, rfl⟩ := r.bytes_inv | obtain rfl := r.bool_inv | obtain rfl := r.val_inv | obtain rfl := r.own_inv | obtain ⟨_, rfl⟩ := r.str_inv | cases r)
  rename_i b t
  have hz' : b.size ≤ 16777216 := by simpa using hz
  have e : ((b.size : Int) != 0) = (!b.toList.isEmpty) := by
    rw [← Array.length_toList]
    cases b.toList with
    | nil => rfl
    | cons x y => simp only [List.isEmpty_cons, Bool.not_false, bne_iff_ne, List.length_cons]; omega
  exact truthy_bytes (by omega) (by rw [e]; exact post S rfl h)
/-- x.lower() -/
theorem m_lower {a : Bs} : MG c ρ κ (.bytes a) (Str.ofString "lower") (.builtin "bytes.lower") := fun A fs E g R s v pl Q EE G S r h => by
  (first | obtain ⟨_, rfl⟩ := r.int_inv | obtain rfl := r.nil_inv | obtain ⟨_, _, rfl, rfl⟩ := r.bytes_inv | obtain rfl := r.bool_inv | obtain rfl := r.val_inv | obtain rfl := r.own_inv | obtain ⟨_, rfl⟩ := r.str_inv | cases r)
  exact getMethod_builtin (typeIs_bytes s _ _) FB.plainAttrs_bytes fslot_bytes_lower ftype_bytes_lower (fun a e => nomatch e) h
theorem l_lower {a : Bs} (hz : a.length ≤ 16777216) (h : Q (.bytes (a.map low)) ρ κ) : VL c (callF (.builtin "bytes.lower")) [.bytes a] ρ κ Q X := fun A fs E g R s vs G S hg r => by
  obtain ⟨_, rfl, r1⟩ := r.one_inv; (first | obtain ⟨_, rfl⟩ := r1.int_inv | obtain rfl := r1.nil_inv | obtain ⟨_, _, rfl, rfl⟩ := r1.bytes_inv | obtain rfl := r1.bool_inv | obtain rfl := r1.val_inv | obtain rfl := r1.own_inv | obtain ⟨_, rfl⟩ := r1.str_inv | cases r1)
  rename_i a t
  have hz' : a.size ≤ 16777216 := by simpa using hz
  refine wpAny_call_entry fslot_bytes_lower (typeIs_bytes s _ _) fentry_bytes_lower ?_ (fargs_bytes_lower _)
  show wpAny _ _ (mkBytes (a.toList.map Builtin.Bytes.toLower).toArray >>= fun r => _) _ _ s
  refine wpAny_bind (wpAny_mkBytes (wpAny_pure ⟨_, rfl, post S (Rep.bytes (g := g) (a.toList.map Builtin.Bytes.toLower).toArray _) ?_⟩) (by rw [sizeLine_eq]; simpa using hz'))
  have : a.toList.map Builtin.Bytes.toLower = a.toList.map low := by
    apply List.map_congr_left; intro x _; rfl
  show Q (.bytes (a.toList.map Builtin.Bytes.toLower)) ρ κ
  rw [this]; exact h
end
end Mine

/-! # L9 -/
namespace Mine
open PySem PySem.W PyProof.Rows PySem.Calls
set_option Elab.async false
set_option maxRecDepth 100000
set_option linter.unusedVariables false

/-! ## Cells that a block owns -/
theorem Cells.get {g : Heap} {κ : Kap} {cs : List (Addr × Obj)} {a : Addr} {mv : MV} (C : Cells g κ cs) : (a, mv) ∈ κ → ∃ o, (a, o) ∈ cs ∧ CellRep g mv o := by
  induction C with
  | nil => exact fun h => nomatch h
  | cons x y ih =>
    intro h
    rcases List.mem_cons.mp h with e | h
    · cases e; exact ⟨_, .head _, x⟩
    · obtain ⟨o, p, q⟩ := ih h; exact ⟨o, .tail _ p, q⟩
section
variable {w : World} {fs : List Env} {E : Env} {g h h' : Heap} {R : List (Addr × Obj)} {ρ : Rho} {κ : Kap} {m : Str → Option Value} {cs : List (Addr × Obj)} {a : Addr} {o o' : Obj} {mv mv' : MV}
theorem SatC.own (S : SatC w fs E g R ρ κ m cs h) (k : Sub h h') (ha : h.get? a = none) (e : h'.get? a = some o) (r : CellRep g mv o) : SatC w fs E g R ρ ((a, mv) :: κ) m ((a, o) :: cs) h' := by
  have ne : ∀ {b : Addr} {x : Obj}, h.get? b = some x → b ≠ a := fun e q => by rw [q, ha] at e; cases e
  have gn : g.get? a = none := by
    cases q : g.get? a with
    | none => rfl
    | some x => exact absurd rfl (ne (S.lv.keep _ _ q))
  have nf : a ∉ frs fs := fun hm => by
    obtain ⟨x, e, _⟩ := (funFrames_mem S.lv.fr hm).2; exact ne e rfl
  refine ⟨⟨S.lv.W, S.lv.keep.trans k, funFrames_next S.lv.fr (fun b hb => (funFrames_mem S.lv.fr hb).1) fun b hb => let ⟨x, e, z⟩ := (funFrames_mem S.lv.fr hb).2; ⟨x, k _ _ e, z⟩, S.lv.nf, fun c hc => ?_, ?_⟩,
    S.ns.keeps k, S.gl, fun c hc => ?_, S.vars, .cons r S.cells⟩
  · rcases List.mem_cons.mp hc with rfl | hc
    · exact ⟨e, gn, nf⟩
    · have := S.lv.cell c hc; exact ⟨k _ _ this.1, this.2⟩
  · refine List.nodup_cons.mpr ⟨fun hm => ?_, S.lv.nd⟩
    obtain ⟨c, hc, e⟩ := List.mem_map.mp hm
    have h1 : c.1 = a := e
    exact ne (S.lv.cell c hc).1 h1
  · rcases List.mem_cons.mp hc with rfl | hc
    · obtain ⟨oL, _, _, e, _⟩ := S.ns; exact (ne e).symm
    · exact S.cl c hc
theorem SatC.headC (S : SatC w fs E g R ρ ((a, mv) :: κ) m cs h) : ∃ o cs', cs = (a, o) :: cs' ∧ CellRep g mv o ∧ h.get? a = some o ∧ g.get? a = none ∧ a ∉ frs fs ∧ a ≠ E.locals ∧ ∀ c ∈ cs' ++ R, c.1 ≠ a := by
  have C := S.cells
  cases C with
  | @cons _ _ o _ cs' x y =>
    have hm : (a, o) ∈ (a, o) :: cs' ++ R := .head _
    refine ⟨o, cs', rfl, x, (S.lv.cell _ hm).1, (S.lv.cell _ hm).2.1, (S.lv.cell _ hm).2.2, S.cl _ hm, fun c hc e => ?_⟩
    have nd := S.lv.nd
    rw [List.cons_append, List.map_cons] at nd
    exact (List.nodup_cons.mp nd).1 (List.mem_map.mpr ⟨c, hc, e⟩)
theorem SatC.dropC (S : SatC w fs E g R ρ ((a, mv) :: κ) m ((a, o) :: cs) h) : SatC w fs E g R ρ κ m cs h := by
  have C := S.cells
  cases C with
  | cons x y =>
    refine ⟨⟨S.lv.W, S.lv.keep, S.lv.fr, S.lv.nf, fun c hc => S.lv.cell c (.tail _ hc), ?_⟩, S.ns, S.gl, fun c hc => S.cl c (.tail _ hc), S.vars, y⟩
    have nd := S.lv.nd
    rw [List.cons_append, List.map_cons] at nd
    exact (List.nodup_cons.mp nd).2
theorem SatC.setC (S : SatC w fs E g R ρ ((a, mv) :: κ) m ((a, o) :: cs) h) (hs : Heap.SameBut a h h') (e : h'.get? a = some o') (r : CellRep g mv' o') : SatC w fs E g R ρ ((a, mv') :: κ) m ((a, o') :: cs) h' := by
  obtain ⟨oo, cs', ee, h0, h1, h2, h3, h4, h5⟩ := S.headC
  cases ee
  refine ⟨⟨S.lv.W, fun b x q => (hs.2 b fun z => by rw [z, h2] at q; cases q).trans (S.lv.keep b x q), funFrames_next S.lv.fr (fun b hb => (funFrames_mem S.lv.fr hb).1) fun b hb => ?_, S.lv.nf, fun c hc => ?_, S.lv.nd⟩, S.ns.sameBut hs (Ne.symm h4), S.gl, fun c hc => ?_, S.vars, .cons r S.dropC.cells⟩
  · obtain ⟨x, q, z⟩ := (funFrames_mem S.lv.fr hb).2
    exact ⟨x, (hs.2 b fun y => h3 (y ▸ hb)).trans q, z⟩
  · rcases List.mem_cons.mp hc with rfl | hc
    · exact ⟨e, h2, h3⟩
    · have := S.lv.cell c (.tail _ hc); exact ⟨(hs.2 _ (h5 c hc)).trans this.1, this.2⟩
  · rcases List.mem_cons.mp hc with rfl | hc
    · exact h4
    · exact S.cl c (.tail _ hc)
/-- the cell joins the frozen heap -/
theorem SatC.freeze (S : SatC w fs E g R ρ ((a, mv) :: κ) m ((a, o) :: cs) h) : ∃ g', Sub g g' ∧ g'.get? a = some o ∧ SatC w fs E g' R ρ κ m cs h := by
  obtain ⟨oo, cs', ee, h0, h1, h2, h3, h4, h5⟩ := S.headC
  cases ee
  have D := S.dropC
  have N := D.next (h' := h) D.lv.keep (fun c hc => (D.lv.cell c hc).1) D.ns fun b hb => (funFrames_mem D.lv.fr hb).2
  refine ⟨_, N.2, hideAll_get _ h1 fun hm => ?_, N.1⟩
  unfold dyn at hm
  rcases List.mem_append.mp hm with q | q
  · exact h3 q
  · rcases List.mem_cons.mp q with q | q
    · exact h4 q
    · obtain ⟨c, hc, e⟩ := List.mem_map.mp q; exact h5 c hc e
theorem SatC.grow2 (S : SatC w fs E g R ρ κ m cs h) (k : Sub h h') : ∃ g', SatC w fs E g' R ρ κ m cs h' ∧ Sub g g' ∧ ∀ a o, h.get? a = none → h'.get? a = some o → g'.get? a = some o := by
  have q := S.grow k
  refine ⟨_, q.1, q.2, fun a o ha e => hideAll_get _ e fun hm => ?_⟩
  have ne : ∀ {x : Obj}, h.get? a = some x → False := fun e => by rw [ha] at e; cases e
  unfold dyn at hm
  rcases List.mem_append.mp hm with q | q
  · obtain ⟨x, e, _⟩ := (funFrames_mem S.lv.fr q).2; exact ne e
  · rcases List.mem_cons.mp q with q | q
    · obtain ⟨oL, _, _, e, _⟩ := S.ns; exact ne (q ▸ e)
    · obtain ⟨c, hc, rfl⟩ := List.mem_map.mp q; exact ne (S.lv.cell c hc).1
theorem size_none (h : Heap) : h.get? h.objs.size = none := Heap.get?_none_of_le (Nat.le_refl _)
theorem cr_lst {vs : Array Value} {n : Nat} {l : List PV} (r : Reps g vs.toList l) : CellRep g (.lst l) { cls := .type "list", data := .seq vs n } := ⟨vs, n, rfl, r⟩
end

section
variable {c : Jx} {ρ : Rho} {κ : Kap} {X X' : XP} {Q : PV → Rho → Kap → Prop}
theorem grow_post {fs : List Env} {E : Env} {g h' : Heap} {R : List (Addr × Obj)} {s : Shared} {v : Value} {p : PV} {tk : Nat} (S : Sat c.w fs E g R ρ κ s.heap) (k : Sub s.heap h')
    (r : ∀ g', Sub g g' → (∀ a o, s.heap.get? a = none → h'.get? a = some o → g'.get? a = some o) → Rep g' v p) (q : Q p ρ κ) : Post c fs E g R s Rep Q v { s with heap := h', toks := tk } := by
  obtain ⟨m, cs, S⟩ := S
  obtain ⟨g', S', kk, e⟩ := S.grow2 k
  exact ⟨g', ρ, κ, p, kk, ⟨m, cs, S'⟩, ⟨.of_sub k, rfl, rfl⟩, r g' kk e, q⟩
theorem own_post {fs : List Env} {E : Env} {g h' : Heap} {R : List (Addr × Obj)} {s : Shared} {a : Addr} {mv : MV} {o : Obj} {tk : Nat} (S : Sat c.w fs E g R ρ κ s.heap) (k : Sub s.heap h') (ha : s.heap.get? a = none) (e : h'.get? a = some o)
    (r : CellRep g mv o) (q : Q (.own a) ρ ((a, mv) :: κ)) : Post c fs E g R s Rep Q (.ref a) { s with heap := h', toks := tk } := by
  obtain ⟨m, cs, S⟩ := S
  exact ⟨g, ρ, _, _, .refl _, ⟨m, _, S.own k ha e r⟩, ⟨.of_sub k, rfl, rfl⟩, .own a, q⟩
theorem push_sub {h : Heap} {o : Obj} : Sub h (h.push o) := fun b x e => Heap.get?_push_of_some _ e
/-- the list is let go of: from now on it stands -/
theorem cs_freeze {x : Str} {a : Addr} {l : List PV} {sts : List Stmt} {Q : PF → Rho → Kap → Prop} (hk : c.scope.names.lookup x = some .local) (hρ : ρ x = some (.own a)) (h : CS c sts (upd ρ x (.lst l)) κ Q X) : CS c sts ρ ((a, .lst l) :: κ) Q X := fun A fs E g R s G S hg => by
  obtain ⟨m, cs, S⟩ := S
  obtain ⟨o, cs', rfl, ⟨vs, n, rfl, r⟩, h1, _⟩ := S.headC
  obtain ⟨g', k, e, S'⟩ := S.freeze
  have hx : E.kindOf x = some .local := by unfold Env.kindOf; rw [G.sc, hk]
  refine wpAny_mono (h A fs E g' R s G ⟨m, cs', ⟨S'.lv, S'.ns, S'.gl, S'.cl, fun y q e' => ?_, S'.cells⟩⟩ hg) (fun _ _ q => q.up k (.refl ..)) fun _ _ q => q.up k (.refl ..)
  unfold upd at e'
  by_cases z : y = x
  · subst z
    rw [if_pos rfl] at e'; cases e'
    obtain ⟨v, hv, rv⟩ := (S'.vars y _ hρ).1 hx
    (first | obtain ⟨_, rfl⟩ := rv.int_inv | obtain rfl := rv.nil_inv | obtain ⟨_, _, rfl, rfl⟩ := rv.bytes_inv | obtain rfl := rv.bool_inv | obtain rfl := rv.val_inv | obtain rfl := rv.own_inv | obtain ⟨_, rfl⟩ := rv.str_inv | cases rv)
    exact ⟨fun _ => ⟨_, hv, .lst e rfl rfl (r.keeps k)⟩, fun kk => by rcases kk with kk | kk <;> (rw [hx] at kk; cases kk)⟩
  · rw [if_neg z] at e'
    exact S'.vars y q e'

/-! ## Lists -/
theorem e_List {es : List Expr} {pos : Pos} (h : EL c pos es ρ κ (fun ps ρ1 κ1 => ps.length ≤ 16777216 ∧ Q (.lst ps) ρ1 κ1) X) : E1 c (.List es pos) ρ κ Q X := fun A fs E g R s G S hg => by
  refine wpAny_List_spliced (chain0 hg (h A fs E g R s G S hg) fun vs s1 g1 ρ1 κ1 ps _ k1 st1 S1 hg1 r1 q1 => ⟨by rw [r1.length, sizeLine_eq]; exact q1.1, Post.up k1 st1 (push_post (tk := s1.toks) S1 rfl (fun g' k e => .lst e rfl rfl (r1.keeps k)) q1.2)⟩)
theorem e_ListOwn {es : List Expr} {pos : Pos} (h : EL c pos es ρ κ (fun ps ρ1 κ1 => ps.length ≤ 16777216 ∧ ∀ a, Q (.own a) ρ1 ((a, .lst ps) :: κ1)) X) : E1 c (.List es pos) ρ κ Q X := fun A fs E g R s G S hg => by
  refine wpAny_List_spliced (chain0 hg (h A fs E g R s G S hg) fun vs s1 g1 ρ1 κ1 ps _ k1 st1 S1 hg1 r1 q1 => ⟨by rw [r1.length, sizeLine_eq]; exact q1.1, Post.up k1 st1 (own_post (tk := s1.toks) S1 push_sub (size_none _) (Heap.get?_push_size _ rfl) (cr_lst r1) (q1.2 _))⟩)
theorem e_Tuple {es : List Expr} {x1} {pos : Pos} (h : EL c pos es ρ κ (fun ps ρ1 κ1 => ps.length ≤ 16777216 ∧ Q (.tup ps) ρ1 κ1) X) : E1 c (.Tuple es x1 pos) ρ κ Q X := fun A fs E g R s G S hg => by
  refine wpAny_Tuple_spliced (chain0 hg (h A fs E g R s G S hg) fun vs s1 g1 ρ1 κ1 ps _ k1 st1 S1 hg1 r1 q1 => ⟨by rw [r1.length, sizeLine_eq]; exact q1.1, Post.up k1 st1 (push_post (tk := s1.toks) S1 rfl (fun g' k e => .tup e rfl rfl (r1.keeps k)) q1.2)⟩)
theorem v_ladd {a b : List PV} (hz : a.length + b.length ≤ 16777216) (h : Q (.lst (a ++ b)) ρ κ) : V2 c (binaryOp .Add) (.lst a) (.lst b) ρ κ Q X := fun A fs E g R s v u G S hg r1 r2 => by
  have S' := S
  obtain ⟨m, cs, S⟩ := S
  obtain ⟨l, o, vs, n, rfl, ho, hc, hd, hr⟩ := r1.lst_inv
  obtain ⟨l2, o2, vs2, n2, rfl, ho2, hc2, hd2, hr2⟩ := r2.lst_inv
  obtain ⟨cls, dd, data, sl⟩ := o
  obtain ⟨cls2, dd2, data2, sl2⟩ := o2
  simp only at hc hd hc2 hd2
  subst hc hd hc2 hd2
  have k1 := S.lv.keep _ _ ho
  have k2 := S.lv.keep _ _ ho2
  have hn : vs.size = a.length := by have := hr.length; simpa using this
  have hn2 : vs2.size = b.length := by have := hr2.length; simpa using this
  exact concat_meets ⟨_, k1, rfl⟩ ⟨_, k2, rfl⟩ noFill_list_add seq_list_add PySem.F.slot_list_add PySem.F.entry_list_add (PySem.F.args_list_add_2 _ _) (list_addW l l2 vs vs2 n n2 dd dd2 sl sl2 (by rw [sizeLine_eq]; omega))
    ⟨k1, k2, push_post (tk := s.toks) S' rfl (fun g' k e => .lst e rfl rfl (by rw [Array.toList_append]; exact (hr.keeps k).append (hr2.keeps k))) h⟩
theorem t_lst {l : List PV} {Q : Bool → Rho → Kap → Prop} (hz : l.length ≤ 16777216) (h : Q (!l.isEmpty) ρ κ) : T1 c (.lst l) ρ κ Q X := fun A fs E g R s v G S hg r => by
  have S' := S
  obtain ⟨m, cs, S⟩ := S
  obtain ⟨a, o, vs, n, rfl, ho, hc, hd, hr⟩ := r.lst_inv
  have hn : vs.size = l.length := by have := hr.length; simpa using this
  have e : (!vs.isEmpty) = (!l.isEmpty) := by
    congr 1
    unfold Array.isEmpty
    rw [hn]
    cases l <;> simp
  exact wpAny_truthy_list ⟨o, S.lv.keep _ _ ho, hc, n, hd⟩ (by omega) (by rw [e]; exact post S' rfl h)

/-- len of an owned list -/
theorem l_len_own {a : Addr} {l : List PV} (hl : l.length ≤ 16777216) (hm : (a, MV.lst l) ∈ κ) (h : Q (.int l.length) ρ κ) : VL c (callF (.builtin "len")) [.own a] ρ κ Q X := fun A fs E g R s vs G S hg r => by
  have S' := S
  obtain ⟨m, cs, S⟩ := S
  obtain ⟨_, rfl, r1⟩ := r.one_inv
  (first | obtain ⟨_, rfl⟩ := r1.int_inv | obtain rfl := r1.nil_inv | obtain ⟨_, _, rfl, rfl⟩ := r1.bytes_inv | obtain rfl := r1.bool_inv | obtain rfl := r1.val_inv | obtain rfl := r1.own_inv | obtain ⟨_, rfl⟩ := r1.str_inv | cases r1)
  obtain ⟨o, hmo, vs, n, rfl, hr⟩ := S.cells.get hm
  have e : vs.size = l.length := by have := hr.length; simpa using this
  exact call_len_list ⟨_, (S.lv.cell _ (List.mem_append_left _ hmo)).1, rfl, n, rfl⟩ (by omega) (post S' (.int _ _) (by rw [e]; exact h))
/-- x.append(v), x.extend(l) of an owned list -/
theorem frKeep_but' {fs : List Env} {L : Option Addr} {a : Addr} {h h' : Heap} (hs : Heap.SameBut a h h') (hn : a ∉ frs fs) : FrKeep fs L h h' := frKeep_but hs hn
theorem l_append {a : Addr} {l : List PV} {p : PV} (hl : l.length ≤ 16777216) (h : Q .none ρ ((a, .lst (l ++ [p])) :: κ)) : VL c (callF (.builtin "list.append")) [.own a, p] ρ ((a, .lst l) :: κ) Q X := fun A fs E g R s vs G S hg r => by
  obtain ⟨m, cs, S⟩ := S
  obtain ⟨_, _, rfl, r1, r2⟩ := r.two_inv; (first | obtain ⟨_, rfl⟩ := r1.int_inv | obtain rfl := r1.nil_inv | obtain ⟨_, _, rfl, rfl⟩ := r1.bytes_inv | obtain rfl := r1.bool_inv | obtain rfl := r1.val_inv | obtain rfl := r1.own_inv | obtain ⟨_, rfl⟩ := r1.str_inv | cases r1)
  obtain ⟨o, cs', rfl, ⟨vs, n, rfl, hr⟩, h1, h2, h3, h4, h5⟩ := S.headC
  have e : vs.size = l.length := by have := hr.length; simpa using this
  refine append_at h1 (fun h' hs ho' => ⟨g, ρ, _, _, .refl _, ⟨m, _, S.setC hs ho' (cr_lst ?_)⟩, ⟨frKeep_but hs h3, rfl, rfl⟩, .none, h⟩) (by rw [sizeLine_eq]; omega)
  rw [Array.toList_push]
  exact hr.append (.cons r2 .nil)
theorem m_append {a : Addr} {l : List PV} (hm : (a, MV.lst l) ∈ κ) : MG c ρ κ (.own a) (Str.ofString "append") (.builtin "list.append") := fun A fs E g R s v pl Q EE G S r h => by
  obtain ⟨m, cs, S⟩ := S
  (first | obtain ⟨_, rfl⟩ := r.int_inv | obtain rfl := r.nil_inv | obtain ⟨_, _, rfl, rfl⟩ := r.bytes_inv | obtain rfl := r.bool_inv | obtain rfl := r.val_inv | obtain rfl := r.own_inv | obtain ⟨_, rfl⟩ := r.str_inv | cases r)
  obtain ⟨o, hmo, vs, n, rfl, hr⟩ := S.cells.get hm
  exact getMethod_list_append (S.lv.cell _ (List.mem_append_left _ hmo)).1 rfl rfl h
theorem m_extend {a : Addr} {l : List PV} (hm : (a, MV.lst l) ∈ κ) : MG c ρ κ (.own a) (Str.ofString "extend") (.builtin "list.extend") := fun A fs E g R s v pl Q EE G S r h => by
  obtain ⟨m, cs, S⟩ := S
  (first | obtain ⟨_, rfl⟩ := r.int_inv | obtain rfl := r.nil_inv | obtain ⟨_, _, rfl, rfl⟩ := r.bytes_inv | obtain rfl := r.bool_inv | obtain rfl := r.val_inv | obtain rfl := r.own_inv | obtain ⟨_, rfl⟩ := r.str_inv | cases r)
  obtain ⟨o, hmo, vs, n, rfl, hr⟩ := S.cells.get hm
  have k := (S.lv.cell _ (List.mem_append_left _ hmo)).1
  exact getMethod_builtin ⟨_, k, rfl⟩ PySem.F.plainAttrs_list PySem.F.slot_list_extend PySem.F.type_list_extend (fun b e => by cases e; exact ⟨_, k, rfl⟩) h
theorem extend_any {w : World} {A : Around} {EE : Value → Shared → Prop} {s : Shared} {a it : Addr} {T : String} {o : Obj} {mine items : Array Value} {n c₀ : Nat} {Q : Value → Shared → Prop} (hT : T = "list" ∨ T = "tuple")
    (hS : s.heap.get? a = some { cls := .type "list", data := .seq mine c₀ }) (ho : s.heap.get? it = some o) (hc : o.cls = .type T) (hd : o.data = .seq items n) (hz : mine.size + items.size ≤ sizeLine)
    (h : Q .none { s with heap := s.heap.update a (Obj.mapSeq (· ++ items)) }) : wpAny (MM w) A (call (.builtin "list.extend") [.ref a, .ref it]) Q EE s := by
  refine wpAny_call_entry PySem.F.slot_list_extend ⟨_, hS, rfl⟩ PySem.F.entry_list_extend ?_ (PySem.F.args_list_extend_2 _ _)
  show wpAny _ _ (Builtin.List.listExtendWith (.ref a) (.ref it) .none) _ _ s
  unfold Builtin.List.listExtendWith
  refine wpAny_bind (wpAny_typeOf ⟨o, ho, hc⟩ ?_)
  have h1 : (Builtin.List.listSameRef (.ref a) (.ref it) || Value.type T == Value.type "list" || Value.type T == Value.type "tuple") = true := by
    rcases hT with rfl | rfl <;> simp
  simp only [h1, if_true]
  refine wpAny_bind ?_
  unfold Builtin.List.listItems
  refine wpAny_bind (wpAny_seqItems ho hd (wpAny_pure ?_))
  refine wpAny_bind ?_
  refine wpAny_bind (wpAny_seqItems hS rfl (wpAny_pure ?_))
  have h2 : (!mine.isEmpty && Builtin.List.listTooLong (mine.size + items.size)) = false := by
    have : Builtin.List.listTooLong (mine.size + items.size) = false := by simp [Builtin.List.listTooLong]; omega
    rw [this, Bool.and_false]
  simp only [h2, Bool.false_eq_true, if_false]
  show wpAny _ _ (updateSeq a (· ++ items) >>= fun _ => ret .none) _ _ s
  refine wpAny_bind (wpAny_updateSeq hS rfl ?_)
  exact wpAny_pure ⟨_, rfl, h⟩
theorem extend_obj {mine items : Array Value} {c₀ : Nat} : ∃ c', Obj.mapSeq (· ++ items) ({ cls := .type "list", data := .seq mine c₀ } : Obj) = { cls := .type "list", data := .seq (mine ++ items) c' } := ⟨_, rfl⟩
theorem l_extend_at {A : Around} {fs : List Env} {E : Env} {g : Heap} {R : List (Addr × Obj)} {s : Shared} {a it : Addr} {l l2 : List PV} {T : String} {o : Obj} {items : Array Value} {n : Nat} (hT : T = "list" ∨ T = "tuple") (S : Sat c.w fs E g R ρ ((a, .lst l) :: κ) s.heap)
    (ho : g.get? it = some o) (hc : o.cls = .type T) (hd : o.data = .seq items n) (hr2 : Reps g items.toList l2) (hl : l.length + l2.length ≤ 16777216) (h : Q .none ρ ((a, .lst (l ++ l2)) :: κ)) :
    wpAny (MM c.w) A (call (.builtin "list.extend") [.ref a, .ref it]) (Post c fs E g R s Rep Q) (Exc c fs E g R s X) s := by
  obtain ⟨m, cs, S⟩ := S
  obtain ⟨o', cs', rfl, ⟨vs, c₀, rfl, hr⟩, h1, h2, h3, h4, h5⟩ := S.headC
  have e : vs.size = l.length := by have := hr.length; simpa using this
  have e2 : items.size = l2.length := by have := hr2.length; simpa using this
  obtain ⟨c', ec⟩ := extend_obj (mine := vs) (items := items) (c₀ := c₀)
  have hs := Heap.SameBut.update s.heap a (Obj.mapSeq (· ++ items))
  refine extend_any hT h1 (S.lv.keep _ _ ho) hc hd (by rw [sizeLine_eq]; omega) ⟨g, ρ, _, _, .refl _, ⟨m, _, S.setC hs ((Heap.get?_update_self _ h1 (by rw [ec]; rfl)).trans (congrArg some ec)) (cr_lst ?_)⟩, ⟨frKeep_but hs h3, rfl, rfl⟩, .none, h⟩
  rw [Array.toList_append]
  exact hr.append hr2
theorem l_extend_lst {a : Addr} {l l2 : List PV} (hl : l.length + l2.length ≤ 16777216) (h : Q .none ρ ((a, .lst (l ++ l2)) :: κ)) : VL c (callF (.builtin "list.extend")) [.own a, .lst l2] ρ ((a, .lst l) :: κ) Q X := fun A fs E g R s vs G S hg r => by
  obtain ⟨_, _, rfl, r1, r2⟩ := r.two_inv; (first | obtain ⟨_, rfl⟩ := r1.int_inv | obtain rfl := r1.nil_inv | obtain ⟨_, _, rfl, rfl⟩ := r1.bytes_inv | obtain rfl := r1.bool_inv | obtain rfl := r1.val_inv | obtain rfl := r1.own_inv | obtain ⟨_, rfl⟩ := r1.str_inv | cases r1)
  obtain ⟨_, _, _, _, rfl, ho, hc, hd, hr2⟩ := r2.lst_inv
  exact l_extend_at (.inl rfl) S ho hc hd hr2 hl h
theorem l_extend_tup {a : Addr} {l l2 : List PV} (hl : l.length + l2.length ≤ 16777216) (h : Q .none ρ ((a, .lst (l ++ l2)) :: κ)) : VL c (callF (.builtin "list.extend")) [.own a, .tup l2] ρ ((a, .lst l) :: κ) Q X := fun A fs E g R s vs G S hg r => by
  obtain ⟨_, _, rfl, r1, r2⟩ := r.two_inv; (first | obtain ⟨_, rfl⟩ := r1.int_inv | obtain rfl := r1.nil_inv | obtain ⟨_, _, rfl, rfl⟩ := r1.bytes_inv | obtain rfl := r1.bool_inv | obtain rfl := r1.val_inv | obtain rfl := r1.own_inv | obtain ⟨_, rfl⟩ := r1.str_inv | cases r1)
  obtain ⟨_, _, _, _, rfl, ho, hc, hd, hr2⟩ := r2.tup_inv
  exact l_extend_at (.inr rfl) S ho hc hd hr2 hl h

/-- list(x) -/
theorem l_list_at {A : Around} {fs : List Env} {E : Env} {g : Heap} {R : List (Addr × Obj)} {s : Shared} {it : Addr} {l : List PV} {T : String} {o : Obj} {items : Array Value} {n : Nat} (hT : T = "list" ∨ T = "tuple") (S : Sat c.w fs E g R ρ κ s.heap)
    (ho : g.get? it = some o) (hc : o.cls = .type T) (hd : o.data = .seq items n) (hr : Reps g items.toList l) (hl : l.length ≤ 16777216) (h : Q (.lst l) ρ κ ∨ ∀ a, Q (.own a) ρ ((a, .lst l) :: κ)) :
    wpAny (MM c.w) A (call (.type "list") [.ref it]) (Post c fs E g R s Rep Q) (Exc c fs E g R s X) s := by
  have S' := S
  obtain ⟨m, cs, S⟩ := S
  have e : items.size = l.length := by have := hr.length; simpa using this
  refine call_list_seq it hT (S.lv.keep _ _ ho) hc hd (fun h' c' k eo => ?_) (by rw [sizeLine_eq]; omega)
  rcases h with h | h
  · exact grow_post (tk := s.toks) S' k (fun g' kk q => .lst (q _ _ (size_none _) eo) rfl rfl (hr.keeps kk)) h
  · exact own_post (tk := s.toks) S' k (size_none _) eo (cr_lst hr) (h _)
theorem l_list_lst {l : List PV} (hl : l.length ≤ 16777216) (h : Q (.lst l) ρ κ) : VL c (callF (.type "list")) [.lst l] ρ κ Q X := fun A fs E g R s vs G S hg r => by
  obtain ⟨_, rfl, r1⟩ := r.one_inv; cases r1 with
  | lst ho hc hd hr => exact l_list_at (.inl rfl) S ho hc hd hr hl (.inl h)
theorem l_list_tup {l : List PV} (hl : l.length ≤ 16777216) (h : Q (.lst l) ρ κ) : VL c (callF (.type "list")) [.tup l] ρ κ Q X := fun A fs E g R s vs G S hg r => by
  obtain ⟨_, rfl, r1⟩ := r.one_inv; cases r1 with
  | tup ho hc hd hr => exact l_list_at (.inr rfl) S ho hc hd hr hl (.inl h)
theorem l_listOwn_lst {l : List PV} (hl : l.length ≤ 16777216) (h : ∀ a, Q (.own a) ρ ((a, .lst l) :: κ)) : VL c (callF (.type "list")) [.lst l] ρ κ Q X := fun A fs E g R s vs G S hg r => by
  obtain ⟨_, rfl, r1⟩ := r.one_inv; cases r1 with
  | lst ho hc hd hr => exact l_list_at (.inl rfl) S ho hc hd hr hl (.inr h)
theorem l_listOwn_tup {l : List PV} (hl : l.length ≤ 16777216) (h : ∀ a, Q (.own a) ρ ((a, .lst l) :: κ)) : VL c (callF (.type "list")) [.tup l] ρ κ Q X := fun A fs E g R s vs G S hg r => by
  obtain ⟨_, rfl, r1⟩ := r.one_inv; cases r1 with
  | tup ho hc hd hr => exact l_list_at (.inr rfl) S ho hc hd hr hl (.inr h)
/-- tuple(x) -/
theorem l_tuple_lst {l : List PV} (hl : l.length ≤ 16777216) (h : Q (.tup l) ρ κ) : VL c (callF (.type "tuple")) [.lst l] ρ κ Q X := fun A fs E g R s vs G S hg r => by
  have S' := S
  obtain ⟨m, cs, S⟩ := S
  obtain ⟨_, rfl, r1⟩ := r.one_inv; cases r1 with
  | @lst a o vs n _ ho hc hd hr =>
    have e : vs.size = l.length := by have := hr.length; simpa using this
    refine call_tuple_list ⟨o, S.lv.keep _ _ ho, hc, n, hd⟩ (fun h' k => ?_) (by rw [sizeLine_eq]; omega)
    have hn : s.heap.get? h'.objs.size = none := by
      cases q : s.heap.get? h'.objs.size with
      | none => rfl
      | some x => exact absurd (Heap.lt_size (k _ _ q)) (Nat.lt_irrefl _)
    exact grow_post (tk := s.toks) S' (Sub.trans k push_sub) (fun g' kk q => .tup (q _ _ hn (Heap.get?_push_size _ rfl)) rfl rfl (hr.keeps kk)) h

/-- min, max, abs, range -/
theorem l_min {i j : Int} (h : Q (.int (if j < i then j else i)) ρ κ) : VL c (callF (.builtin "min")) [.int i, .int j] ρ κ Q X := fun A fs E g R s vs G S hg r => by
  obtain ⟨_, _, rfl, r1, r2⟩ := r.two_inv; (first | obtain ⟨_, rfl⟩ := r1.int_inv | obtain rfl := r1.nil_inv | obtain ⟨_, _, rfl, rfl⟩ := r1.bytes_inv | obtain rfl := r1.bool_inv | obtain rfl := r1.val_inv | obtain rfl := r1.own_inv | obtain ⟨_, rfl⟩ := r1.str_inv | cases r1); (first | obtain ⟨_, rfl⟩ := r2.int_inv | obtain rfl := r2.nil_inv | obtain ⟨_, _, rfl, rfl⟩ := r2.bytes_inv | obtain rfl := r2.bool_inv | obtain rfl := r2.val_inv | obtain rfl := r2.own_inv | obtain ⟨_, rfl⟩ := r2.str_inv | cases r2)
  refine min_two_ints G.hd fun h' tk k => grow_post S k (fun g' kk q => ?_) h
  split <;> exact .int _ _
theorem l_max {i j : Int} (h : Q (.int (if j > i then j else i)) ρ κ) : VL c (callF (.builtin "max")) [.int i, .int j] ρ κ Q X := fun A fs E g R s vs G S hg r => by
  obtain ⟨_, _, rfl, r1, r2⟩ := r.two_inv; (first | obtain ⟨_, rfl⟩ := r1.int_inv | obtain rfl := r1.nil_inv | obtain ⟨_, _, rfl, rfl⟩ := r1.bytes_inv | obtain rfl := r1.bool_inv | obtain rfl := r1.val_inv | obtain rfl := r1.own_inv | obtain ⟨_, rfl⟩ := r1.str_inv | cases r1); (first | obtain ⟨_, rfl⟩ := r2.int_inv | obtain rfl := r2.nil_inv | obtain ⟨_, _, rfl, rfl⟩ := r2.bytes_inv | obtain rfl := r2.bool_inv | obtain rfl := r2.val_inv | obtain rfl := r2.own_inv | obtain ⟨_, rfl⟩ := r2.str_inv | cases r2)
  refine max_two_ints G.hd fun h' tk k => grow_post S k (fun g' kk q => ?_) h
  split <;> exact .int _ _
theorem l_abs {i : Int} (h : Q (.int (if i < 0 then -i else i)) ρ κ) : VL c (callF (.builtin "abs")) [.int i] ρ κ Q X := fun A fs E g R s vs G S hg r => by
  obtain ⟨_, rfl, r1⟩ := r.one_inv; (first | obtain ⟨_, rfl⟩ := r1.int_inv | obtain rfl := r1.nil_inv | obtain ⟨_, _, rfl, rfl⟩ := r1.bytes_inv | obtain rfl := r1.bool_inv | obtain rfl := r1.val_inv | obtain rfl := r1.own_inv | obtain ⟨_, rfl⟩ := r1.str_inv | cases r1); exact call_abs_int fun u tk => post S (.int _ _) h
theorem l_range2 {a b : Int} (h : Q (.rng a b 1) ρ κ) : VL c (callF (.type "range")) [.int a, .int b] ρ κ Q X := fun A fs E g R s vs G S hg r => by
  obtain ⟨_, _, rfl, r1, r2⟩ := r.two_inv; (first | obtain ⟨_, rfl⟩ := r1.int_inv | obtain rfl := r1.nil_inv | obtain ⟨_, _, rfl, rfl⟩ := r1.bytes_inv | obtain rfl := r1.bool_inv | obtain rfl := r1.val_inv | obtain rfl := r1.own_inv | obtain ⟨_, rfl⟩ := r1.str_inv | cases r1); (first | obtain ⟨_, rfl⟩ := r2.int_inv | obtain rfl := r2.nil_inv | obtain ⟨_, _, rfl, rfl⟩ := r2.bytes_inv | obtain rfl := r2.bool_inv | obtain rfl := r2.val_inv | obtain rfl := r2.own_inv | obtain ⟨_, rfl⟩ := r2.str_inv | cases r2)
  exact call_range_2 (push_post S rfl (fun g' k e => .rng (t := _) (u := _) (v := _) e) h)
theorem l_range3 {a b d : Int} (hd : d ≠ 0) (hs : (b - a).natAbs.log2 < 30 ∨ d.natAbs.log2 < 30) (hp : Builtin.divisionGoesByPylong (b - a) d = false) (h : Q (.rng a b d) ρ κ) : VL c (callF (.type "range")) [.int a, .int b, .int d] ρ κ Q X := fun A fs E g R s vs G S hg r => by
  obtain ⟨_, _, _, rfl, r1, r2, r3⟩ := r.three_inv; (first | obtain ⟨_, rfl⟩ := r1.int_inv | obtain rfl := r1.nil_inv | obtain ⟨_, _, rfl, rfl⟩ := r1.bytes_inv | obtain rfl := r1.bool_inv | obtain rfl := r1.val_inv | obtain rfl := r1.own_inv | obtain ⟨_, rfl⟩ := r1.str_inv | cases r1); (first | obtain ⟨_, rfl⟩ := r2.int_inv | obtain rfl := r2.nil_inv | obtain ⟨_, _, rfl, rfl⟩ := r2.bytes_inv | obtain rfl := r2.bool_inv | obtain rfl := r2.val_inv | obtain rfl := r2.own_inv | obtain ⟨_, rfl⟩ := r2.str_inv | cases r2); (first | obtain ⟨_, rfl⟩ := r3.int_inv | obtain rfl := r3.nil_inv | obtain ⟨_, _, rfl, rfl⟩ := r3.bytes_inv | obtain rfl := r3.bool_inv | obtain rfl := r3.val_inv | obtain rfl := r3.own_inv | obtain ⟨_, rfl⟩ := r3.str_inv | cases r3)
  exact call_range_3 hd (push_post S rfl (fun g' k e => .rng (t := _) (u := _) (v := _) e) h) (.inl hp)
/-- sum of a list of ints -/
theorem reps_ints {g : Heap} : ∀ {vs : List Value} {ns : List Int}, Reps g vs (ns.map PV.int) → IntsAre vs ns
  | _, [], r => by rw [Reps.nil_inv r]; exact .nil
  | _, n :: ns, r => by
    obtain ⟨_, _, rfl, a, b⟩ := Reps.cons_inv r
    obtain ⟨_, rfl⟩ := a.int_inv
    exact .cons _ _ (reps_ints b)
theorem l_sum {ns : List Int} (h : Q (.int ns.sum) ρ κ) : VL c (callF (.builtin "sum")) [.lst (ns.map .int)] ρ κ Q X := fun A fs E g R s vs G S hg r => by
  have S' := S
  obtain ⟨m, cs, S⟩ := S
  obtain ⟨_, rfl, r1⟩ := r.one_inv
  generalize hl : ns.map PV.int = l at r1
  obtain ⟨a, o, vs, n, rfl, ho, hc, hd, hr⟩ := r1.lst_inv
  subst hl
  have hi := reps_ints hr
  obtain ⟨xs, hx⟩ := hi.allInts.items
  have hl' : s.heap.IsList a (intItems xs) := ⟨o, S.lv.keep _ _ ho, hc, n, by rw [hd, ← hx]⟩
  refine sum_intListG G.hd hl' fun h' tk t' hk => ?_
  have e1 : ns = xs.toList.map (·.1) := by
    rw [← nums_intItems, ← hx]
    exact (show numsOf vs.toList.toArray.toList = ns from hi.numsOf).symm
  have e2 : preSum (numAt xs) xs.size = ns.sum := by
    rw [preSum_eq, List.take_of_length_le (by simp), e1]
  rw [e2]
  exact grow_post S' hk (fun _ _ _ => .int _ _) h
end
end Mine

/-! # L10 -/
namespace Mine
open PySem PySem.W PyProof.Rows PySem.Calls PySem.SeqAt
set_option Elab.async false
set_option maxRecDepth 100000
set_option linter.unusedVariables false

/-! ## Equal lists -/
theorem eqAt_bytes {A : Around} {s : Shared} {b c : Array UInt8} {t u : Tok} : EqAt A s (.bytes b t) (.bytes c u) (b.toList == c.toList) := fun prog w E Q h => by
  unfold eqBool
  refine wpAny_holding ?_
  refine wpAny_ite_split (fun hab => ?_) (fun _ => ?_)
  · have e : b = c := by have := eq_of_beq hab; injection this
    subst e
    exact wpAny_bind (wpAny_rule (wpAny_pure (by simpa using h)))
  · exact wpAny_bind (richCompare_gives (op := .Eq) (typeIs_bytes s b t) (typeIs_bytes s c u) FB.slot_bytes_eq FB.entry_bytes_eq (FB.args_bytes_eq_2 _ _) (gives_bytes_eq b c t u) (fun e => nomatch e) (wpAny_truthy_bool h))
theorem lst_inv {g : Heap} {v : Value} {l : List PV} (r : Rep g v (.lst l)) : ∃ a o vs n, v = .ref a ∧ g.get? a = some o ∧ o.cls = .type "list" ∧ o.data = .seq vs n ∧ Reps g vs.toList l := by
  obtain ⟨_, _, _, _, rfl, a, b, c, d⟩ := r.lst_inv
  exact ⟨_, _, _, _, rfl, a, b, c, d⟩
theorem bytes_inv {g : Heap} {v : Value} {b : Bs} (r : Rep g v (.bytes b)) : ∃ t, v = .bytes b.toArray t := by
  (first | obtain ⟨_, rfl⟩ := r.int_inv | obtain rfl := r.nil_inv | obtain ⟨_, _, rfl, rfl⟩ := r.bytes_inv | obtain rfl := r.bool_inv | obtain rfl := r.val_inv | obtain rfl := r.own_inv | obtain ⟨_, rfl⟩ := r.str_inv | cases r); exact ⟨_, rfl⟩
theorem int_inv {g : Heap} {v : Value} {i : Int} (r : Rep g v (.int i)) : ∃ t, v = .int i t := by
  (first | obtain ⟨_, rfl⟩ := r.int_inv | obtain rfl := r.nil_inv | obtain ⟨_, _, rfl, rfl⟩ := r.bytes_inv | obtain rfl := r.bool_inv | obtain rfl := r.val_inv | obtain rfl := r.own_inv | obtain ⟨_, rfl⟩ := r.str_inv | cases r); exact ⟨_, rfl⟩
/-- a kind of data that == decides -/
structure EqK {α : Type} [BEq α] (f : α → PV) (d : Nat) : Prop where
  inj : ∀ g v x y, Rep g v (f x) → Rep g v (f y) → (x == y) = true
  eq : ∀ A s g v u x y, A.units + d < cLine → Sub g s.heap → Rep g v (f x) → Rep g u (f y) → EqAt A s v u (x == y)
theorem eqk_bytes : EqK PV.bytes 0 where
  inj g v x y r1 r2 := by
    obtain ⟨t, rfl⟩ := bytes_inv r1
    obtain ⟨u, e⟩ := bytes_inv r2
    injection e with e1 e2
    have : x = y := by simpa using congrArg Array.toList e1
    simp [this]
  eq A s g v u x y hu k r1 r2 := by (first | obtain ⟨_, rfl⟩ := r1.int_inv | obtain rfl := r1.nil_inv | obtain ⟨_, _, rfl, rfl⟩ := r1.bytes_inv | obtain rfl := r1.bool_inv | obtain rfl := r1.val_inv | obtain rfl := r1.own_inv | obtain ⟨_, rfl⟩ := r1.str_inv | cases r1); (first | obtain ⟨_, rfl⟩ := r2.int_inv | obtain rfl := r2.nil_inv | obtain ⟨_, _, rfl, rfl⟩ := r2.bytes_inv | obtain rfl := r2.bool_inv | obtain rfl := r2.val_inv | obtain rfl := r2.own_inv | obtain ⟨_, rfl⟩ := r2.str_inv | cases r2); exact eqAt_bytes
theorem eqk_int : EqK PV.int 0 where
  inj g v x y r1 r2 := by
    obtain ⟨t, rfl⟩ := int_inv r1
    obtain ⟨u, e⟩ := int_inv r2
    injection e with e1 e2
    simp [e1]
  eq A s g v u x y hu k r1 r2 := by (first | obtain ⟨_, rfl⟩ := r1.int_inv | obtain rfl := r1.nil_inv | obtain ⟨_, _, rfl, rfl⟩ := r1.bytes_inv | obtain rfl := r1.bool_inv | obtain rfl := r1.val_inv | obtain rfl := r1.own_inv | obtain ⟨_, rfl⟩ := r1.str_inv | cases r1); (first | obtain ⟨_, rfl⟩ := r2.int_inv | obtain rfl := r2.nil_inv | obtain ⟨_, _, rfl, rfl⟩ := r2.bytes_inv | obtain rfl := r2.bool_inv | obtain rfl := r2.val_inv | obtain rfl := r2.own_inv | obtain ⟨_, rfl⟩ := r2.str_inv | cases r2); exact (MeetsSeq.EqGives.int _ _ _ _).at A s
theorem reps_inj {α : Type} [BEq α] {f : α → PV} {d : Nat} (K : EqK f d) {g : Heap} : ∀ {vs : List Value} {l m : List α}, Reps g vs (l.map f) → Reps g vs (m.map f) → (l == m) = true
  | _, [], [], _, _ => rfl
  | _, [], _ :: _, h, h' => by
    obtain ⟨_, _, e, _, _⟩ := Reps.cons_inv h'
    rw [Reps.nil_inv h] at e; cases e
  | _, _ :: _, [], h, h' => by
    obtain ⟨_, _, e, _, _⟩ := Reps.cons_inv h
    rw [Reps.nil_inv h'] at e; cases e
  | _, x :: l, y :: m, h, h' => by
    obtain ⟨_, _, rfl, a, b⟩ := Reps.cons_inv h
    obtain ⟨_, _, e, a', b'⟩ := Reps.cons_inv h'
    obtain ⟨rfl, rfl⟩ := List.cons.inj e
    rw [List.cons_beq_cons, K.inj g _ x y a a', reps_inj K b b']; rfl
theorem all_range_beq {α : Type} [BEq α] : ∀ {l m : List α}, l.length = m.length → ((List.range l.length).all fun j => l[j]? == m[j]?) = (l == m)
  | [], [], _ => rfl
  | [], _ :: _, h => nomatch h
  | _ :: _, [], h => nomatch h
  | x :: l, y :: m, h => by
    have ih := all_range_beq (l := l) (m := m) (by simpa using h)
    rw [List.length_cons, List.range_succ_eq_map, List.all_cons, List.all_map, List.cons_beq_cons, ← ih]
    rfl
theorem lists_items {α : Type} [BEq α] {f : α → PV} {d : Nat} (K : EqK f d) {g : Heap} {A : Around} {s : Shared} {vs ws : Array Value} {l m : List α} (hu : A.units + (d + 1) < cLine) (k : Sub g s.heap) (r1 : Reps g vs.toList (l.map f)) (r2 : Reps g ws.toList (m.map f)) :
    ∀ j (h1 : j < vs.size) (h2 : j < ws.size), EqAt A.in1 s vs[j] ws[j] (l[j]? == m[j]?) := fun j h1 h2 => by
  have n1 : vs.size = l.length := by have := r1.length; simpa using this
  have n2 : ws.size = m.length := by have := r2.length; simpa using this
  have j1 : j < l.length := by omega
  have j2 : j < m.length := by omega
  obtain ⟨v, e1, q1⟩ := reps_at r1 (i := j) (p := f l[j]) (by rw [List.getElem?_map, List.getElem?_eq_getElem j1]; rfl)
  obtain ⟨u, e2, q2⟩ := reps_at r2 (i := j) (p := f m[j]) (by rw [List.getElem?_map, List.getElem?_eq_getElem j2]; rfl)
  rw [Array.getElem?_eq_getElem h1] at e1; cases e1
  rw [Array.getElem?_eq_getElem h2] at e2; cases e2
  have := K.eq A.in1 s g _ _ l[j] m[j] (by show A.units + 1 + d < cLine; omega) k q1 q2
  rw [List.getElem?_eq_getElem j1, List.getElem?_eq_getElem j2]
  exact this
theorem beq_lens {α : Type} [BEq α] : ∀ {l m : List α}, l.length ≠ m.length → (l == m) = false
  | [], [], h => absurd rfl h
  | [], _ :: _, _ => rfl
  | _ :: _, [], _ => rfl
  | x :: l, y :: m, h => by rw [List.cons_beq_cons, beq_lens (by simpa using h), Bool.and_false]
theorem rc_lists {α : Type} [BEq α] {f : α → PV} {d : Nat} (K : EqK f d) {g : Heap} {A : Around} {s : Shared} {v u : Value} {l m : List α} (hu : A.units + (d + 1) < cLine) (k : Sub g s.heap) (r1 : Rep g v (.lst (l.map f))) (r2 : Rep g u (.lst (m.map f))) :
    RcAt A s v u (l == m) ∧ RcNeAt A s v u (l != m) := by
  obtain ⟨a, o, vs, n, rfl, ho, hc, hd, hr⟩ := lst_inv r1
  obtain ⟨a2, o2, vs2, n2, rfl, ho2, hc2, hd2, hr2⟩ := lst_inv r2
  have n1 : vs.size = l.length := by have := hr.length; simpa using this
  have n2' : vs2.size = m.length := by have := hr2.length; simpa using this
  have hl : s.heap.IsList a vs := ⟨o, k _ _ ho, hc, n, hd⟩
  have hl2 : s.heap.IsList a2 vs2 := ⟨o2, k _ _ ho2, hc2, n2, hd2⟩
  have hu1 : A.units < cLine := by omega
  by_cases hsz : vs.size = vs2.size
  · have e1 := RcAt.lists hl hl2 hsz hu1 (lists_items K hu k hr hr2)
    have e2 := RcNeAt.lists hl hl2 hsz hu1 (lists_items K hu k hr hr2)
    rw [n1, all_range_beq (by omega)] at e1 e2
    exact ⟨e1, e2⟩
  · have hne : (vs.size != vs2.size) = true := by simpa using hsz
    have hb : (l == m) = false := beq_lens (by omega)
    have e1 := RcAt.lists_lengths hl hl2 hne hu1
    have e2 := RcNeAt.lists_lengths hl hl2 hne hu1
    unfold bne
    rw [hb]
    exact ⟨e1, e2⟩
theorem list_inj {α : Type} [BEq α] {f : α → PV} {d : Nat} (K : EqK f d) {g : Heap} {v : Value} {x y : List α} (r1 : Rep g v (.lst (x.map f))) (r2 : Rep g v (.lst (y.map f))) : (x == y) = true := by
  obtain ⟨a, o, vs, n, rfl, ho, hc, hd, hr⟩ := lst_inv r1
  obtain ⟨a2, o2, vs2, n2, e, ho2, hc2, hd2, hr2⟩ := lst_inv r2
  cases e
  rw [ho] at ho2; cases ho2
  rw [hd] at hd2; cases hd2
  exact reps_inj K hr hr2
theorem eqk_list {α : Type} [BEq α] {f : α → PV} {d : Nat} (K : EqK f d) : EqK (fun l : List α => PV.lst (l.map f)) (d + 1) where
  inj g v x y r1 r2 := list_inj K r1 r2
  eq A s g v u x y hu k r1 r2 := by
    by_cases hab : v = u
    · subst hab
      rw [list_inj K r1 r2]; exact EqAt.same v
    · have rc := (rc_lists K hu k r1 r2).1
      obtain ⟨a, o, vs, n, rfl, _⟩ := lst_inv r1
      obtain ⟨a2, o2, vs2, n2, rfl, _⟩ := lst_inv r2
      exact EqAt.of_refs (fun e => hab (by rw [e])) rc
section
variable {c : Jx} {ρ : Rho} {κ : Kap} {X X' : XP} {Q : PV → Rho → Kap → Prop}
theorem room {A : Around} {n d : Nat} (hd : d ≤ 800) (h : Bud A n) : A.units + d < cLine := by have := h.2; show A.units + d < 9900; omega
theorem v_leqK {α : Type} [BEq α] {f : α → PV} {d : Nat} (K : EqK f d) (hd : d ≤ 100) {l m : List α} (h : Q (.bool (l == m)) ρ κ) : V2 c (compareOp .Eq) (.lst (l.map f)) (.lst (m.map f)) ρ κ Q X := fun A fs E g R s v u G S hg r1 r2 =>
  let ⟨_, _, S'⟩ := S; (rc_lists K (room (by omega) G.bud) S'.lv.keep r1 r2).1 _ _ _ _ (post0 S (.bool _) h)
theorem v_lneK {α : Type} [BEq α] {f : α → PV} {d : Nat} (K : EqK f d) (hd : d ≤ 100) {l m : List α} (h : Q (.bool (l != m)) ρ κ) : V2 c (compareOp .NotEq) (.lst (l.map f)) (.lst (m.map f)) ρ κ Q X := fun A fs E g R s v u G S hg r1 r2 =>
  let ⟨_, _, S'⟩ := S; (rc_lists K (room (by omega) G.bud) S'.lv.keep r1 r2).2 _ _ _ _ (post0 S (.bool _) h)
theorem v_beql {l m : List Bs} (h : Q (.bool (l == m)) ρ κ) : V2 c (compareOp .Eq) (.lst (l.map .bytes)) (.lst (m.map .bytes)) ρ κ Q X := v_leqK eqk_bytes (by omega) h
theorem v_bnel {l m : List Bs} (h : Q (.bool (l != m)) ρ κ) : V2 c (compareOp .NotEq) (.lst (l.map .bytes)) (.lst (m.map .bytes)) ρ κ Q X := v_lneK eqk_bytes (by omega) h
theorem v_bnell {l m : List (List Bs)} (h : Q (.bool (l != m)) ρ κ) : V2 c (compareOp .NotEq) (.lst (l.map fun x => .lst (x.map .bytes))) (.lst (m.map fun x => .lst (x.map .bytes))) ρ κ Q X := v_lneK (eqk_list eqk_bytes) (by omega) h
theorem v_ieql {l m : List Int} (h : Q (.bool (l == m)) ρ κ) : V2 c (compareOp .Eq) (.lst (l.map .int)) (.lst (m.map .int)) ρ κ Q X := v_leqK eqk_int (by omega) h
theorem v_inel {l m : List Int} (h : Q (.bool (l != m)) ρ κ) : V2 c (compareOp .NotEq) (.lst (l.map .int)) (.lst (m.map .int)) ρ κ Q X := v_lneK eqk_int (by omega) h
theorem v_seq {a b : Str} (h : Q (.bool (a == b)) ρ κ) : V2 c (compareOp .Eq) (.str a) (.str b) ρ κ Q X := fun A fs E g R s v u G S hg r1 r2 => by
  (first | obtain ⟨_, rfl⟩ := r1.int_inv | obtain rfl := r1.nil_inv | obtain ⟨_, _, rfl, rfl⟩ := r1.bytes_inv | obtain rfl := r1.bool_inv | obtain rfl := r1.val_inv | obtain rfl := r1.own_inv | obtain ⟨_, rfl⟩ := r1.str_inv | cases r1); (first | obtain ⟨_, rfl⟩ := r2.int_inv | obtain rfl := r2.nil_inv | obtain ⟨_, _, rfl, rfl⟩ := r2.bytes_inv | obtain rfl := r2.bool_inv | obtain rfl := r2.val_inv | obtain rfl := r2.own_inv | obtain ⟨_, rfl⟩ := r2.str_inv | cases r2); exact PyProof.Rows.eq_str (post0 S (.bool _) h)
theorem v_sne {a b : Str} (h : Q (.bool (a != b)) ρ κ) : V2 c (compareOp .NotEq) (.str a) (.str b) ρ κ Q X := fun A fs E g R s v u G S hg r1 r2 => by
  (first | obtain ⟨_, rfl⟩ := r1.int_inv | obtain rfl := r1.nil_inv | obtain ⟨_, _, rfl, rfl⟩ := r1.bytes_inv | obtain rfl := r1.bool_inv | obtain rfl := r1.val_inv | obtain rfl := r1.own_inv | obtain ⟨_, rfl⟩ := r1.str_inv | cases r1); (first | obtain ⟨_, rfl⟩ := r2.int_inv | obtain rfl := r2.nil_inv | obtain ⟨_, _, rfl, rfl⟩ := r2.bytes_inv | obtain rfl := r2.bool_inv | obtain rfl := r2.val_inv | obtain rfl := r2.own_inv | obtain ⟨_, rfl⟩ := r2.str_inv | cases r2); exact PyProof.Rows.ne_str (post0 S (.bool _) h)
theorem v_bne_bool {a b : Bool} (h : Q (.bool (a != b)) ρ κ) : V2 c (compareOp .NotEq) (.bool a) (.bool b) ρ κ Q X := fun A fs E g R s v u G S hg r1 r2 => by
  (first | obtain ⟨_, rfl⟩ := r1.int_inv | obtain rfl := r1.nil_inv | obtain ⟨_, _, rfl, rfl⟩ := r1.bytes_inv | obtain rfl := r1.bool_inv | obtain rfl := r1.val_inv | obtain rfl := r1.own_inv | obtain ⟨_, rfl⟩ := r1.str_inv | cases r1); (first | obtain ⟨_, rfl⟩ := r2.int_inv | obtain rfl := r2.nil_inv | obtain ⟨_, _, rfl, rfl⟩ := r2.bytes_inv | obtain rfl := r2.bool_inv | obtain rfl := r2.val_inv | obtain rfl := r2.own_inv | obtain ⟨_, rfl⟩ := r2.str_inv | cases r2); exact RcNeAt.bool_bool a b _ _ _ _ (post0 S (.bool _) h)
/-- a list, so many times -/
theorem v_lmul {l : List PV} {n : Int} (hlo : -(2 ^ 63 : Int) ≤ n) (hhi : n < 2 ^ 63) (hsz : l.length * n.toNat ≤ 256) (h : Q (.lst (List.replicate n.toNat l).flatten) ρ κ) : V2 c (binaryOp .Mult) (.lst l) (.int n) ρ κ Q X := fun A fs E g R s v u G S hg r1 r2 => by
  (first | obtain ⟨_, rfl⟩ := r2.int_inv | obtain rfl := r2.nil_inv | obtain ⟨_, _, rfl, rfl⟩ := r2.bytes_inv | obtain rfl := r2.bool_inv | obtain rfl := r2.val_inv | obtain rfl := r2.own_inv | obtain ⟨_, rfl⟩ := r2.str_inv | cases r2)
  rename_i u
  have S' := S
  obtain ⟨m, cs, S⟩ := S
  obtain ⟨a, o, vs, k, rfl, ho, hc, hd, hr⟩ := r1.lst_inv
  obtain ⟨cls, dd, data, sl⟩ := o
  simp only at hc hd
  subst hc hd
  have k1 := S.lv.keep _ _ ho
  have hn : vs.size = l.length := by have := hr.length; simpa using this
  have hsz' : vs.size * n.toNat ≤ 256 := by rw [hn]; exact hsz
  have key : (List.foldl (fun x1 x2 => x1 ++ x2) #[] (List.replicate (if vs.isEmpty = true then 0 else n.toNat) vs)) = (List.replicate n.toNat vs.toList).flatten.toArray := by
    obtain ⟨ws, rfl⟩ : ∃ ws : List Value, vs = ws.toArray := ⟨vs.toList, by simp⟩
    rw [listMul_foldl_if]
  refine wpAny_binaryOp_repeat_ref (T := "list") (U := "int") (by decide) ⟨_, k1, rfl⟩ (fun s' => typeIs_int s' n u) noFill_list_mul F.fills_int_mul F.slot_int_rmul repeat_list F.slot_int_index.lookup
    (call_meets F.slot_int_rmul (typeIs_int s n u) F.entry_int_rmul (F.args_int_rmul_2 _ _) (lm_int_rmul_list_any n u a vs k dd sl)
      ⟨k1, rfl, ⟨_, k1, rfl⟩, call_meets F.slot_list_mul ⟨_, k1, rfl⟩ F.entry_list_mul (F.args_list_mul_2 _ _)
        (lm_list_mul_any a vs k dd sl n u (by simp [Builtin.List.listFitsIndex]; omega) (by omega) (by simp [Builtin.List.listTooLong, sizeLine]; omega))
        ⟨k1, ?_⟩⟩)
  rw [key]
  refine push_post (tk := s.toks) S' rfl (fun g' kk e => .lst e rfl rfl ?_) h
  show Reps g' (List.replicate n.toNat vs.toList).flatten _
  have hr' := hr.keeps kk
  induction n.toNat with
  | zero => exact .nil
  | succ j ih => rw [List.replicate_succ, List.replicate_succ, List.flatten_cons, List.flatten_cons]; exact hr'.append ih

/-! ## Taking apart -/
theorem draw_it {w : World} {g : Heap} {it : Addr} {K : Nat → Obj → Prop} {l : List PV} {A : Around} {EE : Value → Shared → Prop} (hok : IterOk w g it K l) (hit : g.get? it = none) : ∀ (n i : Nat) (s : Shared) (o : Obj) (Q : List Value → Shared → Prop), Sub g s.heap → s.heap.get? it = some o → K i o → i + n ≤ l.length →
    (∀ h' tk vs o', Reps g vs ((l.drop i).take n) → Heap.SameBut it s.heap h' → h'.get? it = some o' → K (i + n) o' → Q vs { s with heap := h', toks := tk }) → wpAny (MM w) A (draw (.ref it) n) Q EE s
  | 0, i, s, o, Q, k, ho, hK, hle, hQ => wpAny_pure (hQ s.heap s.toks [] o (by rw [List.take_zero]; exact .nil) (Heap.SameBut.refl ..) ho hK)
  | n + 1, i, s, o, Q, k, ho, hK, hle, hQ => by
    have hlt : i < l.length := by omega
    show wpAny _ _ (pyNext (.ref it) >>= _) Q EE s
    refine wpAny_bind (hok.1 i l[i] (List.getElem?_eq_getElem hlt) A _ _ s o k ho hK fun h₁ tk v o₁ rv hs₁ ho₁ hK₁ => ?_)
    have k₁ : Sub g h₁ := fun b x e => (hs₁.2 b fun q => by rw [q, hit] at e; cases e).trans (k b x e)
    refine wpAny_bind (wpAny_holding (draw_it hok hit n (i + 1) { s with heap := h₁, toks := tk } o₁ _ k₁ ho₁ hK₁ (by omega) fun h₂ tk₂ vs o₂ rs hs₂ ho₂ hK₂ => wpAny_pure ?_))
    refine hQ h₂ tk₂ (v :: vs) o₂ ?_ (hs₁.trans hs₂) ho₂ (by rw [show i + (n + 1) = i + 1 + n by omega]; exact hK₂)
    rw [List.drop_eq_getElem_cons hlt, List.take_succ_cons]
    exact .cons rv rs
/-- the names take the values in turn -/
noncomputable def updAll (ρ : Rho) : List Str → List PV → Rho
  | x :: xs, p :: ps => updAll (upd ρ x p) xs ps
  | _, _ => ρ
theorem assign_names {A : Around} {fs : List Env} {E : Env} {R : List (Addr × Obj)} {EE : Value → Shared → Prop} (G : Good c A fs E) : ∀ (ts : List (Str × Pos)) (s : Shared) (g : Heap) (ρ : Rho) (vs : List Value) (ps : List PV) (Q : PF → Rho → Kap → Prop) (s0 : Shared) (g0 : Heap), (∀ t ∈ ts, c.scope.names.lookup t.1 = some .local) → Sub g0 g → Stp fs (some E.locals) s0 s → Sat c.w fs E g R ρ κ s.heap → Reps g vs ps → ts.length = ps.length → Q .next (updAll ρ (ts.map (·.1)) ps) κ →
    wpAny (MM c.w) A (assignInOrder ((assignEach (ts.map fun t => Expr.Name t.1 t.2) E).map (·.2)) vs) (fun _ => Post c fs E g0 R s0 RF Q .next) EE s
  | [], s, g, ρ, vs, ps, Q, s0, g0, hk, k, st, S, r, hl, h => by
    cases ps with
    | cons _ _ => cases hl
    | nil => (first | obtain ⟨_, rfl⟩ := r.int_inv | obtain rfl := r.nil_inv | obtain ⟨_, _, rfl, rfl⟩ := r.bytes_inv | obtain rfl := r.bool_inv | obtain rfl := r.val_inv | obtain rfl := r.own_inv | obtain ⟨_, rfl⟩ := r.str_inv | cases r); exact wpAny_pure ⟨g, ρ, κ, .next, k, S, st, trivial, h⟩
  | t :: ts, s, g, ρ, vs, ps, Q, s0, g0, hk, k, st, S, r, hl, h => by
    cases r with
    | nil => cases hl
    | @cons v p vs ps a b =>
      show wpAny _ _ (assignInOrder (assign (.Name t.1 t.2) E :: (assignEach (ts.map fun t => Expr.Name t.1 t.2) E).map (·.2)) (v :: vs)) _ _ _
      refine assignInOrder_cons ?_
      have hx : E.kindOf t.1 = some .local := by unfold Env.kindOf; rw [G.sc, hk t (.head _)]
      obtain ⟨m, cs, S'⟩ := S
      refine wpAny_assign_Name (wpAny_storeName_local hx S'.ns (fun h' hn hs => ?_) (by show (E.scope.kind == .class || (E.scope.kind == .module && E.locals != E.globals)) = false; rw [G.kd]; rfl))
      exact assign_names G ts _ g _ vs ps Q s0 g0 (fun t' h' => hk t' (.tail _ h')) k (st.trans ⟨frKeep_same hs, rfl, rfl⟩) (sat_store S' hx a hn hs) b (by simpa using hl) h
theorem c_Unpack {ts : List (Str × Pos)} {elts : List Expr} {x1} {tp pos : Pos} {e : Expr} {Q : PF → Rho → Kap → Prop} (he : elts = ts.map fun t => Expr.Name t.1 t.2) (hs : ∀ E, swapsWithSole [.Tuple elts x1 tp] e pos.line E = pure false) (hw : ∀ E, swappedStores [.Tuple elts x1 tp] e E = pure none)
    (hk : ∀ t ∈ ts, c.scope.names.lookup t.1 = some .local) (hst : ∀ E, (assignEach elts E).findIdx? (·.1) = none)
    (h : E1 c e ρ κ (fun p ρ1 κ1 => ∃ l, (p = .tup l ∨ p = .lst l) ∧ ts.length = l.length ∧ Q .next (updAll ρ1 (ts.map (·.1)) l) κ1) X) : C1 c (.Assign [.Tuple elts x1 tp] e pos) ρ κ Q X := fun A fs E g R s G S hg => by
  subst he
  refine Assign_Tuple (chain0 hg (h A fs E g R s G S hg) fun v s1 g1 ρ1 κ1 p _ k1 st1 S1 hg1 r1 q1 => ?_) (hs E) (hw E)
  obtain ⟨l, hp, hl, q1⟩ := q1
  rw [assign_Tuple]
  refine wpAny_bind (wpAny_standAt ?_)
  unfold unpack
  have hlen : ∀ ts : List (Str × Pos), (assignEach (ts.map fun t => Expr.Name t.1 t.2) E).length = ts.length := fun ts => by
    induction ts with
    | nil => rfl
    | cons t ts ih => show (_ :: assignEach (ts.map fun t => Expr.Name t.1 t.2) E).length = _; rw [List.length_cons, ih]; rfl
  rw [hst E, hlen]
  refine wpAny_bind (wpAny_holding ?_)
  obtain ⟨m1, cs1, S1⟩ := S1
  have it : IT c.w p l ∧ ∃ T id, s1.TypeIs v T ∧ typeLookup (.type T) "__iter__" = pure (some (.builtin id)) := by
    rcases hp with rfl | rfl
    · refine ⟨it_tup _ _, "tuple", "tuple.__iter__", ?_, slot_tuple_iter.lookup⟩
      obtain ⟨_, _, _, _, rfl, ho, hc, hd, hr⟩ := r1.tup_inv
      exact ⟨_, S1.lv.keep _ _ ho, hc⟩
    · refine ⟨it_list _ _, "list", "list.__iter__", ?_, PySem.F.slot_list_iter.lookup⟩
      obtain ⟨_, _, _, _, rfl, ho, hc, hd, hr⟩ := r1.lst_inv
      exact ⟨_, S1.lv.keep _ _ ho, hc⟩
  obtain ⟨it, T, id, hT, hl'⟩ := it
  unfold unpackItems
  refine wpAny_bind ?_
  unfold notIterableAtAll
  refine wpAny_bind (wpAny_specialOf hT hl' ?_)
  refine wpAny_pure ?_
  simp only [Bool.false_eq_true, if_false]
  refine wpAny_bind (wpAny_holding (it A _ g1 s1 v _ S1.lv.keep r1 fun o K hok hK hf => ?_))
  have S2 := S1.pushR hf
  obtain ⟨a1, a2, a3, a4, a5⟩ := S2.headR
  refine wpAny_bind (wpAny_holding (draw_it hok a2 ts.length 0 _ o _ S2.lv.keep a1 hK (by omega) fun h₁ tk vs o₁ rs hs₁ ho₁ hK₁ => ?_))
  have hvs : vs.length = ts.length := by rw [rs.length, List.drop_zero, List.length_take]; omega
  rw [if_neg (by omega)]
  have S3 := S2.setR hs₁ ho₁
  rw [List.drop_zero, hl, List.take_of_length_le (Nat.le_refl _)] at rs
  rw [show 0 + ts.length = l.length by omega] at hK₁
  refine wpAny_bind (wpAny_holding (hok.2 A _ _ _ o₁ S3.lv.keep ho₁ hK₁ G.hd fun h₂ he₂ => ?_))
  simp only [Option.isSome_none, Bool.false_eq_true, if_false]
  obtain ⟨⟨g3, k3, S4⟩, fk⟩ := S3.leaveR he₂
  refine wpAny_pure ?_
  refine assign_names G ts _ g3 ρ1 vs l Q s g hk (k1.trans k3) (st1.trans ⟨FrKeep.trans (.of_sub push_sub) (FrKeep.trans (frKeep_but hs₁ a3) fk), rfl, rfl⟩) ⟨m1, cs1, S4⟩ (rs.keeps k3) hl q1

/-- a ≤ x ≤ b as a test -/
theorem b_Chain2 {l r1 r2 : Expr} {op1 op2 : CmpOp} {pos : Pos} {Q : Bool → Rho → Kap → Prop} (hm : lastMarks [op1, op2] [r1, r2] = false)
    (h : E1 c l ρ κ (fun a ρ1 κ1 => E1 c r1 ρ1 κ1 (fun b ρ2 κ2 => V2 c (compareOp op1) a b ρ2 κ2 (fun p ρ3 κ3 => T1 c p ρ3 κ3 (fun t ρ4 κ4 => if t = true then E1 c r2 ρ4 κ4 (fun d ρ5 κ5 => V2 c (compareOp op2) b d ρ5 κ5 (fun p ρ6 κ6 => T1 c p ρ6 κ6 Q X) X) X else Q false ρ4 κ4) X) X) X) X) : B1 c (.Compare l [op1, op2] [r1, r2] pos) ρ κ Q X := fun A fs E g R s G S hg => by
  refine isTrue_chain (chain0 hg (h A fs E g R s G S hg) fun a s1 g1 ρ1 κ1 pa _ k1 st1 S1 hg1 ra q1 => test_link ?_) hm
  refine chain k1 st1 hg1 (q1 A fs E g1 R s1 G S1 hg1) fun b s2 g2 ρ2 κ2 pb k12 k2 st2 S2 hg2 rb q2 => ?_
  refine chain k2 st2 hg2 (q2 A fs E g2 R s2 a b G S2 hg2 (ra.keeps k12) rb) fun x s3 g3 ρ3 κ3 px k23 k3 st3 S3 hg3 rx q3 => ?_
  refine chain k3 st3 hg3 (q3 A fs E g3 R s3 x G S3 hg3 rx) fun t s4 g4 ρ4 κ4 pt k34 k4 st4 S4 hg4 rt q4 => ?_
  subst rt
  cases t
  · exact ⟨g4, ρ4, κ4, _, k4, S4, st4, rfl, q4⟩
  · refine test_last (chain k4 st4 hg4 (q4 A fs E g4 R s4 G S4 hg4) fun d s5 g5 ρ5 κ5 pd k45 k5 st5 S5 hg5 rd q5 => ?_)
    refine chain k5 st5 hg5 (q5 A fs E g5 R s5 b d G S5 hg5 (rb.keeps (k23.trans (k34.trans k45))) rd) fun y s6 g6 ρ6 κ6 py _ k6 st6 S6 hg6 ry q6 => ?_
    exact lift k6 st6 (q6 A fs E g6 R s6 y G S6 hg6 ry)
end
end Mine

/-! # L11 -/
namespace Mine
open PySem PySem.W PyProof.Rows PySem.Calls
set_option Elab.async false
set_option maxRecDepth 100000
set_option linter.unusedVariables false

/-! ## Name objects -/
noncomputable abbrev labDict (hs : Int) (tk : Tok) (v : Value) (n : Nat) : Obj := dictOf [⟨hs, .str (S "labels") tk, v⟩] n
theorem nm_inv {g : Heap} {v : Value} {l : List Bs} (r : Rep g v (.nm l)) : ∃ x dx t n hs tk, v = .ref x ∧ g.get? x = some (instObj 387 dx) ∧ g.get? dx = some (labDict hs tk (.ref t) n) ∧ Rep g (.ref t) (.tup (l.map .bytes)) := by
  cases r with
  | nm a b c d e f => exact ⟨_, _, _, _, _, _, rfl, a, b, .tup c d e f⟩
theorem InstOf {h : Heap} {x dx : Addr} {hs : Int} {tk : Tok} {v : Value} {n : Nat} (a : h.get? x = some (instObj 387 dx)) (b : h.get? dx = some (labDict hs tk v n)) : PySem.W.InstAt h x (instObj 387 dx) 387 (some (labDict hs tk v n)) := ⟨a, rfl, rfl, b⟩
section
variable {c : Jx} {ρ : Rho} {κ : Kap} {X X' : XP} {Q : PV → Rho → Kap → Prop}
theorem find_labels (w : World) {hs : Int} {tk : Tok} {v : Value} {n : Nat} : findObj (KF pw w.params) 387 (some (labDict hs tk v n)) (S "labels") = some (.value v) :=
  findObj_own (attr := none) (by kernel_rfl) (by kernel_rfl) (by kernel_rfl) (by kernel_rfl)
theorem a_labels {l : List Bs} (h : Q (.tup (l.map .bytes)) ρ κ) : V1 c (fun o => getAttr o (S "labels") true) (.nm l) ρ κ Q X := fun A fs E g R s v G S hg r => by
  have S' := S
  obtain ⟨m, cs, S⟩ := S
  obtain ⟨x, dx, t, n, hs, tk, rfl, h1, h2, r2⟩ := nm_inv r
  have K := S.lv.W.K.keeps S.lv.keep
  exact get_value K (InstOf (S.lv.keep _ _ h1) (S.lv.keep _ _ h2)) (by kernel_rfl) (find_labels c.w) (by kernel_rfl) (post S' r2 h)
/-- a method of Name -/
theorem m_nm {l : List Bs} {name : Str} {f : Addr} (hf : findIn (KF pw c.w.params) (.ref 387) name = some (some (.ref f))) (ht : typeIn (KF pw c.w.params) (.ref f) = some (.type "function")) (hs : (name == S "labels") = false) : MG c ρ κ (.nm l) name (.ref f) := fun A fs E g R s v pl Q EE G S r h => by
  obtain ⟨m, cs, S⟩ := S
  obtain ⟨x, dx, t, n, hs', tk, rfl, h1, h2, r2⟩ := nm_inv r
  have K := S.lv.W.K.keeps S.lv.keep
  refine method_fn K (InstOf (S.lv.keep _ _ h1) (S.lv.keep _ _ h2)) (by kernel_rfl) (by kernel_rfl) hf ht ?_ h
  have e : (Value.str (Mine.S "labels") tk).isStr name = false := by
    show (Mine.S "labels" == name) = false
    rw [beq_eq_false_iff_ne] at hs ⊢
    exact fun q => hs q.symm
  simp [shadowIn, lookIn, e, DictEntry.refKey]

/-- a call at another depth -/
theorem call_at {A' : Around} {fs : List Env} {E : Env} {g : Heap} {R : List (Addr × Obj)} {s : Shared} {f : Value} {vs : List Value} {ps : List PV} {n : Nat} {Q0 : PV → Prop} {K : Value → Shared → Prop} {EE : Value → Shared → Prop}
    (hfr : A'.frames = some fs) (hh : A'.handled = none) (hb : Bud A' n) (S : Sat c.w fs E g R ρ κ s.heap) (hg : s.gens = #[]) (r : Reps g vs ps) (h : CT c.w f ps n Q0 noC)
    (k : ∀ v s' g' p, Sub g g' → Sat c.w fs E g' R ρ κ s'.heap → Stp fs (some E.locals) s s' → Rep g' v p → Q0 p → K v s') : wpAny (MM c.w) A' (call f vs) K EE s := by
  obtain ⟨m, cs, S⟩ := S
  obtain ⟨lc, L, back⟩ := S.toCall
  refine wpAny_mono (h A' fs g _ s vs hfr hh hb L r hg) (fun v s' p => ?_) fun e s' p => ?_
  · obtain ⟨g', q, kk, L', st, rq, hq⟩ := p
    exact k v s' g' q kk ⟨m, cs, back g' _ kk L' st.fr⟩ st.none_to rq hq
  · obtain ⟨g', C, ea, a0, B, rfl, kk, L', st, hC, _⟩ := p; exact hC.elim
theorem bud_in1 {A : Around} {n m : Nat} (hn : n < m) (h : Bud A m) : Bud A.in1 n := ⟨by have := h.1; show A.depth + 4 * n < 900; omega, by have := h.2; show A.units + 1 + 16 * n < 9000; omega⟩
theorem bud_le {A : Around} {n m : Nat} (hn : n ≤ m) (h : Bud A m) : Bud A n := ⟨by have := h.1; omega, by have := h.2; omega⟩
theorem l_len_nm {l : List Bs} {n : Nat} (h0 : CT c.w (.ref 304) [.nm l] n (fun p => p = .int l.length) noC) (hn : n < c.n) (hz : l.length ≤ 16777216) (h : Q (.int l.length) ρ κ) : VL c (callF (.builtin "len")) [.nm l] ρ κ Q X := fun A fs E g R s vs G S hg r => by
  obtain ⟨_, rfl, r1⟩ := r.one_inv
  have S' := S
  obtain ⟨m, cs, S⟩ := S
  obtain ⟨x, dx, t, nn, hs', tk, rfl, h1, h2, _⟩ := nm_inv r1
  have K := S.lv.W.K.keeps S.lv.keep
  refine Calls.call_function_entry kind_len plain_len entry_len (args_len1 _) ?_
  unfold Builtin.«len»
  refine wpAny_bind (m := oneArg "len" _) (wpAny_pure ?_)
  refine wpAny_bind (m := callSpecial? (.ref x) (Str.ofString "__len__")) (special_fn (f := 304) K (InstOf (S.lv.keep _ _ h1) (S.lv.keep _ _ h2)) (by kernel_rfl) (by kernel_rfl)
    (call_at (A' := A.in1) G.fr G.hd (bud_in1 hn G.bud) S' hg (.cons r1 .nil) h0 fun v s' g' p k S2 st rp hp => ?_))
  subst hp
  (first | obtain ⟨_, rfl⟩ := rp.int_inv | obtain rfl := rp.nil_inv | obtain ⟨_, _, rfl, rfl⟩ := rp.bytes_inv | obtain rfl := rp.bool_inv | obtain rfl := rp.val_inv | obtain rfl := rp.own_inv | obtain ⟨_, rfl⟩ := rp.str_inv | cases rp)
  refine wpAny_bind (wpAny_holding (wpAny_pure ?_))
  refine wpAny_bind (wpAny_letGo ?_)
  show wpAny _ _ (if (l.length : Int) < 0 then _ else _) _ _ _
  rw [if_neg (by omega)]
  show wpAny _ _ (if (l.length : Int) ≥ 2 ^ 63 then _ else _) _ _ _
  rw [if_neg (by omega)]
  exact wpAny_bind (wpAny_mkInt (wpAny_pure ⟨_, rfl, g', ρ, κ, _, k, S2, ⟨st.fr, st.gens, st.os⟩, .int _ _, h⟩))
theorem cmp_nm {op : CmpOp} {f : Addr} {a b : List Bs} {bb : Bool} {n : Nat} (hs : findIn (KF pw c.w.params) (.ref 387) (cmpInfo op).2.1 = some (some (.ref f))) (hf : isFn (KF pw c.w.params) (.ref f) = true)
    (h0 : CT c.w (.ref f) [.nm a, .nm b] n (fun p => p = .bool bb) noC) (hn : n ≤ c.n) (h : Q (.bool bb) ρ κ) : V2 c (richCompare op) (.nm a) (.nm b) ρ κ Q X := fun A fs E g R s v u G S hg r1 r2 => by
  have S' := S
  obtain ⟨m, cs, S⟩ := S
  obtain ⟨x, dx, t, nn, hs', tk, rfl, h1, h2, _⟩ := nm_inv r1
  obtain ⟨y, dy, t2, nn2, hs2, tk2, rfl, h3, h4, _⟩ := nm_inv r2
  have K := S.lv.W.K.keeps S.lv.keep
  have I := InstOf (S.lv.keep _ _ h1) (S.lv.keep _ _ h2)
  have J := InstOf (S.lv.keep _ _ h3) (S.lv.keep _ _ h4)
  have one : wpAny (MM c.w) A (tryCompare (.ref x) (cmpInfo op).2.1 (.ref y)) (fun r s' => ∃ v, r = some v ∧ Post c fs E g R s Rep Q v s') (Exc c fs E g R s X) s := by
    unfold tryCompare
    refine wpAny_bind (ifBound_K K I hs hf (call_at (A' := A) G.fr G.hd (bud_le hn G.bud) S' hg (.cons r1 (.cons r2 .nil)) h0 fun v s' g' p k S2 st rp hp => ?_))
    subst hp
    (first | obtain ⟨_, rfl⟩ := rp.int_inv | obtain rfl := rp.nil_inv | obtain ⟨_, _, rfl, rfl⟩ := rp.bytes_inv | obtain rfl := rp.bool_inv | obtain rfl := rp.val_inv | obtain rfl := rp.own_inv | obtain ⟨_, rfl⟩ := rp.str_inv | cases rp)
    exact wpAny_pure ⟨_, rfl, g', ρ, κ, _, k, S2, st, .bool _, h⟩
  unfold richCompare
  simp only [oneThing_ref]
  refine wpAny_holding (wpAny_bind (wpAny_cRoomFor (by have := G.bud.2; show A.units < 9900; omega) ?_))
  refine wpAny_bind (I.type.here (wpAny_bind (J.type.here ?_)))
  split
  · rename_i q
    exact absurd q (by simp)
  · refine wpAny_bind (wpAny_pure ?_)
    simp only [Bool.false_eq_true, if_false]
    refine wpAny_bind (wpAny_mono one (fun r s' z => ?_) fun _ _ e => e)
    obtain ⟨v, rfl, hq⟩ := z
    exact wpAny_pure hq
theorem v_eq_nm {a b : List Bs} {bb : Bool} {n : Nat} (h0 : CT c.w (.ref 231) [.nm a, .nm b] n (fun p => p = .bool bb) noC) (hn : n ≤ c.n) (h : Q (.bool bb) ρ κ) : V2 c (compareOp .Eq) (.nm a) (.nm b) ρ κ Q X := cmp_nm (op := .Eq) (by kernel_rfl) (by kernel_rfl) h0 hn h
theorem v_ne_nm {a b : List Bs} {bb : Bool} {n : Nat} (h0 : CT c.w (.ref 238) [.nm a, .nm b] n (fun p => p = .bool bb) noC) (hn : n ≤ c.n) (h : Q (.bool bb) ρ κ) : V2 c (compareOp .NotEq) (.nm a) (.nm b) ρ κ Q X := cmp_nm (op := .NotEq) (by kernel_rfl) (by kernel_rfl) h0 hn h
theorem s_nm {v sl : Expr} {l : List Bs} {i : Int} {q : PV} {n : Nat} (hsl : ∀ x i, subscripted sl true (.ref x) i = runValue (.builtin "lifetime.subscript" ⟨[.ref x, i], []⟩)) (h0 : CT c.w (.ref 311) [.nm l, .int i] n (fun p => p = q) noC) (hn : n < c.n) (h : Q q ρ κ) : V2 c (subscriptTail v sl) (.nm l) (.int i) ρ κ Q X := fun A fs E g R s a u G S hg r1 r2 => by
  have S' := S
  obtain ⟨m, cs, S⟩ := S
  obtain ⟨x, dx, t, nn, hs', tk, rfl, h1, h2, _⟩ := nm_inv r1
  have K := S.lv.W.K.keeps S.lv.keep
  have I := InstOf (S.lv.keep _ _ h1) (S.lv.keep _ _ h2)
  have hfn : typeIn (KF pw c.w.params) (.ref 311) = some (.type "function") := by kernel_rfl
  have hf : fnIn (KF pw c.w.params) 311 = true := by kernel_rfl
  unfold fnIn at hf
  split at hf
  · rename_i e
    unfold subscriptTail getitemInPython
    refine wpAny_bind (wpAny_bind (wpAny_bind (I.type.here ((looks_findIn (r := some (.ref 311)) K (by kernel_rfl)).here ?_))))
    dsimp only
    refine wpAny_bind (wpAny_load (K _ _ e) (wpAny_pure ?_))
    dsimp only
    rw [hsl]
    refine wpAny_bind (wpAny_runValue (codeAny_builtin entry_sub ?_))
    unfold Builtin.«lifetime.subscript»
    refine wpAny_bind (special_fn (f := 311) K I (by kernel_rfl) hfn (call_at (A' := A.in1) G.fr G.hd (bud_in1 hn G.bud) S' hg (.cons r1 (.cons r2 .nil)) h0 fun v s' g' p k S2 st rp hp => ?_))
    subst hp
    refine wpAny_pure ?_
    exact wpAny_bind (wpAny_letTemporaryGo (wpAny_pure ⟨g', ρ, κ, _, k, S2, st, rp, h⟩))
  · cases hf

/-- isinstance -/
theorem l_isi_bytes {b : Bs} (h : Q (.bool true) ρ κ) : VL c (callF (.builtin "isinstance")) [.bytes b, .val (.type "bytes")] ρ κ Q X := fun A fs E g R s vs G S hg r => by
  obtain ⟨_, _, rfl, r1, r2⟩ := r.two_inv; (first | obtain ⟨_, rfl⟩ := r2.int_inv | obtain rfl := r2.nil_inv | obtain ⟨_, _, rfl, rfl⟩ := r2.bytes_inv | obtain rfl := r2.bool_inv | obtain rfl := r2.val_inv | obtain rfl := r2.own_inv | obtain ⟨_, rfl⟩ := r2.str_inv | cases r2); (first | obtain ⟨_, rfl⟩ := r1.int_inv | obtain rfl := r1.nil_inv | obtain ⟨_, _, rfl, rfl⟩ := r1.bytes_inv | obtain rfl := r1.bool_inv | obtain rfl := r1.val_inv | obtain rfl := r1.own_inv | obtain ⟨_, rfl⟩ := r1.str_inv | cases r1)
  exact call_isinstance_yes (typeIs_bytes s _ _) (by kernel_rfl) (by rw [isSubtype_type]; kernel_rfl) (post0 S (.bool _) h)
theorem l_isi_nm {l : List Bs} (h : Q (.bool true) ρ κ) : VL c (callF (.builtin "isinstance")) [.nm l, .val (.ref 387)] ρ κ Q X := fun A fs E g R s vs G S hg r => by
  obtain ⟨_, _, rfl, r1, r2⟩ := r.two_inv; (first | obtain ⟨_, rfl⟩ := r2.int_inv | obtain rfl := r2.nil_inv | obtain ⟨_, _, rfl, rfl⟩ := r2.bytes_inv | obtain rfl := r2.bool_inv | obtain rfl := r2.val_inv | obtain rfl := r2.own_inv | obtain ⟨_, rfl⟩ := r2.str_inv | cases r2)
  have S' := S
  obtain ⟨m, cs, S⟩ := S
  obtain ⟨x, dx, t, nn, hs', tk, rfl, h1, h2, _⟩ := nm_inv r1
  have K := S.lv.W.K.keeps S.lv.keep
  have I := InstOf (S.lv.keep _ _ h1) (S.lv.keep _ _ h2)
  exact isi_call (t := .ref 387) K (fun M => I.type) (by kernel_rfl) (by intro e; cases e) (post0 S' (.bool _) h)
/-- NameRelation's numbers -/
theorem a_rel {name : Str} {i : Int} (e : ∃ t, findCls (KF pw c.w.params) (.ref 68) (.type "type") name = some (.val (.int i t))) (h : Q (.int i) ρ κ) : V1 c (fun o => getAttr o name true) (.val (.ref 68)) ρ κ Q X := fun A fs E g R s v G S hg r => by
  (first | obtain ⟨_, rfl⟩ := r.int_inv | obtain rfl := r.nil_inv | obtain ⟨_, _, rfl, rfl⟩ := r.bytes_inv | obtain rfl := r.bool_inv | obtain rfl := r.val_inv | obtain rfl := r.own_inv | obtain ⟨_, rfl⟩ := r.str_inv | cases r)
  have S' := S
  obtain ⟨m, cs, S⟩ := S
  have K := S.lv.W.K.keeps S.lv.keep
  obtain ⟨t, e⟩ := e
  exact cls_value K (by kernel_rfl) e (by kernel_rfl) (post S' (.int _ _) h)
end
end Mine

/-! # L12 -/
namespace Mine
open PySem PySem.W PyProof.Rows PySem.Calls
set_option Elab.async false
set_option maxRecDepth 100000
set_option linter.unusedVariables false

/-! ## Method calls by name -/
section
variable {c : Jx} {ρ : Rho} {κ : Kap} {X X' : XP} {Q : PV → Rho → Kap → Prop}
noncomputable abbrev MethTree (o : Expr) (name : Str) (apos pos : Pos) (es : List Expr) (pl : Env → Sem Bool) : Prop := ∀ E, eval (.Call (.Attribute o name apos) es [] pos) E = (do
      let ov ← eval o E
      standAt apos.atName
      let (f, first) ← holding [ov] (getMethod ov name (pl E))
      callWith pos f first (backTo pos (starEach es E)) [])
theorem e_lower {o : Expr} {apos pos : Pos} {pl : Env → Sem Bool} (he : MethTree o (S "lower") apos pos [] pl) (h : E1 c o ρ κ (fun q ρ1 κ1 => ∃ b : Bs, q = .bytes b ∧ b.length ≤ 16777216 ∧ Q (.bytes (b.map low)) ρ1 κ1) X) : E1 c (.Call (.Attribute o (S "lower") apos) [] [] pos) ρ κ Q X :=
  e_CallMeth (f := .builtin "bytes.lower") pl he (keep_machine rfl) (fun _ => rfl) (h.mono (fun q ρ1 κ1 ⟨b, e, hz, hq⟩ => by subst e; exact ⟨m_lower, el_nil (l_lower hz hq)⟩) fun _ _ _ h => h)
theorem e_meth {o : Expr} {apos pos : Pos} {es : List Expr} {name : Str} {f : Addr} {pl : Env → Sem Bool} (hf : findIn (KF pw c.w.params) (.ref 387) name = some (some (.ref f))) (ht : typeIn (KF pw c.w.params) (.ref f) = some (.type "function")) (hs : (name == S "labels") = false) (hk : keepIn (KF pw c.w.params) (.ref f) = true)
    (he : MethTree o name apos pos es pl) (hp : ∀ E, (backTo pos (starEach es E)).any (·.1) = false)
    (h : E1 c o ρ κ (fun q ρ1 κ1 => ∃ l, q = .nm l ∧ EL c pos es ρ1 κ1 (fun ps ρ2 κ2 => VL c (callF (.ref f)) (.nm l :: ps) ρ2 κ2 Q X) X) X) : E1 c (.Call (.Attribute o name apos) es [] pos) ρ κ Q X :=
  e_CallMeth (f := .ref f) pl he (keep_ref hk) hp (h.mono (fun q ρ1 κ1 ⟨l, e, hq⟩ => by subst e; exact ⟨m_nm hf ht hs, hq⟩) fun _ _ _ h => h)
/-- x.append(e) as a statement -/
theorem e_append {o e : Expr} {apos pos : Pos} {pl : Env → Sem Bool} (he : MethTree o (S "append") apos pos [e] pl) (hp : ∀ E, (backTo pos (starEach [e] E)).any (·.1) = false)
    (h : E1 c o ρ κ (fun q ρ1 κ1 => ∃ a l κ', q = .own a ∧ κ1 = (a, .lst l) :: κ' ∧ EL c pos [e] ρ1 κ1 (fun ps ρ2 κ2 => VL c (callF (.builtin "list.append")) (.own a :: ps) ρ2 κ2 Q X) X) X) : E1 c (.Call (.Attribute o (S "append") apos) [e] [] pos) ρ κ Q X :=
  e_CallMeth (f := .builtin "list.append") pl he (keep_machine rfl) hp (h.mono (fun q ρ1 κ1 ⟨a, l, κ', e, ek, hq⟩ => by subst e; subst ek; exact ⟨m_append (.head _), hq⟩) fun _ _ _ h => h)
theorem e_extend {o e : Expr} {apos pos : Pos} {pl : Env → Sem Bool} (he : MethTree o (S "extend") apos pos [e] pl) (hp : ∀ E, (backTo pos (starEach [e] E)).any (·.1) = false)
    (h : E1 c o ρ κ (fun q ρ1 κ1 => ∃ a l κ', q = .own a ∧ κ1 = (a, .lst l) :: κ' ∧ EL c pos [e] ρ1 κ1 (fun ps ρ2 κ2 => VL c (callF (.builtin "list.extend")) (.own a :: ps) ρ2 κ2 Q X) X) X) : E1 c (.Call (.Attribute o (S "extend") apos) [e] [] pos) ρ κ Q X :=
  e_CallMeth (f := .builtin "list.extend") pl he (keep_machine rfl) hp (h.mono (fun q ρ1 κ1 ⟨a, l, κ', e, ek, hq⟩ => by subst e; subst ek; exact ⟨m_extend (.head _), hq⟩) fun _ _ _ h => h)
theorem e_isAbs {o : Expr} {apos pos : Pos} {pl : Env → Sem Bool} (he : MethTree o (S "is_absolute") apos pos [] pl) (h : E1 c o ρ κ (fun q ρ1 κ1 => ∃ l, q = .nm l ∧ VL c (callF (.ref 189)) [.nm l] ρ1 κ1 Q X) X) : E1 c (.Call (.Attribute o (S "is_absolute") apos) [] [] pos) ρ κ Q X :=
  e_meth (f := 189) (by kernel_rfl) (by kernel_rfl) (by kernel_rfl) (by kernel_rfl) he (fun _ => rfl) (h.mono (fun q ρ1 κ1 ⟨l, e, hq⟩ => ⟨l, e, el_nil hq⟩) fun _ _ _ h => h)
theorem e_fullcompare {o e : Expr} {apos pos : Pos} {pl : Env → Sem Bool} (he : MethTree o (S "fullcompare") apos pos [e] pl) (hp : ∀ E, (backTo pos (starEach [e] E)).any (·.1) = false)
    (h : E1 c o ρ κ (fun q ρ1 κ1 => ∃ l, q = .nm l ∧ EL c pos [e] ρ1 κ1 (fun ps ρ2 κ2 => VL c (callF (.ref 203)) (.nm l :: ps) ρ2 κ2 Q X) X) X) : E1 c (.Call (.Attribute o (S "fullcompare") apos) [e] [] pos) ρ κ Q X :=
  e_meth (f := 203) (by kernel_rfl) (by kernel_rfl) (by kernel_rfl) (by kernel_rfl) he hp h
theorem e_isSub {o e : Expr} {apos pos : Pos} {pl : Env → Sem Bool} (he : MethTree o (S "is_subdomain") apos pos [e] pl) (hp : ∀ E, (backTo pos (starEach [e] E)).any (·.1) = false)
    (h : E1 c o ρ κ (fun q ρ1 κ1 => ∃ l, q = .nm l ∧ EL c pos [e] ρ1 κ1 (fun ps ρ2 κ2 => VL c (callF (.ref 210)) (.nm l :: ps) ρ2 κ2 Q X) X) X) : E1 c (.Call (.Attribute o (S "is_subdomain") apos) [e] [] pos) ρ κ Q X :=
  e_meth (f := 210) (by kernel_rfl) (by kernel_rfl) (by kernel_rfl) (by kernel_rfl) he hp h
theorem e_concat {o e : Expr} {apos pos : Pos} {pl : Env → Sem Bool} (he : MethTree o (S "concatenate") apos pos [e] pl) (hp : ∀ E, (backTo pos (starEach [e] E)).any (·.1) = false)
    (h : E1 c o ρ κ (fun q ρ1 κ1 => ∃ l, q = .nm l ∧ EL c pos [e] ρ1 κ1 (fun ps ρ2 κ2 => VL c (callF (.ref 339)) (.nm l :: ps) ρ2 κ2 Q X) X) X) : E1 c (.Call (.Attribute o (S "concatenate") apos) [e] [] pos) ρ κ Q X :=
  e_meth (f := 339) (by kernel_rfl) (by kernel_rfl) (by kernel_rfl) (by kernel_rfl) he hp h
theorem e_relativize {o e : Expr} {apos pos : Pos} {pl : Env → Sem Bool} (he : MethTree o (S "relativize") apos pos [e] pl) (hp : ∀ E, (backTo pos (starEach [e] E)).any (·.1) = false)
    (h : E1 c o ρ κ (fun q ρ1 κ1 => ∃ l, q = .nm l ∧ EL c pos [e] ρ1 κ1 (fun ps ρ2 κ2 => VL c (callF (.ref 346)) (.nm l :: ps) ρ2 κ2 Q X) X) X) : E1 c (.Call (.Attribute o (S "relativize") apos) [e] [] pos) ρ κ Q X :=
  e_meth (f := 346) (by kernel_rfl) (by kernel_rfl) (by kernel_rfl) (by kernel_rfl) he hp h
theorem e_derelativize {o e : Expr} {apos pos : Pos} {pl : Env → Sem Bool} (he : MethTree o (S "derelativize") apos pos [e] pl) (hp : ∀ E, (backTo pos (starEach [e] E)).any (·.1) = false)
    (h : E1 c o ρ κ (fun q ρ1 κ1 => ∃ l, q = .nm l ∧ EL c pos [e] ρ1 κ1 (fun ps ρ2 κ2 => VL c (callF (.ref 353)) (.nm l :: ps) ρ2 κ2 Q X) X) X) : E1 c (.Call (.Attribute o (S "derelativize") apos) [e] [] pos) ρ κ Q X :=
  e_meth (f := 353) (by kernel_rfl) (by kernel_rfl) (by kernel_rfl) (by kernel_rfl) he hp h
theorem e_parent {o : Expr} {apos pos : Pos} {pl : Env → Sem Bool} (he : MethTree o (S "parent") apos pos [] pl) (h : E1 c o ρ κ (fun q ρ1 κ1 => ∃ l, q = .nm l ∧ VL c (callF (.ref 368)) [.nm l] ρ1 κ1 Q X) X) : E1 c (.Call (.Attribute o (S "parent") apos) [] [] pos) ρ κ Q X :=
  e_meth (f := 368) (by kernel_rfl) (by kernel_rfl) (by kernel_rfl) (by kernel_rfl) he (fun _ => rfl) (h.mono (fun q ρ1 κ1 ⟨l, e, hq⟩ => ⟨l, e, el_nil hq⟩) fun _ _ _ h => h)
theorem e_predecessor {o : Expr} {es : List Expr} {apos pos : Pos} {pl : Env → Sem Bool} (he : MethTree o (S "predecessor") apos pos es pl) (hp : ∀ E, (backTo pos (starEach es E)).any (·.1) = false)
    (h : E1 c o ρ κ (fun q ρ1 κ1 => ∃ l, q = .nm l ∧ EL c pos es ρ1 κ1 (fun ps ρ2 κ2 => VL c (callF (.ref 376)) (.nm l :: ps) ρ2 κ2 Q X) X) X) : E1 c (.Call (.Attribute o (S "predecessor") apos) es [] pos) ρ κ Q X :=
  e_meth (f := 376) (by kernel_rfl) (by kernel_rfl) (by kernel_rfl) (by kernel_rfl) he hp h
theorem e_successor {o : Expr} {es : List Expr} {apos pos : Pos} {pl : Env → Sem Bool} (he : MethTree o (S "successor") apos pos es pl) (hp : ∀ E, (backTo pos (starEach es E)).any (·.1) = false)
    (h : E1 c o ρ κ (fun q ρ1 κ1 => ∃ l, q = .nm l ∧ EL c pos es ρ1 κ1 (fun ps ρ2 κ2 => VL c (callF (.ref 384)) (.nm l :: ps) ρ2 κ2 Q X) X) X) : E1 c (.Call (.Attribute o (S "successor") apos) es [] pos) ρ κ Q X :=
  e_meth (f := 384) (by kernel_rfl) (by kernel_rfl) (by kernel_rfl) (by kernel_rfl) he hp h
theorem b_Attr {v : Expr} {attr : Str} {p : Pos} {Q : Bool → Rho → Kap → Prop} (h : E1 c (.Attribute v attr p) ρ κ (fun a ρ1 κ1 => T1 c a ρ1 κ1 Q X) X) : B1 c (.Attribute v attr p) ρ κ Q X := b_plain (fun _ _ => rfl) h
theorem b_Const {k : Const} {d : Nat} {p : Pos} {Q : Bool → Rho → Kap → Prop} (he : ∀ E whole, isTrue (.Constant k d p) E whole = (do let v ← whole; standAt p; holding [v] (truthy v))) (h : E1 c (.Constant k d p) ρ κ (fun a ρ1 κ1 => T1 c a ρ1 κ1 Q X) X) : B1 c (.Constant k d p) ρ κ Q X := b_plain he h
theorem g_rel (P : Params) : nsIn (KF pw P) mainGlobals (S "NameRelation") = some (some (.ref 68)) := by kernel_rfl
/-- NameRelation.X -/
theorem e_rel {name : Str} {p pos : Pos} {i : Int} (hb : ∀ E, attributeBase (.Name (S "NameRelation") p) name E (eval (.Name (S "NameRelation") p) E) = eval (.Name (S "NameRelation") p) E) (hk : c.scope.names.lookup (S "NameRelation") = some .globalImplicit) (e : ∃ t, findCls (KF pw c.w.params) (.ref 68) (.type "type") name = some (.val (.int i t)))
    (h : Q (.int i) ρ κ) : E1 c (.Attribute (.Name (S "NameRelation") p) name pos) ρ κ Q X :=
  e_Attr hb (e_global hk (by kernel_rfl) (g_rel _) (fun _ _ => .val _) (a_rel e h))
theorem rel_none (P : Params) : ∃ t, findCls (KF pw P) (.ref 68) (.type "type") (S "NONE") = some (.val (.int 0 t)) := ⟨262, by kernel_rfl⟩
theorem rel_superdomain (P : Params) : ∃ t, findCls (KF pw P) (.ref 68) (.type "type") (S "SUPERDOMAIN") = some (.val (.int 1 t)) := ⟨264, by kernel_rfl⟩
theorem rel_subdomain (P : Params) : ∃ t, findCls (KF pw P) (.ref 68) (.type "type") (S "SUBDOMAIN") = some (.val (.int 2 t)) := ⟨266, by kernel_rfl⟩
theorem rel_equal (P : Params) : ∃ t, findCls (KF pw P) (.ref 68) (.type "type") (S "EQUAL") = some (.val (.int 3 t)) := ⟨268, by kernel_rfl⟩
theorem rel_commonancestor (P : Params) : ∃ t, findCls (KF pw P) (.ref 68) (.type "type") (S "COMMONANCESTOR") = some (.val (.int 4 t)) := ⟨270, by kernel_rfl⟩
end
end Mine

/-! # L13 -/
namespace Mine
open PySem PySem.W PyProof.Rows PySem.Calls
set_option Elab.async false
set_option maxRecDepth 100000
set_option linter.unusedVariables false

/-! ## Comprehensions -/
noncomputable def SelfIt (w : World) (g : Heap) (it : Addr) (K : Nat → Obj → Prop) : Prop := ∀ (A : Around) (Q : Value → Shared → Prop) (EE : Value → Shared → Prop) (s : Shared) (o : Obj) (i : Nat), Sub g s.heap → s.heap.get? it = some o → K i o → Q (.ref it) s → wpAny (MM w) A (pyIter (.ref it)) Q EE s
noncomputable def IT2 (w : World) (p : PV) (l : List PV) : Prop := ∀ (A : Around) (EE : Value → Shared → Prop) (g : Heap) (s : Shared) (v : Value) (Q : Value → Shared → Prop), Sub g s.heap → Rep g v p →
  (∀ o K, IterOk w g s.heap.objs.size K l → SelfIt w g s.heap.objs.size K → K 0 o → o.isFreed = false → Q (.ref s.heap.objs.size) { s with heap := s.heap.push o }) → wpAny (MM w) A (pyIter v) Q EE s
theorem it2_list (w : World) (l : List PV) : IT2 w (.lst l) l := fun A EE g s v Q k r h => by
  obtain ⟨a, o, vs, n, rfl, ho, hc, hd, hr⟩ := lst_inv r
  refine wpAny_pyIter_list ⟨o, k _ _ ho, hc, n, hd⟩ (h _ (fun i o => o.cls = .type "list_iterator" ∧ o.data = .fields #[.ref a, .int i 0]) ⟨fun i p e A Q EE s' oi k' hi hK hq => ?_, fun A Q EE s' oi k' hi hK hh hq => ?_⟩ (fun A Q EE s' oi i k' hi hK hq => ?_) ⟨rfl, rfl⟩ rfl)
  · obtain ⟨u, hu, ru⟩ := reps_at hr e
    refine wpAny_pyNext_list_item ⟨oi, hi, hK.1, hK.2⟩ ⟨o, k' _ _ ho, hc, n, hd⟩ hu fun h' ⟨o', e1, e2, e3⟩ hs => hq h' s'.toks u o' ru hs e1 ⟨e2, e3⟩
  · exact wpAny_pyNext_list_end hh ⟨oi, hi, hK.1, hK.2⟩ ⟨o, k' _ _ ho, hc, n, hd⟩ (reps_end hr) hq
  · exact wpAny_pyIter_listiter (l := a) (i := i) ⟨oi, hi, hK.1, hK.2⟩ hq
noncomputable def octs (b : Bs) : List PV := b.map fun x => PV.int (x.toNat : Int)
theorem it2_bytes (w : World) (b : Bs) : IT2 w (.bytes b) (octs b) := fun A EE g s v Q k r h => by
  (first | obtain ⟨_, rfl⟩ := r.int_inv | obtain rfl := r.nil_inv | obtain ⟨_, _, rfl, rfl⟩ := r.bytes_inv | obtain rfl := r.bool_inv | obtain rfl := r.val_inv | obtain rfl := r.own_inv | obtain ⟨_, rfl⟩ := r.str_inv | cases r)
  rename_i b t
  refine KBw.pyIter_bytes (h _ (fun i o => o.cls = .type "bytes_iterator" ∧ o.data = .fields #[.bytes b t, .int i 0]) ⟨fun i p e A Q EE s' oi k' hi hK hq => ?_, fun A Q EE s' oi k' hi hK hh hq => ?_⟩ (fun A Q EE s' oi i k' hi hK hq => ?_) ⟨rfl, rfl⟩ rfl)
  · unfold octs at e
    rw [List.getElem?_map] at e
    obtain ⟨x, hx, rfl⟩ := Option.map_eq_some_iff.mp e
    refine KBw.next_item ⟨oi, hi, hK.1, hK.2⟩ (c := x) (by rw [← Array.getElem?_toList]; exact hx) ?_
    intro h' ⟨o', e1, e2, e3⟩ hs
    exact hq h' _ _ o' (.int _ _) hs e1 ⟨e2, e3⟩
  · have hlen : (octs b.toList).length = b.size := by simp [octs]
    rw [hlen] at hK
    exact KBw.next_end hh ⟨oi, hi, hK.1, hK.2⟩ (by simp) hq
  · exact KBw.pyIter_self (b := b) (t := t) (i := i) ⟨oi, hi, hK.1, hK.2⟩ hq
/-- the inner scope as it stands -/
noncomputable def relS (o i : Scope) : Scope := { i with names := i.names.map fun (n, k) => if (k == .free && o.kind == .function && o.names.lookup n == some .cell) then (n, .cell) else (n, k) }
theorem relS_eq (scope : Scope) (E : Env) : relabel scope E = relS E.scope scope := rfl
noncomputable def capOf (cap : Option (Str × PV)) : Rho := fun y => match cap with | some (x, p) => if y = x then some p else none | none => none
/-- what the comprehension takes along -/
noncomputable def CapOk (c : Jx) (scope : Scope) (cap : Rho) (ρ : Rho) (κ : Kap) : Prop := ∀ fs E g R m cs h, E.scope = c.scope → SatC c.w fs E g R ρ κ m cs h → ∃ cl, closureFor scope E = pure cl ∧ ∀ x p, cap x = some p →
  (relS c.scope scope).names.lookup x ≠ some .local ∧ ∃ a o v, cl.lookup x = some a ∧ g.get? a = some o ∧ o.data = .cell (some v) ∧ Rep g v p
theorem cap_none {c : Jx} {scope : Scope} {ρ : Rho} {κ : Kap} (h : ∀ E, closureFor scope E = pure []) : CapOk c scope (fun _ => none) ρ κ := fun fs E g R m cs h' _ _ => ⟨[], h E, fun _ _ e => nomatch e⟩
theorem cap_one {c : Jx} {scope : Scope} {ρ : Rho} {κ : Kap} {x : Str} {p : PV} (hc : ∀ E a, E.cells.lookup x = some a → closureFor scope E = pure [(x, a)]) (hk : c.scope.names.lookup x = some .cell) (hl : (relS c.scope scope).names.lookup x ≠ some .local) (hρ : ρ x = some p) :
    CapOk c scope (fun y => if y = x then some p else none) ρ κ := fun fs E g R m cs h hE S => by
  have hk' : E.kindOf x = some .cell := by unfold Env.kindOf; rw [hE, hk]
  obtain ⟨a, o, v, h1, h2, h3, r⟩ := (S.vars x p hρ).2 (.inl hk')
  refine ⟨[(x, a)], hc E a h1, fun y q e => ?_⟩
  by_cases z : y = x
  · subst z
    have e' : (if y = y then some p else none) = some q := e
    rw [if_pos rfl] at e'; cases e'
    exact ⟨hl, a, o, v, by simp, h2, h3, r⟩
  · have e' : (if y = x then some p else none) = some q := e
    rw [if_neg z] at e'; cases e'

theorem Lv.more {w : World} {fs : List Env} {g h h' : Heap} {R : List (Addr × Obj)} {a : Addr} {o : Obj} (L : Lv w fs g R h) (k : Sub h h') (ha : h.get? a = none) (e : h'.get? a = some o) : Lv w fs g ((a, o) :: R) h' := by
  have ne : ∀ {b : Addr} {x : Obj}, h.get? b = some x → b ≠ a := fun e q => by rw [q, ha] at e; cases e
  have gn : g.get? a = none := by
    cases q : g.get? a with
    | none => rfl
    | some x => exact absurd rfl (ne (L.keep _ _ q))
  have nf : a ∉ frs fs := fun hm => by
    obtain ⟨x, e, _⟩ := (funFrames_mem L.fr hm).2; exact ne e rfl
  refine ⟨L.W, L.keep.trans k, funFrames_next L.fr (fun b hb => (funFrames_mem L.fr hb).1) fun b hb => let ⟨x, e, z⟩ := (funFrames_mem L.fr hb).2; ⟨x, k _ _ e, z⟩, L.nf, fun c hc => ?_, ?_⟩
  · rcases List.mem_cons.mp hc with rfl | hc
    · exact ⟨e, gn, nf⟩
    · have := L.cell c hc; exact ⟨k _ _ this.1, this.2⟩
  · refine List.nodup_cons.mpr ⟨fun hm => ?_, L.nd⟩
    obtain ⟨c, hc, e⟩ := List.mem_map.mp hm
    exact ne (L.cell c hc).1 e
theorem Lv.up {w : World} {fs : List Env} {g h h' : Heap} {R : List (Addr × Obj)} (L : Lv w fs g R h) (k : Sub h h') : Lv w fs g R h' :=
  ⟨L.W, L.keep.trans k, funFrames_next L.fr (fun b hb => (funFrames_mem L.fr hb).1) fun b hb => let ⟨x, e, z⟩ := (funFrames_mem L.fr hb).2; ⟨x, k _ _ e, z⟩, L.nf, fun c hc => ⟨k _ _ (L.cell c hc).1, (L.cell c hc).2⟩, L.nd⟩
theorem Cells.addrs {g : Heap} {κ : Kap} {cs : List (Addr × Obj)} (C : Cells g κ cs) : cs.map (·.1) = κ.map (·.1) := by
  induction C with
  | nil => rfl
  | cons _ _ ih => rw [List.map_cons, List.map_cons, ih]
/-- a foreign dict changes -/
theorem SatC.foreign {w : World} {fs : List Env} {E : Env} {g h h' : Heap} {R : List (Addr × Obj)} {ρ : Rho} {κ : Kap} {m : Str → Option Value} {cs : List (Addr × Obj)} {C : Addr} (S : SatC w fs E g R ρ κ m cs h) (h1 : g.get? C = none) (h2 : C ∉ frs fs) (h3 : C ≠ E.locals) (h4 : ∀ q ∈ cs ++ R, q.1 ≠ C)
    (hs : Heap.SameBut C h h') : SatC w fs E g R ρ κ m cs h' :=
  ⟨⟨S.lv.W, fun b x q => (hs.2 b fun z => by rw [z, h1] at q; cases q).trans (S.lv.keep b x q), funFrames_next S.lv.fr (fun b hb => (funFrames_mem S.lv.fr hb).1) fun b hb => let ⟨x, q, z⟩ := (funFrames_mem S.lv.fr hb).2; ⟨x, (hs.2 b fun y => h2 (y ▸ hb)).trans q, z⟩,
    S.lv.nf, fun c hc => ⟨(hs.2 _ (h4 c hc)).trans (S.lv.cell c hc).1, (S.lv.cell c hc).2⟩, S.lv.nd⟩, S.ns.sameBut hs (Ne.symm h3), S.gl, S.cl, S.vars, S.cells⟩

/-- one turn: the tests, the item -/
noncomputable def TE (c : Jx) (ifs : List Expr) (elt : Expr) (ρ : Rho) (r : Option PV) : Prop := ∀ κ : Kap, match ifs with
  | [] => ∃ p, r = some p ∧ E1 c elt ρ κ (fun q ρ1 κ1 => κ1 = κ ∧ ρ1 = ρ ∧ q = p) noX
  | [t] => B1 c t ρ κ (fun b ρ1 κ1 => κ1 = κ ∧ ρ1 = ρ ∧ (if b = true then ∃ p, r = some p ∧ E1 c elt ρ κ (fun q ρ2 κ2 => κ2 = κ ∧ ρ2 = ρ ∧ q = p) noX else r = none)) noX
  | _ => False
section
variable {c : Jx} {ρ : Rho} {κ : Kap} {X X' : XP} {Q : PV → Rho → Kap → Prop}
theorem te_tests {ifs : List Expr} {elt : Expr} {ρ : Rho} {r : Option PV} {κ : Kap} (h : TE c ifs elt ρ r) {A : Around} {fs : List Env} {E : Env} {g : Heap} {R : List (Addr × Obj)} {s : Shared} {EE : Value → Shared → Prop} {QQ : Bool → Shared → Prop} (G : Good c A fs E) (S : Sat c.w fs E g R ρ κ s.heap) (hg : s.gens = #[])
    (k : ∀ b s' g', Sub g g' → Sat c.w fs E g' R ρ κ s'.heap → Stp fs (some E.locals) s s' → (if b = true then ∃ p, r = some p ∧ E1 c elt ρ κ (fun q ρ2 κ2 => κ2 = κ ∧ ρ2 = ρ ∧ q = p) noX else r = none) → QQ b s') :
    wpAny (MM c.w) A (forIn ifs true fun t r => if r = true then do let ok ← isTrue t E (eval t E); pure (ForInStep.yield ok) else pure (ForInStep.yield r)) QQ EE s := by
  have h := h κ
  match ifs, h with
  | [], h => exact wpAny_pure (k true s g (.refl _) S (.refl ..) h)
  | [t], h =>
    rw [List.forIn_cons]
    refine wpAny_bind (wpAny_bind (wpAny_mono (h A fs E g R s G S hg) (fun b s1 p => ?_) fun _ _ e => e.no.elim))
    obtain ⟨g1, ρ1, κ1, y, x1, x2, x3, rfl, rfl, rfl, x5⟩ := p
    exact wpAny_pure (wpAny_pure (k b s1 g1 x1 x2 x3 x5))
  | _ :: _ :: _, h => exact h.elim

theorem comp_core {A : Around} {fs : List Env} {E : Env} {g1 : Heap} {R : List (Addr × Obj)} {s1 : Shared} {elt iter : Expr} {x : Str} {px pos : Pos} {ifs : List Expr} {scope : Scope} {cl : List (Str × Addr)} {cap : Rho} {f : PV → Option PV} {ρ1 : Rho} {κ1 : Kap} {m1 : Str → Option Value} {cs1 : List (Addr × Obj)} {xv : Value} {p : PV} {l : List PV}
    {RR : Value → Addr → Result → Shared → Prop} {EE : Value → Shared → Prop} (G : Good c A fs E) (S1 : SatC c.w fs E g1 R ρ1 κ1 m1 cs1 s1.heap) (hg1 : s1.gens = #[])
    (hcl : ∀ x p, cap x = some p → (relS c.scope scope).names.lookup x ≠ some .local ∧ ∃ a o v, cl.lookup x = some a ∧ g1.get? a = some o ∧ o.data = .cell (some v) ∧ Rep g1 v p) (hcx : cap x = none)
    (hcell : ∀ y ∈ scope.names, y.2 ≠ .cell) (hkind : scope.kind = .function) (hx : scope.names.lookup x = some .local)
    (hit : IT2 c.w p l) (hl : l.length ≤ 16777216) (rp : Rep g1 xv p) (hT : ∀ q ∈ l, TE ⟨c.w, relS c.scope scope, c.n, false⟩ ifs elt (upd cap x q) (f q))
    (hRR : ∀ D C s' g3 m', Sub g1 g3 → s'.heap.Ns C m' → SatC c.w fs E g3 R ρ1 κ1 m1 cs1 s'.heap → g3.get? C = none → C ∉ frs fs → C ≠ E.locals → (∀ q ∈ cs1 ++ R, q.1 ≠ C) → Stp fs (some E.locals) s1 s' → Rep g3 (.ref D) (.lst (l.filterMap f)) → RR (.ref D) C (.ok .next) s') :
    wpAny (MM c.w) A (pyIter xv) (fun it s₂ => wpAny (MM c.w) A (newList []) (fun acc s₃ => wpAny (MM c.w) A (newFunctionEnv scope E.globals cl [] E.qual none .none (some E)) (fun cenv s₄ =>
      codeAny (MM c.w) A (.compStart (.ListComp elt [⟨.Name x px, iter, ifs, 0⟩] scope pos) 0 it acc { cenv with scope := relabel scope E }) (RR acc cenv.locals) s₄) EE s₃) EE s₂) EE s1 := by
  refine hit A _ g1 s1 xv _ S1.lv.keep rp fun o0 K hok hself hK0 hf0 => ?_
  generalize hita : s1.heap.objs.size = it at hok hself
  refine wpAny_newObj_type (wpAny_newFunctionEnv hcell (by intro y hy; simp at hy) (fun h₁ hns₁ hsb₁ => ?_) hkind)
  dsimp only at hns₁ hsb₁ ⊢
  generalize hH1 : s1.heap.push o0 = H1 at hns₁ hsb₁ ⊢
  generalize hH2 : H1.push { cls := .type "list", dict := none, data := .seq ([] : List Value).toArray } = H2 at hns₁ hsb₁ ⊢
  generalize hD : H1.objs.size = D at ⊢
  generalize hC : H2.objs.size = C at hns₁ hsb₁ ⊢
  have k1 : Sub s1.heap H1 := hH1 ▸ push_sub
  have k2 : Sub H1 H2 := hH2 ▸ push_sub
  have k3 : Sub H2 h₁ := fun b o e => (hsb₁.2 b fun q => by rw [q, ← hC] at e; exact absurd (Heap.lt_size e) (Nat.lt_irrefl _)).trans (push_sub b o e)
  have eit : H1.get? it = some o0 := by rw [← hH1, ← hita]; exact Heap.get?_push_size _ hf0
  have eD : H2.get? D = some { cls := .type "list", dict := none, data := .seq ([] : List Value).toArray } := by rw [← hH2, ← hD]; exact Heap.get?_push_size _ rfl
  obtain ⟨lc, L, back⟩ := S1.toCall
  have L1 : Lv c.w fs g1 ((it, o0) :: (lc ++ (cs1 ++ R))) H1 := L.more k1 (by rw [← hita]; exact size_none _) eit
  have L2 := (L1.more k2 (by rw [← hD]; exact size_none _) eD)
  have L3 := L2.up k3
  have oldC : ∀ {b : Addr} {o : Obj}, H2.get? b = some o → b ≠ C := fun e q => by rw [q, ← hC] at e; exact absurd (Heap.lt_size e) (Nat.lt_irrefl _)
  have gC : g1.get? C = none := by
    cases q : g1.get? C with
    | none => rfl
    | some o => exact absurd rfl (oldC (k2 _ _ (k1 _ _ (S1.lv.keep _ _ q))))
  have fC : C ∉ frs fs := fun hm => by
    obtain ⟨o, e, _⟩ := (funFrames_mem S1.lv.fr hm).2; exact oldC (k2 _ _ (k1 _ _ e)) rfl
  have lC : C ≠ E.locals := fun q => by
    obtain ⟨oL, _, _, e, _⟩ := S1.ns; exact oldC (k2 _ _ (k1 _ _ e)) q.symm
  have cC : ∀ q ∈ cs1 ++ R, q.1 ≠ C := fun q hq => oldC (k2 _ _ (k1 _ _ (S1.lv.cell q hq).1))
  show codeAny _ _ (.compStart _ _ _ _ (compEnvC scope cl C E)) (RR (.ref D) C) _
  generalize hcenv : compEnvC scope cl C E = cenv
  have hsc : cenv.scope = relS c.scope scope := by rw [← hcenv, ← G.sc]; rfl
  have hlo : cenv.locals = C := by rw [← hcenv]; rfl
  have hce : cenv.cells = cl := by rw [← hcenv]; rfl
  have G' : Good ⟨c.w, relS c.scope scope, c.n, false⟩ A fs cenv := ⟨hsc, by rw [hsc]; exact hkind, by rw [← hcenv]; exact G.gl, by rw [← hcenv]; exact G.bl, G.fr, G.hd, G.bud, fun q => nomatch q⟩
  have hxk : cenv.kindOf x = some .local := by rw [← hcenv]; exact lookup_relabel_local hx
  have S3 : SatC c.w fs cenv g1 ((it, o0) :: (lc ++ (cs1 ++ R))) cap [(D, .lst [])] (fun y => ([] : List (Str × Value)).reverse.lookup y) [(D, { cls := .type "list", dict := none, data := .seq ([] : List Value).toArray })] h₁ := by
    refine ⟨L3, hlo ▸ hns₁, hlo ▸ gC, fun q hq => ?_, fun y q e => ?_, .cons (cr_lst .nil) .nil⟩
    · rw [hlo]
      exact oldC (L2.cell q hq).1
    · obtain ⟨a1, a, o, v, a2, a3, a4, a5⟩ := hcl y q e
      refine ⟨fun kk => absurd ?_ a1, fun _ => ⟨a, o, v, hce ▸ a2, a3, a4, a5⟩⟩
      unfold Env.kindOf at kk; rw [hsc] at kk; exact kk
  have noE : ∀ {c' : Jx} {E' : Env} {g' : Heap} {R' : List (Addr × Obj)} {s' : Shared} {EE : Value → Shared → Prop} {v : Value} {s'' : Shared}, Exc c' fs E' g' R' s' noX v s'' → EE v s'' := fun e => e.no.elim
  have st0 : ∀ tk, Stp fs none s1 { s1 with heap := h₁, toks := tk } := fun tk => ⟨.of_sub (k1.trans (k2.trans k3)), rfl, rfl⟩
  have outer : ∀ s', Stp fs (some cenv.locals) s1 s' → Stp fs none s1 s' := fun s' st => ⟨fun a ha _ o e => st.fr a ha (fun q => fC (by rw [← hlo, Option.some.inj q]; exact ha)) o e, st.gens, st.os⟩
  have loop : ∀ tk, codeAny (MM c.w) A (.compLoop (.ListComp elt [⟨.Name x px, iter, ifs, 0⟩] scope pos) 0 (.ref it) (.ref D) cenv) (RR (.ref D) C) { s1 with heap := h₁, toks := tk } := fun tk => by
    refine codeAny_compLoop_tests (fun n s' => ∃ g2 m2 od oi i acc, Sub g1 g2 ∧ SatC c.w fs cenv g2 ((it, oi) :: (lc ++ (cs1 ++ R))) cap [(D, .lst acc)] m2 [(D, od)] s'.heap ∧ Stp fs (some cenv.locals) s1 s' ∧ K i oi ∧ i + n = l.length ∧ acc = (l.take i).filterMap f) ?_ l.length
      ⟨g1, _, _, o0, 0, [], .refl _, S3, (st0 tk).none_to, hK0, by omega, by simp⟩
    rintro n s' ⟨g2, m2, od, oi, i, acc, kk, S4, st, hK, hn, hacc⟩
    obtain ⟨a1, a2, a3, a4, a5⟩ := S4.headR
    have hg' : s'.gens = #[] := st.gens.trans hg1
    rcases Nat.lt_or_ge i l.length with hlt | hge
    · have hp : l[i]? = some l[i] := List.getElem?_eq_getElem hlt
      have hmem : l[i] ∈ l := List.getElem_mem hlt
      refine hok.1 i _ hp A _ _ s' oi (kk.trans S4.lv.keep) a1 hK fun h' tk u o' ru hsb ho' hK' => ?_
      have S5 := S4.setR hsb ho'
      refine wpAny_assign_Name (wpAny_storeName_local hxk S5.ns (fun h'' hn'' hs'' => ?_) (by show (cenv.scope.kind == .class || (cenv.scope.kind == .module && cenv.locals != cenv.globals)) = false; rw [G'.kd]; rfl))
      have S6 := sat_store S5 hxk (ru.keeps kk) hn'' hs''
      have st3 : Stp fs (some cenv.locals) s1 { s' with heap := h'', toks := tk + 1 } := st.trans ⟨(frKeep_but hsb a3).trans (frKeep_same hs''), rfl, rfl⟩
      refine te_tests (hT _ hmem) G' S6 hg' fun b s6 g6 k6 S7 st6 hb => ?_
      have weak : ∀ {g : Heap} {R : List (Addr × Obj)} {κ : Kap} {m : Str → Option Value} {cs : List (Addr × Obj)} {h : Heap}, SatC c.w fs cenv g R (upd cap x l[i]) κ m cs h → SatC c.w fs cenv g R cap κ m cs h := fun S => ⟨S.lv, S.ns, S.gl, S.cl, fun y q e => S.vars y q (by unfold upd; rw [if_neg (fun z => by rw [z, hcx] at e; cases e)]; exact e), S.cells⟩
      have htake : (l.take (i + 1)).filterMap f = (l.take i).filterMap f ++ (match f l[i] with | some y => [y] | none => []) := by
        rw [List.take_add_one, hp, List.filterMap_append]
        cases hf : f l[i] <;> simp [hf]
      cases b
      · simp only [Bool.false_eq_true, if_false] at hb ⊢
        obtain ⟨m7, cs7, S7⟩ := S7
        obtain ⟨od7, cs7', rfl, r7, r8⟩ := S7.cells.cons_inv
        obtain rfl := r8.nil_inv
        exact ⟨n - 1, by omega, g6, m7, od7, o', i + 1, acc, kk.trans k6, weak S7, st3.trans st6, hK', by omega, by rw [htake, hb, hacc]; simp⟩
      · simp only [if_true] at hb ⊢
        obtain ⟨pp, hfp, he⟩ := hb
        refine wpAny_mono (he A fs cenv g6 _ s6 G' S7 (st6.gens.trans hg')) (fun v s7 pq => ?_) fun _ _ e => noE e
        obtain ⟨g7, ρ7, κ7, q7, y1, ⟨m8, cs8, S8⟩, y3, y4, rfl, rfl, rfl⟩ := pq
        obtain ⟨od8, cs9, rfl, ⟨vs, nn, rfl, hr⟩, h1, h2, h3, h4, h5⟩ := S8.headC
        obtain ⟨_, cs8', e8, r7, r8⟩ := S8.cells.cons_inv
        obtain rfl := (List.cons.inj e8).2
        obtain rfl := r8.nil_inv
        clear e8
        have e : vs.size = acc.length := by have := hr.length; simpa using this
        have hal : acc.length ≤ i := by rw [hacc]; exact Nat.le_trans (List.length_filterMap_le _ _) (by rw [List.length_take]; omega)
        refine append_at h1 (fun h9 hs9 ho9 => ⟨n - 1, by omega, g7, m8, _, o', i + 1, acc ++ [q7], kk.trans (k6.trans y1), weak (S8.setC hs9 ho9 (cr_lst ?_)), st3.trans (st6.trans (y3.trans ⟨frKeep_but hs9 h3, rfl, rfl⟩)), hK', by omega, by rw [htake, hfp, hacc]⟩) (by rw [sizeLine_eq]; omega)
        rw [Array.toList_push]
        exact hr.append (.cons y4 .nil)
    · have hi : i = l.length := by omega
      subst hi
      refine hok.2 A _ _ s' oi (kk.trans S4.lv.keep) a1 hK G.hd fun h' he => ?_
      obtain ⟨⟨g3, k3', S5⟩, fk⟩ := S4.leaveR he
      obtain ⟨od5, cs5, ecs, ⟨vs, nn, rfl, hr⟩, h1, _⟩ := S5.headC
      cases ecs
      obtain ⟨g4, k4, eD4, S6⟩ := S5.freeze
      have st4 : Stp fs (some cenv.locals) s1 { s' with heap := h' } := st.trans ⟨fk, rfl, rfl⟩
      have So := back g4 _ (kk.trans (k3'.trans k4)) S6.lv (outer _ st4).fr
      refine hRR D C _ g4 _ (kk.trans (k3'.trans k4)) (hlo ▸ S6.ns) So (hlo ▸ S6.gl) fC lC cC (outer _ st4).none_to ?_
      rw [List.take_of_length_le (Nat.le_refl _)] at hacc
      rw [← hacc]
      exact .lst eD4 rfl rfl (hr.keeps k4)
  refine codeAny_compStart_list (loop _) ?_
  exact hself A _ _ _ o0 0 (S1.lv.keep.trans (k1.trans (k2.trans k3))) ((k2.trans k3) _ _ eit) hK0 (loop _)

theorem e_ListComp {elt iter : Expr} {x : Str} {px pos : Pos} {ifs : List Expr} {scope : Scope} {cap : Rho} (f : PV → Option PV) (hcap : CapOk c scope cap ρ κ) (hcx : cap x = none)
    (hcell : ∀ y ∈ scope.names, y.2 ≠ .cell) (hkind : scope.kind = .function) (hnames : ∀ y ∈ scope.names, y.2 = .local → scope.names.lookup y.1 = some .local) (hx : scope.names.lookup x = some .local) (hs : ∀ E v, foldedSetIterable iter E v = pure v)
    (h : E1 c iter ρ κ (fun p ρ1 κ1 => ∃ l, IT2 c.w p l ∧ l.length ≤ 16777216 ∧ (∀ q ∈ l, TE ⟨c.w, relS c.scope scope, c.n, false⟩ ifs elt (upd cap x q) (f q)) ∧ Q (.lst (l.filterMap f)) ρ1 κ1) X) :
    E1 c (.ListComp elt [⟨.Name x px, iter, ifs, 0⟩] scope pos) ρ κ Q X := fun A fs E g R s G S hg => by
  have S0 := S
  obtain ⟨m, cs, S⟩ := S
  obtain ⟨cl, hclos, hcl⟩ := hcap fs E g R m cs _ G.sc S
  rw [eval_ListComp]
  refine wpAny_comprehension_free (use := none) rfl (hs E) hclos hkind hnames ?_
  refine chain0 hg (h A fs E g R s G S0 hg) fun xv s1 g1 ρ1 κ1 p k01 _ st1 S1 hg1 r1 q1 => ?_
  obtain ⟨l, hit, hl, hT, hQ⟩ := q1
  obtain ⟨m1, cs1, S1⟩ := S1
  refine comp_core (RR := fun acc C => compPost (MM c.w) A _ none _ acc C) G S1 hg1 (fun y q e => ?_) hcx hcell hkind hx hit hl r1 hT ?_
  · obtain ⟨a1, a, o, v, a2, a3, a4, a5⟩ := hcl y q e
    exact ⟨a1, a, o, v, a2, k01 _ _ a3, a4, a5.keeps k01⟩
  · intro D C s' g3 m' k3 hn So b1 b2 b3 b4 st3 rD
    exact ⟨m', hn, fun h'' hs'' => ⟨g3, ρ1, κ1, _, k01.trans k3, ⟨m1, cs1, So.foreign b1 b2 b3 b4 hs''⟩, st1.trans (st3.trans ⟨frKeep_but hs'' b2, rfl, rfl⟩), rD, hQ⟩⟩

/-- y = [..] -/
theorem c_AssignComp {elt iter : Expr} {x y : Str} {px py pos spos : Pos} {ifs : List Expr} {scope : Scope} {cap : Rho} {Q : PF → Rho → Kap → Prop} (f : PV → Option PV) (hcap : CapOk c scope cap ρ κ) (hcx : cap x = none)
    (hcell : ∀ y ∈ scope.names, y.2 ≠ .cell) (hkind : scope.kind = .function) (hnames : ∀ y ∈ scope.names, y.2 = .local → scope.names.lookup y.1 = some .local) (hx : scope.names.lookup x = some .local) (hs : ∀ E v, foldedSetIterable iter E v = pure v)
    (hsw : ∀ E : Env, E.scope = c.scope → swapsWith (.ListComp elt [⟨.Name x px, iter, ifs, 0⟩] scope pos) (some (.Name y py)) spos.line E = pure true) (hy : c.scope.names.lookup y = some .local)
    (h : E1 c iter ρ κ (fun p ρ1 κ1 => ∃ l, IT2 c.w p l ∧ l.length ≤ 16777216 ∧ (∀ q ∈ l, TE ⟨c.w, relS c.scope scope, c.n, false⟩ ifs elt (upd cap x q) (f q)) ∧ Q .next (upd ρ1 y (.lst (l.filterMap f))) κ1) X) :
    C1 c (.Assign [.Name y py] (.ListComp elt [⟨.Name x px, iter, ifs, 0⟩] scope pos) spos) ρ κ Q X := fun A fs E g R s G S hg => by
  have S0 := S
  obtain ⟨m, cs, S⟩ := S
  obtain ⟨cl, hclos, hcl⟩ := hcap fs E g R m cs _ G.sc S
  rw [exec_Assign_Name_used _ _ _ _ (hsw E G.sc)]
  refine wpAny_bind (wpAny_standAt (wpAny_bind ?_))
  show wpAny _ A (do let _ ← comprehension (.ListComp elt [⟨.Name x px, iter, ifs, 0⟩] scope pos) scope E _ (newList []) false (eval iter E) (some (assign (.Name y py) E))) _ _ s
  refine wpAny_bind (wpAny_mono (wpAny_comprehension_free (use := some (assign (.Name y py) E)) (Q := fun _ s' => Post c fs E g R s RF Q .next s') rfl (hs E) hclos hkind hnames ?_) (fun _ s' hq => wpAny_pure (wpAny_pure hq)) fun _ _ e => e)
  refine chain0 hg (h A fs E g R s G S0 hg) fun xv s1 g1 ρ1 κ1 p k01 _ st1 S1 hg1 r1 q1 => ?_
  obtain ⟨l, hit, hl, hT, hQ⟩ := q1
  obtain ⟨m1, cs1, S1⟩ := S1
  refine comp_core (RR := fun acc C => compPost (MM c.w) A _ (some (assign (.Name y py) E)) _ acc C) G S1 hg1 (fun y q e => ?_) hcx hcell hkind hx hit hl r1 hT ?_
  · obtain ⟨a1, a, o, v, a2, a3, a4, a5⟩ := hcl y q e
    exact ⟨a1, a, o, v, a2, k01 _ _ a3, a4, a5.keeps k01⟩
  · intro D C s' g3 m' k3 hn So b1 b2 b3 b4 st3 rD
    have hyk : E.kindOf y = some .local := by unfold Env.kindOf; rw [G.sc, hy]
    show wpAny _ A (assign (.Name y py) E (.ref D)) _ _ _
    refine wpAny_assign_Name (wpAny_storeName_local hyk So.ns (fun h₂ hn₂ hs₂ => ?_) (by show (E.scope.kind == .class || (E.scope.kind == .module && E.locals != E.globals)) = false; rw [G.kd]; rfl))
    obtain ⟨m4, cs4, S4⟩ := sat_store So hyk rD hn₂ hs₂
    refine ⟨m', hn.sameBut hs₂ b3, fun h₃ hs₃ => ⟨g3, _, κ1, .next, k01.trans k3, ⟨m4, cs4, S4.foreign b1 b2 b3 (fun q hq => ?_) hs₃⟩, st1.trans (st3.trans ⟨(frKeep_same hs₂).trans (frKeep_but hs₃ b2), rfl, rfl⟩), trivial, hQ⟩⟩
    rcases List.mem_append.mp hq with hq | hq
    · have : q.1 ∈ cs1.map (·.1) := by rw [So.cells.addrs, ← S4.cells.addrs]; exact List.mem_map_of_mem hq
      obtain ⟨q', hq', e⟩ := List.mem_map.mp this
      rw [← e]; exact b4 q' (List.mem_append_left _ hq')
    · exact b4 q (List.mem_append_right _ hq)
end
end Mine

/-! # L14 -/
namespace Mine
open PySem PySem.W PyProof.Rows PySem.Calls
set_option Elab.async false
set_option maxRecDepth 100000
set_option linter.unusedVariables false

/-! ## raise, try -/
noncomputable def excTail : List Value := [.type "Exception", .type "BaseException", .type "object"]
/-- an exception class of the text -/
structure ExcIs (P : Params) (x : Str) (C : Addr) : Prop where
  name : nsIn (KF pw P) mainGlobals x = some (some (.ref C))
  ok : excIn (KF pw P) C excTail "Exception.__new__" = true
theorem x_tooLong (P : Params) : ExcIs P (S "NameTooLong") 106 := ⟨by kernel_rfl, by kernel_rfl⟩
theorem x_needAbs (P : Params) : ExcIs P (S "NeedAbsoluteNameOrOrigin") 94 := ⟨by kernel_rfl, by kernel_rfl⟩
theorem x_needSub (P : Params) : ExcIs P (S "NeedSubdomainOfOrigin") 154 := ⟨by kernel_rfl, by kernel_rfl⟩
section
variable {w : World} {A : Around} {EE : Value → Shared → Prop}
variable {nm q : Str} {C N : Addr} {bs bm : List Value} {hdct : Bool} {sn : List Str} {sub : List Value} {ab : Bool} {col : Option Bool} {dd : Option Addr} {k0 k1 k2 k3 k5 : Option Value} {newId : String}
theorem issub_self {h : Heap} {g : Array GenState} {d : Drawn} {t : Nat} {os : OsState} {Q : Value → Shared → Prop} (hC : h.get? C = some (excClassObj nm q C N bs bm hdct sn sub ab col dd k0 k1 k2 k3 k5 newId)) (hq : Q (.bool true) ⟨h, g, d, t, os⟩) :
    wpAny (MM w) A (call (.builtin "issubclass") [.ref C, .ref C]) Q EE ⟨h, g, d, t, os⟩ := by
  refine call_function_any (b := Builtin.«issubclass») PySem.F.kind_issubclass PySem.F.plain_issubclass PySem.F.entry_issubclass (PySem.F.args_issubclass_2 _ _) ?_
  have hT : (⟨h, g, d, t, os⟩ : Shared).TypeIs (.ref C) "type" := ⟨_, hC, rfl⟩
  have hcC : (Value.ref C :: bm).contains (.ref C) = true := by simp
  unfold Builtin.«issubclass»
  refine wpAny_bind (wpAny_of_eq (a := [Value.ref C, .ref C]) (by kernel_rfl) ?_)
  refine wpAny_pure ⟨Code.quiet_builtin _ (by decide +kernel), codeAny_builtin PySem.F.entry_issubclass_nested ?_⟩
  rw [Around.under_plain (show (Code.builtin "issubclass.nested" ⟨[.ref C, .ref C, rawInt 0], []⟩).weight = 0 from rfl) rfl]
  unfold Builtin.«issubclass.nested»
  refine wpAny_bind (wpAny_typeOf hT ?_)
  rw [if_pos (by decide)]
  repeat (first | with_reducible refine wpAny_loadPart_at hC ?_ | (with_reducible refine wpAny_isSubtype_exc hC ?_; rw [hcC]) | wp_step)
  exact hq
theorem raise_cls {s : Shared} {env : Env} {x : Str} {np pos : Pos} {mg : Str → Option Value} {Q : Flow → Shared → Prop} (hh : A.handled = none) (O : OwnCls x C excTail "Exception.__new__" mg s.heap)
    (hx : wpAny (MM w) A (eval (.Name x np) env) (fun v s₁ => v = .ref C ∧ s₁ = s) EE s)
    (h : ∀ h' e, Heap.MadeExcOf s.heap h' e (.ref C) [] → EE (.ref e) { s with heap := h' }) :
    wpAny (MM w) A (exec (.Raise (some (.Name x np)) none pos) env) Q EE s := by
  obtain ⟨bm, N, nm, q, bs, hdct, sn, sub, ab, col, dd, k0, k1, k2, k3, k5, mN, hC, hN, hni, TL⟩ := O.obj
  have hbase : bm.contains (.type "BaseException") = true := TL.hasType (by decide)
  have hcB : (Value.ref C :: bm).contains (.type "BaseException") = true := by rw [List.contains_cons, hbase, Bool.or_true]
  show wpAny (MM w) A (do standAt pos; raiseStmt env (some (do let v ← eval (.Name x np) env; standAt pos; pure v)) none) Q EE s
  refine wpAny_bind (wpAny_standAt ?_)
  unfold raiseStmt
  dsimp only
  refine wpAny_bind (wpAny_bind (wpAny_mono hx (fun v s₁ h₁ => wpAny_bind (wpAny_standAt (wpAny_pure ?_))) fun _ _ e => e))
  obtain ⟨rfl, hs₁⟩ := h₁
  subst s₁
  refine wpAny_bind (wpAny_pure ?_)
  dsimp only
  refine wpAny_bind (wpAny_holding ?_)
  unfold excFromValue isExcClass
  obtain ⟨hp, g, d, tk, os⟩ := s
  have fin : ∀ h' e, Heap.MadeExcOf hp h' e (.ref C) [] → ∀ (t : Sem Flow), wpAny (MM w) A t Q EE ⟨h', g, d, tk, os⟩ → wpAny (MM w) A t Q EE ⟨h', g, d, tk, os⟩ := fun _ _ _ _ z => z
  repeat (first | with_reducible refine wpAny_loadPart_at hC ?_ | (with_reducible refine wpAny_isSubtype_exc hC ?_; rw [hcB]) | (with_reducible refine wpAny_call_exc_subT PySem.F.excBase_Exception TL hC hN hni (fun h' e hn => ?_) (Nat.zero_le _)) | wp_step)
  obtain ⟨t, he, _⟩ := hn.there
  have hC' := hn.keeps _ _ hC
  unfold raisedFor
  repeat (first | with_reducible refine wpAny_loadPart_at hC' ?_ | with_reducible refine wpAny_loadPart_at he ?_ | (with_reducible refine wpAny_isSubtype_exc hC' ?_; rw [hcB]) | with_reducible refine issub_self hC' ?_ | wp_step)
  exact wpAny_raiseNew_none hh (h h' e hn)
theorem exc_other {h : Heap} {g : Array GenState} {d : Drawn} {t : Nat} {os : OsState} {e : Addr} {oe : Obj} {Q : Bool → Shared → Prop} {nm' q' : Str} {C' N' : Addr} {bs' bm' : List Value} {hdct' : Bool} {sn' : List Str} {sub' : List Value} {ab' : Bool} {col' : Option Bool} {dd' : Option Addr} {k0' k1' k2' k3' k5' : Option Value} {newId' : String}
    (hC : h.get? C = some (excClassObj nm q C N bs bm hdct sn sub ab col dd k0 k1 k2 k3 k5 newId)) (hC' : h.get? C' = some (excClassObj nm' q' C' N' bs' bm' hdct' sn' sub' ab' col' dd' k0' k1' k2' k3' k5' newId')) (he : h.get? e = some oe) (hcls : oe.cls = .ref C)
    (hbase : bm'.contains (.type "BaseException") = true) (hne : (Value.ref C :: bm).contains (.ref C') = false)
    (hq : Q false ⟨h, g, d, t, os⟩) : wpAny (MM w) A (excMatches (.ref e) (.ref C')) Q EE ⟨h, g, d, t, os⟩ := by
  have hcB : (Value.ref C' :: bm').contains (.type "BaseException") = true := by rw [List.contains_cons, hbase, Bool.or_true]
  have f := tc_notTuple
  unfold excMatches
  repeat (first | (with_reducible refine wpAny_loadPart_at he ?_; rw [hcls]) | with_reducible refine wpAny_loadPart_at hC' ?_ | (with_reducible refine wpAny_isSubtype_exc hC' ?_; rw [hcB]) | (with_reducible refine wpAny_isSubtype_exc hC ?_; rw [hne]) | wp_step)
  exact hq
end

section
variable {c : Jx} {ρ : Rho} {κ : Kap} {X X' : XP}
theorem c_Raise {x : Str} {np pos : Pos} {C : Addr} {Q : PF → Rho → Kap → Prop} (e : ExcIs c.w.params x C) (hk : c.scope.names.lookup x = some .globalImplicit) (hd : (x == ("__debug__" : Str)) = false) (hm : c.md = true) (h : X C ρ κ) : C1 c (.Raise (some (.Name x np)) none pos) ρ κ Q X := fun A fs E g R s G S hg => by
  have S' := S
  obtain ⟨m, cs, S⟩ := S
  obtain ⟨mg, mb, T⟩ := S.lv.W.T
  have hk' : E.kindOf x = some .globalImplicit := by unfold Env.kindOf; rw [G.sc, hk]
  have O := (own_of_in S.lv.W.K T e.name e.ok).keeps S.lv.keep
  refine raise_cls G.hd O (Name_function_global G.kd hk' (loadGlobal_global (G.gl ▸ T.g.keeps S.lv.keep) (mg_of S.lv.W.K T.g e.name) ⟨rfl, rfl⟩) hd) fun h' ea hn => ?_
  exact ⟨g, ρ, κ, m, cs, C, ea, rfl, .refl _, ⟨.of_sub hn.keeps, rfl, rfl⟩, h, .inr ⟨hm, s.heap, [], S, hn⟩⟩

/-- a clause's suite: nothing, or the return of a text -/
inductive Suite : List Stmt → PF → Prop where
  | pass (p : Pos) : Suite [.Pass p] .next
  | ret (x : Str) (k : Nat) (q p : Pos) : Suite [.Return (some (.Constant (.str x) k q)) p] (.ret (.str x))
theorem suite_run {w : World} {A : Around} {E : Env} {EE : Value → Shared → Prop} {QQ : Flow → Shared → Prop} {s : Shared} {sts : List Stmt} {f : PF} (hs : Suite sts f) (h : ∀ fl tk, (∀ g, RF g fl f) → QQ fl { s with toks := tk }) : wpAny (MM w) A (execs sts E) QQ EE s := by
  cases hs with
  | pass p => exact wpAny_execs_cons (wpAny_Pass (wpAny_execs_nil (h .next s.toks fun _ => trivial)))
  | ret x k q p =>
    refine wpAny_execs_cons (wpAny_Return_some ?_)
    show wpAny _ _ (mkText x) _ _ _
    exact wpAny_mkText (h (.ret (.str x s.toks)) _ fun _ => .str x _)
noncomputable def mroHas (K : Frag) (C C' : Addr) : Bool := match K.lookup C with | some ⟨_, _, .cls cd, _⟩ => cd.mro.contains (.ref C') | _ => true
/-- the clauses: where class C lands -/
inductive Lands (P : Params) (sc : Scope) (C : Addr) : List ExceptHandler → List Stmt → Prop where
  | here {x : Str} {np pos : Pos} {suite : List Stmt} {rest : List ExceptHandler} {b₀ : Stmt} (e : ExcIs P x C) (hk : sc.names.lookup x = some .globalImplicit) (hd : (x == ("__debug__" : Str)) = false) : Lands P sc C (.ExceptHandler (some (.Name x np)) none (b₀ :: suite) pos :: rest) (b₀ :: suite)
  | there {x : Str} {np pos : Pos} {body suite : List Stmt} {rest : List ExceptHandler} {C' : Addr} {y : Str} (e : ExcIs P x C') (e' : ExcIs P y C) (hk : sc.names.lookup x = some .globalImplicit) (hd : (x == ("__debug__" : Str)) = false) (hn : mroHas (KF pw P) C C' = false)
      (r : Lands P sc C rest suite) : Lands P sc C (.ExceptHandler (some (.Name x np)) none body pos :: rest) suite
/-- the heap at a landing -/
structure Landed (w : World) (fs : List Env) (E : Env) (g : Heap) (R : List (Addr × Obj)) (ρ : Rho) (κ : Kap) (m : Str → Option Value) (cs : List (Addr × Obj)) (B : Heap) (ea C : Addr) (a0 : Value) (h : Heap) : Prop where
  S : SatC w fs E g R ρ κ m cs h
  fl : Heap.FlyingW B fs ea (.ref C) a0 h
  kB : Sub g B
  cB : ∀ q ∈ cs ++ R, B.get? q.1 = some q.2
theorem frs_slots {w : World} {fs : List Env} {g h h' : Heap} {R : List (Addr × Obj)} (L : Lv w fs g R h) (us : h.UpToSlots h') : FrKeep fs none h h' := fun b hb _ o e => us b o e (by
  obtain ⟨o', e', z⟩ := (funFrames_mem L.fr hb).2
  rw [e] at e'; cases e'; exact z)
theorem satc_slots {w : World} {fs : List Env} {E : Env} {g : Heap} {R : List (Addr × Obj)} {m : Str → Option Value} {cs : List (Addr × Obj)} {B h h' : Heap} (S : SatC w fs E g R ρ κ m cs h) (k : B.StaysIn h') (ff : h'.FunFrames B fs) (kB : Sub g B) (cB : ∀ q ∈ cs ++ R, B.get? q.1 = some q.2) (us : h.UpToSlots h') : SatC w fs E g R ρ κ m cs h' :=
  ⟨⟨S.lv.W, kB.trans k, funFrames_next S.lv.fr (fun b hb => (funFrames_mem S.lv.fr hb).1) fun b hb => (funFrames_mem ff hb).2, S.lv.nf, fun c hc => ⟨k _ _ (cB c hc), (S.lv.cell c hc).2⟩, S.lv.nd⟩,
    (by obtain ⟨o, es, ep, ho, hd, r⟩ := S.ns
        exact ns_slots ⟨o, es, ep, ho, hd, r⟩ fun o' e' => us _ o' e' (by rw [ho] at e'; cases e'; intro vs z; rw [hd] at z; cases z)), S.gl, S.cl, S.vars, S.cells⟩
theorem handle_run {A : Around} {fs : List Env} {E : Env} {g : Heap} {R : List (Addr × Obj)} {m : Str → Option Value} {cs : List (Addr × Obj)} {B : Heap} {ea C : Addr} {a0 : Value} {QQ : Flow → Shared → Prop} {EE : Value → Shared → Prop} {f : PF} (hsc : E.scope = c.scope) (hkd : E.scope.kind = .function) (hgl : E.globals = mainGlobals) :
    ∀ {hs : List ExceptHandler} {suite : List Stmt} {s : Shared}, Lands c.w.params c.scope C hs suite → Suite suite f → Landed c.w fs E g R ρ κ m cs B ea C a0 s.heap →
    (∀ fl h' tk, (∀ g, RF g fl f) → Landed c.w fs E g R ρ κ m cs B ea C a0 h' → FrKeep fs none s.heap h' → QQ fl { s with heap := h', toks := tk }) → wpAny (MM c.w) A (handleBy (.ref ea) E hs) QQ EE s := by
  intro hs suite s hl
  induction hl with
  | @here x _ _ _ _ _ e hk hd =>
    intro hs L h
    obtain ⟨mg, mb, T⟩ := L.S.lv.W.T
    have hk' : E.kindOf x = some .globalImplicit := by unfold Env.kindOf; rw [hsc, hk]
    have O := (own_of_in L.S.lv.W.K T e.name e.ok).keeps L.S.lv.keep
    obtain ⟨bm, N, nm, q, bs, hdct, sn, sub, ab, col, dd, k0, k1, k2, k3, k5, mN, hC, hN, hni, TL⟩ := O.obj
    obtain ⟨ob, hob, hobc⟩ := L.fl.there
    refine wpAny_handleBy_cons (codeAny_handlers_test (Name_function_global hkd hk' (loadGlobal_global (hgl ▸ T.g.keeps L.S.lv.keep) (mg_of L.S.lv.W.K T.g e.name) ?_) hd)) (by intro q; cases q)
    refine wpAny_excMatches_sub_self hC hob hobc (TL.hasType (by decide)) (codeAny_handlers_suite ?_)
    refine lands_againW L.fl fun h₆ hfl₆ hsm₆ => ?_
    refine suite_run hs fun fl tk hf => ?_
    exact h fl h₆ tk hf ⟨satc_slots L.S hfl₆.1 hfl₆.2.2.1 L.kB L.cB hsm₆, hfl₆, L.kB, L.cB⟩ (frs_slots L.S.lv hsm₆)
  | @there x _ _ _ _ _ C' _ e e' hk hd hn r ih =>
    intro hs L h
    obtain ⟨mg, mb, T⟩ := L.S.lv.W.T
    have hk' : E.kindOf x = some .globalImplicit := by unfold Env.kindOf; rw [hsc, hk]
    have O' := (own_of_in L.S.lv.W.K T e.name e.ok).keeps L.S.lv.keep
    have O := (own_of_in L.S.lv.W.K T e'.name e'.ok).keeps L.S.lv.keep
    have K := L.S.lv.W.K.keeps L.S.lv.keep
    obtain ⟨bm', N', nm', q', bs', hdct', sn', sub', ab', col', dd', k0', k1', k2', k3', k5', mN', hC', _, _, TL'⟩ := O'.obj
    obtain ⟨bm, N, nm, q, bs, hdct, sn, sub, ab, col, dd, k0, k1, k2, k3, k5, mN, hC, _, _, _⟩ := O.obj
    obtain ⟨ob, hob, hobc⟩ := L.fl.there
    have hne : (Value.ref C :: bm).contains (.ref C') = false := by
      unfold mroHas at hn
      split at hn
      · rename_i hl
        have := K _ _ hl
        rw [hC] at this
        cases this
        exact hn
      · cases hn
    refine wpAny_handleBy_cons (codeAny_handlers_test (Name_function_global hkd hk' (loadGlobal_global (hgl ▸ T.g.keeps L.S.lv.keep) (mg_of L.S.lv.W.K T.g e.name) ?_) hd)) (by intro q; cases q)
    refine exc_other hC hC' hob hobc (TL'.hasType (by decide)) hne ?_
    exact ih hs L h
/-- try: an exception out of a call lands in a clause -/
theorem c_Try {body : List Stmt} {h₀ : ExceptHandler} {hs : List ExceptHandler} {pos : Pos} {Q : PF → Rho → Kap → Prop} (hm : c.md = true)
    (h : CS ⟨c.w, c.scope, c.n, false⟩ body ρ κ Q (fun C ρ1 κ1 => ∃ suite f, Lands c.w.params c.scope C (h₀ :: hs) suite ∧ Suite suite f ∧ Q f ρ1 κ1)) : C1 c (.Try body (h₀ :: hs) [] [] pos) ρ κ Q X := fun A fs E g R s G S hg => by
  obtain ⟨fs', rfl, hfr⟩ := G.top hm
  refine wpAny_Try_except (wpAny_mono (h A (E :: fs') E g R s ⟨G.sc, G.kd, G.gl, G.bl, G.fr, G.hd, G.bud, fun q => nomatch q⟩ S hg) (fun f s1 p => ?_) fun e s1 p => ?_)
  · obtain ⟨g1, ρ1, κ1, b, x1, x2, x3, x4, x5⟩ := p
    have pq : Post c (E :: fs') E g R s RF Q f s1 := ⟨g1, ρ1, κ1, b, x1, x2, x3, x4, x5⟩
    cases f <;> first | exact wpAny_execs_nil pq | exact pq
  · obtain ⟨g1, ρ1, κ1, m, cs, C, ea, rfl, k, st, hX, hcase⟩ := p
    obtain ⟨suite, f, hl, hsu, hQ⟩ := hX
    rcases hcase with ⟨B, a0, S1, fl, kB, cB⟩ | ⟨q, _⟩
    · refine wpAny_looks_onW G.fr hfr fl fun h₄ hheld us₄ => ?_
      refine wpAny_landsW hheld fun h₅ fl₅ us₅ => ?_
      have us := us₄.trans us₅
      have L : Landed c.w (E :: fs') E g1 R ρ1 κ1 m cs B ea C a0 h₅ := ⟨satc_slots S1 fl₅.1 fl₅.2.2.1 kB cB us, fl₅, kB, cB⟩
      refine handle_run (s := { s1 with heap := h₅ }) G.sc G.kd G.gl hl hsu L fun fl' h' tk hf L' fk => ?_
      exact ⟨g1, ρ1, κ1, f, k, ⟨m, cs, L'.S⟩, st.trans ⟨((frs_slots S1.lv us).trans fk).none_to, rfl, rfl⟩, hf _, hQ⟩
    · cases q
end
end Mine

/-! # L15 -/
namespace Mine
open PySem PySem.W PyProof.Rows PySem.Calls
set_option Elab.async false
set_option maxRecDepth 100000
set_option linter.unusedVariables false

/-! ## self.labels -/
theorem inst_empty {h : Heap} {x dx : Addr} (a : h.get? x = some (instObj 387 dx)) (b : h.get? dx = some emptyDict) : PySem.W.InstAt h x (instObj 387 dx) 387 (some emptyDict) := ⟨a, rfl, rfl, b⟩
theorem osa_labels {w : World} {A : Around} {s : Shared} {x dx : Addr} {v : Value} {tk0 : Tok} {R : Result → Shared → Prop} (K : (KF pw w.params).In s.heap) (hx : s.heap.get? x = some (instObj 387 dx)) (hD : s.heap.get? dx = some emptyDict)
    (h : ∀ h' hs tk t', Heap.SameBut dx s.heap h' → h'.get? dx = some (labDict hs tk v 1) → R (.ok (.ret .none)) { s with heap := h', toks := t' }) : codeAny (MM w) A (.call (.builtin "object.__setattr__") ⟨[.ref x, .str (S "labels") tk0, v], []⟩) R s := by
  have I := inst_empty hx hD
  refine osa_open (r := none) K I (by kernel_rfl) (by kernel_rfl) fun b => ?_
  obtain ⟨cd, hc, hd'⟩ := any_some (show (clsIn (KF pw w.params) 387).any (·.hasDict) = true by kernel_rfl)
  have hs : Heap.SameBut dx s.heap (s.heap.update dx (Obj.putName (S "labels") (PyData.keyHash w.params (S "labels")) (.str (S "labels") s.toks) v)) := Heap.SameBut.update ..
  have e : Obj.putName (S "labels") (PyData.keyHash w.params (S "labels")) (.str (S "labels") s.toks) v emptyDict = labDict (PyData.keyHash w.params (S "labels")) s.toks v 1 := by rfl
  have D' := (Heap.get?_update_self (Obj.putName (S "labels") (PyData.keyHash w.params (S "labels")) (.str (S "labels") s.toks) v) hD (by rw [e]; rfl)).trans (congrArg some e)
  refine wpAny_bind (wpAny_pure (wpAny_bind (wpAny_bind (wpAny_loadPart hx (wpAny_bind ((looks_clsIn K hc).here ?_))))))
  rw [hd']
  refine wpAny_pure (a := some dx) (wpAny_bind (wpAny_pure (wpAny_bind ?_)))
  unfold nsSet
  refine wpAny_bind (wpAny_bind (wpAny_askSetting (wpAny_pure (wpAny_bind (wpAny_mkText (wpAny_bind (wpAny_loadPart hD ?_)))))))
  dsimp only
  rw [aRefKeyMayBeTheName_at, if_neg (by simp)]
  refine wpAny_updatePart hD ?_
  refine wpAny_bind (wpAny_lookBehind D' (pastItsLine_dict (by rw [List.size_toArray, sizeLine_eq]; simp)) ?_)
  exact wpAny_pure (h _ _ _ _ hs D')
theorem set_labels {w : World} {A : Around} {EE : Value → Shared → Prop} {s : Shared} {x dx : Addr} {v : Value} {Q : Unit → Shared → Prop} (K : (KF pw w.params).In s.heap) (hx : s.heap.get? x = some (instObj 387 dx)) (hD : s.heap.get? dx = some emptyDict)
    (h : ∀ h' hs tk t', Heap.SameBut dx s.heap h' → h'.get? dx = some (labDict hs tk v 1) → Q () { s with heap := h', toks := t' }) : wpAny (MM w) A (setAttr (.ref x) (S "labels") v) Q EE s :=
  set_plain K (inst_empty hx hD) (by kernel_rfl) (osa_labels (s := { s with toks := s.toks + 1 }) K hx hD h)
theorem cr_dict1 {g : Heap} {hs : Int} {tk : Tok} {v : Value} {n : Nat} {p : PV} (r : Rep g v p) : CellRep g (.dict1 p) (labDict hs tk v n) := ⟨hs, tk, v, n, rfl, r⟩
section
variable {c : Jx} {ρ : Rho} {κ : Kap} {X X' : XP} {Q : PV → Rho → Kap → Prop}
theorem c_SetLabels {ps pa pos : Pos} {e : Expr} {Q : PF → Rho → Kap → Prop} (hs : ∀ E, swapsWith e (some (.Attribute (.Name (S "self") ps) (S "labels") pa)) pos.line E = pure false) (hk : c.scope.names.lookup (S "self") = some .local)
    (h : E1 c e ρ κ (fun p ρ1 κ1 => ∃ x dx κ', ρ1 (S "self") = some (.own x) ∧ κ1 = (dx, .dict0) :: (x, .inst dx) :: κ' ∧ Q .next ρ1 ((dx, .dict1 p) :: (x, .inst dx) :: κ')) X) : C1 c (.Assign [.Attribute (.Name (S "self") ps) (S "labels") pa] e pos) ρ κ Q X := fun A fs E g R s G S hg => by
  refine plainObj_wpAny_Assign_Attribute (chain0 hg (h A fs E g R s G S hg) fun v s1 g1 ρ1 κ1 p k01 _ st1 S1 hg1 r1 q1 => ?_) (hs E)
  obtain ⟨x, dx, κ', hρ, rfl, hQ⟩ := q1
  obtain ⟨m1, cs1, S1⟩ := S1
  obtain ⟨oD, cs2, rfl, eD, h1, h2, h3, h4, h5⟩ := S1.headC
  have eD : oD = emptyDict := eD
  subst eD
  obtain ⟨_, cs1', e1', _, y⟩ := S1.cells.cons_inv
  obtain rfl := (List.cons.inj e1').2
  clear e1'
  obtain ⟨oX, cs3, rfl, eX, y⟩ := y.cons_inv
  have eX : oX = instObj 387 dx := eX
  subst eX
  have hx : s1.heap.get? x = some (instObj 387 dx) := (S1.lv.cell _ (.tail _ (.head _))).1
  have hk' : E.kindOf (Mine.S "self") = some .local := by unfold Env.kindOf; rw [G.sc, hk]
  obtain ⟨u, hu, ru⟩ := (S1.vars _ _ hρ).1 hk'
  (first | obtain ⟨_, rfl⟩ := ru.int_inv | obtain rfl := ru.nil_inv | obtain ⟨_, _, rfl, rfl⟩ := ru.bytes_inv | obtain rfl := ru.bool_inv | obtain rfl := ru.val_inv | obtain rfl := ru.own_inv | obtain ⟨_, rfl⟩ := ru.str_inv | cases ru)
  refine wpAny_Name (wpAny_loadName_local G.kd hk' S1.ns hu ?_) (by kernel_rfl)
  refine set_labels (S1.lv.W.K.keeps S1.lv.keep) hx h1 fun h' hs tk t' hsb e' => ?_
  exact ⟨g1, ρ1, _, .next, k01, ⟨m1, _, S1.setC hsb e' (cr_dict1 r1)⟩, st1.trans ⟨frKeep_but hsb h3, rfl, rfl⟩, trivial, hQ⟩
theorem a_labels_own {x dx : Addr} {l : List PV} {κ' : Kap} (h : Q (.tup l) ρ ((dx, .dict1 (.tup l)) :: (x, .inst dx) :: κ')) : V1 c (fun o => getAttr o (S "labels") true) (.own x) ρ ((dx, .dict1 (.tup l)) :: (x, .inst dx) :: κ') Q X := fun A fs E g R s v G S hg r => by
  have S' := S
  obtain ⟨m, cs, S⟩ := S
  (first | obtain ⟨_, rfl⟩ := r.int_inv | obtain rfl := r.nil_inv | obtain ⟨_, _, rfl, rfl⟩ := r.bytes_inv | obtain rfl := r.bool_inv | obtain rfl := r.val_inv | obtain rfl := r.own_inv | obtain ⟨_, rfl⟩ := r.str_inv | cases r)
  obtain ⟨oD, cs2, rfl, ⟨hs, tk, v, n, rfl, rv⟩, h1, _⟩ := S.headC
  obtain ⟨_, cs1', e1', _, y⟩ := S.cells.cons_inv
  obtain rfl := (List.cons.inj e1').2
  clear e1'
  obtain ⟨oX, cs3, rfl, eX, y⟩ := y.cons_inv
  have eX : oX = instObj 387 dx := eX
  subst eX
  have hx : s.heap.get? x = some (instObj 387 dx) := (S.lv.cell _ (.tail _ (.head _))).1
  exact get_value (S.lv.W.K.keeps S.lv.keep) (InstOf hx h1) (by kernel_rfl) (find_labels c.w) (by
    obtain ⟨_, _, _, _, rfl, _⟩ := rv.tup_inv; rfl) (post S' rv h)

/-! ## Names of the text as data -/
theorem e_gref {x : Str} {pos : Pos} {a : Addr} (e : nsIn (KF pw c.w.params) mainGlobals x = some (some (.ref a))) (hk : c.scope.names.lookup x = some .globalImplicit) (hd : (x == ("__debug__" : Str)) = false) (h : Q (.val (.ref a)) ρ κ) : E1 c (.Name x pos) ρ κ Q X :=
  e_global hk hd e (fun _ _ => .val _) h
theorem e_bival {x : Str} {pos : Pos} {v : Value} (b : BiIs c.w.params x v) (hk : c.scope.names.lookup x = some .globalImplicit) (hd : (x == ("__debug__" : Str)) = false) (h : Q (.val v) ρ κ) : E1 c (.Name x pos) ρ κ Q X := e_bi b.hv hk hd b.hn b.e h
theorem e_gbytes {x : Str} {pos : Pos} {b : Array UInt8} {t : Tok} (e : nsIn (KF pw c.w.params) mainGlobals x = some (some (.bytes b t))) (hk : c.scope.names.lookup x = some .globalImplicit) (hd : (x == ("__debug__" : Str)) = false) (h : Q (.bytes b.toList) ρ κ) : E1 c (.Name x pos) ρ κ Q X :=
  e_global hk hd e (fun _ _ => .bytes _ _) h
theorem e_gint {x : Str} {pos : Pos} {i : Int} {t : Tok} (e : nsIn (KF pw c.w.params) mainGlobals x = some (some (.int i t))) (hk : c.scope.names.lookup x = some .globalImplicit) (hd : (x == ("__debug__" : Str)) = false) (h : Q (.int i) ρ κ) : E1 c (.Name x pos) ρ κ Q X :=
  e_global hk hd e (fun _ _ => .int _ _) h
/-- a Name that the text made -/
structure NmIs (P : Params) (x : Str) (l : List Bs) : Prop where
  ok : ∃ a dx t tk vs, nsIn (KF pw P) mainGlobals x = some (some (.ref a)) ∧ (KF pw P).lookup a = some (instObj 387 dx) ∧ (KF pw P).lookup dx = some (labDict (PyData.keyHash P (S "labels")) tk (.ref t) 1) ∧ (KF pw P).lookup t = some { cls := .type "tuple", data := .seq vs } ∧ ∀ g, Reps g vs.toList (l.map .bytes)
theorem e_gname {x : Str} {pos : Pos} {l : List Bs} (e : NmIs c.w.params x l) (hk : c.scope.names.lookup x = some .globalImplicit) (hd : (x == ("__debug__" : Str)) = false) (h : Q (.nm l) ρ κ) : E1 c (.Name x pos) ρ κ Q X := by
  obtain ⟨a, dx, t, tk, vs, e1, e2, e3, e4, e5⟩ := e.ok
  exact e_global hk hd e1 (fun g W => .nm (W.K _ _ e2) (W.K _ _ e3) (W.K _ _ e4) rfl rfl (e5 g)) h
end
theorem nm_root (P : Params) : NmIs P (S "root") [[]] := ⟨394, 393, 403, 687, #[.bytes #[] 680], by kernel_rfl, by kernel_rfl, by kernel_rfl, by kernel_rfl, fun g => .cons (.bytes #[] 680) .nil⟩
theorem nm_empty (P : Params) : NmIs P (S "empty") [] := ⟨410, 409, 418, 724, #[], by kernel_rfl, by kernel_rfl, by kernel_rfl, by kernel_rfl, fun g => .nil⟩
theorem nm_prefix (P : Params) : NmIs P (S "_SUCCESSOR_PREFIX") [[0]] := ⟨425, 424, 434, 750, #[.bytes #[0] 740], by kernel_rfl, by kernel_rfl, by kernel_rfl, by kernel_rfl, fun g => .cons (.bytes #[0] 740) .nil⟩
end Mine

/-! # L16 -/
namespace Mine
open PySem PySem.W PyProof.Rows PySem.Calls
set_option Elab.async false
set_option maxRecDepth 100000
set_option linter.unusedVariables false

/-! ## Name(labels) -/
theorem Lv.swap {w : World} {fs : List Env} {g h : Heap} {R : List (Addr × Obj)} {a b : Addr × Obj} (L : Lv w fs g (a :: b :: R) h) : Lv w fs g (b :: a :: R) h :=
  ⟨L.W, L.keep, L.fr, L.nf, fun c hc => L.cell c (by
    rcases List.mem_cons.mp hc with rfl | hc
    · exact .tail _ (.head _)
    · rcases List.mem_cons.mp hc with rfl | hc
      · exact .head _
      · exact .tail _ (.tail _ hc)), by
    have nd := L.nd
    exact ((List.Perm.swap b a R).map (·.1)).nodup nd⟩
theorem Lv.freeze {w : World} {fs : List Env} {g h : Heap} {R : List (Addr × Obj)} {a : Addr} {o : Obj} (L : Lv w fs g ((a, o) :: R) h) : ∃ g', Sub g g' ∧ g'.get? a = some o ∧ Lv w fs g' R h := by
  have hl := L.cell (a, o) (.head _)
  have nm : ∀ {b : Addr} {x : Obj}, g.get? b = some x → b ∉ frs fs ++ R.map (·.1) := fun e hm => by
    rcases List.mem_append.mp hm with q | q
    · rw [(funFrames_mem L.fr q).1] at e; cases e
    · obtain ⟨c, hc, rfl⟩ := List.mem_map.mp q
      rw [(L.cell c (.tail _ hc)).2.1] at e; cases e
  have sub : Sub g (hideAll h (frs fs ++ R.map (·.1))) := fun b x e => hideAll_get _ (L.keep b x e) (nm e)
  have nn : ∀ b ∈ frs fs ++ R.map (·.1), (hideAll h (frs fs ++ R.map (·.1))).get? b = none := fun b hb => hideAll_none _ hb
  have nd := L.nd
  rw [List.map_cons] at nd
  refine ⟨_, sub, hideAll_get _ hl.1 fun hm => ?_, L.W.keeps sub, fun b x e => of_hideAll _ e, funFrames_next L.fr (fun b hb => nn b (List.mem_append_left _ hb)) fun b hb => (funFrames_mem L.fr hb).2, L.nf, fun c hc => ⟨(L.cell c (.tail _ hc)).1, nn _ (List.mem_append_right _ (List.mem_map_of_mem hc)), (L.cell c (.tail _ hc)).2.2⟩, (List.nodup_cons.mp nd).2⟩
  rcases List.mem_append.mp hm with q | q
  · exact hl.2.2 q
  · exact (List.nodup_cons.mp nd).1 q
theorem ct_Name {w : World} {n : Nat} {ls : List Bs} {q : PV} {P : Prop} {X : Addr → Prop}
    (hbody : ∀ x dx, CS ⟨w, fnS (subAt (stAt pw 16) 0), n, true⟩ (fnB (subAt (stAt pw 16) 0)) (binds [S "self", S "labels"] [.own x, q]) [(dx, .dict0), (x, .inst dx)] (fun f ρ κ => f = .next ∧ κ = [(dx, .dict1 (.tup (ls.map .bytes))), (x, .inst dx)] ∧ P) (fun C _ _ => X C)) :
    CT w (.ref 387) [q] (n + 2) (fun p => p = .nm ls ∧ P) X := fun A fs g R s vs hfr hh hb L r hg => by
  cases r with
  | @cons v _ vs' _ rv r' =>
    cases r'
    obtain ⟨hp, gg, d, tt, os⟩ := s
    have K := L.W.K.keeps L.keep
    refine wpAny_call (make_core (init := .ref 182) (makes_of K (by kernel_rfl)) (looks_findIn K (by kernel_rfl)) (fun self => bind_fn K self (by kernel_rfl)) (.inl rfl) ?_)
    generalize hA : A.under (.builtin "type.__call__" ⟨[.ref 387, v], []⟩) = A'
    have hfr' : A'.frames = some fs := by
      rw [← hA]
      show pushEnvs (Code.builtin "type.__call__" ⟨[.ref 387, v], []⟩).envs A.frames = some fs
      rw [show (Code.builtin "type.__call__" ⟨[.ref 387, v], []⟩).envs = [] by kernel_rfl, hfr]; rfl
    have hh' : A'.handled = none := by rw [← hA]; exact hh
    have hb' : Bud A' (n + 1) := by
      rw [← hA]
      refine ⟨?_, ?_⟩
      · have := hb.1; show A.depth + (Code.builtin "type.__call__" ⟨[.ref 387, v], []⟩).weight + 4 * (n + 1) < 900
        have e : (Code.builtin "type.__call__" ⟨[.ref 387, v], []⟩).weight = 1 := by kernel_rfl
        omega
      · have := hb.2; show A.units + (Code.builtin "type.__call__" ⟨[.ref 387, v], []⟩).cUnits + 16 * (n + 1) < 9000
        have e : (Code.builtin "type.__call__" ⟨[.ref 387, v], []⟩).cUnits = 1 := by kernel_rfl
        omega
    dsimp only at L hg
    have e1 : (hp.push emptyDict).get? hp.objs.size = some emptyDict := Heap.get?_push_size _ rfl
    have e2 : ((hp.push emptyDict).push (instObj 387 hp.objs.size)).get? (hp.objs.size + 1) = some (instObj 387 hp.objs.size) := by
      have := Heap.get?_push_size (hp.push emptyDict) (o := instObj 387 hp.objs.size) rfl
      rwa [Heap.size_push] at this
    have L1 := L.more push_sub (size_none _) e1
    have L2 := L1.more push_sub (size_none _) (Heap.get?_push_size (hp.push emptyDict) (o := instObj 387 hp.objs.size) rfl)
    rw [Heap.size_push] at L2
    have L3 := L2.swap
    generalize hH : (hp.push emptyDict).push (instObj 387 hp.objs.size) = H at L3 e2 ⊢
    have st0 : Sub hp H := by rw [← hH]; exact push_sub.trans push_sub
    have Cs : Cells g [(hp.objs.size, MV.dict0), (hp.objs.size + 1, MV.inst hp.objs.size)] [(hp.objs.size, emptyDict), (hp.objs.size + 1, instObj 387 hp.objs.size)] := .cons (show CellRep g .dict0 emptyDict from rfl) (.cons (show CellRep g (.inst hp.objs.size) (instObj 387 hp.objs.size) from rfl) .nil)
    refine def_entry (w := w) (κ := [(hp.objs.size, .dict0), (hp.objs.size + 1, .inst hp.objs.size)]) (cs := [(hp.objs.size, emptyDict), (hp.objs.size + 1, instObj 387 hp.objs.size)]) (s := ⟨H, gg, d, tt, os⟩) (ns := [S "self", S "labels"]) (vs := [.ref (hp.objs.size + 1), v]) (as := [.ref (hp.objs.size + 1), v]) (ps := [.own (hp.objs.size + 1), q])
      (name := S "__init__") (qual := S "Name.__init__") (params := fnP (subAt (stAt pw 16) 0)) (body := fnB (subAt (stAt pw 16) 0)) (scope := fnS (subAt (stAt pw 16) 0)) (dV := .none) (pm := .str (S "dns.name") 248) (cd := 181) (a := 182)
      hfr' hh' hb' L3 Cs (.cons (.own _) (.cons rv .nil)) hg (by kernel_rfl) (by kernel_rfl) (.of_eq (by kernel_rfl)) (fnOk_of (sc := fnS (subAt (stAt pw 16) 0)) (ns := [S "self", S "labels"]) (by kernel_rfl)).1 (fnOk_of (sc := fnS (subAt (stAt pw 16) 0)) (ns := [S "self", S "labels"]) (by kernel_rfl)).2.1 (fnOk_of (sc := fnS (subAt (stAt pw 16) 0)) (ns := [S "self", S "labels"]) (by kernel_rfl)).2.2.1 (by kernel_rfl) (by kernel_rfl) (by kernel_rfl) (hbody _ _) ?_ ?_ ?_
    · intro v' p s' g' ρ' κ' cs' k L' C' st rv' hq
      rcases hq with ⟨q, _⟩ | ⟨rfl, _, rfl, hP⟩
      · cases q
      · obtain rfl := rv'.none_inv
        obtain ⟨oD, cs2, rfl, rD, C2⟩ := C'.cons_inv
        obtain ⟨hs, tk, vt, nn, rfl, rt⟩ := rD
        obtain ⟨oX, cs3, rfl, rX, C3⟩ := C2.cons_inv
        obtain rfl : oX = instObj 387 hp.objs.size := rX
        obtain rfl := C3.nil_inv
        obtain ⟨g2, k2, eD, L4⟩ := L'.freeze
        obtain ⟨g3, k3, eX, L5⟩ := L4.freeze
        refine ⟨rfl, g3, .nm ls, k.trans (k2.trans k3), L5, ⟨FrKeep.trans (.of_sub st0) st.fr, st.gens, st.os⟩, ?_, rfl, hP⟩
        obtain ⟨_, _, _, _, rfl, a1, a2, a3, a4⟩ := (rt.keeps (k2.trans k3)).tup_inv
        exact .nm eX (k3 _ _ eD) a1 a2 a3 a4
    · rintro e s' ⟨g', C, ea, a0, B, ρ', κ', rfl, k, L', st, hX, fl, kB, cB⟩
      exact ⟨g', C, ea, a0, B, rfl, k, L', ⟨FrKeep.trans (.of_sub st0) st.fr, st.gens, st.os⟩, hX, fl, kB, cB⟩
    · exact fun _ _ => ⟨fun h => (nomatch h.1), fun h => (nomatch h.1)⟩
end Mine

/-! # L17 -/
namespace Mine
open PySem PySem.W PyProof.Rows PySem.Calls
set_option Elab.async false
set_option maxRecDepth 100000
set_option linter.unusedVariables false

/-! ## Labels -/
section
variable {c : Jx} {ρ : Rho} {κ : Kap} {X X' : XP} {Q : PV → Rho → Kap → Prop}
theorem l_len_tupb {l : List Bs} (hz : l.length ≤ 16777216) (h : Q (.int l.length) ρ κ) : VL c (callF (.builtin "len")) [.tup (l.map .bytes)] ρ κ Q X := l_len_tup (by rw [List.length_map]; omega) (by rw [List.length_map]; exact h)
theorem l_len_lstb {l : List Bs} (hz : l.length ≤ 16777216) (h : Q (.int l.length) ρ κ) : VL c (callF (.builtin "len")) [.lst (l.map .bytes)] ρ κ Q X := l_len_lst (by rw [List.length_map]; omega) (by rw [List.length_map]; exact h)
theorem l_len_b {b : Bs} (hz : b.length ≤ 16777216) (h : Q (.int b.length) ρ κ) : VL c (callF (.builtin "len")) [.bytes b] ρ κ Q X := l_len_bytes (by omega) h
theorem get_map {l : List Bs} {j : Nat} (hj : j < l.length) : (l.map PV.bytes)[j]? = some (.bytes (l.getD j [])) := by
  rw [List.getElem?_map, List.getElem?_eq_getElem hj, List.getD_eq_getElem?_getD, List.getElem?_eq_getElem hj]; rfl
theorem s_tupb {v sl : Expr} {l : List Bs} {i : Int} (hz : l.length ≤ 16777216) (h0 : -(l.length : Int) ≤ i) (h1 : i < l.length) (h : Q (.bytes (l.getD (idx l.length i) [])) ρ κ) : V2 c (subscriptTail v sl) (.tup (l.map .bytes)) (.int i) ρ κ Q X :=
  s_tup (by rw [List.length_map]; exact hz) (by rw [List.length_map]; exact h0) (by rw [List.length_map]; exact h1) (by rw [List.length_map]; exact get_map (idx_seq h0 h1).2) h
theorem s_lstb {v sl : Expr} {l : List Bs} {i : Int} (hz : l.length ≤ 16777216) (h0 : -(l.length : Int) ≤ i) (h1 : i < l.length) (h : Q (.bytes (l.getD (idx l.length i) [])) ρ κ) : V2 c (subscriptTail v sl) (.lst (l.map .bytes)) (.int i) ρ κ Q X :=
  s_lst (by rw [List.length_map]; exact hz) (by rw [List.length_map]; exact h0) (by rw [List.length_map]; exact h1) (by rw [List.length_map]; exact get_map (idx_seq h0 h1).2) h
theorem s_tupb_cut {v sl : Expr} {l : List Bs} {lo hi : Option Int} (hz : l.length ≤ 16777216) (h : Q (.tup ((cut lo hi l).map .bytes)) ρ κ) : V2 c (subscriptTail v sl) (.tup (l.map .bytes)) (.slc lo hi) ρ κ Q X :=
  s_tup_cut (by rw [List.length_map]; exact hz) (by rw [cut_map]; exact h)
theorem s_lstb_cut {v sl : Expr} {l : List Bs} {lo hi : Option Int} (hz : l.length ≤ 16777216) (h : Q (.lst ((cut lo hi l).map .bytes)) ρ κ) : V2 c (subscriptTail v sl) (.lst (l.map .bytes)) (.slc lo hi) ρ κ Q X :=
  s_lst_cut (by rw [List.length_map]; exact hz) (by rw [cut_map]; exact h)
theorem it_tupb (w : World) (l : List Bs) : IT w (.tup (l.map .bytes)) (l.map .bytes) := it_tup _ _
theorem it_lstb (w : World) (l : List Bs) : IT w (.lst (l.map .bytes)) (l.map .bytes) := it_list _ _
theorem it2_lstb (w : World) (l : List Bs) : IT2 w (.lst (l.map .bytes)) (l.map .bytes) := it2_list _ _
end
theorem idx_nat {n k : Nat} : idx n (k : Int) = k := by unfold idx; rw [if_neg (by omega)]; omega
theorem idx_back {n k : Nat} (h : k < n) : idx n ((n : Int) - k - 1) = n - k - 1 := by rw [show (n : Int) - k - 1 = ((n - k - 1 : Nat) : Int) by omega, idx_nat]
theorem idx_back' {n k : Nat} (h : k < n) : idx n ((n : Int) - ((k : Int) + 1)) = n - k - 1 := by rw [← Int.sub_sub]; exact idx_back h
theorem imin_nat (x y : Nat) : (if (x : Int) < (y : Int) then (x : Int) else (y : Int)) = ((min y x : Nat) : Int) := by split <;> omega
end Mine

/-! # L18 -/
namespace Mine
open PySem PySem.W PyProof.Rows PySem.Calls
set_option Elab.async false
set_option maxRecDepth 100000
set_option linter.unusedVariables false
/-- the looks at a comprehension's scope -/
noncomputable def compOk (sc : Scope) (x : Str) : Bool := sc.names.all (fun y => y.2 != .cell) && sc.kind == .function && sc.names.all (fun y => y.2 != .local || sc.names.lookup y.1 == some .local) && sc.names.lookup x == some .local
theorem compOk_of {sc : Scope} {x : Str} (h : compOk sc x = true) : (∀ y ∈ sc.names, y.2 ≠ .cell) ∧ sc.kind = .function ∧ (∀ y ∈ sc.names, y.2 = .local → sc.names.lookup y.1 = some .local) ∧ sc.names.lookup x = some .local := by
  simp only [compOk, Bool.and_eq_true, List.all_eq_true, beq_iff_eq, bne_iff_ne, ne_eq, Bool.or_eq_true] at h
  obtain ⟨⟨⟨a, b⟩, c⟩, d⟩ := h
  exact ⟨a, b, fun y hy e => (c y hy).resolve_left fun q => q e, d⟩
section
variable {c : Jx} {ρ : Rho} {κ : Kap} {X X' : XP} {Q : PV → Rho → Kap → Prop}
theorem e_Comp {elt iter : Expr} {x : Str} {px pos : Pos} {ifs : List Expr} {scope : Scope} {cap : Rho} (f : PV → Option PV) (hcap : CapOk c scope cap ρ κ) (hcx : cap x = none) (ok : compOk scope x = true) (hs : ∀ E v, foldedSetIterable iter E v = pure v)
    (h : E1 c iter ρ κ (fun p ρ1 κ1 => ∃ l, IT2 c.w p l ∧ l.length ≤ 16777216 ∧ (∀ q ∈ l, TE ⟨c.w, relS c.scope scope, c.n, false⟩ ifs elt (upd cap x q) (f q)) ∧ Q (.lst (l.filterMap f)) ρ1 κ1) X) :
    E1 c (.ListComp elt [⟨.Name x px, iter, ifs, 0⟩] scope pos) ρ κ Q X :=
  let ⟨a, b, d, e⟩ := compOk_of ok; e_ListComp f hcap hcx a b d e hs h
theorem c_AComp {elt iter : Expr} {x y : Str} {px py pos spos : Pos} {ifs : List Expr} {scope : Scope} {cap : Rho} {Q : PF → Rho → Kap → Prop} (f : PV → Option PV) (hcap : CapOk c scope cap ρ κ) (hcx : cap x = none) (ok : compOk scope x = true) (hs : ∀ E v, foldedSetIterable iter E v = pure v)
    (hsw : ∀ E : Env, E.scope = c.scope → swapsWith (.ListComp elt [⟨.Name x px, iter, ifs, 0⟩] scope pos) (some (.Name y py)) spos.line E = pure true) (hy : c.scope.names.lookup y = some .local)
    (h : E1 c iter ρ κ (fun p ρ1 κ1 => ∃ l, IT2 c.w p l ∧ l.length ≤ 16777216 ∧ (∀ q ∈ l, TE ⟨c.w, relS c.scope scope, c.n, false⟩ ifs elt (upd cap x q) (f q)) ∧ Q .next (upd ρ1 y (.lst (l.filterMap f))) κ1) X) :
    C1 c (.Assign [.Name y py] (.ListComp elt [⟨.Name x px, iter, ifs, 0⟩] scope pos) spos) ρ κ Q X :=
  let ⟨a, b, d, e⟩ := compOk_of ok; c_AssignComp f hcap hcx a b d e hs hsw hy h
theorem te_nil {elt : Expr} {p : PV} (h : ∀ κ, E1 c elt ρ κ (fun q ρ1 κ1 => κ1 = κ ∧ ρ1 = ρ ∧ q = p) noX) : TE c [] elt ρ (some p) := fun κ => ⟨p, rfl, h κ⟩
/-- branches that meet again -/
noncomputable def jQ (J : Rho → Kap → Prop) : PF → Rho → Kap → Prop := fun f ρ κ => match f with | .next => J ρ κ | _ => False
theorem j_next {J : Rho → Kap → Prop} (h : J ρ κ) : jQ J .next ρ κ := h
theorem ite_join {b : Bool} {s1 s2 rest : List Stmt} {Q : PF → Rho → Kap → Prop} (J : Rho → Kap → Prop) (h1 : b = true → CS c s1 ρ κ (jQ J) X) (h2 : b = false → CS c s2 ρ κ (jQ J) X) (h : ∀ ρ κ, J ρ κ → CS c rest ρ κ Q X) :
    if b = true then CS c s1 ρ κ (seqQ c rest Q X) X else CS c s2 ρ κ (seqQ c rest Q X) X := by
  have up : ∀ f ρ κ, jQ J f ρ κ → seqQ c rest Q X f ρ κ := fun f ρ κ hj => by
    cases f <;> first | exact h _ _ hj | exact hj.elim
  cases b
  · exact (h2 rfl).mono up fun _ _ _ x => x
  · exact (h1 rfl).mono up fun _ _ _ x => x
/-- a call whose answer is one value -/
theorem v_call1 {f : Value} {ps : List PV} {n : Nat} {p0 : PV} {P : Prop} (h : CT c.w f ps n (fun p => p = p0) noC) (hn : n ≤ c.n) (hQ : Q p0 ρ κ) : VL c (callF f) ps ρ κ Q X := v_call h hn (fun p hp => hp ▸ hQ) fun C hC => hC.elim
theorem v_callT {f : Value} {ps : List PV} {n : Nat} {P : Prop} (h : CT c.w f ps n (fun q => ∃ t : Bool, q = .bool t ∧ (t = true ↔ P)) noC) (hn : n ≤ c.n) (hp : P) (hQ : Q (.bool true) ρ κ) : VL c (callF f) ps ρ κ Q X :=
  v_call h hn (fun q hq => by obtain ⟨t, rfl, ht⟩ := hq; rw [ht.mpr hp]; exact hQ) fun C hC => hC.elim
theorem v_callN {f : Value} {ps : List PV} {n : Nat} {P : Prop} (h : CT c.w f ps n (fun q => ∃ t : Bool, q = .bool t ∧ (t = true ↔ P)) noC) (hn : n ≤ c.n) (hp : ¬ P) (hQ : Q (.bool false) ρ κ) : VL c (callF f) ps ρ κ Q X :=
  v_call h hn (fun q hq => by obtain ⟨t, rfl, ht⟩ := hq; cases t; exact hQ; exact (hp (ht.mp rfl)).elim) fun C hC => hC.elim
end
end Mine

/-! # CC -/
namespace Mine
open PySem PySem.W PyProof.Rows PySem.Calls
open Sem (wp)
set_option Elab.async false
set_option maxRecDepth 100000
set_option linter.unusedVariables false
/-! ## The walk where no code that holds a bytearray's octets lies on the stack -/
noncomputable def holdIds : List String := ["bytearray.__contains__", "bytearray.__mod__", "bytearray.__rmod__", "_struct.pack_into.held", "bytearray.find.held"]
noncomputable def holds? : Code → Bool
  | .builtin id _ => holdIds.contains id || Builtin.Bytes.decodersThatHold.contains id
  | _ => false
noncomputable def CleanL (l : List (Code × Pos)) : Prop := ∀ c ∈ l, holds? c.1 = false
noncomputable def wpC {α : Type} (M : Model) (A : Around) (t : Sem α) (Q : α → Shared → Prop) (E : Value → Shared → Prop) (s : Shared) : Prop :=
  ∀ Γ p, Γ.In A → holds? Γ.code = false → CleanL Γ.below → wp M Γ t (fun a _ s' => Q a s') (fun e _ s' => E e s') p s
noncomputable def codeC (M : Model) (A : Around) (c : Code) (R : Result → Shared → Prop) (s : Shared) : Prop :=
  ∀ Γ p, Γ.code = c → Γ.Below A → CleanL Γ.below → wpCode M Γ R p s
section
variable {α β : Type} {M : Model} {A : Around} {E : Value → Shared → Prop} {s : Shared}
theorem wpC_of {t : Sem α} {Q : α → Shared → Prop} (h : wpAny M A t Q E s) : wpC M A t Q E s := fun Γ p hΓ _ _ => h Γ p hΓ
theorem codeC_of {c : Code} {R : Result → Shared → Prop} (h : codeAny M A c R s) : codeC M A c R s := fun Γ p hc hΓ _ => h Γ p hc hΓ
theorem wpC_pure {a : α} {Q : α → Shared → Prop} (h : Q a s) : wpC M A (pure a) Q E s := fun _ _ _ _ _ => h
theorem wpC_mono {t : Sem α} {Q Q' : α → Shared → Prop} {E' : Value → Shared → Prop} (h : wpC M A t Q E s) (hQ : ∀ a s, Q a s → Q' a s) (hE : ∀ e s, E e s → E' e s) : wpC M A t Q' E' s :=
  fun Γ p a b c => Sem.wp_mono M Γ t (fun a _ s => hQ a s) (fun e _ s => hE e s) p s (h Γ p a b c)
theorem wpC_bind {m : Sem α} {f : α → Sem β} {Q : β → Shared → Prop} (h : wpC M A m (fun a s' => wpC M A (f a) Q E s') E s) : wpC M A (m >>= f) Q E s := fun Γ p a b c => by
  rw [Sem.wp_bind']
  exact Sem.wp_mono M Γ m (fun x p' s' h' => h' Γ p' a b c) (fun _ _ _ h' => h') p s (h Γ p a b c)
/-- a leaf, then on -/
theorem wpC_step {m : Sem α} {f : α → Sem β} {Q : β → Shared → Prop} (h : wpAny M A m (fun a s' => wpC M A (f a) Q E s') E s) : wpC M A (m >>= f) Q E s := wpC_bind (wpC_of h)
theorem wpC_holding {vs : List Value} {m : Sem α} {Q : α → Shared → Prop} (h : wpC M A m Q E s) : wpC M A (holding vs m) Q E s := fun Γ p a b c => by
  rw [Sem.wp_holding]; exact h Γ p a b c
theorem wpC_onRaise {m : Sem α} {k : Value → Sem Unit} {Q : α → Shared → Prop} (h : wpC M A m Q (fun e s' => wpC M A (k e) (fun _ s'' => E e s'') E s') s) : wpC M A (m.onRaise k) Q E s := fun Γ p a b c => by
  rw [Sem.wp_onRaise]
  exact Sem.wp_mono M Γ m (fun _ _ _ h' => h') (fun e p' s' h' => h' Γ p' a b c) p s (h Γ p a b c)
theorem wpC_runValue {c : Code} {Q : Value → Shared → Prop} (hc : codeC M A c (fun r s' => match r with | .ok (.ret v) => Q v s' | .ok _ => False | .error e => E e s') s) : wpC M A (runValue c) Q E s := fun Γ p a b d => by
  rw [Sem.wp_runValue]
  exact hc _ p rfl (a.enter c none p (by intro x; cases x)) fun x hx => (List.mem_cons.mp hx).elim (fun e => by rw [e]; exact b) (d x)
theorem wpC_call {f : Value} {pos : List Value} {kw : List (Str × Value)} {Q : Value → Shared → Prop}
    (hc : codeC M A (.call f ⟨pos, kw⟩) (fun r s' => match r with | .ok (.ret v) => Q v s' | .ok _ => False | .error e => E e s') s) : wpC M A (call f pos kw) Q E s := wpC_runValue hc
theorem codeC_mono {c : Code} {R R' : Result → Shared → Prop} (h : codeC M A c R s) (hR : ∀ r s, R r s → R' r s) : codeC M A c R' s := fun Γ p hc hΓ d => wpCode_mono hR (h Γ p hc hΓ d)
theorem codeC_of_tree {c : Code} {R : Result → Shared → Prop} (hn : holds? c = false)
    (h : wpC M (A.under c) (M.den c) (fun fin s' => match fin with | .done f => R (.ok f) s' | .again c' => c'.quiet = true ∧ codeC M A c' R s') (fun e s' => R (.error e) s') s) : codeC M A c R s := fun Γ p hc hΓ d => by
  rw [wpCode_iff_wp, hc]
  refine Sem.wp_mono M Γ _ (fun fin p' s' h' => ?_) (fun _ _ _ h' => h') p s (h Γ p (hc ▸ hΓ.in) (hc ▸ hn) d)
  cases fin with
  | done f => exact h'
  | again c' => exact ⟨h'.1, h'.2 (Γ.goto c') p' rfl (hΓ.goto c') d⟩
theorem codeC_builtin {prog : Program} {w : World} {id : String} {args : Args} {b : Builtin} {R : Result → Shared → Prop} (hn : holds? (.builtin id args) = false) (hb : entryFor table id = some b)
    (h : wpC (model prog w) (A.under (.builtin id args)) (b args)
      (fun fin s' => match fin with | .done f => R (.ok f) s' | .again c' => c'.quiet = true ∧ codeC (model prog w) A c' R s') (fun e s' => R (.error e) s') s) :
    codeC (model prog w) A (.builtin id args) R s := by
  refine codeC_of_tree hn ?_
  show wpC _ _ (match entryFor table id with | some b => b args | none => unsupported ((withoutEnding? id "#data").getD id)) _ _ s
  rw [hb]; exact h
/-- the stack holds no octets of self -/
theorem wpC_exported {self : Value} {Q : Bool → Shared → Prop} (h : Q false s) : wpC M A (Builtin.Bytes.exported self) Q E s := fun Γ p _ b c => by
  unfold Builtin.Bytes.exported
  show Q (List.any ((Γ.code, p) :: Γ.below) _) s
  rw [List.any_eq_false.mpr]
  · exact h
  · intro x hx
    have hh : holds? x.1 = false := (List.mem_cons.mp hx).elim (fun e => by rw [e]; exact b) (c x)
    obtain ⟨cc, pp⟩ := x
    cases cc with
    | builtin id args =>
      unfold holds? at hh
      simp only [Bool.or_eq_false_iff] at hh
      obtain ⟨h1, h2⟩ := hh
      have ne : ∀ {y : String}, holdIds.contains y = true → id ≠ y := fun hy e => by rw [e, hy] at h1; cases h1
      obtain ⟨as, ks⟩ := args
      delta PySem.Builtin.Bytes.exported.match_1
      show ¬ (dite _ _ _ : Bool) = true
      rw [dif_neg (ne (by decide +kernel)), dif_neg (ne (by decide +kernel)), dif_neg (ne (by decide +kernel)), dif_neg (ne (by decide +kernel)), dif_neg (ne (by decide +kernel))]
      cases as with
      | nil => exact Bool.false_ne_true
      | cons a as =>
        show ¬ (Builtin.Bytes.sameRef a self && Builtin.Bytes.decodersThatHold.contains id) = true
        rw [h2, Bool.and_false]
        exact Bool.false_ne_true
    | _ => exact Bool.false_ne_true
end
namespace F
theorem mro_ba : mroOf (.type "bytearray") = pure [.type "bytearray", .type "object"] := by rw [mroOf_type]; kernel_rfl
theorem lookup_ba_new : typeLookup (.type "bytearray") "__new__" = pure (some (.builtin "bytearray.__new__")) := by rw [typeLookup_type, builtinLookup_eq_fast]; kernel_rfl
theorem owner_ba : Manifest.owners.lookup (String.ofList ['y', 'a', 'r', 'r', 'a', 'e', 't', 'y', 'b'].reverse) = some Manifest.sig_bytearray := by kernel_rfl
theorem slot_ba_init : Slot "bytearray" "__init__" "bytearray.__init__" :=
  .of (owner := "bytearray") (n := "__init__") (by rw [typeLookup_type, builtinLookup_eq_fast]; kernel_rfl) (by decide +kernel) (by decide +kernel) (by decide +kernel) (.inl (by decide +kernel)) (by rw [isSubtype_type]; kernel_rfl)
theorem called_ba : TypeCalled "bytearray" "bytearray.__new__" "bytearray.__init__" :=
  ⟨by decide +kernel, by decide +kernel, ⟨_, _, mro_ba⟩, madeBy_type mro_ba lookup_ba_new (by decide +kernel), by decide +kernel, by rw [isSubtype_type]; kernel_rfl, slot_ba_init⟩
theorem typeCall_ba (a : Value) : checkTypeCall "bytearray" ⟨[a], []⟩ = pure () := by kernel_rfl
theorem newCall_ba (a : Value) : checkBuiltinCall "bytearray.__new__" ⟨[.type "bytearray", a], []⟩ = pure () := by kernel_rfl
theorem entry_ba_new : entryFor table "bytearray.__new__" = some Builtin.«list.__new__» :=
  entryFor_alias (id' := "list.__new__") (by kernel_rfl) (by first | rfl | decide +kernel | (unfold String.splitOn; simp +decide [String.splitOnAux])) (by decide +kernel) (by kernel_rfl)
theorem entry_ba_init : entryFor table "bytearray.__init__" = some Builtin.«bytearray.__init__» := entryFor_of_tree (by kernel_rfl)
theorem plain_ba_new : plainId "bytearray.__new__" = true := by decide +kernel
theorem plain_ba_init : plainId "bytearray.__init__" = true := by decide +kernel
theorem sub_ba_self : isSubtype (.type "bytearray") (.type "bytearray") = pure true := by rw [isSubtype_type]; kernel_rfl
end F
section
variable {prog : Program} {w : World} {A : Around} {E : Value → Shared → Prop} {s : Shared}
theorem code_ba_new (a : Value) {Q₁ : Value → Shared → Prop}
    (h : Q₁ (.ref s.heap.objs.size) { s with heap := s.heap.push { cls := .type "bytearray", data := .bytearray #[] } }) :
    codeAny (model prog w) A (.call (.builtin "bytearray.__new__") ⟨[.type "bytearray", a], []⟩) (wants Q₁ E) s := by
  refine codeAny_of_tree ?_
  show wpAny _ A.in1 (do checkBuiltinCall "bytearray.__new__" ⟨[.type "bytearray", a], []⟩; again (.builtin "bytearray.__new__" ⟨[.type "bytearray", a], []⟩)) _ _ s
  refine wpAny_bind (wpAny_of_eq (F.newCall_ba a) (wpAny_pure ⟨plainId_quiet F.plain_ba_new _, codeAny_builtin_stack F.entry_ba_new rfl fun p st => ?_⟩))
  rw [Around.under_plainId F.plain_ba_new _]
  have hsub := F.sub_ba_self
  have hown : ("bytearray.__new__".splitOn ".__new__").headD "" = "bytearray" := by rw [split_bytearray]; rfl
  obtain ⟨hp, g, d, tk, os⟩ := s
  simp only [hown]
  wp_walk
  exact h
theorem wpC_if_false {α : Type} {M : Model} {c : Bool} {a b : Sem α} {Q : α → Shared → Prop} (hc : c = false) (h : wpC M A b Q E s) : wpC M A (if c = true then a else b) Q E s := by
  subst hc; exact h
theorem wpC_if_true {α : Type} {M : Model} {c : Bool} {a b : Sem α} {Q : α → Shared → Prop} (hc : c = true) (h : wpC M A a Q E s) : wpC M A (if c = true then a else b) Q E s := by
  subst hc; exact h
theorem wpC_callType {T newId initId : String} {Bi : Builtin} {args : List Value} {Q Q₁ : Value → Shared → Prop} (ft : TypeCalled T newId initId)
    (hct : checkTypeCall T ⟨args, []⟩ = pure ()) (entryI : entryFor table initId = some Bi) (hn : ∀ as, holds? (.builtin initId as) = false)
    (hnew : codeAny (model prog w) A.in1 (.call (.builtin newId) ⟨.type T :: args, []⟩) (wants Q₁ E) s)
    (hnext : ∀ obj s₁, Q₁ obj s₁ → s₁.TypeIs obj T ∧ argsOk initId ⟨obj :: args, []⟩ ∧
      wpC (model prog w) A.in1.in1 (Bi ⟨obj :: args, []⟩) (fun fin s' => fin = .done (.ret .none) ∧ Q obj s') E s₁) :
    wpC (model prog w) A (call (.type T) args) Q E s := by
  obtain ⟨c, tl, hmro⟩ := ft.mro
  have hmade := ft.made
  have hsub := ft.sub
  refine wpC_call (codeC_of_tree rfl ?_)
  show wpC _ _ (callAny (.type T) _) _ _ _
  refine wpC_pure ⟨Code.quiet_builtin _ (by decide +kernel), codeC_builtin (show (holdIds.contains "type.__call__" || Builtin.Bytes.decodersThatHold.contains "type.__call__") = false by decide +kernel) F.entry_type_call ?_⟩
  rw [Around.under_plain (weight_type_call_type T args []) rfl]
  have h1 := ft.notType
  have h2 := ft.canCreate
  unfold Builtin.«type.__call__»
  dsimp only
  refine wpC_if_false h1 (wpC_if_false h2 ?_)
  refine wpC_step (wpAny_of_eq hct ?_)
  refine wpC_step (wpAny_of_eq hmro ?_)
  refine wpC_if_false rfl ?_
  refine wpC_step (wpAny_of_eq hmade ?_)
  dsimp only
  refine wpC_step (wpAny_pure ?_)
  refine wpC_step (wpAny_holding (wpAny_call (codeAny_mono hnew fun r s₁ hr => ?_)))
  cases r with
  | error e => exact hr
  | ok fl =>
    cases fl with
    | ret obj =>
      obtain ⟨hT, hok, hsi⟩ := hnext _ _ hr
      have hli := ft.init.lookup
      have hbi := ft.init.bind obj
      refine wpC_step (wpAny_isInstance hT hsub ?_)
      refine wpC_if_false rfl ?_
      refine wpC_bind (wpC_holding ?_)
      unfold callSpecial?
      refine wpC_step (wpAny_specialOf hT hli ?_)
      dsimp only
      refine wpC_holding ?_
      refine wpC_step (wpAny_of_eq hbi ?_)
      dsimp only
      refine wpC_bind (wpC_call (codeC_of_tree rfl ?_))
      show wpC _ _ (do checkBuiltinCall initId ⟨obj :: args, []⟩; again (.builtin initId ⟨obj :: args, []⟩)) _ _ _
      refine wpC_step (ft.init.check _ _ _ _ _ _ _ _ hT hok ?_)
      refine wpC_pure ⟨plainId_quiet ft.init.plain _, codeC_builtin (hn _) entryI ?_⟩
      rw [Around.under_plainId ft.init.plain _]
      refine wpC_mono hsi (fun fin s₂ h => ?_) fun _ _ x => x
      obtain ⟨rfl, hq⟩ := h
      dsimp only
      refine wpC_pure ?_
      dsimp only
      refine wpC_if_false (by decide) ?_
      exact wpC_pure hq
    | _ => exact hr.elim

theorem release_look : typeLookup (.type "bytearray") "__release_buffer__" = pure (some (.builtin "bytearray.__release_buffer__")) := by rw [typeLookup_type, builtinLookup_eq_fast]; kernel_rfl
theorem release_own {a : Addr} {Q : Bool → Shared → Prop} (hT : s.TypeIs (.ref a) "bytearray") (h : Q false s) : wpAny (model prog w) A (Builtin.Bytes.ownRelease (.ref a)) Q E s := by
  unfold Builtin.Bytes.ownRelease Builtin.Bytes.slotIsOwn
  refine wpAny_bind (wpAny_bind (wpAny_specialOf hT release_look ?_))
  dsimp only
  rw [if_neg (by decide +kernel)]
  rw [show String.dropRight "bytearray.__release_buffer__" (String.length "__release_buffer__" + 1) = "bytearray" by decide +kernel]
  refine wpAny_isInstance hT F.sub_ba_self ?_
  exact wpAny_pure h
theorem bytes_no_index : typeLookup (.type "bytes") "__index__" = pure none := by rw [typeLookup_type, builtinLookup_eq_fast]; kernel_rfl
theorem bytes_buffer : typeLookup (.type "bytes") "__buffer__" = pure (some (.builtin "bytes.__buffer__")) := by rw [typeLookup_type, builtinLookup_eq_fast]; kernel_rfl
theorem bytes_no_release : typeLookup (.type "bytes") "__release_buffer__" = pure none := by rw [typeLookup_type, builtinLookup_eq_fast]; kernel_rfl
theorem buffer_bytes {id : String} {b : Array UInt8} {t : Tok} {f : Bool} {Q : Option (Array UInt8) → Shared → Prop} (h : Q (some b) s) : wpAny (model prog w) A (Builtin.Bytes.buffer? id (.bytes b t) f) Q E s := by
  have hT : s.TypeIs (.bytes b t) "bytes" := typeIs_bytes s b t
  unfold Builtin.Bytes.buffer?
  refine wpAny_bind (wpAny_specialOf hT bytes_buffer ?_)
  dsimp only
  unfold Builtin.Bytes.slotIsOwn
  refine wpAny_bind (wpAny_bind (wpAny_specialOf hT bytes_buffer ?_))
  dsimp only
  rw [if_neg (by decide +kernel)]
  rw [show String.dropRight "bytes.__buffer__" (String.length "__buffer__" + 1) = "bytes" by decide +kernel]
  refine wpAny_isInstance hT PySem.F.sub_bytes_bytes ?_
  rw [if_neg (by decide)]
  refine wpAny_bind (wpAny_specialOf hT bytes_buffer ?_)
  unfold Builtin.Bytes.ownRelease Builtin.Bytes.slotIsOwn
  refine wpAny_bind (wpAny_bind (wpAny_bind (wpAny_specialOf hT bytes_no_release ?_)))
  dsimp only
  refine wpAny_pure (wpAny_pure ?_)
  rw [if_neg (by decide)]
  exact wpAny_pure h
/-- octets written whole -/
theorem ba_write {a : Addr} {b : Array UInt8} {f : Array UInt8 → Array UInt8} {Q : Unit → Shared → Prop} (ha : s.heap.get? a = some { cls := .type "bytearray", data := .bytearray b }) (hz : (f b).size ≤ sizeLine)
    (h : ∀ h', h'.get? a = some { cls := .type "bytearray", data := .bytearray (f b) } → Heap.SameBut a s.heap h' → Q () { s with heap := h' }) : wpAny (model prog w) A (Builtin.Bytes.write (.ref a) f) Q E s := by
  unfold Builtin.Bytes.write updateBytearray
  refine wpAny_bind (wpAny_load ha ?_)
  show wpAny _ _ (update a (Obj.mapBytearray f) >>= fun _ => lookBehind a) _ _ _
  refine wpAny_bind (wpAny_update ha ?_)
  have e : (s.heap.update a (Obj.mapBytearray f)).get? a = some { cls := .type "bytearray", data := .bytearray (f b) } := Heap.get?_update_self (Obj.mapBytearray f) ha rfl
  refine wpAny_lookBehind e ?_ (h _ e (Heap.SameBut.update ..))
  show (if (f b).size > sizeLine then some "bytearray:memory" else none) = none
  rw [if_neg (by omega)]
theorem wpC_ba_init {a : Addr} {b : Array UInt8} {t : Tok} {Q : Fin → Shared → Prop} (ha : s.heap.get? a = some { cls := .type "bytearray", data := .bytearray #[] }) (hz : b.size ≤ sizeLine)
    (h : ∀ h', h'.get? a = some { cls := .type "bytearray", data := .bytearray b } → Heap.SameBut a s.heap h' → Q (.done (.ret .none)) { s with heap := h' }) :
    wpC (model prog w) A (Builtin.«bytearray.__init__» ⟨[.ref a, .bytes b t], []⟩) Q E s := by
  have hT : s.TypeIs (.ref a) "bytearray" := ⟨_, ha, rfl⟩
  unfold Builtin.«bytearray.__init__»
  dsimp only
  refine wpC_step (release_own hT ?_)
  refine wpC_if_false rfl ?_
  refine wpC_step (wpAny_of_eq (a := [some (.bytes b t), none, none]) (by kernel_rfl) ?_)
  dsimp only
  refine wpC_step (wpAny_of_eq (a := ()) rfl ?_)
  refine wpC_step (wpAny_of_eq (a := ()) rfl ?_)
  refine wpC_bind ?_
  unfold orM
  refine wpC_bind (wpC_exported ?_)
  dsimp only [toBool]
  unfold Builtin.Bytes.exportsOf
  refine wpC_of (wpAny_bind (wpAny_bind (wpAny_load ha ?_)))
  dsimp only
  refine wpAny_pure (wpAny_pure ?_)
  refine wpC_if_false rfl ?_
  refine wpC_step (ba_write ha (Nat.zero_le _) fun h₁ e₁ s₁ => ?_)
  refine wpC_step (wpAny_of_eq (a := none) rfl ?_)
  refine wpC_if_false rfl ?_
  refine wpC_step (m := if (none : Option Value).isSome = true then _ else _) ?_
  rw [if_neg (by decide), if_neg (by decide)]
  refine wpAny_pure ?_
  refine wpC_step (wpAny_specialOf (typeIs_bytes _ b t) bytes_no_index ?_)
  refine wpC_if_false rfl ?_
  refine wpC_step (buffer_bytes ?_)
  dsimp only
  refine wpC_step (wpAny_rule ?_)
  refine wpC_step (ba_write e₁ hz fun h₂ e₂ s₂ => ?_)
  exact wpC_pure (h h₂ e₂ (s₁.trans s₂))
theorem wpC_bytearray {b : Array UInt8} {t : Tok} {Q : Value → Shared → Prop} (hz : b.size ≤ sizeLine)
    (h : ∀ h', h'.get? s.heap.objs.size = some { cls := .type "bytearray", data := .bytearray b } → (∀ x o, s.heap.get? x = some o → h'.get? x = some o) → Q (.ref s.heap.objs.size) { s with heap := h' }) :
    wpC (model prog w) A (call (.type "bytearray") [.bytes b t]) Q E s := by
  refine wpC_callType (Q₁ := fun obj s₁ => obj = .ref s.heap.objs.size ∧ s₁ = { s with heap := s.heap.push { cls := .type "bytearray", data := .bytearray #[] } }) F.called_ba (F.typeCall_ba _) F.entry_ba_init
    (fun as => show (holdIds.contains "bytearray.__init__" || Builtin.Bytes.decodersThatHold.contains "bytearray.__init__") = false by decide +kernel) (code_ba_new _ ⟨rfl, rfl⟩) ?_
  rintro obj s₁ ⟨rfl, rfl⟩
  have e := Heap.get?_push_size s.heap (o := { cls := .type "bytearray", data := .bytearray #[] }) rfl
  refine ⟨⟨_, e, rfl⟩, by unfold argsOk; rw [signature?_of (id := "bytearray.__init__") (n := ['_', '_', 't', 'i', 'n', 'i', '_', '_']) (o := ['y', 'a', 'r', 'r', 'a', 'e', 't', 'y', 'b']) (by kernel_rfl) F.owner_ba]; kernel_rfl, wpC_ba_init e hz fun h' e' sb => ⟨rfl, h h' e' fun x o q => (sb.2 x ?_).trans (Heap.get?_push_of_some _ q)⟩⟩
  exact Nat.ne_of_lt (Heap.lt_size q)
end
end Mine

/-! # CJ -/
namespace Mine
open PySem PySem.W PyProof.Rows PySem.Calls
open Sem (wp)
set_option Elab.async false
set_option maxRecDepth 100000
set_option linter.unusedVariables false
/-! ## The judgements over the clean walk: for the few defs that come to a bytearray's making -/
section
variable {α β γ δ : Type} {c : Jx} {A : Around} {fs : List Env} {E : Env} {g g1 : Heap} {R : List (Addr × Obj)} {s s1 : Shared} {ρ ρ1 : Rho} {κ κ1 : Kap}
noncomputable abbrev NoE : Value → Shared → Prop := fun _ _ => False
theorem noE_of {t : Sem α} {Q : α → Shared → Prop} (h : wpAny (MM c.w) A t Q (Exc c fs E g R s noX) s1) : wpAny (MM c.w) A t Q NoE s1 := wpAny_mono h (fun _ _ q => q) fun _ _ q => q.no
theorem liftC {t : Sem α} {Rp : Heap → α → β → Prop} {Q : β → Rho → Kap → Prop} {g0 : Heap} {s0 : Shared} (k : Sub g0 g) (st : Stp fs (some E.locals) s0 s)
    (h : wpC (MM c.w) A t (Post c fs E g R s Rp Q) NoE s) : wpC (MM c.w) A t (Post c fs E g0 R s0 Rp Q) NoE s := wpC_mono h (fun _ _ q => q.up k st) fun _ _ q => q
theorem chainC {t : Sem α} {K : α → Shared → Prop} {Rp : Heap → α → β → Prop} {Q : β → Rho → Kap → Prop} {g0 : Heap} {s0 : Shared} (k : Sub g0 g) (st : Stp fs (some E.locals) s0 s) (hg : s.gens = #[])
    (h : wpC (MM c.w) A t (Post c fs E g R s Rp Q) NoE s)
    (next : ∀ a s1 g1 ρ1 κ1 b, Sub g g1 → Sub g0 g1 → Stp fs (some E.locals) s0 s1 → Sat c.w fs E g1 R ρ1 κ1 s1.heap → s1.gens = #[] → Rp g1 a b → Q b ρ1 κ1 → K a s1) :
    wpC (MM c.w) A t K NoE s :=
  wpC_mono h (fun a s1 p => by
    obtain ⟨g1, ρ1, κ1, b, x1, x2, x3, x4, x5⟩ := p
    exact next a s1 g1 ρ1 κ1 b x1 (k.trans x1) (st.trans x3) x2 (x3.gens.trans hg) x4 x5) fun _ _ q => q
noncomputable abbrev chainC0 {t : Sem α} {K : α → Shared → Prop} {Rp : Heap → α → β → Prop} {Q : β → Rho → Kap → Prop} (hg : s.gens = #[])
    (h : wpC (MM c.w) A t (Post c fs E g R s Rp Q) NoE s)
    (next : ∀ a s1 g1 ρ1 κ1 b, Sub g g1 → Sub g g1 → Stp fs (some E.locals) s s1 → Sat c.w fs E g1 R ρ1 κ1 s1.heap → s1.gens = #[] → Rp g1 a b → Q b ρ1 κ1 → K a s1) :
    wpC (MM c.w) A t K NoE s := chainC (.refl _) (.refl ..) hg h next
theorem wpC_standAt {α : Type} {M : Model} {EE : Value → Shared → Prop} {pos : Pos} {f : Unit → Sem α} {Q : α → Shared → Prop} (h : wpC M A (f ()) Q EE s) : wpC M A (standAt pos >>= f) Q EE s := wpC_step (wpAny_standAt h)
end

noncomputable def E1c (c : Jx) (e : Expr) (ρ : Rho) (κ : Kap) (Q : PV → Rho → Kap → Prop) : Prop := ∀ A fs E g R s, Good c A fs E → Sat c.w fs E g R ρ κ s.heap → s.gens = #[] →
  wpC (MM c.w) A (eval e E) (Post c fs E g R s Rep Q) NoE s
noncomputable def ELc (c : Jx) (pos : Pos) (es : List Expr) (ρ : Rho) (κ : Kap) (Q : List PV → Rho → Kap → Prop) : Prop := ∀ A fs E g R s, Good c A fs E → Sat c.w fs E g R ρ κ s.heap → s.gens = #[] →
  wpC (MM c.w) A (spliced (backTo pos (starEach es E))) (Post c fs E g R s Reps Q) NoE s
noncomputable def VLc (c : Jx) (f : List Value → Sem Value) (ps : List PV) (ρ : Rho) (κ : Kap) (Q : PV → Rho → Kap → Prop) : Prop := ∀ A fs E g R s vs, Good c A fs E → Sat c.w fs E g R ρ κ s.heap → s.gens = #[] → Reps g vs ps →
  wpC (MM c.w) A (f vs) (Post c fs E g R s Rep Q) NoE s
noncomputable def C1c (c : Jx) (st : Stmt) (ρ : Rho) (κ : Kap) (Q : PF → Rho → Kap → Prop) : Prop := ∀ A fs E g R s, Good c A fs E → Sat c.w fs E g R ρ κ s.heap → s.gens = #[] →
  wpC (MM c.w) A (exec st E) (Post c fs E g R s RF Q) NoE s
noncomputable def CSc (c : Jx) (sts : List Stmt) (ρ : Rho) (κ : Kap) (Q : PF → Rho → Kap → Prop) : Prop := ∀ A fs E g R s, Good c A fs E → Sat c.w fs E g R ρ κ s.heap → s.gens = #[] →
  wpC (MM c.w) A (execs sts E) (Post c fs E g R s RF Q) NoE s
section
variable {c : Jx} {ρ : Rho} {κ : Kap}
theorem e_leaf {e : Expr} {Q : PV → Rho → Kap → Prop} (h : E1 c e ρ κ Q noX) : E1c c e ρ κ Q := fun A fs E g R s G S hg => wpC_of (noE_of (h A fs E g R s G S hg))
theorem el_leaf {pos : Pos} {es : List Expr} {Q : List PV → Rho → Kap → Prop} (h : EL c pos es ρ κ Q noX) : ELc c pos es ρ κ Q := fun A fs E g R s G S hg => wpC_of (noE_of (h A fs E g R s G S hg))
theorem v_leaf {f : List Value → Sem Value} {ps : List PV} {Q : PV → Rho → Kap → Prop} (h : VL c f ps ρ κ Q noX) : VLc c f ps ρ κ Q := fun A fs E g R s vs G S hg r => wpC_of (noE_of (h A fs E g R s vs G S hg r))
theorem c_leaf {st : Stmt} {Q : PF → Rho → Kap → Prop} (h : C1 c st ρ κ Q noX) : C1c c st ρ κ Q := fun A fs E g R s G S hg => wpC_of (noE_of (h A fs E g R s G S hg))
theorem cs_leaf {sts : List Stmt} {Q : PF → Rho → Kap → Prop} (h : CS c sts ρ κ Q noX) : CSc c sts ρ κ Q := fun A fs E g R s G S hg => wpC_of (noE_of (h A fs E g R s G S hg))
theorem CSc.mono {sts : List Stmt} {Q Q' : PF → Rho → Kap → Prop} (h : CSc c sts ρ κ Q) (hQ : ∀ p ρ κ, Q p ρ κ → Q' p ρ κ) : CSc c sts ρ κ Q' := fun A fs E g R s G S hg => wpC_mono (h A fs E g R s G S hg) (fun _ _ p => p.mono hQ) fun _ _ p => p

theorem e_BinOpC {l r : Expr} {op : Operator} {pos : Pos} {Q : PV → Rho → Kap → Prop} (h : E1 c l ρ κ (fun a ρ1 κ1 => E1c c r ρ1 κ1 (fun b ρ2 κ2 => V2 c (binaryOp op) a b ρ2 κ2 Q noX)) noX) : E1c c (.BinOp l op r pos) ρ κ Q := fun A fs E g R s G S hg => by
  rw [eval_BinOp]
  refine wpC_step (noE_of (chain0 hg (h A fs E g R s G S hg) fun a s1 g1 ρ1 κ1 b _ k1 st1 S1 hg1 r1 q1 => ?_))
  refine wpC_bind (wpC_holding (chainC k1 st1 hg1 (q1 A fs E g1 R s1 G S1 hg1) fun a' s2 g2 ρ2 κ2 b' k12 k2 st2 S2 hg2 r2 q2 => wpC_standAt (wpC_of (noE_of (lift k2 st2 ?_)))))
  have := q2 A fs E g2 R s2 a a' G S2 hg2 (r1.keeps k12) r2
  intro Γ p hΓ
  rw [Sem.wp_operate]
  exact this Γ p hΓ
theorem e_ListC {es : List Expr} {pos : Pos} {Q : PV → Rho → Kap → Prop} (h : ELc c pos es ρ κ (fun ps ρ1 κ1 => ps.length ≤ 16777216 ∧ Q (.lst ps) ρ1 κ1)) : E1c c (.List es pos) ρ κ Q := fun A fs E g R s G S hg => by
  rw [arm_eval_List]
  refine wpC_standAt (wpC_bind (chainC0 hg (h A fs E g R s G S hg) fun vs s1 g1 ρ1 κ1 ps _ k1 st1 S1 hg1 r1 q1 => wpC_of (wpAny_newList ?_ (by rw [r1.length, sizeLine_eq]; exact q1.1))))
  exact Post.up k1 st1 (push_post (tk := s1.toks) S1 rfl (fun g' k e => .lst e rfl rfl (r1.keeps k)) q1.2)
theorem el_consC {pos : Pos} {e : Expr} {es : List Expr} {Q : List PV → Rho → Kap → Prop} (he : ∀ E, starEach (e :: es) E = (false, eval e E) :: starEach es E)
    (h : E1c c e ρ κ (fun p ρ1 κ1 => ELc c pos es ρ1 κ1 (fun ps ρ2 κ2 => Q (p :: ps) ρ2 κ2))) : ELc c pos (e :: es) ρ κ Q := fun A fs E g R s G S hg => by
  rw [he E]
  show wpC _ A (do
    let v ← eval e E
    let here ← (pure [v] : Sem (List Value))
    return here ++ (← holding here (spliced (backTo pos (starEach es E))))) _ _ _
  refine wpC_bind (chainC0 hg (h A fs E g R s G S hg) fun v s1 g1 ρ1 κ1 p _ k1 st1 S1 hg1 r1 q1 => wpC_step (wpAny_pure (wpC_bind (wpC_holding ?_))))
  exact chainC k1 st1 hg1 (q1 A fs E g1 R s1 G S1 hg1) fun vs s2 g2 ρ2 κ2 ps k12 k2 st2 S2 hg2 r2 q2 => wpC_pure ⟨g2, ρ2, κ2, _, k2, S2, st2, .cons (r1.keeps k12) r2, q2⟩
theorem e_AttrC {v : Expr} {attr : Str} {pos : Pos} {Q : PV → Rho → Kap → Prop} (hb : ∀ E, attributeBase v attr E (eval v E) = eval v E) (h : E1c c v ρ κ (fun a ρ1 κ1 => V1 c (fun o => getAttr o attr true) a ρ1 κ1 Q noX)) : E1c c (.Attribute v attr pos) ρ κ Q := fun A fs E g R s G S hg => by
  rw [arm_eval_Attribute, hb E]
  refine wpC_bind (chainC0 hg (h A fs E g R s G S hg) fun a s1 g1 ρ1 κ1 b _ k1 st1 S1 hg1 r1 q1 => wpC_standAt (wpC_step (wpAny_holding ?_)))
  exact noE_of (chain k1 st1 hg1 (q1 A fs E g1 R s1 a G S1 hg1 r1) fun r s2 g2 ρ2 κ2 b2 _ k2 st2 S2 hg2 r2 q2 => wpC_step (wpAny_letTemporaryGo (wpC_pure ⟨g2, ρ2, κ2, b2, k2, S2, st2, r2, q2⟩)))

theorem evalArgsC {M : Model} {A : Around} {EE : Value → Shared → Prop} {s : Shared} {f : Value} {Q : Args → Shared → Prop} : ∀ {trees : List (Bool × Sem Value)}, trees.any (·.1) = false → wpC M A (spliced trees) (fun vs s' => Q ⟨vs, []⟩ s') EE s → wpC M A (evalArgs f true trees []) Q EE s := by
  intro trees hp h
  cases trees with
  | nil =>
    unfold evalArgs
    show wpC M A (spliced [] >>= _) Q EE s
    exact wpC_bind (wpC_mono h (fun vs s' h' => wpC_holding (wpC_step (wpAny_pure (wpC_step (wpAny_pure (wpC_pure h')))))) fun _ _ x => x)
  | cons x r =>
    obtain ⟨b, x⟩ := x
    have hb : b = false := by cases b with | false => rfl | true => cases hp
    subst hb
    unfold evalArgs
    show wpC M A (spliced ((false, x) :: r) >>= _) Q EE s
    exact wpC_bind (wpC_mono h (fun vs s' h' => wpC_holding (wpC_step (wpAny_pure (wpC_step (wpAny_pure (wpC_pure h')))))) fun _ _ x => x)
theorem wpC_keep {M : Model} {A : Around} {α : Type} {EE : Value → Shared → Prop} {s : Shared} {vs : List Value} {t : Sem α} {Q : α → Shared → Prop} (h : wpC M A t Q EE s) : wpC M A (t.keep vs) Q EE s := fun Γ p a b d => by
  rw [Sem.wp_keep]; exact h Γ p a b d
theorem callWithC {A : Around} {fs : List Env} {E : Env} {g0 g : Heap} {R : List (Addr × Obj)} {s0 s : Shared} {f : Value} {firstv : List Value} {first : List PV} {es : List Expr} {pos : Pos} {Q : PV → Rho → Kap → Prop}
    (G : Good c A fs E) (S : Sat c.w fs E g R ρ κ s.heap) (hg : s.gens = #[]) (k0 : Sub g0 g) (st0 : Stp fs (some E.locals) s0 s) (hk : KeepOk c.w f) (hp : (backTo pos (starEach es E)).any (·.1) = false) (rf : Reps g firstv first)
    (h : ELc c pos es ρ κ (fun ps ρ1 κ1 => VLc c (callF f) (first ++ ps) ρ1 κ1 Q)) :
    wpC (MM c.w) A (callWith pos f firstv (backTo pos (starEach es E)) []) (Post c fs E g0 R s0 Rep Q) NoE s := by
  unfold callWith
  refine wpC_bind (wpC_holding (evalArgsC hp ?_))
  refine chainC k0 st0 hg (h A fs E g R s G S hg) fun vs s1 g1 ρ1 κ1 ps k1 k01 st1 S1 hg1 r1 q1 => wpC_standAt ?_
  have hq := liftC k01 st1 (q1 A fs E g1 R s1 _ G S1 hg1 ((rf.keeps k1).append r1))
  obtain ⟨m, cs, S1⟩ := S1
  obtain ⟨k, hk', L⟩ := hk _ (S1.lv.W.K.keeps S1.lv.keep)
  simp only [hp, List.any_nil, Bool.or_false]
  refine wpC_step (L.here ?_)
  have tail : ∀ {t : Sem Value}, wpC (MM c.w) A t (Post c fs E g0 R s0 Rep Q) NoE s1 → wpC (MM c.w) A (t >>= fun r => holding [r] point >>= fun _ => pure r) (Post c fs E g0 R s0 Rep Q) NoE s1 :=
    fun ht => wpC_bind (wpC_mono ht (fun r s₂ hr => wpC_step (wpAny_holding (wpAny_point (wpC_pure hr)))) fun _ _ x => x)
  have marked (mk : Value) : wpC (MM c.w) A (callMarked mk f (firstv ++ vs) []) (Post c fs E g0 R s0 Rep Q) NoE s1 := by unfold callMarked; exact wpC_keep hq
  rcases hk' with rfl | rfl | rfl <;> dsimp only <;> first | exact tail hq | (split <;> first | exact tail hq | exact tail (marked _))
theorem e_CallNameC {x : Str} {p pos : Pos} {es : List Expr} {f : Value} {Q : PV → Rho → Kap → Prop} (hk : KeepOk c.w f) (hp : ∀ E, (backTo pos (starEach es E)).any (·.1) = false)
    (h : E1 c (.Name x p) ρ κ (fun q ρ1 κ1 => q = .val f ∧ ELc c pos es ρ1 κ1 (fun ps ρ2 κ2 => VLc c (callF f) ps ρ2 κ2 Q)) noX) : E1c c (.Call (.Name x p) es [] pos) ρ κ Q := fun A fs E g R s G S hg => by
  show wpC _ A (eval (.Name x p) E >>= fun f => callWith pos f [] (backTo pos (starEach es E)) []) _ _ _
  refine wpC_step (noE_of (chain0 hg (h A fs E g R s G S hg) fun v s1 g1 ρ1 κ1 q _ k1 st1 S1 hg1 r1 q1 => ?_))
  obtain ⟨rfl, q1⟩ := q1
  (first | obtain ⟨_, rfl⟩ := r1.int_inv | obtain rfl := r1.nil_inv | obtain ⟨_, _, rfl, rfl⟩ := r1.bytes_inv | obtain rfl := r1.bool_inv | obtain rfl := r1.val_inv | obtain rfl := r1.own_inv | obtain ⟨_, rfl⟩ := r1.str_inv | cases r1)
  exact callWithC G S1 hg1 k1 st1 hk (hp E) .nil q1
theorem e_CallMethC {o : Expr} {name : Str} {apos pos : Pos} {es : List Expr} {f : Value} {Q : PV → Rho → Kap → Prop} (pl : Env → Sem Bool) (he : MethTree o name apos pos es pl) (hk : KeepOk c.w f) (hp : ∀ E, (backTo pos (starEach es E)).any (·.1) = false)
    (h : E1 c o ρ κ (fun q ρ1 κ1 => MG c ρ1 κ1 q name f ∧ ELc c pos es ρ1 κ1 (fun ps ρ2 κ2 => VLc c (callF f) (q :: ps) ρ2 κ2 Q)) noX) : E1c c (.Call (.Attribute o name apos) es [] pos) ρ κ Q := fun A fs E g R s G S hg => by
  rw [he E]
  refine wpC_step (noE_of (chain0 hg (h A fs E g R s G S hg) fun v s1 g1 ρ1 κ1 q _ k1 st1 S1 hg1 r1 q1 => ?_))
  obtain ⟨hm, q1⟩ := q1
  exact wpC_standAt (wpC_step (wpAny_holding (hm A fs E g1 R s1 v _ _ _ G S1 r1 (callWithC (first := [q]) G S1 hg1 k1 st1 hk (hp E) (.cons r1 .nil) q1))))

/-! ### statements -/
noncomputable def seqC (c : Jx) (rest : List Stmt) (Q : PF → Rho → Kap → Prop) : PF → Rho → Kap → Prop := fun f ρ κ => match f with | .next => CSc c rest ρ κ Q | f => Q f ρ κ
theorem seqC_next {rest : List Stmt} {Q : PF → Rho → Kap → Prop} (h : CSc c rest ρ κ Q) : seqC c rest Q .next ρ κ := h
theorem seqC_ret {rest : List Stmt} {p : PV} {Q : PF → Rho → Kap → Prop} (h : Q (.ret p) ρ κ) : seqC c rest Q (.ret p) ρ κ := h
theorem seqC_cont {rest : List Stmt} {Q : PF → Rho → Kap → Prop} (h : Q .cont ρ κ) : seqC c rest Q .cont ρ κ := h
theorem cs_consC {st : Stmt} {rest : List Stmt} {Q : PF → Rho → Kap → Prop} (h : C1c c st ρ κ (seqC c rest Q)) : CSc c (st :: rest) ρ κ Q := fun A fs E g R s G S hg => by
  rw [execs_cons]
  refine wpC_bind (wpC_mono (h A fs E g R s G S hg) (fun fl s1 p => ?_) fun _ _ e => e)
  obtain ⟨g1, ρ1, κ1, y, x1, x2, x3, x4, x5⟩ := p
  revert x5
  exact rf_cases x4 (fun x5 => liftC x1 x3 (x5 A fs E g1 R s1 G x2 (x3.gens.trans hg))) (fun x5 => wpC_pure ⟨g1, ρ1, κ1, .brk, x1, x2, x3, trivial, x5⟩) (fun x5 => wpC_pure ⟨g1, ρ1, κ1, .cont, x1, x2, x3, trivial, x5⟩) fun v q x4 x5 => wpC_pure ⟨g1, ρ1, κ1, .ret q, x1, x2, x3, x4, x5⟩
theorem cs_nilC {Q : PF → Rho → Kap → Prop} (h : Q .next ρ κ) : CSc c [] ρ κ Q := cs_leaf (cs_nil h)
theorem c_AssignC {x : Str} {p' pos : Pos} {e : Expr} {Q : PF → Rho → Kap → Prop} (hs : ∀ E, swapsWith e (some (.Name x p')) pos.line E = pure false) (hk : c.scope.names.lookup x = some .local)
    (h : E1c c e ρ κ (fun p ρ1 κ1 => Q .next (upd ρ1 x p) κ1)) : C1c c (.Assign [.Name x p'] e pos) ρ κ Q := fun A fs E g R s G S hg => by
  rw [exec_Assign_Name E x p' e pos (hs E)]
  refine wpC_standAt (wpC_bind (chainC0 hg (h A fs E g R s G S hg) fun v s1 g1 ρ1 κ1 y _ k1 st1 S1 hg1 r1 q1 => wpC_standAt (wpC_step ?_)))
  have hst := store_local (EE := NoE) G S1 hk r1 q1
  have : wpAny (MM c.w) A (storeName E x v) (fun _ s' => wpC (MM c.w) A (pure Flow.next) (Post c fs E g R s RF Q) NoE s') NoE s1 := wpAny_mono hst (fun _ _ q => wpC_pure (q.up k1 st1)) fun _ _ q => q
  intro Γ p hΓ
  rw [Sem.wp_bindName]
  exact this Γ p hΓ
theorem c_IfC {t : Expr} {b o : List Stmt} {pos : Pos} {Q : PF → Rho → Kap → Prop} (h : B1 c t ρ κ (fun x ρ1 κ1 => if x = true then CSc c b ρ1 κ1 Q else CSc c o ρ1 κ1 Q) noX) : C1c c (.If t b o pos) ρ κ Q := fun A fs E g R s G S hg => by
  rw [exec_If]
  refine wpC_standAt (wpC_step (noE_of (chain0 hg (h A fs E g R s G S hg) fun x s1 g1 ρ1 κ1 y _ k1 st1 S1 hg1 r1 q1 => ?_)))
  subst r1
  cases x
  · exact liftC k1 st1 (q1 A fs E g1 R s1 G S1 hg1)
  · exact liftC k1 st1 (q1 A fs E g1 R s1 G S1 hg1)
theorem c_ReturnC {e : Expr} {pos : Pos} {Q : PF → Rho → Kap → Prop} (h : E1c c e ρ κ (fun p ρ1 κ1 => Q (.ret p) ρ1 κ1)) : C1c c (.Return (some e) pos) ρ κ Q := fun A fs E g R s G S hg => by
  rw [exec_Return_some]
  refine wpC_standAt (wpC_bind (chainC0 hg (h A fs E g R s G S hg) fun v s1 g1 ρ1 κ1 y _ k1 st1 S1 hg1 r1 q1 => wpC_pure ⟨g1, ρ1, κ1, .ret y, k1, S1, st1, r1, q1⟩))
theorem codeC_loop {M : Model} {A : Around} {cd : Code} {s : Shared} {RR : Result → Shared → Prop} (hn : holds? cd = false) (hq : cd.quiet = true) (I : Nat → Shared → Prop)
    (turn : ∀ n s, I n s → wpC M (A.under cd) (M.den cd) (fun fin s' => match fin with | .done f => RR (.ok f) s' | .again c' => c' = cd ∧ ∃ m, m < n ∧ I m s') (fun e s' => RR (.error e) s') s)
    (n : Nat) (h : I n s) : codeC M A cd RR s := by
  induction n using Nat.strongRecOn generalizing s with
  | ind n ih =>
    refine codeC_of_tree hn (wpC_mono (turn n s h) (fun fin s' hf => ?_) fun _ _ h' => h')
    cases fin with
    | done f => exact hf
    | again c' => obtain ⟨rfl, m, hm, hI⟩ := hf; exact ⟨hq, ih m hm hI⟩
theorem wpC_run {M : Model} {A : Around} {EE : Value → Shared → Prop} {s : Shared} {cd : Code} {Q : Flow → Shared → Prop} (hc : codeC M (A.mark none) cd (fun r s' => match r with | .ok f => Q f s' | .error e => EE e s') s) : wpC M A (run cd none) Q EE s := fun Γ p a b d => by
  rw [Sem.wp_run]
  exact hc _ p rfl (a.enter cd none p (by intro x; cases x)) fun x hx => (List.mem_cons.mp hx).elim (fun e => by rw [e]; exact b) (d x)
theorem c_WhileC {test : Expr} {body : List Stmt} {pos : Pos} {Q : PF → Rho → Kap → Prop} (I : Nat → Rho → Kap → Prop) (n : Nat) (h : I n ρ κ)
    (turn : ∀ n ρ1 κ1, I n ρ1 κ1 → B1 c test ρ1 κ1 (fun b ρ2 κ2 => if b = true then CSc c body ρ2 κ2 (turnQ (fun ρ3 κ3 => ∃ m, m < n ∧ I m ρ3 κ3) Q) else Q .next ρ2 κ2) noX) :
    C1c c (.While test body [] pos) ρ κ Q := fun A fs E g R s G S hg => by
  rw [exec_While]
  refine wpC_standAt ?_
  unfold runOwn
  refine wpC_onRaise (wpC_mono (E := NoE) (wpC_run ?_) (fun _ _ q => q) fun _ _ q => q.elim)
  refine codeC_loop (M := MM c.w) (A := A.mark none) (cd := .whileLoop test body [] E) rfl rfl (fun n s' => ∃ g2 ρ2 κ2, Sub g g2 ∧ Sat c.w fs E g2 R ρ2 κ2 s'.heap ∧ Stp fs (some E.locals) s s' ∧ I n ρ2 κ2) ?_ n ⟨g, ρ, κ, .refl _, S, .refl .., h⟩
  rintro n s' ⟨g2, ρ2, κ2, k2, S2, st2, hI⟩
  have hg2 := st2.gens.trans hg
  have eA : (A.mark none).under (.whileLoop test body [] E) = A := by
    have : A.mark none = A := rfl
    rw [this]; exact Around.under_of_weight rfl
  rw [eA]
  show wpC _ A ((whileTurn test body [] E).onRaise (fun x => do noteFrame x E; theTreesLotGoes x)) _ _ s'
  refine wpC_onRaise (wpC_mono (E := NoE) ?_ (fun _ _ q => q) fun _ _ q => q.elim)
  simp only [whileTurn]
  refine wpC_step (noE_of (chain0 hg2 (turn n ρ2 κ2 hI A fs E g2 R s' G S2 hg2) fun b s3 g3 ρ3 κ3 b' _ x1 x3 x2 hg3 rb x5 => ?_))
  subst rb
  cases b
  · simp only [Bool.false_eq_true, if_false]
    exact wpC_step (wpAny_execs_nil (wpC_pure ⟨g3, ρ3, κ3, .next, k2.trans x1, x2, st2.trans x3, trivial, x5⟩))
  · simp only [if_true]
    refine wpC_bind (wpC_mono (x5 A fs E g3 R s3 G x2 hg3) (fun f s4 q => ?_) fun _ _ e => e)
    obtain ⟨g4, ρ4, κ4, b4, y1, y2, y3, y4, y5⟩ := q
    have kk := k2.trans (x1.trans y1)
    have ss := st2.trans (x3.trans y3)
    revert y5
    refine rf_cases y4 (fun y5 => ?_) (fun y5 => ?_) (fun y5 => ?_) fun v q y4 y5 => ?_
    · obtain ⟨m, hm, hI'⟩ := y5; exact wpC_pure ⟨rfl, m, hm, g4, ρ4, κ4, kk, y2, ss, hI'⟩
    · exact wpC_pure ⟨g4, ρ4, κ4, .next, kk, y2, ss, trivial, y5⟩
    · obtain ⟨m, hm, hI'⟩ := y5; exact wpC_pure ⟨rfl, m, hm, g4, ρ4, κ4, kk, y2, ss, hI'⟩
    · exact wpC_pure ⟨g4, ρ4, κ4, .ret _, kk, y2, ss, y4, y5⟩
end
end Mine

/-! # CK -/
namespace Mine
open PySem PySem.W PyProof.Rows PySem.Calls
open Sem (wp)
set_option Elab.async false
set_option maxRecDepth 100000
set_option linter.unusedVariables false
/-! ## A def's call in the clean walk; cells -/
section
variable {prog : Program} {w : World} {A : Around} {s : Shared} {RR : Result → Shared → Prop}
theorem code_funC {body : List Stmt} {env : Env} (h : wpC (model prog w) (A.deeper env) (execs body env) (fun f s' => RR (.ok (.ret (match f with | .ret v => v | _ => .none))) s') NoE s) : codeC (model prog w) A (.func body env) RR s := by
  refine codeC_of_tree rfl ?_
  show wpC _ (A.deeper env) (do point; match ← (execs body env).onRaise (leaving env) with | .ret v => ret v | _ => ret .none) _ _ s
  refine wpC_step (wpAny_point (wpC_bind (wpC_onRaise (wpC_mono h (fun f s' h' => ?_) fun _ _ h' => h'.elim))))
  cases f <;> exact wpC_pure h'
theorem code_fnC {a : Addr} {args : Args} {o : Obj} {fd : FuncData} {body : List Stmt} (room : A.depth < recursionLimit) (ho : s.heap.get? a = some o) (hd : o.data = .func fd) (hco : fd.scope.isCoroutine = false) (hgen : fd.scope.isGenerator = false)
    (hbody : fd.body = .stmts body) (hcd : s.heap.CodeRec fd.code fd.qualname)
    (h : wpAny (model prog w) A.in1 (bindArgs fd args) (fun binds s₁ => wpAny (model prog w) A.in1 (newFunctionEnv fd.scope fd.globals fd.closure binds (fd.qualname ++ ".<locals>.") (some a) fd.code none fd.builtins)
      (fun env s₂ => s₂.heap.NoLimit ∧ codeC (model prog w) A (.func body env) RR s₂) (fun e s' => RR (.error e) s') s₁) (fun e s' => RR (.error e) s') s) :
    codeC (model prog w) A (.call (.ref a) args) RR s := by
  refine codeC_of_tree rfl ?_
  show wpC _ A.in1 (callAny (.ref a) args) _ _ s
  simp only [callAny]
  refine wpC_step (wpAny_load ho ?_)
  obtain ⟨c, oc, vs, tq, hc, hoc, hdc, hq⟩ := hcd
  simp only [hd, callFunction, hco, hgen, hbody, hc]
  rw [hc] at h
  refine wpC_step (m := field (.ref c) 1) (wpAny_field hoc hdc hq (wpC_step (wpAny_pure ?_)))
  exact wpC_step (wpAny_mono h (fun binds s₁ h₁ => wpC_step (wpAny_mono h₁ (fun env s₂ h₂ => wpC_step (wpAny_enterFrame h₂.1 room (wpC_pure ⟨rfl, h₂.2⟩))) fun _ _ q => q)) fun _ _ q => q)
end
noncomputable def CTc (w : World) (f : Value) (ps : List PV) (n : Nat) (Q : PV → Prop) : Prop := ∀ A fs g R s vs, A.frames = some fs → A.handled = none → Bud A n → Lv w fs g R s.heap → Reps g vs ps → s.gens = #[] →
  wpC (MM w) A (call f vs) (CPost w fs g R s Q) NoE s
theorem v_callC {c : Jx} {ρ : Rho} {κ : Kap} {f : Value} {ps : List PV} {n : Nat} {Q0 : PV → Prop} {Q : PV → Rho → Kap → Prop} (h : CTc c.w f ps n Q0) (hn : n ≤ c.n) (hQ : ∀ p, Q0 p → Q p ρ κ) : VLc c (callF f) ps ρ κ Q := fun A fs E g R s vs G S hg r => by
  obtain ⟨m, cs, S⟩ := S
  obtain ⟨lc, L, back⟩ := S.toCall
  refine wpC_mono (h A fs g _ s vs G.fr G.hd (bud_le hn G.bud) L r hg) (fun v s' p => ?_) fun _ _ e => e
  obtain ⟨g', q, k, L', st, rq, hq⟩ := p
  exact ⟨g', ρ, κ, q, k, ⟨m, cs, back g' _ k L' st.fr⟩, st.none_to, rq, hQ q hq⟩
theorem v_call1C {c : Jx} {ρ : Rho} {κ : Kap} {f : Value} {ps : List PV} {n : Nat} {p0 : PV} {Q : PV → Rho → Kap → Prop} (h : CTc c.w f ps n (fun p => p = p0)) (hn : n ≤ c.n) (hQ : Q p0 ρ κ) : VLc c (callF f) ps ρ κ Q := v_callC h hn fun p hp => hp ▸ hQ

/-- what a def's frame finds -/
theorem frame_in {w : World} {A : Around} {fs : List Env} {g h h₀ : Heap} {R : List (Addr × Obj)} {env : Env} {scope : Scope} {ns : List Str} {vs : List Value} {ps : List PV} {m : Str → Option Value} {n : Nat}
    (L : Lv w fs g R h) (hfr : A.frames = some fs) (hh : A.handled = none) (hb : Bud A (n + 1)) (hf : env.frame = some h.objs.size) (hsc : env.scope = scope) (hlo : env.locals = h.objs.size) (hgl : env.globals = mainGlobals) (hbl : env.builtins = builtinsNs)
    (hk : scope.kind = .function) (up : Sub h h₀) (hns : h₀.Ns h.objs.size m) : Good ⟨w, scope, n, true⟩ (A.deeper env) (env :: fs) env ∧ SatC w (env :: fs) env g R (fun _ => none) [] m [] h₀ := by
  have G : Good ⟨w, scope, n, true⟩ (A.deeper env) (env :: fs) env := ⟨hsc, hsc ▸ hk, hgl, hbl, Around.frames_deeper hfr, hh, ⟨by have := hb.1; show A.depth + 1 + 4 * n < 900; omega, by have := hb.2; show A.units + 3 + 16 * n < 9000; omega⟩, fun _ => ⟨fs, rfl, by rw [hlo]; exact hf⟩⟩
  have L' := L.frame hf (hsc ▸ hk) (Nat.le_refl _) up hns
  refine ⟨G, ⟨L', hlo ▸ hns, hlo ▸ L'.fr.2.1.elim fun L₁ q => ?_, fun c hc e => ?_, (fun x p e => nomatch e), .nil⟩⟩
  · obtain ⟨_, e1, e2, _⟩ := q; rw [hf] at e1; cases e1; exact e2
  · have := (L'.cell c hc).2.2
    rw [frs_cons hf, e, hlo] at this
    exact this (.head _)
theorem out_of {w : World} {fs : List Env} {g g0 : Heap} {R : List (Addr × Obj)} {s s1 : Shared} {env : Env} {L : Addr} {Q : PV → Prop} {v : Value} {p : PV} {ρ : Rho} {κ : Kap} {h' : Shared} (hf : env.frame = some L) (hlo : env.locals = L) (k0 : Sub g g0) (up : Sub s.heap s1.heap) (gg : s1.gens = s.gens) (os : s1.os = s.os)
    (S : Sat w (env :: fs) env g0 R ρ κ h'.heap) (st : Stp (env :: fs) (some env.locals) s1 h') (r : Rep g0 v p) (q : Q p) : CPost w fs g R s Q v h' := by
  obtain ⟨m', cs', S'⟩ := S
  have nf := S'.lv.nf
  exact ⟨g0, p, k0, (S'.lv.pop hf).dropL, ⟨.trans (.of_sub up) ((hlo ▸ st.fr).pop hf nf), st.gens.trans gg, st.os.trans os⟩, r, q⟩
theorem ct_bindC {w : World} {name qual : Str} {params : Arguments} {body : List Stmt} {scope : Scope} {dV pm : Value} {cd a : Addr} (ns : List Str) {ps qs : List PV} {n : Nat} {Q : PV → Prop}
    (hK : (KF pw w.params).lookup a = some ⟨.type "function", none, .func (fobj name qual params body scope dV pm cd), #[]⟩) (hcd : codeIn (KF pw w.params) (.ref cd) qual = true)
    (hbind : ∀ (s : Shared) (g : Heap) (as : List Value), Wd w s.heap → Sub g s.heap → Reps g as qs → ∃ vs, BindsTo s (fobj name qual params body scope dV pm cd) ⟨as, []⟩ (ns.zip vs) ∧ Reps g vs ps) (ok : fnOk scope ns = true)
    (hbody : CSc ⟨w, scope, n, true⟩ body (binds ns ps) [] (QB Q)) : CTc w (.ref a) qs (n + 1) Q := fun A fs g R s as hfr hh hb L hr hg => by
  obtain ⟨nd, hloc, hcell, hk, hco, hgen⟩ := fnOk_of ok
  obtain ⟨mg, mb, T⟩ := L.W.T
  obtain ⟨vs, hB, hr'⟩ := hbind s g as (L.W.keeps L.keep) L.keep hr
  refine wpC_call (code_fnC (fd := fobj name qual params body scope dV pm cd) (body := body) (by have := hb.1; unfold recursionLimit; omega) (L.keep _ _ (L.W.K _ _ hK)) rfl hco hgen rfl (codeRec_of (L.W.K.keeps L.keep) hcd) (hB _ _ _ _ ?_))
  refine wpAny_newFunctionEnv hcell (fun x hx => hloc x.1 (List.of_mem_zip hx).1) (fun h₀ hns hsb => ⟨(T.nolimit.keeps L.keep).fresh _ hsb, code_funC ?_⟩) hk
  have up : Sub s.heap h₀ := fun b o e => hsb.extBut b o (Nat.ne_of_lt (Heap.lt_size e)) (Heap.get?_push_of_some _ e)
  generalize hE : newEnv (fobj name qual params body scope dV pm cd).scope s.heap.objs.size (fobj name qual params body scope dV pm cd).globals (fobj name qual params body scope dV pm cd).closure ((fobj name qual params body scope dV pm cd).qualname ++ ".<locals>.") (some a) (fobj name qual params body scope dV pm cd).code none (fobj name qual params body scope dV pm cd).builtins = env
  have hf : env.frame = some s.heap.objs.size := by rw [← hE]; rfl
  have hsc : env.scope = scope := by rw [← hE]; rfl
  have hlo : env.locals = s.heap.objs.size := by rw [← hE]; rfl
  obtain ⟨G, S⟩ := frame_in (n := n) (vs := vs) (ns := ns) (ps := ps) L hfr hh hb hf hsc hlo (by rw [← hE]; rfl) (by rw [← hE]; rfl) hk up hns
  have S1 : Sat w (env :: fs) env g R (binds ns ps) [] h₀ := ⟨_, _, ⟨S.lv, S.ns, S.gl, S.cl, fun x p e => ⟨fun _ => ?_, fun k => ?_⟩, S.cells⟩⟩
  · refine wpC_mono (hbody (A.deeper env) (env :: fs) env g R { s with heap := h₀, toks := s.toks + (ns.zip vs).length } G S1 hg) (fun f s' p => ?_) fun _ _ e => e
    obtain ⟨g', ρ', κ', b, k, S', st, rf, q⟩ := p
    revert q
    refine rf_cases rf (fun q => ?_) (fun q => q.elim) (fun q => q.elim) fun v u rf q => ?_
    · exact out_of (s1 := { s with heap := h₀, toks := s.toks + (ns.zip vs).length }) (v := .none) (p := .none) hf hlo k up rfl rfl S' st .none q
    · exact out_of (s1 := { s with heap := h₀, toks := s.toks + (ns.zip vs).length }) hf hlo k up rfl rfl S' st rf q
  · obtain ⟨v, e1, e2⟩ := zip_lookup hr' e
    exact ⟨v, (lookup_rev_zip nd).trans e1, e2⟩
  · have := hloc x (zip_mem e)
    unfold Env.kindOf at k
    rw [hsc, this] at k
    rcases k with k | k <;> cases k
theorem ct_fnC {w : World} {st : Stmt} {name qual : Str} {dV pm : Value} {cd a : Addr} (ns : List Str) {ps : List PV} {n : Nat} {Q : PV → Prop}
    (hK : (KF pw w.params).lookup a = some (fn st name qual dV pm cd)) (hcd : codeIn (KF pw w.params) (.ref cd) qual = true)
    (hbind : ∀ vs : List Value, vs.length = ns.length → bindArgs (fobj name qual (fnP st) (fnB st) (fnS st) dV pm cd) ⟨vs, []⟩ = pure (ns.zip vs)) (ok : fnOk (fnS st) ns = true) (hlen : ns.length = ps.length)
    (hbody : CSc ⟨w, fnS st, n, true⟩ (fnB st) (binds ns ps) [] (QB Q)) : CTc w (.ref a) ps (n + 1) Q :=
  ct_bindC ns hK hcd (fun s g as _ _ r => ⟨as, .of_eq (hbind as (by rw [r.length, hlen])), r⟩) ok hbody
/-- everything that stands is let go of, the cells too -/
theorem SatC.freezeAll {w : World} {fs : List Env} {E : Env} {g h : Heap} {R : List (Addr × Obj)} {ρ : Rho} {κ : Kap} {m : Str → Option Value} {cs : List (Addr × Obj)} (S : SatC w fs E g R ρ κ m cs h) :
    ∃ g', SatC w fs E g' R ρ κ m cs h ∧ Sub g g' ∧ ∀ a o, h.get? a = some o → a ∉ dyn fs E.locals (cs ++ R) → g'.get? a = some o := by
  have q := S.next S.lv.keep (fun c hc => (S.lv.cell c hc).1) S.ns fun a ha => (funFrames_mem S.lv.fr ha).2
  exact ⟨_, q.1, q.2, fun a o e hn => hideAll_get _ e hn⟩
/-- two names, the second of them a cell's -/
theorem ct_cell2 {w : World} {st : Stmt} {name qual x y : Str} {dV pm : Value} {cd a : Addr} {p q : PV} {n : Nat} {Q : PV → Prop} {X : Addr → Prop}
    (hK : (KF pw w.params).lookup a = some (fn st name qual dV pm cd)) (hcd : codeIn (KF pw w.params) (.ref cd) qual = true)
    (hbind : ∀ v u : Value, bindArgs (fobj name qual (fnP st) (fnB st) (fnS st) dV pm cd) ⟨[v, u], []⟩ = pure [(x, v), (y, u)]) (hx : (fnS st).names.lookup x = some .local) (hy : (fnS st).names.lookup y = some .cell)
    (hcf : ∀ n, cellsFrom n (fnS st).names [] = [(y, n)]) (hk : (fnS st).kind = .function) (hco : (fnS st).isCoroutine = false) (hgen : (fnS st).isGenerator = false) (hxy : (y == x) = false)
    (hbody : CS ⟨w, fnS st, n, true⟩ (fnB st) (binds [x, y] [p, q]) [] (QB Q) noX) : CT w (.ref a) [p, q] (n + 1) Q X := fun A fs g R s as hfr hh hb L hr hg => by
  obtain ⟨mg, mb, T⟩ := L.W.T
  obtain ⟨v, u, rfl, rv, ru⟩ := hr.two_inv
  refine wpAny_call (codeAny_call_cells (fd := fobj name qual (fnP st) (fnB st) (fnS st) dV pm cd) (body := fnB st) (by have := hb.1; unfold recursionLimit; omega) (L.keep _ _ (L.W.K _ _ hK)) rfl (T.nolimit.keeps L.keep) (codeRec_of (L.W.K.keeps L.keep) hcd) rfl (hbind v u) rfl ?_ (fun s₁ xc => ?_) hco hgen hk)
  · intro z hz
    rcases List.mem_cons.mp hz with rfl | hz
    · exact .inl hx
    · rw [List.mem_singleton] at hz; subst hz
      refine .inr ⟨hy, ?_⟩
      show ((cellsFrom (s.heap.objs.size + 1) (fnS st).names []).lookup y).isSome = true
      rw [hcf]; simp
  · generalize hE : callEnvC (fobj name qual (fnP st) (fnB st) (fnS st) dV pm cd) s.heap.objs.size a = env at xc
    have hf : env.frame = some s.heap.objs.size := by rw [← hE]; rfl
    have hsc : env.scope = fnS st := by rw [← hE]; rfl
    have hlo : env.locals = s.heap.objs.size := by rw [← hE]; rfl
    have hce : env.cells = [(y, s.heap.objs.size + 1)] := by rw [← hE]; exact hcf _
    have kx : env.kindOf x = some .local := by unfold Env.kindOf; rw [hsc, hx]
    have ky : env.kindOf y = some .cell := by unfold Env.kindOf; rw [hsc, hy]
    have hm : bindL env.kindOf [(x, v), (y, u)] (fun _ => none) = fun z => if z = x then some v else none := by
      simp only [bindL, kx, ky, if_true]; rw [if_neg (by decide)]
    have hcm : bindC env.kindOf [(x, v), (y, u)] (fun _ => none) = fun z => if z = y then some u else none := by
      simp only [bindC, kx, ky, if_true]; rw [if_neg (by decide)]
    rw [hm, hcm] at xc
    obtain ⟨h₁, tk, rfl, up⟩ := xc.done
    have hns := xc.toInCall.ns
    rw [hlo] at hns
    obtain ⟨G, S⟩ := frame_in (n := n) (vs := []) (ns := []) (ps := []) L hfr hh hb hf hsc hlo (by rw [← hE]; rfl) (by rw [← hE]; rfl) hk up hns
    obtain ⟨oc, hoc, hdc⟩ := xc.cell y (s.heap.objs.size + 1) (by rw [hce]; simp)
    rw [if_pos rfl] at hdc
    obtain ⟨g1, S1, k1, fz⟩ := S.freezeAll
    have hcg : g1.get? (s.heap.objs.size + 1) = some oc := fz _ _ hoc fun hm => by
      unfold dyn at hm
      have old : ∀ {b : Addr} {o : Obj}, s.heap.get? b = some o → b ≠ s.heap.objs.size + 1 := fun e => Nat.ne_of_lt (Nat.lt_succ_of_lt (Heap.lt_size e))
      rcases List.mem_append.mp hm with z | z
      · rw [frs_cons hf] at z
        rcases List.mem_cons.mp z with z | z
        · exact absurd z (Nat.succ_ne_self _)
        · obtain ⟨o, e, _⟩ := (funFrames_mem L.fr z).2; exact old e rfl
      · rcases List.mem_cons.mp z with z | z
        · rw [hlo] at z; exact absurd z (Nat.succ_ne_self _)
        · obtain ⟨c, hc, e⟩ := List.mem_map.mp z
          exact old (L.cell c hc).1 e
    have S2 : Sat w (env :: fs) env g1 R (binds [x, y] [p, q]) [] h₁ := ⟨_, _, ⟨S1.lv, S1.ns, S1.gl, S1.cl, fun z pz e => ?_, S1.cells⟩⟩
    · refine wpAny_mono (hbody (A.deeper env) (env :: fs) env g1 R { s with heap := h₁, toks := tk } G S2 hg) (fun f s' pp => ?_) fun e s' pp => pp.no.elim
      obtain ⟨g', ρ', κ', b, k, S', st', rf, qq⟩ := pp
      revert qq
      refine rf_cases rf (fun qq => ?_) (fun qq => qq.elim) (fun qq => qq.elim) fun v u rf qq => ?_
      · exact out_of (s1 := { s with heap := h₁, toks := tk }) (v := .none) (p := .none) hf hlo (k1.trans k) up rfl rfl S' st' .none qq
      · exact out_of (s1 := { s with heap := h₁, toks := tk }) hf hlo (k1.trans k) up rfl rfl S' st' rf qq
    · unfold binds at e
      simp only [List.zip_cons_cons, List.lookup_cons] at e
      by_cases hzx : z = x
      · subst hzx
        simp at e
        subst e
        exact ⟨fun _ => ⟨v, if_pos rfl, rv.keeps k1⟩, fun k => by rw [kx] at k; rcases k with k | k <;> cases k⟩
      · have : (z == x) = false := by simpa using hzx
        rw [this] at e
        by_cases hzy : z = y
        · subst hzy
          simp at e
          subst e
          exact ⟨(fun k => by rw [ky] at k; cases k), fun _ => ⟨_, oc, u, by rw [hce]; simp, hcg, hdc, ru.keeps k1⟩⟩
        · have h2 : (z == y) = false := by simpa using hzy
          rw [h2] at e; simp at e
/-- statements beside a cell that is still empty -/
noncomputable def CSk (c : Jx) (y : Str) (sts : List Stmt) (ρ : Rho) (κ : Kap) (Q : PF → Rho → Kap → Prop) : Prop := ∀ A fs E g R s cc oc, Good c A fs E → E.cells.lookup y = some cc → oc.data = .cell none → Sat c.w fs E g ((cc, oc) :: R) ρ κ s.heap → s.gens = #[] →
  wpC (MM c.w) A (execs sts E) (Post c fs E g R s RF Q) NoE s
section
variable {c : Jx} {ρ : Rho} {κ : Kap}
theorem csk_cons {y : Str} {st : Stmt} {rest : List Stmt} {Q : PF → Rho → Kap → Prop} (h : C1 c st ρ κ (fun f ρ1 κ1 => f = .next ∧ CSk c y rest ρ1 κ1 Q) noX) : CSk c y (st :: rest) ρ κ Q := fun A fs E g R s cc oc G hc ho S hg => by
  rw [execs_cons]
  refine wpC_bind (wpC_of (noE_of (chain0 hg (h A fs E g _ s G S hg) fun fl s1 g1 ρ1 κ1 y _ k1 st1 S1 hg1 r1 q1 => ?_)))
  obtain ⟨rfl, q1⟩ := q1
  cases fl <;> first | exact r1.elim | exact liftC k1 st1 (q1 A fs E g1 R s1 cc oc G hc ho S1 hg1)
theorem csk_assign {y : Str} {p' pos : Pos} {e : Expr} {rest : List Stmt} {Q : PF → Rho → Kap → Prop} (hs : ∀ E, swapsWith e (some (.Name y p')) pos.line E = pure false) (hk : c.scope.names.lookup y = some .cell)
    (h : E1 c e ρ κ (fun p ρ1 κ1 => CSc c rest (upd ρ1 y p) κ1 Q) noX) : CSk c y (.Assign [.Name y p'] e pos :: rest) ρ κ Q := fun A fs E g R s cc oc G hc ho S hg => by
  rw [execs_cons, exec_Assign_Name E y p' e pos (hs E)]
  have ky : E.kindOf y = some .cell := by unfold Env.kindOf; rw [G.sc, hk]
  refine wpC_bind (wpC_standAt (wpC_step (noE_of (chain0 hg (h A fs E g _ s G S hg) fun v s1 g1 ρ1 κ1 p _ k1 st1 S1 hg1 r1 q1 => wpC_standAt (wpC_step ?_)))))
  obtain ⟨m, cs, S1⟩ := S1
  obtain ⟨a1, a2, a3, a4, a5⟩ := S1.headR
  have key : wpAny (MM c.w) A (storeName E y v) (fun _ s' => wpC (MM c.w) A (pure Flow.next) (fun f s'' => wpC (MM c.w) A (match f with | .next => execs rest E | f => pure f) (Post c fs E g R s RF Q) NoE s'') NoE s') NoE s1 := by
    refine wpAny_storeName_cell G.kd ky hc ⟨oc, a1, ho⟩ fun h' hcell hsb => wpC_pure ?_
    obtain ⟨o', e', d'⟩ := hcell
    have S2 := (S1.setR hsb e').dropR
    have hdyn : cc ∉ dyn fs E.locals (cs ++ R) := fun hm => by
      unfold dyn at hm
      rcases List.mem_append.mp hm with z | z
      · exact a3 z
      · rcases List.mem_cons.mp z with z | z
        · exact a4 z
        · obtain ⟨q, hq, z⟩ := List.mem_map.mp z; exact a5 q hq z
    obtain ⟨g2, S3, k2, fz⟩ := S2.freezeAll
    have hcg := fz _ _ e' hdyn
    have S4 : Sat c.w fs E g2 R (upd ρ1 y p) κ1 h' := ⟨m, cs, ⟨S3.lv, S3.ns, S3.gl, S3.cl, fun z pz ez => ?_, S3.cells⟩⟩
    · have stp : Stp fs (some E.locals) s { s1 with heap := h' } := st1.trans ⟨frKeep_but hsb a3, rfl, rfl⟩
      exact liftC (k1.trans k2) stp (q1 A fs E g2 R { s1 with heap := h' } G S4 hg1)
    · unfold upd at ez
      by_cases hz : z = y
      · subst hz
        rw [if_pos rfl] at ez
        cases ez
        exact ⟨(fun k => by rw [ky] at k; cases k), fun _ => ⟨cc, o', v, hc, hcg, d', r1.keeps k2⟩⟩
      · rw [if_neg hz] at ez
        exact S3.vars z pz ez
  intro Γ pp hΓ
  rw [Sem.wp_bindName]
  exact key Γ pp hΓ
end
/-- one name, and a cell that the body fills -/
theorem ct_cell1C {w : World} {st : Stmt} {name qual x y : Str} {dV pm : Value} {cd a : Addr} {p : PV} {n : Nat} {Q : PV → Prop}
    (hK : (KF pw w.params).lookup a = some (fn st name qual dV pm cd)) (hcd : codeIn (KF pw w.params) (.ref cd) qual = true)
    (hbind : ∀ v : Value, bindArgs (fobj name qual (fnP st) (fnB st) (fnS st) dV pm cd) ⟨[v], []⟩ = pure [(x, v)]) (hx : (fnS st).names.lookup x = some .local)
    (hcf : ∀ n, cellsFrom n (fnS st).names [] = [(y, n)]) (hk : (fnS st).kind = .function) (hco : (fnS st).isCoroutine = false) (hgen : (fnS st).isGenerator = false)
    (hbody : CSk ⟨w, fnS st, n, true⟩ y (fnB st) (binds [x] [p]) [] (QB Q)) : CTc w (.ref a) [p] (n + 1) Q := fun A fs g R s as hfr hh hb L hr hg => by
  obtain ⟨mg, mb, T⟩ := L.W.T
  obtain ⟨v, rfl, rv⟩ := hr.one_inv
  refine wpC_call (code_fnC (fd := fobj name qual (fnP st) (fnB st) (fnS st) dV pm cd) (body := fnB st) (by have := hb.1; unfold recursionLimit; omega) (L.keep _ _ (L.W.K _ _ hK)) rfl hco hgen rfl (codeRec_of (L.W.K.keeps L.keep) hcd) ?_)
  rw [hbind v]
  refine wpAny_pure (wpAny_newFunctionEnv_cells hk (fun z hz => ?_) fun env he s₁ xc => ?_)
  · rw [List.mem_singleton] at hz; subst hz; exact .inl hx
  · have hf : env.frame = some s.heap.objs.size := by rw [he]; rfl
    have hsc : env.scope = fnS st := by rw [he]; rfl
    have hlo : env.locals = s.heap.objs.size := by rw [he]; rfl
    have hce : env.cells = [(y, s.heap.objs.size + 1)] := by rw [he]; exact hcf _
    have kx : env.kindOf x = some .local := by unfold Env.kindOf; rw [hsc, hx]
    have hm : bindL env.kindOf [(x, v)] (fun _ => none) = fun z => if z = x then some v else none := by
      simp only [bindL, kx, if_true]
    have hcm : bindC env.kindOf [(x, v)] (fun _ => none) = fun z => none := by
      simp only [bindC, kx, if_true]
    rw [hm, hcm] at xc
    refine ⟨(T.nolimit.keeps L.keep).keeps xc.toInCall.keep, code_funC ?_⟩
    obtain ⟨h₁, tk, rfl, up⟩ := xc.done
    have hns := xc.toInCall.ns
    rw [hlo] at hns
    obtain ⟨oc, hoc, hdc⟩ := xc.cell y (s.heap.objs.size + 1) (by rw [hce]; simp)
    obtain ⟨G, S⟩ := frame_in (n := n) (vs := []) (ns := []) (ps := []) L hfr hh hb hf hsc hlo (by rw [he]; rfl) (by rw [he]; rfl) hk up hns
    have old : ∀ {b : Addr} {o : Obj}, s.heap.get? b = some o → b ≠ s.heap.objs.size + 1 := fun e => Nat.ne_of_lt (Nat.lt_succ_of_lt (Heap.lt_size e))
    have new : h₁.get? (s.heap.objs.size + 1) = some oc ∧ g.get? (s.heap.objs.size + 1) = none ∧ s.heap.objs.size + 1 ∉ frs (env :: fs) := by
      refine ⟨hoc, ?_, fun hm => ?_⟩
      · cases q : g.get? (s.heap.objs.size + 1) with
        | none => rfl
        | some o => exact absurd rfl (old (L.keep _ _ q))
      · rw [frs_cons hf] at hm
        rcases List.mem_cons.mp hm with z | z
        · exact absurd z (Nat.succ_ne_self _)
        · obtain ⟨o, e, _⟩ := (funFrames_mem L.fr z).2; exact old e rfl
    have hR : ∀ c ∈ R, c.1 ≠ s.heap.objs.size + 1 := fun c hc => old (L.cell c hc).1
    have S3 : SatC w (env :: fs) env g ((s.heap.objs.size + 1, oc) :: R) (binds [x] [p]) [] _ [] h₁ :=
      ⟨⟨S.lv.W, S.lv.keep, S.lv.fr, S.lv.nf, fun c hc => (List.mem_cons.mp hc).elim (fun e => e ▸ new) fun h => S.lv.cell c h, ?_⟩, S.ns, S.gl, fun c hc => ?_, fun z pz e => ?_, .nil⟩
    · refine wpC_mono (hbody (A.deeper env) (env :: fs) env g R { s with heap := h₁, toks := tk } _ oc G (by rw [hce]; simp) hdc ⟨_, _, S3⟩ hg) (fun f s' pp => ?_) fun e s' pp => pp
      obtain ⟨g', ρ', κ', b, k, S', st', rf, qq⟩ := pp
      revert qq
      refine rf_cases rf (fun qq => ?_) (fun qq => qq.elim) (fun qq => qq.elim) fun v u rf qq => ?_
      · exact out_of (s1 := { s with heap := h₁, toks := tk }) (v := .none) (p := .none) hf hlo k up rfl rfl S' st' .none qq
      · exact out_of (s1 := { s with heap := h₁, toks := tk }) hf hlo k up rfl rfl S' st' rf qq
    · show ((s.heap.objs.size + 1) :: R.map (·.1)).Nodup
      refine List.nodup_cons.mpr ⟨fun hm => ?_, S.lv.nd⟩
      obtain ⟨c, hc, e⟩ := List.mem_map.mp hm
      exact hR c hc e
    · rcases List.mem_cons.mp hc with rfl | hc
      · rw [hlo]; exact Nat.succ_ne_self _
      · exact S.cl c hc
    · unfold binds at e
      simp only [List.zip_cons_cons, List.lookup_cons] at e
      by_cases hzx : z = x
      · subst hzx
        simp at e
        subst e
        exact ⟨fun _ => ⟨v, if_pos rfl, rv⟩, fun k => by rw [kx] at k; rcases k with k | k <;> cases k⟩
      · have : (z == x) = false := by simpa using hzx
        rw [this] at e; simp at e
end Mine

/-! # BA -/
namespace Mine
open PySem PySem.W PyProof.Rows PySem.Calls
open Sem (wp)
set_option Elab.async false
set_option maxRecDepth 100000
set_option linter.unusedVariables false
/-! ## bytearray's items -/
namespace F
theorem slot_ba_get : Slot "bytearray" "__getitem__" "bytearray.__getitem__" :=
  .of (owner := "bytearray") (n := "__getitem__") (by rw [typeLookup_type, builtinLookup_eq_fast]; kernel_rfl) (by decide +kernel) (by decide +kernel) (by decide +kernel) (by first | exact .inl (by decide +kernel) | exact .inr (by decide +kernel)) (by rw [isSubtype_type]; kernel_rfl)
theorem entry_ba_get : entryFor table "bytearray.__getitem__" = some Builtin.«bytearray.__getitem__» := entryFor_of_tree (by kernel_rfl)
theorem args_ba_get (a b : Value) : argsOk "bytearray.__getitem__" ⟨[a, b], []⟩ := by
  unfold argsOk; rw [signature?_of (id := "bytearray.__getitem__") (n := ['_', '_', 'm', 'e', 't', 'i', 't', 'e', 'g', '_', '_']) (o := ['y', 'a', 'r', 'r', 'a', 'e', 't', 'y', 'b']) (by kernel_rfl) owner_ba]; kernel_rfl
theorem slot_ba_set : Slot "bytearray" "__setitem__" "bytearray.__setitem__" :=
  .of (owner := "bytearray") (n := "__setitem__") (by rw [typeLookup_type, builtinLookup_eq_fast]; kernel_rfl) (by decide +kernel) (by decide +kernel) (by decide +kernel) (by first | exact .inl (by decide +kernel) | exact .inr (by decide +kernel)) (by rw [isSubtype_type]; kernel_rfl)
theorem entry_ba_set : entryFor table "bytearray.__setitem__" = some Builtin.«bytearray.__setitem__» := entryFor_of_tree (by kernel_rfl)
theorem args_ba_set (a b c : Value) : argsOk "bytearray.__setitem__" ⟨[a, b, c], []⟩ := by
  unfold argsOk; rw [signature?_of (id := "bytearray.__setitem__") (n := ['_', '_', 'm', 'e', 't', 'i', 't', 'e', 's', '_', '_']) (o := ['y', 'a', 'r', 'r', 'a', 'e', 't', 'y', 'b']) (by kernel_rfl) owner_ba]; kernel_rfl
end F
section
variable {w : World} {A : Around} {EE : Value → Shared → Prop} {s : Shared} {a : Addr} {o : Obj} {b : Array UInt8} {n : Nat}
theorem ba_load {Q : Array UInt8 → Shared → Prop} (ho : s.heap.get? a = some o) (hd : o.data = .bytearray b n) (h : Q b s) : wpAny (MM w) A (Builtin.Bytes.payload (.ref a)) Q EE s := by
  unfold Builtin.Bytes.payload Builtin.Bytes.payload?
  refine wpAny_bind (wpAny_bind (wpAny_load ho ?_))
  rw [hd]
  exact wpAny_pure (wpAny_pure h)
theorem ba_sub {k : Int} {t : Tok} {Q : Option Int → Shared → Prop} (hf : Builtin.Bytes.fitsIndex k = true) (h : Q (some k) s) : wpAny (MM w) A (Builtin.Bytes.subscript? (.int k t)) Q EE s := by
  unfold Builtin.Bytes.subscript?
  refine wpAny_bind (wpAny_specialOf (T := "int") (typeIs_int s k t) int_index ?_)
  show wpAny _ _ (asIndex (.int k t) >>= _) _ _ s
  refine wpAny_bind (wpAny_of_eq (a := k) rfl ?_)
  rw [if_neg (by rw [hf]; decide)]
  exact wpAny_pure h
theorem ba_fits {k : Int} {m : Nat} (hz : m ≤ 16777216) (h0 : -(m : Int) ≤ k) (h1 : k < m) : Builtin.Bytes.fitsIndex k = true := by
  simp only [Builtin.Bytes.fitsIndex, Bool.and_eq_true, decide_eq_true_eq]; omega
theorem ba_get {k : Int} {t : Tok} {Q : Value → Shared → Prop} (ho : s.heap.get? a = some o) (hc : o.cls = .type "bytearray") (hd : o.data = .bytearray b n) (hz : b.size ≤ 16777216) (h0 : -(b.size : Int) ≤ k) (h1 : k < b.size)
    (h : ∀ u tk, Q (.int (b.toList.getD (idx b.size k) 0).toNat u) { s with toks := tk }) : wpAny (MM w) A (getItem (.ref a) (.int k t)) Q EE s := by
  have hT : s.TypeIs (.ref a) "bytearray" := ⟨o, ho, hc⟩
  unfold getItem
  try with_reducible refine wpAny_holding ?_
  first | refine wpAny_bind (wpAny_pure ?_) | skip
  refine wpAny_bind (wpAny_sequenceKey hT (by decide) ?_)
  refine wpAny_bind (wpAny_callSpecial?_slot (name := Str.ofString "__getitem__") hT F.slot_ba_get (wpAny_call_entry F.slot_ba_get hT F.entry_ba_get ?_ (F.args_ba_get _ _)))
  show wpAny _ _ (Builtin.Bytes.subscript? (.int k t) >>= _) _ _ s
  refine wpAny_bind (ba_sub (ba_fits hz h0 h1) ?_)
  dsimp only
  refine wpAny_bind (ba_load ho hd ?_)
  obtain ⟨e1, e2⟩ := idx_seq h0 h1
  rw [e1]
  have e3 : b[idx b.size k]? = some (b.toList.getD (idx b.size k) 0) := by
    rw [List.getD_eq_getElem?_getD, Array.getElem?_toList, Array.getElem?_eq_getElem e2]; rfl
  show wpAny _ _ (match b[idx b.size k]? with | some x => _ | none => _) _ _ s
  rw [e3]
  dsimp only
  exact wpAny_bind (wpAny_mkInt (wpAny_pure ⟨_, rfl, wpAny_pure (h _ _)⟩))
theorem ba_put {o : Obj} {f : Array UInt8 → Array UInt8} {Q : Unit → Shared → Prop} (ho : s.heap.get? a = some o) (hd : o.data = .bytearray b n) (hz : (f b).size ≤ sizeLine)
    (h : ∀ h' o', h'.get? a = some o' → o'.cls = o.cls → o'.data = .bytearray (f b) n → Heap.SameBut a s.heap h' → Q () { s with heap := h' }) : wpAny (MM w) A (Builtin.Bytes.write (.ref a) f) Q EE s := by
  obtain ⟨oc, od, dt, sl⟩ := o
  simp only at hd; subst hd
  unfold Builtin.Bytes.write updateBytearray
  refine wpAny_bind (wpAny_load ho ?_)
  show wpAny _ _ (update a (Obj.mapBytearray f) >>= fun _ => lookBehind a) _ _ _
  refine wpAny_bind (wpAny_update ho ?_)
  have e : (s.heap.update a (Obj.mapBytearray f)).get? a = some ⟨oc, od, .bytearray (f b) n, sl⟩ := Heap.get?_update_self (Obj.mapBytearray f) ho rfl
  refine wpAny_lookBehind e ?_ (h _ _ e rfl rfl (Heap.SameBut.update ..))
  show (if (f b).size > sizeLine then some "bytearray:memory" else none) = none
  rw [if_neg (by omega)]
theorem ba_set {k i : Int} {t u : Tok} {Q : Unit → Shared → Prop} (ho : s.heap.get? a = some o) (hc : o.cls = .type "bytearray") (hd : o.data = .bytearray b n) (hz : b.size ≤ 16777216) (h0 : -(b.size : Int) ≤ k) (h1 : k < b.size) (hi0 : 0 ≤ i) (hi : i < 256)
    (h : ∀ h' o', h'.get? a = some o' → o'.cls = o.cls → o'.data = .bytearray (b.setIfInBounds (idx b.size k) i.toNat.toUInt8) n → Heap.SameBut a s.heap h' → Q () { s with heap := h' }) : wpAny (MM w) A (setItem (.ref a) (.int k t) (.int i u)) Q EE s := by
  have hT : s.TypeIs (.ref a) "bytearray" := ⟨o, ho, hc⟩
  unfold setItem
  try with_reducible refine wpAny_holding ?_
  first | refine wpAny_bind (wpAny_pure ?_) | skip
  refine wpAny_bind (wpAny_sequenceKey hT (by decide) ?_)
  refine wpAny_bind (wpAny_callSpecial?_slot (name := Str.ofString "__setitem__") hT F.slot_ba_set (wpAny_call_entry F.slot_ba_set hT F.entry_ba_set ?_ (F.args_ba_set _ _ _)))
  show wpAny _ _ (Builtin.Bytes.subscript? (.int k t) >>= _) _ _ s
  refine wpAny_bind (ba_sub (ba_fits hz h0 h1) ?_)
  dsimp only
  unfold Builtin.Bytes.byteValue
  refine wpAny_bind (wpAny_bind (wpAny_of_eq (a := i) rfl ?_))
  rw [if_neg (by simp; omega)]
  refine wpAny_pure (wpAny_bind (ba_load ho hd ?_))
  obtain ⟨e1, e2⟩ := idx_seq h0 h1
  rw [e1]
  dsimp only
  refine wpAny_bind (ba_put ho hd (by rw [Array.size_setIfInBounds, sizeLine_eq]; exact hz) fun h' o' a1 a2 a3 a4 => ?_)
  exact wpAny_pure ⟨_, rfl, wpAny_pure (h h' o' a1 a2 a3 a4)⟩
theorem ba_slice {sl : Addr} {l u : Value} {lo hi : Option Int} {Q : Value → Shared → Prop} (ho : s.heap.get? a = some o) (hc : o.cls = .type "bytearray") (hd : o.data = .bytearray b n) (hz : b.size ≤ 16777216) (hs : s.heap.IsSliceOf sl l u .none) (pl : IsPart l lo) (pu : IsPart u hi)
    (h : ∀ tk, Q (.ref s.heap.objs.size) { s with heap := s.heap.push { cls := .type "bytearray", data := .bytearray (cut lo hi b.toList).toArray }, toks := tk }) : wpAny (MM w) A (getItem (.ref a) (.ref sl)) Q EE s := by
  have hT : s.TypeIs (.ref a) "bytearray" := ⟨o, ho, hc⟩
  unfold getItem
  try with_reducible refine wpAny_holding ?_
  first | refine wpAny_bind (wpAny_pure ?_) | skip
  refine wpAny_bind (wpAny_sequenceKey hT (by decide) ?_)
  refine wpAny_bind (wpAny_callSpecial?_slot (name := Str.ofString "__getitem__") hT F.slot_ba_get (wpAny_call_entry F.slot_ba_get hT F.entry_ba_get ?_ (F.args_ba_get _ _)))
  obtain ⟨os, hos, hcs, hds⟩ := hs
  have hTs : s.TypeIs (.ref sl) "slice" := ⟨os, hos, hcs⟩
  show wpAny _ _ (Builtin.Bytes.subscript? (.ref sl) >>= fun r => _) _ _ s
  refine wpAny_bind ?_
  unfold Builtin.Bytes.subscript?
  refine wpAny_bind (wpAny_specialOf hTs slice_no_index (wpAny_pure ?_))
  dsimp only
  refine wpAny_bind (wpAny_typeOf hTs ?_)
  rw [if_neg (by decide)]
  refine wpAny_bind ?_
  unfold Builtin.Bytes.sliceParts
  refine wpAny_bind (wpAny_field (x := .none) hos hds rfl ?_)
  kby_none
  refine wpAny_ite (KBy.ite_no (show ¬ ((Value.none == rawInt 0) = true) from Bool.false_ne_true) ?_)
  refine wpAny_bind (wpAny_field (x := l) hos hds rfl ?_)
  have e0 : ∀ x : Array UInt8, sliceIndices (rawPart lo) (rawPart hi) (rawPart none) b.size = pure (sliceBounds lo hi none b.size) := fun _ => sliceIndices_raw lo hi none b.size (fun e => nomatch e)
  have e1 : (KBy.picked b lo hi) = (cut lo hi b.toList).toArray := by
    rw [KBc.picked_eq]; unfold cut; rw [Array.length_toList]
  have e2 : (cut lo hi b.toList).toArray.size ≤ sizeLine := by
    have h1 := cut_length lo hi b.toList
    have h2 : b.toList.length = b.size := Array.length_toList
    show (cut lo hi b.toList).length ≤ sizeLine
    rw [sizeLine_eq]; omega
  cases pl <;> cases pu <;> (first
    | (kby_none; (refine wpAny_bind (wpAny_field (x := .none) hos hds rfl ?_)); kby_none)
    | (kby_none; (refine wpAny_bind (wpAny_field (x := .int _ _) hos hds rfl ?_)); kby_int)
    | (kby_int; (refine wpAny_bind (wpAny_field (x := .none) hos hds rfl ?_)); kby_none)
    | (kby_int; (refine wpAny_bind (wpAny_field (x := .int _ _) hos hds rfl ?_)); kby_int)) <;> refine wpAny_pure ?_
  all_goals
    dsimp only
    refine wpAny_bind (ba_load ho hd ?_)
    refine wpAny_bind (wpAny_of_eq (e0 b) ?_)
    show wpAny _ _ (Builtin.Bytes.newBytearray (KBy.picked b _ _) >>= _) _ _ s
    rw [e1]
    refine wpAny_bind ?_
    unfold Builtin.Bytes.newBytearray
    exact wpAny_newObj_type (wpAny_pure ⟨_, rfl, wpAny_pure (h _)⟩) e2
namespace F
theorem ba_no_bytes : typeLookup (.type "bytearray") "__bytes__" = pure none := by rw [typeLookup_type, builtinLookup_eq_fast]; kernel_rfl
theorem ba_no_index : typeLookup (.type "bytearray") "__index__" = pure none := by rw [typeLookup_type, builtinLookup_eq_fast]; kernel_rfl
theorem ba_buffer : typeLookup (.type "bytearray") "__buffer__" = pure (some (.builtin "bytearray.__buffer__")) := by rw [typeLookup_type, builtinLookup_eq_fast]; kernel_rfl
end F
theorem buffer_ba {id : String} {f : Bool} {Q : Option (Array UInt8) → Shared → Prop} (ho : s.heap.get? a = some o) (hc : o.cls = .type "bytearray") (hd : o.data = .bytearray b n) (h : Q (some b) s) : wpAny (MM w) A (Builtin.Bytes.buffer? id (.ref a) f) Q EE s := by
  have hT : s.TypeIs (.ref a) "bytearray" := ⟨o, ho, hc⟩
  unfold Builtin.Bytes.buffer?
  refine wpAny_bind (wpAny_specialOf hT F.ba_buffer ?_)
  dsimp only
  unfold Builtin.Bytes.slotIsOwn
  refine wpAny_bind (wpAny_bind (wpAny_specialOf hT F.ba_buffer ?_))
  dsimp only
  rw [if_neg (by decide +kernel)]
  rw [show String.dropRight "bytearray.__buffer__" (String.length "__buffer__" + 1) = "bytearray" by decide +kernel]
  refine wpAny_isInstance hT F.sub_ba_self ?_
  rw [if_neg (by decide)]
  refine wpAny_bind (wpAny_specialOf hT F.ba_buffer ?_)
  refine wpAny_bind (release_own hT ?_)
  rw [if_neg (by decide)]
  exact wpAny_bind (ba_load ho hd (wpAny_pure h))
theorem ba_bytes_new {Q : Value → Shared → Prop} (ho : s.heap.get? a = some o) (hc : o.cls = .type "bytearray") (hd : o.data = .bytearray b n) (hz : b.size ≤ sizeLine)
    (hQ : ∀ t k, Q (.bytes b t) { s with toks := k }) : codeAny (MM w) A (.call (.builtin "bytes.__new__") ⟨[.type "bytes", .ref a], []⟩) (wants Q EE) s := by
  have hT : s.TypeIs (.ref a) "bytearray" := ⟨o, ho, hc⟩
  refine codeAny_of_tree ?_
  show wpAny _ A.in1 (do checkBuiltinCall "bytes.__new__" ⟨[.type "bytes", .ref a], []⟩; again (.builtin "bytes.__new__" ⟨[.type "bytes", .ref a], []⟩)) _ _ s
  refine wpAny_bind (wpAny_of_eq (PySem.F.bm_newCall _) (wpAny_pure ⟨plainId_quiet PySem.F.bm_plain _, codeAny_builtin PySem.F.bm_entry ?_⟩))
  rw [Around.under_plainId PySem.F.bm_plain _]
  unfold Builtin.«bytes.__new__»
  refine wpAny_bind (wpAny_of_eq (a := true) rfl ?_)
  refine bm_if_false rfl ?_
  refine wpAny_bind (wpAny_of_eq PySem.F.bm_sub ?_)
  refine bm_if_false rfl ?_
  refine wpAny_bind (wpAny_of_eq (PySem.F.bm_bind _) ?_)
  refine wpAny_bind (wpAny_of_eq (a := ()) rfl ?_)
  refine wpAny_bind (wpAny_of_eq (a := ()) rfl ?_)
  refine bm_if_false rfl ?_
  refine wpAny_bind (wpAny_specialOf hT F.ba_no_bytes ?_)
  refine wpAny_bind (wpAny_bind ?_)
  show wpAny _ _ (load a >>= _) _ _ _
  refine wpAny_bind (wpAny_load ho ?_)
  rw [hd]
  refine wpAny_pure (wpAny_pure ?_)
  refine bm_if_false rfl ?_
  refine wpAny_bind (wpAny_specialOf hT F.ba_no_index ?_)
  refine bm_if_true rfl ?_
  first
    | show wpAny _ _ (Builtin.Bytes.buffer? "bytes.__new__" (.ref a) true >>= _) _ _ _
    | (refine wpAny_bind ?_; show wpAny _ _ (Builtin.Bytes.buffer? "bytes.__new__" (.ref a) true >>= _) _ _ _)
  refine wpAny_bind (buffer_ba ho hc hd ?_)
  dsimp only
  refine wpAny_bind (wpAny_rule ?_)
  refine wpAny_bind (wpAny_mkBytes ?_ hz)
  show wpAny _ _ (if (Value.type "bytes" == Value.type "bytes") = true then _ else _) _ _ _
  refine bm_if_true (by decide) ?_
  first
    | exact wpAny_pure (hQ _ _)
    | exact wpAny_bind (wpAny_pure (wpAny_pure (hQ _ _)))
    | exact wpAny_pure (wpAny_pure (hQ _ _))
theorem ba_bytes {Q : Value → Shared → Prop} (ho : s.heap.get? a = some o) (hc : o.cls = .type "bytearray") (hd : o.data = .bytearray b n) (hz : b.size ≤ sizeLine)
    (hQ : ∀ t k, Q (.bytes b t) { s with toks := k }) : wpAny (MM w) A (call (.type "bytes") [.ref a]) Q EE s := by
  refine callType_codes (Q₁ := fun obj s₁ => s₁.TypeIs obj "bytes" ∧ Q obj s₁) PySem.F.bm_called (PySem.F.bm_typeCall _) PySem.F.entry_object_init
    (ba_bytes_new ho hc hd hz fun t k => ⟨PySem.W.typeIs_bytes _ _ _, hQ t k⟩) fun obj s₁ h₁ => ?_
  exact ⟨h₁.1, PySem.F.args_object_init_2 obj _, object_init_meets PySem.F.bm_called.init.lookup PySem.F.bm_called.made (by decide) _ w A.in1 _ s₁ ⟨h₁.1, rfl, h₁.2⟩⟩
end
/-! ### the rules -/
section
variable {c : Jx} {ρ : Rho} {κ : Kap} {X X' : XP} {Q : PV → Rho → Kap → Prop}
theorem l_bytearrayC {b : Bs} (hz : b.length ≤ 16777216) (h : ∀ a, Q (.own a) ρ ((a, .ba b) :: κ)) : VLc c (callF (.type "bytearray")) [.bytes b] ρ κ Q := fun A fs E g R s vs G S hg r => by
  obtain ⟨_, rfl, r1⟩ := r.one_inv; (first | obtain ⟨_, rfl⟩ := r1.int_inv | obtain rfl := r1.nil_inv | obtain ⟨_, _, rfl, rfl⟩ := r1.bytes_inv | obtain rfl := r1.bool_inv | obtain rfl := r1.val_inv | obtain rfl := r1.own_inv | obtain ⟨_, rfl⟩ := r1.str_inv | cases r1)
  rename_i b t
  refine wpC_bytearray (by rw [sizeLine_eq]; simpa using hz) fun h' e k => ?_
  exact own_post (mv := .ba b.toList) (tk := s.toks) S k (size_none _) e ⟨rfl, _, rfl, rfl⟩ (h _)
theorem ba_inv {w : World} {fs : List Env} {E : Env} {g h : Heap} {R : List (Addr × Obj)} {m : Str → Option Value} {cs : List (Addr × Obj)} {a : Addr} {b : Bs} (S : SatC w fs E g R ρ κ m cs h) (hm : (a, MV.ba b) ∈ κ) :
    ∃ o x, h.get? a = some o ∧ o.cls = .type "bytearray" ∧ o.data = .bytearray x 0 ∧ x.toList = b := by
  obtain ⟨o, ho, hc, x, hd, e⟩ := S.cells.get hm
  exact ⟨o, x, (S.lv.cell _ (List.mem_append_left _ ho)).1, hc, hd, e⟩
theorem s_ba {v sl : Expr} {a : Addr} {b : Bs} {i : Int} (hm : (a, MV.ba b) ∈ κ) (hz : b.length ≤ 16777216) (h0 : -(b.length : Int) ≤ i) (h1 : i < b.length) (h : Q (.int (b.getD (idx b.length i) 0).toNat) ρ κ) : V2 c (subscriptTail v sl) (.own a) (.int i) ρ κ Q X := fun A fs E g R s x u G S hg r1 r2 => by
  (first | obtain ⟨_, rfl⟩ := r1.int_inv | obtain rfl := r1.nil_inv | obtain ⟨_, _, rfl, rfl⟩ := r1.bytes_inv | obtain rfl := r1.bool_inv | obtain rfl := r1.val_inv | obtain rfl := r1.own_inv | obtain ⟨_, rfl⟩ := r1.str_inv | cases r1); (first | obtain ⟨_, rfl⟩ := r2.int_inv | obtain rfl := r2.nil_inv | obtain ⟨_, _, rfl, rfl⟩ := r2.bytes_inv | obtain rfl := r2.bool_inv | obtain rfl := r2.val_inv | obtain rfl := r2.own_inv | obtain ⟨_, rfl⟩ := r2.str_inv | cases r2)
  have S' := S
  obtain ⟨m, cs, S⟩ := S
  obtain ⟨o, y, ho, hc, hd, e⟩ := ba_inv S hm
  subst e
  have e2 : y.toList.length = y.size := Array.length_toList
  rw [e2] at *
  exact sub_any ⟨o, ho, hc⟩ F.slot_ba_get.lookup (ba_get ho hc hd (by omega) h0 h1 fun u tk => post S' (.int _ _) h)
theorem s_ba_cut {v sl : Expr} {a : Addr} {b : Bs} {lo hi : Option Int} (hm : (a, MV.ba b) ∈ κ) (hz : b.length ≤ 16777216) (h : ∀ a', Q (.own a') ρ ((a', .ba (cut lo hi b)) :: κ)) : V2 c (subscriptTail v sl) (.own a) (.slc lo hi) ρ κ Q X := fun A fs E g R s x u G S hg r1 r2 => by
  (first | obtain ⟨_, rfl⟩ := r1.int_inv | obtain rfl := r1.nil_inv | obtain ⟨_, _, rfl, rfl⟩ := r1.bytes_inv | obtain rfl := r1.bool_inv | obtain rfl := r1.val_inv | obtain rfl := r1.own_inv | obtain ⟨_, rfl⟩ := r1.str_inv | cases r1)
  obtain ⟨_, _, _, rfl, hs, pl, pu⟩ := r2.slc_inv
  have S' := S
  obtain ⟨m, cs, S⟩ := S
  obtain ⟨o, y, ho, hc, hd, e⟩ := ba_inv S hm
  subst e
  have e2 : y.toList.length = y.size := Array.length_toList
  refine sub_any ⟨o, ho, hc⟩ F.slot_ba_get.lookup (ba_slice ho hc hd (by omega) (let ⟨o', e', r'⟩ := hs; ⟨o', S.lv.keep _ _ e', r'⟩) pl pu fun tk => ?_)
  exact own_post (mv := .ba (cut lo hi y.toList)) (tk := tk) S' push_sub (size_none _) (Heap.get?_push_size _ rfl) ⟨rfl, _, rfl, rfl⟩ (h _)
theorem l_bytes_ba {a : Addr} {b : Bs} (hm : (a, MV.ba b) ∈ κ) (hz : b.length ≤ 16777216) (h : Q (.bytes b) ρ κ) : VL c (callF (.type "bytes")) [.own a] ρ κ Q X := fun A fs E g R s vs G S hg r => by
  obtain ⟨_, rfl, r1⟩ := r.one_inv; (first | obtain ⟨_, rfl⟩ := r1.int_inv | obtain rfl := r1.nil_inv | obtain ⟨_, _, rfl, rfl⟩ := r1.bytes_inv | obtain rfl := r1.bool_inv | obtain rfl := r1.val_inv | obtain rfl := r1.own_inv | obtain ⟨_, rfl⟩ := r1.str_inv | cases r1)
  have S' := S
  obtain ⟨m, cs, S⟩ := S
  obtain ⟨o, y, ho, hc, hd, e⟩ := ba_inv S hm
  subst e
  have e2 : y.toList.length = y.size := Array.length_toList
  exact ba_bytes ho hc hd (by rw [sizeLine_eq]; omega) fun t k => post S' (.bytes y t) h
theorem l_bytes_ints {ns : List Int} (hr : ∀ n ∈ ns, 0 ≤ n ∧ n < 256) (hz : ns.length ≤ 16777216) (h : Q (.bytes (ns.map fun n => n.toNat.toUInt8)) ρ κ) : VL c (callF (.type "bytes")) [.lst (ns.map .int)] ρ κ Q X := fun A fs E g R s vs G S hg r => by
  have S' := S
  obtain ⟨m, cs, S⟩ := S
  obtain ⟨_, rfl, r1⟩ := r.one_inv
  generalize hl : ns.map PV.int = l at r1
  obtain ⟨a, o, vs, n, rfl, ho, hc, hd, hr'⟩ := r1.lst_inv
  subst hl
  have hi := reps_ints hr'
  have hlen : vs.toList.length = ns.length := by rw [hr'.length, List.length_map]
  refine call_bytes_ints (vs := vs.toList) (ns := ns) ⟨o, S.lv.keep _ _ ho, hc, n, by rw [hd]⟩ hi hr (by rw [hlen, sizeLine_eq]; exact hz) G.hd fun h' t k hk => ?_
  refine grow_post S' hk (fun g' _ _ => ?_) h
  have := Rep.bytes (g := g') (byteArr ns) t
  exact this
/-- octets[i] = v -/
theorem c_SetBa {x : Str} {px pos' pos : Pos} {i e : Expr} {a : Addr} {Q : PF → Rho → Kap → Prop} (hs : ∀ E, swapsWith e (some (.Subscript (.Name x px) i pos')) pos.line E = pure false)
    (h : E1 c e ρ κ (fun p ρ1 κ1 => E1 c (.Name x px) ρ1 κ1 (fun q ρ2 κ2 => E1 c i ρ2 κ2 (fun r ρ3 κ3 => ∃ v k a b κ', p = .int v ∧ q = .own a ∧ r = .int k ∧ κ3 = (a, .ba b) :: κ' ∧ b.length ≤ 16777216 ∧ -(b.length : Int) ≤ k ∧ k < b.length ∧ 0 ≤ v ∧ v < 256 ∧ Q .next ρ3 ((a, .ba (b.set (idx b.length k) v.toNat.toUInt8)) :: κ')) X) X) X) :
    C1 c (.Assign [.Subscript (.Name x px) i pos'] e pos) ρ κ Q X := fun A fs E g R s G S hg => by
  refine wpAny_Assign_Subscript (chain0 hg (h A fs E g R s G S hg) fun pv s1 g1 ρ1 κ1 p _ k1 st1 S1 hg1 r1 q1 => chain k1 st1 hg1 (q1 A fs E g1 R s1 G S1 hg1) fun qv s2 g2 ρ2 κ2 q k12 k2 st2 S2 hg2 r2 q2 => chain k2 st2 hg2 (q2 A fs E g2 R s2 G S2 hg2) fun rv s3 g3 ρ3 κ3 r k23 k3 st3 S3 hg3 r3 q3 => ?_) (hs E)
  obtain ⟨v, k, a, b, κ', rfl, rfl, rfl, rfl, hz, h0, h1, h2, h4, hq⟩ := q3
  (first | obtain ⟨_, rfl⟩ := r1.int_inv | obtain rfl := r1.nil_inv | obtain ⟨_, _, rfl, rfl⟩ := r1.bytes_inv | obtain rfl := r1.bool_inv | obtain rfl := r1.val_inv | obtain rfl := r1.own_inv | obtain ⟨_, rfl⟩ := r1.str_inv | cases r1); (first | obtain ⟨_, rfl⟩ := r2.int_inv | obtain rfl := r2.nil_inv | obtain ⟨_, _, rfl, rfl⟩ := r2.bytes_inv | obtain rfl := r2.bool_inv | obtain rfl := r2.val_inv | obtain rfl := r2.own_inv | obtain ⟨_, rfl⟩ := r2.str_inv | cases r2); (first | obtain ⟨_, rfl⟩ := r3.int_inv | obtain rfl := r3.nil_inv | obtain ⟨_, _, rfl, rfl⟩ := r3.bytes_inv | obtain rfl := r3.bool_inv | obtain rfl := r3.val_inv | obtain rfl := r3.own_inv | obtain ⟨_, rfl⟩ := r3.str_inv | cases r3)
  obtain ⟨m, cs, S3⟩ := S3
  obtain ⟨o, y, ho, hc, hd, e⟩ := ba_inv S3 (.head _)
  subst e
  have e2 : y.toList.length = y.size := Array.length_toList
  rw [e2] at h0 h1 hz hq
  obtain ⟨o1, cs', rfl, _, a1, a2, a3, a4, a5⟩ := S3.headC
  refine ba_set ho hc hd hz h0 h1 h2 h4 fun h' o' e' hc' hd' hsb => ?_
  have S4 := S3.setC (mv' := .ba (y.toList.set (idx y.size k) v.toNat.toUInt8)) hsb e' ⟨hc'.trans hc, _, hd', by rw [Array.toList_setIfInBounds]⟩
  exact ⟨g3, ρ3, _, .next, k3, ⟨m, _, S4⟩, st3.trans ⟨frKeep_but hsb a3, rfl, rfl⟩, trivial, hq⟩
end
end Mine

/-! # RV -/
namespace Mine
open PySem PySem.W PyProof.Rows PySem.Calls
open Sem (wp)
set_option Elab.async false
set_option maxRecDepth 100000
set_option linter.unusedVariables false
/-! ## list(reversed(x)); an expression whose value is let go of -/
namespace F
theorem lri_no_len : typeLookup (.type "list_reverseiterator") "__len__" = pure none := by rw [typeLookup_type, builtinLookup_eq_fast]; kernel_rfl
theorem lri_hint : typeLookup (.type "list_reverseiterator") "__length_hint__" = pure (some (.builtin "list_reverseiterator.__length_hint__")) := by rw [typeLookup_type, builtinLookup_eq_fast]; kernel_rfl
theorem sub_lri_self : isSubtype (.type "list_reverseiterator") (.type "list_reverseiterator") = pure true := by rw [isSubtype_type]; kernel_rfl
theorem split_hint : splitId "list_reverseiterator.__length_hint__" = some ("list_reverseiterator", "__length_hint__") := by decide +kernel
end F
section
variable {w : World} {A : Around} {EE : Value → Shared → Prop} {s : Shared}
theorem rev_hint {it : Addr} {Q : Bool → Shared → Prop} (hT : s.TypeIs (.ref it) "list_reverseiterator") (h : Q false s) : wpAny (MM w) A (Builtin.List.listLengthHint (.ref it)) Q EE s := by
  unfold Builtin.List.listLengthHint
  refine wpAny_bind (wpAny_specialOf hT F.lri_no_len ?_)
  dsimp only
  rw [if_neg (by decide), if_neg (by decide)]
  refine wpAny_bind (wpAny_specialOf hT F.lri_hint ?_)
  dsimp only
  rw [F.split_hint]
  dsimp only
  refine wpAny_bind (wpAny_isInstance hT F.sub_lri_self ?_)
  rw [if_neg (by decide), if_pos (by decide +kernel), if_neg (by decide +kernel)]
  exact wpAny_pure h
theorem rev_extend {R : Result → Shared → Prop} {it src : Addr} {items : Array Value} (hh : A.handled = none) (hit : s.heap.IsRevIter it src ((items.size : Int) - 1)) (hl : s.heap.IsList src items) (hne : src ≠ it) (hlen : items.size ≤ 16777216) (S : Addr) (c₀ : Nat) (hSit : S ≠ it) (hSsrc : S ≠ src)
    (hS : s.heap.get? S = some { cls := .type "list", data := .seq #[] c₀ })
    (hR : ∀ h' tk acc' c', (∀ b o, b ≠ S → b ≠ it → s.heap.get? b = some o → h'.get? b = some o) → h'.get? S = some { cls := .type "list", dict := none, data := .seq acc' c', slots := #[] } → acc'.toList = items.toList.reverse → R (.ok (.ret .none)) { s with heap := h', toks := tk }) :
    wpAny (MM w) A.in1 (Builtin.List.listExtendWith (.ref S) (.ref it) .none)
      (fun fin s' => match fin with | .done f => R (.ok f) s' | .again c' => c'.quiet = true ∧ codeAny (MM w) A c' R s') (fun e s' => R (.error e) s') s := by
  have W := (Walks.listRev (prog := pw) (w := w) (A := A.in1) hh it src hne items).toS
  have hT := hit.typeIs
  unfold Builtin.List.listExtendWith
  refine wpAny_bind (wpAny_typeOf hT ?_)
  have h1 : Builtin.List.listSameRef (.ref S) (.ref it) = false := by simp [Builtin.List.listSameRef, hSit]
  have h2 : (Value.type "list_reverseiterator" == Value.type "list") = false := by decide
  have h3 : (Value.type "list_reverseiterator" == Value.type "tuple") = false := by decide
  simp only [h1, h2, h3, Bool.or_false, Bool.false_eq_true, if_false]
  refine wpAny_bind (wpAny_pyIter_revIter hit ?_)
  refine wpAny_bind (wpAny_holding (rev_hint hT ?_))
  refine wpAny_ite_split (fun hb => ?_) (fun _ => ?_)
  · exact absurd hb (by decide +kernel)
  · refine wpAny_pure ⟨plainId_quiet PySem.F.plain_extend_loop _, ?_⟩
    refine codeAny_extend_loopS W (by rw [sizeLine_eq]; exact hlen) S (by simp [hSit, hSsrc]) .none items.size 0 _ #[] c₀ rfl (Nat.zero_le _) ⟨Nat.zero_le _, by simpa using hit, hl⟩ hS (ItemsOf.nil _) fun s' acc' c' hm hS' hacc => ?_
    rw [Moved.eq_with hm]
    refine hR s'.heap s'.toks acc' c' (fun b o hb hbi e => hm.heap b o (by simp [hb, hbi]) e) hS' ?_
    refine List.ext_getElem? fun j => ?_
    obtain ⟨hsz, hat⟩ := hacc
    rcases Nat.lt_or_ge j items.size with hj | hj
    · have e1 : acc'[j]? = some (acc'[j]'(by omega)) := Array.getElem?_eq_getElem (by omega)
      have e2 := hat j _ e1
      rw [Array.getElem?_toList, e1, List.getElem?_reverse (by simpa using hj), Array.length_toList, Array.getElem?_toList, e2]
    · rw [List.getElem?_eq_none (by simpa [hsz] using hj), List.getElem?_eq_none (by simpa using hj)]
theorem call_list_rev {it src : Addr} {items : Array Value} {Q : Value → Shared → Prop} (hh : A.handled = none) (hit : s.heap.IsRevIter it src ((items.size : Int) - 1)) (hl : s.heap.IsList src items) (hne : src ≠ it) (hlen : items.size ≤ 16777216)
    (hQ : ∀ h' tk acc' c', (∀ b o, b ≠ it → s.heap.get? b = some o → h'.get? b = some o) → h'.get? s.heap.objs.size = some { cls := .type "list", dict := none, data := .seq acc' c', slots := #[] } → acc'.toList = items.toList.reverse → Q (.ref s.heap.objs.size) { s with heap := h', toks := tk }) :
    wpAny (MM w) A (call (.type "list") [.ref it]) Q EE s := by
  refine callType_codes (Q₁ := fun obj s₁ => obj = .ref s.heap.objs.size ∧ s₁ = { s with heap := s.heap.push { cls := .type "list", data := .seq #[] } }) PySem.F.called_list (PySem.F.typeCall_list_1 _) PySem.F.entry_list_init
    (code_list_new _ ⟨rfl, rfl⟩) fun obj s₁ h₁ => ?_
  obtain ⟨rfl, rfl⟩ := h₁
  have up : ∀ b o, s.heap.get? b = some o → (s.heap.push { cls := .type "list", data := .seq #[] }).get? b = some o := fun b o e => Heap.get?_push_of_some _ e
  have hS : (s.heap.push { cls := .type "list", data := .seq #[] }).get? s.heap.objs.size = some { cls := .type "list", data := .seq #[] } := Heap.get?_push_size _ rfl
  have ne : ∀ {b : Addr} {o : Obj}, s.heap.get? b = some o → s.heap.objs.size ≠ b := fun e => Nat.ne_of_gt (Heap.lt_size e)
  have hit0 := hit
  have hl0 := hl
  obtain ⟨oi, hoi, _⟩ := hit
  obtain ⟨ol, hol, _⟩ := hl
  refine ⟨⟨_, hS, rfl⟩, PySem.F.args_list_init_2 _ _, ?_⟩
  show wpAny _ _ (do let old ← Builtin.List.listItems (.ref s.heap.objs.size); Builtin.List.listUpdate (.ref s.heap.objs.size) (fun _ => #[]); letGo old.toList.reverse; Builtin.List.listExtendWith (.ref s.heap.objs.size) (.ref it) .none) _ _ _
  refine wpAny_bind ?_
  unfold Builtin.List.listItems
  refine wpAny_bind (wpAny_seqItems hS rfl (wpAny_pure ?_))
  show wpAny _ _ (updateSeq s.heap.objs.size (fun _ => #[]) >>= fun _ => letGo (#[] : Array Value).toList.reverse >>= fun _ => Builtin.List.listExtendWith (.ref s.heap.objs.size) (.ref it) .none) _ _ _
  refine wpAny_bind (wpAny_updateSeq hS rfl ?_)
  have hS₂ := Heap.get?_update_self (Obj.mapSeq (fun _ => (#[] : Array Value))) hS rfl
  have oth : ∀ b o, b ≠ s.heap.objs.size → (s.heap.push { cls := .type "list", data := .seq #[] }).get? b = some o → ((s.heap.push { cls := .type "list", data := .seq #[] }).update s.heap.objs.size (Obj.mapSeq (fun _ => (#[] : Array Value)))).get? b = some o :=
    fun b o hb e => (Heap.get?_update_other _ _ (Ne.symm hb)).trans e
  refine wpAny_bind (wpAny_letGo ?_)
  refine rev_extend (A := A.in1) hh (hit0.at fun o e => oth _ _ (Ne.symm (ne hoi)) (up _ _ e)) ?_ hne hlen s.heap.objs.size _ (ne hoi) (ne hol) hS₂ fun h' tk acc' c' hk hS' hacc => ?_
  · obtain ⟨ol', hol', r⟩ := hl0
    exact ⟨ol', oth _ _ (Ne.symm (ne hol')) (up _ _ hol'), r⟩
  · exact ⟨rfl, hQ h' tk acc' c' (fun b o hb e => hk b o (Ne.symm (ne e)) hb (oth _ _ (Ne.symm (ne e)) (up _ _ e))) hS' hacc⟩
end
/-- a cell goes its own way, a new one comes -/
theorem SatC.leaveOwn {w : World} {fs : List Env} {E : Env} {g h h' : Heap} {R : List (Addr × Obj)} {ρ : Rho} {κ : Kap} {m : Str → Option Value} {cs : List (Addr × Obj)} {it a : Addr} {oi o : Obj} {mv : MV}
    (S : SatC w fs E g ((it, oi) :: R) ρ κ m cs h) (hs : Heap.ExtBut it h h') (ha : h.get? a = none) (e : h'.get? a = some o) (r : CellRep g mv o) : SatC w fs E g R ρ ((a, mv) :: κ) m ((a, o) :: cs) h' ∧ FrKeep fs (some E.locals) h h' := by
  obtain ⟨h1, h2, h3, h4, h5⟩ := S.headR
  have D := S.dropR
  have ne : ∀ {b : Addr} {x : Obj}, h.get? b = some x → b ≠ a := fun e q => by rw [q, ha] at e; cases e
  have gn : g.get? a = none := by
    cases q : g.get? a with
    | none => rfl
    | some x => exact absurd rfl (ne (S.lv.keep _ _ q))
  have nf : a ∉ frs fs := fun hm => by
    obtain ⟨x, e, _⟩ := (funFrames_mem S.lv.fr hm).2; exact ne e rfl
  refine ⟨⟨⟨D.lv.W, fun b x q => hs _ _ (fun z => by rw [z, h2] at q; cases q) (D.lv.keep b x q), funFrames_next D.lv.fr (fun b hb => (funFrames_mem D.lv.fr hb).1) (fun b hb => let ⟨x, e, z⟩ := (funFrames_mem D.lv.fr hb).2; ⟨x, hs _ _ (fun q => h3 (q ▸ hb)) e, z⟩), D.lv.nf, fun c hc => ?_, ?_⟩,
    D.ns.extBut hs (Ne.symm h4), D.gl, fun c hc => ?_, D.vars, .cons r D.cells⟩, fun b hb _ x e => ⟨x.slots, hs _ _ (fun y => h3 (y ▸ hb)) e⟩⟩
  · rcases List.mem_cons.mp hc with rfl | hc
    · exact ⟨e, gn, nf⟩
    · have := D.lv.cell c hc; exact ⟨hs _ _ (h5 c hc) this.1, this.2⟩
  · refine List.nodup_cons.mpr ⟨fun hm => ?_, D.lv.nd⟩
    obtain ⟨c, hc, e⟩ := List.mem_map.mp hm
    have h1 : c.1 = a := e
    exact ne (D.lv.cell c hc).1 h1
  · rcases List.mem_cons.mp hc with rfl | hc
    · obtain ⟨oL, _, _, e, _⟩ := D.ns; exact (ne e).symm
    · exact D.cl c hc
section
variable {c : Jx} {ρ : Rho} {κ : Kap} {X X' : XP} {Q : PV → Rho → Kap → Prop}
theorem e_ListRev {e : Expr} {p1 p2 p3 p4 : Pos} (hk1 : c.scope.names.lookup (S "list") = some .globalImplicit) (hk2 : c.scope.names.lookup (S "reversed") = some .globalImplicit)
    (he1 : ∀ E, starEach [.Call (.Name (S "reversed") p2) [e] [] p3] E = [(false, eval (.Call (.Name (S "reversed") p2) [e] [] p3) E)]) (he2 : ∀ E, starEach [e] E = [(false, eval e E)])
    (h : E1 c e ρ κ (fun p ρ1 κ1 => ∃ l, p = .lst l ∧ l.length ≤ 16777216 ∧ ∀ a, Q (.own a) ρ1 ((a, .lst l.reverse) :: κ1)) X) :
    E1 c (.Call (.Name (S "list") p1) [.Call (.Name (S "reversed") p2) [e] [] p3] [] p4) ρ κ Q X := fun A fs E g R s G S0 hg => by
  have KO : ∀ T, KeepOk c.w (.type T) := fun T => keep_machine rfl
  -- reversed(e)
  have inner : ∀ (s : Shared) (g : Heap), Sat c.w fs E g R ρ κ s.heap → s.gens = #[] → ∀ K : Value → Shared → Prop,
      (∀ s1 g1 ρ1 κ1 l src (x : Obj) vs n, Sub g g1 → Sat c.w fs E g1 R ρ1 κ1 s1.heap → Stp fs (some E.locals) s s1 → s1.gens = #[] → g1.get? src = some x → x.cls = .type "list" → x.data = .seq vs n → Reps g1 vs.toList l → l.length ≤ 16777216 → (∀ a, Q (.own a) ρ1 ((a, .lst l.reverse) :: κ1)) → K (.ref s1.heap.objs.size) { s1 with heap := s1.heap.push (revObj src ((vs.size : Int) - 1)) }) →
      wpAny (MM c.w) A (eval (.Call (.Name (S "reversed") p2) [e] [] p3) E) K (Exc c fs E g R s X) s := fun s g S hg K hK => by
    refine Call_Name rfl (chain0 hg ((e_bival (X := X) (Q := fun q ρ1 κ1 => q = .val (.type "reversed") ∧ ρ1 = ρ ∧ κ1 = κ) (n_reversed _) hk2 (by kernel_rfl) ⟨rfl, rfl, rfl⟩) A fs E g R s G S hg) fun v s1 g1 ρ1 κ1 q k1 k1' st1 S1 hg1 r1 q1 => ?_)
    obtain ⟨rfl, rfl, rfl⟩ := q1
    (first | obtain ⟨_, rfl⟩ := r1.int_inv | obtain rfl := r1.nil_inv | obtain ⟨_, _, rfl, rfl⟩ := r1.bytes_inv | obtain rfl := r1.bool_inv | obtain rfl := r1.val_inv | obtain rfl := r1.own_inv | obtain ⟨_, rfl⟩ := r1.str_inv | cases r1)
    rw [he2 E]
    refine callWith_of (P := fun h => (KF pw c.w.params).In h) rfl (KO "reversed") (evalArgs_of rfl ?_)
    have e0 : ([(false, eval e E)] : List (Bool × Sem Value)) = backTo p3 (starEach [e] E) := by rw [he2 E]; rfl
    show wpAny _ _ (spliced (backTo p3 [(false, eval e E)])) _ _ _
    rw [← he2 E]
    refine wpAny_items_cons (chain k1' st1 hg1 (h A fs E g1 R s1 G S1 hg1) fun v s2 g2 ρ2 κ2 p k2 k2' st2 S2 hg2 r2 q2 => ?_) (he2 E)
    obtain ⟨l, rfl, hz, hq⟩ := q2
    refine wpAny_items_nil ?_
    have S2' := S2
    obtain ⟨m, cs, S2⟩ := S2
    refine ⟨S2.lv.W.K.keeps S2.lv.keep, ?_⟩
    obtain ⟨a, o, vs, n, rfl, ho, hc, hd, hr⟩ := r2.lst_inv
    refine call_reversed_list (items := vs) ⟨o, S2.lv.keep _ _ ho, hc, n, hd⟩ ?_
    exact hK _ _ _ _ _ _ _ _ _ k2' S2' st2 hg2 ho hc hd hr hz hq
  refine Call_Name rfl (chain0 hg ((e_bival (X := X) (Q := fun q ρ1 κ1 => q = .val (.type "list") ∧ ρ1 = ρ ∧ κ1 = κ) (n_list _) hk1 (by kernel_rfl) ⟨rfl, rfl, rfl⟩) A fs E g R s G S0 hg) fun v s1 g1 ρ1 κ1 q k1 k1' st1 S1 hg1 r1 q1 => ?_)
  obtain ⟨rfl, rfl, rfl⟩ := q1
  (first | obtain ⟨_, rfl⟩ := r1.int_inv | obtain rfl := r1.nil_inv | obtain ⟨_, _, rfl, rfl⟩ := r1.bytes_inv | obtain rfl := r1.bool_inv | obtain rfl := r1.val_inv | obtain rfl := r1.own_inv | obtain ⟨_, rfl⟩ := r1.str_inv | cases r1)
  rw [he1 E]
  refine callWith_of (P := fun h => (KF pw c.w.params).In h) rfl (KO "list") (evalArgs_of rfl ?_)
  show wpAny _ _ (spliced (backTo p4 [(false, eval (.Call (.Name (S "reversed") p2) [e] [] p3) E)])) _ _ _
  rw [← he1 E]
  refine wpAny_items_cons (wpAny_mono (inner s1 g1 S1 hg1 _ fun s2 g2 ρ2 κ2 l src x vs n k2 S2 st2 hg2 ho hc hd hr hz hq => ?_) (fun _ _ q => q) fun _ _ q => q.up k1' st1) (he1 E)
  refine wpAny_items_nil ?_
  obtain ⟨m, cs, S2⟩ := S2
  have S3 := S2.pushR (o := revObj src ((vs.size : Int) - 1)) rfl
  refine ⟨S3.lv.W.K.keeps S3.lv.keep, ?_⟩
  have hlt : src < s2.heap.objs.size := Heap.lt_size (S2.lv.keep _ _ ho)
  have hit : (s2.heap.push (revObj src ((vs.size : Int) - 1))).IsRevIter s2.heap.objs.size src ((vs.size : Int) - 1) := ⟨_, Heap.get?_push_size _ rfl, rfl, rfl⟩
  have e1 : vs.size = l.length := by have := hr.length; simpa using this
  refine call_list_rev (s := { s2 with heap := s2.heap.push (revObj src ((vs.size : Int) - 1)) }) G.hd hit (items := vs) ⟨x, S3.lv.keep _ _ ho, hc, n, hd⟩ (Nat.ne_of_lt hlt) (by omega) fun h' tk acc' c' hk hS' hacc => ?_
  have rep : CellRep g2 (.lst l.reverse) ({ cls := .type "list", dict := none, data := .seq acc' c', slots := #[] } : Obj) := ⟨acc', c', rfl, by rw [hacc]; exact hr.reverse⟩
  obtain ⟨S4, fk⟩ := S3.leaveOwn (fun b o hb e => hk b o hb e) (size_none _) hS' rep
  exact ⟨g2, ρ2, _, .own _, k1'.trans k2, ⟨m, _, S4⟩, st1.trans (st2.trans ⟨.trans (.of_sub push_sub) fk, rfl, rfl⟩), .own _, hq _⟩
/-- an expression whose value is let go of -/
theorem c_ExprR {e : Expr} {pos : Pos} {Q : PF → Rho → Kap → Prop} (hi : ∀ E : Env, E.scope = c.scope → interactive E = false) (hs : ∀ E, swapsWith e none pos.line E = pure false)
    (h : E1 c e ρ κ (fun p ρ1 κ1 => False) X) : C1 c (.Expr e pos) ρ κ Q X := fun A fs E g R s G S hg =>
  wpAny_Expr (wpAny_mono (h A fs E g R s G S hg) (fun v s1 p => by
    obtain ⟨g1, ρ1, κ1, y, x1, x2, x3, x4, x5⟩ := p
    exact x5.elim) fun _ _ e => e) (hi E G.sc) (hs E)
end
end Mine

/-! # DF -/
namespace Mine
open PySem PySem.W PyProof.Rows PySem.Calls
set_option Elab.async false
set_option maxRecDepth 100000
set_option linter.unusedVariables false
theorem bind_succ {w : World} {s : Shared} (W : Wd w s.heap) (a b : Value) : BindsTo s (fobj (S "successor") (S "Name.successor") (fnP (subAt (stAt pw 16) 28)) (fnB (subAt (stAt pw 16) 28)) (fnS (subAt (stAt pw 16) 28)) (.ref 377) (.str (S "dns.name") 248) 383) ⟨[a, b], []⟩ ([S "self", S "origin", S "prefix_ok"].zip [a, b, .bool true]) :=
  BindsTo.of_defaults (T := 377) rfl (W.K _ _ (show (KF pw w.params).lookup 377 = some ⟨.type "tuple", none, .seq #[.bool true] 0, #[]⟩ by kernel_rfl)) rfl (by with_unfolding_all exact rfl) (by with_unfolding_all exact rfl)
theorem bind_pred {w : World} {s : Shared} (W : Wd w s.heap) (a b : Value) : BindsTo s (fobj (S "predecessor") (S "Name.predecessor") (fnP (subAt (stAt pw 16) 27)) (fnB (subAt (stAt pw 16) 27)) (fnS (subAt (stAt pw 16) 27)) (.ref 369) (.str (S "dns.name") 248) 375) ⟨[a, b], []⟩ ([S "self", S "origin", S "prefix_ok"].zip [a, b, .bool true]) :=
  BindsTo.of_defaults (T := 369) rfl (W.K _ _ (show (KF pw w.params).lookup 369 = some ⟨.type "tuple", none, .seq #[.bool true] 0, #[]⟩ by kernel_rfl)) rfl (by with_unfolding_all exact rfl) (by with_unfolding_all exact rfl)
theorem bind_succ3 {w : World} {s : Shared} (W : Wd w s.heap) (a b d : Value) : BindsTo s (fobj (S "successor") (S "Name.successor") (fnP (subAt (stAt pw 16) 28)) (fnB (subAt (stAt pw 16) 28)) (fnS (subAt (stAt pw 16) 28)) (.ref 377) (.str (S "dns.name") 248) 383) ⟨[a, b, d], []⟩ ([S "self", S "origin", S "prefix_ok"].zip [a, b, d]) :=
  BindsTo.of_defaults (T := 377) rfl (W.K _ _ (show (KF pw w.params).lookup 377 = some ⟨.type "tuple", none, .seq #[.bool true] 0, #[]⟩ by kernel_rfl)) rfl (by with_unfolding_all exact rfl) (by with_unfolding_all exact rfl)
theorem bind_pred3 {w : World} {s : Shared} (W : Wd w s.heap) (a b d : Value) : BindsTo s (fobj (S "predecessor") (S "Name.predecessor") (fnP (subAt (stAt pw 16) 27)) (fnB (subAt (stAt pw 16) 27)) (fnS (subAt (stAt pw 16) 27)) (.ref 369) (.str (S "dns.name") 248) 375) ⟨[a, b, d], []⟩ ([S "self", S "origin", S "prefix_ok"].zip [a, b, d]) :=
  BindsTo.of_defaults (T := 369) rfl (W.K _ _ (show (KF pw w.params).lookup 369 = some ⟨.type "tuple", none, .seq #[.bool true] 0, #[]⟩ by kernel_rfl)) rfl (by with_unfolding_all exact rfl) (by with_unfolding_all exact rfl)
end Mine

/-! # TopD -/
namespace Mine
open PySem PySem.W PyProof.Rows PySem.Calls
set_option Elab.async false
set_option maxRecDepth 100000
set_option linter.unusedVariables false
/-! ## The claim's caller: its stack holds one code, and that one holds no octets -/
theorem caller_clean : holds? (.builtin "claim.caller" {}) = false := by
  show (holdIds.contains "claim.caller" || Builtin.Bytes.decodersThatHold.contains "claim.caller") = false
  decide +kernel
/-- a tree run by the claim's caller ends as the walk says -/
theorem thread_C {prog : Program} {w : World} {t : Sem Fin} {s : Shared} {R : Result → Shared → Prop} (hreg : s.asleep)
    (h : wpC (model prog w) callerA t (fun fin s' => ∃ f, fin = .done f ∧ R (.ok f) s' ∧ leftWithCleanup s'.gens = false) (fun e s' => R (.error e) s' ∧ leftWithCleanup s'.gens = false) s) :
    ∃ n r s' s'', runN (denote table) prog w n s ⟨t, .builtin "claim.caller" {}, default, []⟩ = .halted (outcomeOf r) s' ∧
      schedN (denote table) prog w n (.single s ⟨t, .builtin "claim.caller" {}, default, []⟩) = .halted (outcomeOf r) s' ∧ s'.forget = s''.forget ∧ R r s'' := by
  have start := h ⟨.builtin "claim.caller" {}, none, none, [], none⟩ default caller_in caller_clean fun _ hx => nomatch hx
  obtain ⟨n, r, s₁, s₂, hs, hn, hfo, hR⟩ := wp_halts_full (M := model prog w) (R := R) hreg (Sem.wp_mono _ _ _ (fun fin p s' z => by obtain ⟨f, rfl, a, b⟩ := z; exact ⟨a, b⟩) (fun _ _ _ z => z) _ _ start)
  exact ⟨n, r, s₂, s₁, hn, hs, hfo, hR⟩
theorem from_C {c : ClaimW} {tree : List Value → Sem Fin} {w : World} {s : Shared} {free : Addr → Prop} {gens : Prop} {kept : Heap → Prop} (hz : s.asleep) (hgens : s.gens = #[])
    (spec : ∀ args, c.pre args = true → WData.layableAll args = true → ∀ ord : List DictEntry → List DictEntry, (∀ l, (ord l).Perm l) →
      ∃ vs s₁, layAllW c.records (classAt s.heap) w.params ord args s = some (vs, s₁) ∧
        wpC (model c.prog w) callerA (tree vs) (fun fin s' => ∃ f, fin = .done f ∧ c.Ends s args vs s₁ (.ok f) s' ∧ s'.os = s.os ∧ AllBare s'.gens ∧ kept s'.heap)
          (fun e s' => c.Ends s args vs s₁ (.error e) s' ∧ s'.os = s.os ∧ AllBare s'.gens ∧ kept s'.heap) s₁) :
    c.CallFrom (fun vs => ⟨tree vs, .builtin "claim.caller" {}, default, []⟩) w free gens kept s := fun args h1 h2 ord h3 => by
  obtain ⟨vs, s₁, hl, hc⟩ := spec args h1 h2 ord h3
  have rest := layAllW_rest _ _ _ hl
  obtain ⟨k, r, s', s'', e1, e2, e3, ends, hos, hk⟩ := thread_C (R := fun r s' => c.Ends s args vs s₁ r s' ∧ s'.os = s.os ∧ kept s'.heap) (Shared.asleep_of_life rest.2.2.2 hz)
    (wpC_mono hc (fun fin s' z => by obtain ⟨f, e, a, b, d, g⟩ := z; exact ⟨f, e, ⟨a, b, g⟩, leftWithCleanup_false_of_bare d⟩) fun e s' z => ⟨⟨z.1, z.2.1, z.2.2.2⟩, leftWithCleanup_false_of_bare z.2.2.1⟩)
  obtain ⟨eh, _, _, eo, _⟩ := Shared.forget_eq e3
  have ends := ends.congr eh
  rw [← eh] at hk
  rw [← eo] at hos
  have life : s'.heap.life = s.heap.life := (runN_life _ _ _ e1).trans rest.2.2.2
  refine ⟨vs, s₁, hl, k, _, s', e2, ?_, fun _ i x hx => ?_, hk, by rw [life], Shared.rest_eq hos⟩
  · rcases ends with ⟨v, rfl, d1, d2, d3, d4, d5⟩ | ⟨e, ob, cls, rfl, d1, d2, d3, d4, d5⟩
    · exact .inl ⟨v, rfl, d1, d2, d3, fun b o y _ => d4 b o y, d5⟩
    · exact .inr ⟨e, ob, cls, rfl, d1, d2, d3, d4, fun b o y _ => d5 b o y⟩
  · rw [hgens] at hx; simp at hx
open PySem.Challenge in
/-- the law's call, from the heap that the top leaves and the script laid on it -/
noncomputable def MainGoalC : Prop := ∀ (w : World) (s : Shared) (l : Addr) (vs : List Value) (ns : List Int), Wd w s.heap → s.gens = #[] → s.heap.IsList l vs.toArray → IntsAre vs ns → ns.length ≤ 63 →
  wpC (model pw_jf0016_01 w) callerA (PySem.call (.ref 551) [.ref l]) (fun v s' => v = .bool true ∧ (∀ b o, s.heap.get? b = some o → s'.heap.get? b = some o) ∧ s'.os = s.os ∧ s'.gens = #[]) (fun _ _ => False) s
open PySem.Challenge in
set_option maxHeartbeats 4000000 in
theorem walk_C (H : MainGoalC) : ∀ (w : World) (s₀ s₁ : Shared) (mg mb : Str → Option Value), Ground (vw pw_jf0016_01) loose rw_jf0016_01.row.toRowW.records (fun _ _ => True) w s₀ mg mb s₁.heap → (KF pw_jf0016_01 w.params).In s₁.heap → s₁.gens = #[] →
    ∀ (args : List WData) (vals : List Value) (as : List Addr), rw_jf0016_01.row.toRowW.claim.pre args = true → WData.layableAll args = true → ReadsAllW rw_jf0016_01.row.toRowW.records (classAt s₀.heap) s₁.heap vals args as → WellAll w.params s₁.heap vals args → (∀ a ∈ as, (a == sysModules) = false) →
      wpC (model pw_jf0016_01 w) callerA (PySem.call (.ref 551) vals) (fun v s' => GoodWG rw_jf0016_01.row.toRowW.claim (classAt s₀.heap) (ExcName.means s₀.heap) args s₁ (.ok (.ret v)) s')
        (fun e s' => GoodWG rw_jf0016_01.row.toRowW.claim (classAt s₀.heap) (ExcName.means s₀.heap) args s₁ (.error e) s') s₁ := by
  intro w s₀ s₁ mg mb G Y hg args vals as hpre hlay hrd hwl hlo
  have T := G.T
  clear G
  wrow_args hpre hlay hrd hwl hlo
  rename_i ns _ _ _ _ _ _ _ l vs _ hL _ _ _ hI _ hlen _
  refine wpC_mono (H w s₁ l vs ns ⟨Y, _, _, topRead_of T⟩ hg hL hI (by omega)) (fun v s' z => ?_) fun _ _ z => z.elim
  obtain ⟨rfl, k, os, gs⟩ := z
  refine ⟨.inl ⟨.bool true, .bool true, [], rfl, fun _ => rfl, .bool _, by wrow_post, fun _ => ⟨.nil, fun _ h => nomatch h⟩⟩, .of_keep k, os, ?_⟩
  rw [gs, ← hg]
  exact .of_eq hg
open PySem.Challenge in
theorem promised0 : rw_jf0016_01.row.toRowW.promised := by w_witness2
open PySem.Challenge in
set_option maxHeartbeats 4000000 in
theorem holds_mainC (H : MainGoalC) : rw_jf0016_01.Holds := by
  refine of_row fun said => ?_
  have hw := promised0
  have hch : chainsOk (vw pw_jf0016_01) = true := by decide +kernel
  have o1 : opensWell pw_jf0016_01 = true := by decide +kernel
  have k5 : frees rw_jf0016_01.row.toRowW = true := by decide +kernel
  obtain ⟨hsame, hu, ha, hap, hm⟩ := frees_parts k5
  have hX : ∀ s : Shared, XT s = true → (fun (_ : Str → Option Value) (h : Heap) => True ∧ RecFacts rw_jf0016_01.row.toRowW.records h) (s.heap.nsMap mainGlobals) s.heap := fun s e => ⟨trivial, recFacts_of e⟩
  refine ⟨said, hw, ⟨⟨rfl, rfl, rfl, rfl, rfl, by decide +kernel⟩, o1, by first | rfl | decide +kernel⟩, hw.witness, fun w => ⟨(left.behind (XP := fun mg h => True ∧ RecFacts rw_jf0016_01.row.toRowW.records h) hX hch w).1, fun s' hs' => ?_⟩⟩
  obtain ⟨s₀, hf, hg0, s, hT, hz, hgens, hg, G00, y⟩ := (left.behind (XP := fun mg h => True ∧ RecFacts rw_jf0016_01.row.toRowW.records h) hX hch w).2 s' hs'
  have G0 : Ground (vw pw_jf0016_01) loose [] (fun _ _ => True) w s (s.heap.nsMap mainGlobals) (s.heap.nsMap builtinsNs) s.heap := ⟨G00.T, G00.B, G00.D, G00.TE, G00.TD, G00.W, trivial, G00.cls, G00.has, G00.apart, G00.once, G00.K⟩
  have RF := G00.X.2
  have hgens : s.gens = #[] := Array.eq_empty_of_size_eq_zero (beq_iff_eq.mp hgens)
  refine ⟨s₀, hf, hg0, s, hT, fun n hn => ?_, RF.1, RF.2.1, ?_⟩
  · have hdef : defOf (vw pw_jf0016_01) rw_jf0016_01.row.name = some (⟨S "law", fnP (stAt pw_jf0016_01 43), fnB (stAt pw_jf0016_01 43), fnS (stAt pw_jf0016_01 43), ⟨402, 0, 445, 69⟩⟩, []) := by rfl
    have e : n = rw_jf0016_01.row.name := by split at hn <;> simp_all
    rw [e]
    exact pinned_of_view hg G0 hdef (by rfl) (by rfl)
  have G : Ground (vw pw_jf0016_01) loose rw_jf0016_01.row.toRowW.records (fun _ _ => True) w s _ _ s.heap := RF.ground G0
  refine from_C hz hgens fun args hpre hlay ord hord => ?_
  obtain ⟨⟨vs, s₁⟩, hlaid⟩ := Option.isSome_iff_exists.mp (layAllW_isSome (P := w.params) (ord := ord) G.has args rw_jf0016_01.row.toRowW.args s (pre_splitW hpre).1)
  have keeps := layAllW_keeps _ _ _ hlaid
  have rest := layAllW_rest _ _ _ hlaid
  obtain ⟨as, hrd, hin, hold⟩ := reads_layAllW hord _ _ _ hlaid hlay s₁.heap (fun _ _ e => e)
  have L : Laid rw_jf0016_01.row.toRowW.records w s s₁ args vs as := ⟨⟨ord, hord, hlaid⟩, hrd, hin, hold, keeps, rest.1.trans hgens, rest.2.2.1⟩
  have G₁ := G.keeps (fun _ _ _ _ _ => trivial) keeps
  have Y0 : (KF pw_jf0016_01 w.params).In s.heap := InK.of (K := KF pw_jf0016_01) (as := KA) (fun P => by kernel_rfl) w s y
  have Y : (KF pw_jf0016_01 w.params).In s₁.heap := Frag.In.keeps Y0 keeps
  have hK : nsIn (KF pw_jf0016_01 w.params) mainGlobals (S "law") = some (some (.ref 551)) := by kernel_rfl
  have hf : s.heap.nsMap mainGlobals rw_jf0016_01.row.name = some (.ref 551) := mg_of Y G₁.T.g hK
  have walk := walk_C H w s s₁ _ _ G₁ Y L.gens args vs as hpre hlay L.reads L.well (L.low G.low)
  have hi := ident_freeW (r := rw_jf0016_01.row.toRowW) hu ha hap
  refine ⟨vs, s₁, hlaid, wpC_step (wpAny_nsGet G₁.T.g ?_)⟩
  rw [hf]
  dsimp only
  refine wpC_bind (wpC_mono walk (fun v s' g => wpC_pure ?_) fun e s' g => ?_)
  · have z := g.laid (c := rw_jf0016_01.row.toRowW.claim) hsame rfl hi L
    exact ⟨_, rfl, z.1, z.2.1, z.2.2, fun q => nomatch q⟩
  · have z := g.laid (c := rw_jf0016_01.row.toRowW.claim) hsame rfl hi L
    exact ⟨z.1, z.2.1, z.2.2, fun q => nomatch q⟩
end Mine

/-! # the walk -/
namespace Mine
open PySem PySem.W PyProof.Rows PySem.Calls
set_option Elab.async false
set_option maxRecDepth 100000
set_option maxHeartbeats 4000000
set_option linter.unusedVariables false
/-- a statement, and what holds where it goes on -/
noncomputable def jR (J : Rho → Kap → Prop) (Q : PF → Rho → Kap → Prop) : PF → Rho → Kap → Prop := fun f ρ κ => match f with | .next => J ρ κ | f => Q f ρ κ
section
variable {c : Jx} {ρ : Rho} {κ : Kap} {J : Rho → Kap → Prop} {Q : PF → Rho → Kap → Prop}
theorem jR_next (h : J ρ κ) : jR J Q .next ρ κ := h
theorem jR_ret {p : PV} (h : Q (.ret p) ρ κ) : jR J Q (.ret p) ρ κ := h
theorem jR_cont (h : Q .cont ρ κ) : jR J Q .cont ρ κ := h
theorem cs_consJ {st : Stmt} {rest : List Stmt} (J : Rho → Kap → Prop) (h : C1c c st ρ κ (jR J Q)) (k : ∀ ρ κ, J ρ κ → CSc c rest ρ κ Q) : CSc c (st :: rest) ρ κ Q :=
  cs_consC fun A fs E g R s G S hg => wpC_mono (h A fs E g R s G S hg) (fun _ _ p => p.mono fun f ρ κ hj => by cases f <;> first | exact k _ _ hj | exact hj) fun _ _ p => p
end
-- a name's value by its literal
local macro_rules | `(tactic| walk_at "lk") => `(tactic| first
  | with_reducible exact upd_same _ _ _
  | with_reducible exact binds_same _ _ _ _
  | ((with_reducible refine upd_neb ?_ ?_); (focus kernel_rfl); walk_at "lk")
  | ((with_reducible refine binds_neb ?_ ?_); (focus kernel_rfl); walk_at "lk")
  | with_reducible assumption)
-- a built-in name
local macro_rules | `(tactic| walk_at "boot") => `(tactic| first
  | with_reducible exact n_len _
  | with_reducible exact n_list _
  | with_reducible exact n_bytes _
  | with_reducible exact n_range _
  | with_reducible exact n_min _
  | with_reducible exact n_tuple _
  | with_reducible exact n_bytearray _
  | with_reducible exact n_reversed _
  | with_reducible exact n_isinstance _
  | with_reducible exact n_abs _
  | with_reducible exact n_sum _
  | with_reducible exact n_max _)
-- a name of the text
local macro_rules | `(tactic| walk_at "glob") => `(tactic| first
  | with_reducible exact g_validatelabels _
  | with_reducible exact g_maybeconverttobinary _
  | with_reducible exact g_Name _
  | with_reducible exact g_root _
  | with_reducible exact g_empty _
  | with_reducible exact g_SUCCESSORPREFIX _
  | with_reducible exact g_NameRelation _
  | with_reducible exact g_NeedAbsoluteNameOrOrigin _
  | with_reducible exact g_NameTooLong _
  | with_reducible exact g_NeedSubdomainOfOrigin _
  | with_reducible exact g_wirelength _
  | with_reducible exact g_padtomaxname _
  | with_reducible exact g_padtomaxlabel _
  | with_reducible exact g_absolutepredecessor _
  | with_reducible exact g_absolutesuccessor _
  | with_reducible exact g_handlerelativityandcall _
  | with_reducible exact g_lawoctets _
  | with_reducible exact g_lawlabel _
  | with_reducible exact g_lawsize _
  | with_reducible exact g_lawname _
  | with_reducible exact g_lawless _
  | with_reducible exact g_lawunder _
  | with_reducible exact g_lawfits _
  | with_reducible exact g_lawnear _
  | with_reducible exact g_lawrefused _
  | with_reducible exact g_lawbetween _
  | with_reducible exact g_law _)
-- a number of NameRelation
local macro_rules | `(tactic| walk_at "rel") => `(tactic| first
  | with_reducible exact rel_none _
  | with_reducible exact rel_superdomain _
  | with_reducible exact rel_subdomain _
  | with_reducible exact rel_equal _
  | with_reducible exact rel_commonancestor _)
-- not interactive
local macro_rules | `(tactic| walk_at "inter") => `(tactic| exact fun E h => by unfold interactive; rw [h]; kernel_rfl)
-- a value of the text
local macro_rules | `(tactic| walk_at "gval") => `(tactic| first
  | with_reducible exact g_MINIMALOCTET _
  | with_reducible exact g_MINIMALOCTETVALUE _
  | with_reducible exact g_MAXIMALOCTET _
  | with_reducible exact g_MAXIMALOCTETVALUE _
  | with_reducible exact g_ATSIGNVALUE _
  | with_reducible exact g_LEFTSQUAREBRACKETVALUE _)
local macro_rules | `(tactic| walk_at "nmis") => `(tactic| first
  | with_reducible exact nm_root _
  | with_reducible exact nm_empty _
  | with_reducible exact nm_prefix _)
-- one step
local macro_rules | `(tactic| walk_at "w_top") => `(tactic| first
  | with_reducible refine seq_next ?_
  | with_reducible refine seq_ret ?_
  | with_reducible refine seq_cont ?_
  | with_reducible refine turn_next ?_
  | with_reducible refine turn_cont ?_
  | with_reducible refine turn_ret ?_
  | with_reducible refine qb_ret ?_
  | with_reducible refine qb_next ?_
  | with_reducible refine j_next ?_
  | with_reducible refine seqC_next ?_
  | with_reducible refine seqC_ret ?_
  | with_reducible refine seqC_cont ?_
  | with_reducible refine jR_next ?_
  | with_reducible refine jR_ret ?_
  | with_reducible refine jR_cont ?_)
local macro_rules | `(tactic| walk_at "w_CS") => `(tactic| first
  | with_reducible refine cs_cons ?_
  | with_reducible refine cs_nil ?_)
local macro_rules | `(tactic| walk_at "w_C1") => `(tactic| first
  | with_reducible refine c_Assign (by with_unfolding_all exact fun _ => rfl) (by kernel_rfl) ?_
  | with_reducible refine c_AugAssign (by kernel_rfl) (by walk_at "lk") ?_
  | with_reducible refine c_If ?_
  | with_reducible refine c_Return ?_
  | with_reducible refine c_Pass ?_
  | with_reducible refine c_Continue ?_
  | with_reducible refine c_Expr (by walk_at "inter") (by with_unfolding_all exact fun _ => rfl) ?_)
local macro_rules | `(tactic| walk_at "w_EX") => `(tactic| first
  | with_reducible refine e_BinOp ?_
  | with_reducible refine e_Compare (by kernel_rfl) ?_
  | with_reducible refine e_int ?_
  | with_reducible refine e_bytes ?_
  | with_reducible refine e_bool ?_
  | with_reducible refine e_str ?_
  | with_reducible refine e_rel (by with_unfolding_all exact fun _ => rfl) (by kernel_rfl) (by walk_at "rel") ?_
  | with_reducible refine e_Attr (by with_unfolding_all exact fun _ => rfl) ?_
  | with_reducible refine e_SubSlice ?_
  | with_reducible refine e_Subscript ?_
  | with_reducible refine e_UnaryOp ?_
  | with_reducible refine e_IfExp ?_
  | with_reducible refine e_And ?_
  | with_reducible refine e_Or ?_
  | with_reducible refine e_Tuple ?_)
local macro_rules | `(tactic| walk_at "w_B1") => `(tactic| first
  | with_reducible refine b_Compare (by kernel_rfl) ?_
  | with_reducible refine b_Not ?_
  | with_reducible refine b_BoolOp ?_
  | (with_reducible refine b_Name ?_)
  | (with_reducible refine b_Call ?_)
  | with_reducible refine b_Attr ?_)
local macro_rules | `(tactic| walk_at "w_AT") => `(tactic| first
  | with_reducible refine at_And ?_
  | with_reducible refine at_Or ?_
  | with_reducible refine at_nil ?_)
local macro_rules | `(tactic| walk_at "w_EN") => `(tactic| first
  | with_reducible refine e_local (by kernel_rfl) (by kernel_rfl) (by walk_at "lk") ?_
  | with_reducible refine e_gbytes (by walk_at "gval") (by kernel_rfl) (by kernel_rfl) ?_
  | with_reducible refine e_gint (by walk_at "gval") (by kernel_rfl) (by kernel_rfl) ?_
  | with_reducible refine e_gname (by walk_at "nmis") (by kernel_rfl) (by kernel_rfl) ?_
  | with_reducible refine e_gref (by walk_at "glob") (by kernel_rfl) (by kernel_rfl) ?_
  | with_reducible refine e_bival (by walk_at "boot") (by kernel_rfl) (by kernel_rfl) ?_)
local macro_rules | `(tactic| walk_at "w_EC") => `(tactic| first
  | with_reducible refine e_CallBi2 (by walk_at "boot") (by kernel_rfl) (by kernel_rfl) (by with_unfolding_all exact fun _ => rfl) ?_
  | with_reducible refine e_CallDef (by walk_at "glob") (by kernel_rfl) (by kernel_rfl) (by kernel_rfl) (by with_unfolding_all exact fun _ => rfl) ?_
  | with_reducible refine e_lower (by with_unfolding_all exact fun _ => rfl) ?_
  | with_reducible refine e_isAbs (by with_unfolding_all exact fun _ => rfl) ?_
  | with_reducible refine e_parent (by with_unfolding_all exact fun _ => rfl) ?_
  | with_reducible refine e_append (by with_unfolding_all exact fun _ => rfl) (by with_unfolding_all exact fun _ => rfl) ?_
  | with_reducible refine e_extend (by with_unfolding_all exact fun _ => rfl) (by with_unfolding_all exact fun _ => rfl) ?_
  | with_reducible refine e_fullcompare (by with_unfolding_all exact fun _ => rfl) (by with_unfolding_all exact fun _ => rfl) ?_
  | with_reducible refine e_isSub (by with_unfolding_all exact fun _ => rfl) (by with_unfolding_all exact fun _ => rfl) ?_
  | with_reducible refine e_concat (by with_unfolding_all exact fun _ => rfl) (by with_unfolding_all exact fun _ => rfl) ?_
  | with_reducible refine e_relativize (by with_unfolding_all exact fun _ => rfl) (by with_unfolding_all exact fun _ => rfl) ?_
  | with_reducible refine e_derelativize (by with_unfolding_all exact fun _ => rfl) (by with_unfolding_all exact fun _ => rfl) ?_
  | with_reducible refine e_predecessor (by with_unfolding_all exact fun _ => rfl) (by with_unfolding_all exact fun _ => rfl) ?_
  | with_reducible refine e_successor (by with_unfolding_all exact fun _ => rfl) (by with_unfolding_all exact fun _ => rfl) ?_)
local macro_rules | `(tactic| walk_at "w_EL") => `(tactic| first
  | with_reducible refine el_nil ?_
  | with_reducible refine el_cons (by with_unfolding_all exact fun _ => rfl) ?_)
local macro_rules | `(tactic| walk_at "w_V2") => `(tactic| first
  | with_reducible refine v_add ?_
  | with_reducible refine v_sub ?_
  | with_reducible refine v_iadd ?_
  | with_reducible refine v_isub ?_
  | with_reducible refine v_eq ?_
  | with_reducible refine v_ne ?_
  | with_reducible refine v_lt ?_
  | with_reducible refine v_le ?_
  | with_reducible refine v_gt ?_
  | with_reducible refine v_ge ?_
  | with_reducible refine v_beq ?_
  | with_reducible refine v_bne ?_
  | with_reducible refine v_blt ?_
  | with_reducible refine v_bgt ?_
  | with_reducible refine v_beql ?_
  | with_reducible refine v_bnel ?_
  | with_reducible refine v_seq ?_
  | with_reducible refine v_sne ?_
  | with_reducible refine v_bne_bool ?_)
local macro_rules | `(tactic| walk_at "w_V1") => `(tactic| first
  | with_reducible refine v_neg ?_
  | with_reducible refine a_labels ?_)
local macro_rules | `(tactic| walk_at "w_EP") => `(tactic| first
  | with_reducible refine ep_none ?_
  | with_reducible refine ep_some ?_)
local macro_rules | `(tactic| walk_at "w_VL") => `(tactic| first
  | with_reducible refine l_isi_bytes ?_
  | with_reducible refine l_isi_nm ?_
  | with_reducible refine l_min ?_
  | with_reducible refine l_max ?_
  | with_reducible refine l_abs ?_
  | with_reducible refine l_range2 ?_)
local macro_rules | `(tactic| walk_at "w_T1") => `(tactic| first
  | with_reducible refine t_bool ?_)
local macro_rules | `(tactic| walk_at "w1") => `(tactic| first
  | walk_at "w_top"
  | ((with_reducible show E1 _ (Expr.Name _ _) _ _ _ _); walk_at "w_EN")
  | ((with_reducible show E1 _ (Expr.Call _ _ _ _) _ _ _ _); walk_at "w_EC")
  | ((with_reducible show E1 _ _ _ _ _ _); walk_at "w_EX")
  | ((with_reducible show V2 _ _ _ _ _ _ _ _); walk_at "w_V2")
  | ((with_reducible show VL _ _ _ _ _ _ _); walk_at "w_VL")
  | ((with_reducible show V1 _ _ _ _ _ _ _); walk_at "w_V1")
  | ((with_reducible show CS _ _ _ _ _ _); walk_at "w_CS")
  | ((with_reducible show C1 _ _ _ _ _ _); walk_at "w_C1")
  | ((with_reducible show B1 _ _ _ _ _ _); walk_at "w_B1")
  | ((with_reducible show T1 _ _ _ _ _ _); walk_at "w_T1")
  | ((with_reducible show EL _ _ _ _ _ _ _); walk_at "w_EL")
  | ((with_reducible show EP _ _ _ _ _ _); walk_at "w_EP")
  | ((with_reducible show AT _ _ _ _ _ _ _); walk_at "w_AT"))
section F2
structure Szs (l : List Bs) : Prop where
  n : l.length ≤ 1000
  b : ∀ x ∈ l, x.length ≤ 1000
theorem Szs.z {l : List Bs} (h : Szs l) : l.length ≤ 16777216 := by have := h.n; omega
theorem iteT {c : Bool} {A B : Prop} (h : c = true) (a : A) : if c = true then A else B := by rw [if_pos h]; exact a
theorem iteF {c : Bool} {A B : Prop} (h : c = false) (b : B) : if c = true then A else B := by rw [h]; exact b
noncomputable def isAbs (l : List Bs) : Bool := l.getLast? == some []
theorem f_isAbs (w : World) (n : Nat) {l : List Bs} (hl : Szs l) : CT w (.ref 189) [.nm l] (n + 1) (fun p => p = .bool (isAbs l)) noC := by
  refine d_misabsolute ?_
  refine cs_cons ?_
  repeat walk_at "w1"
  refine l_len_tupb hl.z ?_
  repeat walk_at "w1"
  by_cases hne : l = []
  · subst hne
    refine iteF (by simp) ?_
    repeat walk_at "w1"
    rfl
  · have hp : 0 < l.length := List.length_pos_iff.mpr hne
    refine iteT (by simpa using hp) ?_
    repeat walk_at "w1"
    refine s_tupb hl.z (by omega) (by omega) ?_
    repeat walk_at "w1"
    show _ = _
    have e : idx l.length (-1) = l.length - 1 := by unfold idx; rw [if_pos (by omega)]; omega
    rw [e, isAbs, List.getLast?_eq_getElem?, List.getD_eq_getElem?_getD, List.getElem?_eq_getElem (by omega)]
    rfl
theorem f_len (w : World) (n : Nat) {l : List Bs} (hl : Szs l) : CT w (.ref 304) [.nm l] (n + 1) (fun p => p = .int l.length) noC := by
  refine d_mlen ?_
  refine cs_cons ?_
  repeat walk_at "w1"
  refine l_len_tupb hl.z ?_
  repeat walk_at "w1"
  rfl
theorem f_getitem (w : World) (n : Nat) {l : List Bs} (hl : Szs l) {i : Int} (h0 : -(l.length : Int) ≤ i) (h1 : i < l.length) : CT w (.ref 311) [.nm l, .int i] (n + 1) (fun p => p = .bytes (l.getD (idx l.length i) [])) noC := by
  refine d_mgetitem ?_
  refine cs_cons ?_
  repeat walk_at "w1"
  refine s_tupb hl.z h0 h1 ?_
  repeat walk_at "w1"
  rfl
theorem f_conv (w : World) (n : Nat) {b : Bs} : CT w (.ref 170) [.bytes b] (n + 1) (fun p => p = .bytes b) noC := by
  refine d_maybeconverttobinary ?_
  refine cs_cons ?_
  repeat walk_at "w1"
  refine iteT rfl ?_
  repeat walk_at "w1"
  rfl
noncomputable def wire (l : List Bs) : Int := (l.map fun b => (b.length : Int) + 1).sum
theorem wire_cons (b : Bs) (l : List Bs) : wire (b :: l) = (b.length : Int) + 1 + wire l := by simp [wire]
theorem wire_append (a b : List Bs) : wire (a ++ b) = wire a + wire b := by simp [wire]
/-- labels of a name -/
structure Labs (l : List Bs) : Prop where
  n : l.length ≤ 1000
  b : ∀ x ∈ l, x.length ≤ 63
  e : ∀ a c, l = a ++ [] :: c → c = []
theorem Labs.szs {l : List Bs} (h : Labs l) : Szs l := ⟨h.n, fun x hx => Nat.le_trans (h.b x hx) (by omega)⟩
theorem f_validate (w : World) (n : Nat) {l : List Bs} (hl : Labs l) : CT w (.ref 163) [.tup (l.map .bytes)] (n + 1) (fun p => p = .none ∧ wire l ≤ 255) (fun C => C = 106 ∧ 255 < wire l) := by
  refine d_validatelabels ?_
  refine cs_cons ?_
  repeat walk_at "w1"
  refine l_len_tupb hl.szs.z ?_
  repeat walk_at "w1"
  refine c_For (fun rest ρ κ => ∃ pre bs i, rest = bs.map PV.bytes ∧ l = pre ++ bs ∧ ρ (S "total") = some (.int (wire pre)) ∧ ρ (S "i") = some (.int i) ∧ ρ (S "j") = some (.int pre.length) ∧ ρ (S "l") = some (.int l.length) ∧ (i = -1 ∨ (i + 1 = l.length ∧ bs = []))) (fun _ _ => rfl) (by kernel_rfl) ?_ ?_ ?_
  · repeat walk_at "w1"
    exact ⟨_, it_tupb _ _, [], l, -1, rfl, rfl, (show _ = some (PV.int 0) by walk_at "lk"), by walk_at "lk", (show _ = some (PV.int 0) by walk_at "lk"), by walk_at "lk", .inl rfl⟩
  · rintro p rest ρ κ ⟨pre, bs, i, e, hpre, ht, hi, hj, hll, hor⟩
    cases bs with
    | nil => cases e
    | cons b bs =>
      obtain ⟨rfl, rfl⟩ := List.cons.inj e
      have hb : b.length ≤ 63 := hl.b b (by rw [hpre]; simp)
      have hi1 : i = -1 := by rcases hor with h | ⟨_, h⟩ <;> first | exact h | cases h
      subst hi1
      have hw : wire pre + ((b.length : Int) + 1) = wire (pre ++ [b]) := by rw [wire_append]; simp [wire]
      refine cs_cons ?_
      repeat walk_at "w1"
      refine l_len_b (by omega) ?_
      repeat walk_at "w1"
      refine iteF (by simp; omega) ?_
      repeat walk_at "w1"
      refine iteT (by decide) ?_
      repeat walk_at "w1"
      by_cases hbe : b = []
      · subst hbe
        have hbs : bs = [] := hl.e pre bs hpre
        subst hbs
        refine iteT (by rfl) ?_
        repeat walk_at "w1"
        refine iteT (by rfl) ?_
        repeat walk_at "w1"
        exact ⟨pre ++ [[]], [], pre.length, rfl, by simpa using hpre, by rw [← hw]; walk_at "lk", by walk_at "lk", (by rw [show (((pre ++ [([] : Bs)]).length : Nat) : Int) = pre.length + 1 by simp]; walk_at "lk"), by walk_at "lk", .inr ⟨by rw [hpre]; simp, rfl⟩⟩
      · refine iteF (by simpa using hbe) ?_
        repeat walk_at "w1"
        refine iteF (by simp) ?_
        repeat walk_at "w1"
        exact ⟨pre ++ [b], bs, -1, rfl, by simpa using hpre, by rw [← hw]; walk_at "lk", by walk_at "lk", (by rw [show (((pre ++ [b]).length : Nat) : Int) = pre.length + 1 by simp]; walk_at "lk"), by walk_at "lk", .inl rfl⟩
  · rintro ρ κ ⟨pre, bs, i, e, hpre, ht, hi, hj, hll, hor⟩
    have : bs = [] := by cases bs <;> first | rfl | cases e
    subst this
    rw [List.append_nil] at hpre
    subst hpre
    repeat walk_at "w1"
    by_cases hw : 255 < wire l
    · refine iteT (by simpa using hw) ?_
      refine cs_cons ?_
      exact c_Raise (x_tooLong _) (by kernel_rfl) (by kernel_rfl) rfl ⟨rfl, hw⟩
    · refine iteF (by simpa using hw) ?_
      repeat walk_at "w1"
      rcases (show i = -1 ∨ (0 ≤ i ∧ i + 1 = l.length) by rcases hor with h | ⟨h, _⟩ <;> omega) with rfl | ⟨hi0, hi2⟩
      · refine iteF (by decide) ?_
        refine iteF (by decide) ?_
        repeat walk_at "w1"
        show PV.none = PV.none ∧ wire l ≤ 255
        exact ⟨rfl, by omega⟩
      · refine iteT (by simp; omega) ?_
        repeat walk_at "w1"
        refine iteF (by simp; omega) ?_
        refine iteF (by decide) ?_
        repeat walk_at "w1"
        show PV.none = PV.none ∧ wire l ≤ 255
        exact ⟨rfl, by omega⟩
end F2

section F3
theorem it2_tup (w : World) (l : List PV) : IT2 w (.tup l) l := fun A EE g s v Q k r h => by
  obtain ⟨a, o, vs, n, rfl, ho, hc, hd, hr⟩ := r.tup_inv
  refine wpAny_pyIter_tuple ⟨o, k _ _ ho, hc, n, hd⟩ (h _ (fun i o => o.cls = .type "tuple_iterator" ∧ o.data = .fields #[.ref a, .int i 0]) ⟨fun i p e A Q EE s' oi k' hi hK hq => ?_, fun A Q EE s' oi k' hi hK hh hq => ?_⟩ (fun A Q EE s' oi i k' hi hK hq => ?_) ⟨rfl, rfl⟩ rfl)
  · obtain ⟨u, hu, ru⟩ := reps_at hr e
    refine wpAny_pyNext_tuple_item ⟨oi, hi, hK.1, hK.2⟩ ⟨o, k' _ _ ho, hc, n, hd⟩ hu fun h' ⟨o', e1, e2, e3⟩ hs => hq h' s'.toks u o' ru hs e1 ⟨e2, e3⟩
  · exact wpAny_pyNext_tuple_end hh ⟨oi, hi, hK.1, hK.2⟩ ⟨o, k' _ _ ho, hc, n, hd⟩ (reps_end hr) hq
  · exact wpAny_pyIter_tupleiter (t := a) (i := i) ⟨oi, hi, hK.1, hK.2⟩ hq
theorem f_NameQ (w : World) (n : Nat) {l : List Bs} {q : PV} (hit : IT2 w q (l.map .bytes)) (hl : Labs l) : CT w (.ref 387) [q] (n + 4) (fun p => p = .nm l ∧ wire l ≤ 255) (fun C => C = 106 ∧ 255 < wire l) := by
  refine ct_Name (n := n + 2) (fun x dx => ?_)
  refine cs_cons ?_
  refine c_AComp (cap := fun _ => none) some (cap_none fun _ => rfl) rfl (by kernel_rfl) (fun _ _ => rfl) (fun E hE => by unfold swapsWith Env.blockKind Env.kindOf; simp only [hE]; kernel_rfl) (by kernel_rfl) ?_
  repeat walk_at "w1"
  refine ⟨_, hit, by rw [List.length_map]; exact hl.szs.z, ?_, ?_⟩
  · intro q hq
    obtain ⟨b, hb, rfl⟩ := List.mem_map.mp hq
    refine te_nil fun κ => ?_
    repeat walk_at "w1"
    exact v_call1 (P := True) (f_conv w n) (Nat.le_add_right (n + 1) 1) ⟨rfl, rfl, rfl⟩
  · rw [List.filterMap_some]
    repeat walk_at "w1"
    refine c_SetLabels (fun _ => rfl) (by kernel_rfl) ?_
    repeat walk_at "w1"
    refine l_tuple_lst (by rw [List.length_map]; exact hl.szs.z) ?_
    refine ⟨x, dx, [], by walk_at "lk", rfl, ?_⟩
    repeat walk_at "w1"
    refine a_labels_own ?_
    repeat walk_at "w1"
    refine v_call (f_validate w n hl) (Nat.le_add_right (n + 1) 1) (fun p hp => ⟨hp.1, ?_⟩) fun C hC => hC
    exact cs_nil ⟨rfl, rfl, hp.2⟩
theorem f_Name (w : World) (n : Nat) {l : List Bs} (hl : Labs l) : CT w (.ref 387) [.lst (l.map .bytes)] (n + 4) (fun p => p = .nm l ∧ wire l ≤ 255) (fun C => C = 106 ∧ 255 < wire l) := f_NameQ w n (it2_list _ _) hl
theorem f_NameT (w : World) (n : Nat) {l : List Bs} (hl : Labs l) : CT w (.ref 387) [.tup (l.map .bytes)] (n + 4) (fun p => p = .nm l ∧ wire l ≤ 255) (fun C => C = 106 ∧ 255 < wire l) := f_NameQ w n (it2_tup _ _) hl
end F3

section F4
/-- labels without capitals -/
structure Nam (l : List Bs) : Prop extends Labs l where
  caps : ∀ x ∈ l, x.map low = x
theorem diff_ne {a b : List Bs} {k : Nat} (ha : k < a.length) (hb : k < b.length) (hd : a.getD (a.length - k - 1) [] ≠ b.getD (b.length - k - 1) []) : a ≠ b ∧ ¬ b <:+ a := by
  have key : ¬ b <:+ a := fun ⟨t, e⟩ => hd (by
    subst e
    rw [List.getD_eq_getElem?_getD, List.getD_eq_getElem?_getD, List.getElem?_append_right (by rw [List.length_append]; omega)]
    congr 2
    rw [List.length_append]; omega)
  exact ⟨fun e => key (e ▸ List.suffix_refl _), key⟩
theorem drop_step {a b : List Bs} {k : Nat} (ha : k < a.length) (hb : k < b.length) (h : a.drop (a.length - k) = b.drop (b.length - k)) (hd : a.getD (a.length - k - 1) [] = b.getD (b.length - k - 1) []) : a.drop (a.length - (k + 1)) = b.drop (b.length - (k + 1)) := by
  have e : ∀ {x : List Bs}, k < x.length → x.drop (x.length - (k + 1)) = x.getD (x.length - k - 1) [] :: x.drop (x.length - k) := fun {x} hx => by
    have h1 : x.length - (k + 1) < x.length := by omega
    rw [List.drop_eq_getElem_cons h1, List.getD_eq_getElem?_getD, List.getElem?_eq_getElem (by omega)]
    simp only [Option.getD_some]
    congr 1
    congr 1; omega
  rw [e ha, e hb, h, hd]
theorem bord_eq {a b : Bs} (h1 : (bord a b == .lt) = false) (h2 : (bord a b == .gt) = false) : a = b := by
  have := order_eq a b
  have h3 : (Builtin.Bytes.order a b == .eq) = true := by
    cases h : Builtin.Bytes.order a b <;> simp_all
  rw [h3] at this
  simpa using this.symm
theorem bord_ne {a b : Bs} (h : (bord a b == .lt) = true ∨ (bord a b == .gt) = true) : a ≠ b := fun e => by
  have := order_eq a b
  rw [e] at this h
  have h3 : (b == b) = true := by simp
  rw [h3] at this
  have h4 : Builtin.Bytes.order b b = .eq := by simpa using this
  rcases h with h | h <;> (have h5 := eq_of_beq h; rw [show bord b b = Builtin.Bytes.order b b from rfl, h4] at h5; cases h5)
noncomputable def FcQ (a b : List Bs) (p : PV) : Prop := ∃ r o k : Int, p = .tup [.int r, .int o, .int k] ∧ (o = 0 ↔ a = b) ∧ (isAbs a = true → isAbs b = true → ((r = 2 ∨ r = 3) ↔ b <:+ a))
theorem low_getD {a : List Bs} (h : Nam a) {j : Nat} (hj : j < a.length) : (a.getD j []).map low = a.getD j [] := h.caps _ (by rw [List.getD_eq_getElem?_getD, List.getElem?_eq_getElem hj]; exact List.getElem_mem hj)
theorem f_fullcompare (w : World) (n : Nat) {a b : List Bs} (ha : Nam a) (hb : Nam b) : CT w (.ref 203) [.nm a, .nm b] (n + 2) (FcQ a b) noC := by
  refine d_mfullcompare ?_
  refine cs_cons ?_
  repeat walk_at "w1"
  refine ⟨_, rfl, v_call1 (P := True) (f_isAbs w n ha.szs) (Nat.le_refl _) ?_⟩
  repeat walk_at "w1"
  refine ⟨_, rfl, v_call1 (P := True) (f_isAbs w n hb.szs) (Nat.le_refl _) ?_⟩
  repeat walk_at "w1"
  by_cases hab : isAbs a = isAbs b
  · refine iteF (by simp [hab]) ?_
    repeat walk_at "w1"
    refine l_len_tupb ha.szs.z ?_
    repeat walk_at "w1"
    refine l_len_tupb hb.szs.z ?_
    repeat walk_at "w1"
    refine ite_join (fun ρ κ => ρ (S "self") = some (.nm a) ∧ ρ (S "other") = some (.nm b) ∧ ρ (S "l") = some (.int (min a.length b.length : Nat)) ∧ ρ (S "l1") = some (.int a.length) ∧ ρ (S "l2") = some (.int b.length) ∧ ρ (S "ldiff") = some (.int ((a.length : Int) - b.length))) (fun hl => ?_) (fun hl => ?_) ?_
    · have e : ((min a.length b.length : Nat) : Int) = a.length := by simp at hl; omega
      repeat walk_at "w1"
      exact ⟨by walk_at "lk", by walk_at "lk", by rw [e]; walk_at "lk", by walk_at "lk", by walk_at "lk", by walk_at "lk"⟩
    · have e : ((min a.length b.length : Nat) : Int) = b.length := by simp at hl; omega
      repeat walk_at "w1"
      exact ⟨by walk_at "lk", by walk_at "lk", by rw [e]; walk_at "lk", by walk_at "lk", by walk_at "lk", by walk_at "lk"⟩
    rintro ρ κ ⟨h1, h2, h3, h4, h5, h6⟩
    repeat walk_at "w1"
    refine c_While (fun n ρ κ => ∃ k : Nat, n + k = min a.length b.length ∧ ρ (S "self") = some (.nm a) ∧ ρ (S "other") = some (.nm b) ∧ ρ (S "l") = some (.int n) ∧ ρ (S "l1") = some (.int ((a.length : Int) - k)) ∧ ρ (S "l2") = some (.int ((b.length : Int) - k)) ∧ ρ (S "ldiff") = some (.int ((a.length : Int) - b.length)) ∧ ρ (S "nlabels") = some (.int k) ∧ ρ (S "namereln") = some (.int 0) ∧ a.drop (a.length - k) = b.drop (b.length - k)) (min a.length b.length)
      ⟨0, rfl, by walk_at "lk", by walk_at "lk", by walk_at "lk", by simpa using (show _ = some (PV.int a.length) by walk_at "lk"), by simpa using (show _ = some (PV.int b.length) by walk_at "lk"), by walk_at "lk", (show _ = some (PV.int 0) by walk_at "lk"), by walk_at "lk", by simp⟩ ?_
    rintro m ρ κ ⟨k, hk, g1, g2, g3, g4, g5, g6, g7, g8, gd⟩
    repeat walk_at "w1"
    by_cases hm : m = 0
    · refine iteF (by simp [hm]) ?_
      repeat walk_at "w1"
      by_cases h7 : a.length < b.length
      · refine iteT (by simp; omega) ?_
        repeat walk_at "w1"
        refine ⟨by first | exact Nat.le_of_ble_eq_true rfl | simp, ?_⟩
        repeat walk_at "w1"
        exact ⟨_, _, _, rfl, ⟨fun h => by omega, fun h => by rw [h] at h7; omega⟩, fun _ _ => ⟨fun h => by omega, fun h => by have := h.length_le; omega⟩⟩
      · refine iteF (by simp; omega) ?_
        repeat walk_at "w1"
        by_cases h8 : b.length < a.length
        · refine iteT (by simp; omega) ?_
          repeat walk_at "w1"
          refine ⟨by first | exact Nat.le_of_ble_eq_true rfl | simp, ?_⟩
          repeat walk_at "w1"
          refine ⟨_, _, _, rfl, ⟨fun h => by omega, fun h => by rw [h] at h8; omega⟩, fun _ _ => ⟨fun _ => ?_, fun _ => .inl rfl⟩⟩
          have hkb : k = b.length := by omega
          subst hkb
          rw [Nat.sub_self, List.drop_zero] at gd
          rw [← gd]; exact List.drop_suffix _ _
        · refine iteF (by simp; omega) ?_
          repeat walk_at "w1"
          refine ⟨by first | exact Nat.le_of_ble_eq_true rfl | simp, ?_⟩
          repeat walk_at "w1"
          have hka : a.length - k = 0 := by omega
          have hkb : b.length - k = 0 := by omega
          rw [hka, hkb, List.drop_zero, List.drop_zero] at gd
          exact ⟨_, _, _, rfl, ⟨fun h => gd, fun h => by rw [h]; omega⟩, fun _ _ => ⟨fun _ => gd ▸ List.suffix_refl _, fun _ => .inr rfl⟩⟩
    · refine iteT (by simp; omega) ?_
      have hka : k < a.length := by omega
      have hkb : k < b.length := by omega
      have ea : idx a.length ((a.length : Int) - k - 1) = a.length - k - 1 := idx_back hka
      have eb : idx b.length ((b.length : Int) - k - 1) = b.length - k - 1 := idx_back hkb
      have za : (a.getD (a.length - k - 1) []).length ≤ 16777216 := by
        have := ha.b _ (show a.getD (a.length - k - 1) [] ∈ a by rw [List.getD_eq_getElem?_getD, List.getElem?_eq_getElem (by omega)]; exact List.getElem_mem (by omega)); omega
      have zb : (b.getD (b.length - k - 1) []).length ≤ 16777216 := by
        have := hb.b _ (show b.getD (b.length - k - 1) [] ∈ b by rw [List.getD_eq_getElem?_getD, List.getElem?_eq_getElem (by omega)]; exact List.getElem_mem (by omega)); omega
      have la := low_getD ha (show a.length - k - 1 < a.length by omega)
      have lb := low_getD hb (show b.length - k - 1 < b.length by omega)
      have dn := diff_ne hka hkb
      have ds := drop_step hka hkb gd
      repeat walk_at "w1"
      refine s_tupb ha.szs.z (by omega) (by omega) ?_
      rw [ea]
      generalize a.getD (a.length - k - 1) [] = x at *
      refine ⟨_, rfl, za, ?_⟩
      rw [la]
      repeat walk_at "w1"
      refine s_tupb hb.szs.z (by omega) (by omega) ?_
      rw [eb]
      generalize b.getD (b.length - k - 1) [] = y at *
      refine ⟨_, rfl, zb, ?_⟩
      rw [lb]
      repeat walk_at "w1"
      cases hlt : (bord x y == .lt)
      · refine iteF rfl ?_
        repeat walk_at "w1"
        cases hgt : (bord x y == .gt)
        · refine iteF rfl ?_
          repeat walk_at "w1"
          have hxy := bord_eq hlt hgt
          exact ⟨m - 1, by omega, k + 1, by omega, by walk_at "lk", by walk_at "lk", by rw [show ((m - 1 : Nat) : Int) = m - 1 by omega]; walk_at "lk", by rw [show (a.length : Int) - (k + 1 : Nat) = a.length - k - 1 by omega]; walk_at "lk", by rw [show (b.length : Int) - (k + 1 : Nat) = b.length - k - 1 by omega]; walk_at "lk", by walk_at "lk", by rw [show ((k + 1 : Nat) : Int) = k + 1 by omega]; walk_at "lk", by walk_at "lk", ds hxy⟩
        · refine iteT rfl ?_
          have hxy := bord_ne (.inr hgt)
          repeat walk_at "w1"
          refine ite_join (fun ρ κ => ∃ r : Int, (r = 0 ∨ r = 4) ∧ ρ (S "namereln") = some (.int r) ∧ ρ (S "order") = some (.int 1) ∧ ρ (S "nlabels") = some (.int k)) (fun _ => ?_) (fun _ => ?_) ?_
          · repeat walk_at "w1"
            exact ⟨4, .inr rfl, by walk_at "lk", by walk_at "lk", by walk_at "lk"⟩
          · repeat walk_at "w1"
            exact ⟨0, .inl rfl, by walk_at "lk", by walk_at "lk", by walk_at "lk"⟩
          rintro ρ κ ⟨r, hr, q1, q2, q3⟩
          repeat walk_at "w1"
          refine ⟨by first | exact Nat.le_of_ble_eq_true rfl | simp, ?_⟩
          repeat walk_at "w1"
          exact ⟨_, _, _, rfl, ⟨fun h => by omega, fun h => ((dn hxy).1 h).elim⟩, fun _ _ => ⟨fun h => by omega, fun h => ((dn hxy).2 h).elim⟩⟩
      · refine iteT rfl ?_
        have hxy := bord_ne (.inl hlt)
        repeat walk_at "w1"
        refine ite_join (fun ρ κ => ∃ r : Int, (r = 0 ∨ r = 4) ∧ ρ (S "namereln") = some (.int r) ∧ ρ (S "order") = some (.int (-1)) ∧ ρ (S "nlabels") = some (.int k)) (fun _ => ?_) (fun _ => ?_) ?_
        · repeat walk_at "w1"
          exact ⟨4, .inr rfl, by walk_at "lk", by walk_at "lk", by walk_at "lk"⟩
        · repeat walk_at "w1"
          exact ⟨0, .inl rfl, by walk_at "lk", by walk_at "lk", by walk_at "lk"⟩
        rintro ρ κ ⟨r, hr, q1, q2, q3⟩
        repeat walk_at "w1"
        refine ⟨by first | exact Nat.le_of_ble_eq_true rfl | simp, ?_⟩
        repeat walk_at "w1"
        exact ⟨_, _, _, rfl, ⟨fun h => by omega, fun h => ((dn hxy).1 h).elim⟩, fun _ _ => ⟨fun h => by omega, fun h => ((dn hxy).2 h).elim⟩⟩
  · refine iteT (by simpa using hab) ?_
    have hne : a ≠ b := fun e => hab (by rw [e])
    repeat walk_at "w1"
    cases hs : isAbs a
    · refine iteF rfl ?_
      repeat walk_at "w1"
      refine ⟨by first | exact Nat.le_of_ble_eq_true rfl | simp, ?_⟩
      repeat walk_at "w1"
      exact ⟨_, _, _, rfl, ⟨fun h => by omega, fun h => (hne h).elim⟩, fun h => by rw [hs] at h; cases h⟩
    · refine iteT rfl ?_
      repeat walk_at "w1"
      refine ⟨by first | exact Nat.le_of_ble_eq_true rfl | simp, ?_⟩
      repeat walk_at "w1"
      exact ⟨_, _, _, rfl, ⟨fun h => by omega, fun h => (hne h).elim⟩, fun _ h => (hab (by rw [hs, h])).elim⟩
end F4

section F5
theorem c_Unpack2 {c : Jx} {ρ : Rho} {κ : Kap} {X : XP} (ts : List (Str × Pos)) {elts : List Expr} {x1} {tp pos : Pos} {e : Expr} {Q : PF → Rho → Kap → Prop} (he : elts = ts.map fun t => Expr.Name t.1 t.2) (hs : ∀ E, swapsWithSole [.Tuple elts x1 tp] e pos.line E = pure false) (hw : ∀ E, swappedStores [.Tuple elts x1 tp] e E = pure none)
    (hk : ts.all (fun t => c.scope.names.lookup t.1 == some .local) = true) (hst : ∀ E, (assignEach elts E).findIdx? (·.1) = none)
    (h : E1 c e ρ κ (fun p ρ1 κ1 => ∃ l, (p = .tup l ∨ p = .lst l) ∧ ts.length = l.length ∧ Q .next (updAll ρ1 (ts.map (·.1)) l) κ1) X) : C1 c (.Assign [.Tuple elts x1 tp] e pos) ρ κ Q X :=
  c_Unpack he hs hw (fun t ht => by simpa using List.all_eq_true.mp hk t ht) hst h
theorem f_isSub (w : World) (n : Nat) {a b : List Bs} (ha : Nam a) (hb : Nam b) (h1 : isAbs a = true) (h2 : isAbs b = true) : CT w (.ref 210) [.nm a, .nm b] (n + 3) (fun p => ∃ t : Bool, p = .bool t ∧ (t = true ↔ b <:+ a)) noC := by
  refine d_missubdomain ?_
  refine cs_cons ?_
  refine c_Unpack2 [(S "nr", _), (S "_", _), (S "_", _)] rfl (by with_unfolding_all exact fun _ => rfl) (by with_unfolding_all exact fun _ => rfl) (by kernel_rfl) (by with_unfolding_all exact fun _ => rfl) ?_
  repeat walk_at "w1"
  refine ⟨_, rfl, ?_⟩
  repeat walk_at "w1"
  refine v_call (f_fullcompare w n ha hb) (Nat.le_refl _) (fun p hp => ?_) fun C hC => hC.elim
  obtain ⟨r, o, k, rfl, _, hr⟩ := hp
  have hr := hr h1 h2
  refine ⟨_, .inl rfl, rfl, ?_⟩
  show seqQ _ _ _ _ _ (upd (upd (upd _ (S "nr") (.int r)) (S "_") (.int o)) (S "_") (.int k)) _
  repeat walk_at "w1"
  by_cases h3 : r = 2
  · subst h3
    refine iteT rfl ?_
    refine iteT rfl ?_
    repeat walk_at "w1"
    exact ⟨true, rfl, by simpa using hr⟩
  · refine iteF (by simpa using h3) ?_
    repeat walk_at "w1"
    by_cases h4 : r = 3
    · subst h4
      refine iteT rfl ?_
      refine iteT rfl ?_
      repeat walk_at "w1"
      exact ⟨true, rfl, by simpa using hr⟩
    · refine iteF (by simpa using h4) ?_
      repeat walk_at "w1"
      refine iteF rfl ?_
      repeat walk_at "w1"
      exact ⟨false, rfl, by simpa [h3, h4] using hr⟩
theorem f_eq (w : World) (n : Nat) {a b : List Bs} (ha : Nam a) (hb : Nam b) : CT w (.ref 231) [.nm a, .nm b] (n + 3) (fun p => p = .bool (decide (a = b))) noC := by
  refine d_meq ?_
  refine cs_cons ?_
  repeat walk_at "w1"
  refine iteT rfl ?_
  repeat walk_at "w1"
  refine ⟨_, rfl, ?_⟩
  repeat walk_at "w1"
  refine v_call (f_fullcompare w n ha hb) (Nat.le_refl _) (fun p hp => ?_) fun C hC => hC.elim
  obtain ⟨r, o, k, rfl, ho, hr⟩ := hp
  repeat walk_at "w1"
  refine s_tup (p := .int o) (by simp) (by simp) (by simp) (by rfl) ?_
  repeat walk_at "w1"
  show _ = _
  congr 1
  rw [Bool.eq_iff_iff]; simpa using ho
theorem f_ne (w : World) (n : Nat) {a b : List Bs} (ha : Nam a) (hb : Nam b) : CT w (.ref 238) [.nm a, .nm b] (n + 3) (fun p => p = .bool (!decide (a = b))) noC := by
  refine d_mne ?_
  refine cs_cons ?_
  repeat walk_at "w1"
  refine iteT rfl ?_
  repeat walk_at "w1"
  refine ⟨_, rfl, ?_⟩
  repeat walk_at "w1"
  refine v_call (f_fullcompare w n ha hb) (Nat.le_refl _) (fun p hp => ?_) fun C hC => hC.elim
  obtain ⟨r, o, k, rfl, ho, hr⟩ := hp
  repeat walk_at "w1"
  refine s_tup (p := .int o) (by simp) (by simp) (by simp) (by rfl) ?_
  repeat walk_at "w1"
  show _ = _
  congr 1
  rw [Bool.eq_iff_iff]; simp [← ho]
end F5

section F6
/-! ## Names that the law builds -/
theorem wire_sz (l : List Bs) : wire l = (sz l : Int) := by
  induction l with
  | nil => rfl
  | cons b l ih => rw [wire_cons, sz_cons, ih]; omega
theorem sz_len (l : List Bs) : l.length ≤ sz l := by
  induction l with
  | nil => exact Nat.le_refl _
  | cons b l ih => rw [sz_cons, List.length_cons]; omega
theorem low_id {c : UInt8} (h : ¬ capi c) : low c = c := by
  unfold low
  split
  · rename_i q
    simp only [Bool.and_eq_true, decide_eq_true_eq] at q
    refine absurd ⟨?_, ?_⟩ h
    · have := UInt8.le_iff_toNat_le.mp q.1; exact this
    · have := UInt8.le_iff_toNat_le.mp q.2; exact this
  · rfl
theorem low_lab {l : Bs} (h : ∀ c ∈ l, ¬ capi c) : l.map low = l := by
  induction l with
  | nil => rfl
  | cons c l ih => rw [List.map_cons, low_id (h c (.head _)), ih fun x hx => h x (.tail _ hx)]
/-- a name: labels that are well, and behind them the root or nothing -/
structure Nmx (l : List Bs) : Prop where
  q : ∃ q r, l = q ++ r ∧ (∀ x ∈ q, Gd x) ∧ (r = [] ∨ r = [[]])
  n : l.length ≤ 1000
theorem Nmx.nam {l : List Bs} (h : Nmx l) : Nam l := by
  obtain ⟨⟨q, r, rfl, hq, hr⟩, hn⟩ := h
  have hx : ∀ x ∈ q ++ r, Gd x ∨ x = [] := fun x hx => (List.mem_append.mp hx).elim (fun h => .inl (hq x h)) fun h => by
    rcases hr with rfl | rfl
    · cases h
    · exact .inr (List.mem_singleton.mp h)
  refine ⟨⟨hn, fun x h => ?_, fun a c e => ?_⟩, fun x h => ?_⟩
  · rcases hx x h with g | rfl
    · exact g.top
    · simp
  · rcases List.append_eq_append_iff.mp e with ⟨t, e1, e2⟩ | ⟨t, e1, e2⟩
    · rcases hr with rfl | rfl
      · cases t <;> cases e2
      · cases t with
        | nil => injection e2 with _ e3; exact e3.symm
        | cons x t => injection e2 with _ e3; cases t <;> cases e3
    · cases t with
      | nil =>
        rcases hr with rfl | rfl
        · cases e2
        · injection e2 with _ e3
      | cons x t =>
        injection e2 with e3 e4
        have := hq x (by rw [e1]; simp)
        rw [← e3] at this
        have := this.pos
        simp at this
  · rcases hx x h with g | rfl
    · exact low_lab g.caps
    · rfl
/-- an origin -/
structure Org (o : List Bs) : Prop where
  q : ∃ q, o = q ++ [[]] ∧ ∀ l ∈ q, Gd l
  sz : sz o ≤ 255
theorem nmx_of {o p : List Bs} (ho : Org o) (hp : ∀ l ∈ p, Gd l) (hn : (p ++ o).length ≤ 1000) : Nmx (p ++ o) := by
  obtain ⟨q, rfl, hq⟩ := ho.q
  exact ⟨⟨p ++ q, [[]], by simp, fun x hx => (List.mem_append.mp hx).elim (hp x) (hq x), .inr rfl⟩, hn⟩
theorem nmx_vl {o p : List Bs} (ho : Org o) (hp : Vl (255 - sz o) p) : Nmx (p ++ o) := nmx_of ho hp.gd (by have := sz_len (p ++ o); have := hp.sz; have := ho.sz; rw [sz_append] at *; omega)
theorem nmx_rel {p : List Bs} (hp : ∀ l ∈ p, Gd l) (hn : p.length ≤ 1000) : Nmx p := ⟨⟨p, [], by simp, hp, .inl rfl⟩, hn⟩
theorem Org.nmx {o : List Bs} (ho : Org o) : Nmx o := nmx_of (p := []) ho (fun _ h => nomatch h) (by have := sz_len o; have := ho.sz; simpa using (by omega : o.length ≤ 1000))
theorem Org.abs {o : List Bs} (ho : Org o) (p : List Bs) : isAbs (p ++ o) = true := by
  obtain ⟨q, rfl, _⟩ := ho.q
  unfold isAbs; simp [← List.append_assoc]
theorem rel_abs {p : List Bs} (hp : ∀ l ∈ p, Gd l) : isAbs p = false := by
  unfold isAbs
  rcases List.eq_nil_or_concat p with rfl | ⟨r, m, rfl⟩
  · rfl
  · have := (hp m (by simp)).ne
    simpa using this
theorem szs_vl {o p : List Bs} (ho : Org o) (hp : Vl (255 - sz o) p) : sz (p ++ o) ≤ 255 := by have := hp.sz; have := ho.sz; rw [sz_append]; omega
theorem nmx_root : Nmx [[]] := ⟨⟨[], [[]], rfl, (fun _ h => by cases h), .inr rfl⟩, by simp⟩
theorem nmx_nil : Nmx [] := nmx_rel (fun _ h => nomatch h) (by simp)
theorem nmx_prefix : Nmx [[0]] := nmx_rel (fun l h => by rw [List.mem_singleton] at h; subst h; exact gd_zero) (by simp)

/-- a list handed on: from now on it stands -/
theorem vl_freeze {c : Jx} {ρ : Rho} {κ : Kap} {X : XP} {Q : PV → Rho → Kap → Prop} {f : List Value → Sem Value} {a : Addr} {l : List PV} (h : VL c f [.lst l] ρ κ Q X) : VL c f [.own a] ρ ((a, .lst l) :: κ) Q X := fun A fs E g R s vs G S hg r => by
  obtain ⟨m, cs, S⟩ := S
  obtain ⟨o, cs', rfl, ⟨vs0, n, rfl, rr⟩, h1, _⟩ := S.headC
  obtain ⟨g', k, e, S'⟩ := S.freeze
  obtain ⟨_, rfl, r1⟩ := r.one_inv; (first | obtain ⟨_, rfl⟩ := r1.int_inv | obtain rfl := r1.nil_inv | obtain ⟨_, _, rfl, rfl⟩ := r1.bytes_inv | obtain rfl := r1.bool_inv | obtain rfl := r1.val_inv | obtain rfl := r1.own_inv | obtain ⟨_, rfl⟩ := r1.str_inv | cases r1)
  exact lift k (.refl ..) (h A fs E g' R s _ G ⟨m, cs', S'⟩ hg (.cons (.lst e rfl rfl (rr.keeps k)) .nil))
/-! ## the defs of names -/
theorem f_wire (w : World) (n : Nat) (l' : List Bs) (hl : Szs l') : CT w (.ref 445) [.tup (l'.map .bytes)] (n + 1) (fun p => p = .int (wire l')) noC := by
  refine d_wirelength ?_
  refine cs_cons ?_
  repeat walk_at "w1"
  refine c_For (fun l ρ κ => ∃ bs t, l = bs.map .bytes ∧ (∀ b ∈ bs, b.length ≤ 1000) ∧ ρ (S "total") = some (.int t) ∧ t + wire bs = wire l') (fun _ _ => rfl) (by kernel_rfl) ?_ ?_ ?_
  · repeat walk_at "w1"
    exact ⟨_, it_tup _ _, l', 0, rfl, hl.b, by walk_at "lk", by omega⟩
  · rintro p rest ρ κ ⟨bs, t, e, hb, ht, hw⟩
    cases bs with
    | nil => cases e
    | cons b bs =>
      obtain ⟨rfl, rfl⟩ := List.cons.inj e
      refine cs_cons ?_
      repeat walk_at "w1"
      have := hb b (.head _)
      refine l_len_bytes (by omega) ?_
      repeat walk_at "w1"
      rw [wire_cons] at hw
      exact ⟨bs, _, rfl, fun x hx => hb x (.tail _ hx), by walk_at "lk", by omega⟩
  · rintro ρ κ ⟨bs, t, e, hb, ht, hw⟩
    cases bs with
    | nil =>
      repeat walk_at "w1"
      show _ = _
      rw [← hw]; simp [wire]
    | cons b bs => cases e
theorem f_padLabel (w : World) (n : Nat) {b : Bs} {l : List Bs} (hb : b.length ≤ 63) (hl : Szs l) (hs : sz l ≤ 255) : CT w (.ref 459) [.bytes b, .tup (l.map .bytes)] (n + 2) (fun p => p = .bytes (padL (255 - sz l) b)) noC := by
  refine d_padtomaxlabel ?_
  refine cs_cons ?_
  repeat walk_at "w1"
  refine l_len_b (by omega) ?_
  repeat walk_at "w1"
  refine v_call1 (P := True) (f_wire w n l hl) (Nat.le_refl _) ?_
  repeat walk_at "w1"
  have hw := wire_sz l
  by_cases h : 255 - wire l - b.length - 1 ≤ 0
  · refine iteT (by simpa using h) ?_
    repeat walk_at "w1"
    show _ = _
    have : min (63 - b.length) (255 - sz l - b.length - 1) = 0 := by omega
    unfold padL; rw [this]; simp
  · refine iteF (by simpa using h) ?_
    repeat walk_at "w1"
    have hX : 255 - wire l - (b.length : Int) - 1 = ((255 - sz l - b.length - 1 : Nat) : Int) := by omega
    have hY : (63 : Int) - b.length = ((63 - b.length : Nat) : Int) := by omega
    rw [hX, hY, imin_nat]
    have h63 : min (63 - b.length) (255 - sz l - b.length - 1) ≤ 63 := Nat.le_trans (Nat.min_le_left _ _) (Nat.sub_le _ _)
    have hr : padL (255 - sz l) b = b ++ List.replicate (min (63 - b.length) (255 - sz l - b.length - 1)) 255 := rfl
    rw [hr]
    generalize min (63 - b.length) (255 - sz l - b.length - 1) = k at h63
    clear hX hY hr h hw
    refine v_bmul (by omega) (by omega) ?_
    repeat walk_at "w1"
    refine v_badd (by rw [List.length_replicate]; omega) ?_
    repeat walk_at "w1"
    rfl
theorem f_padName (w : World) (n : Nat) {o p : List Bs} (ho : Org o) (hp : Vl (255 - sz o) p) : CT w (.ref 452) [.nm (p ++ o)] (n + 5) (fun q => q = .nm (padN (255 - sz o) p ++ o)) noC := by
  have hN := (nmx_vl ho hp).nam
  have hs := szs_vl ho hp
  have hs0 := ho.sz
  have hW := wire_sz (p ++ o)
  have hv := padN_ok hp
  have ePad : padN (255 - sz o) p ++ o = pads (255 - sz (p ++ o)) ++ (p ++ o) := by unfold padN; rw [sz_append, show 255 - sz o - sz p = 255 - (sz p + sz o) by omega, List.append_assoc]
  refine d_padtomaxname ?_
  refine cs_cons ?_
  repeat walk_at "w1"
  refine v_call1 (P := True) (f_wire w (n + 3) (p ++ o) hN.szs) (Nat.le_refl _) ?_
  repeat walk_at "w1"
  refine e_ListOwn ?_
  repeat walk_at "w1"
  refine ⟨by first | exact Nat.le_of_ble_eq_true rfl | simp, fun a => ?_⟩
  repeat walk_at "w1"
  refine c_While (fun N ρ κ => ∃ L : List Bs, κ = [(a, .lst (L.map .bytes))] ∧ ρ (S "new_labels") = some (.own a) ∧ ρ (S "needed") = some (.int N) ∧ ρ (S "name") = some (.nm (p ++ o)) ∧ N ≤ 255 ∧ N + sz L ≤ 255 ∧ pads (255 - sz (p ++ o)) = pads N ++ L.reverse) (255 - sz (p ++ o))
    ⟨[], rfl, by walk_at "lk", by rw [show ((255 - sz (p ++ o) : Nat) : Int) = 255 - wire (p ++ o) by omega]; walk_at "lk", by walk_at "lk", by omega, by rw [sz_nil]; omega, by simp⟩ ?_
  rintro N ρ κ ⟨L, rfl, h1, h2, h3, h4, h5, h6⟩
  have hL := sz_len L
  repeat walk_at "w1"
  by_cases hn : 64 < N
  · refine iteT (by simp; omega) ?_
    repeat walk_at "w1"
    refine ⟨_, _, _, rfl, rfl, ?_⟩
    repeat walk_at "w1"
    refine v_bmul (by omega) (by omega) ?_
    repeat walk_at "w1"
    refine l_append (by rw [List.length_map]; omega) ?_
    refine ⟨rfl, ?_⟩
    repeat walk_at "w1"
    refine ⟨N - 64, by omega, L ++ [List.replicate 63 255], by simp, by walk_at "lk", by rw [show ((N - 64 : Nat) : Int) = (N : Int) - 64 by omega]; walk_at "lk", by walk_at "lk", by omega, by rw [sz_append, sz_cons, sz_nil, List.length_replicate]; omega, ?_⟩
    rw [h6, pads_eq, if_pos hn]; simp
  · refine iteF (by simp; omega) ?_
    repeat walk_at "w1"
    refine ite_join (fun ρ κ => ∃ L : List Bs, κ = [(a, .lst (L.map .bytes))] ∧ ρ (S "new_labels") = some (.own a) ∧ ρ (S "name") = some (.nm (p ++ o)) ∧ pads (255 - sz (p ++ o)) = L.reverse) (fun h2' => ?_) (fun h2' => ?_) ?_
    · simp only [decide_eq_true_eq] at h2'
      repeat walk_at "w1"
      refine ⟨_, _, _, rfl, rfl, ?_⟩
      repeat walk_at "w1"
      refine v_bmul (by omega) (by omega) ?_
      repeat walk_at "w1"
      refine l_append (by rw [List.length_map]; omega) ?_
      refine ⟨rfl, ?_⟩
      repeat walk_at "w1"
      refine ⟨L ++ [List.replicate (N - 1) 255], by rw [show ((N : Int) - 1).toNat = N - 1 by omega]; simp, by walk_at "lk", by walk_at "lk", ?_⟩
      rw [h6, pads_eq, if_neg hn, if_pos (by omega)]; simp
    · simp only [decide_eq_false_iff_not] at h2'
      repeat walk_at "w1"
      refine ⟨L, rfl, by walk_at "lk", by walk_at "lk", ?_⟩
      rw [h6, pads_eq, if_neg hn, if_neg (by omega)]; simp
    rintro ρ κ ⟨L, rfl, h1, h2, h3⟩
    have hLl : L.length ≤ 255 := by
      have := sz_len (pads (255 - sz (p ++ o)))
      have := (pads_ok (255 - sz (p ++ o))).2
      have e := congrArg List.length h3
      rw [List.length_reverse] at e; omega
    refine cs_freeze (by kernel_rfl) h1 ?_
    refine cs_cons ?_
    refine c_Assign (by with_unfolding_all exact fun _ => rfl) (by kernel_rfl) ?_
    refine e_ListRev (by kernel_rfl) (by kernel_rfl) (by with_unfolding_all exact fun _ => rfl) (by with_unfolding_all exact fun _ => rfl) ?_
    repeat walk_at "w1"
    refine ⟨_, rfl, by rw [List.length_map]; omega, fun a' => ?_⟩
    rw [← List.map_reverse, ← h3]
    repeat walk_at "w1"
    refine ⟨_, _, _, rfl, rfl, ?_⟩
    repeat walk_at "w1"
    have hpl := sz_len (pads (255 - sz (p ++ o)))
    have hpo := (pads_ok (255 - sz (p ++ o))).2
    refine l_extend_tup (by rw [List.length_map, List.length_map]; have := hN.n; omega) ?_
    refine ⟨rfl, ?_⟩
    rw [← List.map_append, ← ePad]
    repeat walk_at "w1"
    refine vl_freeze ?_
    refine v_call (f_Name w n (nmx_vl ho hv).nam.toLabs) (Nat.le_refl _) (fun q hq => ?_) fun C hC => ?_
    · repeat walk_at "w1"
      exact hq.1
    · have := szs_vl ho hv
      have e := wire_sz (padN (255 - sz o) p ++ o)
      omega
end F6

section F7
theorem f_parent (w : World) (n : Nat) {b : Bs} {p : List Bs} (hN : Nmx (b :: p)) (hM : Nmx p) (h0 : b :: p ≠ [[]]) (hs : sz p ≤ 255) : CT w (.ref 368) [.nm (b :: p)] (n + 5) (fun q => q = .nm p) noC := by
  refine d_mparent ?_
  refine cs_cons ?_
  repeat walk_at "w1"
  refine v_eq_nm (f_eq w n hN.nam nmx_root.nam) (Nat.le_add_right (n + 3) 1) ?_
  repeat walk_at "w1"
  refine iteF (by simpa using h0) ?_
  repeat walk_at "w1"
  refine v_eq_nm (f_eq w n hN.nam nmx_nil.nam) (Nat.le_add_right (n + 3) 1) ?_
  repeat walk_at "w1"
  refine iteF (by simp) ?_
  repeat walk_at "w1"
  refine iteF rfl ?_
  repeat walk_at "w1"
  refine ⟨_, rfl, ?_⟩
  repeat walk_at "w1"
  refine s_tupb_cut hN.nam.szs.z ?_
  repeat walk_at "w1"
  rw [show cut (some 1) none (b :: p) = p from cut_from 1 (b :: p)]
  refine v_call (f_NameT w n hM.nam.toLabs) (Nat.le_refl _) (fun q hq => ?_) fun C hC => ?_
  · repeat walk_at "w1"
    exact hq.1
  · have := wire_sz p; omega
theorem f_concat (w : World) (n : Nat) {a b : List Bs} (ha : Nmx a) (hb : Nmx b) (hab : Nmx (a ++ b)) (h0 : isAbs a = false) : CT w (.ref 339) [.nm a, .nm b] (n + 5) (fun q => q = .nm (a ++ b) ∧ wire (a ++ b) ≤ 255) (fun C => C = 106 ∧ 255 < wire (a ++ b)) := by
  refine d_mconcatenate ?_
  refine cs_cons ?_
  repeat walk_at "w1"
  refine ⟨_, rfl, v_call1 (P := True) (f_isAbs w n ha.nam.szs) (Nat.le_add_right (n + 1) 3) ?_⟩
  repeat walk_at "w1"
  refine iteF h0 ?_
  refine iteF rfl ?_
  repeat walk_at "w1"
  refine l_listOwn_tup (by rw [List.length_map]; exact ha.nam.szs.z) fun x => ?_
  repeat walk_at "w1"
  refine ⟨_, _, _, rfl, rfl, ?_⟩
  repeat walk_at "w1"
  refine l_list_tup (by rw [List.length_map]; exact hb.nam.szs.z) ?_
  repeat walk_at "w1"
  refine l_extend_lst (by rw [List.length_map, List.length_map]; have := ha.n; have := hb.n; omega) ?_
  refine ⟨rfl, ?_⟩
  rw [← List.map_append]
  repeat walk_at "w1"
  refine vl_freeze ?_
  refine v_call (f_Name w n hab.nam.toLabs) (Nat.le_refl _) (fun q hq => ?_) fun C hC => hC
  repeat walk_at "w1"
  exact hq
theorem f_relativize (w : World) (n : Nat) {o p : List Bs} (ho : Org o) (hp : Vl (255 - sz o) p) : CT w (.ref 346) [.nm (p ++ o), .nm o] (n + 5) (fun q => q = .nm p) noC := by
  have hN := nmx_vl ho hp
  have hP : Nmx p := nmx_rel hp.gd (by have := hN.n; rw [List.length_append] at this; omega)
  have hO := ho.nmx
  have hlen : 1 ≤ o.length := by obtain ⟨q, rfl, _⟩ := ho.q; simp
  refine d_mrelativize ?_
  refine cs_cons ?_
  repeat walk_at "w1"
  refine ⟨_, rfl, ?_⟩
  repeat walk_at "w1"
  refine v_call (f_isSub w n hN.nam hO.nam (ho.abs p) (ho.abs [])) (Nat.le_add_right (n + 3) 1) (fun q hq => ?_) fun C hC => hC.elim
  obtain ⟨t, rfl, ht⟩ := hq
  have : t = true := ht.mpr (List.suffix_append p o)
  subst this
  repeat walk_at "w1"
  refine iteT rfl ?_
  repeat walk_at "w1"
  refine l_len_nm (f_len w n hO.nam.szs) (by show n + 1 < n + 4; omega) hO.nam.szs.z ?_
  repeat walk_at "w1"
  refine ⟨_, rfl, ?_⟩
  repeat walk_at "w1"
  refine s_tupb_cut hN.nam.szs.z ?_
  repeat walk_at "w1"
  rw [cut_but o.length hlen, List.length_append, show p.length + o.length - o.length = p.length by omega, List.take_left]
  refine v_call (f_NameT w n hP.nam.toLabs) (Nat.le_refl _) (fun q hq => ?_) fun C hC => ?_
  · repeat walk_at "w1"
    exact hq.1
  · have := wire_sz p; have := hp.sz; have := ho.sz; omega
theorem f_derelativize (w : World) (n : Nat) {o p : List Bs} (ho : Org o) (hp : Vl (255 - sz o) p) : CT w (.ref 353) [.nm p, .nm o] (n + 6) (fun q => q = .nm (p ++ o)) noC := by
  have hN := nmx_vl ho hp
  have hP : Nmx p := nmx_rel hp.gd (by have := hN.n; rw [List.length_append] at this; omega)
  have hO := ho.nmx
  refine d_mderelativize ?_
  refine cs_cons ?_
  repeat walk_at "w1"
  refine ⟨_, rfl, v_call1 (P := True) (f_isAbs w n hP.nam.szs) (Nat.le_add_right (n + 1) 4) ?_⟩
  repeat walk_at "w1"
  rw [rel_abs hp.gd]
  refine iteT rfl ?_
  repeat walk_at "w1"
  refine ⟨_, rfl, ?_⟩
  repeat walk_at "w1"
  refine v_call (f_concat w n hP hO hN (rel_abs hp.gd)) (Nat.le_refl _) (fun q hq => ?_) fun C hC => ?_
  · repeat walk_at "w1"
    exact hq.1
  · have := wire_sz (p ++ o); have := szs_vl ho hp; omega
end F7

section F8
theorem ite_joinC {c : Jx} {ρ : Rho} {κ : Kap} {b : Bool} {s1 s2 rest : List Stmt} {Q : PF → Rho → Kap → Prop} (J : Rho → Kap → Prop) (h1 : b = true → CSc c s1 ρ κ (jQ J)) (h2 : b = false → CSc c s2 ρ κ (jQ J)) (h : ∀ ρ κ, J ρ κ → CSc c rest ρ κ Q) :
    if b = true then CSc c s1 ρ κ (seqC c rest Q) else CSc c s2 ρ κ (seqC c rest Q) := by
  have up : ∀ f ρ κ, jQ J f ρ κ → seqC c rest Q f ρ κ := fun f ρ κ hj => by
    cases f <;> first | exact h _ _ hj | exact hj.elim
  cases b
  · exact (h2 rfl).mono up
  · exact (h1 rfl).mono up
namespace F
theorem slot_ba_len : Slot "bytearray" "__len__" "bytearray.__len__" :=
  .of (owner := "bytearray") (n := "__len__") (by rw [typeLookup_type, builtinLookup_eq_fast]; kernel_rfl) (by decide +kernel) (by decide +kernel) (by decide +kernel) (by first | exact .inl (by decide +kernel) | exact .inr (by decide +kernel)) (by rw [isSubtype_type]; kernel_rfl)
theorem entry_ba_len : entryFor table "bytearray.__len__" = some Builtin.«bytearray.__len__» := entryFor_of_tree (by kernel_rfl)
theorem args_ba_len (a : Value) : argsOk "bytearray.__len__" ⟨[a], []⟩ := by
  unfold argsOk; rw [signature?_of (id := "bytearray.__len__") (n := ['_', '_', 'n', 'e', 'l', '_', '_']) (o := ['y', 'a', 'r', 'r', 'a', 'e', 't', 'y', 'b']) (by kernel_rfl) owner_ba]; kernel_rfl
end F
theorem l_len_ba {c : Jx} {ρ : Rho} {κ : Kap} {X : XP} {Q : PV → Rho → Kap → Prop} {a : Addr} {b : Bs} (hm : (a, MV.ba b) ∈ κ) (hz : b.length ≤ 16777216) (h : Q (.int b.length) ρ κ) : VL c (callF (.builtin "len")) [.own a] ρ κ Q X := fun A fs E g R s vs G S hg r => by
  obtain ⟨_, rfl, r1⟩ := r.one_inv; (first | obtain ⟨_, rfl⟩ := r1.int_inv | obtain rfl := r1.nil_inv | obtain ⟨_, _, rfl, rfl⟩ := r1.bytes_inv | obtain rfl := r1.bool_inv | obtain rfl := r1.val_inv | obtain rfl := r1.own_inv | obtain ⟨_, rfl⟩ := r1.str_inv | cases r1)
  have S' := S
  obtain ⟨m, cs, S⟩ := S
  obtain ⟨o, y, ho, hc, hd, e⟩ := ba_inv S hm
  subst e
  have e2 : y.toList.length = y.size := Array.length_toList
  have hT : s.TypeIs (.ref a) "bytearray" := ⟨o, ho, hc⟩
  refine call_function_entry kind_len plain_len entry_len (args_len1 _) ?_
  unfold Builtin.«len»
  refine wpAny_bind (m := oneArg "len" _) (wpAny_pure ?_)
  refine wpAny_bind (m := callSpecial? (.ref a) (Str.ofString "__len__")) (wpAny_callSpecial?_slot (name := Str.ofString "__len__") hT F.slot_ba_len (wpAny_call_entry F.slot_ba_len hT F.entry_ba_len ?_ (F.args_ba_len _)))
  show wpAny _ _ (Builtin.Bytes.payload (.ref a) >>= _) _ _ s
  refine wpAny_bind (ba_load ho hd ?_)
  refine wpAny_bind (wpAny_mkInt (wpAny_pure ⟨_, rfl, ?_⟩))
  refine wpAny_bind (wpAny_holding (wpAny_pure ?_))
  refine wpAny_bind (wpAny_letGo ?_)
  show wpAny _ _ (if ((y.size : Nat) : Int) < 0 then _ else _) _ _ _
  rw [if_neg (by omega)]
  show wpAny _ _ (if ((y.size : Nat) : Int) ≥ 2 ^ 63 then _ else _) _ _ _
  rw [if_neg (by omega)]
  exact wpAny_bind (wpAny_mkInt (wpAny_pure ⟨_, rfl, post S' (.int _ _) (by rw [← e2]; exact h)⟩))
theorem u8_of (c : UInt8) : (c.toNat : Int).toNat.toUInt8 = c := by
  rw [Int.toNat_natCast]; exact UInt8.ofNat_toNat
theorem u8_eq {c d : UInt8} (h : c.toNat = d.toNat) : c = d := UInt8.toNat_inj.mp h
theorem int_u8 {i : Int} {c : UInt8} (h : i = (c.toNat : Int)) : i.toNat.toUInt8 = c := by subst h; exact u8_of c
theorem idx_last {x : Bs} {c : UInt8} : idx (x ++ [c]).length (-1) = x.length := by unfold idx; rw [if_pos (by omega), List.length_append, List.length_singleton]; omega
theorem getD_last {x : Bs} {c : UInt8} : (x ++ [c]).getD x.length 0 = c := by simp [List.getD_eq_getElem?_getD]
theorem org_ne {o : List Bs} {l : Bs} {p : List Bs} : l :: p ++ o ≠ o := fun e => by have := congrArg List.length e; simp at this; omega
set_option maxHeartbeats 8000000 in
theorem f_absPred (w : World) (n : Nat) {o p : List Bs} {pre : Bool} (ho : Org o) (hp : Vl (255 - sz o) p) : CTc w (.ref 466) [.nm (p ++ o), .nm o, .bool pre] (n + 6) (fun q => q = .nm (prd (255 - sz o) pre p ++ o)) := by
  refine ct_fnC [S "name", S "origin", S "prefix_ok"] (st := (stAt pw 29)) (name := S "_absolute_predecessor") (qual := S "_absolute_predecessor") (dV := .none) (pm := (.str (S "dns.name") 248)) (cd := 465) (by kernel_rfl) (by kernel_rfl) (len3 fun v0 v1 v2 => by kernel_rfl) (by kernel_rfl) rfl ?_
  have hN := nmx_vl ho hp
  have hO := ho.nmx
  have hs0 := ho.sz
  refine cs_consC (c_IfC ?_)
  repeat walk_at "w1"
  refine v_eq_nm (f_eq w (n + 2) hN.nam hO.nam) (Nat.le_refl _) ?_
  repeat walk_at "w1"
  cases p with
  | nil =>
    refine iteT (by simp) ?_
    refine cs_leaf ?_
    repeat walk_at "w1"
    refine v_call1 (P := True) (f_padName w n ho hp) (Nat.le_refl _) ?_
    repeat walk_at "w1"
    rfl
  | cons l p =>
    refine iteF (by simpa using org_ne) ?_
    refine cs_leaf ?_
    repeat walk_at "w1"
    have hl := hp.gd l (.head _)
    have hsz := hp.sz
    rw [sz_cons] at hsz
    have hNl : (l :: p ++ o).length ≤ 1000 := hN.n
    have hpo : (p ++ o).length + 1 = (l :: p ++ o).length := by simp
    refine cs_consC (c_leaf ?_)
    repeat walk_at "w1"
    refine s_nm (by with_unfolding_all exact fun _ _ => rfl) (f_getitem w (n + 2) hN.nam.szs (i := 0) (by omega) (by simp; omega)) (by show n + 2 + 1 < n + 5; omega) ?_
    repeat walk_at "w1"
    rw [show idx (l :: p ++ o).length 0 = 0 by rfl, show (l :: p ++ o).getD 0 [] = l by rfl]
    refine cs_consC (c_IfC ?_)
    repeat walk_at "w1"
    by_cases h0 : l = [0]
    · refine iteT (by simpa using h0) ?_
      refine cs_leaf ?_
      repeat walk_at "w1"
      refine ⟨_, rfl, ?_⟩
      refine v_call1 (P := True) (f_parent w n (b := l) (p := p ++ o) hN (nmx_vl ho hp.tail) (fun e => by have := hl.pos; injection e with e _; subst e; simp at this) (szs_vl ho hp.tail)) (Nat.le_refl _) ?_
      repeat walk_at "w1"
      show _ = _
      rw [prd_cons, if_pos h0]
    · refine iteF (by simpa using h0) ?_
      refine cs_leaf ?_
      repeat walk_at "w1"
      obtain ⟨x, c, rfl⟩ := split_last hl.ne
      have ht := hl.top
      have hxl : (x ++ [c]).length = x.length + 1 := by simp
      rw [hxl] at ht hsz
      refine cs_consC (c_leaf ?_)
      repeat walk_at "w1"
      refine s_bytes (by omega) (by omega) (by omega) ?_
      repeat walk_at "w1"
      rw [idx_last, getD_last]
      refine cs_consC (c_leaf ?_)
      repeat walk_at "w1"
      refine ⟨_, rfl, ?_⟩
      repeat walk_at "w1"
      refine s_tupb_cut hN.nam.szs.z ?_
      repeat walk_at "w1"
      rw [show cut (some 1) none ((x ++ [c]) :: p ++ o) = p ++ o from cut_from 1 ((x ++ [c]) :: p ++ o)]
      refine cs_consC (c_IfC ?_)
      repeat walk_at "w1"
      have hr : 255 - sz (p ++ o) = 255 - sz o - sz p := by rw [sz_append]; omega
      obtain ⟨g1, g2, g3⟩ := low1_ok hl h0 (show (x ++ [c]).length + 1 ≤ 255 - sz o - sz p by rw [hxl]; omega)
      have hv : Vl (255 - sz o) (low1 (255 - sz o - sz p) (x ++ [c]) :: p) := ⟨fun m hm => (List.mem_cons.mp hm).elim (fun e => e ▸ g1) fun hm => hp.gd m (.tail _ hm), by rw [sz_cons]; omega⟩
      refine ite_joinC (fun ρ κ => ∃ a κ', κ = (a, .lst ([low1 (255 - sz o - sz p) (x ++ [c])].map .bytes)) :: κ' ∧ ρ (S "new_labels") = some (.own a) ∧ ρ (S "suffix_labels") = some (.tup ((p ++ o).map .bytes)) ∧ ρ (S "prefix_ok") = some (.bool pre)) (fun hz => ?_) (fun hz => ?_) ?_
      · have hc : c = 0 := u8_eq (by have : ((c.toNat : Int) == 0) = true := hz; simpa using this)
        refine cs_leaf ?_
        repeat walk_at "w1"
        refine e_ListOwn ?_
        repeat walk_at "w1"
        refine ⟨_, rfl, ?_⟩
        repeat walk_at "w1"
        refine s_bytes_cut (by omega) ?_
        repeat walk_at "w1"
        refine ⟨by first | exact Nat.le_of_ble_eq_true rfl | simp, fun a => ?_⟩
        repeat walk_at "w1"
        refine ⟨a, [], ?_, by walk_at "lk", by walk_at "lk", by walk_at "lk"⟩
        rw [show cut none (some (-1)) (x ++ [c]) = (x ++ [c]).take ((x ++ [c]).length - 1) from cut_but 1 (by omega) _, hxl, Nat.add_sub_cancel, List.take_left]
        have : low1 (255 - sz o - sz p) (x ++ [c]) = x := by unfold low1; rw [if_pos (by simp [hc])]; simp
        rw [this]; rfl
      · have hc : c ≠ 0 := fun e => by subst e; exact absurd hz (by decide)
        have cn : c.toNat ≠ 0 := fun e => hc (u8_eq (by rw [e]; rfl))
        have clt := c.toNat_lt
        have dn := dc_nat hc
        refine cs_consC (c_AssignC (by with_unfolding_all exact fun _ => rfl) (by kernel_rfl) ?_)
        refine e_CallNameC (f := .type "bytearray") (keep_machine rfl) (by with_unfolding_all exact fun _ => rfl) ?_
        repeat walk_at "w1"
        refine ⟨rfl, el_leaf ?_⟩
        repeat walk_at "w1"
        refine l_bytearrayC (by omega) fun a => ?_
        refine seqC_next ?_
        refine cs_consC (c_leaf ?_)
        repeat walk_at "w1"
        refine s_ba (.head _) (by omega) (by omega) (by omega) ?_
        repeat walk_at "w1"
        rw [idx_last, getD_last]
        refine cs_leaf ?_
        repeat walk_at "w1"
        refine ite_join (fun ρ κ => κ = [(a, .ba (x ++ [c]))] ∧ ρ (S "octet") = some (.int (dc c).toNat) ∧ ρ (S "octets") = some (.own a) ∧ ρ (S "suffix_labels") = some (.tup ((p ++ o).map .bytes)) ∧ ρ (S "prefix_ok") = some (.bool pre)) (fun h9 => ?_) (fun h9 => ?_) ?_
        · have h9 : (c.toNat : Int) = 91 := by simpa using h9
          rw [if_pos (by omega)] at dn
          repeat walk_at "w1"
          exact ⟨rfl, by rw [dn]; show _ = some (PV.int 64); walk_at "lk", by walk_at "lk", by walk_at "lk", by walk_at "lk"⟩
        · have h9 : ¬ (c.toNat : Int) = 91 := by simpa using h9
          rw [if_neg (by omega)] at dn
          repeat walk_at "w1"
          exact ⟨rfl, by rw [dn, show ((c.toNat - 1 : Nat) : Int) = (c.toNat : Int) - 1 by omega]; walk_at "lk", by walk_at "lk", by walk_at "lk", by walk_at "lk"⟩
        rintro ρ κ ⟨rfl, e1, e2, e3, e4⟩
        refine cs_cons ?_
        refine c_SetBa (a := 0) (by with_unfolding_all exact fun _ => rfl) ?_
        repeat walk_at "w1"
        have dlt := (dc c).toNat_lt
        refine ⟨_, _, _, _, _, rfl, rfl, rfl, rfl, by omega, by omega, by omega, by omega, by omega, ?_⟩
        rw [idx_last, u8_of, show (x ++ [c]).set x.length (dc c) = x ++ [dc c] by simp]
        repeat walk_at "w1"
        refine l_bytes_ba (.head _) (by simp; omega) ?_
        repeat walk_at "w1"
        refine e_ListOwn ?_
        repeat walk_at "w1"
        have hxl2 : (x ++ [dc c]).length = x.length + 1 := by simp
        refine v_call1 (P := True) (f_padLabel w n (b := x ++ [dc c]) (l := p ++ o) (by omega) (nmx_vl ho hp.tail).nam.szs (szs_vl ho hp.tail)) (Nat.le_add_right (n + 2) 3) ?_
        repeat walk_at "w1"
        refine ⟨by simp, fun a' => ?_⟩
        repeat walk_at "w1"
        refine ⟨a', [(a, .ba (x ++ [dc c]))], ?_, by walk_at "lk", by walk_at "lk", by walk_at "lk"⟩
        have : low1 (255 - sz o - sz p) (x ++ [c]) = padL (255 - sz (p ++ o)) (x ++ [dc c]) := by
          unfold low1; rw [if_neg (by simpa using hc), hr]; simp
        rw [this]; rfl
      rintro ρ κ ⟨a, κ', rfl, e1, e2, e3⟩
      refine cs_leaf ?_
      repeat walk_at "w1"
      refine ⟨_, _, _, rfl, rfl, ?_⟩
      repeat walk_at "w1"
      refine l_extend_tup (by have : p.length + o.length ≤ 1000 := (by simp at hNl; omega); simp; omega) ?_
      refine ⟨rfl, ?_⟩
      rw [← List.map_append]
      repeat walk_at "w1"
      refine vl_freeze ?_
      refine v_call (f_Name w (n + 1) (l := [low1 (255 - sz o - sz p) (x ++ [c])] ++ (p ++ o)) (nmx_vl ho hv).nam.toLabs) (Nat.le_refl _) (fun q hq => ?_) fun C hC => ?_
      · obtain ⟨rfl, _⟩ := hq
        repeat walk_at "w1"
        cases pre
        · refine iteF rfl ?_
          repeat walk_at "w1"
          show _ = _
          rw [prd_cons, if_neg h0]; rfl
        · refine iteT rfl ?_
          repeat walk_at "w1"
          refine v_call1 (P := True) (f_padName w n (p := low1 (255 - sz o - sz p) (x ++ [c]) :: p) ho hv) (Nat.le_refl _) ?_
          repeat walk_at "w1"
          show _ = _
          rw [prd_cons, if_neg h0]; rfl
      · have h1 := szs_vl ho hv
        have e := wire_sz (low1 (255 - sz o - sz p) (x ++ [c]) :: p ++ o)
        have : 255 < wire (low1 (255 - sz o - sz p) (x ++ [c]) :: p ++ o) := hC.2
        omega
end F8

section F9
theorem incr_none : ∀ {l : Bs}, (∀ c ∈ l, c = 255) → incr l = none
  | [], _ => rfl
  | a :: l, h => by unfold incr; rw [incr_none fun c hc => h c (.tail _ hc)]; simp [h a (.head _)]
theorem incr_at : ∀ (x : Bs) {c : UInt8} {y : Bs}, c ≠ 255 → (∀ d ∈ y, d = 255) → incr (x ++ c :: y) = some (x ++ [nx c])
  | [], c, y, hc, hy => by show incr (c :: y) = _; unfold incr; rw [incr_none hy]; simp [hc]
  | a :: x, c, y, hc, hy => by show incr (a :: (x ++ c :: y)) = _; unfold incr; rw [incr_at x hc hy]; rfl
noncomputable def down : Nat → List PV
  | 0 => []
  | k + 1 => .int k :: down k
theorem down_map : ∀ n : Nat, (List.range n).map (fun (i : Nat) => PV.int (((n : Int) - 1) + i * (-1))) = down n
  | 0 => rfl
  | n + 1 => by
    rw [List.range_succ_eq_map, List.map_cons, List.map_map, down, ← down_map n]
    congr 1
    · congr 1; omega
    · apply List.map_congr_left; intro i _; show PV.int _ = PV.int _; congr 1; omega
theorem rng_down (n : Nat) : rngItems ((n : Int) - 1) (-1) (-1) = down n := by
  unfold rngItems Builtin.Range.rangeSize
  rw [if_neg (by omega)]
  have : (if (n : Int) - 1 > -1 then ((n : Int) - 1 - -1 - 1) / (- -1) + 1 else 0).toNat = n := by
    by_cases h : n = 0
    · subst h; rfl
    · rw [if_pos (by omega), show (- -1 : Int) = 1 by rfl, Int.ediv_one]; omega
  rw [this, down_map]
noncomputable abbrev invA (o p : List Bs) (ρ : Rho) (κ : Kap) : Prop := ρ (S "origin") = some (.nm o) ∧ suc2 (255 - sz o) p = []
noncomputable abbrev invB (o p : List Bs) (N : Nat) (ρ : Rho) (κ : Kap) : Prop := ∃ p', N = p'.length ∧ Vl (255 - sz o) p' ∧ ρ (S "name") = some (.nm (p' ++ o)) ∧ ρ (S "origin") = some (.nm o) ∧ suc2 (255 - sz o) p = suc2 (255 - sz o) p'
noncomputable abbrev invC (o : List Bs) (l : Bs) (p' : List Bs) (ρ : Rho) (κ : Kap) : Prop := ρ (S "name") = some (.nm (l :: p' ++ o)) ∧ ρ (S "origin") = some (.nm o) ∧ incr l = none
noncomputable abbrev invD (o : List Bs) (l : Bs) (p' : List Bs) (a : Addr) (rest : List PV) (ρ : Rho) (κ : Kap) : Prop := ∃ k κ', k ≤ l.length ∧ rest = down k ∧ κ = (a, .ba l) :: κ' ∧ (∀ d ∈ l.drop k, d = 255) ∧ ρ (S "octets") = some (.own a) ∧ ρ (S "name") = some (.nm (l :: p' ++ o)) ∧ ρ (S "origin") = some (.nm o)
set_option maxHeartbeats 8000000 in
theorem f_absSucc (w : World) (n : Nat) {o p : List Bs} {pre : Bool} (ho : Org o) (hp : Vl (255 - sz o) p) : CTc w (.ref 473) [.nm (p ++ o), .nm o, .bool pre] (n + 7) (fun q => q = .nm ((if pre = true then suc1 (255 - sz o) p else suc2 (255 - sz o) p) ++ o)) := by
  refine ct_fnC [S "name", S "origin", S "prefix_ok"] (st := (stAt pw 30)) (name := S "_absolute_successor") (qual := S "_absolute_successor") (dV := .none) (pm := (.str (S "dns.name") 248)) (cd := 472) (by kernel_rfl) (by kernel_rfl) (len3 fun v0 v1 v2 => by kernel_rfl) (by kernel_rfl) rfl ?_
  have hN := nmx_vl ho hp
  have hO := ho.nmx
  have hs0 := ho.sz
  refine cs_consJ (fun ρ κ => ρ (S "name") = some (.nm (p ++ o)) ∧ ρ (S "origin") = some (.nm o) ∧ (if pre = true then suc1 (255 - sz o) p else suc2 (255 - sz o) p) = suc2 (255 - sz o) p) (c_leaf (c_If ?_)) ?_
  · repeat walk_at "w1"
    cases pre
    · refine iteF rfl ?_
      repeat walk_at "w1"
      exact ⟨by walk_at "lk", by walk_at "lk", rfl⟩
    · refine iteT rfl ?_
      refine cs_cons (c_Try rfl ?_)
      repeat walk_at "w1"
      refine ⟨_, rfl, ?_⟩
      repeat walk_at "w1"
      have hab : Nmx ([[0]] ++ (p ++ o)) := nmx_of (p := [0] :: p) ho (fun l hl => (List.mem_cons.mp hl).elim (fun e => e ▸ gd_zero) (hp.gd l)) (by have := sz_len (p ++ o); have := szs_vl ho hp; simp at *; omega)
      have hW : wire ([[0]] ++ (p ++ o)) = ((2 + sz p + sz o : Nat) : Int) := by
        rw [wire_sz, sz_append, sz_cons, sz_nil, sz_append, List.length_singleton]; omega
      refine v_call (f_concat w n nmx_prefix hN hab (by rfl)) (Nat.le_add_right (n + 5) 1) (fun q hq => ?_) fun C hC => ?_
      · obtain ⟨rfl, hw⟩ := hq
        repeat walk_at "w1"
        show _ = _
        have : sz p + 2 ≤ 255 - sz o := by rw [hW] at hw; omega
        rw [if_pos rfl, suc1, if_pos this]; rfl
      · obtain ⟨rfl, hw⟩ := hC
        refine ⟨_, .next, .here (x_tooLong _) (by kernel_rfl) (by kernel_rfl), .pass _, ?_⟩
        repeat walk_at "w1"
        have : ¬ sz p + 2 ≤ 255 - sz o := by rw [hW] at hw; omega
        exact ⟨by walk_at "lk", by walk_at "lk", by rw [if_pos rfl, suc1, if_neg this]⟩
  rintro ρ κ ⟨e1, e2, eT⟩
  rw [eT]
  refine cs_consJ (invA o p) (c_WhileC (invB o p) p.length ⟨p, rfl, hp, e1, e2, rfl⟩ ?_) ?_
  · rintro N ρ κ ⟨p', rfl, hp', h1, h2, h3⟩
    have hN' := nmx_vl ho hp'
    repeat walk_at "w1"
    refine v_ne_nm (f_ne w (n + 3) hN'.nam hO.nam) (Nat.le_refl _) ?_
    repeat walk_at "w1"
    cases p' with
    | nil =>
      refine iteF (by simp) ?_
      refine jR_next ⟨h2, by rw [h3]; rfl⟩
    | cons l p' =>
      refine iteT (by simpa using org_ne) ?_
      have hl := hp'.gd l (.head _)
      have hsz := hp'.sz
      rw [sz_cons] at hsz
      have hlt := hl.top
      have hNl : p'.length + o.length + 1 ≤ 1000 := by have := hN'.n; simp at this; omega
      refine cs_consC (c_leaf ?_)
      repeat walk_at "w1"
      refine s_nm (by with_unfolding_all exact fun _ _ => rfl) (f_getitem w (n + 2) hN'.nam.szs (i := 0) (by omega) (by simp; omega)) (by show n + 2 + 1 < n + 6; omega) ?_
      repeat walk_at "w1"
      rw [show idx (l :: p' ++ o).length 0 = 0 by rfl, show (l :: p' ++ o).getD 0 [] = l by rfl]
      refine cs_consJ (fun ρ κ => ρ (S "name") = some (.nm (l :: p' ++ o)) ∧ ρ (S "origin") = some (.nm o) ∧ ρ (S "least_significant_label") = some (.bytes l) ∧ ¬ (l.length < 63 ∧ sz (l :: p') + 1 ≤ 255 - sz o)) (c_leaf (c_If ?_)) ?_
      · repeat walk_at "w1"
        refine l_len_b (by omega) ?_
        repeat walk_at "w1"
        by_cases h63 : l.length < 63
        · refine iteT (by simp; omega) ?_
          repeat walk_at "w1"
          refine e_ListOwn ?_
          repeat walk_at "w1"
          refine v_badd (by simp; omega) ?_
          repeat walk_at "w1"
          refine ⟨by first | exact Nat.le_of_ble_eq_true rfl | simp, fun a => ?_⟩
          repeat walk_at "w1"
          refine ⟨_, _, _, rfl, rfl, ?_⟩
          repeat walk_at "w1"
          refine ⟨_, rfl, ?_⟩
          repeat walk_at "w1"
          refine s_tupb_cut hN'.nam.szs.z ?_
          repeat walk_at "w1"
          rw [show cut (some 1) none (l :: p' ++ o) = p' ++ o from cut_from 1 (l :: p' ++ o)]
          refine l_extend_tup (by simp; omega) ?_
          refine ⟨rfl, ?_⟩
          rw [show ([PV.bytes (l ++ #[0].toList)] ++ (p' ++ o).map .bytes) = (((l ++ [0]) :: p') ++ o).map PV.bytes by simp]
          refine seq_next (cs_cons (c_Try rfl ?_))
          repeat walk_at "w1"
          refine vl_freeze ?_
          have hg : ∀ m ∈ (l ++ [0]) :: p', Gd m := fun m hm => (List.mem_cons.mp hm).elim (fun e => e ▸ ⟨by simp, by simp; omega, caps_app hl.caps gd_zero.caps⟩) fun hm => hp'.gd m (.tail _ hm)
          have hab : Nmx ((l ++ [0]) :: p' ++ o) := nmx_of (p := (l ++ [0]) :: p') ho hg (by simp; omega)
          have hW := wire_sz ((l ++ [0]) :: p' ++ o)
          rw [sz_append, sz_cons, List.length_append, List.length_singleton] at hW
          refine v_call (f_Name w n hab.nam.toLabs) (Nat.le_add_right (n + 4) 2) (fun q hq => ?_) fun C hC => ?_
          · obtain ⟨rfl, hw⟩ := hq
            repeat walk_at "w1"
            show _ = _
            have : l.length < 63 ∧ sz (l :: p') + 1 ≤ 255 - sz o := ⟨h63, by rw [sz_cons]; omega⟩
            rw [h3, suc2, if_pos this]
          · obtain ⟨rfl, hw⟩ := hC
            refine ⟨_, .next, .here (x_tooLong _) (by kernel_rfl) (by kernel_rfl), .pass _, ?_⟩
            repeat walk_at "w1"
            exact ⟨by walk_at "lk", by walk_at "lk", by walk_at "lk", fun h => by have := h.2; rw [sz_cons] at this; omega⟩
        · refine iteF (by simp; omega) ?_
          repeat walk_at "w1"
          exact ⟨by walk_at "lk", by walk_at "lk", by walk_at "lk", fun h => h63 h.1⟩
      rintro ρ κ ⟨h1, h2, h4, hno⟩
      refine cs_consC (c_AssignC (by with_unfolding_all exact fun _ => rfl) (by kernel_rfl) ?_)
      refine e_CallNameC (f := .type "bytearray") (keep_machine rfl) (by with_unfolding_all exact fun _ => rfl) ?_
      repeat walk_at "w1"
      refine ⟨rfl, el_leaf ?_⟩
      repeat walk_at "w1"
      refine l_bytearrayC (by omega) fun a => ?_
      refine seqC_next ?_
      refine cs_consJ (invC o l p') (c_leaf (c_For (invD o l p' a) (fun _ _ => rfl) (by kernel_rfl) ?_ ?_ ?_)) ?_
      · repeat walk_at "w1"
        refine l_len_ba (.head _) (by omega) ?_
        repeat walk_at "w1"
        refine l_range3 (by omega) (.inr (by decide)) (PyProof.noPylong_small (by decide)) ?_
        refine ⟨_, it_rng _ _ _ _ (small_down (by omega) (by omega) (by omega) (by omega)), l.length, κ, Nat.le_refl _, rng_down _, rfl, by simp, by walk_at "lk", by walk_at "lk", by walk_at "lk"⟩
      · rintro q rest ρ κ ⟨k, κ', hk, e, rfl, hd, g1, g2, g3⟩
        cases k with
        | zero => cases e
        | succ k =>
          obtain ⟨rfl, rfl⟩ := List.cons.inj e
          have hix : idx l.length (k : Int) = k := idx_nat
          have hdk : l.drop k = l.getD k 0 :: l.drop (k + 1) := by
            rw [List.drop_eq_getElem_cons (by omega), List.getD_eq_getElem?_getD, List.getElem?_eq_getElem (by omega)]; rfl
          have hlk : l = l.take k ++ l.getD k 0 :: l.drop (k + 1) := by rw [← hdk, List.take_append_drop]
          generalize hc : l.getD k 0 = c at hdk hlk
          have clt := c.toNat_lt
          refine cs_cons ?_
          repeat walk_at "w1"
          refine s_ba (.head _) (by omega) (by omega) (by omega) ?_
          rw [hix, hc]
          repeat walk_at "w1"
          by_cases h255 : c = 255
          · subst h255
            refine iteT (by decide) ?_
            repeat walk_at "w1"
            exact ⟨k, κ', by omega, rfl, rfl, fun d hd' => by
              rw [hdk] at hd'
              exact (List.mem_cons.mp hd').elim id (hd d), by walk_at "lk", by walk_at "lk", by walk_at "lk"⟩
          · have n255 : c.toNat ≠ 255 := fun e => h255 (u8_eq (by rw [e]; rfl))
            have nn := nx_nat h255
            have nlt := (nx c).toNat_lt
            refine iteF (by simp; omega) ?_
            repeat walk_at "w1"
            refine ite_join (fun ρ κ => κ = (a, .ba l) :: κ' ∧ ρ (S "octet") = some (.int (nx c).toNat) ∧ ρ (S "octets") = some (.own a) ∧ ρ (S "name") = some (.nm (l :: p' ++ o)) ∧ ρ (S "i") = some (.int k)) (fun h9 => ?_) (fun h9 => ?_) ?_
            · have h9 : (c.toNat : Int) = 64 := by simpa using h9
              rw [if_pos (by omega)] at nn
              repeat walk_at "w1"
              exact ⟨rfl, by rw [nn]; show _ = some (PV.int 91); walk_at "lk", by walk_at "lk", by walk_at "lk", by walk_at "lk"⟩
            · have h9 : ¬ (c.toNat : Int) = 64 := by simpa using h9
              rw [if_neg (by omega)] at nn
              repeat walk_at "w1"
              exact ⟨rfl, by rw [nn, show ((c.toNat + 1 : Nat) : Int) = (c.toNat : Int) + 1 by omega]; walk_at "lk", by walk_at "lk", by walk_at "lk", by walk_at "lk"⟩
            rintro ρ κ ⟨rfl, q1, q2, q3, q4⟩
            refine cs_cons ?_
            refine c_SetBa (a := 0) (by with_unfolding_all exact fun _ => rfl) ?_
            repeat walk_at "w1"
            refine ⟨_, _, _, _, _, rfl, rfl, rfl, rfl, by omega, by omega, by omega, by omega, by omega, ?_⟩
            rw [hix, u8_of]
            have hset : (l.set k (nx c)).take (k + 1) = l.take k ++ [nx c] := by
              rw [List.take_set, List.take_add_one, List.getElem?_eq_getElem (by omega)]
              rw [show (l.take k ++ (some l[k]).toList) = l.take k ++ [l[k]] from rfl]
              rw [List.set_append_right _ _ (by simp; omega)]
              rw [show k - (l.take k).length = 0 by simp; omega]
              rfl
            repeat walk_at "w1"
            refine e_ListOwn ?_
            repeat walk_at "w1"
            refine ⟨_, rfl, ?_⟩
            refine s_ba_cut (.head _) (by rw [List.length_set]; omega) fun a2 => ?_
            repeat walk_at "w1"
            rw [show (k : Int) + 1 = ((k + 1 : Nat) : Int) by omega, cut_upto, hset]
            have htl : (l.take k ++ [nx c]).length = k + 1 := by simp; omega
            refine l_bytes_ba (.head _) (by omega) ?_
            repeat walk_at "w1"
            refine ⟨by simp, fun a3 => ?_⟩
            repeat walk_at "w1"
            refine ⟨_, _, _, rfl, rfl, ?_⟩
            repeat walk_at "w1"
            refine ⟨_, rfl, ?_⟩
            repeat walk_at "w1"
            refine s_tupb_cut hN'.nam.szs.z ?_
            repeat walk_at "w1"
            rw [show cut (some 1) none (l :: p' ++ o) = p' ++ o from cut_from 1 (l :: p' ++ o)]
            refine l_extend_tup (by simp; omega) ?_
            refine ⟨rfl, ?_⟩
            rw [show ([PV.bytes (l.take k ++ [nx c])] ++ (p' ++ o).map .bytes) = (((l.take k ++ [nx c]) :: p') ++ o).map PV.bytes by simp]
            repeat walk_at "w1"
            refine vl_freeze ?_
            have hi : incr l = some (l.take k ++ [nx c]) := by rw [hlk]; rw [incr_at _ h255 hd]; simp [← hlk]
            obtain ⟨i1, i2, i3, i4⟩ := incr_gt hi
            have hv : Vl (255 - sz o) ((l.take k ++ [nx c]) :: p') := ⟨fun m hm => (List.mem_cons.mp hm).elim (fun e => e ▸ ⟨i2, by omega, i4 hl.caps⟩) fun hm => hp'.gd m (.tail _ hm), by rw [sz_cons]; omega⟩
            refine v_call (f_Name w n (nmx_vl ho hv).nam.toLabs) (Nat.le_add_right (n + 4) 2) (fun q hq => ?_) fun C hC => ?_
            · obtain ⟨rfl, hw⟩ := hq
              repeat walk_at "w1"
              show _ = _
              rw [h3, suc2, if_neg hno, hi]
            · have := szs_vl ho hv
              have e := wire_sz ((l.take k ++ [nx c]) :: p' ++ o)
              have : 255 < wire ((l.take k ++ [nx c]) :: p' ++ o) := hC.2
              omega
      · rintro ρ κ ⟨k, κ', hk, e, rfl, hd, g1, g2, g3⟩
        cases k with
        | succ k => cases e
        | zero =>
          rw [List.drop_zero] at hd
          exact ⟨g2, g3, incr_none hd⟩
      rintro ρ κ ⟨g1, g2, g3⟩
      refine cs_consC (c_leaf ?_)
      repeat walk_at "w1"
      refine ⟨_, rfl, ?_⟩
      refine v_call1 (P := True) (f_parent w n (b := l) (p := p' ++ o) hN' (nmx_vl ho hp'.tail) (fun e => by have := hl.pos; injection e with e _; subst e; simp at this) (szs_vl ho hp'.tail)) (Nat.le_add_right (n + 5) 1) ?_
      repeat walk_at "w1"
      refine cs_nilC (turn_next ⟨p'.length, by simp, p', rfl, hp'.tail, by walk_at "lk", by walk_at "lk", ?_⟩)
      rw [h3, suc2, if_neg hno, g3]
  · rintro ρ κ ⟨g1, g2⟩
    refine cs_leaf ?_
    repeat walk_at "w1"
    show _ = _
    rw [g2]; rfl
end F9

section F10
theorem ct_bindA {w : World} {name qual : Str} {params : Arguments} {body : List Stmt} {scope : Scope} {dV pm : Value} {cd a : Addr} (ns : List Str) {ps qs : List PV} {n : Nat} {Q : PV → Prop} {X : Addr → Prop}
    (hK : (KF pw w.params).lookup a = some ⟨.type "function", none, .func (fobj name qual params body scope dV pm cd), #[]⟩) (hcd : codeIn (KF pw w.params) (.ref cd) qual = true)
    (hbind : ∀ (s : Shared) (g : Heap) (as : List Value), Wd w s.heap → Sub g s.heap → Reps g as qs → ∃ vs, BindsTo s (fobj name qual params body scope dV pm cd) ⟨as, []⟩ (ns.zip vs) ∧ Reps g vs ps) (ok : fnOk scope ns = true)
    (hbody : CS ⟨w, scope, n, true⟩ body (binds ns ps) [] (QB Q) (fun C _ _ => X C)) : CT w (.ref a) qs (n + 1) Q X := fun A fs g R s as hfr hh hb L hr hg => by
  obtain ⟨nd, hloc, hcell, hk, hco, hgen⟩ := fnOk_of ok
  obtain ⟨vs, hB, hr'⟩ := hbind s g as (L.W.keeps L.keep) L.keep hr
  refine wpAny_call (def_entry (cs := []) hfr hh hb L .nil hr' hg hK hcd hB nd hloc hcell hk hco hgen hbody (fun v p s' g' ρ' κ' cs' k L' _ st rv q => ?_) (fun e s' q => ?_) (fun _ _ => ⟨fun h => h, fun h => h⟩))
  · exact ⟨g', p, k, L'.dropL, st, rv, q.elim id fun ⟨e, z⟩ => e ▸ z⟩
  · obtain ⟨g', C, ea, a0, B, ρ', κ', h1, h2, h3, h4, h5, h6, h7, h8⟩ := q
    exact ⟨g', C, ea, a0, B, h1, h2, h3, h4, h5, h6, h7, h8⟩
theorem v_not {c : Jx} {ρ : Rho} {κ : Kap} {X : XP} {Q : PV → Rho → Kap → Prop} {b : Bool} (h : Q (.bool (!b)) ρ κ) : V1 c (unaryOp .Not) (.bool b) ρ κ Q X := fun A fs E g R s v G S hg r => by
  cases r
  exact PyProof.Rows.not_of (wpAny_truthy_bool (post0 S (.bool _) h))
/-- what is told: onward or back -/
noncomputable def told (onw pre : Bool) (B : Nat) (p : List Bs) : List Bs := if onw = true then (if pre = true then suc1 B p else suc2 B p) else prd B pre p
theorem told_ok {onw pre : Bool} {B : Nat} {p : List Bs} (h : Vl B p) : Vl B (told onw pre B p) := by
  unfold told
  cases onw
  · rw [if_neg (by decide)]
    cases p with
    | nil => exact padN_ok h
    | cons l p => exact (prd_ok h).1
  · rw [if_pos rfl]
    cases pre
    · rw [if_neg (by decide)]; exact (suc2_ok h).1
    · rw [if_pos rfl]; exact (suc1_ok h).1
theorem f_handle (w : World) (n : Nat) {o p : List Bs} {onw pre rel : Bool} (ho : Org o) (hp : Vl (255 - sz o) p) :
    CTc w (.ref 480) [.bool onw, .nm (if rel = true then p else p ++ o), .nm o, .bool pre] (n + 8) (fun q => q = .nm (if rel = true then told onw pre (255 - sz o) p else told onw pre (255 - sz o) p ++ o)) := by
  refine ct_fnC [S "onward", S "name", S "origin", S "prefix_ok"] (st := (stAt pw 31)) (name := S "_handle_relativity_and_call") (qual := S "_handle_relativity_and_call") (dV := .none) (pm := (.str (S "dns.name") 248)) (cd := 479) (by kernel_rfl) (by kernel_rfl) (len4 fun v0 v1 v2 v3 => by kernel_rfl) (by kernel_rfl) rfl ?_
  have hN := nmx_vl ho hp
  have hP : Nmx p := nmx_rel hp.gd (by have := hN.n; rw [List.length_append] at this; omega)
  have hO := ho.nmx
  have hT := told_ok (onw := onw) (pre := pre) hp
  have hX : Nmx (if rel = true then p else p ++ o) := by cases rel; exact hN; exact hP
  refine cs_consC (c_leaf (c_If ?_))
  repeat walk_at "w1"
  refine ⟨_, rfl, v_call1 (P := True) (f_isAbs w n hO.nam.szs) (Nat.le_add_right (n + 1) 6) ?_⟩
  repeat walk_at "w1"
  rw [show isAbs o = true from ho.abs []]
  refine iteF rfl ?_
  repeat walk_at "w1"
  refine cs_consC (c_leaf ?_)
  repeat walk_at "w1"
  refine ⟨_, rfl, v_call1 (P := True) (f_isAbs w n hX.nam.szs) (Nat.le_add_right (n + 1) 6) ?_⟩
  refine v_not ?_
  have hr : (!isAbs (if rel = true then p else p ++ o)) = rel := by cases rel; exact congrArg not (ho.abs p); exact congrArg not (rel_abs hp.gd)
  rw [hr]
  repeat walk_at "w1"
  refine cs_consJ (fun ρ κ => ρ (S "name") = some (.nm (p ++ o)) ∧ ρ (S "origin") = some (.nm o) ∧ ρ (S "prefix_ok") = some (.bool pre) ∧ ρ (S "onward") = some (.bool onw) ∧ ρ (S "relative") = some (.bool rel)) (c_leaf (c_If ?_)) ?_
  · repeat walk_at "w1"
    cases rel
    · refine iteF rfl ?_
      repeat walk_at "w1"
      refine ⟨_, rfl, ?_⟩
      repeat walk_at "w1"
      refine v_call (f_isSub w n hN.nam hO.nam (ho.abs p) (ho.abs [])) (Nat.le_add_right (n + 3) 4) (fun q hq => ?_) fun C hC => hC.elim
      obtain ⟨t, rfl, ht⟩ := hq
      have : t = true := ht.mpr (List.suffix_append p o)
      subst this
      repeat walk_at "w1"
      refine iteF rfl ?_
      repeat walk_at "w1"
      exact ⟨by show _ = some (PV.nm (if false = true then p else p ++ o)); walk_at "lk", by walk_at "lk", by walk_at "lk", by walk_at "lk", by walk_at "lk"⟩
    · refine iteT rfl ?_
      repeat walk_at "w1"
      refine ⟨_, rfl, ?_⟩
      repeat walk_at "w1"
      refine v_call1 (P := True) (f_derelativize w n ho hp) (Nat.le_add_right (n + 6) 1) ?_
      repeat walk_at "w1"
      exact ⟨by show _ = some (PV.nm ((if true = true then p else p ++ o) ++ o)); walk_at "lk", by walk_at "lk", by walk_at "lk", by walk_at "lk", by walk_at "lk"⟩
  rintro ρ κ ⟨e1, e2, e3, e4, e5⟩
  refine cs_consJ (fun ρ κ => ρ (S "result_name") = some (.nm (told onw pre (255 - sz o) p ++ o)) ∧ ρ (S "origin") = some (.nm o) ∧ ρ (S "relative") = some (.bool rel)) (c_IfC ?_) ?_
  · repeat walk_at "w1"
    cases onw
    · refine iteF rfl ?_
      refine cs_consC (c_AssignC (by with_unfolding_all exact fun _ => rfl) (by kernel_rfl) ?_)
      refine e_CallNameC (f := .ref 466) (keep_ref (by kernel_rfl)) (by with_unfolding_all exact fun _ => rfl) ?_
      repeat walk_at "w1"
      refine ⟨rfl, el_leaf ?_⟩
      repeat walk_at "w1"
      refine v_call1C (f_absPred w n ho hp) (Nat.le_add_right (n + 6) 1) ?_
      repeat walk_at "w1"
      refine cs_nilC (jR_next ⟨by show _ = some (PV.nm (prd (255 - sz o) pre p ++ o)); walk_at "lk", by walk_at "lk", by walk_at "lk"⟩)
    · refine iteT rfl ?_
      refine cs_consC (c_AssignC (by with_unfolding_all exact fun _ => rfl) (by kernel_rfl) ?_)
      refine e_CallNameC (f := .ref 473) (keep_ref (by kernel_rfl)) (by with_unfolding_all exact fun _ => rfl) ?_
      repeat walk_at "w1"
      refine ⟨rfl, el_leaf ?_⟩
      repeat walk_at "w1"
      refine v_call1C (f_absSucc w n ho hp) (Nat.le_refl _) ?_
      repeat walk_at "w1"
      refine cs_nilC (jR_next ⟨by show _ = some (PV.nm ((if pre = true then suc1 (255 - sz o) p else suc2 (255 - sz o) p) ++ o)); walk_at "lk", by walk_at "lk", by walk_at "lk"⟩)
  rintro ρ κ ⟨e1, e2, e3⟩
  refine cs_leaf ?_
  repeat walk_at "w1"
  cases rel
  · refine iteF rfl ?_
    repeat walk_at "w1"
    rfl
  · refine iteT rfl ?_
    repeat walk_at "w1"
    refine ⟨_, rfl, ?_⟩
    repeat walk_at "w1"
    refine v_call1 (P := True) (f_relativize w n ho hT) (Nat.le_add_right (n + 5) 2) ?_
    repeat walk_at "w1"
    rfl
theorem f_handleBad (w : World) (n : Nat) {a b : List Bs} {onw pre : Bool} {C0 : Addr} (ha : Nam a) (hb : Nam b) (h : (isAbs b = false ∧ C0 = 94) ∨ (isAbs b = true ∧ isAbs a = true ∧ ¬ b <:+ a ∧ C0 = 154)) :
    CT w (.ref 480) [.bool onw, .nm a, .nm b, .bool pre] (n + 8) (fun _ => False) (fun C => C = C0) := by
  refine d_handlerelativityandcall ?_
  refine cs_cons ?_
  repeat walk_at "w1"
  refine ⟨_, rfl, v_call1 (P := True) (f_isAbs w n hb.szs) (Nat.le_add_right (n + 1) 6) ?_⟩
  repeat walk_at "w1"
  rcases h with ⟨h, rfl⟩ | ⟨h, h2, h3, rfl⟩
  · rw [h]
    refine iteT rfl ?_
    refine cs_cons ?_
    exact c_Raise (x_needAbs _) (by kernel_rfl) (by kernel_rfl) rfl rfl
  · rw [h]
    refine iteF rfl ?_
    repeat walk_at "w1"
    refine ⟨_, rfl, v_call1 (P := True) (f_isAbs w n ha.szs) (Nat.le_add_right (n + 1) 6) ?_⟩
    refine v_not ?_
    rw [h2]
    repeat walk_at "w1"
    refine iteF rfl ?_
    repeat walk_at "w1"
    refine ⟨_, rfl, ?_⟩
    repeat walk_at "w1"
    refine v_call (f_isSub w n ha hb h2 h) (Nat.le_add_right (n + 3) 4) (fun q hq => ?_) fun C hC => hC.elim
    obtain ⟨t, rfl, ht⟩ := hq
    have : t = false := by cases t; rfl; exact absurd (ht.mp rfl) h3
    subst this
    repeat walk_at "w1"
    refine iteT rfl ?_
    refine cs_cons ?_
    exact c_Raise (x_needSub _) (by kernel_rfl) (by kernel_rfl) rfl rfl
/-! ## successor, predecessor -/
theorem reps_two {g : Heap} {as : List Value} {p q : PV} (r : Reps g as [p, q]) : ∃ a b, as = [a, b] ∧ Rep g a p ∧ Rep g b q := r.two_inv
theorem reps_three {g : Heap} {as : List Value} {p q r : PV} (h : Reps g as [p, q, r]) : ∃ a b c, as = [a, b, c] ∧ Rep g a p ∧ Rep g b q ∧ Rep g c r := h.three_inv
section
variable (w : World) (n : Nat) {o p : List Bs} {rel pre : Bool} (ho : Org o) (hp : Vl (255 - sz o) p)
include ho hp
theorem b_succ : CSc ⟨w, fnS (subAt (stAt pw 16) 28), n + 8, true⟩ (fnB (subAt (stAt pw 16) 28)) (binds [S "self", S "origin", S "prefix_ok"] [.nm (if rel = true then p else p ++ o), .nm o, .bool pre]) [] (QB fun q => q = .nm (if rel = true then told true pre (255 - sz o) p else told true pre (255 - sz o) p ++ o)) := by
  refine cs_consC (c_ReturnC ?_)
  refine e_CallNameC (f := .ref 480) (keep_ref (by kernel_rfl)) (by with_unfolding_all exact fun _ => rfl) ?_
  repeat walk_at "w1"
  refine ⟨rfl, el_leaf ?_⟩
  repeat walk_at "w1"
  refine v_call1C (f_handle w n ho hp) (Nat.le_refl _) ?_
  repeat walk_at "w1"
  rfl
theorem b_pred : CSc ⟨w, fnS (subAt (stAt pw 16) 27), n + 8, true⟩ (fnB (subAt (stAt pw 16) 27)) (binds [S "self", S "origin", S "prefix_ok"] [.nm (if rel = true then p else p ++ o), .nm o, .bool pre]) [] (QB fun q => q = .nm (if rel = true then told false pre (255 - sz o) p else told false pre (255 - sz o) p ++ o)) := by
  refine cs_consC (c_ReturnC ?_)
  refine e_CallNameC (f := .ref 480) (keep_ref (by kernel_rfl)) (by with_unfolding_all exact fun _ => rfl) ?_
  repeat walk_at "w1"
  refine ⟨rfl, el_leaf ?_⟩
  repeat walk_at "w1"
  refine v_call1C (f_handle w n ho hp) (Nat.le_refl _) ?_
  repeat walk_at "w1"
  rfl
theorem f_succ2 : CTc w (.ref 384) [.nm (if rel = true then p else p ++ o), .nm o] (n + 9) (fun q => q = .nm (if rel = true then told true true (255 - sz o) p else told true true (255 - sz o) p ++ o)) :=
  ct_bindC [S "self", S "origin", S "prefix_ok"] (name := S "successor") (qual := S "Name.successor") (dV := .ref 377) (pm := .str (S "dns.name") 248) (cd := 383) (params := fnP (subAt (stAt pw 16) 28)) (by kernel_rfl) (by kernel_rfl)
    (fun s g as W k r => by obtain ⟨a, b, rfl, ra, rb⟩ := reps_two r; exact ⟨_, bind_succ W a b, .cons ra (.cons rb (.cons (.bool true) .nil))⟩) (by kernel_rfl) (b_succ w n ho hp)
theorem f_succ3 : CTc w (.ref 384) [.nm (if rel = true then p else p ++ o), .nm o, .bool pre] (n + 9) (fun q => q = .nm (if rel = true then told true pre (255 - sz o) p else told true pre (255 - sz o) p ++ o)) :=
  ct_bindC [S "self", S "origin", S "prefix_ok"] (name := S "successor") (qual := S "Name.successor") (dV := .ref 377) (pm := .str (S "dns.name") 248) (cd := 383) (params := fnP (subAt (stAt pw 16) 28)) (by kernel_rfl) (by kernel_rfl)
    (fun s g as W k r => by obtain ⟨a, b, d, rfl, ra, rb, rd⟩ := reps_three r; exact ⟨_, bind_succ3 W a b d, .cons ra (.cons rb (.cons rd .nil))⟩) (by kernel_rfl) (b_succ w n ho hp)
theorem f_pred2 : CTc w (.ref 376) [.nm (if rel = true then p else p ++ o), .nm o] (n + 9) (fun q => q = .nm (if rel = true then told false true (255 - sz o) p else told false true (255 - sz o) p ++ o)) :=
  ct_bindC [S "self", S "origin", S "prefix_ok"] (name := S "predecessor") (qual := S "Name.predecessor") (dV := .ref 369) (pm := .str (S "dns.name") 248) (cd := 375) (params := fnP (subAt (stAt pw 16) 27)) (by kernel_rfl) (by kernel_rfl)
    (fun s g as W k r => by obtain ⟨a, b, rfl, ra, rb⟩ := reps_two r; exact ⟨_, bind_pred W a b, .cons ra (.cons rb (.cons (.bool true) .nil))⟩) (by kernel_rfl) (b_pred w n ho hp)
theorem f_pred3 : CTc w (.ref 376) [.nm (if rel = true then p else p ++ o), .nm o, .bool pre] (n + 9) (fun q => q = .nm (if rel = true then told false pre (255 - sz o) p else told false pre (255 - sz o) p ++ o)) :=
  ct_bindC [S "self", S "origin", S "prefix_ok"] (name := S "predecessor") (qual := S "Name.predecessor") (dV := .ref 369) (pm := .str (S "dns.name") 248) (cd := 375) (params := fnP (subAt (stAt pw 16) 27)) (by kernel_rfl) (by kernel_rfl)
    (fun s g as W k r => by obtain ⟨a, b, d, rfl, ra, rb, rd⟩ := reps_three r; exact ⟨_, bind_pred3 W a b d, .cons ra (.cons rb (.cons rd .nil))⟩) (by kernel_rfl) (b_pred w n ho hp)
end
theorem f_succBad (w : World) (n : Nat) {a b : List Bs} {C0 : Addr} (ha : Nam a) (hb : Nam b) (h : (isAbs b = false ∧ C0 = 94) ∨ (isAbs b = true ∧ isAbs a = true ∧ ¬ b <:+ a ∧ C0 = 154)) : CT w (.ref 384) [.nm a, .nm b] (n + 9) (fun _ => False) (fun C => C = C0) := by
  refine ct_bindA [S "self", S "origin", S "prefix_ok"] (ps := [.nm a, .nm b, .bool true]) (name := S "successor") (qual := S "Name.successor") (dV := .ref 377) (pm := .str (S "dns.name") 248) (cd := 383) (params := fnP (subAt (stAt pw 16) 28)) (body := fnB (subAt (stAt pw 16) 28)) (scope := fnS (subAt (stAt pw 16) 28)) (by kernel_rfl) (by kernel_rfl)
    (fun s g as W k r => by obtain ⟨a, b, rfl, ra, rb⟩ := reps_two r; exact ⟨_, bind_succ W a b, .cons ra (.cons rb (.cons (.bool true) .nil))⟩) (by kernel_rfl) ?_
  refine cs_cons ?_
  repeat walk_at "w1"
  exact v_call (f_handleBad w n ha hb h) (Nat.le_refl _) (fun q hq => hq.elim) fun C hC => hC
theorem f_predBad (w : World) (n : Nat) {a b : List Bs} {C0 : Addr} (ha : Nam a) (hb : Nam b) (h : (isAbs b = false ∧ C0 = 94) ∨ (isAbs b = true ∧ isAbs a = true ∧ ¬ b <:+ a ∧ C0 = 154)) : CT w (.ref 376) [.nm a, .nm b] (n + 9) (fun _ => False) (fun C => C = C0) := by
  refine ct_bindA [S "self", S "origin", S "prefix_ok"] (ps := [.nm a, .nm b, .bool true]) (name := S "predecessor") (qual := S "Name.predecessor") (dV := .ref 369) (pm := .str (S "dns.name") 248) (cd := 375) (params := fnP (subAt (stAt pw 16) 27)) (body := fnB (subAt (stAt pw 16) 27)) (scope := fnS (subAt (stAt pw 16) 27)) (by kernel_rfl) (by kernel_rfl)
    (fun s g as W k r => by obtain ⟨a, b, rfl, ra, rb⟩ := reps_two r; exact ⟨_, bind_pred W a b, .cons ra (.cons rb (.cons (.bool true) .nil))⟩) (by kernel_rfl) ?_
  refine cs_cons ?_
  repeat walk_at "w1"
  exact v_call (f_handleBad w n ha hb h) (Nat.le_refl _) (fun q hq => hq.elim) fun C hC => hC
end F10

section F11
theorem iteT' {A B : Prop} (a : A) : if true = true then A else B := a
theorem iteF' {A B : Prop} (b : B) : if false = true then A else B := b
/-- octets as numbers, without capitals -/
noncomputable def OcOk (L : List Int) : Prop := ∀ x ∈ L, 0 ≤ x ∧ x ≤ 255 ∧ ¬ (65 ≤ x ∧ x ≤ 90)
theorem ocOk_app {a b : List Int} (h : OcOk a) (k : OcOk b) : OcOk (a ++ b) := fun x hx => (List.mem_append.mp hx).elim (h x) (k x)
theorem fmod_pos {a : Int} {b : Int} (hb : 0 < b) : a.fmod b = a % b := Int.fmod_eq_emod_of_nonneg a (Int.le_of_lt hb)
theorem f_octets (w : World) (n : Nat) (i : Int) : CT w (.ref 487) [.int i] (n + 1) (fun q => ∃ L : List Int, q = .lst (L.map .int) ∧ OcOk L ∧ L.length ≤ 63) noC := by
  refine d_lawoctets ?_
  refine cs_cons ?_
  repeat walk_at "w1"
  refine e_ListOwn ?_
  repeat walk_at "w1"
  refine ⟨by first | exact Nat.le_of_ble_eq_true rfl | simp, fun a => ?_⟩
  repeat walk_at "w1"
  refine c_While (fun N ρ κ => ∃ (L : List Int) (m : Int), κ = [(a, .lst (L.map .int))] ∧ ρ (S "found") = some (.own a) ∧ ρ (S "number") = some (.int m) ∧ OcOk L ∧ N + L.length = 63) 63 ⟨[], _, rfl, by walk_at "lk", by walk_at "lk", (fun _ h => by cases h), rfl⟩ ?_
  rintro N ρ κ ⟨L, m, rfl, h1, h2, h3, h4⟩
  repeat walk_at "w1"
  have out : ∀ p1 p2 : Pos, seqQ ⟨w, fnS (stAt pw 33), n, true⟩ [Stmt.Return (some (.Name (S "found") p1)) p2] (QB fun q => ∃ L : List Int, q = .lst (L.map .int) ∧ OcOk L ∧ L.length ≤ 63) (fun C _ _ => noC C) .next ρ [(a, .lst (L.map .int))] := by
    intro p1 p2
    refine seq_next (cs_freeze (by kernel_rfl) h1 ?_)
    repeat walk_at "w1"
    exact ⟨L, rfl, h3, by omega⟩
  by_cases hm : 0 < m
  · refine iteT (by simpa using hm) ?_
    repeat walk_at "w1"
    refine l_len_own (by rw [List.length_map]; omega) (.head _) ?_
    repeat walk_at "w1"
    rw [List.length_map]
    by_cases hL : L.length < 63
    · refine iteT (by simp; omega) ?_
      repeat walk_at "w1"
      refine iteT rfl ?_
      repeat walk_at "w1"
      refine v_mod (by omega) ?_
      rw [fmod_pos (by omega)]
      repeat walk_at "w1"
      refine ⟨_, _, _, rfl, rfl, ?_⟩
      repeat walk_at "w1"
      have hx : 0 ≤ m % 230 ∧ m % 230 < 230 := by omega
      generalize m % 230 = x at *
      have fin : ∀ y : Int, 0 ≤ y ∧ y ≤ 255 ∧ ¬ (65 ≤ y ∧ y ≤ 90) → ∃ N', N' < N ∧ ∃ (L' : List Int), ∃ m' : Int, [(a, MV.lst (L.map PV.int ++ [PV.int y]))] = [(a, .lst (L'.map .int))] ∧ OcOk L' ∧ N' + L'.length = 63 := fun y hy =>
        ⟨N - 1, by omega, L ++ [y], m.fdiv 230, by simp, ocOk_app h3 fun z hz => by rw [List.mem_singleton] at hz; subst hz; exact hy, by simp; omega⟩
      by_cases h65 : x < 65
      · refine iteT (by simpa using h65) ?_
        repeat walk_at "w1"
        refine l_append (by rw [List.length_map]; omega) ?_
        refine ⟨rfl, ?_⟩
        repeat walk_at "w1"
        refine v_div (by omega) (by decide) ?_
        repeat walk_at "w1"
        obtain ⟨N', hN, L', m', e, h5, h6⟩ := fin x (by omega)
        exact ⟨N', hN, L', _, e, by walk_at "lk", by walk_at "lk", h5, h6⟩
      · refine iteF (by simpa using h65) ?_
        repeat walk_at "w1"
        refine l_append (by rw [List.length_map]; omega) ?_
        refine ⟨rfl, ?_⟩
        repeat walk_at "w1"
        refine v_div (by omega) (by decide) ?_
        repeat walk_at "w1"
        obtain ⟨N', hN, L', m', e, h5, h6⟩ := fin (x + 26) (by omega)
        exact ⟨N', hN, L', _, e, by walk_at "lk", by walk_at "lk", h5, h6⟩
    · refine iteF (by simp; omega) ?_
      refine iteF rfl ?_
      exact out _ _
  · refine iteF (by simpa using hm) ?_
    refine iteF rfl ?_
    exact out _ _
theorem s_lsti {c : Jx} {ρ : Rho} {κ : Kap} {X : XP} {Q : PV → Rho → Kap → Prop} {v sl : Expr} {l : List Int} {i : Int} (hz : l.length ≤ 16777216) (h0 : -(l.length : Int) ≤ i) (h1 : i < l.length) (h : Q (.int (l.getD (idx l.length i) 0)) ρ κ) : V2 c (subscriptTail v sl) (.lst (l.map .int)) (.int i) ρ κ Q X := by
  have hi := (idx_seq h0 h1).2
  refine s_lst (by rw [List.length_map]; exact hz) (by rw [List.length_map]; exact h0) (by rw [List.length_map]; exact h1) (p := .int (l.getD (idx l.length i) 0)) ?_ h
  rw [List.length_map, List.getElem?_map, List.getD_eq_getElem?_getD, List.getElem?_eq_getElem hi]; rfl
theorem f_label (w : World) (n : Nat) (i r : Int) (h1 : 1 ≤ r) (h2 : r ≤ 63) : CT w (.ref 494) [.int i, .int r] (n + 2) (fun q => ∃ b : Bs, q = .bytes b ∧ Gd b ∧ (b.length : Int) ≤ r) noC := by
  refine d_lawlabel ?_
  refine cs_cons ?_
  repeat walk_at "w1"
  refine v_mod (by omega) ?_
  rw [fmod_pos (by omega)]
  have hk : 0 ≤ i % 8 ∧ i % 8 < 8 := by omega
  generalize i % 8 = k at hk
  repeat walk_at "w1"
  refine v_div (by omega) (by decide) ?_
  repeat walk_at "w1"
  refine v_call (f_octets w n _) (Nat.le_refl _) (fun q hq => ?_) fun C hC => hC.elim
  obtain ⟨L, rfl, hL, hLl⟩ := hq
  repeat walk_at "w1"
  refine ite_join (fun ρ κ => ∃ L : List Int, ρ (S "found") = some (.lst (L.map .int)) ∧ ρ (S "kind") = some (.int k) ∧ ρ (S "room") = some (.int r) ∧ OcOk L ∧ L.length ≤ 200) (fun hk0 => ?_) (fun hk0 => ?_) ?_
  · simp only [decide_eq_true_eq] at hk0
    repeat walk_at "w1"
    by_cases h7 : k = 7
    · refine iteT (by simpa using h7) ?_
      refine e_List ?_
      repeat walk_at "w1"
      refine ⟨by first | exact Nat.le_of_ble_eq_true rfl | simp, ?_⟩
      refine v_ladd (by simp; omega) ?_
      repeat walk_at "w1"
      exact ⟨L ++ [0], by rw [List.map_append]; show _ = some (PV.lst (L.map PV.int ++ [PV.int 0])); walk_at "lk", by walk_at "lk", by walk_at "lk", ocOk_app hL (fun z hz => by rw [List.mem_singleton] at hz; subst hz; decide), by simp; omega⟩
    · refine iteF (by simpa using h7) ?_
      repeat walk_at "w1"
      refine e_List ?_
      repeat walk_at "w1"
      refine e_List ?_
      repeat walk_at "w1"
      refine ⟨by first | exact Nat.le_of_ble_eq_true rfl | simp, ?_⟩
      repeat walk_at "w1"
      refine s_lsti (l := [255, 255, 0, 64, 91, 97]) (by simp) (by simp; omega) (by simp; omega) ?_
      have hy : ∀ y ∈ ([255, 255, 0, 64, 91, 97] : List Int), 0 ≤ y ∧ y ≤ 255 ∧ ¬ (65 ≤ y ∧ y ≤ 90) := by decide
      have hm : ([255, 255, 0, 64, 91, 97] : List Int).getD (idx ([255, 255, 0, 64, 91, 97] : List Int).length (k - 1)) 0 ∈ ([255, 255, 0, 64, 91, 97] : List Int) := by
        have := (idx_seq (n := ([255, 255, 0, 64, 91, 97] : List Int).length) (i := k - 1) (by simp; omega) (by simp; omega)).2
        rw [List.getD_eq_getElem?_getD, List.getElem?_eq_getElem this]; exact List.getElem_mem _
      generalize ([255, 255, 0, 64, 91, 97] : List Int).getD (idx ([255, 255, 0, 64, 91, 97] : List Int).length (k - 1)) 0 = y at hm
      have hy := hy y hm
      repeat walk_at "w1"
      refine ⟨by first | exact Nat.le_of_ble_eq_true rfl | simp, ?_⟩
      repeat walk_at "w1"
      refine v_lmul (by omega) (by omega) (by simp) ?_
      refine v_ladd (by simp; omega) ?_
      repeat walk_at "w1"
      have e : (List.replicate (63 : Int).toNat [PV.int y]).flatten = (List.replicate 63 y).map PV.int := by rfl
      rw [e, ← List.map_append]
      exact ⟨L ++ List.replicate 63 y, by walk_at "lk", by walk_at "lk", by walk_at "lk", ocOk_app hL (fun z hz => by rw [List.eq_of_mem_replicate hz]; exact hy), by simp; omega⟩
  · repeat walk_at "w1"
    exact ⟨L, by walk_at "lk", by walk_at "lk", by walk_at "lk", hL, by omega⟩
  rintro ρ κ ⟨L, e1, e2, e3, hL, hLl⟩
  repeat walk_at "w1"
  refine ite_join (fun ρ κ => ∃ L : List Int, ρ (S "found") = some (.lst (L.map .int)) ∧ ρ (S "room") = some (.int r) ∧ OcOk L ∧ L.length ≤ 200) (fun hk0 => ?_) (fun hk0 => ?_) ?_
  · repeat walk_at "w1"
    refine ⟨_, rfl, ?_⟩
    refine s_lst_cut (by rw [List.length_map]; omega) ?_
    rw [cut_map, show cut none (some (62 : Int)) L = L.take 62 from cut_upto 62 L]
    repeat walk_at "w1"
    exact ⟨L.take 62, by walk_at "lk", by walk_at "lk", fun x hx => hL x (List.mem_of_mem_take hx), by rw [List.length_take]; omega⟩
  · repeat walk_at "w1"
    exact ⟨L, by walk_at "lk", by walk_at "lk", hL, hLl⟩
  rintro ρ κ ⟨L, e1, e3, hL, hLl⟩
  repeat walk_at "w1"
  refine e_List ?_
  repeat walk_at "w1"
  refine ⟨by first | exact Nat.le_of_ble_eq_true rfl | simp, ?_⟩
  refine v_ieql (l := L) (m := []) ?_
  repeat walk_at "w1"
  refine ite_join (fun ρ κ => ∃ L : List Int, ρ (S "found") = some (.lst (L.map .int)) ∧ ρ (S "room") = some (.int r) ∧ OcOk L ∧ L.length ≤ 200 ∧ 1 ≤ L.length) (fun hk0 => ?_) (fun hk0 => ?_) ?_
  · repeat walk_at "w1"
    refine e_List ?_
    repeat walk_at "w1"
    refine ⟨by first | exact Nat.le_of_ble_eq_true rfl | simp, ?_⟩
    repeat walk_at "w1"
    exact ⟨[97], by show _ = some (PV.lst [PV.int 97]); walk_at "lk", by walk_at "lk", (fun z hz => by rw [List.mem_singleton] at hz; subst hz; decide), by simp, by simp⟩
  · have hne : L ≠ [] := by simpa using hk0
    repeat walk_at "w1"
    exact ⟨L, by walk_at "lk", by walk_at "lk", hL, hLl, List.length_pos_iff.mpr hne⟩
  rintro ρ κ ⟨L, e1, e3, hL, hLl, hL1⟩
  repeat walk_at "w1"
  refine ⟨_, rfl, ?_⟩
  refine s_lst_cut (by rw [List.length_map]; omega) ?_
  obtain ⟨k, rfl⟩ := Int.eq_ofNat_of_zero_le (show 0 ≤ r by omega)
  rw [cut_map, cut_upto]
  repeat walk_at "w1"
  have hT : OcOk (L.take k) := fun x hx => hL x (List.mem_of_mem_take hx)
  refine l_bytes_ints (fun x hx => by have := hT x hx; omega) (by rw [List.length_take]; omega) ?_
  repeat walk_at "w1"
  refine ⟨_, rfl, ⟨by rw [List.length_map, List.length_take]; omega, by rw [List.length_map, List.length_take]; omega, fun c hc => ?_⟩, by rw [List.length_map, List.length_take]; omega⟩
  obtain ⟨x, hx, rfl⟩ := List.mem_map.mp hc
  obtain ⟨a0, a1, a2⟩ := hT x hx
  unfold capi
  have : x.toNat.toUInt8.toNat = x.toNat := UInt8.toNat_ofNat_of_lt' (by show x.toNat < 256; omega)
  rw [this]; omega
end F11

section F12
noncomputable def lenOf : PV → Option PV
  | .bytes b => some (.int ((b.length : Int) + 1))
  | _ => none
theorem f_size (w : World) (n : Nat) {l : List Bs} (hl : Szs l) : CT w (.ref 499) [.lst (l.map .bytes)] (n + 2) (fun q => q = .int (sz l)) noC := by
  refine d_lawsize ?_
  refine cs_cons ?_
  repeat walk_at "w1"
  refine e_Comp (cap := fun _ => none) lenOf (cap_none fun _ => rfl) rfl (by kernel_rfl) (fun _ _ => rfl) ?_
  repeat walk_at "w1"
  refine ⟨_, it2_list _ _, by rw [List.length_map]; exact hl.z, ?_, ?_⟩
  · intro q hq
    obtain ⟨b, hb, rfl⟩ := List.mem_map.mp hq
    have := hl.b b hb
    refine te_nil fun κ => ?_
    repeat walk_at "w1"
    refine l_len_b (by omega) ?_
    repeat walk_at "w1"
    exact ⟨rfl, rfl, rfl⟩
  · have e : (l.map PV.bytes).filterMap lenOf = (l.map fun b => (b.length : Int) + 1).map PV.int := by
      rw [List.filterMap_map, List.map_map, ← List.filterMap_eq_map]; rfl
    rw [e]
    repeat walk_at "w1"
    refine l_sum ?_
    repeat walk_at "w1"
    show _ = _
    have := wire_sz l
    unfold wire at this
    rw [this]
theorem f_lname (w : World) (n : Nat) {ns : List Int} {suf : List Bs} (hs : Nmx suf) (h255 : sz suf ≤ 255) (hns : ns.length ≤ 63) : CT w (.ref 506) [.lst (ns.map .int), .lst (suf.map .bytes)] (n + 3) (fun q => ∃ p : List Bs, q = .lst ((p ++ suf).map .bytes) ∧ (∀ x ∈ p, Gd x) ∧ sz (p ++ suf) ≤ 255 ∧ p.length ≤ ns.length) noC := by
  refine d_lawname ?_
  refine cs_cons ?_
  repeat walk_at "w1"
  refine l_list_lst (by rw [List.length_map]; exact hs.nam.szs.z) ?_
  repeat walk_at "w1"
  refine c_For (fun rest ρ κ => ∃ (ms : List Int) (p : List Bs), rest = ms.map .int ∧ ρ (S "labels") = some (.lst ((p ++ suf).map .bytes)) ∧ (∀ x ∈ p, Gd x) ∧ sz (p ++ suf) ≤ 255 ∧ p.length + ms.length ≤ ns.length) (fun _ _ => rfl) (by kernel_rfl) ?_ ?_ ?_
  · repeat walk_at "w1"
    exact ⟨_, it_list _ _, ns, [], rfl, by show _ = some (PV.lst (suf.map PV.bytes)); walk_at "lk", (fun _ h => by cases h), by simpa using h255, by simp⟩
  · rintro q rest ρ κ ⟨ms, p, e, h1, h2, h3, h4⟩
    cases ms with
    | nil => cases e
    | cons m ms =>
      obtain ⟨rfl, rfl⟩ := List.cons.inj e
      have hz : Szs (p ++ suf) := ⟨by have := hs.n; have := sz_len (p ++ suf); omega, fun x hx => (List.mem_append.mp hx).elim (fun h => by have := (h2 x h).top; omega) (hs.nam.szs.b x)⟩
      simp only [List.length_cons] at h4
      refine cs_cons ?_
      repeat walk_at "w1"
      refine v_call1 (P := True) (f_size w n hz) (Nat.le_refl _) ?_
      repeat walk_at "w1"
      by_cases hr : 0 < (if (254 : Int) - (sz (p ++ suf) : Int) < 63 then (254 : Int) - sz (p ++ suf) else 63)
      · refine iteT (by simpa using hr) ?_
        repeat walk_at "w1"
        refine e_List ?_
        repeat walk_at "w1"
        refine v_call (f_label w n m _ (by omega) (by split <;> omega)) (Nat.le_refl _) (fun q hq => ?_) fun C hC => hC.elim
        obtain ⟨b, rfl, hb, hbl⟩ := hq
        repeat walk_at "w1"
        refine ⟨by first | exact Nat.le_of_ble_eq_true rfl | simp, ?_⟩
        repeat walk_at "w1"
        refine v_ladd (by have := hz.z; simp at this ⊢; have := hz.n; simp at this; omega) ?_
        rw [show ([PV.bytes b] ++ (p ++ suf).map PV.bytes) = ((b :: p) ++ suf).map PV.bytes by simp]
        repeat walk_at "w1"
        refine ⟨ms, b :: p, rfl, by walk_at "lk", fun x hx => (List.mem_cons.mp hx).elim (fun e => e ▸ hb) (h2 x), ?_, by simp; omega⟩
        rw [List.cons_append, sz_cons]
        split at hbl <;> omega
      · refine iteF (by simpa using hr) ?_
        repeat walk_at "w1"
        exact ⟨ms, p, rfl, by walk_at "lk", h2, h3, by omega⟩
  · rintro ρ κ ⟨ms, p, e, h1, h2, h3, h4⟩
    repeat walk_at "w1"
    exact ⟨p, rfl, h2, h3, by omega⟩
/-! ## the order -/
theorem order_bl : ∀ a b : Bs, bord a b = .lt ↔ bl a b
  | [], [] => ⟨(fun h => by cases h), fun h => h.elim⟩
  | [], _ :: _ => ⟨fun _ => trivial, fun _ => rfl⟩
  | _ :: _, [] => ⟨(fun h => by cases h), fun h => h.elim⟩
  | x :: xs, y :: ys => by
    show (if x < y then Ordering.lt else if x > y then .gt else Builtin.Bytes.order xs ys) = .lt ↔ (x < y ∨ (x = y ∧ bl xs ys))
    have ih := order_bl xs ys
    rcases lin_u8.tri x y with h | rfl | h
    · rw [if_pos h]; exact ⟨fun _ => .inl h, fun _ => rfl⟩
    · rw [if_neg (lin_u8.irr x), if_neg (lin_u8.irr x)]
      exact ⟨fun h => .inr ⟨rfl, ih.mp h⟩, fun h => ih.mpr (h.resolve_left (lin_u8.irr x)).2⟩
    · rw [if_neg (lin_u8.asym h), if_pos h]
      refine ⟨(fun e => by cases e), fun e => ?_⟩
      rcases e with e | ⟨rfl, _⟩
      · exact (lin_u8.asym h e).elim
      · exact (lin_u8.irr _ h).elim
theorem nl_at {a b : List Bs} {k : Nat} {x y : Bs} (h : a.drop (a.length - k) = b.drop (b.length - k)) (hka : k < a.length) (hkb : k < b.length) (hx : a.getD (a.length - k - 1) [] = x) (hy : b.getD (b.length - k - 1) [] = y) (hxy : x ≠ y) : nl a b ↔ bl x y := by
  have e : ∀ {z : List Bs}, k < z.length → z = z.take (z.length - k - 1) ++ z.getD (z.length - k - 1) [] :: z.drop (z.length - k) := fun {z} hz => by
    have h1 : z.length - k - 1 < z.length := by omega
    have h2 := List.take_append_drop (z.length - k - 1) z
    rw [List.drop_eq_getElem_cons h1] at h2
    rw [List.getD_eq_getElem?_getD, List.getElem?_eq_getElem h1]
    have h3 : z.length - k - 1 + 1 = z.length - k := by omega
    rw [h3] at h2
    exact h2.symm
  have ea := e hka
  have eb := e hkb
  rw [hx] at ea
  rw [hy, ← h] at eb
  rw [ea, eb]
  unfold nl
  rw [List.reverse_append, List.reverse_append, List.reverse_cons, List.reverse_cons, List.append_assoc, List.append_assoc]
  refine (lx_app lin_bl _).trans ⟨fun h => ?_, fun h => .inl h⟩
  rcases h with h | ⟨h, _⟩
  · exact h
  · exact (hxy h).elim
theorem nl_len {a b : List Bs} (h : a.drop (a.length - min a.length b.length) = b.drop (b.length - min a.length b.length)) : nl a b ↔ a.length < b.length := by
  rcases Nat.lt_trichotomy a.length b.length with hl | hl | hl
  · rw [Nat.min_eq_left (by omega), Nat.sub_self, List.drop_zero] at h
    refine ⟨fun _ => hl, fun _ => ?_⟩
    have := List.take_append_drop (b.length - a.length) b
    rw [← h] at this
    rw [← this]
    exact nl_ext _ _ (fun e => by have := congrArg List.length e; rw [List.length_take] at this; simp at this; omega)
  · rw [hl, Nat.min_self, Nat.sub_self, List.drop_zero, List.drop_zero] at h
    subst h
    exact ⟨fun h => (lin_nl.irr _ h).elim, fun h => by omega⟩
  · rw [Nat.min_eq_right (by omega), Nat.sub_self, List.drop_zero] at h
    refine ⟨fun hh => ?_, fun h => by omega⟩
    have := List.take_append_drop (a.length - b.length) a
    rw [h] at this
    rw [← this] at hh
    exact (lin_nl.asym hh (nl_ext _ _ (fun e => by have := congrArg List.length e; rw [List.length_take] at this; simp at this; omega))).elim
noncomputable def up (k : Nat) : Nat → List PV
  | 0 => []
  | j + 1 => .int ((k : Int) + 1) :: up (k + 1) j
theorem up_map : ∀ (j k : Nat), (List.range j).map (fun (i : Nat) => PV.int (((k : Int) + 1) + i * 1)) = up k j
  | 0, _ => rfl
  | j + 1, k => by
    have e0 : PV.int (((k : Int) + 1) + ((0 : Nat) : Int) * 1) = PV.int ((k : Int) + 1) := by simp
    rw [List.range_succ_eq_map, List.map_cons, List.map_map, up, ← up_map j (k + 1), e0]
    refine congrArg _ (List.map_congr_left fun i _ => ?_)
    show PV.int _ = PV.int _
    congr 1
    simp; omega
theorem rng_up (m : Nat) : rngItems 1 ((m : Int) + 1) 1 = up 0 m := by
  unfold rngItems Builtin.Range.rangeSize
  rw [if_pos (by omega)]
  have : (if (1 : Int) < (m : Int) + 1 then ((m : Int) + 1 - 1 - 1) / 1 + 1 else 0).toNat = m := by
    by_cases h : m = 0
    · subst h; rfl
    · rw [if_pos (by omega), Int.ediv_one]; omega
  rw [this, ← up_map m 0]; rfl
theorem small_up {b : Int} (h0 : 0 ≤ b) (h1 : b < 2 ^ 30) : Builtin.Range.small 1 b 1 = true := by
  unfold Builtin.Range.small Builtin.Range.rangeSize
  simp only [Builtin.Range.rangeFitsLong, Bool.and_eq_true, Bool.or_eq_true, decide_eq_true_eq, beq_iff_eq, show ((1 : Int) > 0) by decide, if_true, Int.ediv_one]
  split <;> omega
theorem f_less (w : World) (n : Nat) {a b : List Bs} (ha : Szs a) (hb : Szs b) : CT w (.ref 513) [.lst (a.map .bytes), .lst (b.map .bytes)] (n + 1) (fun q => ∃ t : Bool, q = .bool t ∧ (t = true ↔ nl a b)) noC := by
  refine d_lawless ?_
  refine cs_cons ?_
  have na := ha.n
  have nb := hb.n
  refine c_For (fun rest ρ κ => ∃ k j : Nat, rest = up k j ∧ k + j = min a.length b.length ∧ ρ (S "one") = some (.lst (a.map .bytes)) ∧ ρ (S "other") = some (.lst (b.map .bytes)) ∧ a.drop (a.length - k) = b.drop (b.length - k)) (fun _ _ => rfl) (by kernel_rfl) ?_ ?_ ?_
  · repeat walk_at "w1"
    refine l_len_lstb ha.z ?_
    repeat walk_at "w1"
    refine l_len_lstb hb.z ?_
    repeat walk_at "w1"
    have e : (if (b.length : Int) < a.length then (b.length : Int) else a.length) = ((min a.length b.length : Nat) : Int) := imin_nat _ _
    rw [e]
    exact ⟨_, it_rng _ _ _ _ (small_up (by omega) (by omega)), 0, min a.length b.length, rng_up _, by omega, by walk_at "lk", by walk_at "lk", by simp⟩
  · rintro q rest ρ κ ⟨k, j, e, hkj, h1, h2, gd⟩
    cases j with
    | zero => cases e
    | succ j =>
      obtain ⟨rfl, rfl⟩ := List.cons.inj e
      have hka : k < a.length := by omega
      have hkb : k < b.length := by omega
      have ea : idx a.length ((a.length : Int) - ((k : Int) + 1)) = a.length - k - 1 := idx_back' hka
      have eb : idx b.length ((b.length : Int) - ((k : Int) + 1)) = b.length - k - 1 := idx_back' hkb
      refine cs_cons ?_
      repeat walk_at "w1"
      refine l_len_lstb ha.z ?_
      repeat walk_at "w1"
      refine s_lstb ha.z (by omega) (by omega) ?_
      rw [ea]
      repeat walk_at "w1"
      refine l_len_lstb hb.z ?_
      repeat walk_at "w1"
      refine s_lstb hb.z (by omega) (by omega) ?_
      rw [eb]
      have dn := fun hxy => nl_at (x := a.getD (a.length - k - 1) []) (y := b.getD (b.length - k - 1) []) gd hka hkb rfl rfl hxy
      have ds := drop_step hka hkb gd
      generalize a.getD (a.length - k - 1) [] = x at *
      generalize b.getD (b.length - k - 1) [] = y at *
      repeat walk_at "w1"
      by_cases hxy : x = y
      · refine iteF (by simpa using hxy) ?_
        repeat walk_at "w1"
        exact ⟨k + 1, j, rfl, by omega, by walk_at "lk", by walk_at "lk", ds hxy⟩
      · refine iteT (by simpa using hxy) ?_
        repeat walk_at "w1"
        refine ⟨_, rfl, ?_⟩
        rw [dn hxy, ← order_bl]
        simp
  · rintro ρ κ ⟨k, j, e, hkj, h1, h2, gd⟩
    cases j with
    | succ j => cases e
    | zero =>
      have hk : k = min a.length b.length := by omega
      subst hk
      repeat walk_at "w1"
      refine l_len_lstb ha.z ?_
      repeat walk_at "w1"
      refine l_len_lstb hb.z ?_
      repeat walk_at "w1"
      refine ⟨_, rfl, ?_⟩
      rw [nl_len gd]; simp
theorem f_under (w : World) (n : Nat) {a b : List Bs} (ha : Szs a) (hb : Szs b) : CT w (.ref 520) [.lst (a.map .bytes), .lst (b.map .bytes)] (n + 1) (fun q => ∃ t : Bool, q = .bool t ∧ (t = true ↔ b <:+ a)) noC := by
  refine d_lawunder ?_
  refine cs_cons ?_
  repeat walk_at "w1"
  refine l_len_lstb ha.z ?_
  repeat walk_at "w1"
  refine l_len_lstb hb.z ?_
  repeat walk_at "w1"
  by_cases hl : b.length ≤ a.length
  · refine iteT (by simp; omega) ?_
    repeat walk_at "w1"
    refine l_len_lstb ha.z ?_
    repeat walk_at "w1"
    refine l_len_lstb hb.z ?_
    repeat walk_at "w1"
    refine ⟨_, rfl, ?_⟩
    repeat walk_at "w1"
    refine s_lstb_cut ha.z ?_
    rw [show (a.length : Int) - b.length = ((a.length - b.length : Nat) : Int) by omega, cut_from]
    repeat walk_at "w1"
    refine ⟨_, rfl, ?_⟩
    rw [List.suffix_iff_eq_drop]
    constructor
    · intro h; exact (eq_of_beq h).symm
    · intro h; rw [← h]; simp
  · refine iteF (by simp; omega) ?_
    repeat walk_at "w1"
    refine ⟨_, rfl, ?_⟩
    constructor
    · intro h; simp at h; omega
    · intro h; exact absurd h.length_le hl
/-- labels that fit under the origin -/
noncomputable def Fit (o l : List Bs) : Prop := o <:+ l ∧ sz l ≤ 255 ∧ ∀ x ∈ l.take (l.length - 1), 1 ≤ x.length ∧ x.length ≤ 63
theorem f_fits (w : World) (n : Nat) {a b : List Bs} (ha : Szs a) (hb : Szs b) (h0 : b ≠ []) : CT w (.ref 527) [.lst (a.map .bytes), .lst (b.map .bytes)] (n + 3) (fun q => ∃ t : Bool, q = .bool t ∧ (t = true ↔ Fit b a)) noC := by
  refine d_lawfits ?_
  refine cs_cons ?_
  repeat walk_at "w1"
  refine v_call (f_under w n ha hb) (Nat.le_add_right (n + 1) 1) (fun q hq => ?_) fun C hC => hC.elim
  obtain ⟨t, rfl, ht⟩ := hq
  repeat walk_at "w1"
  cases t
  · refine iteT rfl ?_
    refine iteT rfl ?_
    repeat walk_at "w1"
    exact ⟨false, rfl, (fun h => by cases h), fun h => absurd (ht.mpr h.1) (by decide)⟩
  · have hu := ht.mp rfl
    have hlen : 1 ≤ a.length := by have := hu.length_le; have := List.length_pos_iff.mpr h0; omega
    refine iteF rfl ?_
    repeat walk_at "w1"
    refine v_call1 (P := True) (f_size w n ha) (Nat.le_refl _) ?_
    repeat walk_at "w1"
    by_cases hs : 255 < sz a
    · refine iteT (by simp; omega) ?_
      refine iteT rfl ?_
      repeat walk_at "w1"
      exact ⟨false, rfl, (fun h => by cases h), fun h => by have := h.2.1; omega⟩
    · refine iteF (by simp; omega) ?_
      repeat walk_at "w1"
      refine iteF rfl ?_
      repeat walk_at "w1"
      refine c_For (fun rest ρ κ => ∃ pre bs, rest = bs.map PV.bytes ∧ a.take (a.length - 1) = pre ++ bs ∧ ∀ x ∈ pre, 1 ≤ x.length ∧ x.length ≤ 63) (fun _ _ => rfl) (by kernel_rfl) ?_ ?_ ?_
      · repeat walk_at "w1"
        refine l_len_lstb ha.z ?_
        repeat walk_at "w1"
        refine ⟨_, rfl, ?_⟩
        refine s_lstb_cut ha.z ?_
        rw [show (a.length : Int) - 1 = ((a.length - 1 : Nat) : Int) by omega, cut_upto]
        repeat walk_at "w1"
        exact ⟨_, it_lstb _ _, [], _, rfl, rfl, fun _ h => by cases h⟩
      · rintro q rest ρ κ ⟨pre, bs, e, e2, hp⟩
        cases bs with
        | nil => cases e
        | cons x bs =>
          obtain ⟨rfl, rfl⟩ := List.cons.inj e
          have hx : x ∈ a.take (a.length - 1) := by rw [e2]; simp
          have := ha.b x (List.mem_of_mem_take hx)
          refine cs_cons ?_
          repeat walk_at "w1"
          refine l_len_b (by omega) ?_
          repeat walk_at "w1"
          by_cases h1 : x.length < 1
          · refine iteT (by simp; omega) ?_
            refine iteT rfl ?_
            repeat walk_at "w1"
            exact ⟨false, rfl, (fun h => by cases h), fun h => by have := h.2.2 x hx; omega⟩
          · refine iteF (by simp; omega) ?_
            repeat walk_at "w1"
            refine l_len_b (by omega) ?_
            repeat walk_at "w1"
            by_cases h2 : 63 < x.length
            · refine iteT (by simp; omega) ?_
              refine iteT rfl ?_
              repeat walk_at "w1"
              exact ⟨false, rfl, (fun h => by cases h), fun h => by have := h.2.2 x hx; omega⟩
            · refine iteF (by simp; omega) ?_
              repeat walk_at "w1"
              refine iteF rfl ?_
              repeat walk_at "w1"
              exact ⟨pre ++ [x], bs, rfl, by rw [e2]; simp, fun y hy => (List.mem_append.mp hy).elim (hp y) fun h => by rw [List.mem_singleton] at h; subst h; omega⟩
      · rintro ρ κ ⟨pre, bs, e, e2, hp⟩
        cases bs with
        | cons x bs => cases e
        | nil =>
          rw [List.append_nil] at e2
          repeat walk_at "w1"
          exact ⟨true, rfl, fun _ => ⟨hu, by omega, by rw [e2]; exact hp⟩, fun _ => rfl⟩
end F12

section F13
local macro_rules | `(tactic| walk_at "w_EN") => `(tactic| ((with_reducible show E1 _ (Expr.Name (Str.ofString "origin") _) _ _ _ _); (with_reducible refine e_cell (by kernel_rfl) (by kernel_rfl) (by walk_at "lk") ?_)))
theorem v_laddOwn {c : Jx} {ρ : Rho} {κ : Kap} {X : XP} {Q : PV → Rho → Kap → Prop} {a b : List PV} (hz : a.length + b.length ≤ 16777216) (h : ∀ x, Q (.own x) ρ ((x, .lst (a ++ b)) :: κ)) : V2 c (binaryOp .Add) (.lst a) (.lst b) ρ κ Q X := fun A fs E g R s v u G S hg r1 r2 => by
  have S' := S
  obtain ⟨m, cs, S⟩ := S
  obtain ⟨l, o, vs, n, rfl, ho, hc, hd, hr⟩ := r1.lst_inv
  obtain ⟨l2, o2, vs2, n2, rfl, ho2, hc2, hd2, hr2⟩ := r2.lst_inv
  obtain ⟨cls, dd, data, sl⟩ := o
  obtain ⟨cls2, dd2, data2, sl2⟩ := o2
  simp only at hc hd hc2 hd2
  subst hc hd hc2 hd2
  have k1 := S.lv.keep _ _ ho
  have k2 := S.lv.keep _ _ ho2
  have hn : vs.size = a.length := by have := hr.length; simpa using this
  have hn2 : vs2.size = b.length := by have := hr2.length; simpa using this
  exact concat_meets ⟨_, k1, rfl⟩ ⟨_, k2, rfl⟩ noFill_list_add seq_list_add PySem.F.slot_list_add PySem.F.entry_list_add (PySem.F.args_list_add_2 _ _) (list_addW l l2 vs vs2 n n2 dd dd2 sl sl2 (by rw [sizeLine_eq]; omega))
    ⟨k1, k2, own_post (mv := .lst (a ++ b)) (tk := s.toks) S' push_sub (size_none _) (Heap.get?_push_size _ rfl) (cr_lst (by rw [Array.toList_append]; exact hr.append hr2)) (h _)⟩
theorem cap_cell {c : Jx} {scope : Scope} {ρ : Rho} {κ : Kap} {x : Str} {p : PV} (hc : ∀ E a, E.cells.lookup x = some a → closureFor scope E = pure [(x, a)]) (hk : c.scope.names.lookup x = some .cell) (hl : (relS c.scope scope).names.lookup x = some .cell) (hρ : ρ x = some p) : CapOk c scope (capOf (some (x, p))) ρ κ :=
  cap_one hc hk (by rw [hl]; decide) hρ
/-! ## names near by -/
noncomputable def NoCap (l : List Bs) : Prop := ∀ x ∈ l, ∀ c ∈ x, ¬ capi c
theorem fit_vl {o l : List Bs} (ho : Org o) (h : Fit o l) (hc : NoCap l) : ∃ p, l = p ++ o ∧ Vl (255 - sz o) p := by
  obtain ⟨⟨p, rfl⟩, hs, hl⟩ := h
  refine ⟨p, rfl, fun x hx => ?_, by rw [sz_append] at hs; have := ho.sz; omega⟩
  have ho1 : 1 ≤ o.length := by obtain ⟨q, rfl, _⟩ := ho.q; simp
  have hx2 : x ∈ (p ++ o).take ((p ++ o).length - 1) := by
    rw [List.length_append, List.take_append]
    exact List.mem_append_left _ (by rw [List.take_of_length_le (by omega)]; exact hx)
  have := hl x hx2
  exact ⟨this.1, this.2, hc x (by simp [hx])⟩
structure RowOk (l : List Bs) : Prop extends Szs l where
  nc : NoCap l
noncomputable def rowsPV (rows : List (List Bs)) : List PV := rows.map fun r => PV.lst (r.map .bytes)
theorem rowsPV_app (a b : List (List Bs)) : rowsPV a ++ rowsPV b = rowsPV (a ++ b) := by unfold rowsPV; rw [List.map_append]
theorem name_nocap {o p : List Bs} (ho : Org o) (hp : Vl (255 - sz o) p) : NoCap (p ++ o) := fun x hx => by
  obtain ⟨q, rfl, hq⟩ := ho.q
  rcases List.mem_append.mp hx with h | h
  · exact (hp.gd x h).caps
  · rcases List.mem_append.mp h with h | h
    · exact (hq x h).caps
    · rw [List.mem_singleton] at h; subst h; intro c hc; cases hc
theorem row_cons {x : Bs} {l : List Bs} (h1 : x.length ≤ 1000) (h2 : ∀ c ∈ x, ¬ capi c) (hl : RowOk l) (hn : l.length ≤ 999) : RowOk (x :: l) :=
  ⟨⟨by simp; omega, fun y hy => (List.mem_cons.mp hy).elim (fun e => e ▸ h1) (hl.b y)⟩, fun y hy => (List.mem_cons.mp hy).elim (fun e => e ▸ h2) (hl.nc y)⟩
theorem rep_caps255 (k : Nat) : ∀ c ∈ List.replicate k (255 : UInt8), ¬ capi c := rep_caps k
theorem oct_caps {i : Int} (h0 : 0 ≤ i) (h1 : i < 256) (h : ¬ (65 ≤ i ∧ i ≤ 90)) : ∀ c ∈ [i.toNat.toUInt8], ¬ capi c := fun c hc => by
  rw [List.mem_singleton] at hc; subst hc
  unfold capi
  have : i.toNat.toUInt8.toNat = i.toNat := UInt8.toNat_ofNat_of_lt' (by show i.toNat < 256; omega)
  rw [this]; omega
theorem cap_int {c : UInt8} (h : ¬ capi c) : ¬ (65 ≤ (c.toNat : Int) ∧ (c.toNat : Int) ≤ 90) := by unfold capi at h; omega
open Classical in
noncomputable def keepFit (o : List Bs) : PV → Option PV := fun q => if ∃ r : List Bs, q = .lst (r.map .bytes) ∧ Fit o r then some q else none
theorem bytes_inj {a b : List Bs} (h : a.map PV.bytes = b.map PV.bytes) : a = b := by
  induction a generalizing b with
  | nil => cases b with | nil => rfl | cons _ _ => cases h
  | cons x a ih => cases b with
    | nil => cases h
    | cons y b => injection h with h1 h2; injection h1 with h1; rw [h1, ih h2]
theorem keepFit_row {o r : List Bs} {t : Bool} (h : t = true ↔ Fit o r) : keepFit o (.lst (r.map .bytes)) = if t = true then some (.lst (r.map .bytes)) else none := by
  unfold keepFit
  by_cases ht : t = true
  · rw [if_pos ht, if_pos ⟨r, rfl, h.mp ht⟩]
  · rw [if_neg ht, if_neg]
    rintro ⟨r', e, hf⟩
    injection e with e
    exact ht (h.mpr (bytes_inj e ▸ hf))
theorem keepFit_rows {o : List Bs} : ∀ rows : List (List Bs), ∃ rows', (rowsPV rows).filterMap (keepFit o) = rowsPV rows' ∧ (∀ r ∈ rows', r ∈ rows ∧ Fit o r) ∧ rows'.length ≤ rows.length
  | [] => ⟨[], rfl, (fun _ h => by cases h), Nat.le_refl _⟩
  | r :: rows => by
    obtain ⟨rows', e, h, hle⟩ := keepFit_rows (o := o) rows
    by_cases hf : Fit o r
    · refine ⟨r :: rows', ?_, fun x hx => ?_, by simp; omega⟩
      · show (PV.lst (r.map .bytes) :: rowsPV rows).filterMap _ = _
        rw [List.filterMap_cons, keepFit_row (t := true) (by simpa using hf), if_pos rfl]
        dsimp only
        rw [e]; rfl
      · rcases List.mem_cons.mp hx with rfl | hx
        · exact ⟨.head _, hf⟩
        · exact ⟨.tail _ (h x hx).1, (h x hx).2⟩
    · refine ⟨rows', ?_, fun x hx => ⟨.tail _ (h x hx).1, (h x hx).2⟩, by simp; omega⟩
      show (PV.lst (r.map .bytes) :: rowsPV rows).filterMap _ = _
      rw [List.filterMap_cons, keepFit_row (t := false) (by simpa using hf), if_neg (by decide)]
      dsimp only
      exact e
noncomputable abbrev nvA (o : List Bs) (ρ : Rho) (κ : Kap) : Prop := ∃ rows : List (List Bs), ρ (S "rows") = some (.lst (rowsPV rows)) ∧ ρ (S "origin") = some (.lst (o.map .bytes)) ∧ rows.length ≤ 100 ∧ ∀ r ∈ rows, RowOk r
noncomputable abbrev nvB (o p : List Bs) (x : Bs) (c : UInt8) (a : Addr) (ρ : Rho) (κ : Kap) : Prop := ∃ (rows : List (List Bs)) (κ' : Kap), κ = (a, .lst (rowsPV rows)) :: κ' ∧ ρ (S "rows") = some (.own a) ∧ ρ (S "origin") = some (.lst (o.map .bytes)) ∧ ρ (S "last") = some (.int c.toNat) ∧ ρ (S "cut") = some (.bytes x) ∧ ρ (S "rest") = some (.lst ((p ++ o).map .bytes)) ∧ rows.length ≤ 50 ∧ ∀ r ∈ rows, RowOk r
noncomputable abbrev nvC (o : List Bs) (a : Addr) (ρ : Rho) (κ : Kap) : Prop := ∃ (rows : List (List Bs)) (κ' : Kap), κ = (a, .lst (rowsPV rows)) :: κ' ∧ ρ (S "rows") = some (.own a) ∧ ρ (S "origin") = some (.lst (o.map .bytes)) ∧ rows.length ≤ 60 ∧ ∀ r ∈ rows, RowOk r
set_option maxHeartbeats 8000000 in
theorem f_near (w : World) (n : Nat) {o p : List Bs} (ho : Org o) (hp : Vl (255 - sz o) p) : CT w (.ref 532) [.lst ((p ++ o).map .bytes), .lst (o.map .bytes)] (n + 4) (fun q => ∃ rows : List (List Bs), q = .lst (rowsPV rows) ∧ (∀ r ∈ rows, ∃ x, r = x ++ o ∧ Vl (255 - sz o) x) ∧ rows.length ≤ 100) noC := by
  refine ct_cell2 (x := S "name") (y := S "origin") (st := (stAt pw 40)) (name := S "_law_near") (qual := S "_law_near") (dV := .none) (pm := (.str (S "law_jf0016_01") 858)) (cd := 531) (by kernel_rfl) (by kernel_rfl) (fun v u => by kernel_rfl) (by kernel_rfl) (by kernel_rfl) (fun n => by kernel_rfl) (by kernel_rfl) (by kernel_rfl) (by kernel_rfl) (by kernel_rfl) ?_
  have hN := nmx_vl ho hp
  have hO := ho.nmx
  have hZ := hN.nam.szs
  have hZo := hO.nam.szs
  have hs := szs_vl ho hp
  have hlen : (p ++ o).length ≤ 255 := by have := sz_len (p ++ o); omega
  have ho1 : 1 ≤ o.length := by obtain ⟨q, rfl, _⟩ := ho.q; simp
  have hNR : RowOk (p ++ o) := ⟨hZ, name_nocap ho hp⟩
  refine cs_cons ?_
  repeat walk_at "w1"
  refine v_call1 (P := True) (f_size w n hZ) (Nat.le_add_right (n + 2) 1) ?_
  repeat walk_at "w1"
  have hroom : ∃ room : Nat, (if (if (254 : Int) - (sz (p ++ o) : Int) < 63 then (254 : Int) - sz (p ++ o) else 63) > 1 then (if (254 : Int) - (sz (p ++ o) : Int) < 63 then (254 : Int) - sz (p ++ o) else 63) else 1) = room ∧ room ≤ 63 := by
    refine ⟨Int.toNat (if (if (254 : Int) - (sz (p ++ o) : Int) < 63 then (254 : Int) - sz (p ++ o) else 63) > 1 then (if (254 : Int) - (sz (p ++ o) : Int) < 63 then (254 : Int) - sz (p ++ o) else 63) else 1), ?_, ?_⟩ <;> split <;> split <;> omega
  obtain ⟨room, hroom, hr63⟩ := hroom
  rw [hroom]
  refine e_List ?_
  repeat walk_at "w1"
  refine e_List ?_
  repeat walk_at "w1"
  refine ⟨by first | exact Nat.le_of_ble_eq_true rfl | simp, ?_⟩
  repeat walk_at "w1"
  refine v_ladd (by simp; simp at hlen; omega) ?_
  repeat walk_at "w1"
  refine e_List ?_
  repeat walk_at "w1"
  refine ⟨by first | exact Nat.le_of_ble_eq_true rfl | simp, ?_⟩
  repeat walk_at "w1"
  refine v_ladd (by simp; simp at hlen; omega) ?_
  repeat walk_at "w1"
  refine e_List ?_
  repeat walk_at "w1"
  refine v_bmul (by omega) (by omega) ?_
  repeat walk_at "w1"
  refine ⟨by first | exact Nat.le_of_ble_eq_true rfl | simp, ?_⟩
  repeat walk_at "w1"
  refine v_ladd (by simp; simp at hlen; omega) ?_
  repeat walk_at "w1"
  refine ⟨_, rfl, ?_⟩
  repeat walk_at "w1"
  refine s_lstb_cut hZ.z ?_
  rw [show cut (some 1) none (p ++ o) = (p ++ o).drop 1 from cut_from 1 _]
  repeat walk_at "w1"
  refine ⟨by first | exact Nat.le_of_ble_eq_true rfl | simp, ?_⟩
  repeat walk_at "w1"
  have hrows : ∀ r ∈ [[0] :: (p ++ o), [255] :: (p ++ o), List.replicate room 255 :: (p ++ o), (p ++ o).drop 1], RowOk r := by
    intro r hr
    simp only [List.mem_cons, List.not_mem_nil, or_false] at hr
    rcases hr with rfl | rfl | rfl | rfl
    · exact row_cons (by simp) gd_zero.caps hNR (by omega)
    · exact row_cons (by simp) (rep_caps 1) hNR (by omega)
    · exact row_cons (by simp; omega) (rep_caps room) hNR (by omega)
    · exact ⟨⟨by rw [List.length_drop]; omega, fun x hx => hZ.b x (List.mem_of_mem_drop hx)⟩, fun x hx => hNR.nc x (List.mem_of_mem_drop hx)⟩
  have hrPV : PV.lst ([PV.bytes [0]] ++ (p ++ o).map PV.bytes) = .lst (([0] :: (p ++ o)).map .bytes) := rfl
  refine l_len_lstb hZ.z ?_
  repeat walk_at "w1"
  refine l_len_lstb hZo.z ?_
  repeat walk_at "w1"
  refine ite_join (nvA o) (fun hc => ?_) (fun hc => ?_) ?_
  · simp only [decide_eq_true_eq] at hc
    cases p with
    | nil => simp at hc
    | cons l p =>
      have hl := hp.gd l (.head _)
      obtain ⟨x, c, rfl⟩ := split_last hl.ne
      have ht := hl.top
      have hxl : (x ++ [c]).length = x.length + 1 := by simp
      have cx : ∀ d ∈ x, ¬ capi d := fun d hd => hl.caps d (by simp [hd])
      have cc := hl.caps c (by simp)
      have clt := c.toNat_lt
      have ci := cap_int cc
      have hlen' : (p ++ o).length + 1 ≤ 255 := by simpa using hlen
      have hR : RowOk (p ++ o) := ⟨(nmx_vl ho hp.tail).nam.szs, name_nocap ho hp.tail⟩
      repeat walk_at "w1"
      refine s_lstb hZ.z (by omega) (by omega) ?_
      rw [show ((x ++ [c]) :: p ++ o).getD (idx ((x ++ [c]) :: p ++ o).length 0) [] = x ++ [c] by rfl]
      repeat walk_at "w1"
      refine ⟨_, rfl, ?_⟩
      repeat walk_at "w1"
      refine s_lstb_cut hZ.z ?_
      rw [show cut (some 1) none ((x ++ [c]) :: p ++ o) = p ++ o from cut_from 1 _]
      repeat walk_at "w1"
      refine l_len_b (by omega) ?_
      repeat walk_at "w1"
      refine s_bytes (by omega) (by omega) (by omega) ?_
      rw [show idx (x ++ [c]).length (((x ++ [c]).length : Int) - 1) = x.length by unfold idx; rw [if_neg (by omega)]; omega, getD_last]
      repeat walk_at "w1"
      refine l_len_b (by omega) ?_
      repeat walk_at "w1"
      refine ⟨_, rfl, ?_⟩
      refine s_bytes_cut (by omega) ?_
      rw [show ((x ++ [c]).length : Int) - 1 = ((x.length : Nat) : Int) by omega, cut_upto, List.take_left]
      repeat walk_at "w1"
      -- rows + [..]
      refine e_List ?_
      repeat walk_at "w1"
      refine e_List ?_
      repeat walk_at "w1"
      refine v_badd (by simp; omega) ?_
      repeat walk_at "w1"
      refine ⟨by first | exact Nat.le_of_ble_eq_true rfl | simp, ?_⟩
      repeat walk_at "w1"
      refine v_ladd (by simp; simp at hlen'; omega) ?_
      repeat walk_at "w1"
      refine e_List ?_
      repeat walk_at "w1"
      refine v_badd (by simp; omega) ?_
      repeat walk_at "w1"
      refine ⟨by first | exact Nat.le_of_ble_eq_true rfl | simp, ?_⟩
      repeat walk_at "w1"
      refine v_ladd (by simp; simp at hlen'; omega) ?_
      repeat walk_at "w1"
      refine e_List ?_
      repeat walk_at "w1"
      refine ⟨by first | exact Nat.le_of_ble_eq_true rfl | simp, ?_⟩
      repeat walk_at "w1"
      refine v_ladd (by simp; simp at hlen'; omega) ?_
      repeat walk_at "w1"
      refine ⟨by first | exact Nat.le_of_ble_eq_true rfl | simp, ?_⟩
      refine v_laddOwn (by simp) fun a => ?_
      repeat walk_at "w1"
      let rows1 : List (List Bs) := [[0] :: ((x ++ [c]) :: p ++ o), [255] :: ((x ++ [c]) :: p ++ o), List.replicate room 255 :: ((x ++ [c]) :: p ++ o), ((x ++ [c]) :: p ++ o).drop 1] ++ [((x ++ [c]) ++ [0]) :: (p ++ o), ((x ++ [c]) ++ [255]) :: (p ++ o), x :: (p ++ o)]
      have hrows1 : ∀ r ∈ rows1, RowOk r := by
        intro r hr
        rcases List.mem_append.mp hr with hr | hr
        · exact hrows r hr
        · simp only [List.mem_cons, List.not_mem_nil, or_false] at hr
          rcases hr with rfl | rfl | rfl
          · exact row_cons (by simp; omega) (caps_app hl.caps gd_zero.caps) hR (by omega)
          · exact row_cons (by simp; omega) (caps_app hl.caps (rep_caps 1)) hR (by omega)
          · exact row_cons (by omega) cx hR (by omega)
      have step : ∀ (rows : List (List Bs)) (i : Int), 0 ≤ i → i < 256 → ¬ (65 ≤ i ∧ i ≤ 90) → (∀ r ∈ rows, RowOk r) → ∀ r ∈ rows ++ [(x ++ [i.toNat.toUInt8]) :: (p ++ o)], RowOk r := fun rows i h0 h1 h2 h r hr => by
        rcases List.mem_append.mp hr with hr | hr
        · exact h r hr
        · rw [List.mem_singleton] at hr; subst hr
          exact row_cons (by simp; omega) (caps_app cx (oct_caps h0 h1 h2)) hR (by omega)
      refine ite_join (nvB o p x c a) (fun h0 => ?_) (fun h0 => ?_) ?_
      · have h0 : 0 < (c.toNat : Int) := by simpa using h0
        repeat walk_at "w1"
        refine ⟨_, _, _, rfl, rfl, ?_⟩
        repeat walk_at "w1"
        refine e_List ?_
        repeat walk_at "w1"
        refine e_List ?_
        repeat walk_at "w1"
        by_cases h91 : (c.toNat : Int) = 91
        · refine iteT (by simpa using h91) ?_
          repeat walk_at "w1"
          refine ⟨by first | exact Nat.le_of_ble_eq_true rfl | simp, ?_⟩
          repeat walk_at "w1"
          refine l_bytes_ints (ns := [64]) (by simp) (by simp) ?_
          repeat walk_at "w1"
          refine v_badd (by simp; omega) ?_
          repeat walk_at "w1"
          refine ⟨by first | exact Nat.le_of_ble_eq_true rfl | simp, ?_⟩
          repeat walk_at "w1"
          refine v_ladd (by simp; simp at hlen'; omega) ?_
          repeat walk_at "w1"
          refine l_append (by simp) ?_
          refine ⟨rfl, ?_⟩
          repeat walk_at "w1"
          exact ⟨rows1 ++ [(x ++ [(64 : Int).toNat.toUInt8]) :: (p ++ o)], _, rfl, by walk_at "lk", by walk_at "lk", by walk_at "lk", by walk_at "lk", by walk_at "lk", by simp [rows1], step rows1 64 (by omega) (by omega) (by omega) hrows1⟩
        · refine iteF (by simpa using h91) ?_
          repeat walk_at "w1"
          refine ⟨by first | exact Nat.le_of_ble_eq_true rfl | simp, ?_⟩
          repeat walk_at "w1"
          refine l_bytes_ints (ns := [(c.toNat : Int) - 1]) (by simp; omega) (by simp) ?_
          repeat walk_at "w1"
          refine v_badd (by simp; omega) ?_
          repeat walk_at "w1"
          refine ⟨by first | exact Nat.le_of_ble_eq_true rfl | simp, ?_⟩
          repeat walk_at "w1"
          refine v_ladd (by simp; simp at hlen'; omega) ?_
          repeat walk_at "w1"
          refine l_append (by simp) ?_
          refine ⟨rfl, ?_⟩
          repeat walk_at "w1"
          exact ⟨rows1 ++ [(x ++ [((c.toNat : Int) - 1).toNat.toUInt8]) :: (p ++ o)], _, rfl, by walk_at "lk", by walk_at "lk", by walk_at "lk", by walk_at "lk", by walk_at "lk", by simp [rows1], step rows1 _ (by omega) (by omega) (by omega) hrows1⟩
      · repeat walk_at "w1"
        exact ⟨rows1, _, rfl, by walk_at "lk", by walk_at "lk", by walk_at "lk", by walk_at "lk", by walk_at "lk", by simp [rows1], hrows1⟩
      rintro ρ κ ⟨rows2, κ', rfl, e1, e2, e3, e4, e5, hl2, hr2⟩
      have hl2' : (rowsPV rows2).length = rows2.length := by unfold rowsPV; simp
      refine cs_cons (c_If ?_)
      repeat walk_at "w1"
      refine ite_join (nvC o a) (fun h0 => ?_) (fun h0 => ?_) ?_
      · have h0 : (c.toNat : Int) < 255 := by simpa using h0
        repeat walk_at "w1"
        refine ⟨_, _, _, rfl, rfl, ?_⟩
        repeat walk_at "w1"
        refine e_List ?_
        repeat walk_at "w1"
        refine e_List ?_
        repeat walk_at "w1"
        by_cases h64 : (c.toNat : Int) = 64
        · refine iteT (by simpa using h64) ?_
          repeat walk_at "w1"
          refine ⟨by first | exact Nat.le_of_ble_eq_true rfl | simp, ?_⟩
          repeat walk_at "w1"
          refine l_bytes_ints (ns := [91]) (by simp) (by simp) ?_
          repeat walk_at "w1"
          refine v_badd (by simp; omega) ?_
          repeat walk_at "w1"
          refine ⟨by first | exact Nat.le_of_ble_eq_true rfl | simp, ?_⟩
          repeat walk_at "w1"
          refine v_ladd (by simp; simp at hlen'; omega) ?_
          repeat walk_at "w1"
          refine l_append (by omega) ?_
          refine ⟨rfl, ?_⟩
          repeat walk_at "w1"
          exact ⟨rows2 ++ [(x ++ [(91 : Int).toNat.toUInt8]) :: (p ++ o)], _, by rw [← rowsPV_app]; rfl, by walk_at "lk", by walk_at "lk", by simp; omega, step rows2 91 (by omega) (by omega) (by omega) hr2⟩
        · refine iteF (by simpa using h64) ?_
          repeat walk_at "w1"
          refine ⟨by first | exact Nat.le_of_ble_eq_true rfl | simp, ?_⟩
          repeat walk_at "w1"
          refine l_bytes_ints (ns := [(c.toNat : Int) + 1]) (by simp; omega) (by simp) ?_
          repeat walk_at "w1"
          refine v_badd (by simp; omega) ?_
          repeat walk_at "w1"
          refine ⟨by first | exact Nat.le_of_ble_eq_true rfl | simp, ?_⟩
          repeat walk_at "w1"
          refine v_ladd (by simp; simp at hlen'; omega) ?_
          repeat walk_at "w1"
          refine l_append (by omega) ?_
          refine ⟨rfl, ?_⟩
          repeat walk_at "w1"
          exact ⟨rows2 ++ [(x ++ [((c.toNat : Int) + 1).toNat.toUInt8]) :: (p ++ o)], _, by rw [← rowsPV_app]; rfl, by walk_at "lk", by walk_at "lk", by simp; omega, step rows2 _ (by omega) (by omega) (by omega) hr2⟩
      · repeat walk_at "w1"
        exact ⟨rows2, _, rfl, e1, e2, by omega, hr2⟩
      rintro ρ κ ⟨rows3, κ', rfl, e1, e2, hl3, hr3⟩
      refine cs_freeze (by kernel_rfl) e1 ?_
      repeat walk_at "w1"
      exact ⟨rows3, by walk_at "lk", by walk_at "lk", by omega, hr3⟩
  · repeat walk_at "w1"
    exact ⟨[[0] :: (p ++ o), [255] :: (p ++ o), List.replicate room 255 :: (p ++ o), (p ++ o).drop 1], (upd_same _ _ _).trans rfl, by walk_at "lk", by simp, hrows⟩
  rintro ρ κ ⟨rows, e1, e2, hl, hr⟩
  repeat walk_at "w1"
  refine e_Comp (cap := capOf (some (S "origin", .lst (o.map .bytes)))) (keepFit o) (cap_cell (fun E a h => ?_) (by kernel_rfl) (by kernel_rfl) e2) (by kernel_rfl) (by kernel_rfl) (fun _ _ => rfl) ?_
  · unfold closureFor; simp [cellOf, h]
  repeat walk_at "w1"
  refine ⟨_, it2_list _ _, by unfold rowsPV; rw [List.length_map]; omega, ?_, ?_⟩
  · intro q hq
    obtain ⟨r, hrr, rfl⟩ := List.mem_map.mp hq
    intro κ
    have hcap : capOf (some (S "origin", .lst (o.map .bytes))) (S "origin") = some (.lst (o.map .bytes)) := by unfold capOf; exact if_pos rfl
    show B1 _ _ _ _ _ _
    repeat walk_at "w1"
    refine v_call (f_fits w n (hr r hrr).toSzs hZo (List.length_pos_iff.mp (by omega))) (Nat.le_refl _) (fun q hq => ?_) fun C hC => hC.elim
    obtain ⟨t, rfl, ht⟩ := hq
    repeat walk_at "w1"
    refine ⟨rfl, rfl, ?_⟩
    rw [keepFit_row ht]
    cases t
    · rfl
    · refine iteT rfl ⟨_, rfl, ?_⟩
      repeat walk_at "w1"
      exact ⟨rfl, rfl, rfl⟩
  · obtain ⟨rows', e, h, hle⟩ := keepFit_rows (o := o) rows
    rw [e]
    repeat walk_at "w1"
    exact ⟨rows', rfl, fun r hr' => fit_vl ho (h r hr').2 (hr r (h r hr').1).nc, by omega⟩
end F13

section F14
theorem f_refused (w : World) (n : Nat) {a b : List Bs} {onw : Bool} {C0 : Addr} (ha : Nam a) (hb : Nam b) (h : (isAbs b = false ∧ C0 = 94) ∨ (isAbs b = true ∧ isAbs a = true ∧ ¬ b <:+ a ∧ C0 = 154)) :
    CT w (.ref 539) [.nm a, .nm b, .bool onw] (n + 10) (fun q => q = .str (if C0 = 94 then S "origin" else S "outside")) noC := by
  refine d_lawrefused ?_
  refine cs_cons (c_Try rfl ?_)
  refine cs_cons (c_If ?_)
  repeat walk_at "w1"
  have land : ∀ {ρ : Rho} {κ : Kap} {Q : PF → Rho → Kap → Prop} {t1 t2 t3 p1 p2 p3 p4 p5 p6 : Pos} {k1 k2 : Nat}, (∀ x, x = (if C0 = 94 then S "origin" else S "outside") → Q (.ret (.str x)) ρ κ) → ∀ C, C = C0 →
      ∃ suite f, Lands w.params (fnS (stAt pw 41)) C [.ExceptHandler (some (.Name (S "NeedAbsoluteNameOrOrigin") t1)) none [.Return (some (.Constant (.str (S "origin")) k1 p1)) p2] p3, .ExceptHandler (some (.Name (S "NeedSubdomainOfOrigin") t2)) none [.Return (some (.Constant (.str (S "outside")) k2 p4)) p5] p6] suite ∧ Suite suite f ∧ Q f ρ κ := by
    intro ρ κ Q t1 t2 t3 p1 p2 p3 p4 p5 p6 k1 k2 hQ C hC
    subst hC
    rcases h with ⟨_, rfl⟩ | ⟨_, _, _, rfl⟩
    · exact ⟨_, _, .here (x_needAbs _) (by kernel_rfl) (by kernel_rfl), .ret _ _ _ _, hQ _ rfl⟩
    · exact ⟨_, _, .there (x_needAbs _) (x_needSub _) (by kernel_rfl) (by kernel_rfl) (by kernel_rfl) (.here (x_needSub _) (by kernel_rfl) (by kernel_rfl)), .ret _ _ _ _, hQ _ rfl⟩
  cases onw
  · refine iteF rfl ?_
    refine cs_cons (c_ExprR (by walk_at "inter") (by with_unfolding_all exact fun _ => rfl) ?_)
    repeat walk_at "w1"
    refine ⟨_, rfl, ?_⟩
    repeat walk_at "w1"
    refine v_call (f_predBad w n ha hb h) (Nat.le_refl _) (fun q hq => hq.elim) fun C hC => land (t3 := ⟨0, 0, 0, 0⟩) (fun x hx => ?_) C hC
    subst hx
    repeat walk_at "w1"
    rfl
  · refine iteT rfl ?_
    refine cs_cons (c_ExprR (by walk_at "inter") (by with_unfolding_all exact fun _ => rfl) ?_)
    repeat walk_at "w1"
    refine ⟨_, rfl, ?_⟩
    repeat walk_at "w1"
    refine v_call (f_succBad w n ha hb h) (Nat.le_refl _) (fun q hq => hq.elim) fun C hC => land (t3 := ⟨0, 0, 0, 0⟩) (fun x hx => ?_) C hC
    subst hx
    repeat walk_at "w1"
    rfl
/-- no name that lies between -/
structure NoneBetween (nm on as be sh o x : List Bs) : Prop where
  h1 : nl nm x → on ≠ o ∧ ¬ nl x on
  h2 : nl nm x → ¬ nm <:+ x → as ≠ o ∧ ¬ nl x as
  h3 : nm = o → ¬ nl be x
  h4 : nm ≠ o → nl x nm → ¬ nl be x ∧ (x.length ≤ nm.length → ¬ nl sh x)
theorem f_between (w : World) (n : Nat) {nm on as be sh o x : List Bs} (s1 : Szs nm) (s2 : Szs on) (s3 : Szs as) (s4 : Szs be) (s5 : Szs sh) (s6 : Szs o) (s7 : Szs x) (H : NoneBetween nm on as be sh o x) :
    CT w (.ref 546) [.lst (nm.map .bytes), .lst (rowsPV [on, as, be, sh]), .lst (o.map .bytes), .lst (x.map .bytes)] (n + 2) (fun q => q = .bool false) noC := by
  refine d_lawbetween ?_
  refine cs_cons ?_
  refine c_Unpack2 [(S "onward", _), (S "aside", _), (S "before", _), (S "short", _)] rfl (by with_unfolding_all exact fun _ => rfl) (by with_unfolding_all exact fun _ => rfl) (by kernel_rfl) (by with_unfolding_all exact fun _ => rfl) ?_
  repeat walk_at "w1"
  refine ⟨_, .inr rfl, rfl, ?_⟩
  show seqQ _ _ _ _ _ (upd (upd (upd (upd _ (S "onward") (.lst (on.map .bytes))) (S "aside") (.lst (as.map .bytes))) (S "before") (.lst (be.map .bytes))) (S "short") (.lst (sh.map .bytes))) _
  have nf : ∀ {t : Bool} {P : Prop}, (t = true ↔ P) → ¬ P → t = false := fun {t P} h k => by cases t; rfl; exact absurd (h.mp rfl) k
  repeat walk_at "w1"
  refine v_call (f_less w n s1 s7) (Nat.le_refl _) (fun q hq => ?_) fun C hC => hC.elim
  obtain ⟨t1, rfl, ht1⟩ := hq
  repeat walk_at "w1"
  refine ite_join (fun ρ κ => ρ = (upd (upd (upd (upd (binds [S "name", S "rows", S "origin", S "other"] [PV.lst (nm.map .bytes), PV.lst (rowsPV [on, as, be, sh]), PV.lst (o.map .bytes), PV.lst (x.map .bytes)]) (S "onward") (.lst (on.map .bytes))) (S "aside") (.lst (as.map .bytes))) (S "before") (.lst (be.map .bytes))) (S "short") (.lst (sh.map .bytes)))) (fun hc => ?_) (fun hc => ?_) ?_
  · have hlt := ht1.mp hc
    obtain ⟨a1, a2⟩ := H.h1 hlt
    repeat walk_at "w1"
    refine iteF (by simpa using a1) ?_
    repeat walk_at "w1"
    refine v_callN (f_less w n s7 s2) (Nat.le_refl _) (a2) ?_
    repeat walk_at "w1"
    refine iteF rfl ?_
    repeat walk_at "w1"
    refine iteF rfl ?_
    repeat walk_at "w1"
    refine v_call (f_under w n s7 s1) (Nat.le_refl _) (fun q hq => ?_) fun C hC => hC.elim
    obtain ⟨t3, rfl, ht3⟩ := hq
    repeat walk_at "w1"
    cases t3
    · have hns : ¬ nm <:+ x := fun h => absurd (ht3.mpr h) (by decide)
      obtain ⟨b1, b2⟩ := H.h2 hlt hns
      refine iteT rfl ?_
      repeat walk_at "w1"
      refine iteF (by simpa using b1) ?_
      repeat walk_at "w1"
      refine v_callN (f_less w n s7 s3) (Nat.le_refl _) (b2) ?_
      repeat walk_at "w1"
      refine iteF rfl ?_
      repeat walk_at "w1"
      refine iteF rfl ?_
      refine iteF rfl ?_
      repeat walk_at "w1"
      rfl
    · refine iteF rfl ?_
      refine iteF rfl ?_
      repeat walk_at "w1"
      rfl
  · repeat walk_at "w1"
    rfl
  rintro ρ κ rfl
  repeat walk_at "w1"
  by_cases hno : nm = o
  · refine iteT (by simpa using hno) ?_
    repeat walk_at "w1"
    refine v_callN (f_less w n s4 s7) (Nat.le_refl _) ((H.h3 hno)) ?_
    repeat walk_at "w1"
    rfl
  · refine iteF (by simpa using hno) ?_
    repeat walk_at "w1"
    refine v_call (f_less w n s7 s1) (Nat.le_refl _) (fun q hq => ?_) fun C hC => hC.elim
    obtain ⟨t2, rfl, ht2⟩ := hq
    repeat walk_at "w1"
    cases t2
    · refine iteF rfl ?_
      repeat walk_at "w1"
      rfl
    · refine iteT rfl ?_
      obtain ⟨a1, a2⟩ := H.h4 hno (ht2.mp rfl)
      repeat walk_at "w1"
      refine v_callN (f_less w n s4 s7) (Nat.le_refl _) (a1) ?_
      repeat walk_at "w1"
      refine iteF rfl ?_
      repeat walk_at "w1"
      refine l_len_lstb s7.z ?_
      repeat walk_at "w1"
      refine l_len_lstb s1.z ?_
      repeat walk_at "w1"
      by_cases hl : x.length ≤ nm.length
      · refine iteT (by simp; omega) ?_
        repeat walk_at "w1"
        refine v_callN (f_less w n s5 s7) (Nat.le_refl _) ((a2 hl)) ?_
        repeat walk_at "w1"
        rfl
      · refine iteF (by simp; omega) ?_
        repeat walk_at "w1"
        show PV.bool _ = _
        congr 1
        simp; omega
end F14

section F15
/-! ## The plain law, over whole names -/
theorem nl_app {a b o : List Bs} : nl (a ++ o) (b ++ o) ↔ nl a b := by
  unfold nl; rw [List.reverse_append, List.reverse_append]; exact lx_app lin_bl _
theorem suf_app {a b o : List Bs} : (a ++ o) <:+ (b ++ o) ↔ a <:+ b := by
  constructor
  · rintro ⟨t, h⟩; exact ⟨t, by rw [← List.append_assoc] at h; exact List.append_cancel_right h⟩
  · rintro ⟨t, h⟩; exact ⟨t, by rw [← h, List.append_assoc]⟩
theorem app_eq {a o : List Bs} : a ++ o = o ↔ a = [] := by
  constructor
  · intro h; have := congrArg List.length h; rw [List.length_append] at this; exact List.length_eq_zero_iff.mp (by omega)
  · intro h; rw [h]; rfl
theorem none_between {B : Nat} {o p y : List Bs} (hp : Vl B p) (hy : Vl B y) : NoneBetween (p ++ o) (told true true B p ++ o) (told true false B p ++ o) (told false true B p ++ o) (told false false B p ++ o) o (y ++ o) where
  h1 h := by
    have := suc1_least hp hy (nl_app.mp h)
    exact ⟨fun e => this.1 (app_eq.mp e), fun k => this.2 (nl_app.mp k)⟩
  h2 h hs := by
    have := suc2_least hp hy (nl_app.mp h) fun k => hs (suf_app.mpr k)
    exact ⟨fun e => this.1 (app_eq.mp e), fun k => this.2 (nl_app.mp k)⟩
  h3 h k := by
    have e := app_eq.mp h
    subst e
    exact prd_top (B := B) (b := true) hy (nl_app.mp k)
  h4 h k := by
    have k := nl_app.mp k
    cases p with
    | nil => exact (h rfl).elim
    | cons l p =>
      refine ⟨fun q => prd_max hp hy k (nl_app.mp q), fun hl q => prd_short hp hy k ?_ (nl_app.mp q)⟩
      rw [List.length_append, List.length_append] at hl; omega
theorem told_on {B : Nat} {o p : List Bs} (hp : Vl B p) (h : told true true B p ++ o ≠ o) : nl (p ++ o) (told true true B p ++ o) :=
  nl_app.mpr ((suc1_ok hp).2 fun e => h (app_eq.mpr e))
theorem told_as {B : Nat} {o p : List Bs} (hp : Vl B p) (h : told true false B p ++ o ≠ o) : nl (p ++ o) (told true false B p ++ o) ∧ ¬ (p ++ o) <:+ (told true false B p ++ o) :=
  have := (suc2_ok hp).2 fun e => h (app_eq.mpr e)
  ⟨nl_app.mpr this.1, fun k => this.2 (suf_app.mp k)⟩
theorem told_back {B : Nat} {pre : Bool} {o p : List Bs} (hp : Vl B p) (h : p ++ o ≠ o) : nl (told false pre B p ++ o) (p ++ o) := by
  cases p with
  | nil => exact (h rfl).elim
  | cons l p => exact nl_app.mpr (prd_ok hp).2
theorem told_short {B : Nat} {o p : List Bs} (h : p ++ o ≠ o) : (told false false B p ++ o).length ≤ (p ++ o).length := by
  cases p with
  | nil => exact (h rfl).elim
  | cons l p => rw [List.length_append, List.length_append]; have := prd_len (B := B) (l := l) (p := p); exact Nat.add_le_add_right this _
theorem told_top {B : Nat} {o p : List Bs} (h : p ++ o = o) : told false true B p ++ o = told false false B p ++ o := by
  have := app_eq.mp h; subst this; rfl
theorem fit_of {o x : List Bs} (ho : Org o) (hx : Vl (255 - sz o) x) : Fit o (x ++ o) := by
  refine ⟨List.suffix_append x o, szs_vl ho hx, fun y hy => ?_⟩
  obtain ⟨q, rfl, hq⟩ := ho.q
  have e : (x ++ (q ++ [[]])).take ((x ++ (q ++ [[]])).length - 1) = x ++ q := by
    rw [← List.append_assoc, List.length_append, List.length_singleton, Nat.add_sub_cancel, List.take_left]
  rw [e] at hy
  rcases List.mem_append.mp hy with h | h
  · exact ⟨(hx.gd y h).pos, (hx.gd y h).top⟩
  · exact ⟨(hq y h).pos, (hq y h).top⟩
theorem szs_name {o x : List Bs} (ho : Org o) (hx : Vl (255 - sz o) x) : Szs (x ++ o) := (nmx_vl ho hx).nam.szs
/-- beside an origin -/
noncomputable def besideL (l0 : Bs) : Bs := if l0 = [1] then [2] else [1]
theorem gd_one (l0 : Bs) : Gd (besideL l0) ∧ besideL l0 ≠ l0 ∧ (besideL l0).length = 1 := by
  unfold besideL
  split
  · rename_i h; subst h
    exact ⟨⟨by simp, by simp, fun c hc => by rw [List.mem_singleton] at hc; subst hc; unfold capi; decide⟩, by decide, rfl⟩
  · rename_i h
    exact ⟨⟨by simp, by simp, fun c hc => by rw [List.mem_singleton] at hc; subst hc; unfold capi; decide⟩, fun e => h e.symm, rfl⟩
theorem gd_a : Gd [97] := ⟨by simp, by simp, fun c hc => by rw [List.mem_singleton] at hc; subst hc; unfold capi; decide⟩
theorem sz_le : ∀ {q : List Bs}, (∀ l ∈ q, Gd l) → sz q ≤ 64 * q.length
  | [], _ => Nat.le_refl _
  | l :: q, h => by have := (h l (.head _)).top; have := sz_le (q := q) fun m hm => h m (.tail _ hm); rw [sz_cons, List.length_cons]; omega
theorem beside_all {l0 : Bs} {q' : List Bs} (h0 : Gd l0) (hq : ∀ l ∈ q', Gd l) (hn : q'.length ≤ 3) : ∀ ls ∈ [q' ++ [[]], besideL l0 :: (q' ++ [[]]), [97] :: besideL l0 :: (q' ++ [[]])], Nmx ls ∧ sz ls ≤ 255 ∧ isAbs ls = true ∧ ¬ (l0 :: (q' ++ [[]])) <:+ ls := by
  have hz := sz_le hq
  obtain ⟨g1, g2, g3⟩ := gd_one l0
  have ab : ∀ x : List Bs, isAbs (x ++ [[]]) = true := fun x => by unfold isAbs; simp
  have eqs : ∀ {u v : List Bs}, u.length = v.length → u <:+ v → u = v := fun h k => k.eq_of_length h
  intro ls hls
  simp only [List.mem_cons, List.not_mem_nil, or_false] at hls
  rcases hls with rfl | rfl | rfl
  · exact ⟨⟨⟨q', [[]], rfl, hq, .inr rfl⟩, by simp; omega⟩, by rw [sz_append, sz_cons, sz_nil]; simp; omega, ab _, fun k => by have := k.length_le; rw [List.length_cons] at this; omega⟩
  · refine ⟨⟨⟨besideL l0 :: q', [[]], rfl, fun x hx => (List.mem_cons.mp hx).elim (fun e => e ▸ g1) (hq x), .inr rfl⟩, by simp; omega⟩, by rw [sz_cons, sz_append, sz_cons, sz_nil, g3]; simp; omega, ab (besideL l0 :: q'), fun k => ?_⟩
    have := eqs (by simp) k
    injection this with e _
    exact g2 e.symm
  · refine ⟨⟨⟨[97] :: besideL l0 :: q', [[]], rfl, fun x hx => ?_, .inr rfl⟩, by simp; omega⟩, by rw [sz_cons, sz_cons, sz_append, sz_cons, sz_nil, g3]; simp; omega, ab ([97] :: besideL l0 :: q'), fun k => ?_⟩
    · rcases List.mem_cons.mp hx with rfl | hx
      · exact gd_a
      · exact (List.mem_cons.mp hx).elim (fun e => e ▸ g1) (hq x)
    · obtain ⟨t, ht⟩ := k
      have hl := congrArg List.length ht
      rw [List.length_append] at hl
      simp only [List.length_cons, List.length_append, List.length_nil] at hl
      have h1 : t.length = 1 := by omega
      match t, h1 with
      | [x], _ =>
        injection ht with _ ht
        injection ht with e _
        exact g2 e.symm
end F15

section F16
local macro_rules | `(tactic| walk_at "w_EN") => `(tactic| ((with_reducible show E1 _ (Expr.Name (Str.ofString "origin") _) _ _ _ _); (with_reducible refine e_cell (by kernel_rfl) (by kernel_rfl) (by walk_at "lk") ?_)))
section
variable {c : Jx} {ρ : Rho} {κ : Kap}
theorem E1c.mono {e : Expr} {Q Q' : PV → Rho → Kap → Prop} (h : E1c c e ρ κ Q) (hQ : ∀ p ρ κ, Q p ρ κ → Q' p ρ κ) : E1c c e ρ κ Q' := fun A fs E g R s G S hg => wpC_mono (h A fs E g R s G S hg) (fun _ _ p => p.mono hQ) fun _ _ p => p
theorem e_methC {o : Expr} {apos pos : Pos} {es : List Expr} {name : Str} {f : Addr} {pl : Env → Sem Bool} {Q : PV → Rho → Kap → Prop} (hf : findIn (KF pw c.w.params) (.ref 387) name = some (some (.ref f))) (ht : typeIn (KF pw c.w.params) (.ref f) = some (.type "function")) (hs : (name == S "labels") = false) (hk : keepIn (KF pw c.w.params) (.ref f) = true)
    (he : MethTree o name apos pos es pl) (hp : ∀ E, (backTo pos (starEach es E)).any (·.1) = false)
    (h : E1 c o ρ κ (fun q ρ1 κ1 => ∃ l, q = .nm l ∧ ELc c pos es ρ1 κ1 (fun ps ρ2 κ2 => VLc c (callF (.ref f)) (.nm l :: ps) ρ2 κ2 Q)) noX) : E1c c (.Call (.Attribute o name apos) es [] pos) ρ κ Q :=
  e_CallMethC (f := .ref f) pl he (keep_ref hk) hp (h.mono (fun q ρ1 κ1 ⟨l, e, hq⟩ => by subst e; exact ⟨m_nm hf ht hs, hq⟩) fun _ _ _ h => h)
theorem e_succC {o : Expr} {es : List Expr} {apos pos : Pos} {pl : Env → Sem Bool} {Q : PV → Rho → Kap → Prop} (he : MethTree o (S "successor") apos pos es pl) (hp : ∀ E, (backTo pos (starEach es E)).any (·.1) = false)
    (h : E1 c o ρ κ (fun q ρ1 κ1 => ∃ l, q = .nm l ∧ ELc c pos es ρ1 κ1 (fun ps ρ2 κ2 => VLc c (callF (.ref 384)) (.nm l :: ps) ρ2 κ2 Q)) noX) : E1c c (.Call (.Attribute o (S "successor") apos) es [] pos) ρ κ Q :=
  e_methC (f := 384) (by kernel_rfl) (by kernel_rfl) (by kernel_rfl) (by kernel_rfl) he hp h
theorem e_predC {o : Expr} {es : List Expr} {apos pos : Pos} {pl : Env → Sem Bool} {Q : PV → Rho → Kap → Prop} (he : MethTree o (S "predecessor") apos pos es pl) (hp : ∀ E, (backTo pos (starEach es E)).any (·.1) = false)
    (h : E1 c o ρ κ (fun q ρ1 κ1 => ∃ l, q = .nm l ∧ ELc c pos es ρ1 κ1 (fun ps ρ2 κ2 => VLc c (callF (.ref 376)) (.nm l :: ps) ρ2 κ2 Q)) noX) : E1c c (.Call (.Attribute o (S "predecessor") apos) es [] pos) ρ κ Q :=
  e_methC (f := 376) (by kernel_rfl) (by kernel_rfl) (by kernel_rfl) (by kernel_rfl) he hp h
theorem e_listLabC {e : Expr} {p1 p2 p3 : Pos} {Q : PV → Rho → Kap → Prop} (hk : c.scope.names.lookup (S "list") = some .globalImplicit) (he : ∀ E, starEach [.Attribute e (S "labels") p2] E = (false, eval (.Attribute e (S "labels") p2) E) :: starEach [] E) (hb : ∀ E, attributeBase e (S "labels") E (eval e E) = eval e E)
    (h : E1c c e ρ κ (fun q ρ1 κ1 => ∃ r : List Bs, q = .nm r ∧ r.length ≤ 16777216 ∧ Q (.lst (r.map .bytes)) ρ1 κ1)) : E1c c (.Call (.Name (S "list") p1) [.Attribute e (S "labels") p2] [] p3) ρ κ Q :=
  e_CallNameC (f := .type "list") (keep_machine rfl) (fun E => by rw [he E]; rfl) (e_bival (n_list _) hk (by kernel_rfl) ⟨rfl, el_consC he (e_AttrC hb (h.mono fun q ρ1 κ1 ⟨r, e, hz, hq⟩ => by
    subst e
    exact a_labels (el_leaf (el_nil (v_leaf (l_list_tup (by rw [List.length_map]; exact hz) hq))))))⟩)
theorem csk_consJ {y : Str} {st : Stmt} {rest : List Stmt} {Q : PF → Rho → Kap → Prop} (J : Rho → Kap → Prop) (h : C1 c st ρ κ (jQ J) noX) (k : ∀ ρ κ, J ρ κ → CSk c y rest ρ κ Q) : CSk c y (st :: rest) ρ κ Q :=
  csk_cons fun A fs E g R s G S hg => wpAny_mono (h A fs E g R s G S hg) (fun _ _ p => p.mono fun f ρ κ hj => by cases f <;> first | exact ⟨rfl, k _ _ hj⟩ | exact hj.elim) fun _ _ p => p
end
section
variable {c : Jx} {ρ : Rho} {κ : Kap} {X : XP}
theorem cs_consQ {st : Stmt} {rest : List Stmt} {Q : PF → Rho → Kap → Prop} (J : Rho → Kap → Prop) (h : C1 c st ρ κ (jR J Q) X) (k : ∀ ρ κ, J ρ κ → CS c rest ρ κ Q X) : CS c (st :: rest) ρ κ Q X :=
  cs_cons fun A fs E g R s G S hg => wpAny_mono (h A fs E g R s G S hg) (fun _ _ p => p.mono fun f ρ κ hj => by cases f <;> first | exact k _ _ hj | exact hj) fun _ _ p => p
end
theorem org_of {p : List Bs} (h : ∀ x ∈ p, Gd x) (hs : sz (p ++ [[]]) ≤ 255) : Org (p ++ [[]]) := ⟨⟨p, rfl, h⟩, hs⟩
theorem vl_of {o p : List Bs} (h : ∀ x ∈ p, Gd x) (hs : sz (p ++ o) ≤ 255) : Vl (255 - sz o) p := ⟨h, by rw [sz_append] at hs; omega⟩
/-! ## law's body, from behind -/
noncomputable abbrev lawJ (w : World) (n : Nat) : Jx := ⟨w, fnS (stAt pw 43), n + 12, true⟩
noncomputable abbrev lawB (k : Nat) : List Stmt := (fnB (stAt pw 43)).drop k
noncomputable abbrev lawQ : PF → Rho → Kap → Prop := QB fun q => q = .bool true
noncomputable def rws (o p : List Bs) : List (List Bs) := [told true true (255 - sz o) p ++ o, told true false (255 - sz o) p ++ o, told false true (255 - sz o) p ++ o, told false false (255 - sz o) p ++ o]
structure LF (o p : List Bs) (ρ : Rho) : Prop where
  org : ρ (S "origin") = some (.lst (o.map .bytes))
  nam : ρ (S "name") = some (.lst ((p ++ o).map .bytes))
  zon : ρ (S "zone") = some (.nm o)
  who : ρ (S "whole") = some (.nm (p ++ o))
  alo : ρ (S "alone") = some (.nm p)
  row : ρ (S "rows") = some (.lst (rowsPV (rws o p)))
theorem LF.up {o p : List Bs} {ρ : Rho} {x : Str} {v : PV} (h : LF o p ρ) (hx : (x == S "origin" || x == S "name" || x == S "zone" || x == S "whole" || x == S "alone" || x == S "rows") = false) : LF o p (upd ρ x v) := by
  simp only [Bool.or_eq_false_iff] at hx
  obtain ⟨⟨⟨⟨⟨h1, h2⟩, h3⟩, h4⟩, h5⟩, h6⟩ := hx
  have f : ∀ {y : Str}, (x == y) = false → upd ρ x v y = ρ y := fun {y} h => by
    unfold upd; rw [if_neg]; rintro rfl; simp at h
  exact ⟨(f h1).trans h.org, (f h2).trans h.nam, (f h3).trans h.zon, (f h4).trans h.who, (f h5).trans h.alo, (f h6).trans h.row⟩
end F16

section F17
local macro_rules | `(tactic| walk_at "w_EN") => `(tactic| ((with_reducible show E1 _ (Expr.Name (Str.ofString "origin") _) _ _ _ _); (with_reducible refine e_cell (by kernel_rfl) (by kernel_rfl) (by walk_at "lk") ?_)))
noncomputable abbrev evA (o p : List Bs) (l : List PV) (ρ : Rho) (κ : Kap) : Prop := κ = [] ∧ LF o p ρ ∧ ∀ q ∈ l, ∃ b, q = .bool b
noncomputable abbrev evB (o p : List Bs) (l0 : Bs) (q' : List Bs) (b : Bool) (l : List PV) (ρ : Rho) (κ : Kap) : Prop := κ = [] ∧ LF o p ρ ∧ ρ (S "way") = some (.bool b) ∧ ∀ q ∈ l, ∃ ls ∈ [q' ++ [[]], besideL l0 :: (q' ++ [[]]), [97] :: besideL l0 :: (q' ++ [[]])], q = .lst (ls.map .bytes)
theorem law_end (w : World) (n : Nat) {o p : List Bs} {ρ : Rho} (ho : Org o) (hp : Vl (255 - sz o) p) (hv : (∃ l0 q', o = l0 :: (q' ++ [[]]) ∧ Gd l0 ∧ (∀ l ∈ q', Gd l) ∧ q'.length ≤ 3) ∨ o = [[]]) (L : LF o p ρ) : CS (lawJ w n) (lawB 19) ρ [] lawQ noX := by
  have hN := nmx_vl ho hp
  have hs := szs_vl ho hp
  have hpl : p.length ≤ 255 := by have := sz_len (p ++ o); simp at this; omega
  have hP : Nmx p := nmx_rel hp.gd (by omega)
  have hO := ho.nmx
  refine cs_cons (c_For (evA o p) (fun _ _ => rfl) (by kernel_rfl) (e_List ?_) ?_ ?_)
  · repeat walk_at "w1"
    exact ⟨by simp, _, it_list _ _, rfl, L, by simp⟩
  · rintro q rest ρ κ ⟨rfl, L, hq⟩
    obtain ⟨b, rfl⟩ := hq _ (.head _)
    have hq' := fun q h => hq q (.tail _ h)
    obtain ⟨e1, e2, e3, e4, e5, e6⟩ := L
    repeat walk_at "w1"
    refine v_call1 (P := True) (f_refused w n hN.nam hP.nam (.inl ⟨rel_abs hp.gd, rfl⟩)) (Nat.le_add_right (n + 10) 2) ?_
    repeat walk_at "w1"
    refine iteF (by simp) ?_
    repeat walk_at "w1"
    refine v_call1 (P := True) (f_refused w n hP.nam hP.nam (.inl ⟨rel_abs hp.gd, rfl⟩)) (Nat.le_add_right (n + 10) 2) ?_
    repeat walk_at "w1"
    refine iteF (by simp) ?_
    repeat walk_at "w1"
    refine iteF rfl ?_
    repeat walk_at "w1"
    have hoz := hO.nam.szs
    refine l_len_lstb hoz.z ?_
    repeat walk_at "w1"
    have L0 : LF o p (upd ρ (S "way") (.bool b)) := LF.up ⟨e1, e2, e3, e4, e5, e6⟩ (by kernel_rfl)
    rcases hv with ⟨l0, q', hoe, g0, gq, gn⟩ | hoe
    · have hall := beside_all g0 gq gn
      rw [← hoe] at hall
      have hol : o.length = q'.length + 2 := by rw [hoe]; simp
      refine iteT (by simp; omega) ?_
      repeat walk_at "w1"
      refine e_List ?_
      repeat walk_at "w1"
      refine s_lstb hoz.z (by omega) (by omega) ?_
      rw [show o.getD (idx o.length 0) [] = l0 by rw [hoe]; rfl]
      repeat walk_at "w1"
      have hbs : ∀ (c : Jx) (ρ : Rho) (κ : Kap) (Q : PV → Rho → Kap → Prop) (p1 p2 : Pos) (k1 k2 : Nat), Q (.bytes (besideL l0)) ρ κ → (if (l0 != [1]) = true then E1 c (.Constant (.bytes [1]) k1 p1) ρ κ Q noX else E1 c (.Constant (.bytes [2]) k2 p2) ρ κ Q noX) := fun c ρ κ Q p1 p2 k1 k2 h => by
        unfold besideL at h
        by_cases hl : l0 = [1]
        · rw [if_pos hl] at h; exact iteF (by simpa using hl) (e_bytes h)
        · rw [if_neg hl] at h; exact iteT (by simpa using hl) (e_bytes h)
      refine hbs _ _ _ _ _ _ _ _ ?_
      repeat walk_at "w1"
      refine ⟨by first | exact Nat.le_of_ble_eq_true rfl | simp, ?_⟩
      repeat walk_at "w1"
      refine ⟨_, rfl, ?_⟩
      repeat walk_at "w1"
      refine s_lstb_cut hoz.z ?_
      rw [show cut (some 1) none o = q' ++ [[]] by rw [show cut (some 1) none o = o.drop 1 from cut_from 1 _, hoe]; rfl]
      refine v_ladd (by simp; omega) ?_
      repeat walk_at "w1"
      have L1 : LF o p (upd (upd ρ (S "way") (.bool b)) (S "beside") (.lst ((besideL l0 :: (q' ++ [[]])).map .bytes))) := LF.up L0 (by kernel_rfl)
      show C1 _ _ (upd (upd ρ (S "way") (.bool b)) (S "beside") (.lst ((besideL l0 :: (q' ++ [[]])).map .bytes))) _ _ _
      refine c_For (evB o p l0 q' b) (fun _ _ => rfl) (by kernel_rfl) (e_List ?_) ?_ ?_
      · repeat walk_at "w1"
        refine ⟨_, rfl, ?_⟩
        repeat walk_at "w1"
        refine s_lstb_cut hoz.z ?_
        rw [show cut (some 1) none o = q' ++ [[]] by rw [show cut (some 1) none o = o.drop 1 from cut_from 1 _, hoe]; rfl]
        repeat walk_at "w1"
        refine e_List ?_
        repeat walk_at "w1"
        refine ⟨by first | exact Nat.le_of_ble_eq_true rfl | simp, ?_⟩
        repeat walk_at "w1"
        refine v_ladd (by simp; omega) ?_
        repeat walk_at "w1"
        refine ⟨by simp, _, it_list _ _, rfl, L1, by walk_at "lk", fun q hq => ?_⟩
        simp only [List.mem_cons, List.not_mem_nil, or_false] at hq
        rcases hq with rfl | rfl | rfl
        · exact ⟨_, .head _, rfl⟩
        · exact ⟨_, .tail _ (.head _), rfl⟩
        · exact ⟨_, .tail _ (.tail _ (.head _)), rfl⟩
      · rintro q rest2 ρ κ ⟨rfl, ⟨e1, e2, e3, e4, e5, e6⟩, e7, hq2⟩
        have L2 : LF o p ρ := ⟨e1, e2, e3, e4, e5, e6⟩
        obtain ⟨ls, hls, rfl⟩ := hq2 _ (.head _)
        have hq2' := fun q h => hq2 q (.tail _ h)
        obtain ⟨h1, h2, h3, h4⟩ := hall ls hls
        refine cs_cons ?_
        repeat walk_at "w1"
        refine v_call (f_Name w (n + 8) h1.nam.toLabs) (Nat.le_refl _) (fun q hq => ?_) fun C hC => ?_
        · obtain ⟨rfl, -⟩ := hq
          repeat walk_at "w1"
          refine v_call1 (P := True) (f_refused w n h1.nam hO.nam (.inr ⟨ho.abs [], h3, h4, rfl⟩)) (Nat.le_add_right (n + 10) 2) ?_
          repeat walk_at "w1"
          refine iteF (by simp) ?_
          repeat walk_at "w1"
          exact ⟨rfl, L2.up (by kernel_rfl), by walk_at "lk", hq2'⟩
        · obtain ⟨-, hC⟩ := hC
          rw [wire_sz] at hC; omega
      · rintro ρ κ ⟨rfl, L2, e7, -⟩
        repeat walk_at "w1"
        exact ⟨rfl, L2, hq'⟩
    · refine iteF (by rw [hoe]; rfl) ?_
      repeat walk_at "w1"
      exact ⟨rfl, L0, hq'⟩
  · rintro ρ κ ⟨rfl, ⟨e1, e2, e3, e4, e5, e6⟩, -⟩
    repeat walk_at "w1"
    refine l_list_tup (by rw [List.length_map]; exact hN.nam.szs.z) ?_
    repeat walk_at "w1"
    refine iteT (by simp) ?_
    repeat walk_at "w1"
    refine l_list_tup (by rw [List.length_map]; exact hO.nam.szs.z) ?_
    repeat walk_at "w1"
    simp
end F17

section F18
local macro_rules | `(tactic| walk_at "w_EN") => `(tactic| ((with_reducible show E1 _ (Expr.Name (Str.ofString "origin") _) _ _ _ _); (with_reducible refine e_cell (by kernel_rfl) (by kernel_rfl) (by walk_at "lk") ?_)))
noncomputable def tellF (o : List Bs) : PV → Option PV := fun q => match q with | .nm l => some (.lst ((l ++ o).map .bytes)) | _ => none
section
variable (w : World) (n : Nat) {o p : List Bs} (ho : Org o) (hp : Vl (255 - sz o) p)
include ho hp
theorem sr2 : CTc w (.ref 384) [.nm p, .nm o] (n + 9) (fun q => q = .nm (told true true (255 - sz o) p)) := f_succ2 (rel := true) w n ho hp
theorem sr3 {b : Bool} : CTc w (.ref 384) [.nm p, .nm o, .bool b] (n + 9) (fun q => q = .nm (told true b (255 - sz o) p)) := f_succ3 (rel := true) w n ho hp
theorem pr2 : CTc w (.ref 376) [.nm p, .nm o] (n + 9) (fun q => q = .nm (told false true (255 - sz o) p)) := f_pred2 (rel := true) w n ho hp
theorem pr3 {b : Bool} : CTc w (.ref 376) [.nm p, .nm o, .bool b] (n + 9) (fun q => q = .nm (told false b (255 - sz o) p)) := f_pred3 (rel := true) w n ho hp
theorem sa2 : CTc w (.ref 384) [.nm (p ++ o), .nm o] (n + 9) (fun q => q = .nm (told true true (255 - sz o) p ++ o)) := f_succ2 (rel := false) w n ho hp
theorem sa3 {b : Bool} : CTc w (.ref 384) [.nm (p ++ o), .nm o, .bool b] (n + 9) (fun q => q = .nm (told true b (255 - sz o) p ++ o)) := f_succ3 (rel := false) w n ho hp
theorem pa2 : CTc w (.ref 376) [.nm (p ++ o), .nm o] (n + 9) (fun q => q = .nm (told false true (255 - sz o) p ++ o)) := f_pred2 (rel := false) w n ho hp
theorem pa3 {b : Bool} : CTc w (.ref 376) [.nm (p ++ o), .nm o, .bool b] (n + 9) (fun q => q = .nm (told false b (255 - sz o) p ++ o)) := f_pred3 (rel := false) w n ho hp
omit ho in
theorem rws_vl : ∀ r ∈ rws o p, ∃ x, r = x ++ o ∧ Vl (255 - sz o) x := by
  intro r hr
  simp only [rws, List.mem_cons, List.not_mem_nil, or_false] at hr
  rcases hr with rfl | rfl | rfl | rfl <;> exact ⟨_, rfl, told_ok hp⟩
end
theorem law_told (w : World) (n : Nat) {o p : List Bs} {ρ : Rho} (ho : Org o) (hp : Vl (255 - sz o) p) (hv : (∃ l0 q', o = l0 :: (q' ++ [[]]) ∧ Gd l0 ∧ (∀ l ∈ q', Gd l) ∧ q'.length ≤ 3) ∨ o = [[]]) (L : LF o p ρ) : CSc (lawJ w n) (lawB 17) ρ [] lawQ := by
  obtain ⟨e1, e2, e3, e4, e5, e6⟩ := L
  have hoz := ho.nmx.nam.szs
  refine cs_consC (c_AssignC (by with_unfolding_all exact fun _ => rfl) (by kernel_rfl) (e_ListC ?_))
  refine el_consC (by with_unfolding_all exact fun _ => rfl) (e_succC (by with_unfolding_all exact fun _ => rfl) (by with_unfolding_all exact fun _ => rfl) ?_)
  repeat walk_at "w1"
  refine ⟨_, rfl, el_leaf ?_⟩
  repeat walk_at "w1"
  refine v_call1C (sr2 w n ho hp) (Nat.le_add_right (n + 9) 3) ?_
  refine el_consC (by with_unfolding_all exact fun _ => rfl) (e_succC (by with_unfolding_all exact fun _ => rfl) (by with_unfolding_all exact fun _ => rfl) ?_)
  repeat walk_at "w1"
  refine ⟨_, rfl, el_leaf ?_⟩
  repeat walk_at "w1"
  refine v_call1C (sr3 w n ho hp) (Nat.le_add_right (n + 9) 3) ?_
  refine el_consC (by with_unfolding_all exact fun _ => rfl) (e_predC (by with_unfolding_all exact fun _ => rfl) (by with_unfolding_all exact fun _ => rfl) ?_)
  repeat walk_at "w1"
  refine ⟨_, rfl, el_leaf ?_⟩
  repeat walk_at "w1"
  refine v_call1C (pr2 w n ho hp) (Nat.le_add_right (n + 9) 3) ?_
  refine el_consC (by with_unfolding_all exact fun _ => rfl) (e_predC (by with_unfolding_all exact fun _ => rfl) (by with_unfolding_all exact fun _ => rfl) ?_)
  repeat walk_at "w1"
  refine ⟨_, rfl, el_leaf ?_⟩
  repeat walk_at "w1"
  refine v_call1C (pr3 w n ho hp) (Nat.le_add_right (n + 9) 3) ?_
  refine el_leaf (el_nil ⟨by first | exact Nat.le_of_ble_eq_true rfl | simp, ?_⟩)
  refine seqC_next (cs_leaf ?_)
  have L1 : LF o p (upd ρ (S "told") (.lst [.nm (told true true (255 - sz o) p), .nm (told true false (255 - sz o) p), .nm (told false true (255 - sz o) p), .nm (told false false (255 - sz o) p)])) := LF.up ⟨e1, e2, e3, e4, e5, e6⟩ (by kernel_rfl)
  refine cs_cons ?_
  repeat walk_at "w1"
  refine e_Comp (cap := capOf (some (S "origin", .lst (o.map .bytes)))) (tellF o) (cap_cell (fun E a h => ?_) (by kernel_rfl) (by kernel_rfl) (by walk_at "lk")) (by kernel_rfl) (by kernel_rfl) (fun _ _ => rfl) ?_
  · unfold closureFor; simp [cellOf, h]
  repeat walk_at "w1"
  refine ⟨_, it2_list _ _, by simp, ?_, ?_⟩
  · have hz : ∀ {b1 b2 : Bool}, (told b1 b2 (255 - sz o) p).length ≤ 255 := fun {b1 b2} => by
      have := szs_vl ho (told_ok hp (onw := b1) (pre := b2)); have := sz_len (told b1 b2 (255 - sz o) p ++ o); simp at this; omega
    have one : ∀ {b1 b2 : Bool} , ∃ l : List Bs, told b1 b2 (255 - sz o) p = l ∧ l.length ≤ 255 := fun {b1 b2} => ⟨_, rfl, hz⟩
    intro q hq
    have hq : ∃ l : List Bs, q = .nm l ∧ l.length ≤ 255 := by
      simp only [List.mem_cons, List.not_mem_nil, or_false] at hq
      rcases hq with rfl | rfl | rfl | rfl <;> exact ⟨_, rfl, hz⟩
    obtain ⟨l, rfl, hl⟩ := hq
    refine te_nil fun κ => ?_
    have hcap : capOf (some (S "origin", .lst (o.map .bytes))) (S "origin") = some (.lst (o.map .bytes)) := by unfold capOf; exact if_pos rfl
    repeat walk_at "w1"
    refine l_list_tup (by rw [List.length_map]; omega) ?_
    repeat walk_at "w1"
    have := hoz.n
    refine v_ladd (by rw [List.length_map, List.length_map]; omega) ?_
    refine ⟨rfl, rfl, ?_⟩
    rw [List.map_append]
  · repeat walk_at "w1"
    refine v_bnell (l := rws o p) (m := rws o p) ?_
    repeat walk_at "w1"
    refine iteF (by simp) (cs_nil (seq_next ?_))
    exact law_end w n ho hp hv L1
noncomputable abbrev ovA (o p : List Bs) (l : List PV) (ρ : Rho) (κ : Kap) : Prop := κ = [] ∧ LF o p ρ ∧ ∀ q ∈ l, ∃ x, q = .lst ((x ++ o).map .bytes) ∧ Vl (255 - sz o) x
theorem law_others (w : World) (n : Nat) {o p : List Bs} {ot : List (List Bs)} {ρ : Rho} (ho : Org o) (hp : Vl (255 - sz o) p) (hv : (∃ l0 q', o = l0 :: (q' ++ [[]]) ∧ Gd l0 ∧ (∀ l ∈ q', Gd l) ∧ q'.length ≤ 3) ∨ o = [[]]) (L : LF o p ρ)
    (e7 : ρ (S "others") = some (.lst (rowsPV ot))) (hot : ∀ r ∈ ot, ∃ x, r = x ++ o ∧ Vl (255 - sz o) x) (hol : ot.length ≤ 1000) : CSc (lawJ w n) (lawB 16) ρ [] lawQ := by
  refine cs_consJ (fun ρ κ => κ = [] ∧ LF o p ρ) (c_leaf (c_For (ovA o p) (fun _ _ => rfl) (by kernel_rfl) ?_ ?_ ?_)) ?_
  · obtain ⟨e1, e2, e3, e4, e5, e6⟩ := L
    repeat walk_at "w1"
    refine v_ladd (by unfold rowsPV rws; simp; omega) ?_
    refine ⟨_, it_list _ _, rfl, ⟨e1, e2, e3, e4, e5, e6⟩, fun q hq => ?_⟩
    rw [rowsPV_app] at hq
    obtain ⟨r, hr, rfl⟩ := List.mem_map.mp hq
    obtain ⟨x, rfl, hx⟩ := (List.mem_append.mp hr).elim (hot r) (rws_vl hp r)
    exact ⟨x, rfl, hx⟩
  · rintro q rest ρ κ ⟨rfl, ⟨e1, e2, e3, e4, e5, e6⟩, hq⟩
    obtain ⟨x, rfl, hx⟩ := hq _ (.head _)
    have hq' := fun q h => hq q (.tail _ h)
    refine cs_cons ?_
    repeat walk_at "w1"
    refine v_call1 (P := True) (f_between w (n + 10) (szs_name ho hp) (szs_name ho (told_ok hp)) (szs_name ho (told_ok hp)) (szs_name ho (told_ok hp)) (szs_name ho (told_ok hp)) ho.nmx.nam.szs (szs_name ho hx) (none_between hp hx)) (Nat.le_refl _) ?_
    repeat walk_at "w1"
    refine iteF rfl ?_
    repeat walk_at "w1"
    exact ⟨rfl, LF.up ⟨e1, e2, e3, e4, e5, e6⟩ (by kernel_rfl), hq'⟩
  · rintro ρ κ ⟨rfl, L, -⟩
    exact jR_next ⟨rfl, L⟩
  · rintro ρ κ ⟨rfl, L⟩
    exact law_told w n ho hp hv L
end F18

section F19
local macro_rules | `(tactic| walk_at "w_EN") => `(tactic| ((with_reducible show E1 _ (Expr.Name (Str.ofString "origin") _) _ _ _ _); (with_reducible refine e_cell (by kernel_rfl) (by kernel_rfl) (by walk_at "lk") ?_)))
structure L4 (o p : List Bs) (ρ : Rho) : Prop where
  on : ρ (S "onward") = some (.lst ((told true true (255 - sz o) p ++ o).map .bytes))
  as : ρ (S "aside") = some (.lst ((told true false (255 - sz o) p ++ o).map .bytes))
  be : ρ (S "before") = some (.lst ((told false true (255 - sz o) p ++ o).map .bytes))
  sh : ρ (S "short") = some (.lst ((told false false (255 - sz o) p ++ o).map .bytes))
theorem L4.up {o p : List Bs} {ρ : Rho} {x : Str} {v : PV} (h : L4 o p ρ) (hx : (x == S "onward" || x == S "aside" || x == S "before" || x == S "short") = false) : L4 o p (upd ρ x v) := by
  simp only [Bool.or_eq_false_iff] at hx
  obtain ⟨⟨⟨h3, h4⟩, h5⟩, h6⟩ := hx
  have f : ∀ {y : Str}, (x == y) = false → upd ρ x v y = ρ y := fun {y} h => by
    unfold upd; rw [if_neg]; rintro rfl; simp at h
  exact ⟨(f h3).trans h.on, (f h4).trans h.as, (f h5).trans h.be, (f h6).trans h.sh⟩
structure LO (o : List Bs) (k : Nat) (ρ : Rho) : Prop where
  ot : ∃ ot : List (List Bs), ρ (S "others") = some (.lst (rowsPV ot)) ∧ (∀ r ∈ ot, ∃ x, r = x ++ o ∧ Vl (255 - sz o) x) ∧ ot.length ≤ k
theorem LO.up {o : List Bs} {k : Nat} {ρ : Rho} {x : Str} {v : PV} (h : LO o k ρ) (hx : (x == S "others") = false) : LO o k (upd ρ x v) := by
  obtain ⟨ot, h1, h2, h3⟩ := h
  have f : ∀ {y : Str}, (x == y) = false → upd ρ x v y = ρ y := fun {y} h => by
    unfold upd; rw [if_neg]; rintro rfl; simp at h
  exact ⟨ot, (f hx).trans h1, h2, h3⟩
theorem law_rest (w : World) (n : Nat) {o p : List Bs} {ρ : Rho} (ho : Org o) (hp : Vl (255 - sz o) p) (hv : (∃ l0 q', o = l0 :: (q' ++ [[]]) ∧ Gd l0 ∧ (∀ l ∈ q', Gd l) ∧ q'.length ≤ 3) ∨ o = [[]]) (L : LF o p ρ) (M : L4 o p ρ) (O : LO o 1000 ρ) : CSc (lawJ w n) (lawB 13) ρ [] lawQ := by
  have sN := szs_name ho hp
  have sO := ho.nmx.nam.szs
  have sR : ∀ {b1 b2 : Bool}, Szs (told b1 b2 (255 - sz o) p ++ o) := fun {b1 b2} => szs_name ho (told_ok hp)
  obtain ⟨e1, e2, e3, e4, e5, e6⟩ := L
  obtain ⟨f1, f2, f3, f4⟩ := M
  have tt : ∀ {t : Bool} {P : Prop}, (t = true ↔ P) → P → t = true := fun {t P} h k => h.mpr k
  have nf : ∀ {t : Bool} {P : Prop}, (t = true ↔ P) → ¬ P → t = false := fun {t P} h k => by cases t; rfl; exact absurd (h.mp rfl) k
  refine cs_consJ (fun ρ' κ => ρ' = ρ ∧ κ = []) (c_leaf ?_) ?_
  · repeat walk_at "w1"
    by_cases h : told true true (255 - sz o) p ++ o = o
    · refine iteF (by simpa using h) ?_
      repeat walk_at "w1"
      exact iteF rfl (cs_nil (jR_next ⟨rfl, rfl⟩))
    · refine iteT (by simpa using h) ?_
      repeat walk_at "w1"
      refine v_callT (f_less w (n + 11) sN sR) (Nat.le_refl _) ((told_on hp h)) ?_
      repeat walk_at "w1"
      exact iteF rfl (iteF rfl (cs_nil (jR_next ⟨rfl, rfl⟩)))
  rintro ρ' κ ⟨rfl, rfl⟩
  refine cs_consJ (fun ρ1 κ => ρ1 = ρ' ∧ κ = []) (c_leaf ?_) ?_
  · repeat walk_at "w1"
    by_cases h : told true false (255 - sz o) p ++ o = o
    · refine iteF (by simpa using h) ?_
      repeat walk_at "w1"
      exact iteF rfl (cs_nil (jR_next ⟨rfl, rfl⟩))
    · refine iteT (by simpa using h) ?_
      have hh := told_as hp h
      repeat walk_at "w1"
      refine v_callT (f_less w (n + 11) sN sR) (Nat.le_refl _) (hh.1) ?_
      repeat walk_at "w1"
      refine iteF rfl ?_
      repeat walk_at "w1"
      refine v_callN (f_under w (n + 11) sR sN) (Nat.le_refl _) (hh.2) ?_
      repeat walk_at "w1"
      repeat (first | refine iteF rfl ?_ | walk_at "w1")
      exact ⟨rfl, rfl⟩
  rintro ρ1 κ ⟨rfl, rfl⟩
  refine cs_consJ (fun ρ2 κ => ρ2 = ρ1 ∧ κ = []) (c_leaf ?_) ?_
  · repeat walk_at "w1"
    by_cases h : p ++ o = o
    · refine iteT (by simpa using h) ?_
      repeat walk_at "w1"
      refine iteF (by rw [told_top h]; simp) ?_
      repeat walk_at "w1"
      exact ⟨rfl, rfl⟩
    · refine iteF (by simpa using h) ?_
      repeat walk_at "w1"
      refine v_callT (f_less w (n + 11) sR sN) (Nat.le_refl _) ((told_back hp h)) ?_
      repeat walk_at "w1"
      refine iteF rfl ?_
      repeat walk_at "w1"
      refine v_callT (f_less w (n + 11) sR sN) (Nat.le_refl _) ((told_back hp h)) ?_
      repeat walk_at "w1"
      refine iteF rfl ?_
      repeat walk_at "w1"
      refine l_len_lstb sR.z ?_
      repeat walk_at "w1"
      refine l_len_lstb sN.z ?_
      repeat walk_at "w1"
      have := told_short (B := 255 - sz o) h
      refine iteF (by simp at this ⊢; omega) ?_
      repeat walk_at "w1"
      repeat (first | refine iteF rfl ?_ | walk_at "w1")
      exact ⟨rfl, rfl⟩
  rintro ρ2 κ ⟨rfl, rfl⟩
  obtain ⟨ot, g1, g2, g3⟩ := O
  exact law_others w n ho hp hv ⟨e1, e2, e3, e4, e5, e6⟩ g1 g2 g3
noncomputable abbrev cvA (o p : List Bs) (ρ : Rho) (κ : Kap) : Prop := κ = [] ∧ LF o p ρ ∧ L4 o p ρ ∧ LO o 1000 ρ
noncomputable abbrev cvB (o p : List Bs) (l : List PV) (ρ : Rho) (κ : Kap) : Prop := κ = [] ∧ LF o p ρ ∧ L4 o p ρ ∧ LO o (600 - 100 * l.length) ρ ∧ l.length ≤ 4 ∧ ∀ q ∈ l, ∃ x, q = .lst ((x ++ o).map .bytes) ∧ Vl (255 - sz o) x
noncomputable abbrev cvC (o p x : List Bs) (rest : List PV) (l : List PV) (ρ : Rho) (κ : Kap) : Prop := κ = [] ∧ LF o p ρ ∧ L4 o p ρ ∧ LO o (600 - 100 * (rest.length + 1)) ρ ∧ ρ (S "row") = some (.lst ((x ++ o).map .bytes)) ∧ ∀ q ∈ l, ∃ lb, q = .bytes lb ∧ Gd lb
theorem law_checks (w : World) (n : Nat) {o p : List Bs} {ρ : Rho} (ho : Org o) (hp : Vl (255 - sz o) p) (hv : (∃ l0 q', o = l0 :: (q' ++ [[]]) ∧ Gd l0 ∧ (∀ l ∈ q', Gd l) ∧ q'.length ≤ 3) ∨ o = [[]]) (L : LF o p ρ) (M : L4 o p ρ) (O : LO o 200 ρ) : CSc (lawJ w n) (lawB 12) ρ [] lawQ := by
  have sN := szs_name ho hp
  have sO := ho.nmx.nam.szs
  have ho1 : 1 ≤ o.length := by obtain ⟨q, rfl, _⟩ := ho.q; simp
  refine cs_consJ (cvA o p) (c_leaf (c_For (cvB o p) (fun _ _ => rfl) (by kernel_rfl) ?_ ?_ ?_)) ?_
  · have e6 := L.row
    repeat walk_at "w1"
    refine ⟨_, it_list _ _, rfl, L, M, O, by simp [rowsPV, rws], fun q hq => ?_⟩
    obtain ⟨r, hr, rfl⟩ := List.mem_map.mp hq
    obtain ⟨x, rfl, hx⟩ := rws_vl hp r hr
    exact ⟨x, rfl, hx⟩
  · rintro q rest ρ κ ⟨rfl, L, M, O, hl, hq⟩
    obtain ⟨x, rfl, hx⟩ := hq _ (.head _)
    have hq' := fun q h => hq q (.tail _ h)
    rw [List.length_cons] at hl O
    have sX := szs_name ho hx
    have L1 : LF o p (upd ρ (S "row") (.lst ((x ++ o).map .bytes))) := L.up (by kernel_rfl)
    have M1 : L4 o p (upd ρ (S "row") (.lst ((x ++ o).map .bytes))) := M.up (by kernel_rfl)
    have O1 : LO o (600 - 100 * (rest.length + 1)) (upd ρ (S "row") (.lst ((x ++ o).map .bytes))) := O.up (by kernel_rfl)
    obtain ⟨e1, e2, e3, e4, e5, e6⟩ := L
    refine cs_cons ?_
    repeat walk_at "w1"
    refine v_callT (f_fits w (n + 9) sX sO (List.length_pos_iff.mp (by omega))) (Nat.le_refl _) ((fit_of ho hx)) ?_
    repeat walk_at "w1"
    refine iteF rfl ?_
    repeat walk_at "w1"
    refine c_For (cvC o p x rest) (fun _ _ => rfl) (by kernel_rfl) ?_ ?_ ?_
    · repeat walk_at "w1"
      refine l_len_lstb sX.z ?_
      repeat walk_at "w1"
      refine l_len_lstb sO.z ?_
      repeat walk_at "w1"
      refine ⟨_, rfl, ?_⟩
      refine s_lstb_cut sX.z ?_
      rw [show ((x ++ o).length : Int) - (o.length : Int) = ((x.length : Nat) : Int) by simp, cut_upto, List.take_left]
      refine ⟨_, it_lstb _ _, rfl, L1, M1, O1, by walk_at "lk", fun q hq => ?_⟩
      obtain ⟨lb, hlb, rfl⟩ := List.mem_map.mp hq
      exact ⟨lb, rfl, hx.gd lb hlb⟩
    · rintro q rest2 ρ κ ⟨rfl, L, M, O, er, hq2⟩
      obtain ⟨lb, rfl, hlb⟩ := hq2 _ (.head _)
      have hq2' := fun q h => hq2 q (.tail _ h)
      refine cs_cons ?_
      repeat walk_at "w1"
      refine e_Comp (cap := fun _ => none) (fun _ => none) (cap_none fun _ => rfl) rfl (by kernel_rfl) (fun _ _ => rfl) ?_
      repeat walk_at "w1"
      have hlt := hlb.top
      refine ⟨_, it2_bytes _ _, by unfold octs; rw [List.length_map]; omega, ?_, ?_⟩
      · intro q hq
        obtain ⟨c, hc, rfl⟩ := List.mem_map.mp hq
        have hcc := cap_int (hlb.caps c hc)
        intro κ
        show B1 _ _ _ _ _ _
        refine b_Chain2 (by kernel_rfl) ?_
        repeat walk_at "w1"
        by_cases h65 : 65 ≤ (c.toNat : Int)
        · refine iteT (by simpa using h65) ?_
          repeat walk_at "w1"
          refine ⟨rfl, rfl, iteF (by simp; omega) rfl⟩
        · refine iteF (by simpa using h65) ?_
          exact ⟨rfl, rfl, iteF rfl rfl⟩
      · repeat walk_at "w1"
        refine e_List ?_
        repeat walk_at "w1"
        refine ⟨by first | exact Nat.le_of_ble_eq_true rfl | simp, ?_⟩
        have e0 : ∀ l : List PV, l.filterMap (fun _ => (none : Option PV)) = [] := fun l => by induction l with | nil => rfl | cons _ _ ih => rw [List.filterMap_cons]; exact ih
        rw [e0]
        refine v_inel (l := []) (m := []) ?_
        repeat walk_at "w1"
        refine iteF rfl ?_
        repeat walk_at "w1"
        exact ⟨rfl, L.up (by kernel_rfl), M.up (by kernel_rfl), O.up (by kernel_rfl), by walk_at "lk", hq2'⟩
    · rintro ρ κ ⟨rfl, L, M, O, er, -⟩
      obtain ⟨ot, g1, g2, g3⟩ := O
      have e1 := L.org
      repeat walk_at "w1"
      refine v_call (f_near w (n + 8) ho hx) (Nat.le_refl _) (fun q hq => ?_) fun C hC => hC.elim
      obtain ⟨rows, rfl, hr1, hr2⟩ := hq
      refine v_ladd (by unfold rowsPV; rw [List.length_map, List.length_map]; omega) ?_
      rw [rowsPV_app]
      repeat walk_at "w1"
      refine ⟨rfl, L.up (by kernel_rfl), M.up (by kernel_rfl), ⟨ot ++ rows, by walk_at "lk", fun r hr => (List.mem_append.mp hr).elim (g2 r) (hr1 r), by rw [List.length_append]; omega⟩, by omega, hq'⟩
  · rintro ρ κ ⟨rfl, L, M, ⟨ot, g1, g2, g3⟩, -, -⟩
    exact jR_next ⟨rfl, L, M, ⟨ot, g1, g2, by omega⟩⟩
  · rintro ρ κ ⟨rfl, L, M, O⟩
    exact law_rest w n ho hp hv L M O
end F19

section F20
local macro_rules | `(tactic| walk_at "w_EN") => `(tactic| ((with_reducible show E1 _ (Expr.Name (Str.ofString "origin") _) _ _ _ _); (with_reducible refine e_cell (by kernel_rfl) (by kernel_rfl) (by walk_at "lk") ?_)))
theorem law_mid (w : World) (n : Nat) {o : List Bs} {ns' : List Int} {k m : Nat} {ρ : Rho} (ho : Org o) (hv : (∃ l0 q', o = l0 :: (q' ++ [[]]) ∧ Gd l0 ∧ (∀ l ∈ q', Gd l) ∧ q'.length ≤ 3) ∨ o = [[]]) (hn : ns'.length ≤ 63)
    (e1 : ρ (S "origin") = some (.lst (o.map .bytes))) (e2 : ρ (S "numbers") = some (.lst (ns'.map .int))) (e3 : ρ (S "many") = some (.int k)) (e4 : ρ (S "size") = some (.int m)) : CSc (lawJ w n) (lawB 4) ρ [] lawQ := by
  have hO := ho.nmx
  have sO := hO.nam.szs
  have hs := ho.sz
  refine cs_consC (c_leaf ?_)
  repeat walk_at "w1"
  refine ⟨_, rfl, ?_⟩
  repeat walk_at "w1"
  refine ⟨_, rfl, ?_⟩
  refine s_lst_cut (by rw [List.length_map]; omega) ?_
  rw [cut_map]
  have h1 := cut_length (some (k : Int)) (some ((k : Int) + m)) ns'
  generalize cut (some (k : Int)) (some ((k : Int) + m)) ns' = n1 at h1
  repeat walk_at "w1"
  refine v_call (f_lname w (n + 9) hO hs (by omega)) (Nat.le_refl _) (fun q hq => ?_) fun C hC => hC.elim
  obtain ⟨p, rfl, hp0, hp1, -⟩ := hq
  have hp : Vl (255 - sz o) p := vl_of hp0 hp1
  have hN := nmx_vl ho hp
  have hP : Nmx p := nmx_rel hp.gd (by have := sz_len (p ++ o); simp at this; omega)
  repeat walk_at "w1"
  refine cs_consC (c_leaf ?_)
  repeat walk_at "w1"
  refine e_List ?_
  repeat walk_at "w1"
  refine ⟨_, rfl, ?_⟩
  repeat walk_at "w1"
  refine s_lst_cut (by rw [List.length_map]; omega) ?_
  rw [cut_map]
  have h2 := cut_length (some ((k : Int) + m)) none ns'
  generalize cut (some ((k : Int) + m)) none ns' = n2 at h2
  repeat walk_at "w1"
  refine v_call (f_lname w (n + 9) hO hs (by omega)) (Nat.le_refl _) (fun q hq => ?_) fun C hC => hC.elim
  obtain ⟨p2, rfl, hp2, hp3, -⟩ := hq
  repeat walk_at "w1"
  refine ⟨by first | exact Nat.le_of_ble_eq_true rfl | simp, ?_⟩
  repeat walk_at "w1"
  refine v_call (f_near w (n + 8) ho hp) (Nat.le_refl _) (fun q hq => ?_) fun C hC => hC.elim
  obtain ⟨rows, rfl, hr1, hr2⟩ := hq
  have hrl : (rowsPV rows).length ≤ 100 := by unfold rowsPV; rw [List.length_map]; exact hr2
  refine v_ladd (by simp only [List.length_cons, List.length_nil]; omega) ?_
  rw [show [PV.lst ((p2 ++ o).map .bytes), .lst (o.map .bytes)] ++ rowsPV rows = rowsPV ([p2 ++ o, o] ++ rows) from rfl]
  repeat walk_at "w1"
  have hot : ∀ r ∈ [p2 ++ o, o] ++ rows, ∃ x, r = x ++ o ∧ Vl (255 - sz o) x := fun r hr => by
    rcases List.mem_append.mp hr with hr | hr
    · simp only [List.mem_cons, List.not_mem_nil, or_false] at hr
      rcases hr with rfl | rfl
      · exact ⟨p2, rfl, vl_of hp2 hp3⟩
      · exact ⟨[], rfl, vl_of (fun _ h => by cases h) hs⟩
    · exact hr1 r hr
  refine cs_consC (c_leaf ?_)
  repeat walk_at "w1"
  refine v_call (f_Name w (n + 8) hO.nam.toLabs) (Nat.le_refl _) (fun q hq => ?_) fun C hC => by rw [wire_sz] at hC; omega
  obtain ⟨rfl, -⟩ := hq
  repeat walk_at "w1"
  refine cs_consC (c_leaf ?_)
  repeat walk_at "w1"
  refine v_call (f_Name w (n + 8) hN.nam.toLabs) (Nat.le_refl _) (fun q hq => ?_) fun C hC => by rw [wire_sz] at hC; omega
  obtain ⟨rfl, -⟩ := hq
  repeat walk_at "w1"
  refine cs_consC (c_leaf ?_)
  repeat walk_at "w1"
  refine l_len_lstb hN.nam.szs.z ?_
  repeat walk_at "w1"
  refine l_len_lstb sO.z ?_
  repeat walk_at "w1"
  refine ⟨_, rfl, ?_⟩
  refine s_lstb_cut hN.nam.szs.z ?_
  rw [show ((p ++ o).length : Int) - (o.length : Int) = ((p.length : Nat) : Int) by simp, cut_upto, List.take_left]
  repeat walk_at "w1"
  refine v_call (f_Name w (n + 8) hP.nam.toLabs) (Nat.le_refl _) (fun q hq => ?_) fun C hC => by rw [wire_sz] at hC; have := hp.sz; omega
  obtain ⟨rfl, -⟩ := hq
  repeat walk_at "w1"
  have hz : ∀ {b1 b2 : Bool}, (told b1 b2 (255 - sz o) p ++ o).length ≤ 16777216 := fun {b1 b2} => by
    have := szs_vl ho (told_ok hp (onw := b1) (pre := b2)); have := sz_len (told b1 b2 (255 - sz o) p ++ o); omega
  refine cs_consC (c_AssignC (by with_unfolding_all exact fun _ => rfl) (by kernel_rfl) (e_ListC ?_))
  refine el_consC (by with_unfolding_all exact fun _ => rfl) (e_listLabC (by kernel_rfl) (by with_unfolding_all exact fun _ => rfl) (by with_unfolding_all exact fun _ => rfl) (e_succC (by with_unfolding_all exact fun _ => rfl) (by with_unfolding_all exact fun _ => rfl) ?_))
  repeat walk_at "w1"
  refine ⟨_, rfl, el_leaf ?_⟩
  repeat walk_at "w1"
  refine v_call1C (sa2 w n ho hp) (Nat.le_add_right (n + 9) 3) ⟨_, rfl, hz, ?_⟩
  refine el_consC (by with_unfolding_all exact fun _ => rfl) (e_listLabC (by kernel_rfl) (by with_unfolding_all exact fun _ => rfl) (by with_unfolding_all exact fun _ => rfl) (e_succC (by with_unfolding_all exact fun _ => rfl) (by with_unfolding_all exact fun _ => rfl) ?_))
  repeat walk_at "w1"
  refine ⟨_, rfl, el_leaf ?_⟩
  repeat walk_at "w1"
  refine v_call1C (sa3 w n ho hp) (Nat.le_add_right (n + 9) 3) ⟨_, rfl, hz, ?_⟩
  refine el_leaf (el_nil ⟨by simp, seqC_next ?_⟩)
  refine cs_consC (c_AssignC (by with_unfolding_all exact fun _ => rfl) (by kernel_rfl) (e_BinOpC ?_))
  repeat walk_at "w1"
  refine e_ListC ?_
  refine el_consC (by with_unfolding_all exact fun _ => rfl) (e_listLabC (by kernel_rfl) (by with_unfolding_all exact fun _ => rfl) (by with_unfolding_all exact fun _ => rfl) (e_predC (by with_unfolding_all exact fun _ => rfl) (by with_unfolding_all exact fun _ => rfl) ?_))
  repeat walk_at "w1"
  refine ⟨_, rfl, el_leaf ?_⟩
  repeat walk_at "w1"
  refine v_call1C (pa2 w n ho hp) (Nat.le_add_right (n + 9) 3) ⟨_, rfl, hz, ?_⟩
  refine el_consC (by with_unfolding_all exact fun _ => rfl) (e_listLabC (by kernel_rfl) (by with_unfolding_all exact fun _ => rfl) (by with_unfolding_all exact fun _ => rfl) (e_predC (by with_unfolding_all exact fun _ => rfl) (by with_unfolding_all exact fun _ => rfl) ?_))
  repeat walk_at "w1"
  refine ⟨_, rfl, el_leaf ?_⟩
  repeat walk_at "w1"
  refine v_call1C (pa3 w n ho hp) (Nat.le_add_right (n + 9) 3) ⟨_, rfl, hz, ?_⟩
  refine el_leaf (el_nil ⟨by first | exact Nat.le_of_ble_eq_true rfl | simp, ?_⟩)
  refine v_ladd (by simp) (seqC_next ?_)
  show CSc _ _ (upd _ (S "rows") (.lst (rowsPV (rws o p)))) _ _
  refine cs_consC (c_leaf ?_)
  refine c_Unpack2 [(S "onward", _), (S "aside", _), (S "before", _), (S "short", _)] rfl (by with_unfolding_all exact fun _ => rfl) (by with_unfolding_all exact fun _ => rfl) (by kernel_rfl) (by with_unfolding_all exact fun _ => rfl) ?_
  repeat walk_at "w1"
  refine ⟨_, .inr rfl, rfl, seqC_next ?_⟩
  show CSc _ _ (upd (upd (upd (upd _ (S "onward") (.lst ((told true true (255 - sz o) p ++ o).map .bytes))) (S "aside") (.lst ((told true false (255 - sz o) p ++ o).map .bytes))) (S "before") (.lst ((told false true (255 - sz o) p ++ o).map .bytes))) (S "short") (.lst ((told false false (255 - sz o) p ++ o).map .bytes))) _ _
  exact law_checks w n ho hp hv ⟨by walk_at "lk", by walk_at "lk", by walk_at "lk", by walk_at "lk", by walk_at "lk", by walk_at "lk"⟩ ⟨by walk_at "lk", by walk_at "lk", by walk_at "lk", by walk_at "lk"⟩ ⟨_, by walk_at "lk", hot, by simp; omega⟩
end F20

section F21
local macro_rules | `(tactic| walk_at "w_EN") => `(tactic| ((with_reducible show E1 _ (Expr.Name (Str.ofString "origin") _) _ _ _ _); (with_reducible refine e_cell (by kernel_rfl) (by kernel_rfl) (by walk_at "lk") ?_)))
set_option maxHeartbeats 16000000 in
theorem f_law (w : World) (n : Nat) {ns : List Int} (hn : ns.length ≤ 63) : CTc w (.ref 551) [.lst (ns.map .int)] (n + 13) (fun q => q = .bool true) := by
  refine ct_cell1C (x := S "script") (y := S "origin") (st := stAt pw 43) (name := S "law") (qual := S "law") (dV := .none) (pm := (.str (S "law_jf0016_01") 858)) (cd := 550) (by kernel_rfl) (by kernel_rfl) (fun v => by kernel_rfl) (by kernel_rfl) (fun n => by kernel_rfl) (by kernel_rfl) (by kernel_rfl) (by kernel_rfl) ?_
  refine csk_consJ (fun ρ κ => κ = [] ∧ ρ (S "script") = some (.lst (ns.map .int)) ∧ ∃ k : Nat, k ≤ 4 ∧ ρ (S "many") = some (.int k)) ?_ ?_
  · repeat walk_at "w1"
    refine t_lst (by rw [List.length_map]; omega) ?_
    by_cases h0 : ns = []
    · subst h0
      refine iteF rfl ?_
      repeat walk_at "w1"
      exact ⟨rfl, by walk_at "lk", 0, by omega, by show _ = some (PV.int 0); walk_at "lk"⟩
    · have hpos := List.length_pos_iff.mpr h0
      refine iteT (by cases ns; exact absurd rfl h0; rfl) ?_
      refine e_Subscript (e_List ?_)
      repeat walk_at "w1"
      refine ⟨by first | exact Nat.le_of_ble_eq_true rfl | simp, ?_⟩
      repeat walk_at "w1"
      refine s_lsti (by omega) (by omega) (by omega) ?_
      generalize ns.getD (idx ns.length 0) 0 = x
      repeat walk_at "w1"
      refine v_mod (by omega) ?_
      rw [fmod_pos (by omega)]
      refine s_lsti (l := [0, 1, 2, 0, 1, 2, 4]) (by simp) (by simp; omega) (by simp; omega) ?_
      have hy : ∀ y ∈ ([0, 1, 2, 0, 1, 2, 4] : List Int), 0 ≤ y ∧ y ≤ 4 := by decide
      have hm : ([0, 1, 2, 0, 1, 2, 4] : List Int).getD (idx ([0, 1, 2, 0, 1, 2, 4] : List Int).length (x % 7)) 0 ∈ ([0, 1, 2, 0, 1, 2, 4] : List Int) := by
        have := (idx_seq (n := ([0, 1, 2, 0, 1, 2, 4] : List Int).length) (i := x % 7) (by simp; omega) (by simp; omega)).2
        rw [List.getD_eq_getElem?_getD, List.getElem?_eq_getElem this]; exact List.getElem_mem _
      generalize ([0, 1, 2, 0, 1, 2, 4] : List Int).getD (idx ([0, 1, 2, 0, 1, 2, 4] : List Int).length (x % 7)) 0 = y at hm
      have hy := hy y hm
      obtain ⟨k, rfl⟩ := Int.eq_ofNat_of_zero_le hy.1
      repeat walk_at "w1"
      exact ⟨rfl, by walk_at "lk", k, by omega, by walk_at "lk"⟩
  rintro ρ κ ⟨rfl, e1, k, hk, e2⟩
  refine csk_consJ (fun ρ κ => κ = [] ∧ ρ (S "script") = some (.lst (ns.map .int)) ∧ ρ (S "many") = some (.int k) ∧ ∃ m : Nat, ρ (S "size") = some (.int m)) ?_ ?_
  · repeat walk_at "w1"
    refine l_len_lst (by rw [List.length_map]; omega) ?_
    repeat walk_at "w1"
    rw [List.length_map]
    by_cases h1 : 1 < ns.length
    · refine iteT (by simp; omega) ?_
      repeat walk_at "w1"
      refine s_lsti (by omega) (by omega) (by omega) ?_
      generalize ns.getD (idx ns.length 1) 0 = x
      repeat walk_at "w1"
      refine v_mod (by omega) ?_
      rw [fmod_pos (by omega)]
      repeat walk_at "w1"
      obtain ⟨m, hm⟩ := Int.eq_ofNat_of_zero_le (show 0 ≤ x % 6 by omega)
      rw [hm]
      exact ⟨rfl, by walk_at "lk", by walk_at "lk", m, by walk_at "lk"⟩
    · refine iteF (by simp; omega) ?_
      repeat walk_at "w1"
      exact ⟨rfl, by walk_at "lk", by walk_at "lk", 1, by show _ = some (PV.int 1); walk_at "lk"⟩
  rintro ρ κ ⟨rfl, e1, e2, m, e3⟩
  refine csk_cons ?_
  repeat walk_at "w1"
  refine ⟨_, rfl, ?_⟩
  repeat walk_at "w1"
  refine ⟨_, rfl, ?_⟩
  refine s_lst_cut (by rw [List.length_map]; omega) ?_
  rw [cut_map]
  have hnl := cut_length (some 2) (some 18) ns
  generalize cut (some 2) (some 18) ns = ns' at hnl
  refine ⟨rfl, ?_⟩
  refine csk_assign (by with_unfolding_all exact fun _ => rfl) (by kernel_rfl) ?_
  repeat walk_at "w1"
  refine ⟨_, rfl, ?_⟩
  refine s_lst_cut (by rw [List.length_map]; omega) ?_
  rw [cut_map, cut_upto]
  repeat walk_at "w1"
  refine e_List ?_
  repeat walk_at "w1"
  refine ⟨by first | exact Nat.le_of_ble_eq_true rfl | simp, ?_⟩
  repeat walk_at "w1"
  refine v_call (f_lname w (n + 9) (suf := [[]]) nmx_root (by decide) (by rw [List.length_take]; omega)) (Nat.le_refl _) (fun q hq => ?_) fun C hC => hC.elim
  obtain ⟨q0, rfl, hq0, hs0, hl0⟩ := hq
  rw [List.length_take] at hl0
  have ho := org_of hq0 hs0
  have hol : (q0 ++ [[]]).length ≤ 5 := by simp; omega
  have hov : (∃ l0 q', q0 ++ [[]] = l0 :: (q' ++ [[]]) ∧ Gd l0 ∧ (∀ l ∈ q', Gd l) ∧ q'.length ≤ 3) ∨ q0 ++ [[]] = [[]] := by
    cases q0 with
    | nil => exact .inr rfl
    | cons l q => exact .inl ⟨l, q, rfl, hq0 l (.head _), fun x hx => hq0 x (.tail _ hx), by simp at hol; omega⟩
  generalize q0 ++ [[]] = o at *
  show CSc (lawJ w n) (lawB 4) (upd (upd ρ (S "numbers") (.lst (ns'.map .int))) (S "origin") (.lst (o.map .bytes))) [] lawQ
  exact law_mid (k := k) (m := m) (ns' := ns') w n ho hov (by omega) (by walk_at "lk") (by walk_at "lk") (by walk_at "lk") (by walk_at "lk")
end F21

end Mine

namespace Mine
open PySem PySem.W PyProof.Rows PySem.Calls
set_option Elab.async false
set_option maxRecDepth 100000
set_option linter.unusedVariables false
theorem ints_reps {g : Heap} {vs : List Value} {ns : List Int} (h : IntsAre vs ns) : Reps g vs (ns.map .int) := by
  induction h with
  | nil => exact .nil
  | cons n t _ ih => exact .cons (.int n t) ih
theorem mainC : MainGoalC := by
  intro w s l vs ns W hg hL hI hn
  obtain ⟨o, ho, hc, m, hd⟩ := hL
  refine wpC_mono (f_law w 0 hn callerA [] s.heap [] s [.ref l] rfl rfl ⟨by decide, by decide⟩ ⟨W, .refl _, trivial, List.nodup_nil, (fun c hc => nomatch hc), List.nodup_nil⟩ (.cons (.lst ho hc hd (by simpa using ints_reps hI)) .nil) hg) (fun v s' p => ?_) fun _ _ e => e
  obtain ⟨g', q, k, L, st, rq, rfl⟩ := p
  cases rq
  exact ⟨rfl, k.trans L.keep, st.os, st.gens.trans hg⟩
end Mine

theorem PySem.Challenge.cw_jf0016_01_holds : PySem.Challenge.rw_jf0016_01.Holds :=
  Mine.holds_mainC Mine.mainC
