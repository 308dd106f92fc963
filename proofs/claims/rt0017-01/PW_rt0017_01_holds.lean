import PyProof.Rows.All
import Wide.All
import OpenK.AllK
import Lean
import PySem.Challenge.RW_rt0017_01
set_option Elab.async false
set_option bootstrap.genMatcherCode false
noncomputable section
open PySem PySem.W PyProof.Rows PySem.Challenge
namespace Mine
/-- a post as a variable: the goals behind stay small -/
theorem wpAny_hide {M : Model} {A : Around} {α : Type} {m : Sem α} {Q : α → Shared → Prop} {E : Value → Shared → Prop} {s : Shared} (H : ∀ Q' : α → Shared → Prop, (∀ r s', Q r s' → Q' r s') → wpAny M A m Q' E s) : wpAny M A m Q E s := H Q fun _ _ h => h
theorem wpAny_hide2 {M : Model} {A : Around} {α : Type} {m : Sem α} {Q : α → Shared → Prop} {E : Value → Shared → Prop} {s : Shared} (H : ∀ (Q' : α → Shared → Prop) (E' : Value → Shared → Prop), (∀ r s', Q r s' → Q' r s') → (∀ r s', E r s' → E' r s') → wpAny M A m Q' E' s) : wpAny M A m Q E s := H Q E (fun _ _ h => h) fun _ _ h => h
theorem codeAny_hide {M : Model} {A : Around} {c : Code} {Q : Except Value Flow → Shared → Prop} {s : Shared} (H : ∀ Q', (∀ r s', Q r s' → Q' r s') → codeAny M A c Q' s) : codeAny M A c Q s := H Q fun _ _ h => h
theorem none_some {α : Type} {a : α} {P : Prop} (h : none = some a) : P := by cases h
theorem if_some {α : Type} {c : Prop} [Decidable c] {a b : α} (h : (if c then some a else none) = some b) : c ∧ a = b := by
  by_cases q : c
  · rw [if_pos q] at h; exact ⟨q, Option.some.inj h⟩
  · rw [if_neg q] at h; exact none_some h
theorem if_none {α : Type} {c : Prop} [Decidable c] {a b : α} (h : (if c then none else some a) = some b) : ¬ c ∧ a = b := by
  by_cases q : c
  · rw [if_pos q] at h; exact none_some h
  · rw [if_neg q] at h; exact ⟨q, Option.some.inj h⟩
theorem if_then {α : Type} {c : Prop} [Decidable c] {x : Option α} {b : α} (h : (if c then x else none) = some b) : c ∧ x = some b := by
  by_cases q : c
  · rw [if_pos q] at h; exact ⟨q, h⟩
  · rw [if_neg q] at h; exact none_some h
theorem if_else {α : Type} {c : Prop} [Decidable c] {x : Option α} {b : α} (h : (if c then none else x) = some b) : ¬ c ∧ x = some b := by
  by_cases q : c
  · rw [if_pos q] at h; exact none_some h
  · rw [if_neg q] at h; exact ⟨q, h⟩
end Mine
end
noncomputable section
open PySem PySem.W PyProof.Rows PySem.Challenge
namespace Mine
open Sem (wp)

noncomputable def fso (es : Array (Int × Value)) (n : Nat) (t : SetTable) : Obj := { cls := .type "frozenset", data := .set es n t }
noncomputable def putO (h : Heap) (a : Nat) (o : Obj) : Heap := h.update a fun _ => o

theorem get_objs {h : Heap} {a : Addr} {o : Obj} (e : h.get? a = some o) : h.objs[a]? = some o := by
  unfold Heap.get? at e
  split at e
  · cases e
  · exact e
theorem update_const {h : Heap} {a : Addr} {o : Obj} (f : Obj → Obj) (e : h.get? a = some o) : h.update a f = putO h a (f o) := by
  have e' := get_objs e
  obtain ⟨objs, l⟩ := h
  simp only [putO, Heap.update]
  congr 1
  apply Array.ext (by simp)
  intro i h1 h2
  simp only [Array.getElem_modify]
  split
  · rename_i hi
    subst hi
    have h3 : a < objs.size := by simpa using h1
    have h4 : objs[a]? = some objs[a] := Array.getElem?_eq_getElem h3
    have h5 : some objs[a] = some o := h4.symm.trans e'
    rw [Option.some.inj h5]
  · rfl
theorem get_fso {h : Heap} {a : Addr} {o : Obj} (e : h.get? a = some o) (es n t) : (putO h a (fso es n t)).get? a = some (fso es n t) :=
  Heap.get?_update_self _ e rfl
theorem putO_putO {h : Heap} {a : Addr} {o p : Obj} : putO (putO h a o) a p = putO h a p := by
  obtain ⟨objs, l⟩ := h
  simp only [putO, Heap.update]
  congr 1
  apply Array.ext (by simp)
  intro i h1 h2
  simp only [Array.getElem_modify]
  split <;> simp_all

noncomputable abbrev SK (w : World) := PySem.strKind pw_rt0017_01 w

/-- the data of a frozenset of strs -/
structure Good (w : World) (S : Str → Bool) (n : Nat) (es : Array (Int × Value)) (t : SetTable) : Prop where
  el : ElemsOf (SK w) es.toList
  mem : ∀ k, S k = true ↔ ∃ e ∈ es.toList, (SK w).is k e.2 = true
  size : es.size = n
  fits : t.fits es.size = true
  few : n < scanBound

section
variable {w : World} {A : Around} {E : Value → Shared → Prop} {s : Shared}

theorem storeF {a : Addr} {es ep t es' t'} {Q : Unit → Shared → Prop} (ho : s.heap.get? a = some (fso es ep t)) (hz : es'.size ≤ sizeLine)
    (h : Q () { s with heap := putO s.heap a (fso es' (ep + 1) t') }) : wpAny (model pw_rt0017_01 w) A (storeSet a es' t') Q E s :=
  wpAny_storeSet_of ho rfl (by rw [update_const _ ho]; exact h) hz

theorem goodMem {S : Str → Bool} {n : Nat} {es t} (G : Good w S n es t) {k : Str} {x : Value} (hk : (SK w).is k x = true) {es' : Array (Int × Value)} (hp : List.Perm es'.toList (es.toList ++ [((SK w).hash k, x)])) :
    ∀ k', (S k' || decide (k' = k)) = true ↔ ∃ e ∈ es'.toList, (SK w).is k' e.2 = true := mem_push_iff hk G.mem hp

theorem addTail {a : Addr} {es ep t} (ho : s.heap.get? a = some (fso es ep t)) {S' : Str → Bool} {es1 : Array (Int × Value)} {t2 : SetTable}
    (G1 : Good w S' es1.size es1 t2) {wasDummy : Bool} {R : Option Bool → Shared → Prop}
    (h : ∀ es' ep' t', Good w S' es1.size es' t' → R (some true) { s with heap := putO s.heap a (fso es' ep' t') }) {g : Bool → Sem Unit}
    (hg : ∀ (b : Bool) (s₁ : Shared) (Q' : Unit → Shared → Prop), Q' () s₁ → wpAny (model pw_rt0017_01 w) A (g b) Q' E s₁) :
    wpAny (model pw_rt0017_01 w) A (do
        storeSet a es1 t2
        if (!wasDummy && t2.tooFull) = true then do
            g (relayAll t2 es1 (SetTable.grown es1.size)).2.2
            storeSet a (relayAll t2 es1 (SetTable.grown es1.size)).1 (relayAll t2 es1 (SetTable.grown es1.size)).2.1
            pure (some true)
          else pure (some true)) R E s := by
  refine wpAny_bind (storeF ho (fits_of_scanBound G1.few) ?_)
  split
  · have hp := relayAll_perm t2 es1 (SetTable.grown es1.size)
    have hfr := relayAll_fits t2 es1 (SetTable.grown es1.size)
    generalize relayAll t2 es1 (SetTable.grown es1.size) = Rl at hp hfr ⊢
    obtain ⟨es2, t3, gave2⟩ := Rl
    dsimp only at hp hfr ⊢
    have hsz : es2.size = es1.size := by rw [← Array.length_toList, hp.length_eq, Array.length_toList]
    refine wpAny_bind (hg _ _ _ ?_)
    refine wpAny_bind (storeF (get_fso ho _ _ _) (by rw [hsz]; exact fits_of_scanBound G1.few) ?_)
    rw [putO_putO]
    exact wpAny_pure (h _ _ _ ⟨G1.el.perm hp, fun k => (G1.mem k).trans ⟨fun ⟨e, he, q⟩ => ⟨e, hp.mem_iff.mpr he, q⟩, fun ⟨e, he, q⟩ => ⟨e, hp.mem_iff.mp he, q⟩⟩, hsz, hfr, G1.few⟩)
  · exact wpAny_pure (h _ _ _ G1)

theorem addHashed {a : Addr} {es ep t} (ho : s.heap.get? a = some (fso es ep t)) {S : Str → Bool} {n : Nat} (G : Good w S n es t) {k : Str} {tk : Tok} (hn : S k = false) (hr : n + 1 < scanBound) {Q : Bool → Shared → Prop}
    (h : ∀ es' ep' t', Good w (fun k' => S k' || decide (k' = k)) (n + 1) es' t' → Q true { s with heap := putO s.heap a (fso es' ep' t') }) :
    wpAny (model pw_rt0017_01 w) A (setAddHashed a (.str k tk) (hashStr w k)) Q E s := by
  have hk : (SK w).is k (.str k tk) = true := beq_self_eq_true k
  unfold setAddHashed setAddHashedIn
  refine wpAny_holding (wpAny_bind (wpAny_setState_of ho rfl G.fits ?_))
  dsimp only
  have hb : es.size < scanBound := by rw [G.size]; exact G.few
  rw [byScan_of rfl hb G.el]
  simp only [↓reduceIte]
  unfold setAddByScan
  refine wpAny_bind ?_
  refine wpAny_bind (wpAny_rule ?_)
  refine wpAny_bind (wpAny_setScan_of (knd := SK w) hk ho rfl G.fits G.el ?_)
  cases hr' : List.findIdx? (fun e => (SK w).is k e.2) es.toList with
  | some j =>
    obtain ⟨hj, hpj, _⟩ := List.findIdx?_eq_some_iff_getElem.mp hr'
    have := (G.mem k).mpr ⟨es.toList[j], List.getElem_mem hj, hpj⟩
    rw [hn] at this; cases this
  | none =>
    dsimp only
    have hgw : ∀ (b : Bool) (s₁ : Shared) (Q' : Unit → Shared → Prop), Q' () s₁ → wpAny (model pw_rt0017_01 w) A (match b with | true => rule "set.scan.the-table-gave-way" | false => pure ()) Q' E s₁ :=
      fun b s₁ Q' hq => by cases b <;> first | exact wpAny_pure hq | exact wpAny_rule hq
    have hperm := layNew_perm t es (hashStr w k) (.str k tk)
    have hfits := layNew_fits t es (hashStr w k) (.str k tk)
    generalize layNew t es (hashStr w k) (.str k tk) = L at hperm hfits ⊢
    obtain ⟨es1, t1, wasDummy, gave⟩ := L
    dsimp only at hperm hfits ⊢
    rw [Array.toList_push] at hperm
    have hsz1 : es1.size = n + 1 := by rw [← Array.length_toList, hperm.length_eq, List.length_append, Array.length_toList, G.size]; rfl
    have G1 : Good w (fun k' => S k' || decide (k' = k)) es1.size es1 t1 := ⟨(G.el.push hk rfl).perm hperm, goodMem G hk hperm, rfl, hfits, by rw [hsz1]; exact hr⟩
    refine wpAny_bind (hgw _ _ _ ?_)
    have fin : ∀ es' ep' t', Good w (fun k' => S k' || decide (k' = k)) es1.size es' t' → wpAny (model pw_rt0017_01 w) A (pure true : Sem Bool) Q E { s with heap := putO s.heap a (fso es' ep' t') } := fun es' ep' t' g => wpAny_pure (h _ _ _ (hsz1 ▸ g))
    split
    · refine wpAny_bind ?_
      rw [hashByValue_scannable 8 rfl]
      refine wpAny_pure ?_
      refine addTail ho (S' := fun k' => S k' || decide (k' = k)) (es1 := es1) ?_ ?_ hgw
      · split
        · exact G1
        · exact ⟨G1.el, G1.mem, rfl, SetTable.fits_plain_off hfits, G1.few⟩
      · intro es' ep' t' g; dsimp only; exact fin _ _ _ g
    · refine wpAny_bind (wpAny_pure ?_)
      simp only [↓reduceIte]
      refine addTail ho (S' := fun k' => S k' || decide (k' = k)) (es1 := es1) G1 ?_ hgw
      intro es' ep' t' g; dsimp only; exact fin _ _ _ g

theorem add_ {a : Addr} {es ep t} (ho : s.heap.get? a = some (fso es ep t)) {S : Str → Bool} {n : Nat} (G : Good w S n es t) {k : Str} {tk : Tok} (hn : S k = false) (hr : n + 1 < scanBound) {Q : Bool → Shared → Prop}
    (h : ∀ es' ep' t', Good w (fun k' => S k' || decide (k' = k)) (n + 1) es' t' → Q true { s with heap := putO s.heap a (fso es' ep' t'), toks := s.toks + 1 }) :
    wpAny (model pw_rt0017_01 w) A (setAdd a (.str k tk)) Q E s := by
  unfold setAdd
  refine wpAny_holding (wpAny_bind (wpAny_pyHash_str ?_))
  exact addHashed (s := { s with toks := s.toks + 1 }) ho G hn hr h
end
end Mine
end
noncomputable section
open PySem PySem.W PyProof.Rows PySem.Challenge
namespace Mine
open SetTable

noncomputable def lcg (m x : Nat) : Nat := (x * 5 + 1) % (m + 1)
noncomputable def orb (m : Nat) : Nat → Nat → Nat
  | 0, x => x
  | k + 1, x => orb m k (lcg m x)
theorem orb_add (m : Nat) : ∀ (a b x : Nat), orb m (a + b) x = orb m b (orb m a x)
  | 0, b, x => by rw [Nat.zero_add]; rfl
  | a + 1, b, x => by rw [Nat.succ_add]; exact orb_add m a b _
theorem orb_lt {m : Nat} : ∀ (k x : Nat), x ≤ m → orb m k x ≤ m
  | 0, _, h => h
  | k + 1, x, _ => orb_lt k _ (Nat.le_of_lt_succ (Nat.mod_lt _ (Nat.succ_pos m)))

noncomputable def Full (m : Nat) : Prop := (∀ j, j ≤ m → ∃ b, b ≤ m ∧ orb m b 0 = j) ∧ orb m (m + 1) 0 = 0
noncomputable def fullB (m : Nat) : Bool := ((List.range (m + 1)).all fun j => ((List.range (m + 1)).any fun b => Nat.beq (orb m b 0) j)) && Nat.beq (orb m (m + 1) 0) 0
theorem full_of {m : Nat} (h : fullB m = true) : Full m := by
  unfold fullB at h
  simp only [Bool.and_eq_true, List.all_eq_true, List.any_eq_true, List.mem_range, Nat.beq_eq] at h
  exact ⟨fun j hj => let ⟨b, hb, e⟩ := h.1 j (Nat.lt_succ_of_le hj); ⟨b, Nat.le_of_lt_succ hb, e⟩, h.2⟩
theorem full7 : Full 7 := full_of (by decide +kernel)
theorem full127 : Full 127 := full_of (by decide +kernel)

theorem Full.reach {m : Nat} (F : Full m) {x j : Nat} (hx : x ≤ m) (hj : j ≤ m) : ∃ k, k ≤ m ∧ orb m k x = j := by
  obtain ⟨a, ha, rfl⟩ := F.1 x hx
  obtain ⟨b, hb, rfl⟩ := F.1 j hj
  by_cases h : a ≤ b
  · exact ⟨b - a, by lia, by rw [← orb_add]; congr 1; lia⟩
  · refine ⟨m + 1 - a + b, by lia, ?_⟩
    rw [← orb_add, show a + (m + 1 - a + b) = m + 1 + b by lia, orb_add, F.2]

/-- the state of the search behind k leaps -/
noncomputable def walkP (m : Nat) : Nat → Nat × Nat → Nat × Nat
  | 0, x => x
  | k + 1, x => walkP m k (leap m x.1 x.2)
theorem walkP_zero {m : Nat} : ∀ (k i : Nat) {p : Nat}, p / 32 = 0 → (walkP m k (i, p)).1 = orb m k i
  | 0, _, _, _ => rfl
  | k + 1, i, p, h => by
    show (walkP m k (leap m i p)).1 = orb m k (lcg m i)
    unfold leap lcg
    rw [h, Nat.add_zero]
    exact walkP_zero k _ rfl
theorem walkP_le {m : Nat} : ∀ (k : Nat) (x : Nat × Nat), x.1 ≤ m → (walkP m k x).1 ≤ m
  | 0, _, h => h
  | k + 1, x, _ => walkP_le k _ (Nat.le_of_lt_succ (Nat.mod_lt _ (Nat.succ_pos m)))
theorem walkP_snd {m : Nat} : ∀ (k : Nat) (x : Nat × Nat), (walkP m k x).2 = x.2 / 32 ^ k
  | 0, x => by simp [walkP]
  | k + 1, x => by
    show (walkP m k (leap m x.1 x.2)).2 = _
    rw [walkP_snd k]
    show x.2 / 32 / 32 ^ k = _
    rw [Nat.div_div_eq_div_mul, Nat.pow_succ, Nat.mul_comm]
theorem walkP_add {m : Nat} : ∀ (a b : Nat) (x : Nat × Nat), walkP m (a + b) x = walkP m b (walkP m a x)
  | 0, b, x => by rw [Nat.zero_add]; rfl
  | a + 1, b, x => by rw [Nat.succ_add]; exact walkP_add a b _

theorem Full.hits {m : Nat} (F : Full m) {i p j : Nat} (hi : i ≤ m) (hp : p < 2 ^ 64) (hj : j ≤ m) : ∃ k, k ≤ m + 12 ∧ (walkP m k (i, p)).1 = j := by
  have h2 : (walkP m 12 (i, p)).2 / 32 = 0 := by
    rw [walkP_snd]
    show p / 32 ^ 12 / 32 = 0
    rw [Nat.div_div_eq_div_mul]
    exact Nat.div_eq_of_lt (Nat.lt_of_lt_of_le hp (by decide))
  obtain ⟨k, hk, e⟩ := F.reach (walkP_le 12 (i, p) hi) hj
  refine ⟨12 + k, by lia, ?_⟩
  rw [walkP_add, show walkP m 12 (i, p) = ((walkP m 12 (i, p)).1, (walkP m 12 (i, p)).2) from rfl, walkP_zero _ _ h2, e]

theorem free_some {m : Nat} {owner : Array (Option Nat)} : ∀ (fuel i p : Nat), (∃ k, k < fuel ∧ owner.getD (walkP m k (i, p)).1 (some 0) = none) →
    ∃ j, layClean.free m owner fuel i p = some j ∧ owner.getD j (some 0) = none
  | 0, _, _, ⟨k, hk, _⟩ => absurd hk (Nat.not_lt_zero _)
  | fuel + 1, i, p, ⟨k, hk, e⟩ => by
    unfold layClean.free
    cases hf : (List.range (runEnd m i + 1 - i)).find? fun k => (owner.getD (i + k) (some 0)).isNone with
    | some q =>
      have := List.find?_some hf
      exact ⟨i + q, rfl, by simpa using this⟩
    | none =>
      dsimp only
      cases k with
      | zero =>
        exfalso
        have h0 := List.find?_eq_none.mp hf 0 (List.mem_range.mpr (by unfold runEnd; split <;> lia))
        simp only [Nat.add_zero] at h0
        have e' : owner.getD i (some 0) = none := e
        rw [e'] at h0
        exact h0 rfl
      | succ k =>
        exact free_some fuel (leap m i p).1 (leap m i p).2 ⟨k, Nat.lt_of_succ_lt_succ hk, e⟩

theorem bits_lt (h : Int) : bits h < 2 ^ 64 := by
  unfold bits
  have h1 := Int.emod_nonneg h (show (2 ^ 64 : Int) ≠ 0 by decide)
  have h2 := Int.emod_lt_of_pos h (show (0 : Int) < 2 ^ 64 by decide)
  lia

theorem set_some_perm {k : Nat} : ∀ (l : List (Option Nat)) (j : Nat), l[j]? = some none → List.Perm ((l.set j (some k)).filterMap id) (k :: l.filterMap id)
  | [], _, h => by simp at h
  | x :: l, 0, h => by
    simp only [List.getElem?_cons_zero, Option.some.injEq] at h
    subst h
    simp
  | x :: l, j + 1, h => by
    simp only [List.getElem?_cons_succ] at h
    have := set_some_perm (k := k) l j h
    rw [List.set_cons_succ]
    cases x with
    | none => simpa using this
    | some y =>
      simp only [List.filterMap_cons, id_eq]
      exact (List.Perm.cons y this).trans (List.Perm.swap ..)

theorem exists_none : ∀ (l : List (Option Nat)), (l.filterMap id).length < l.length → ∃ j, j < l.length ∧ l[j]? = some none
  | [], h => by simp at h
  | none :: l, _ => ⟨0, by simp, rfl⟩
  | some y :: l, h => by
    simp only [List.filterMap_cons, id_eq, List.length_cons] at h
    obtain ⟨j, hj, e⟩ := exists_none l (by lia)
    exact ⟨j + 1, by simp [hj], by simpa using e⟩

noncomputable def layStep (m : Nat) (acc : Option (Array (Option Nat) × Nat)) (h : Int) : Option (Array (Option Nat) × Nat) := do
  let (owner, k) ← acc
  let j ← layClean.free m owner (turns m) (bits h % (m + 1)) (bits h)
  pure (owner.setIfInBounds j (some k), k + 1)

theorem getD_none {owner : Array (Option Nat)} {j : Nat} (h : owner.getD j (some 0) = none) : j < owner.size ∧ owner.toList[j]? = some none := by
  unfold Array.getD at h
  split at h
  · rename_i hj
    refine ⟨hj, ?_⟩
    rw [Array.getElem?_toList, Array.getElem?_eq_getElem hj]
    exact congrArg some h
  · cases h

theorem lay_fold {m : Nat} (F : Full m) : ∀ (l : List Int) (owner : Array (Option Nat)) (k : Nat), owner.size = m + 1 → List.Perm (owner.toList.filterMap id) (List.range k) → k + l.length ≤ m →
    ∃ owner', l.foldl (layStep m) (some (owner, k)) = some (owner', k + l.length) ∧ owner'.size = m + 1 ∧ List.Perm (owner'.toList.filterMap id) (List.range (k + l.length))
  | [], owner, k, hs, hp, _ => ⟨owner, rfl, hs, hp⟩
  | h :: l, owner, k, hs, hp, hk => by
    have hlen : (owner.toList.filterMap id).length < owner.toList.length := by
      rw [hp.length_eq, List.length_range, Array.length_toList, hs]
      simp only [List.length_cons] at hk
      lia
    obtain ⟨j, hj, e⟩ := exists_none _ hlen
    rw [Array.length_toList, hs] at hj
    obtain ⟨q, hq, eq⟩ := F.hits (i := bits h % (m + 1)) (Nat.le_of_lt_succ (Nat.mod_lt _ (Nat.succ_pos m))) (bits_lt h) (Nat.le_of_lt_succ hj)
    have hfree : owner.getD j (some 0) = none := by
      rw [Array.getElem?_toList] at e
      unfold Array.getD
      have hj' : j < owner.size := by lia
      rw [dif_pos hj']
      rw [Array.getElem?_eq_getElem hj'] at e
      exact Option.some.inj e
    obtain ⟨j', hj', hn⟩ := free_some (m := m) (owner := owner) (turns m) (bits h % (m + 1)) (bits h) ⟨q, by unfold turns; lia, by rw [eq]; exact hfree⟩
    obtain ⟨b1, b2⟩ := getD_none hn
    have hstep : layStep m (some (owner, k)) h = some (owner.setIfInBounds j' (some k), k + 1) := by
      unfold layStep
      show (layClean.free m owner (turns m) (bits h % (m + 1)) (bits h)).bind _ = _
      rw [hj']
      rfl
    rw [List.foldl_cons, hstep]
    have hp' : List.Perm ((owner.setIfInBounds j' (some k)).toList.filterMap id) (List.range (k + 1)) := by
      rw [Array.toList_setIfInBounds, List.range_succ]
      exact (set_some_perm _ _ b2).trans ((List.Perm.cons k hp).trans (List.perm_append_singleton k _).symm)
    obtain ⟨o', r1, r2, r3⟩ := lay_fold F l (owner.setIfInBounds j' (some k)) (k + 1) (by rw [Array.size_setIfInBounds, hs]) hp' (by simp only [List.length_cons] at hk; lia)
    refine ⟨o', ?_, r2, ?_⟩
    · rw [r1, List.length_cons]; congr 2; lia
    · rw [List.length_cons, show k + (l.length + 1) = k + 1 + l.length by lia]; exact r3

theorem lay_ok {m : Nat} (F : Full m) {hs : Array Int} (hn : hs.size ≤ m) : ∃ owner, layClean m hs = some owner ∧ owner.size = m + 1 ∧ List.Perm (owner.toList.filterMap id) (List.range hs.size) := by
  have h0 : List.Perm ((Array.replicate (m + 1) (none : Option Nat)).toList.filterMap id) (List.range 0) := by
    rw [Array.toList_replicate]
    have : (List.replicate (m + 1) (none : Option Nat)).filterMap id = [] := by
      rw [List.filterMap_eq_nil_iff]; intro a ha; rw [List.eq_of_mem_replicate ha]; rfl
    rw [this]; exact .rfl
  obtain ⟨o', r1, r2, r3⟩ := lay_fold F hs.toList (Array.replicate (m + 1) none) 0 (by simp) h0 (by simpa using hn)
  refine ⟨o', ?_, r2, by simpa using r3⟩
  unfold layClean
  rw [← Array.foldl_toList]
  show (hs.toList.foldl (layStep m) (some (Array.replicate (m + 1) none, 0))).map (·.1) = some o'
  rw [r1]; rfl

theorem live_eq {owner : Array (Option Nat)} {n : Nat} (h : owner.size = n) : ((List.range n).filterMap fun j => (owner.getD j none).map (j, ·)).map (·.2) = owner.toList.filterMap id := by
  rw [List.map_filterMap]
  have e : ∀ l : List (Option Nat), ((List.range l.length).filterMap fun j => (l[j]?.getD none)) = l.filterMap id := by
    intro l
    induction l with
    | nil => rfl
    | cons x l ih =>
      rw [List.length_cons, List.range_succ_eq_map, List.filterMap_cons, List.filterMap_map]
      have : ((fun j => ((x :: l)[j]?.getD none)) ∘ Nat.succ) = fun j => (l[j]?.getD none) := by funext j; simp
      rw [this, ih]
      cases x <;> simp
  rw [← e owner.toList, Array.length_toList, h]
  congr 1
  funext j
  rw [Array.getElem?_toList, Option.map_map]
  have : owner.getD j none = owner[j]?.getD none := by
    rw [Array.getD_eq_getD_getElem?]
  rw [this]
  cases owner[j]?.getD none <;> rfl

theorem laid_ok {m : Nat} (F : Full m) {finger moves : Nat} {led plain : Bool} {hs : Array Int} (hn : hs.size ≤ m) :
    ∃ t order, laid m finger moves led plain hs = some (t, order) ∧ t.fits hs.size = true ∧ List.Perm order.toList (List.range hs.size) := by
  obtain ⟨owner, h1, h2, h3⟩ := lay_ok F hn
  unfold laid
  rw [h1]
  refine ⟨_, _, rfl, ?_, ?_⟩
  · have hl : (((List.range (m + 1)).filterMap fun j => (owner.getD j none).map (j, ·)).map (·.2)).length = hs.size := by rw [live_eq h2, h3.length_eq, List.length_range]
    rw [List.length_map] at hl
    simp only [SetTable.fits, SetTable.fill, List.size_toArray, List.length_map, hl, beq_self_eq_true, Bool.true_and, decide_eq_true_eq]
    simpa using hn
  · show List.Perm (((List.range (m + 1)).filterMap fun j => (owner.getD j none).map (j, ·)).map (·.2)) _
    rw [live_eq h2]; exact h3
end Mine
end
noncomputable section
open PySem PySem.W PyProof.Rows PySem.Challenge
namespace Mine

theorem reorder_perm {es : Array (Int × Value)} {order : Array Nat} (h : List.Perm order.toList (List.range es.size)) : List.Perm (order.filterMap (es[·]?)).toList es.toList := by
  rw [Array.toList_filterMap]
  exact (h.filterMap _).trans (by rw [filterMap_getElem?_range])
theorem reorder_size {es : Array (Int × Value)} {order : Array Nat} (h : List.Perm order.toList (List.range es.size)) : ((order.filterMap (es[·]?)).size != es.size) = false := by
  have := (reorder_perm h).length_eq
  simp only [Array.length_toList] at this
  simp [this]

theorem Good.perm {w : World} {S : Str → Bool} {n : Nat} {es es' t t'} (G : Good w S n es t) (hp : List.Perm es'.toList es.toList) (hf : t'.fits es'.size = true) : Good w S n es' t' :=
  ⟨G.el.perm hp, fun k => (G.mem k).trans ⟨fun ⟨e, he, q⟩ => ⟨e, hp.mem_iff.mpr he, q⟩, fun ⟨e, he, q⟩ => ⟨e, hp.mem_iff.mp he, q⟩⟩, by rw [← Array.length_toList, hp.length_eq, Array.length_toList, G.size], hf, G.few⟩

theorem good_nil {w : World} {t : SetTable} (hf : t.fits 0 = true) : Good w (fun _ => false) 0 #[] t := ⟨fun e he => by simp at he, fun k => by simp, rfl, hf, by decide⟩

theorem laid_mask {m finger moves led plain hs t order} (h : SetTable.laid m finger moves led plain hs = some (t, order)) : t.mask = m ∧ t.dummies = #[] := by
  unfold SetTable.laid at h
  cases hl : SetTable.layClean m hs with
  | none => rw [hl] at h; cases h
  | some o =>
    rw [hl] at h
    have h' := Option.some.inj h
    exact ⟨congrArg (fun x : SetTable × Array Nat => x.1.mask) h'.symm, congrArg (fun x : SetTable × Array Nat => x.1.dummies) h'.symm⟩

section
variable {w : World} {A : Around} {E : Value → Shared → Prop} {s : Shared}

theorem relay_empty {a : Addr} {ep : Nat} {t : SetTable} {m : Nat} {wanted : Nat} (F : Full m) (hm : SetTable.sizeAbove wanted - 1 = m) (hl : SetTable.sizeAbove wanted ≤ sizeLine) (hf : t.fits 0 = true)
    (ho : s.heap.get? a = some (fso #[] ep t)) {Q : Unit → Shared → Prop}
    (h : ∀ ep' t', t'.mask = m → t'.fits 0 = true → t'.dummies = #[] → Q () { s with heap := putO s.heap a (fso #[] ep' t') }) : wpAny (model pw_rt0017_01 w) A (setRelay a wanted) Q E s := by
  unfold setRelay
  refine wpAny_bind (wpAny_setState_of ho rfl hf ?_)
  dsimp only
  rw [if_neg (Nat.not_lt.mpr hl)]
  unfold SetTable.relaid
  rw [hm]
  obtain ⟨t', order, h1, h2, h3⟩ := laid_ok F (finger := t.finger) (moves := t.movedTo m) (led := t.led) (plain := t.plain) (hs := (#[] : Array (Int × Value)).map (·.1)) (by simp)
  obtain ⟨m1, m2⟩ := laid_mask h1
  have h3' : List.Perm order.toList (List.range (#[] : Array (Int × Value)).size) := by simpa using h3
  have ho' : order = #[] := by
    have := h3'.length_eq
    simp at this
    exact this
  subst ho'
  rw [h1]
  refine wpAny_bind (wpAny_of_eq (a := ((#[] : Array (Int × Value)), t')) (by with_unfolding_all rfl) ?_)
  exact storeF ho (Nat.zero_le _) (h _ _ m1 (by simpa using h2) m2)

theorem putO_same {h : Heap} {a : Addr} {o : Obj} (e : h.get? a = some o) : putO h a o = h := by
  have e' := get_objs e
  obtain ⟨objs, l⟩ := h
  simp only [putO, Heap.update]
  congr 1
  apply Array.ext (by simp)
  intro i h1 h2
  simp only [Array.getElem_modify]
  split
  · rename_i hi
    subst hi
    have h4 : objs[a]? = some objs[a] := Array.getElem?_eq_getElem h2
    exact (Option.some.inj (h4.symm.trans e')).symm
  · rfl
theorem fits_zero {t : SetTable} (h : t.fits 0 = true) (hd : t.dummies = #[]) : t.fill = 0 := by
  simp only [SetTable.fits, Bool.and_eq_true, beq_iff_eq] at h
  simp [SetTable.fill, h.1, hd]

/-- the fresh set that copyOf made takes all of another's -/
theorem merge_fresh {r o : Addr} {ep epo : Nat} {t to : SetTable} {es : Array (Int × Value)} {S : Str → Bool} {n : Nat} (hro : r ≠ o)
    (hr : s.heap.get? r = some (fso #[] ep t)) (ht : t.mask = 7) (hf : t.fits 0 = true) (hd : t.dummies = #[]) (ho : s.heap.get? o = some (fso es epo to)) (G : Good w S n es to) (hn0 : 0 < n)
    (hn : n * 5 < 21 ∨ (21 ≤ n * 5 ∧ SetTable.sizeAbove (n * 2) = 128 ∧ n ≤ 127)) {each : Sem Unit} {Q : Unit → Shared → Prop}
    (h : ∀ es' ep' t', Good w S n es' t' → t'.dummies = #[] → (21 ≤ n * 5 → t'.mask = 127) → Q () { s with heap := putO s.heap r (fso es' ep' t') }) : wpAny (model pw_rt0017_01 w) A (setMerge r o each) Q E s := by
  unfold setMerge
  rw [if_neg (by simpa using hro)]
  refine wpAny_bind (wpAny_setState_of ho rfl G.fits ?_)
  dsimp only
  have hne : es.isEmpty = false := by rw [Array.isEmpty_eq_false_iff]; intro e; have := G.size; rw [e] at this; simp at this; lia
  rw [hne]
  simp only [Bool.false_eq_true, ↓reduceIte]
  have fill0 := fits_zero hf hd
  -- the room
  refine wpAny_bind (wpAny_mono (Q := fun _ s' => ∃ m ep' t', Full m ∧ t'.mask = m ∧ n ≤ m ∧ (21 ≤ n * 5 → m = 127) ∧ t'.fits 0 = true ∧ t'.dummies = #[] ∧ s' = { s with heap := putO s.heap r (fso #[] ep' t') }) ?_ ?_ fun _ _ e => e)
  · unfold setRoomFor
    refine wpAny_bind (wpAny_setState_of hr rfl hf ?_)
    dsimp only
    unfold SetTable.roomFor
    rw [fill0, ht, G.size]
    rcases hn with hn | ⟨hn1, hn2, hn3⟩
    · rw [if_neg (by lia)]
      exact wpAny_pure ⟨7, ep, t, full7, ht, by lia, fun _ => by lia, hf, hd, by rw [putO_same hr]⟩
    · rw [if_pos (by lia)]
      dsimp only
      have hp0 : t.place.size = 0 := by simp only [SetTable.fits, Bool.and_eq_true, beq_iff_eq] at hf; exact hf.1
      rw [hp0, Nat.zero_add]
      refine relay_empty full127 (by rw [hn2]) (by rw [hn2, sizeLine_eq]; decide) hf hr fun ep' t' m1 m2 m3 => ?_
      exact ⟨127, ep', t', full127, m1, hn3, fun _ => rfl, m2, m3, rfl⟩
  · rintro _ s' ⟨m, ep', t', F, hm, hnm, hm7, hf', hd', rfl⟩
    have hr' := get_fso hr (#[] : Array (Int × Value)) ep' t'
    refine wpAny_bind (wpAny_setState_of hr' rfl hf' ?_)
    dsimp only
    have fill0' := fits_zero hf' hd'
    have hz : es.size ≤ sizeLine := by rw [G.size]; exact fits_of_scanBound G.few
    unfold SetTable.road
    rw [fill0']
    simp only [bne_self_eq_false, Bool.false_eq_true, ↓reduceIte]
    split
    · -- slot for slot
      refine storeF hr' hz ?_
      rw [putO_putO]
      rename_i hx
      simp only [ite_eq_left_iff, reduceCtorEq, imp_false, Bool.and_eq_true, beq_iff_eq, Array.isEmpty_iff, Classical.not_not] at hx
      exact h _ _ _ ⟨G.el, G.mem, G.size, by have := G.fits; exact this, G.few⟩ hx.2 fun q => hx.1.symm.trans (hm.trans (hm7 q))
    · -- laid anew
      obtain ⟨t2, order, h1, h2, h3⟩ := laid_ok (m := t'.mask) (hm ▸ F) (finger := t'.finger) (moves := t'.moves) (led := t'.led && to.led) (plain := t'.plain && to.plain) (hs := es.map (·.1)) (by rw [Array.size_map, G.size, hm]; exact hnm)
      rw [h1]
      have h3' : List.Perm order.toList (List.range es.size) := by simpa using h3
      have hnz := reorder_size h3'
      refine wpAny_bind (wpAny_of_eq (a := (order.filterMap (es[·]?), t2)) (by with_unfolding_all exact if_neg (by rw [hnz]; exact Bool.false_ne_true)) ?_)
      have hsz : (order.filterMap (es[·]?)).size = es.size := by simpa using hnz
      refine storeF hr' (by rw [hsz]; exact hz) ?_
      rw [putO_putO]
      obtain ⟨m1, m2⟩ := laid_mask h1
      exact h _ _ _ (G.perm (reorder_perm h3') (by rw [hsz]; simpa using h2)) m2 fun q => m1.trans (hm.trans (hm7 q))
    · rename_i hx
      split at hx <;> cases hx
end
end Mine
end
noncomputable section
open PySem PySem.W PyProof.Rows PySem.Challenge
namespace Mine
section
variable {w : World} {A : Around} {E : Value → Shared → Prop} {s : Shared}

/-- a set of one str: what it holds -/
theorem Good.one {S : Str → Bool} {es t} (G : Good w S 1 es t) : ∃ k tk, es = #[(hashStr w k, .str k tk)] ∧ ∀ k', S k' = decide (k' = k) := by
  have hs := G.size
  obtain ⟨l⟩ := es
  obtain ⟨e, rfl⟩ := List.length_eq_one_iff.mp (show l.length = 1 from hs)
  · obtain ⟨⟨k, hk, hh⟩, _⟩ := G.el e (by simp)
    obtain ⟨tk, ht⟩ := Value.isStrOf_shape hk
    refine ⟨k, tk, ?_, fun k' => ?_⟩
    · obtain ⟨a, b⟩ := e; simp only at ht hh; subst ht hh; rfl
    · have := G.mem k'
      rw [Bool.eq_iff_iff, this, decide_eq_true_eq]
      constructor
      · rintro ⟨e', he', q⟩
        simp at he'
        subst he'
        exact Value.isStrOf_inj _ _ _ q hk
      · rintro rfl
        exact ⟨e, by simp, hk⟩

theorem walk_one {o : Addr} {e : Int × Value} {ep t} (ho : s.heap.get? o = some (fso #[e] ep t)) (hf : t.fits 1 = true) {others : List Addr} {filled : Option Addr} {Q : Array (Int × Value) → Shared → Prop} (h : Q #[e] s) :
    wpAny (model pw_rt0017_01 w) A (setWalkUnseen o others filled) Q E s := by
  unfold setWalkUnseen
  refine wpAny_bind (wpAny_setState_of ho rfl hf ?_)
  unfold setsByText
  refine wpAny_bind (wpAny_bind (wpAny_askSetting (wpAny_pure ?_)))
  dsimp only
  have h1 : decide ((#[e] : Array (Int × Value)).size ≤ 1) = true := rfl
  rw [h1, Bool.or_true]
  simp only [↓reduceIte]
  unfold setWalk
  refine wpAny_bind (m := setState o) (wpAny_setState_of ho rfl hf ?_)
  unfold setsByText
  refine wpAny_bind (wpAny_bind (wpAny_askSetting (wpAny_pure ?_)))
  split
  · refine wpAny_bind (wpAny_askSetting (wpAny_pure ?_))
    have : pickOrder ((model pw_rt0017_01 w).w.params.setOrder o ep) #[e] = #[e] := by
      unfold pickOrder
      simp [pickOrder.go, Nat.mod_one]
    refine Eq.mpr (congrArg (fun x => Q x s) this) h
  · obtain ⟨m, pl, du, fi, led, mv, pn⟩ := t
    cases led <;> cases pn <;> exact wpAny_bind (wpAny_pure (wpAny_pure h))

theorem relay_any {a : Addr} {ep : Nat} {t : SetTable} {es : Array (Int × Value)} {S : Str → Bool} {n : Nat} {wanted : Nat} (F : Full (SetTable.sizeAbove wanted - 1)) (hn : n ≤ SetTable.sizeAbove wanted - 1) (hl : SetTable.sizeAbove wanted ≤ sizeLine)
    (G : Good w S n es t) (ho : s.heap.get? a = some (fso es ep t)) {Q : Unit → Shared → Prop}
    (h : ∀ es' ep' t', Good w S n es' t' → Q () { s with heap := putO s.heap a (fso es' ep' t') }) : wpAny (model pw_rt0017_01 w) A (setRelay a wanted) Q E s := by
  unfold setRelay
  refine wpAny_bind (wpAny_setState_of ho rfl G.fits ?_)
  dsimp only
  rw [if_neg (Nat.not_lt.mpr hl)]
  unfold SetTable.relaid
  obtain ⟨t2, order, h1, h2, h3⟩ := laid_ok F (finger := t.finger) (moves := t.movedTo (SetTable.sizeAbove wanted - 1)) (led := t.led) (plain := t.plain) (hs := es.map (·.1)) (by rw [Array.size_map, G.size]; exact hn)
  rw [h1]
  have h3' : List.Perm order.toList (List.range es.size) := by simpa using h3
  have hnz := reorder_size h3'
  refine wpAny_bind (wpAny_of_eq (a := (order.filterMap (es[·]?), t2)) (by with_unfolding_all exact if_neg (by rw [hnz]; exact Bool.false_ne_true)) ?_)
  have hsz : (order.filterMap (es[·]?)).size = es.size := by simpa using hnz
  exact storeF ho (by rw [hsz, G.size]; exact fits_of_scanBound G.few) (h _ _ _ (G.perm (reorder_perm h3') (by rw [hsz]; simpa using h2)))

/-- another's one element comes in -/
theorem merge_one {r o : Addr} {ep epo : Nat} {t to : SetTable} {es eo : Array (Int × Value)} {S S2 : Str → Bool} {n : Nat} (hro : r ≠ o) (hn : 0 < n)
    (hr : s.heap.get? r = some (fso es ep t)) (G : Good w S n es t) (ho : s.heap.get? o = some (fso eo epo to)) (G2 : Good w S2 1 eo to) (hnew : ∀ k, S2 k = true → S k = false) (hroom : n + 1 < scanBound)
    (F : Full (SetTable.sizeAbove ((n + 1) * 2) - 1)) (hF : n ≤ SetTable.sizeAbove ((n + 1) * 2) - 1) (hl : SetTable.sizeAbove ((n + 1) * 2) ≤ sizeLine) {each : Sem Unit}
    (heach : ∀ (s' : Shared) (Q' : Unit → Shared → Prop), s'.heap.get? o = some (fso eo epo to) → Q' () s' → wpAny (model pw_rt0017_01 w) A each Q' E s') {Q : Unit → Shared → Prop}
    (h : ∀ es' ep' t', Good w (fun k => S k || S2 k) (n + 1) es' t' → Q () { s with heap := putO s.heap r (fso es' ep' t') }) : wpAny (model pw_rt0017_01 w) A (setMerge r o each) Q E s := by
  obtain ⟨k, tk, rfl, hS2⟩ := G2.one
  unfold setMerge
  rw [if_neg (by simpa using hro)]
  refine wpAny_bind (wpAny_setState_of ho rfl G2.fits ?_)
  dsimp only
  have hne : (#[(hashStr w k, Value.str k tk)] : Array (Int × Value)).isEmpty = false := rfl
  rw [hne]
  simp only [Bool.false_eq_true, ↓reduceIte]
  refine wpAny_bind (wpAny_mono (Q := fun _ s' => ∃ es' ep' t', Good w S n es' t' ∧ s' = { s with heap := putO s.heap r (fso es' ep' t') }) ?_ ?_ fun _ _ e => e)
  · unfold setRoomFor
    refine wpAny_bind (wpAny_setState_of hr rfl G.fits ?_)
    dsimp only
    unfold SetTable.roomFor
    have hp : t.place.size = n := by have := G.fits; simp only [SetTable.fits, Bool.and_eq_true, beq_iff_eq] at this; rw [this.1, G.size]
    split
    · rename_i wanted hw
      split at hw
      · obtain rfl := Option.some.inj hw
        rw [hp]
        exact relay_any F hF hl G hr fun es' ep' t' g => ⟨_, _, _, g, rfl⟩
      · cases hw
    · exact wpAny_pure ⟨es, ep, t, G, by rw [putO_same hr]⟩
  · rintro _ s' ⟨es', ep', t', G', rfl⟩
    have hr' := get_fso hr es' ep' t'
    have ho' : (putO s.heap r (fso es' ep' t')).get? o = some (fso #[(hashStr w k, .str k tk)] epo to) := (Heap.get?_update_other _ _ hro).trans ho
    refine wpAny_bind (wpAny_setState_of hr' rfl G'.fits ?_)
    dsimp only
    have hfill : (t'.fill != 0) = true := by
      have := G'.fits; simp only [SetTable.fits, Bool.and_eq_true, beq_iff_eq] at this
      have h2 := G'.size
      simp only [SetTable.fill, bne_iff_ne, ne_eq]
      lia
    unfold SetTable.road
    rw [hfill]
    simp only [↓reduceIte]
    refine wpAny_bind (walk_one ho' G2.fits ?_)
    simp only [List.forIn_toArray, List.forIn_cons, List.forIn_nil]
    refine wpAny_bind ?_
    refine wpAny_bind ?_
    refine wpAny_bind ?_
    refine wpAny_holding ?_
    refine addHashed hr' G' (hnew k (by rw [hS2]; simp)) hroom fun es2 ep2 t2 g2 => ?_
    dsimp only
    rw [putO_putO]
    have ho2 : (putO s.heap r (fso es2 ep2 t2)).get? o = some (fso #[(hashStr w k, .str k tk)] epo to) := (Heap.get?_update_other _ _ hro).trans ho
    refine wpAny_bind (heach _ _ ho2 ?_)
    refine wpAny_bind (wpAny_setState_of ho2 rfl G2.fits ?_)
    dsimp only
    simp only [bne_self_eq_false, Bool.false_eq_true, ↓reduceIte]
    refine wpAny_pure ?_
    refine wpAny_pure ?_
    have e : (fun k' => S k' || S2 k') = fun k' => S k' || decide (k' = k) := by funext k'; rw [hS2]
    first
      | exact h _ _ _ (e ▸ g2)
      | exact wpAny_pure (h _ _ _ (e ▸ g2))
end
end Mine
end
noncomputable section
open PySem PySem.W PyProof.Rows PySem.Challenge
namespace Mine
theorem sub_fs_set : isSubtype (.type "frozenset") (.type "set") = pure false := by rw [isSubtype_type]; kernel_rfl
theorem sub_fs_fs : isSubtype (.type "frozenset") (.type "frozenset") = pure true := by rw [isSubtype_type]; kernel_rfl
theorem push_put {h : Heap} {o p : Obj} : putO (h.push o) h.objs.size p = h.push p := by
  obtain ⟨objs, l⟩ := h
  simp only [putO, Heap.update, Heap.push]
  congr 1
  apply Array.ext (by simp)
  intro i h1 h2
  simp only [Array.getElem_modify, Array.getElem_push]
  split
  · rename_i hi; subst hi; simp
  · split
    · rfl
    · rename_i h3 h4; simp at h1; lia

section
variable {w : World} {A : Around} {E : Value → Shared → Prop} {s : Shared}

theorem isAnySet_ {a : Addr} {es ep t} {Q : Bool → Shared → Prop} (ho : s.heap.get? a = some (fso es ep t)) (h : Q true s) : wpAny (model pw_rt0017_01 w) A (Builtin.Frozenset.isAnySet (.ref a)) Q E s := by
  unfold Builtin.Frozenset.isAnySet
  show wpAny _ _ (isInstance (.ref a) (.type "set") >>= fun b => _) _ _ _
  refine wpAny_bind (wpAny_isInstance (T := "frozenset") (b := false) ⟨_, ho, rfl⟩ sub_fs_set ?_)
  exact wpAny_isInstance (T := "frozenset") (b := true) ⟨_, ho, rfl⟩ sub_fs_fs h

theorem baseOf_ {a : Addr} {es ep t} {Q : Value → Shared → Prop} (ho : s.heap.get? a = some (fso es ep t)) (h : Q (.type "frozenset") s) : wpAny (model pw_rt0017_01 w) A (Builtin.Frozenset.baseOf a) Q E s := by
  unfold Builtin.Frozenset.baseOf
  exact wpAny_bind (wpAny_isInstance (T := "frozenset") (b := false) ⟨_, ho, rfl⟩ sub_fs_set (wpAny_pure h))

theorem newSet_ {Q : Value → Shared → Prop} (h : ∀ led, Q (.ref s.heap.objs.size) { s with heap := s.heap.push (fso #[] 0 (.fresh 0 0 led)) }) : wpAny (model pw_rt0017_01 w) A (newSet (.type "frozenset")) Q E s := by
  unfold newSet setsByText
  refine wpAny_bind (wpAny_bind (wpAny_askSetting (wpAny_pure ?_)))
  dsimp only
  simp only [newObj]
  exact wpAny_bind (wpAny_alloc (wpAny_pure (h _)))

theorem copyOf_ {o : Addr} {epo : Nat} {to : SetTable} {es : Array (Int × Value)} {S : Str → Bool} {n : Nat} (ho : s.heap.get? o = some (fso es epo to)) (G : Good w S n es to) (hn0 : 0 < n)
    (hn : n * 5 < 21 ∨ (21 ≤ n * 5 ∧ SetTable.sizeAbove (n * 2) = 128 ∧ n ≤ 127)) {Q : Value → Shared → Prop}
    (h : ∀ es' ep' t', Good w S n es' t' → t'.dummies = #[] → (21 ≤ n * 5 → t'.mask = 127) → Q (.ref s.heap.objs.size) { s with heap := s.heap.push (fso es' ep' t') }) :
    wpAny (model pw_rt0017_01 w) A (Builtin.Frozenset.copyOf o) Q E s := by
  unfold Builtin.Frozenset.copyOf
  refine wpAny_bind (baseOf_ ho ?_)
  refine wpAny_bind (newSet_ fun led => ?_)
  refine wpAny_bind (wpAny_pure ?_)
  have hlt := Heap.lt_size ho
  refine wpAny_bind (merge_fresh (Nat.ne_of_gt hlt) (Heap.get?_push_size _ rfl) rfl rfl rfl (Heap.get?_push_of_some _ ho) G hn0 hn fun es' ep' t' g g1 g2 => ?_)
  rw [push_put]
  exact wpAny_pure (h _ _ _ g g1 g2)

theorem merge_ {id : String} {r o : Addr} {ep epo : Nat} {t to : SetTable} {es eo : Array (Int × Value)} {S S2 : Str → Bool} {n : Nat} (hro : r ≠ o) (hn : 0 < n)
    (hr : s.heap.get? r = some (fso es ep t)) (G : Good w S n es t) (ho : s.heap.get? o = some (fso eo epo to)) (G2 : Good w S2 1 eo to) (hnew : ∀ k, S2 k = true → S k = false) (hroom : n + 1 < scanBound)
    (F : Full (SetTable.sizeAbove ((n + 1) * 2) - 1)) (hF : n ≤ SetTable.sizeAbove ((n + 1) * 2) - 1) (hl : SetTable.sizeAbove ((n + 1) * 2) ≤ sizeLine) {Q : Unit → Shared → Prop}
    (h : ∀ es' ep' t', Good w (fun k => S k || S2 k) (n + 1) es' t' → Q () { s with heap := putO s.heap r (fso es' ep' t') }) :
    wpAny (model pw_rt0017_01 w) A (Builtin.Frozenset.merge id r o) Q E s := by
  unfold Builtin.Frozenset.merge
  refine wpAny_bind (wpAny_setEpoch_of ho rfl G2.fits ?_)
  refine merge_one hro hn hr G ho G2 hnew hroom F hF hl (fun s' Q' ho' hq => ?_) h
  unfold Builtin.Frozenset.unchanged
  refine wpAny_bind (wpAny_setEpoch_of ho' rfl G2.fits ?_)
  rw [if_neg (by simp)]
  exact wpAny_pure hq

theorem updateFrom_ {id : String} {r o : Addr} {ep epo : Nat} {t to : SetTable} {es eo : Array (Int × Value)} {S S2 : Str → Bool} {n : Nat} (hro : r ≠ o) (hn : 0 < n)
    (hr : s.heap.get? r = some (fso es ep t)) (G : Good w S n es t) (ho : s.heap.get? o = some (fso eo epo to)) (G2 : Good w S2 1 eo to) (hnew : ∀ k, S2 k = true → S k = false) (hroom : n + 1 < scanBound)
    (F : Full (SetTable.sizeAbove ((n + 1) * 2) - 1)) (hF : n ≤ SetTable.sizeAbove ((n + 1) * 2) - 1) (hl : SetTable.sizeAbove ((n + 1) * 2) ≤ sizeLine) {Q : Unit → Shared → Prop}
    (h : ∀ es' ep' t', Good w (fun k => S k || S2 k) (n + 1) es' t' → Q () { s with heap := putO s.heap r (fso es' ep' t') }) :
    wpAny (model pw_rt0017_01 w) A (Builtin.Frozenset.updateFrom id r (.ref o)) Q E s := by
  unfold Builtin.Frozenset.updateFrom
  refine wpAny_bind (isAnySet_ ho ?_)
  simp only [↓reduceIte]
  refine wpAny_bind (wpAny_pure ?_)
  first
    | exact merge_ hro hn hr G ho G2 hnew hroom F hF hl h
    | exact wpAny_bind (merge_ hro hn hr G ho G2 hnew hroom F hF hl fun es' ep' t' g => wpAny_pure (h es' ep' t' g))

theorem or_ {l r : Addr} {ep epo : Nat} {t to : SetTable} {es eo : Array (Int × Value)} {S S2 : Str → Bool} {n : Nat} (hlr : l ≠ r) (hn : 0 < n)
    (hn2 : n * 5 < 21 ∨ (21 ≤ n * 5 ∧ SetTable.sizeAbove (n * 2) = 128 ∧ n ≤ 127))
    (hl : s.heap.get? l = some (fso es ep t)) (G : Good w S n es t) (ho : s.heap.get? r = some (fso eo epo to)) (G2 : Good w S2 1 eo to) (hnew : ∀ k, S2 k = true → S k = false) (hroom : n + 1 < scanBound)
    (F : Full (SetTable.sizeAbove ((n + 1) * 2) - 1)) (hF : n ≤ SetTable.sizeAbove ((n + 1) * 2) - 1) (hsl : SetTable.sizeAbove ((n + 1) * 2) ≤ sizeLine) {Q : Fin → Shared → Prop}
    (h : ∀ es' ep' t', Good w (fun k => S k || S2 k) (n + 1) es' t' → Q (.done (.ret (.ref s.heap.objs.size))) { s with heap := s.heap.push (fso es' ep' t') }) :
    wpAny (model pw_rt0017_01 w) A (Builtin.«frozenset.__or__» ⟨[.ref l, .ref r], []⟩) Q E s := by
  unfold Builtin.«frozenset.__or__»
  show wpAny _ _ (Builtin.Frozenset.slot1 "__or__" ⟨[.ref l, .ref r], []⟩ >>= _) _ _ _
  refine wpAny_bind (wpAny_of_eq (a := (.ref l, .ref r)) (by with_unfolding_all rfl) ?_)
  dsimp only
  simp only [Bool.false_eq_true, ↓reduceIte]
  refine wpAny_bind (m := Builtin.Frozenset.isAnySet (.ref l) <&&> Builtin.Frozenset.isAnySet (.ref r)) ?_
  show wpAny _ _ (Builtin.Frozenset.isAnySet (.ref l) >>= fun b => _) _ _ _
  refine wpAny_bind (isAnySet_ hl ?_)
  refine isAnySet_ ho ?_
  simp only [Bool.not_true, Bool.false_eq_true, ↓reduceIte]
  refine wpAny_bind (wpAny_pure ?_)
  refine wpAny_bind ?_
  show wpAny _ _ (Builtin.Frozenset.copyOf l >>= _) _ _ _
  refine wpAny_bind (copyOf_ hl G hn hn2 fun es1 ep1 t1 g1 _ _ => ?_)
  have hne : ((Value.ref r != Value.ref l)) = true := by
    rw [bne_iff_ne]; intro e; injection e with e; exact hlr e.symm
  simp only [hne, ↓reduceIte]
  have hlr' := Heap.lt_size ho
  refine wpAny_bind (wpAny_pure ?_)
  refine wpAny_bind (wpAny_holding ?_)
  refine updateFrom_ (Nat.ne_of_gt hlr') hn (Heap.get?_push_size _ rfl) g1 (Heap.get?_push_of_some _ ho) G2 hnew hroom F hF hsl fun es2 ep2 t2 g2 => ?_
  rw [push_put]
  exact wpAny_pure (wpAny_pure (h _ _ _ g2))

theorem find_ {a : Addr} {ep : Nat} {t : SetTable} {es : Array (Int × Value)} {S : Str → Bool} {n : Nat} {k : Str} {tk : Tok} (ho : s.heap.get? a = some (fso es ep t)) (G : Good w S n es t) {Q : Option Nat → Shared → Prop}
    (h : ∀ r : Option Nat, r.isSome = S k → (∀ i, r = some i → i < n) → Q r s) : wpAny (model pw_rt0017_01 w) A (setFind a (.str k tk) (hashStr w k)) Q E s := by
  have hk : (SK w).is k (.str k tk) = true := beq_self_eq_true k
  unfold setFind setFindIn
  refine wpAny_bind (wpAny_setState_of ho rfl G.fits ?_)
  dsimp only
  rw [byScan_of rfl (by rw [G.size]; exact G.few) G.el]
  simp only [↓reduceIte]
  refine wpAny_bind (wpAny_rule ?_)
  refine wpAny_bind (wpAny_setScan_of (knd := SK w) hk ho rfl G.fits G.el ?_)
  have hm := G.mem k
  cases hr : List.findIdx? (fun e => (SK w).is k e.2) es.toList with
  | none =>
    dsimp only
    refine wpAny_pure (h none ?_ (fun _ e => by cases e))
    rw [Option.isSome_none, eq_comm, ← Bool.not_eq_true, hm]
    rintro ⟨e, he, hpe⟩
    have := List.findIdx?_eq_none_iff.mp hr e he
    rw [hpe] at this; exact Bool.noConfusion this
  | some j =>
    dsimp only
    obtain ⟨hj, hpj, _⟩ := List.findIdx?_eq_some_iff_getElem.mp hr
    refine wpAny_pure (h (some (0 + j)) ?_ (fun i e => ?_))
    · rw [Option.isSome_some, eq_comm, hm]
      exact ⟨es.toList[j], List.getElem_mem hj, hpj⟩
    · obtain rfl := Option.some.inj e
      have h2 := G.size
      rw [Array.length_toList] at hj
      lia

/-- at most S -/
noncomputable def Upto (w : World) (S : Str → Bool) (es : Array (Int × Value)) (t : SetTable) : Prop := ∃ S' n, Good w S' n es t ∧ ∀ k, S' k = true → S k = true

theorem drop_fits {t : SetTable} {es : Array (Int × Value)} {i : Nat} (hf : t.fits es.size = true) (hi : i < es.size) : (t.drop i).fits (SetTable.eraseAt es i).size = true ∧ (t.drop i).dummies.size ≤ t.dummies.size + 1 ∧ (t.drop i).mask = t.mask := by
  obtain ⟨h1, h2⟩ := Bool.and_eq_true_iff.mp hf
  have h1 : t.place.size = es.size := beq_iff_eq.mp h1
  have h2 : t.place.size + t.dummies.size ≤ t.mask := of_decide_eq_true h2
  have hp : i < t.place.size := by lia
  unfold SetTable.drop
  rw [Array.getElem?_eq_getElem hp]
  have e1 : (SetTable.eraseAt es i).size = es.size - 1 := by simp [SetTable.eraseAt]; lia
  have e2 : (SetTable.eraseAt t.place i).size = t.place.size - 1 := by simp [SetTable.eraseAt]; lia
  have e3 : ∀ (p x : Nat), (SetTable.insertAt t.dummies p x).size = t.dummies.size + 1 := by
    intro p x
    have := (SetTable.insertAt_perm t.dummies p x).length_eq
    simpa using this
  refine ⟨?_, ?_, rfl⟩
  · have : (SetTable.eraseAt t.place i).size = (SetTable.eraseAt es i).size ∧ (SetTable.eraseAt t.place i).size + (SetTable.insertAt t.dummies (SetTable.below t.dummies t.place[i]) t.place[i]).size ≤ t.mask := ⟨by lia, by rw [e3]; lia⟩
    exact Bool.and_eq_true_iff.mpr ⟨beq_iff_eq.mpr this.1, decide_eq_true this.2⟩
  · show (SetTable.insertAt t.dummies _ _).size ≤ _
    rw [e3]; lia

theorem erase_sub {es : Array (Int × Value)} {i : Nat} : ∀ e ∈ (SetTable.eraseAt es i).toList, e ∈ es.toList := by
  intro e he
  simp only [SetTable.eraseAt, Array.toList_append, Array.toList_extract, List.mem_append] at he
  rcases he with he | he
  · simp only [List.extract_eq_take_drop] at he; exact List.mem_of_mem_drop (List.mem_of_mem_take he)
  · simp only [List.extract_eq_take_drop] at he; exact List.mem_of_mem_drop (List.mem_of_mem_take he)

theorem discard_ {a : Addr} {ep : Nat} {t : SetTable} {es : Array (Int × Value)} {S : Str → Bool} {n : Nat} {k : Str} {tk : Tok} (ho : s.heap.get? a = some (fso es ep t)) (G : Good w S n es t) {Q : Bool → Shared → Prop}
    (h : ∀ b es' ep' t', Upto w S es' t' → t'.mask = t.mask → t'.dummies.size ≤ t.dummies.size + 1 → Q b { s with heap := putO s.heap a (fso es' ep' t') }) : wpAny (model pw_rt0017_01 w) A (setDiscardHashed a (.str k tk) (hashStr w k)) Q E s := by
  unfold setDiscardHashed
  refine wpAny_bind (find_ ho G fun r hr hi => ?_)
  cases r with
  | none => exact wpAny_pure (by have := h false es ep t ⟨S, n, G, fun _ e => e⟩ rfl (Nat.le_succ _); rwa [putO_same ho] at this)
  | some i =>
    dsimp only
    have hlt : i < es.size := by rw [G.size]; exact hi i rfl
    refine wpAny_bind (wpAny_setState_of ho rfl G.fits ?_)
    dsimp only
    obtain ⟨f1, f2, f3⟩ := drop_fits G.fits hlt
    have hsz : (SetTable.eraseAt es i).size ≤ es.size := by simp [SetTable.eraseAt]; lia
    have hfew : (SetTable.eraseAt es i).size < scanBound := Nat.lt_of_le_of_lt hsz (by rw [G.size]; exact G.few)
    refine wpAny_bind (storeF ho (fits_of_scanBound hfew) ?_)
    refine wpAny_bind (wpAny_point ?_)
    refine wpAny_pure (h true _ _ _ ⟨fun k' => (SetTable.eraseAt es i).toList.any fun e => (SK w).is k' e.2, _, ⟨fun e he => G.el e (erase_sub e he), fun k' => by rw [List.any_eq_true], rfl, f1, hfew⟩, fun k' hk' => ?_⟩ f3 f2)
    rw [List.any_eq_true] at hk'
    obtain ⟨e, he, hp⟩ := hk'
    exact (G.mem k').mpr ⟨e, erase_sub e he, hp⟩
end
end Mine
end
noncomputable section
open PySem PySem.W PyProof.Rows PySem.Challenge
namespace Mine
section
variable {w : World} {A : Around} {E : Value → Shared → Prop} {s : Shared}

theorem sizeOf_ {a : Addr} {es ep t} {Q : Nat → Shared → Prop} (ho : s.heap.get? a = some (fso es ep t)) (hf : t.fits es.size = true) (h : Q es.size s) : wpAny (model pw_rt0017_01 w) A (Builtin.Frozenset.sizeOf a) Q E s := by
  unfold Builtin.Frozenset.sizeOf
  exact wpAny_bind (wpAny_setEntries_of ho rfl hf (wpAny_pure h))

theorem tidy_ {a : Addr} {es ep t} {Q : Unit → Shared → Prop} (ho : s.heap.get? a = some (fso es ep t)) (hf : t.fits es.size = true) (hd : ¬ t.dummies.size > t.mask / 4) (h : Q () s) : wpAny (model pw_rt0017_01 w) A (setTidy a) Q E s := by
  unfold setTidy
  refine wpAny_bind (wpAny_setState_of ho rfl hf ?_)
  dsimp only
  unfold SetTable.tooManyDummies
  rw [if_neg (by simpa using hd)]
  exact wpAny_pure h

theorem diffUpdate_ {id : String} {r o : Addr} {ep epo : Nat} {t to : SetTable} {es eo : Array (Int × Value)} {S S2 : Str → Bool} {n : Nat} (hro : r ≠ o)
    (hr : s.heap.get? r = some (fso es ep t)) (G : Good w S n es t) (hm : t.mask = 127) (hd : t.dummies = #[]) (ho : s.heap.get? o = some (fso eo epo to)) (G2 : Good w S2 1 eo to) {Q : Unit → Shared → Prop}
    (h : ∀ es' ep' t', Upto w S es' t' → Q () { s with heap := putO s.heap r (fso es' ep' t') }) :
    wpAny (model pw_rt0017_01 w) A (Builtin.Frozenset.differenceUpdate id r (.ref o)) Q E s := by
  obtain ⟨k, tk, rfl, hS2⟩ := G2.one
  unfold Builtin.Frozenset.differenceUpdate
  have hne : (Value.ref o == Value.ref r) = false := by
    rw [beq_eq_false_iff_ne]; intro e; injection e with e; exact hro e.symm
  simp only [hne, Bool.false_eq_true, ↓reduceIte]
  refine wpAny_bind (isAnySet_ ho ?_)
  simp only [↓reduceIte]
  refine wpAny_bind (wpAny_pure ?_)
  refine wpAny_bind (sizeOf_ ho G2.fits ?_)
  refine wpAny_bind (sizeOf_ hr G.fits ?_)
  rw [if_neg (by simp)]
  refine wpAny_bind (wpAny_setEpoch_of ho rfl G2.fits ?_)
  refine wpAny_bind (wpAny_holding ?_)
  refine wpAny_bind (walk_one ho G2.fits ?_)
  simp only [List.forIn_toArray, List.forIn_cons, List.forIn_nil]
  refine wpAny_bind ?_
  refine wpAny_bind ?_
  refine wpAny_bind ?_
  refine wpAny_holding ?_
  refine discard_ hr G fun b es' ep' t' g e1 e2 => ?_
  have ho' : (putO s.heap r (fso es' ep' t')).get? o = some (fso #[(hashStr w k, .str k tk)] epo to) := (Heap.get?_update_other _ _ hro).trans ho
  refine wpAny_bind ?_
  unfold Builtin.Frozenset.unchanged
  refine wpAny_bind (wpAny_setEpoch_of ho' rfl G2.fits ?_)
  rw [if_neg (by simp)]
  refine wpAny_pure ?_
  refine wpAny_pure ?_
  refine wpAny_pure ?_
  refine wpAny_pure ?_
  obtain ⟨S', n', g', hS'⟩ := g
  refine tidy_ (get_fso hr es' ep' t') g'.fits ?_ (h _ _ _ ⟨S', n', g', hS'⟩)
  rw [e1, hm]
  have : t.dummies.size = 0 := by rw [hd]; rfl
  lia

theorem sub_ {l r : Addr} {ep epo : Nat} {t to : SetTable} {es eo : Array (Int × Value)} {S S2 : Str → Bool} {n : Nat} (hn8 : 8 ≤ n)
    (hn2 : n * 5 < 21 ∨ (21 ≤ n * 5 ∧ SetTable.sizeAbove (n * 2) = 128 ∧ n ≤ 127))
    (hl : s.heap.get? l = some (fso es ep t)) (G : Good w S n es t) (ho : s.heap.get? r = some (fso eo epo to)) (G2 : Good w S2 1 eo to) {Q : Fin → Shared → Prop}
    (h : ∀ es' ep' t', Upto w S es' t' → Q (.done (.ret (.ref s.heap.objs.size))) { s with heap := s.heap.push (fso es' ep' t') }) :
    wpAny (model pw_rt0017_01 w) A (Builtin.«frozenset.__sub__» ⟨[.ref l, .ref r], []⟩) Q E s := by
  unfold Builtin.«frozenset.__sub__»
  show wpAny _ _ (Builtin.Frozenset.slot1 "__sub__" ⟨[.ref l, .ref r], []⟩ >>= _) _ _ _
  refine wpAny_bind (wpAny_of_eq (a := (.ref l, .ref r)) (by with_unfolding_all rfl) ?_)
  dsimp only
  simp only [Bool.false_eq_true, ↓reduceIte]
  refine wpAny_bind (m := Builtin.Frozenset.isAnySet (.ref l) <&&> Builtin.Frozenset.isAnySet (.ref r)) ?_
  show wpAny _ _ (Builtin.Frozenset.isAnySet (.ref l) >>= fun b => _) _ _ _
  refine wpAny_bind (isAnySet_ hl ?_)
  refine isAnySet_ ho ?_
  simp only [Bool.not_true, Bool.false_eq_true, ↓reduceIte]
  refine wpAny_bind (wpAny_pure ?_)
  refine wpAny_bind ?_
  unfold Builtin.Frozenset.difference
  refine wpAny_bind (isAnySet_ ho ?_)
  simp only [Bool.not_true, Bool.false_eq_true, Bool.false_and, ↓reduceIte]
  refine wpAny_bind (wpAny_pure ?_)
  refine wpAny_bind (sizeOf_ ho G2.fits ?_)
  refine wpAny_bind (sizeOf_ hl G.fits ?_)
  rw [if_pos (by rw [G.size, G2.size]; lia)]
  refine wpAny_bind (wpAny_rule ?_)
  refine wpAny_bind (copyOf_ hl G (by lia) hn2 fun es1 ep1 t1 g1 g2 g3 => ?_)
  have hlr' := Heap.lt_size ho
  refine wpAny_bind (wpAny_pure ?_)
  refine wpAny_bind (wpAny_holding ?_)
  refine diffUpdate_ (Nat.ne_of_gt hlr') (Heap.get?_push_size _ rfl) g1 (g3 (by lia)) g2 (Heap.get?_push_of_some _ ho) G2 fun es2 ep2 t2 g => ?_
  rw [push_put]
  refine wpAny_pure ?_
  exact wpAny_pure (h _ _ _ g)
end
end Mine
end
noncomputable section
open PySem PySem.W PyProof.Rows PySem.Challenge
set_option maxRecDepth 1000000
set_option maxHeartbeats 0
noncomputable section
namespace Mine
@[irreducible] noncomputable def S0 (w : World) : Shared := ((Fast.tw10274390034422433532 Fast.tw14364793385576792824 (opening pw_rt0017_01) w 20000 (start (opening pw_rt0017_01)).1 (start (opening pw_rt0017_01)).2).bind (Fast.tw14289696077712309145 pw_rt0017_01)).getD {}
noncomputable def wr (a b : Bool) (w : World) : World := (w.withFollow "comprehension-iter-twice" a).withFollow "special-get-raises" b
@[irreducible] noncomputable def rn (v : World) (n : Nat) (x : Shared × Thread) : Option (Shared × Thread) := Fast.tw15667345088766844465 Fast.tw14364793385576792824 pw_rt0017_01 v 28 none n x.1 x.2
noncomputable def isR : Option (Shared × Thread) → Bool
  | some _ => true
  | none => false
noncomputable def ofR : Option (Shared × Thread) → Shared × Thread
  | some x => x
  | none => ({}, ⟨.pure (.done .next), .builtin "" {}, default, []⟩)
noncomputable def rr (v : World) (n : Nat) (x : Shared × Thread) : Shared × Thread := ofR (rn v n x)
structure Ob where
  e : Array (Int × Value)
  n : Nat
  t : SetTable
  p : Pos
noncomputable def Ob.o (x : Ob) : Obj := fso x.e x.n x.t
noncomputable def chrS (c : Nat) (tk : Tok) : Value := .str (Str.mk #[c]) tk
inductive Ev where
  | add (a it : Addr) (c tk : Nat)
  | or (l r : Addr)
  | sub (l r : Addr)
noncomputable def evTree : Ev → Sem Fin
  | .add a it c tk => do let _ ← holding [chrS c tk] (setAdd a (chrS c tk)); again (.builtin "set.update.loop" ⟨[.ref a, .ref it], []⟩)
  | .or l r => Builtin.«frozenset.__or__» ⟨[.ref l, .ref r], []⟩
  | .sub l r => Builtin.«frozenset.__sub__» ⟨[.ref l, .ref r], []⟩
noncomputable def evT : Ev → Sem Fin
  | .add a it c tk => @Bind.bind Sem (@Monad.toBind Sem Fast.tw12456147031677567982) Bool Fin (@Fast.tw17359229931016689406 Bool [chrS c tk] (Fast.tw5518019106960326183 a (chrS c tk)))
      fun _ => Fast.tw12377390311714414960 (.builtin SL.s10534883147002075979x15 ⟨[.ref a, .ref it], []⟩)
  | .or l r => Fast.tw7457218999300324667 ⟨[.ref l, .ref r], []⟩
  | .sub l r => Fast.tw16947876158284671527 ⟨[.ref l, .ref r], []⟩
theorem evT_eq (e : Ev) : evTree e = evT e := by
  cases e with
  | add a it c tk => unfold evTree evT; rw [← Fast.te17359229931016689406, ← Fast.te5518019106960326183, ← Fast.te12377390311714414960, ← SL.e10534883147002075979x15, ← Fast.te12456147031677567982]
  | or l r => unfold evTree evT; rw [← Fast.te7457218999300324667]
  | sub l r => unfold evTree evT; rw [← Fast.te16947876158284671527]
noncomputable def after (e : Ev) (o : Ob) (x : Shared × Thread) : Shared × Thread :=
  match e with
  | .add a it _ _ => ({ x.1 with heap := putO x.1.heap a o.o, toks := x.1.toks + 1 }, ⟨.pure (.again (.builtin SL.s10534883147002075979x15 ⟨[.ref a, .ref it], []⟩)), x.2.code, o.p, x.2.stack⟩)
  | .or _ _ | .sub _ _ => ({ x.1 with heap := x.1.heap.push o.o }, ⟨.pure (.done (.ret (.ref x.1.heap.objs.size))), x.2.code, o.p, x.2.stack⟩)
noncomputable def looksAt (e : Ev) (h : Heap) : Option Obj × Option Obj :=
  match e with
  | .add a _ _ _ => (h.get? a, none)
  | .or l r | .sub l r => (h.get? l, h.get? r)
noncomputable abbrev Seen := List (Sem Fin × (Option Obj × Option Obj) × Bool)
noncomputable def seenAll (v : World) : List (Ev × Nat) → (Nat → Ob) → Nat → Shared × Thread → Seen
  | [], _, _, _ => []
  | (e, n) :: r, ob, k, x => (x.2.cur, looksAt e x.1.heap, isR (rn v n (after e (ob k) x))) :: seenAll v r ob (k + 1) (rr v n (after e (ob k) x))
noncomputable def endAll (v : World) : List (Ev × Nat) → (Nat → Ob) → Nat → Shared × Thread → Shared × Thread
  | [], _, _, x => x
  | (e, n) :: r, ob, k, x => endAll v r ob (k + 1) (rr v n (after e (ob k) x))
noncomputable def evs (a : Bool) : List (Ev × Nat) := ((List.range 32).map fun i => (Ev.add 39 38 i (297 + 4 * i), if i == 31 then 79 else 46)) ++
  [(.add 44 45 127 425, 34), (.or 39 44, 40), (.add 49 50 9 429, 34), (.sub 48 49, 58), (.add 54 55 32 435, 11), (.add 54 55 9 437, 65), (.add 58 59 10 441, 34), (.or 54 58, if a then 2118 else 2128)]
@[irreducible] noncomputable def X0 (v : World) (n : Nat) : Shared × Thread := rr v n (S0 v, topStub pw_rt0017_01)
noncomputable def led0 (v : World) : Obj := fso #[] 0 (.fresh (finger := 0) (moves := 0) (led := !(v.params.followText "set-order")))
noncomputable def want (v : World) (ob : Nat → Ob) : Seen := ((List.range 32).map fun i => (evT (Ev.add 39 38 i (297 + 4 * i)), (some (if i == 0 then led0 v else (ob (i - 1)).o), none), true)) ++
  [(evT (.add 44 45 127 425), (some (led0 v), none), true),
   (evT (.or 39 44), (some (ob 31).o, some (ob 32).o), true),
   (evT (.add 49 50 9 429), (some (led0 v), none), true),
   (evT (.sub 48 49), (some (ob 33).o, some (ob 34).o), true),
   (evT (.add 54 55 32 435), (some (led0 v), none), true),
   (evT (.add 54 55 9 437), (some (ob 36).o, none), true),
   (evT (.add 58 59 10 441), (some (led0 v), none), true),
   (evT (.or 54 58), (some (ob 37).o, some (ob 38).o), true)]
end Mine
end
end
noncomputable section
open PySem PySem.W PyProof.Rows PySem.Challenge
set_option maxRecDepth 1000000
set_option maxHeartbeats 0
noncomputable section
namespace Mine
noncomputable def keepL : List Nat := [0, 2, 3, 4, 5, 6, 7, 8, 9, 10, 11, 12, 13, 14, 15, 17, 18, 20, 22, 23, 24, 26, 27, 28, 29, 30, 31, 32]
noncomputable def qv : Program := { pw_rt0017_01 with main := { pw_rt0017_01.main with body := keepL.filterMap fun i => pw_rt0017_01.main.body[i]? } }
noncomputable def looseL : List Str := [Str.ofString "ASCII_CTRL", Str.ofString "ILLEGAL_BASIC_STR_CHARS", Str.ofString "ILLEGAL_LITERAL_STR_CHARS", Str.ofString "ILLEGAL_COMMENT_CHARS", Str.ofString "TOML_WS", Str.ofString "TOML_WS_AND_NEWLINE", Str.ofString "_twin_re_1", Str.ofString "_special_chars_map"]
noncomputable def modsL : List Str := importedModules pw_rt0017_01.main.body
@[irreducible] noncomputable def fin (v : World) (a : Bool) (ob : Nat → Ob) : Shared × Thread := endAll v (evs a) ob 0 (X0 v (if a then 153 else 163))
noncomputable def oldL : List Nat := (List.range 28).filter fun b => b != mainNs && b != cStatics
@[irreducible] noncomputable def look1 (v : World) (s : Shared) : Bool := staticsOk modsL (S0 v).heap s.heap && namesBound pw_rt0017_01 s.heap && gensDone s && laidKept (S0 v).heap s.heap
end Mine
end
end
noncomputable section
open PySem PySem.W PyProof.Rows PySem.Challenge
set_option maxRecDepth 1000000
set_option maxHeartbeats 0
noncomputable section
namespace Mine
noncomputable def nA (a : Bool) : Nat := if a then 153 else 163
@[irreducible] noncomputable def isSpecial (o : Option Obj) : Bool := match o with
  | some ⟨c, d, .dict es _, sl⟩ => c == .type "dict" && d.isNone && sl.isEmpty && es.all fun e => match e.key with
    | .int i _ => decide (e.hash = hashInt i) && decide (i ≠ 97) && decide (i ≠ 98)
    | _ => false
  | _ => false
noncomputable def tablesL : List Str := [Str.ofString "ILLEGAL_LITERAL_STR_CHARS", Str.ofString "ILLEGAL_COMMENT_CHARS", Str.ofString "TOML_WS_AND_NEWLINE", Str.ofString "_special_chars_map"]
@[irreducible] noncomputable def topOk (v : World) (a : Bool) : Bool := (S0 v).heap.isNs mainGlobals && (S0 v).gens.size == 0 && Nat.beq (S0 v).heap.objs.size 28 && isR (rn v (nA a) (S0 v, topStub pw_rt0017_01))
noncomputable abbrev All := Seen × Bool × Bool × (Option Obj × Option Obj) × List (Option Obj) × List (Option Value) × Life × OsState
noncomputable def allSeen (v : World) (a : Bool) (ob : Nat → Ob) : All :=
  let x := fin v a ob
  (seenAll v (evs a) ob 0 (X0 v (nA a)), topOk v a, through x.2 && look1 v x.1 && isSpecial (x.1.heap.get? 124) && Nat.blt 0 x.1.toks, (x.1.heap.get? 53, x.1.heap.get? 62), oldL.map x.1.heap.get?, tablesL.map (x.1.heap.nsMap mainGlobals), x.1.heap.life, x.1.os)
noncomputable def allWant (v : World) (ob : Nat → Ob) : All :=
  (want v ob, true, true, (some (ob 35).o, some (ob 39).o), oldL.map (S0 v).heap.get?, [some (.ref 53), some (.ref 53), some (.ref 62), some (.ref 124)], (S0 v).heap.life, (S0 v).os)
end Mine
end
end
noncomputable section
open PySem PySem.W PyProof.Rows PySem.Challenge
noncomputable section
namespace Mine
/-- the real machine goes from any state like x to some state like y (alike: but for what frames note) -/
noncomputable def Alike (s : Shared) (t : Thread) (x : Shared × Thread) : Prop := s.forget = x.1.forget ∧ t.forget = x.2.forget
noncomputable def Goes (v : World) (x y : Shared × Thread) : Prop := ∀ s t, s.asleep → Alike s t x → ∃ n s' t', schedN (denote table) pw_rt0017_01 v n (.single s t) = .running (.single s' t') ∧ s'.heap.life = s.heap.life ∧ Alike s' t' y

theorem Goes.refl (v : World) (x : Shared × Thread) : Goes v x x := fun s t _ h => ⟨0, s, t, rfl, rfl, h⟩
theorem schedN_add {v : World} : ∀ (n m : Nat) (c c' : PySem.Config), schedN (denote table) pw_rt0017_01 v n c = .running c' → schedN (denote table) pw_rt0017_01 v (n + m) c = schedN (denote table) pw_rt0017_01 v m c'
  | 0, m, c, c', h => by
    obtain rfl : c = c' := by simpa [schedN] using h
    rw [Nat.zero_add]
  | n + 1, m, c, c', h => by
    rw [show n + 1 + m = n + m + 1 by lia]
    simp only [schedN] at h ⊢
    cases hs : sstep (denote table) pw_rt0017_01 v c with
    | go c₁ => rw [hs] at h; exact schedN_add n m c₁ c' h
    | halt o s => rw [hs] at h; cases h
theorem Goes.trans {v : World} {x y z : Shared × Thread} (h : Goes v x y) (h' : Goes v y z) : Goes v x z := by
  intro s t ha hl
  obtain ⟨n, s₁, t₁, e₁, l₁, a₁⟩ := h s t ha hl
  obtain ⟨m, s₂, t₂, e₂, l₂, a₂⟩ := h' s₁ t₁ (Shared.asleep_of_life l₁ ha) a₁
  exact ⟨n + m, s₂, t₂, (schedN_add n m _ _ e₁).trans e₂, l₂.trans l₁, a₂⟩

theorem one_step {v : World} {s₁ : Shared} {t₁ : Thread} {x : Shared × Thread} (hc : x.2.calm = true) (h : step (denote table) pw_rt0017_01 v x.1 x.2 = .go s₁ t₁) : Goes v x (s₁, t₁) := by
  intro s t ha hl
  have hcal : t.calm = true := by rw [← Thread.calm_forget, hl.2, Thread.calm_forget]; exact hc
  have hs := step_same (denote table) pw_rt0017_01 v hl.1 hl.2
  rw [h] at hs
  cases hr : step (denote table) pw_rt0017_01 v s t with
  | halt o s' => rw [hr] at hs; cases hs
  | go s' t' =>
    rw [hr] at hs
    simp only [Step.forget, Step.go.injEq] at hs
    have e : sstep (denote table) pw_rt0017_01 v (.single s t) = .go (.single s' t') := by
      rcases sstep_single (denote table) pw_rt0017_01 v s t hcal ha with e | e
      · rw [e, hr]; rfl
      · rw [hr] at e; cases e
    exact ⟨1, s', t', by simp only [schedN, e], step_life _ _ _ _ _ _ _ hr, hs⟩

theorem topGo_goes {v : World} {m₀ : Nat} {ann : Option Value} : ∀ (n : Nat) (s : Shared) (t : Thread) (y : Shared × Thread), topGo table pw_rt0017_01 v m₀ ann n s t = some y → Goes v (s, t) y
  | 0, s, t, y, h => by
    obtain rfl : (s, t) = y := by simpa [topGo] using h
    exact .refl _ _
  | n + 1, s, t, y, h => by
    unfold topGo at h
    cases ht : through t with
    | true => rw [ht] at h; cases h
    | false =>
      rw [ht] at h
      cases hk : stepOk m₀ ann t with
      | false => rw [hk] at h; cases h
      | true =>
        rw [hk] at h
        cases hs : step (denote table) pw_rt0017_01 v s t with
        | halt o s' => rw [hs] at h; cases h
        | go s' t' =>
          rw [hs] at h
          exact (one_step (x := (s, t)) (Bool.and_eq_true_iff.mp hk).1 hs).trans (topGo_goes n s' t' y h)

theorem stepI_goes {v : World} {s s' : Shared} {t t' : Thread} (h : stepI (denote table) pw_rt0017_01 v s t = .go s' t') : Goes v (s, t) (s', t') := by
  cases hl : t.loud with
  | true => rw [stepI_loud _ _ _ hl] at h; cases h
  | false =>
    rw [stepI_quiet _ _ _ hl] at h
    have hc : t.calm = true := by
      rw [Thread.calm_eq, hl]
      cases hr : t.refused with
      | false => rfl
      | true => obtain ⟨what, e⟩ := stepK_refused (denote table) pw_rt0017_01 v (s := s) hr; rw [e] at h; cases h
    have hf := stepK_forget (denote table) pw_rt0017_01 v s t
    rw [h] at hf
    cases hr : step (denote table) pw_rt0017_01 v s t with
    | halt o s₁ => rw [hr] at hf; cases hf
    | go s₁ t₁ =>
      rw [hr] at hf
      simp only [Step.forget, Step.go.injEq] at hf
      intro s₂ t₂ ha hal
      obtain ⟨n, s₃, t₃, e, l, a⟩ := one_step (x := (s, t)) hc hr s₂ t₂ ha hal
      exact ⟨n, s₃, t₃, e, l, a.1.trans hf.1.symm, a.2.trans hf.2.symm⟩

theorem comes_goes {v : World} {s s' : Shared} {t t' : Thread} (h : Comes (model pw_rt0017_01 v) s t s' t') : Goes v (s, t) (s', t') := by
  obtain ⟨n, hn⟩ := h
  induction n generalizing s t with
  | zero =>
    have e : Run.running s t = .running s' t' := hn
    injection e with e1 e2
    subst e1 e2
    exact .refl _ _
  | succ n ih =>
    rw [runN_succ] at hn
    cases hs : (model pw_rt0017_01 v).step s t with
    | halt o s₁ => simp only [hs] at hn; cases hn
    | go s₁ t₁ =>
      simp only [hs] at hn
      exact (stepI_goes hs).trans (ih hn)

theorem rn_eq (v : World) (n : Nat) (x : Shared × Thread) : rn v n x = topGo table pw_rt0017_01 v 28 none n x.1 x.2 := by
  unfold rn
  rw [← Fast.te15667345088766844465, ← Fast.te14364793385576792824, table_eq_tree]
theorem rr_goes {v : World} {n : Nat} {x : Shared × Thread} (h : isR (rn v n x) = true) : Goes v x (rr v n x) := by
  unfold rr
  cases hr : rn v n x with
  | none => rw [hr] at h; cases h
  | some y =>
    rw [rn_eq] at hr
    exact topGo_goes n x.1 x.2 y hr

theorem S0_eq (v : World) : S0 v = (fencedOpening treeTable pw_rt0017_01 v 20000).getD {} := by
  unfold S0 fencedOpening
  rw [← Fast.te10274390034422433532, ← Fast.te14364793385576792824, ← Fast.te14289696077712309145]

/-- a wp of a tree at a place of the machine -/
theorem wp_goes {v : World} {x : Shared × Thread} {t : Sem Fin} {Q : Fin → Shared → Prop} (hx : x.2.cur = t) (h : ∀ A, wpAny (model pw_rt0017_01 v) A t Q (fun _ _ => False) x.1) :
    ∃ fin s' p', Goes v x (s', ⟨.pure fin, x.2.code, p', x.2.stack⟩) ∧ Q fin s' := by
  obtain ⟨s, ⟨cur, code, pos, stack⟩⟩ := x
  dsimp only at hx h ⊢
  subst hx
  let Γ := Ctx.of code stack
  let A : Around := ⟨Γ.handled, frameCount Γ.below + Γ.code.weight, none, none, Γ.units⟩
  have hΓ : Γ.In A := ⟨rfl, Nat.le_refl _, (fun _ e => (by cases e)), (fun _ e => (by cases e)), Nat.le_refl _⟩
  obtain ⟨s', p', leaf, hc, hl⟩ := wp_comes (Ctx.fits_of code stack) cur _ _ pos s (h A Γ pos hΓ)
  rcases hl with ⟨fin, rfl, hq⟩ | ⟨e, _, hq⟩
  · exact ⟨fin, s', p', comes_goes hc, hq⟩
  · exact hq.elim
end Mine
end
end
noncomputable section
open PySem PySem.W PyProof.Rows PySem.Challenge
noncomputable section
namespace Mine
variable {v : World} {x : Shared × Thread}

theorem ev_add {a it : Addr} {c tk : Nat} (hx : x.2.cur = evT (.add a it c tk)) {es ep t} (ho : x.1.heap.get? a = some (fso es ep t)) {S : Str → Bool} {n : Nat} (G : Good v S n es t) (hn : S (Str.mk #[c]) = false) (hr : n + 1 < scanBound) :
    ∃ o : Ob, Goes v x (after (.add a it c tk) o x) ∧ Good v (fun k => S k || decide (k = Str.mk #[c])) (n + 1) o.e o.t := by
  rw [← evT_eq] at hx
  obtain ⟨fin, s', p', hg, hq⟩ := wp_goes (v := v) (x := x) hx (Q := fun fin s' => fin = .again (.builtin "set.update.loop" ⟨[.ref a, .ref it], []⟩) ∧ ∃ es' ep' t', Good v (fun k => S k || decide (k = Str.mk #[c])) (n + 1) es' t' ∧
      s' = { x.1 with heap := putO x.1.heap a (fso es' ep' t'), toks := x.1.toks + 1 }) (fun A => by
    unfold evTree
    refine wpAny_bind (wpAny_holding (add_ ho G hn hr fun es' ep' t' g => ?_))
    exact wpAny_pure ⟨rfl, es', ep', t', g, rfl⟩)
  obtain ⟨rfl, es', ep', t', g, rfl⟩ := hq
  refine ⟨⟨es', ep', t', p'⟩, ?_, g⟩
  unfold after
  rw [← SL.e10534883147002075979x15]
  exact hg

theorem ev_or {l r : Addr} (hx : x.2.cur = evT (.or l r)) {ep epo : Nat} {t to : SetTable} {es eo : Array (Int × Value)} {S S2 : Str → Bool} {n : Nat} (hlr : l ≠ r) (hn : 0 < n)
    (hn2 : n * 5 < 21 ∨ (21 ≤ n * 5 ∧ SetTable.sizeAbove (n * 2) = 128 ∧ n ≤ 127))
    (hl : x.1.heap.get? l = some (fso es ep t)) (G : Good v S n es t) (ho : x.1.heap.get? r = some (fso eo epo to)) (G2 : Good v S2 1 eo to) (hnew : ∀ k, S2 k = true → S k = false) (hroom : n + 1 < scanBound)
    (F : Full (SetTable.sizeAbove ((n + 1) * 2) - 1)) (hF : n ≤ SetTable.sizeAbove ((n + 1) * 2) - 1) (hsl : SetTable.sizeAbove ((n + 1) * 2) ≤ sizeLine) :
    ∃ o : Ob, Goes v x (after (.or l r) o x) ∧ Good v (fun k => S k || S2 k) (n + 1) o.e o.t := by
  rw [← evT_eq] at hx
  obtain ⟨fin, s', p', hg, hq⟩ := wp_goes (v := v) (x := x) hx (Q := fun fin s' => fin = .done (.ret (.ref x.1.heap.objs.size)) ∧ ∃ es' ep' t', Good v (fun k => S k || S2 k) (n + 1) es' t' ∧
      s' = { x.1 with heap := x.1.heap.push (fso es' ep' t') }) (fun A => or_ hlr hn hn2 hl G ho G2 hnew hroom F hF hsl fun es' ep' t' g => ⟨rfl, es', ep', t', g, rfl⟩)
  obtain ⟨rfl, es', ep', t', g, rfl⟩ := hq
  exact ⟨⟨es', ep', t', p'⟩, hg, g⟩

theorem ev_sub {l r : Addr} (hx : x.2.cur = evT (.sub l r)) {ep epo : Nat} {t to : SetTable} {es eo : Array (Int × Value)} {S S2 : Str → Bool} {n : Nat} (hn8 : 8 ≤ n)
    (hn2 : n * 5 < 21 ∨ (21 ≤ n * 5 ∧ SetTable.sizeAbove (n * 2) = 128 ∧ n ≤ 127))
    (hl : x.1.heap.get? l = some (fso es ep t)) (G : Good v S n es t) (ho : x.1.heap.get? r = some (fso eo epo to)) (G2 : Good v S2 1 eo to) :
    ∃ o : Ob, Goes v x (after (.sub l r) o x) ∧ Upto v S o.e o.t := by
  rw [← evT_eq] at hx
  obtain ⟨fin, s', p', hg, hq⟩ := wp_goes (v := v) (x := x) hx (Q := fun fin s' => fin = .done (.ret (.ref x.1.heap.objs.size)) ∧ ∃ es' ep' t', Upto v S es' t' ∧
      s' = { x.1 with heap := x.1.heap.push (fso es' ep' t') }) (fun A => sub_ hn8 hn2 hl G ho G2 fun es' ep' t' g => ⟨rfl, es', ep', t', g, rfl⟩)
  obtain ⟨rfl, es', ep', t', g, rfl⟩ := hq
  exact ⟨⟨es', ep', t', p'⟩, hg, g⟩

/-- the chain's place before its event i -/
noncomputable def at_ (v : World) (L : List (Ev × Nat)) (ob : Nat → Ob) (x : Shared × Thread) (i : Nat) : Shared × Thread := endAll v (L.take i) ob 0 x

theorem endAll_app {v : World} : ∀ (l r : List (Ev × Nat)) (ob : Nat → Ob) (k : Nat) (x : Shared × Thread), endAll v (l ++ r) ob k x = endAll v r ob (k + l.length) (endAll v l ob k x)
  | [], r, ob, k, x => rfl
  | (e, n) :: l, r, ob, k, x => by
    rw [List.cons_append, endAll, endAll, endAll_app l r, List.length_cons]
    congr 1
    lia
theorem at_succ {L : List (Ev × Nat)} {ob : Nat → Ob} {i : Nat} {e : Ev} {n : Nat} (h : L[i]? = some (e, n)) : at_ v L ob x (i + 1) = rr v n (after e (ob i) (at_ v L ob x i)) := by
  have hi : i < L.length := by
    rcases Nat.lt_or_ge i L.length with h' | h'
    · exact h'
    · rw [List.getElem?_eq_none h'] at h; cases h
  unfold at_
  rw [List.take_add_one, h, endAll_app]
  show endAll v [(e, n)] ob (0 + (L.take i).length) _ = _
  rw [List.length_take, Nat.min_eq_left (Nat.le_of_lt hi), Nat.zero_add]
  rfl
theorem seen_at {v : World} {ob : Nat → Ob} {e : Ev} {n : Nat} : ∀ (L : List (Ev × Nat)) (k i : Nat) (x : Shared × Thread), L[i]? = some (e, n) →
    (seenAll v L ob k x)[i]? = some ((endAll v (L.take i) ob k x).2.cur, looksAt e (endAll v (L.take i) ob k x).1.heap, isR (rn v n (after e (ob (k + i)) (endAll v (L.take i) ob k x))))
  | [], _, _, _, h => by simp at h
  | (e', n') :: L, k, 0, x, h => by
    simp only [List.getElem?_cons_zero, Option.some.injEq, Prod.mk.injEq] at h
    obtain ⟨rfl, rfl⟩ := h
    rfl
  | (e', n') :: L, k, i + 1, x, h => by
    simp only [List.getElem?_cons_succ] at h
    have := seen_at (v := v) (ob := ob) L (k + 1) i (rr v n' (after e' (ob k) x)) h
    rw [show k + 1 + i = k + (i + 1) by lia] at this
    exact this
theorem endAll_congr {v : World} {ob ob' : Nat → Ob} : ∀ (L : List (Ev × Nat)) (k : Nat) (x : Shared × Thread), (∀ j, k ≤ j → j < k + L.length → ob j = ob' j) → endAll v L ob k x = endAll v L ob' k x
  | [], _, _, _ => rfl
  | (e, n) :: L, k, x, h => by
    rw [endAll, endAll, h k (Nat.le_refl _) (by simp)]
    exact endAll_congr L (k + 1) _ fun j h1 h2 => h j (by lia) (by simp only [List.length_cons]; lia)
theorem at_congr {L : List (Ev × Nat)} {ob ob' : Nat → Ob} {i : Nat} (h : ∀ j, j < i → ob j = ob' j) : at_ v L ob x i = at_ v L ob' x i := by
  unfold at_
  refine endAll_congr _ 0 x fun j _ h2 => h j ?_
  rw [List.length_take, Nat.zero_add] at h2
  lia
noncomputable def upd (ob : Nat → Ob) (i : Nat) (o : Ob) : Nat → Ob := fun j => if j = i then o else ob j
theorem upd_self {ob : Nat → Ob} {i : Nat} {o : Ob} : upd ob i o i = o := if_pos rfl
theorem upd_ne {ob : Nat → Ob} {i j : Nat} {o : Ob} (h : j ≠ i) : upd ob i o j = ob j := if_neg h
theorem at_upd {L : List (Ev × Nat)} {ob : Nat → Ob} {i : Nat} {o : Ob} : at_ v L (upd ob i o) x i = at_ v L ob x i := at_congr fun _ h => upd_ne (Nat.ne_of_lt h)
end Mine
end
end
noncomputable section
open PySem PySem.W PyProof.Rows PySem.Challenge
noncomputable section
namespace Mine
section
variable {v : World} {a : Bool} {X : Shared × Thread}

theorem want_true (v : World) (ob : Nat → Ob) : ∀ y ∈ want v ob, y.2.2 = true := by
  intro y hy
  unfold want at hy
  rcases List.mem_append.mp hy with hy | hy
  · obtain ⟨i, _, rfl⟩ := List.mem_map.mp hy
    rfl
  · simp only [List.mem_cons, List.not_mem_nil, or_false] at hy
    rcases hy with rfl | rfl | rfl | rfl | rfl | rfl | rfl | rfl <;> rfl

theorem fact_at (hS : ∀ ob, seenAll v (evs a) ob 0 X = want v ob) (ob : Nat → Ob) {i : Nat} {e : Ev} {n : Nat} (hL : (evs a)[i]? = some (e, n)) {c : Sem Fin} {l : Option Obj × Option Obj} {b : Bool}
    (hw : (want v ob)[i]? = some (c, l, b)) : (at_ v (evs a) ob X i).2.cur = c ∧ looksAt e (at_ v (evs a) ob X i).1.heap = l := by
  have h := seen_at (v := v) (ob := ob) (evs a) 0 i X hL
  rw [hS, hw] at h
  simp only [Option.some.injEq, Prod.mk.injEq] at h
  exact ⟨h.1.symm, h.2.1.symm⟩
theorem step_at (hS : ∀ ob, seenAll v (evs a) ob 0 X = want v ob) {ob : Nat → Ob} {i : Nat} {e : Ev} {n : Nat} (hL : (evs a)[i]? = some (e, n)) (hg : Goes v X (at_ v (evs a) ob X i)) {o : Ob}
    (he : Goes v (at_ v (evs a) ob X i) (after e o (at_ v (evs a) ob X i))) : Goes v X (at_ v (evs a) (upd ob i o) X (i + 1)) := by
  have h := seen_at (v := v) (ob := upd ob i o) (evs a) 0 i X hL
  rw [hS] at h
  have ht := want_true v (upd ob i o) _ (List.mem_of_getElem? h)
  dsimp only at ht
  rw [Nat.zero_add, upd_self] at ht
  have e1 : endAll v ((evs a).take i) (upd ob i o) 0 X = at_ v (evs a) ob X i := at_upd
  rw [e1] at ht
  rw [at_succ hL, upd_self, at_upd]
  exact (hg.trans he).trans (rr_goes ht)

noncomputable def Sk (k : Nat) : Str → Bool := fun s => (List.range k).any fun i => decide (s = Str.mk #[i])
theorem Sk_succ (k : Nat) : (fun s => Sk k s || decide (s = Str.mk #[k])) = Sk (k + 1) := by
  funext s
  unfold Sk
  rw [List.range_succ, List.any_append]
  simp
theorem Sk_no {k c : Nat} (h : k ≤ c) : Sk k (Str.mk #[c]) = false := by
  unfold Sk
  rw [List.any_eq_false]
  intro i hi
  have := List.mem_range.mp hi
  simp only [decide_eq_true_eq, Str.mk.injEq]
  intro e
  have : c = i := by simpa using e
  lia
noncomputable def Is1 (c : Nat) : Str → Bool := fun s => decide (s = Str.mk #[c])

theorem evs_lt {k : Nat} (hk : k < 32) : (evs a)[k]? = some (Ev.add 39 38 k (297 + 4 * k), if k == 31 then 79 else 46) := by
  unfold evs
  rw [List.getElem?_append_left (by simp; exact hk), List.getElem?_map, List.getElem?_range hk]
  rfl
theorem want_lt {ob : Nat → Ob} {k : Nat} (hk : k < 32) : (want v ob)[k]? = some (evT (Ev.add 39 38 k (297 + 4 * k)), (some (if k == 0 then led0 v else (ob (k - 1)).o), none), true) := by
  unfold want
  rw [List.getElem?_append_left (by simp; exact hk), List.getElem?_map, List.getElem?_range hk]
  rfl

theorem good_led (v : World) : Good v (fun _ => false) 0 #[] (.fresh (finger := 0) (moves := 0) (led := !(v.params.followText "set-order"))) := good_nil rfl
theorem few {n : Nat} (h : n < 100) : n + 1 < scanBound := Nat.lt_trans (Nat.add_lt_add_right h 1) (by decide)

theorem first32 (hS : ∀ ob, seenAll v (evs a) ob 0 X = want v ob) : ∀ k, k ≤ 32 → ∃ ob, Goes v X (at_ v (evs a) ob X k) ∧ (0 < k → Good v (Sk k) k (ob (k - 1)).e (ob (k - 1)).t)
  | 0, _ => ⟨fun _ => ⟨#[], 0, .fresh 0 0 false, default⟩, .refl _ _, fun h => absurd h (Nat.lt_irrefl _)⟩
  | k + 1, hk => by
    obtain ⟨ob, hg, hG⟩ := first32 hS k (Nat.le_of_succ_le hk)
    have hk' : k < 32 := hk
    obtain ⟨h1, h2⟩ := fact_at hS ob (evs_lt hk') (want_lt hk')
    have h2 := congrArg Prod.fst h2
    dsimp only [looksAt] at h2
    have key : ∃ o : Ob, Goes v (at_ v (evs a) ob X k) (after (Ev.add 39 38 k (297 + 4 * k)) o (at_ v (evs a) ob X k)) ∧ Good v (fun s => Sk k s || decide (s = Str.mk #[k])) (k + 1) o.e o.t := by
      cases k with
      | zero => exact ev_add h1 h2 (S := Sk 0) (n := 0) (good_led v) rfl (few (by decide))
      | succ j => exact ev_add h1 h2 (hG (Nat.succ_pos j)) (Sk_no (Nat.le_refl _)) (few (by lia))
    obtain ⟨o, ho, hG'⟩ := key
    refine ⟨upd ob k o, step_at hS (evs_lt hk') hg ho, fun _ => ?_⟩
    rw [Nat.add_sub_cancel, upd_self, ← Sk_succ]
    exact hG'
end
end Mine
end
end
noncomputable section
open PySem PySem.W PyProof.Rows PySem.Challenge
set_option maxRecDepth 100000
noncomputable section
namespace Mine
section
variable {v : World} {a : Bool} {X : Shared × Thread}

noncomputable def One (c : Nat) : Str → Bool := fun s => (fun _ => false) s || decide (s = Str.mk #[c])
theorem One_iff {c : Nat} {s : Str} : One c s = true ↔ s = Str.mk #[c] := by unfold One; simp
noncomputable def SCtl : Str → Bool := fun s => Sk 32 s || One 127 s
noncomputable def SWs2 : Str → Bool := fun s => One 32 s || decide (s = Str.mk #[9])
noncomputable def SWs : Str → Bool := fun s => SWs2 s || One 10 s

theorem evs_ge (a : Bool) : (evs a)[32]? = some (.add 44 45 127 425, 34) ∧ (evs a)[33]? = some (.or 39 44, 40) ∧ (evs a)[34]? = some (.add 49 50 9 429, 34) ∧ (evs a)[35]? = some (.sub 48 49, 58) ∧
    (evs a)[36]? = some (.add 54 55 32 435, 11) ∧ (evs a)[37]? = some (.add 54 55 9 437, 65) ∧ (evs a)[38]? = some (.add 58 59 10 441, 34) ∧ (evs a)[39]? = some (.or 54 58, if a then 2118 else 2128) :=
  ⟨rfl, rfl, rfl, rfl, rfl, rfl, rfl, rfl⟩
theorem want_ge (ob : Nat → Ob) : (want v ob)[32]? = some (evT (.add 44 45 127 425), (some (led0 v), none), true) ∧ (want v ob)[33]? = some (evT (.or 39 44), (some (ob 31).o, some (ob 32).o), true) ∧
    (want v ob)[34]? = some (evT (.add 49 50 9 429), (some (led0 v), none), true) ∧ (want v ob)[35]? = some (evT (.sub 48 49), (some (ob 33).o, some (ob 34).o), true) ∧
    (want v ob)[36]? = some (evT (.add 54 55 32 435), (some (led0 v), none), true) ∧ (want v ob)[37]? = some (evT (.add 54 55 9 437), (some (ob 36).o, none), true) ∧
    (want v ob)[38]? = some (evT (.add 58 59 10 441), (some (led0 v), none), true) ∧ (want v ob)[39]? = some (evT (.or 54 58), (some (ob 37).o, some (ob 38).o), true) :=
  ⟨rfl, rfl, rfl, rfl, rfl, rfl, rfl, rfl⟩

theorem one_new {S : Str → Bool} {c : Nat} (h : S (Str.mk #[c]) = false) : ∀ k, One c k = true → S k = false := fun k hk => by rw [One_iff.mp hk]; exact h

theorem all40 (hS : ∀ ob, seenAll v (evs a) ob 0 X = want v ob) : ∃ ob, Goes v X (endAll v (evs a) ob 0 X) ∧ Upto v SCtl (ob 35).e (ob 35).t ∧ Good v SWs 3 (ob 39).e (ob 39).t := by
  obtain ⟨e32, e33, e34, e35, e36, e37, e38, e39⟩ := evs_ge a
  obtain ⟨ob, g, h31⟩ := first32 hS 32 (Nat.le_refl _)
  have h31 : Good v (Sk 32) 32 (ob 31).e (ob 31).t := h31 (by decide)
  -- the one of chr(127)
  obtain ⟨c, l⟩ := fact_at hS ob e32 (want_ge ob).1
  obtain ⟨o, ho, q⟩ := ev_add c (congrArg Prod.fst l) (good_led v) rfl (few (by decide))
  have g := step_at hS e32 g ho
  have h31 : Good v (Sk 32) 32 (upd ob 32 o 31).e (upd ob 32 o 31).t := h31
  have h32 : Good v (One 127) 1 (upd ob 32 o 32).e (upd ob 32 o 32).t := q
  generalize upd ob 32 o = ob at g h31 h32
  clear ho q c l o
  -- ASCII_CTRL
  obtain ⟨c, l⟩ := fact_at hS ob e33 (want_ge ob).2.1
  obtain ⟨o, ho, q⟩ := ev_or c (by decide) (by decide) (.inr ⟨by decide, by decide, by decide⟩) (congrArg Prod.fst l) h31 (congrArg Prod.snd l) h32 (one_new (Sk_no (by decide))) (few (by decide)) full127 (by decide) (by rw [sizeLine_eq]; decide)
  have g := step_at hS e33 g ho
  have h33 : Good v SCtl 33 (upd ob 33 o 33).e (upd ob 33 o 33).t := q
  generalize upd ob 33 o = ob at g h33
  clear ho q c l o
  -- the one of tab
  obtain ⟨c, l⟩ := fact_at hS ob e34 (want_ge ob).2.2.1
  obtain ⟨o, ho, q⟩ := ev_add c (congrArg Prod.fst l) (good_led v) rfl (few (by decide))
  have g := step_at hS e34 g ho
  have h33 : Good v SCtl 33 (upd ob 34 o 33).e (upd ob 34 o 33).t := h33
  have h34 : Good v (One 9) 1 (upd ob 34 o 34).e (upd ob 34 o 34).t := q
  generalize upd ob 34 o = ob at g h33 h34
  clear ho q c l o
  -- the illegal ones
  obtain ⟨c, l⟩ := fact_at hS ob e35 (want_ge ob).2.2.2.1
  obtain ⟨o, ho, q⟩ := ev_sub c (by decide) (.inr ⟨by decide, by decide, by decide⟩) (congrArg Prod.fst l) h33 (congrArg Prod.snd l) h34
  have g := step_at hS e35 g ho
  have h35 : Upto v SCtl (upd ob 35 o 35).e (upd ob 35 o 35).t := q
  generalize upd ob 35 o = ob at g h35
  clear ho q c l o
  -- white
  obtain ⟨c, l⟩ := fact_at hS ob e36 (want_ge ob).2.2.2.2.1
  obtain ⟨o, ho, q⟩ := ev_add c (congrArg Prod.fst l) (good_led v) rfl (few (by decide))
  have g := step_at hS e36 g ho
  have h35 : Upto v SCtl (upd ob 36 o 35).e (upd ob 36 o 35).t := h35
  have h36 : Good v (One 32) 1 (upd ob 36 o 36).e (upd ob 36 o 36).t := q
  generalize upd ob 36 o = ob at g h35 h36
  clear ho q c l o
  obtain ⟨c, l⟩ := fact_at hS ob e37 (want_ge ob).2.2.2.2.2.1
  obtain ⟨o, ho, q⟩ := ev_add c (congrArg Prod.fst l) h36 (by decide) (few (by decide))
  have g := step_at hS e37 g ho
  have h35 : Upto v SCtl (upd ob 37 o 35).e (upd ob 37 o 35).t := h35
  have h37 : Good v SWs2 2 (upd ob 37 o 37).e (upd ob 37 o 37).t := q
  generalize upd ob 37 o = ob at g h35 h37
  clear ho q c l o
  obtain ⟨c, l⟩ := fact_at hS ob e38 (want_ge ob).2.2.2.2.2.2.1
  obtain ⟨o, ho, q⟩ := ev_add c (congrArg Prod.fst l) (good_led v) rfl (few (by decide))
  have g := step_at hS e38 g ho
  have h35 : Upto v SCtl (upd ob 38 o 35).e (upd ob 38 o 35).t := h35
  have h37 : Good v SWs2 2 (upd ob 38 o 37).e (upd ob 38 o 37).t := h37
  have h38 : Good v (One 10) 1 (upd ob 38 o 38).e (upd ob 38 o 38).t := q
  generalize upd ob 38 o = ob at g h35 h37 h38
  clear ho q c l o
  obtain ⟨c, l⟩ := fact_at hS ob e39 (want_ge ob).2.2.2.2.2.2.2
  obtain ⟨o, ho, q⟩ := ev_or c (by decide) (by decide) (.inl (by decide)) (congrArg Prod.fst l) h37 (congrArg Prod.snd l) h38 (one_new (by decide)) (few (by decide)) full7 (by decide) (by rw [sizeLine_eq]; decide)
  have g := step_at hS e39 g ho
  refine ⟨upd ob 39 o, ?_, h35, q⟩
  have e : (evs a).take 40 = evs a := List.take_of_length_le (by cases a <;> decide)
  unfold at_ at g
  rw [e] at g
  exact g
end
end Mine
end
end
noncomputable section
open PySem PySem.W PyProof.Rows PySem.Challenge
set_option maxRecDepth 100000
noncomputable section
namespace Mine

structure XPm (v : World) (mg : Str → Option Value) (h : Heap) : Prop where
  lit : mg (Str.ofString "ILLEGAL_LITERAL_STR_CHARS") = some (.ref 53)
  com : mg (Str.ofString "ILLEGAL_COMMENT_CHARS") = some (.ref 53)
  ws : mg (Str.ofString "TOML_WS_AND_NEWLINE") = some (.ref 62)
  sp : mg (Str.ofString "_special_chars_map") = some (.ref 124)
  ill : ∃ es n t, h.get? 53 = some (fso es n t) ∧ Upto v SCtl es t
  white : ∃ es n t, h.get? 62 = some (fso es n t) ∧ Good v SWs 3 es t
  special : isSpecial (h.get? 124) = true

noncomputable def HeadOK (v : World) : Prop :=
  (∃ s, AfterRun (opening pw_rt0017_01) v s) ∧ ∀ s, AfterRun (opening pw_rt0017_01) v s → ∃ s₀, fenceModules? pw_rt0017_01 s = some s₀ ∧ s₀.gens = #[] ∧ ∃ s₁, TopRan pw_rt0017_01 v s₀ s₁ ∧ s₁.asleep ∧
    leftWithCleanup s₁.gens = false ∧ s₁.heap.isNs mainGlobals = true ∧ 0 < s₁.toks ∧ Ground qv looseL [] (XPm v) v s₁ (s₁.heap.nsMap mainGlobals) (s₁.heap.nsMap builtinsNs) s₁.heap

theorem forget_finished {g : GenState} (h : g.forget = .finished) : g = .finished := by
  cases g <;> first | rfl | (simp [GenState.forget] at h)

theorem same_of_forget {s s' : Shared} (h : s'.forget = s.forget) (hg : ∀ g ∈ s.gens, match g with | .finished => True | _ => False) : s' = s := by
  obtain ⟨e1, e2, e3, e4, e5⟩ := Shared.forget_eq h
  have fin : ∀ g ∈ s.gens, g = .finished := fun g hm => by have := hg g hm; cases g <;> first | rfl | exact this.elim
  have hs : s.gens.map GenState.forget = s.gens := by
    apply Array.ext (by simp)
    intro i h1 h2
    rw [Array.getElem_map, fin _ (Array.getElem_mem h2)]; rfl
  rw [hs] at e5
  have hg' : s'.gens = s.gens := by
    have hsz : s'.gens.size = s.gens.size := by rw [← e5, Array.size_map]
    apply Array.ext hsz
    intro i h1 h2
    have : (s'.gens.map GenState.forget)[i]'(by simpa using h1) = s.gens[i] := by simp only [e5]
    rw [Array.getElem_map, fin _ (Array.getElem_mem h2)] at this
    rw [forget_finished this, fin _ (Array.getElem_mem h2)]
  cases s; cases s'; simp_all

theorem through_alike {t t' : Thread} (h : t'.forget = t.forget) (ht : through t = true) : through t' = true := by
  obtain ⟨c, d, p, st⟩ := t
  obtain ⟨c', d', p', st'⟩ := t'
  simp only [Thread.forget, Thread.mk.injEq] at h
  obtain ⟨rfl, rfl, rfl, h4⟩ := h
  cases st with
  | nil => cases st' with
    | nil => exact ht
    | cons a b => rw [forgetAll_nil, forgetAll_cons] at h4; cases h4
  | cons a b => exact absurd (Bool.and_eq_true_iff.mp ht).1 Bool.false_ne_true

theorem mem_oldL {b : Nat} (h1 : b < 28) (h2 : b ≠ mainGlobals) (h3 : b ≠ cStatics) : b ∈ oldL := by
  unfold oldL
  rw [List.mem_filter]
  refine ⟨List.mem_range.mpr h1, ?_⟩
  have h2' : b ≠ mainNs := h2
  simp [h2', h3]
theorem map_at {α β : Type} {l : List α} {f g : α → β} (h : l.map f = l.map g) : ∀ x ∈ l, f x = g x := List.map_inj_left.mp h

set_option maxHeartbeats 400000 in
theorem head_of (v : World) (a : Bool) (hK : ∀ ob, allSeen v a ob = allWant v ob) (hO : ∀ ob, Fast.tw4187177175401517315 qv looseL modsL (fun _ => true) false (fin v a ob).1 = openGood qv looseL)
    (hch : chainsOk qv = true) : HeadOK v := by
  have hS : ∀ ob, seenAll v (evs a) ob 0 (X0 v (nA a)) = want v ob := fun ob => by
    have k := hK ob
    unfold allSeen allWant at k
    dsimp only at k
    exact (Prod.mk.inj k).1
  obtain ⟨ob, g, hill, hws⟩ := all40 hS
  have k := hK ob
  unfold allSeen allWant at k
  dsimp only at k
  simp only [Prod.mk.injEq] at k
  obtain ⟨_, k1, k2, ⟨k3, k3'⟩, k4, k5, k6, k7⟩ := k
  have hO := hO ob
  rw [← Fast.te4187177175401517315] at hO
  have hgo : Goes v (S0 v, topStub pw_rt0017_01) (fin v a ob) := by
    have k1' := k1
    unfold topOk at k1'
    simp only [Bool.and_eq_true] at k1'
    have g' := rr_goes k1'.2
    unfold fin
    unfold X0 at g
    unfold X0
    exact g'.trans g
  clear hK hS
  generalize fin v a ob = F at k2 k3 k3' k4 k5 k6 k7 hO hgo g
  clear g
  unfold topOk at k1
  simp only [Bool.and_eq_true, beq_iff_eq, Nat.beq_eq] at k1
  obtain ⟨⟨⟨hns, hg0⟩, hsz⟩, _⟩ := k1
  simp only [Bool.and_eq_true] at k2
  obtain ⟨⟨⟨hth, hlk⟩, hsp⟩, htk⟩ := k2
  unfold look1 at hlk
  simp only [Bool.and_eq_true] at hlk
  obtain ⟨⟨⟨hst, hnb⟩, hgd⟩, hlaid⟩ := hlk
  -- the opening
  have hS0 := S0_eq v
  cases hfo : fencedOpening treeTable pw_rt0017_01 v 20000 with
  | none =>
    rw [hfo] at hS0
    rw [hS0] at hsz
    simp at hsz
  | some s₀ =>
    rw [hfo] at hS0
    have hS0 : S0 v = s₀ := hS0
    rw [hS0] at hns hg0 hsz k4 k6 k7 hst hlaid hgo
    unfold fencedOpening at hfo
    obtain ⟨s, h4, h5⟩ := Option.bind_eq_some_iff.mp hfo
    rw [← table_eq_tree] at h4
    have A := AfterImport.of_importEnds h4
    refine ⟨⟨s, A⟩, fun s' hs' => ?_⟩
    obtain rfl : s' = s := AfterImport.unique hs' A
    have z : s₀.asleep := Shared.asleep_of_life (fence_lifeW h5) A.life
    obtain ⟨n, s₁, t₁, hrun, hlife, hal⟩ := hgo s₀ (topStub pw_rt0017_01) z ⟨rfl, rfl⟩
    have hgens := gens_of_done hgd
    obtain rfl : s₁ = F.1 := same_of_forget hal.1 hgens
    obtain ⟨G, g0, g1, g2, g3, g4, g5⟩ := ground_of_open (w := v) (XP := fun _ _ => True) (fun _ _ => trivial) hch hO
    have X : XPm v (F.1.heap.nsMap mainGlobals) F.1.heap := by
      simp only [tablesL, List.map_cons, List.map_nil, List.cons.injEq, and_true] at k5
      obtain ⟨q1, q2, q3, q4⟩ := k5
      exact ⟨q1, q2, q3, q4, ⟨_, _, _, k3, hill⟩, ⟨_, _, _, k3', hws⟩, hsp⟩
    refine ⟨s₀, h5, Array.eq_empty_of_size_eq_zero hg0, F.1, ⟨⟨n, t₁, hrun, through_alike hal.2 hth⟩, k6, Shared.rest_eq k7, fun b o hb hn => ?_, g2, statics_of_ok hst, g3, g4, g5, hgens, names_of_bound hnb, laid_of_kept hlaid⟩, Shared.asleep_of_life k6 z, by simpa using g0, g1, Nat.blt_eq.mp htk,
      ⟨G.T, G.B, G.D, G.TE, G.TD, G.W, X, G.cls, G.has, G.apart, G.once, G.K⟩⟩
    have h1 : b < 28 := hsz ▸ Heap.lt_size hb
    rw [map_at k4 b (mem_oldL h1 (fun q => hn (.inl q)) (fun q => hn (.inr (.inl q))))]
    exact hb
end Mine
end
end
noncomputable section
open PySem PySem.W PyProof.Rows PySem.Challenge
set_option maxRecDepth 1000000
set_option maxHeartbeats 0
namespace Mine
theorem top_ff (w : World) (ob : Nat → Ob) : (allSeen (wr false false w) false ob, Fast.tw4187177175401517315 qv looseL modsL (fun _ => true) false (fin (wr false false w) false ob).1) =
  (allWant (wr false false w) ob, openGood qv looseL) := by kernel_rfl
theorem chains_qv : chainsOk qv = true := by kernel_rfl
theorem head_ff (w : World) : HeadOK (wr false false w) := head_of _ false (fun ob => (Prod.mk.inj (top_ff w ob)).1) (fun ob => (Prod.mk.inj (top_ff w ob)).2) chains_qv
end Mine
end
noncomputable section
open PySem PySem.W PyProof.Rows PySem.Challenge
set_option maxRecDepth 1000000
set_option maxHeartbeats 0
namespace Mine
theorem top_ft (w : World) (ob : Nat → Ob) : (allSeen (wr false true w) false ob, Fast.tw4187177175401517315 qv looseL modsL (fun _ => true) false (fin (wr false true w) false ob).1) =
  (allWant (wr false true w) ob, openGood qv looseL) := by kernel_rfl
theorem head_ft (w : World) : HeadOK (wr false true w) := head_of _ false (fun ob => (Prod.mk.inj (top_ft w ob)).1) (fun ob => (Prod.mk.inj (top_ft w ob)).2) (by kernel_rfl)
end Mine
end
noncomputable section
open PySem PySem.W PyProof.Rows PySem.Challenge
set_option maxRecDepth 1000000
set_option maxHeartbeats 0
namespace Mine
theorem top_tf (w : World) (ob : Nat → Ob) : (allSeen (wr true false w) true ob, Fast.tw4187177175401517315 qv looseL modsL (fun _ => true) false (fin (wr true false w) true ob).1) =
  (allWant (wr true false w) ob, openGood qv looseL) := by kernel_rfl
theorem head_tf (w : World) : HeadOK (wr true false w) := head_of _ true (fun ob => (Prod.mk.inj (top_tf w ob)).1) (fun ob => (Prod.mk.inj (top_tf w ob)).2) (by kernel_rfl)
end Mine
end
noncomputable section
open PySem PySem.W PyProof.Rows PySem.Challenge
set_option maxRecDepth 1000000
set_option maxHeartbeats 0
namespace Mine
theorem top_tt (w : World) (ob : Nat → Ob) : (allSeen (wr true true w) true ob, Fast.tw4187177175401517315 qv looseL modsL (fun _ => true) false (fin (wr true true w) true ob).1) =
  (allWant (wr true true w) ob, openGood qv looseL) := by kernel_rfl
theorem head_tt (w : World) : HeadOK (wr true true w) := head_of _ true (fun ob => (Prod.mk.inj (top_tt w ob)).1) (fun ob => (Prod.mk.inj (top_tt w ob)).2) (by kernel_rfl)
end Mine
end
noncomputable section
open PySem PySem.W PyProof.Rows PySem.Challenge
namespace Mine

/-- plain data -/
inductive D where
  | none
  | bool (b : Bool)
  | int (i : Int)
  | str (x : Str)
  | lst (l : List D)
  | tup (l : List D)
  | ws
  | ill
  | val (v : Value)
  deriving Inhabited

mutual
/-- the heap bears the datum at the value -/
inductive Rep (h : Heap) (O : Addr → Prop) : D → Value → Prop where
  | none : Rep h O .none .none
  | bool (b : Bool) : Rep h O (.bool b) (.bool b)
  | int (i : Int) (tk : Tok) : Rep h O (.int i) (.int i tk)
  | str (x : Str) (tk : Tok) : Rep h O (.str x) (.str x tk)
  | lst {a : Addr} {xs : List Value} {ds : List D} {n : Nat} (ho : h.get? a = some { cls := .type "list", data := .seq xs.toArray n }) (hO : ¬ O a) (hs : Reps h O ds xs) : Rep h O (.lst ds) (.ref a)
  | tup {a : Addr} {xs : List Value} {ds : List D} {n : Nat} (ho : h.get? a = some { cls := .type "tuple", data := .seq xs.toArray n }) (hO : ¬ O a) (hs : Reps h O ds xs) : Rep h O (.tup ds) (.ref a)
  | ws : Rep h O .ws (.ref 62)
  | ill : Rep h O .ill (.ref 53)
  | val (v : Value) : Rep h O (.val v) v
inductive Reps (h : Heap) (O : Addr → Prop) : List D → List Value → Prop where
  | nil : Reps h O [] []
  | cons {d : D} {v : Value} {ds : List D} {vs : List Value} (hd : Rep h O d v) (hs : Reps h O ds vs) : Reps h O (d :: ds) (v :: vs)
end

noncomputable abbrev KeepsH (h h' : Heap) : Prop := ∀ b o, h.get? b = some o → h'.get? b = some o

theorem Rep.mono {h h' : Heap} {O : Addr → Prop} (P : Addr → Prop) (hk : ∀ b o, ¬ P b → h.get? b = some o → h'.get? b = some o)
    (hP : ∀ b, P b → ∀ c xs n, (c = "list" ∨ c = "tuple") → ¬ O b → h.get? b ≠ some { cls := .type c, data := .seq xs n }) {d : D} {v : Value} (r : Rep h O d v) : Rep h' O d v :=
  Rep.rec (motive_1 := fun d v _ => Rep h' O d v) (motive_2 := fun ds vs _ => Reps h' O ds vs) .none (fun b => .bool b) (fun i t => .int i t) (fun x t => .str x t)
    (fun ho hO _ ih => .lst (hk _ _ (fun q => hP _ q _ _ _ (.inl rfl) hO ho) ho) hO ih) (fun ho hO _ ih => .tup (hk _ _ (fun q => hP _ q _ _ _ (.inr rfl) hO ho) ho) hO ih)
    .ws .ill (fun v => .val v) .nil (fun _ _ i1 i2 => .cons i1 i2) r
theorem Reps.ind {h : Heap} {O : Addr → Prop} {P : List D → List Value → Prop} (n : P [] []) (c : ∀ {d v ds vs}, Rep h O d v → Reps h O ds vs → P ds vs → P (d :: ds) (v :: vs)) {ds : List D} {vs : List Value} (r : Reps h O ds vs) : P ds vs :=
  Reps.rec (motive_1 := fun _ _ _ => True) (motive_2 := fun ds vs _ => P ds vs) trivial (fun _ => trivial) (fun _ _ => trivial) (fun _ _ => trivial) (fun _ _ _ _ => trivial) (fun _ _ _ _ => trivial) trivial trivial (fun _ => trivial) n (fun hd hs _ ih => c hd hs ih) r
theorem Reps.mono {h h' : Heap} {O : Addr → Prop} (P : Addr → Prop) (hk : ∀ b o, ¬ P b → h.get? b = some o → h'.get? b = some o)
    (hP : ∀ b, P b → ∀ c xs n, (c = "list" ∨ c = "tuple") → ¬ O b → h.get? b ≠ some { cls := .type c, data := .seq xs n }) {ds : List D} {vs : List Value} (r : Reps h O ds vs) : Reps h' O ds vs :=
  r.ind .nil fun hd _ ih => .cons (Rep.mono P hk hP hd) ih
theorem Rep.keeps {h h' : Heap} {O : Addr → Prop} {d : D} {v : Value} (r : Rep h O d v) (hk : KeepsH h h') : Rep h' O d v := r.mono (fun _ => False) (fun b o _ e => hk b o e) fun _ q => q.elim
theorem Reps.keeps {h h' : Heap} {O : Addr → Prop} {d : List D} {v : List Value} (r : Reps h O d v) (hk : KeepsH h h') : Reps h' O d v := r.mono (fun _ => False) (fun b o _ e => hk b o e) fun _ q => q.elim

theorem Reps.length {h O} {ds : List D} {vs : List Value} (r : Reps h O ds vs) : vs.length = ds.length :=
  r.ind (P := fun ds vs => vs.length = ds.length) rfl fun _ _ ih => congrArg (· + 1) ih
theorem Reps.get {h O} {ds : List D} {vs : List Value} (r : Reps h O ds vs) : ∀ (i : Nat) (d : D), ds[i]? = some d → ∃ v, vs[i]? = some v ∧ Rep h O d v :=
  r.ind (P := fun ds vs => ∀ (i : Nat) (d : D), ds[i]? = some d → ∃ v, vs[i]? = some v ∧ Rep h O d v) (fun i d e => none_some (e : none = some d)) fun hd hs ih i d e => by
    cases i with
    | zero => exact ⟨_, rfl, Option.some.inj e ▸ hd⟩
    | succ i => exact ih i d e
theorem Reps.append {h O} {ds ds' : List D} {vs vs' : List Value} (r : Reps h O ds vs) (r' : Reps h O ds' vs') : Reps h O (ds ++ ds') (vs ++ vs') :=
  r.ind (P := fun ds vs => Reps h O (ds ++ ds') (vs ++ vs')) r' fun hd _ ih => .cons hd ih
theorem Reps.consInv {h O} {d : D} {ds : List D} {vs : List Value} (r : Reps h O (d :: ds) vs) : ∃ v vs', vs = v :: vs' ∧ Rep h O d v ∧ Reps h O ds vs' := by
  cases r with | cons a b => exact ⟨_, _, rfl, a, b⟩
theorem Reps.nilInv {h O} {vs : List Value} (r : Reps h O [] vs) : vs = [] := by
  cases r; rfl

/-- a local, a cell or a free name stands for the value -/
noncomputable def Var (h : Heap) (env : Env) (x : Str) (v : Value) : Prop :=
  (env.kindOf x = some .local ∧ ∃ m, h.Ns env.locals m ∧ m x = some v) ∨ ((env.kindOf x = some .cell ∨ env.kindOf x = some .free) ∧ ∃ c, env.cells.lookup x = some c ∧ h.IsCell c (some v))

theorem Var.keeps {h h' : Heap} {env : Env} {x : Str} {v : Value} (r : Var h env x v) (hk : KeepsH h h') : Var h' env x v :=
  r.imp (fun ⟨a, m, b, c⟩ => ⟨a, m, b.keeps hk, c⟩) fun ⟨a, c, b, d⟩ => ⟨a, c, b, d.keeps hk⟩

noncomputable def IsV (k : Option NameKind) : Prop := k = some .local ∨ k = some .cell ∨ k = some .free

/-- what an execution of a block knows of its env: start heap hs, names it may store -/
structure ER (hs : Heap) (O : Addr → Prop) (mine : Str → Prop) (env : Env) (ρ : Str → Option D) (h : Heap) : Prop where
  keep : KeepsH hs h
  kind : env.scope.kind = .function
  glob : env.globals = mainGlobals
  blt : env.builtins = builtinsNs
  ns : ∃ m, h.Ns env.locals m
  above : hs.objs.size ≤ env.locals
  apart : ∀ x y c, env.cells.lookup x = some c → env.cells.lookup y = some c → x = y
  cells : ∀ x c, env.cells.lookup x = some c → c ≠ env.locals ∧ ∃ v, h.IsCell c v
  mineOk : ∀ x, mine x → env.kindOf x = some .local ∨ (env.kindOf x = some .cell ∧ ∃ c, env.cells.lookup x = some c ∧ hs.objs.size ≤ c)
  full : ∀ x, (env.kindOf x = some .cell ∨ env.kindOf x = some .free) → ∃ c, env.cells.lookup x = some c
  vars : ∀ x d, ρ x = some d → IsV (env.kindOf x) → ∃ v, Var h env x v ∧ Rep h O d v

theorem ER.keeps {hs h h' : Heap} {O mine env ρ} (X : ER hs O mine env ρ h) (hk : KeepsH h h') : ER hs O mine env ρ h' where
  keep := fun b o e => hk b o (X.keep b o e)
  kind := X.kind
  glob := X.glob
  blt := X.blt
  ns := let ⟨m, n⟩ := X.ns; ⟨m, n.keeps hk⟩
  above := X.above
  apart := X.apart
  cells := fun x c e => let ⟨a, v, b⟩ := X.cells x c e; ⟨a, v, b.keeps hk⟩
  mineOk := X.mineOk
  full := X.full
  vars := fun x d e q => let ⟨v, a, b⟩ := X.vars x d e q; ⟨v, a.keeps hk, b.keeps hk⟩

noncomputable def upd1 (ρ : Str → Option D) (x : Str) (d : D) : Str → Option D := fun y => if y = x then some d else ρ y

section
variable {v : World} {A : Around} {E : Value → Shared → Prop} {s : Shared} {hs : Heap} {O : Addr → Prop} {mine : Str → Prop} {env : Env} {ρ : Str → Option D}

theorem loadVar {x : Str} {val : Value} {Q : Value → Shared → Prop} (X : ER hs O mine env ρ s.heap) (hx : Var s.heap env x val) (h : Q val s) (hc : (x == ("__classdict__" : Str)) = false) :
    wpAny (model pw_rt0017_01 v) A (loadName env x) Q E s := by
  rcases hx with ⟨hk, m, hn, hm⟩ | ⟨hk, c, hc', hi⟩
  · exact wpAny_loadName_local X.kind hk hn hm h
  · rcases hk with hk | hk
    · exact wpAny_loadName_cell X.kind hk hc' hi h
    · exact wpAny_loadName_free X.kind hk hc' hi h hc

theorem not_seq_ns {h : Heap} {a : Addr} {m} (hn : h.Ns a m) : ∀ c xs n, (c = "list" ∨ c = "tuple") → ¬ O a → h.get? a ≠ some { cls := .type c, data := .seq xs n } := by
  intro c xs n _ _ e
  obtain ⟨o, es, ep, ho, hd, _⟩ := hn
  rw [ho] at e
  obtain rfl := Option.some.inj e
  cases hd
theorem not_seq_cell {h : Heap} {a : Addr} {v} (hn : h.IsCell a v) : ∀ c xs n, (c = "list" ∨ c = "tuple") → ¬ O a → h.get? a ≠ some { cls := .type c, data := .seq xs n } := by
  intro c xs n _ _ e
  obtain ⟨o, ho, hd⟩ := hn
  rw [ho] at e
  obtain rfl := Option.some.inj e
  cases hd

theorem storeVar {x : Str} {d : D} {val : Value} {Q : Unit → Shared → Prop} (X : ER hs O mine env ρ s.heap) (hx : mine x) (hr : Rep s.heap O d val)
    (h : ∀ h' tk, ER hs O mine env (upd1 ρ x d) h' → h'.objs.size = s.heap.objs.size → (∀ b o, b ≠ env.locals → (∀ y, mine y → env.cells.lookup y ≠ some b) → s.heap.get? b = some o → h'.get? b = some o) → Q () { s with heap := h', toks := tk }) :
    wpAny (model pw_rt0017_01 v) A (storeName env x val) Q E s := by
  rcases X.mineOk x hx with hk | ⟨hk, c, hc, hlo⟩
  · obtain ⟨m, hn⟩ := X.ns
    refine wpAny_storeName_local hk hn (fun h' hn' hs' => ?_) (by rw [X.kind]; rfl)
    have hrep : ∀ {d v}, Rep s.heap O d v → Rep h' O d v := fun r => r.mono (fun b => b = env.locals) (fun b o hb e => hs'.extBut b o hb e) fun b hb => by subst hb; exact not_seq_ns hn
    refine h h' _ ⟨fun b o e => hs'.extBut b o (Nat.ne_of_lt (Nat.lt_of_lt_of_le (Heap.lt_size e) X.above)) (X.keep b o e), X.kind, X.glob, X.blt, ⟨_, hn'⟩, X.above, X.apart,
      fun y c e => let ⟨a, v0, b⟩ := X.cells y c e; ⟨a, v0, b.sameBut hs' a⟩, X.mineOk, X.full, fun y d' e hv' => ?_⟩ hs'.1 fun b o hb _ e => hs'.extBut b o hb e
    unfold upd1 at e
    split at e
    · rename_i hy
      subst hy
      obtain rfl := Option.some.inj e
      exact ⟨val, .inl ⟨hk, _, hn', if_pos rfl⟩, hrep hr⟩
    · rename_i hy
      obtain ⟨v', hv, hr'⟩ := X.vars y d' e hv'
      refine ⟨v', ?_, hrep hr'⟩
      rcases hv with ⟨a, m', b, c⟩ | ⟨a, c, b, i⟩
      · refine .inl ⟨a, _, hn', ?_⟩
        rw [if_neg hy, ← b.agree hn y]; exact c
      · exact .inr ⟨a, c, b, i.sameBut hs' (X.cells y c b).1⟩
  · obtain ⟨hcl, v0, hi⟩ := X.cells x c hc
    refine wpAny_storeName_cell X.kind hk hc hi fun h' hi' hs' => ?_
    have hrep : ∀ {d v}, Rep s.heap O d v → Rep h' O d v := fun r => r.mono (fun b => b = c) (fun b o hb e => hs'.extBut b o hb e) fun b hb => by subst hb; exact not_seq_cell hi
    obtain ⟨m, hn⟩ := X.ns
    refine h h' s.toks ⟨fun b o e => hs'.extBut b o (Nat.ne_of_lt (Nat.lt_of_lt_of_le (Heap.lt_size e) hlo)) (X.keep b o e), X.kind, X.glob, X.blt, ⟨_, hn.sameBut hs' (Ne.symm hcl)⟩, X.above, X.apart,
      fun y c' e => ?_, X.mineOk, X.full, fun y d' e hv' => ?_⟩ hs'.1 fun b o hb hb' e => hs'.extBut b o (fun q => hb' x hx (q ▸ hc)) e
    · obtain ⟨a, v1, b⟩ := X.cells y c' e
      by_cases hcc : c' = c
      · subst hcc; exact ⟨a, _, hi'⟩
      · exact ⟨a, v1, b.sameBut hs' hcc⟩
    · unfold upd1 at e
      split at e
      · rename_i hy
        subst hy
        obtain rfl := Option.some.inj e
        exact ⟨val, .inr ⟨.inl hk, c, hc, hi'⟩, hrep hr⟩
      · rename_i hy
        obtain ⟨v', hv, hr'⟩ := X.vars y d' e hv'
        refine ⟨v', ?_, hrep hr'⟩
        rcases hv with ⟨a, m', b, c'⟩ | ⟨a, c', b, i⟩
        · exact .inl ⟨a, m', b.sameBut hs' (Ne.symm hcl), c'⟩
        · exact .inr ⟨a, c', b, i.sameBut hs' fun q => hy (X.apart y x c (q ▸ b) hc)⟩
end
end Mine
end
noncomputable section
open PySem PySem.W PyProof.Rows PySem.Challenge PySem.SeqAt
set_option maxRecDepth 100000
namespace Mine

noncomputable abbrev Rho := List (Str × D)
inductive Fl where
  | next
  | brk
  | ret (d : D)
  deriving Inhabited

noncomputable def smallL (n : Nat) : Bool := decide (n ≤ 100000)
noncomputable def smallI (i : Int) : Bool := decide (-1000000 ≤ i) && decide (i ≤ 1000000)
noncomputable def truthD : D → Option Bool
  | .none => some false
  | .bool b => some b
  | .int i => some (i != 0)
  | .str x => if smallL x.cps.size then some (!(x.cps.size == 0)) else none
  | .lst l => if smallL l.length then some (!l.isEmpty) else none
  | _ => none

mutual
/-- as the library's data -/
noncomputable def py : D → PyData
  | .none => .none
  | .bool b => .bool b
  | .int i => .int i
  | .str x => .str x
  | .lst l => .list (pys l)
  | .tup l => .tuple (pys l)
  | .ws => .none
  | .ill => .none
  | .val _ => .none
noncomputable def pys : List D → List PyData
  | [] => []
  | d :: r => py d :: pys r
end
mutual
noncomputable def noSet : D → Bool
  | .lst l => noSets l
  | .tup l => noSets l
  | .ws => false
  | .ill => false
  | .val _ => false
  | _ => true
noncomputable def noSets : List D → Bool
  | [] => true
  | d :: r => noSet d && noSets r
end
noncomputable def okD (d : D) : Bool := noSet d && shaped (py d)
noncomputable def eqD (a b : D) : Option Bool := if okD a && okD b then some (PyData.eqv (py a) (py b)) else none
noncomputable def memD (d : D) (l : List D) : Option Bool := if okD d && okD (.lst l) then some ((pys l).any fun y => PyData.eqv y (py d)) else none

noncomputable def isNoneD : D → Bool
  | .none => true
  | _ => false
noncomputable def isRaw : D → Bool
  | .val _ => true
  | _ => false
noncomputable def inD (a : D) : D → Option Bool
  | .ws => (match a with
    | .str c => if c.cps.toList.length == 1 then some (SWs c) else none
    | _ => none)
  | .lst l => memD a l
  | _ => none
noncomputable def notInD (a : D) : D → Option Bool
  | .lst l => (memD a l).map (!·)
  | _ => none
noncomputable def isD (a : D) : D → Option Bool
  | .none => if isRaw a then none else some (isNoneD a)
  | _ => none
noncomputable def isNotD (a : D) : D → Option Bool
  | .none => if isRaw a then none else some (!isNoneD a)
  | _ => none
noncomputable def cmpD : CmpOp → D → D → Option Bool
  | .Eq, a, b => eqD a b
  | .NotEq, a, b => (eqD a b).map (!·)
  | .Lt, .int a, .int b => some (decide (a < b))
  | .Gt, .int a, .int b => some (decide (b < a))
  | .GtE, .int a, .int b => some (decide (b ≤ a))
  | .LtE, .int a, .int b => some (decide (a ≤ b))
  | .Lt, .str a, .str b => some (decide (a.cps.toList < b.cps.toList))
  | .Gt, .str a, .str b => some (decide (b.cps.toList < a.cps.toList))
  | .In, a, b => inD a b
  | .NotIn, a, b => notInD a b
  | .Is, a, b => isD a b
  | .IsNot, a, b => isNotD a b
  | _, _, _ => none

noncomputable def repL : Nat → List D → List D
  | 0, _ => []
  | n + 1, l => l ++ repL n l
noncomputable def binD : Operator → D → D → Option D
  | .Add, .int a, .int b => some (.int (a + b))
  | .Add, .str a, .str b => if smallL (a.cps.toList.length + b.cps.toList.length) then some (.str (a ++ b)) else none
  | .Add, .lst a, .lst b => if smallL (a.length + b.length) then some (.lst (a ++ b)) else none
  | .Sub, .int a, .int b => some (.int (a - b))
  | .Sub, .bool a, .bool b => some (.int ((if a then 1 else 0) - (if b then 1 else 0)))
  | .Mult, .int a, .int b => if smallI a then some (.int (a * b)) else none
  | .Mult, .lst a, .int b => if smallL (a.length * b.toNat) && smallI b then some (.lst (repL b.toNat a)) else none
  | .FloorDiv, .int a, .int b => if b == 0 || !smallI b then none else some (.int (a.fdiv b))
  | .Mod, .int a, .int b => if b == 0 then none else some (.int (a.fmod b))
  | _, _, _ => none

noncomputable def idxOf (n : Nat) (i : Int) : Option Nat := if 0 ≤ i then some i.toNat else if 0 ≤ i + n then some (i + n).toNat else none
noncomputable def getD : D → D → Option D
  | .lst l, .int i => if smallI i then (idxOf l.length i).bind (l[·]?) else none
  | .str x, .int i => if smallI i then (idxOf x.cps.size i).bind fun j => (x.cps[j]?).map fun c => .str (Str.mk #[c]) else none
  | _, _ => none

noncomputable def natD : Option D → Option (Option Nat)
  | none => some none
  | some (.int i) => if decide (0 ≤ i) && smallI i then some (some i.toNat) else none
  | _ => none
noncomputable def alt2 {α : Type} : List α → List α
  | [] => []
  | [x] => [x]
  | x :: _ :: r => x :: alt2 r
noncomputable def cutL {α : Type} (lo hi : Option Nat) (l : List α) : List α := ((match hi with | some h => l.take h | none => l)).drop (lo.getD 0)
/-- value, lower, upper, step -/
noncomputable def sliceD (d : D) (lo hi : Option Nat) (two : Bool) : Option D := match d, two with
  | .lst l, false => if smallL l.length then some (.lst (cutL lo hi l)) else none
  | .lst l, true => if decide (l.length ≤ 4) && hi.isNone && (lo.isNone || lo == some 1) then some (.lst (alt2 (cutL lo hi l))) else none
  | .str x, false => if smallL x.cps.size && (lo.isSome || hi.isSome) && decide (lo.getD 0 ≤ hi.getD x.cps.size) && decide (hi.getD x.cps.size ≤ x.cps.size) then some (.str ⟨(cutL lo hi x.cps.toList).toArray⟩) else none
  | _, _ => none

noncomputable def upTo (a : Int) : Nat → List D
  | 0 => []
  | n + 1 => .int a :: upTo (a + 1) n
noncomputable def downTo (a : Int) : Nat → List D
  | 0 => []
  | n + 1 => .int a :: downTo (a - 1) n
noncomputable def rangeD : List D → Option (List D)
  | [.int b] => if smallI b then some (upTo 0 b.toNat) else none
  | [.int a, .int b, .int c] => if smallI a && smallI b && c == -1 then some (downTo a (a - b).toNat) else none
  | _ => none

noncomputable def charsD (x : Str) : List D := x.cps.toList.map fun c => .str (Str.mk #[c])
noncomputable def itemsD : D → Option (List D)
  | .lst l => some l
  | .str x => some (charsD x)
  | _ => none

noncomputable def sumD : List D → Int → Option Int
  | [], a => some a
  | .int i :: r, a => sumD r (a + i)
  | _, _ => none
noncomputable def insS (x : Str) : List Str → List Str
  | [] => [x]
  | y :: r => if decide (y.cps.toList < x.cps.toList) then y :: insS x r else x :: y :: r
noncomputable def sortS : List Str → List Str
  | [] => []
  | x :: r => insS x (sortS r)
noncomputable def countD (d : D) (l : List D) : Option Nat := if okD d && okD (.lst l) then some ((pys l).countP fun y => PyData.eqv y (py d)) else none

noncomputable def findL (c : Nat) : Nat → List Nat → Option Nat
  | _, [] => none
  | k, x :: r => if x == c then some k else findL c (k + 1) r

noncomputable def pat2 (x : Str) : Bool := x.cps.toList.length == 2 && x.cps.toList.all fun c => c == 97 || c == 98 || c == 63 || c == 42
noncomputable def repS (x : Str) : Str := if x.cps.toList == [42, 42] then Str.mk #[42] else x
/-- what _translate answers -/
noncomputable def trD (q : D) : List Nat → Option (List D)
  | [] => some []
  | c :: r => if c == 42 then (trD q r).map fun l => .none :: (match l with | .none :: l' => l' | l => l)
    else if c == 63 then (trD q r).map (q :: ·) else if c == 97 || c == 98 then (trD q r).map (.str (Str.mk #[c]) :: ·) else none
noncomputable def strsD : List D → Option (List Str)
  | [] => some []
  | .str x :: r => (strsD r).map (x :: ·)
  | _ => none
noncomputable def dropEq (e : Str) : List Str → List Str
  | [] => []
  | x :: r => if x == e then dropEq e r else x :: r
/-- what sorted_list_difference answers -/
noncomputable def sld : Nat → List Str → List Str → List Str → List Str → Option (List Str × List Str)
  | 0, _, _, _, _ => none
  | n + 1, e :: E, a :: A, m, u => if decide (e.cps.toList < a.cps.toList) then sld n (dropEq e E) (a :: A) (m ++ [e]) u
    else if decide (a.cps.toList < e.cps.toList) then sld n (e :: E) (dropEq a A) m (u ++ [a]) else sld n (dropEq e E) (dropEq a A) m u
  | _ + 1, E, A, m, u => some (m ++ E, u ++ A)
/-- what unorderable_list_difference answers: the first list turned round -/
noncomputable def uld : List Str → List Str → List Str → List Str × List Str
  | [], A, m => (m, A)
  | x :: r, A, m => if A.contains x then uld r (A.erase x) m else uld r A (m ++ [x])
noncomputable def lstS (l : List Str) : D := .lst (l.map .str)
noncomputable def specNames : List Str := [Str.ofString "_translate", Str.ofString "sorted_list_difference", Str.ofString "unorderable_list_difference"]
noncomputable def specC (f : Str) : List D → Option D
  | [.str x, .none, .str q] => if f == Str.ofString "_translate" && x.cps.toList.length == 2 then (trD (.str q) x.cps.toList).map .lst else none
  | _ => none

/-- a built-in by its name -/
noncomputable def builtD (f : Str) : List D → Option D
  | [.lst l] => if f == Str.ofString "len" then (if smallL l.length then some (.int l.length) else none) else if f == Str.ofString "sum" then (sumD l 0).map .int else if f == Str.ofString "sorted" then (strsD l).bind (fun ss => if decide (ss.length < 64) then some (lstS (sortS ss)) else none) else none
  | [.str x] => if f == Str.ofString "len" then (if smallL x.cps.toList.length then some (.int x.cps.toList.length) else none) else none
  | _ => none
/-- a method of a datum -/
noncomputable def methD (d : D) (m : Str) : List D → Option D
  | [.str c, .int p] => match d with
    | .str x => if m == Str.ofString "index" && decide (0 ≤ p) then (match c.cps.toList with
        | [k] => (findL k p.toNat (x.cps.toList.drop p.toNat)).map fun (i : Nat) => D.int (i : Int)
        | _ => none) else none
    | _ => none
  | [x] => match d, x with
    | .ill, .str y => if m == Str.ofString "isdisjoint" && y.cps.toList.all (fun c => decide (32 ≤ c) && decide (c ≠ 127)) then some (.bool true) else none
    | .lst l, x => if m == Str.ofString "count" then (countD x l).map fun (n : Nat) => D.int (n : Int) else none
    | _, _ => none
  | _ => none

structure Kit where
  e : Scope → Rho → Expr → Option D
  t : Scope → Rho → Expr → Option Bool
  s : Scope → Rho → Stmt → Option (Rho × Fl)
  w : Scope → Rho → Expr → List Stmt → Option (Rho × Fl)
  c : Str → List D → List (Str × D) → Option D

noncomputable def mapO {α β : Type} (f : α → Option β) : List α → Option (List β)
  | [] => some []
  | x :: r => match f x with
    | some y => (mapO f r).map (y :: ·)
    | none => none
noncomputable def exL (f : Rho → Stmt → Option (Rho × Fl)) : Rho → List Stmt → Option (Rho × Fl)
  | ρ, [] => some (ρ, .next)
  | ρ, st :: r => match f ρ st with
    | some (ρ', .next) => exL f ρ' r
    | x => x
noncomputable def forL (f : Rho → D → Option (Rho × Fl)) : Rho → List D → Option (Rho × Fl)
  | ρ, [] => some (ρ, .next)
  | ρ, d :: r => match f ρ d with
    | some (ρ', .next) => forL f ρ' r
    | some (ρ', .ret d) => some (ρ', .ret d)
    | _ => none
noncomputable def allO {α : Type} (f : α → Option Bool) : List α → Option Bool
  | [] => some true
  | x :: r => match f x with
    | some true => allO f r
    | some false => some false
    | none => none
noncomputable def anyO {α : Type} (f : α → Option Bool) : List α → Option Bool
  | [] => some false
  | x :: r => match f x with
    | some true => some true
    | some false => anyO f r
    | none => none
/-- kept items -/
noncomputable def compO (test : D → Option Bool) (elt : D → Option D) : List D → Option (List D)
  | [] => some []
  | d :: r => match test d with
    | some true => (match elt d, compO test elt r with
      | some y, some l => some (y :: l)
      | _, _ => none)
    | some false => compO test elt r
    | none => none

noncomputable def nameE : Expr → Option Str
  | .Name x _ => some x
  | _ => none
noncomputable def isGlob (sc : Scope) (x : Str) : Bool := sc.names.lookup x == some .globalImplicit
noncomputable def goodName (x : Str) : Bool := !(x == ("__debug__" : Str)) && !(x == ("__classdict__" : Str))
noncomputable def notCall : Expr → Bool
  | .Call .. => false
  | _ => true
noncomputable def isVar (sc : Scope) (x : Str) : Bool := sc.names.lookup x == some .local || sc.names.lookup x == some .cell || sc.names.lookup x == some .free
noncomputable def relab (sc outer : Scope) : Scope := { sc with names := sc.names.map fun (n, k) => if (k == .free && outer.kind == .function && outer.names.lookup n == some .cell) then (n, .cell) else (n, k) }
noncomputable def isOwn (sc : Scope) (x : Str) : Bool := sc.names.lookup x == some .local || sc.names.lookup x == some .cell
noncomputable def dupFree : List Str → Bool
  | [] => true
  | x :: r => !(r.contains x) && dupFree r
noncomputable def dot0 : Str := Str.ofString ".0"
/-- a comprehension's scope is a plain one -/
noncomputable def compOk (csc sc : Scope) (x : Str) : Bool := csc.kind == .function && sc.kind == .function && dupFree (csc.names.map Prod.fst) && isOwn csc x && goodName x && csc.names.all (fun (y, kd) => y == x || (kd != .cell && (kd != .local || y == dot0))) &&
  csc.names.all fun (y, kd) => kd != .free || sc.names.lookup y == some .cell || sc.names.lookup y == some .free
noncomputable def builtNames : List Str := [Str.ofString "len", Str.ofString "sum", Str.ofString "sorted"]

/-- where the defs stand among the program's statements -/
noncomputable def defIx : List Nat := [9, 10, 11, 12, 13, 14, 18, 20, 22, 23, 24, 26, 27, 28, 29, 30, 31, 32]
noncomputable def defOf : Option Stmt → DefRec
  | some (.FunctionDef name a b _ _ _ sc _ _ pos) => ⟨name, a, b, sc, pos⟩
  | _ => ⟨default, default, default, default, default⟩
noncomputable def dAt (i : Nat) : DefRec := defOf (pw_rt0017_01.main.body[(defIx[i]?).getD 0]?)
noncomputable def findD (f : Str) : Nat → Nat → Option Nat
  | 0, _ => none
  | n + 1, i => if (dAt i).name == f then some i else findD f n (i + 1)
noncomputable def fnOf (f : Str) : Option Nat := findD f 18 0
noncomputable def noDup : List Str → Bool
  | [] => true
  | x :: r => !(r.contains x) && noDup r
/-- a plain function -/
noncomputable def plainD (d : DefRec) : Bool := d.scope.kind == .function && !d.scope.isGenerator && !d.scope.isCoroutine && noDup (d.params.args.map (·.arg) ++ d.params.kwonlyargs.map (·.arg)) && d.scope.names.all (fun q => q.2 != .free) &&
  (d.params.args.map (·.arg) ++ d.params.kwonlyargs.map (·.arg)).all fun x => d.scope.names.lookup x == some .local || d.scope.names.lookup x == some .cell
noncomputable def bindA (d : DefRec) (args : List D) (kw : List (Str × D)) : Option Rho :=
  if d.params.args.length == args.length && d.params.kwonlyargs.map (·.arg) == kw.map (·.1) then some ((d.params.args.map (·.arg)).zip args ++ kw) else none

noncomputable def stepIter (k : Kit) (sc : Scope) (ρ : Rho) : Expr → Option (List D)
  | .Call (.Name f p) args [] q => if isGlob sc f && goodName f && f == Str.ofString "range" then (mapO (k.e sc ρ) args).bind rangeD else (k.e sc ρ (.Call (.Name f p) args [] q)).bind itemsD
  | e => (k.e sc ρ e).bind itemsD

noncomputable def dict2? : Expr → Option (Expr × Expr × Expr × Expr)
  | .Dict [some e1, some e2] [f1, f2] _ => some (e1, f1, e2, f2)
  | _ => none
noncomputable def strs2? : List Expr → Option (Str × Str)
  | [.Constant (.str a) _ _, .Constant (.str b) _ _] => some (a, b)
  | _ => none
noncomputable def name1? : List Expr → Option (Str × Pos)
  | [.Name y py] => some (y, py)
  | _ => none
noncomputable def name2? : List Expr → Option (Expr × Str × Pos)
  | [a, .Name y py] => some (a, y, py)
  | _ => none
noncomputable def slice? : Expr → Option (Option Expr × Option Expr × Option Expr)
  | .Slice lo hi st _ => some (lo, hi, st)
  | _ => none
noncomputable def gen? : List Comprehension → Option (Str × Expr × List Expr)
  | [⟨.Name x _, iter, ifs, 0⟩] => some (x, iter, ifs)
  | _ => none
noncomputable def isTwo : Expr → Option Bool
  | .Constant c _ _ => (match c with
    | .int i => if i == 2 then some true else none
    | _ => none)
  | _ => none
noncomputable def twoS : Option Expr → Option Bool
  | none => some false
  | some e => isTwo e
noncomputable def optE (k : Kit) (sc : Scope) (ρ : Rho) : Option Expr → Option (Option D)
  | none => some none
  | some e => (k.e sc ρ e).map some
noncomputable def subSl : Option D → Option (Option D) → Option (Option D) → Option Bool → Option D
  | some d, some l, some h, some two => (match natD l, natD h with
    | some l', some h' => sliceD d l' h' two
    | _, _ => none)
  | _, _, _, _ => none
noncomputable def get2E (k : Kit) (sc : Scope) (ρ : Rho) (e1 f1 e2 f2 : Expr) (m : Str) (ap p : Pos) : List Expr → Option D
  | [a, b] => if m == Str.ofString "get" && ap.endLine == p.line then (match k.e sc ρ e1, k.e sc ρ f1, k.e sc ρ e2, k.e sc ρ f2 with
    | some (.str k1), some v1, some (.str k2), some v2 => (match k.e sc ρ a, k.e sc ρ b with
      | some (.str x), some y => if k1 == k2 then none else some (if k1 == x then v1 else if k2 == x then v2 else y)
      | _, _ => none)
    | _, _, _, _ => none) else none
  | _ => none
noncomputable def replE (k : Kit) (sc : Scope) (ρ : Rho) (o : Expr) (m : Str) (ap p : Pos) (a b : Str) : Option D := if notCall o && ap.endLine == p.line && m == Str.ofString "replace" && a.cps.toList == [42, 42] && b.cps.toList == [42] then (match k.e sc ρ o with
    | some (.str x) => if pat2 x then some (.str (repS x)) else none
    | _ => none) else none
noncomputable def meth1E (k : Kit) (sc : Scope) (ρ : Rho) (o : Expr) (m : Str) (ap p : Pos) (y : Str) (py : Pos) : Option D := if notCall o && ap.endLine == p.line then (if m == Str.ofString "translate" && isGlob sc y && goodName y && y == Str.ofString "_special_chars_map" then (match k.e sc ρ o with
      | some (.str x) => if x.cps.toList == [97] || x.cps.toList == [98] then some (.str x) else none
      | _ => none)
    else (match k.e sc ρ o, k.e sc ρ (.Name y py) with
      | some d, some a => methD d m [a]
      | _, _ => none)) else none
noncomputable def methE (k : Kit) (sc : Scope) (ρ : Rho) (o : Expr) (m : Str) (ap p : Pos) (args : List Expr) : Option D := if notCall o && ap.endLine == p.line && decide (args.length ≤ 2) then (match k.e sc ρ o, mapO (k.e sc ρ) args with
    | some d, some as => methD d m as
    | _, _ => none) else none
noncomputable def fun2E (k : Kit) (sc : Scope) (ρ : Rho) (f : Str) (a : Expr) (y : Str) (py : Pos) : Option D := if isGlob sc f && goodName f && isGlob sc y && goodName y && f == Str.ofString "isinstance" && y == Str.ofString "str" then (match k.e sc ρ a with
      | some (.str _) => some (.bool true)
      | _ => none)
    else (match k.e sc ρ a, k.e sc ρ (.Name y py) with
      | some d, some b => if isGlob sc f && goodName f then k.c f [d, b] [] else none
      | _, _ => none)
noncomputable def funE (k : Kit) (sc : Scope) (ρ : Rho) (f : Str) (args : List Expr) (kws : List Keyword) : Option D := if isGlob sc f && goodName f then (match mapO (k.e sc ρ) args, mapO (fun q : Keyword => match q.arg with | some n => (k.e sc ρ q.value).map fun d => (n, d) | none => none) kws with
    | some as, some kw => if builtNames.contains f && kw.isEmpty then builtD f as else k.c f as kw
    | _, _ => none) else none
noncomputable def attrE (k : Kit) (sc : Scope) (ρ : Rho) (o : Expr) (m : Str) (ap p : Pos) (args : List Expr) : Option D := match dict2? o with
  | some (e1, f1, e2, f2) => get2E k sc ρ e1 f1 e2 f2 m ap p args
  | none => (match strs2? args with
    | some (a, b) => replE k sc ρ o m ap p a b
    | none => (match name1? args with
      | some (y, py) => meth1E k sc ρ o m ap p y py
      | none => methE k sc ρ o m ap p args))
noncomputable def boolE (k : Kit) (sc : Scope) (ρ : Rho) : BoolOp → List Expr → Option D
  | .And, [x, y] => (match k.e sc ρ x with
    | some a => (match truthD a with
      | some true => k.e sc ρ y
      | some false => some a
      | none => none)
    | none => none)
  | .And, [x, y, z] => (match k.e sc ρ x with
    | some a => (match truthD a with
      | some true => (match k.e sc ρ y with
        | some b => (match truthD b with
          | some true => k.e sc ρ z
          | some false => some b
          | none => none)
        | none => none)
      | some false => some a
      | none => none)
    | none => none)
  | .Or, [x, y] => (match k.e sc ρ x with
    | some a => (match truthD a with
      | some false => k.e sc ρ y
      | some true => some a
      | none => none)
    | none => none)
  | _, _ => none
noncomputable def cmp1E (k : Kit) (sc : Scope) (ρ : Rho) (l : Expr) : List CmpOp → List Expr → Option D
  | [op], [r] => if behindInMarks op r then none else (match k.e sc ρ l, k.e sc ρ r with
    | some a, some b => (cmpD op a b).map .bool
    | _, _ => none)
  | _, _ => none
noncomputable def stepE (k : Kit) (sc : Scope) (ρ : Rho) : Expr → Option D
  | .Constant c _ _ => (match c with
    | .none => some .none
    | .bool b => some (.bool b)
    | .int i => some (.int i)
    | .str x => some (.str x)
    | _ => none)
  | .Name x _ => if isVar sc x && goodName x then ρ.lookup x else if isGlob sc x && goodName x then
      (if x == Str.ofString "TOML_WS_AND_NEWLINE" then some .ws else if x == Str.ofString "ILLEGAL_LITERAL_STR_CHARS" || x == Str.ofString "ILLEGAL_COMMENT_CHARS" then some .ill else none) else none
  | .BinOp l op r _ => (match k.e sc ρ l, k.e sc ρ r with
    | some a, some b => binD op a b
    | _, _ => none)
  | .UnaryOp op x _ => (match op with
    | .Not => ((k.e sc ρ x).bind truthD).map fun b => .bool (!b)
    | .USub => (match k.e sc ρ x with
      | some (.int i) => some (.int (-i))
      | _ => none)
    | _ => none)
  | .Compare l ops rs _ => cmp1E k sc ρ l ops rs
  | .BoolOp op es _ => boolE k sc ρ op es
  | .IfExp c a b _ => (match k.t sc ρ c with
    | some true => k.e sc ρ a
    | some false => k.e sc ρ b
    | none => none)
  | .List es _ => if smallL es.length then (mapO (k.e sc ρ) es).map .lst else none
  | .Tuple es _ _ => if smallL es.length then (mapO (k.e sc ρ) es).map .tup else none
  | .Subscript v i _ => (match slice? i with
    | some (lo, hi, st) => subSl (k.e sc ρ v) (optE k sc ρ lo) (optE k sc ρ hi) (twoS st)
    | none => (match k.e sc ρ v, k.e sc ρ i with
      | some d, some j => getD d j
      | _, _ => none))
  | .Call f args kws p => (match f with
    | .Attribute o m ap => if kws.isEmpty then attrE k sc ρ o m ap p args else none
    | .Name f _ => (match name2? args, kws.isEmpty with
      | some (a, y, py), true => fun2E k sc ρ f a y py
      | _, _ => funE k sc ρ f args kws)
    | _ => none)
  | .ListComp elt gens csc _ => (match gen? gens with
    | some (x, iter, ifs) => (match stepIter k sc ρ iter with
      | some ds => if compOk csc sc x && smallL ds.length && (ρ.lookup dot0).isNone then (let sc' := relab csc sc
        (compO (fun d => allO (k.t sc' ((x, d) :: ρ)) ifs) (fun d => k.e sc' ((x, d) :: ρ) elt) ds).map .lst) else none
      | none => none)
    | none => none)
  | _ => none

noncomputable def stepT (k : Kit) (sc : Scope) (ρ : Rho) : Expr → Option Bool
  | .UnaryOp .Not x _ => (k.t sc ρ x).map (!·)
  | .BoolOp .And es _ => allO (k.t sc ρ) es
  | .BoolOp .Or es _ => anyO (k.t sc ρ) es
  | .IfExp c a b _ => (match k.t sc ρ c with
    | some true => k.t sc ρ a
    | some false => k.t sc ρ b
    | none => none)
  | .Compare l [op] [r] _ => if behindInMarks op r then none else (match k.e sc ρ l, k.e sc ρ r with
    | some a, some b => cmpD op a b
    | _, _ => none)
  | .Compare .. => none
  | e => (k.e sc ρ e).bind truthD

/-- a display whose stores are in a known order -/
noncomputable def swOk : Expr → Bool
  | .Tuple vs _ _ => !(vs.any fun | .Starred .. => true | _ => false) && !(vs.all (foldedForSure 8)) && !(vs.all (constantsAlone 8))
  | _ => true
noncomputable def tup2? : List Expr → Option (Str × Pos × Str × Pos)
  | [.Name x p, .Name y q] => some (x, p, y, q)
  | _ => none
noncomputable def asg1S (k : Kit) (sc : Scope) (ρ : Rho) (v : Expr) : Expr → Option (Rho × Fl)
  | .Name x _ => if isOwn sc x then (k.e sc ρ v).map fun d => ((x, d) :: ρ, .next) else none
  | .Tuple es _ _ => (match tup2? es with
    | some (x, _, y, _) => if isOwn sc x && isOwn sc y && !(x == y) && swOk v then (match k.e sc ρ v with
      | some (.tup [a, b]) => some ((y, b) :: (x, a) :: ρ, .next)
      | some (.lst [a, b]) => some ((y, b) :: (x, a) :: ρ, .next)
      | _ => none) else none
    | none => none)
  | _ => none
noncomputable def augS (k : Kit) (sc : Scope) (ρ : Rho) (v : Expr) : Expr → Option (Rho × Fl)
  | .Name x _ => if isOwn sc x && goodName x then (match ρ.lookup x, k.e sc ρ v with
    | some (.int a), some (.int b) => some ((x, .int (a + b)) :: ρ, .next)
    | _, _ => none) else none
  | _ => none
noncomputable def forS (k : Kit) (sc : Scope) (ρ : Rho) (it : Expr) (b : List Stmt) : Expr → Option (Rho × Fl)
  | .Name x _ => if isOwn sc x then (match stepIter k sc ρ it with
    | some ds => forL (fun ρ d => exL (k.s sc) ((x, d) :: ρ) b) ρ ds
    | none => none) else none
  | _ => none
noncomputable def stepS (k : Kit) (sc : Scope) (ρ : Rho) : Stmt → Option (Rho × Fl)
  | .Assign ts v _ => (match ts with
    | [t] => asg1S k sc ρ v t
    | _ => none)
  | .AugAssign t op v _ => (match op with
    | .Add => augS k sc ρ v t
    | _ => none)
  | .If c a b _ => (match k.t sc ρ c with
    | some true => exL (k.s sc) ρ a
    | some false => exL (k.s sc) ρ b
    | none => none)
  | .While c b els _ => if els.isEmpty then k.w sc ρ c b else none
  | .For t it b els _ => if els.isEmpty then forS k sc ρ it b t else none
  | .Try b hs els fin _ => if !hs.isEmpty && els.isEmpty && fin.isEmpty then exL (k.s sc) ρ b else none
  | .Return e _ => (match e with
    | some e => (k.e sc ρ e).map fun d => (ρ, .ret d)
    | none => none)
  | .Assert c _ _ => (match k.t sc ρ c with
    | some true => some (ρ, .next)
    | _ => none)
  | _ => none
noncomputable def stepW (k : Kit) (sc : Scope) (ρ : Rho) (c : Expr) (b : List Stmt) : Option (Rho × Fl) :=
  match k.t sc ρ c with
  | some true => (match exL (k.s sc) ρ b with
    | some (ρ', .next) => k.w sc ρ' c b
    | some (ρ', .ret d) => some (ρ', .ret d)
    | _ => none)
  | some false => some (ρ, .next)
  | none => none
noncomputable def stepC (g : Bool) (k : Kit) (f : Str) (args : List D) (kw : List (Str × D)) : Option D :=
  if specNames.contains f then (if kw.isEmpty && g then specC f args else none) else
  match fnOf f with
  | some i => let d := dAt i
    if !plainD d then none else (match bindA d args kw with
    | some ρ => (match exL (k.s d.scope) ρ d.body with
      | some (_, .ret r) => some r
      | some (_, .next) => some .none
      | _ => none)
    | none => none)
  | none => none

noncomputable def stepAll (g : Bool) (k : Kit) : Kit := ⟨stepE k, stepT k, stepS k, stepW k, stepC g k⟩
noncomputable def ev : Nat → Kit
  | 0 => ⟨fun _ _ _ => none, fun _ _ _ => none, fun _ _ _ => none, fun _ _ _ _ => none, fun _ _ _ => none⟩
  | n + 1 => stepAll (Nat.ble 20 n) (ev n)
end Mine
end
noncomputable section
open PySem PySem.W PyProof.Rows PySem.Challenge PySem.SeqAt
set_option maxRecDepth 100000
set_option linter.unusedVariables false
namespace Mine

theorem rep_both {h : Heap} {O : Addr → Prop} {M1 : D → Value → Prop} {M2 : List D → List Value → Prop} (n : M1 .none .none) (b : ∀ b, M1 (.bool b) (.bool b)) (i : ∀ i t, M1 (.int i) (.int i t)) (s : ∀ x t, M1 (.str x) (.str x t))
    (l : ∀ {a xs ds n}, h.get? a = some { cls := .type "list", data := .seq (List.toArray xs) n } → Reps h O ds xs → M2 ds xs → M1 (.lst ds) (.ref a))
    (t : ∀ {a xs ds n}, h.get? a = some { cls := .type "tuple", data := .seq (List.toArray xs) n } → Reps h O ds xs → M2 ds xs → M1 (.tup ds) (.ref a))
    (w : M1 .ws (.ref 62)) (j : M1 .ill (.ref 53)) (v : ∀ v, M1 (.val v) v) (z : M2 [] []) (c : ∀ {d v ds vs}, M1 d v → M2 ds vs → M2 (d :: ds) (v :: vs)) :
    (∀ {d v}, Rep h O d v → M1 d v) ∧ ∀ {ds vs}, Reps h O ds vs → M2 ds vs :=
  ⟨fun r => Rep.rec (motive_1 := fun d v _ => M1 d v) (motive_2 := fun ds vs _ => M2 ds vs) n b i s (fun ho _ hs ih => l ho hs ih) (fun ho _ hs ih => t ho hs ih) w j v z (fun _ _ x y => c x y) r,
   fun r => Reps.rec (motive_1 := fun d v _ => M1 d v) (motive_2 := fun ds vs _ => M2 ds vs) n b i s (fun ho _ hs ih => l ho hs ih) (fun ho _ hs ih => t ho hs ih) w j v z (fun _ _ x y => c x y) r⟩
theorem reads_both {h : Heap} {O : Addr → Prop} : (∀ {d : D} {v : Value}, Rep h O d v → noSet d = true → ∃ as, Reads h v (py d) as) ∧ ∀ {ds : List D} {vs : List Value}, Reps h O ds vs → noSets ds = true → ∃ as, ReadsAll h vs (pys ds) as :=
  rep_both (fun _ => ⟨_, .none⟩) (fun b _ => ⟨_, .bool b⟩) (fun i t _ => ⟨_, .int i t⟩) (fun x t _ => ⟨_, .str x t⟩) (fun ho _ ih e => (ih e).elim fun as r => ⟨_, .list ho rfl rfl r⟩) (fun ho _ ih e => (ih e).elim fun as r => ⟨_, .tuple ho rfl rfl r⟩)
    (fun e => absurd e Bool.false_ne_true) (fun e => absurd e Bool.false_ne_true) (fun v e => absurd e Bool.false_ne_true) (fun _ => ⟨_, .nil⟩)
    fun i1 i2 e => (i1 (Bool.and_eq_true_iff.mp e).1).elim fun as r => (i2 (Bool.and_eq_true_iff.mp e).2).elim fun bs q => ⟨_, .cons r q⟩
theorem Rep.reads {h : Heap} {O : Addr → Prop} {d : D} {v : Value} (r : Rep h O d v) (e : noSet d = true) : ∃ as, Reads h v (py d) as := reads_both.1 r e
theorem Reps.reads {h : Heap} {O : Addr → Prop} {ds : List D} {vs : List Value} (r : Reps h O ds vs) (e : noSets ds = true) : ∃ as, ReadsAll h vs (pys ds) as := reads_both.2 r e

theorem krefl (s : Shared) : Keeps s s := ⟨s.heap, s.toks, rfl, fun _ _ e => e⟩
theorem ktoks (s : Shared) (tk : Nat) : Keeps s { s with toks := tk } := ⟨s.heap, tk, rfl, fun _ _ e => e⟩
theorem kpush (s : Shared) (o : Obj) (tk : Nat) : Keeps s { s with heap := s.heap.push o, toks := tk } := ⟨_, tk, rfl, fun _ _ e => Heap.get?_push_of_some _ e⟩
theorem ktrans {a b c : Shared} (x : Keeps a b) (y : Keeps b c) : Keeps a c := by
  obtain ⟨h, t, rfl, k⟩ := x
  obtain ⟨h', t', rfl, k'⟩ := y
  exact ⟨h', t', rfl, fun b o e => k' b o (k b o e)⟩
theorem kheap {a b : Shared} (x : Keeps a b) : KeepsH a.heap b.heap := by obtain ⟨h, t, rfl, k⟩ := x; exact k

noncomputable abbrev No : Value → Shared → Prop := fun _ _ => False

theorem no_mono {M : Model} {A : Around} {α : Type} {t : Sem α} {Q Q' : α → Shared → Prop} {E : Value → Shared → Prop} {s : Shared} (h : wpAny M A t Q No s) (hq : ∀ a s', Q a s' → Q' a s') : wpAny M A t Q' E s :=
  wpAny_mono h hq fun _ _ f => f.elim

section
variable {prog : Program} {w : World} {A : Around} {s : Shared} {O : Addr → Prop} {d : D} {v : Value}

theorem smallL_le {n : Nat} (h : smallL n = true) : n ≤ 100000 := of_decide_eq_true h
theorem smallI_le {n : Int} (h : smallI n = true) : -1000000 ≤ n ∧ n ≤ 1000000 := by simpa [smallI] using h
theorem line_big : 1000000 ≤ sizeLine := by decide

theorem truth_ {b : Bool} {E : Value → Shared → Prop} (ht : truthD d = some b) (r : Rep s.heap O d v) : wpAny (model prog w) A (truthy v) (fun b' s' => b' = b ∧ Keeps s s') E s := by
  cases r with
  | none => obtain rfl : false = b := Option.some.inj ht
            exact truthy_none ⟨rfl, krefl _⟩
  | bool c => obtain rfl : c = b := Option.some.inj ht
              exact wpAny_truthy_bool ⟨rfl, krefl _⟩
  | int i t => obtain rfl : (i != 0) = b := Option.some.inj ht
               exact P.truthy_int ⟨rfl, krefl _⟩
  | str x t =>
    delta truthD at ht
    dsimp only at ht
    split at ht
    · rename_i hl
      have hl := smallL_le hl
      refine P.truthy_str (by show ¬ ((x.cps.size : Int) ≥ _); lia) ⟨?_, ktoks _ _⟩
      rw [← Option.some.inj ht]
      show ((x.cps.size : Int) != 0) = !(x.cps.size == 0)
      cases hx : x.cps.size <;> simp
      lia
    · cases ht
  | lst ho _ hs =>
    delta truthD at ht
    dsimp only at ht
    split at ht
    · rename_i hl
      have hl := smallL_le hl
      refine wpAny_truthy_list ⟨_, ho, rfl, _, rfl⟩ (by rw [List.size_toArray, hs.length]; lia) ⟨?_, ktoks _ _⟩
      rw [← Option.some.inj ht]
      cases hs <;> simp
    · cases ht
  | tup ho _ hs => exact none_some ht
  | ws => exact none_some ht
  | ill => exact none_some ht
  | val v => exact none_some ht

theorem rep_str {h : Heap} {O : Addr → Prop} {x : Str} {v : Value} (r : Rep h O (.str x) v) : ∃ t, v = .str x t := by cases r; exact ⟨_, rfl⟩
theorem rep_int {h : Heap} {O : Addr → Prop} {x : Int} {v : Value} (r : Rep h O (.int x) v) : ∃ t, v = .int x t := by cases r; exact ⟨_, rfl⟩
theorem rep_bool {h : Heap} {O : Addr → Prop} {x : Bool} {v : Value} (r : Rep h O (.bool x) v) : v = .bool x := by cases r; rfl
theorem rep_none {h : Heap} {O : Addr → Prop} {v : Value} (r : Rep h O .none v) : v = .none := by cases r; rfl
theorem rep_lst {h : Heap} {O : Addr → Prop} {l : List D} {v : Value} (r : Rep h O (.lst l) v) : ∃ a xs n, v = .ref a ∧ h.get? a = some { cls := .type "list", data := .seq xs.toArray n } ∧ Reps h O l xs := by cases r with | lst ho _ hs => exact ⟨_, _, _, rfl, ho, hs⟩
theorem rep_tup {h : Heap} {O : Addr → Prop} {l : List D} {v : Value} (r : Rep h O (.tup l) v) : ∃ a xs n, v = .ref a ∧ h.get? a = some { cls := .type "tuple", data := .seq xs.toArray n } ∧ Reps h O l xs := by cases r with | tup ho _ hs => exact ⟨_, _, _, rfl, ho, hs⟩

theorem okD_and {d : D} (h : okD d = true) : noSet d = true ∧ shaped (py d) = true := Bool.and_eq_true_iff.mp h

/-- the looks of a comparison -/
noncomputable abbrev Says (r : Bool) (s : Shared) : Value → Shared → Prop := fun val s' => val = .bool r ∧ Keeps s s'

theorem eq_ {b : D} {vb : Value} {r : Bool} {E : Value → Shared → Prop} (hd : eqD d b = some r) (ra : Rep s.heap O d v) (rb : Rep s.heap O b vb) (hu : A.units + 80 < cLine) :
    wpAny (model prog w) A (compareOp .Eq v vb) (Says r s) E s := by
  unfold eqD at hd
  split at hd
  · rename_i hok
    rw [Bool.and_eq_true] at hok
    obtain ⟨as, ra⟩ := ra.reads (okD_and hok.1).1
    obtain ⟨bs, rb⟩ := rb.reads (okD_and hok.2).1
    exact eq_dataH ra rb (okD_and hok.1).2 (okD_and hok.2).2 (by lia) ⟨congrArg Value.bool (Option.some.inj hd), krefl _⟩
  · cases hd
theorem ne_ {b : D} {vb : Value} {r : Bool} {E : Value → Shared → Prop} (hd : eqD d b = some r) (ra : Rep s.heap O d v) (rb : Rep s.heap O b vb) (hu : A.units + 80 < cLine) :
    wpAny (model prog w) A (compareOp .NotEq v vb) (Says (!r) s) E s := by
  unfold eqD at hd
  split at hd
  · rename_i hok
    rw [Bool.and_eq_true] at hok
    obtain ⟨as, ra⟩ := ra.reads (okD_and hok.1).1
    obtain ⟨bs, rb⟩ := rb.reads (okD_and hok.2).1
    exact ne_dataH ra rb (okD_and hok.1).2 (okD_and hok.2).2 (by lia) ⟨congrArg Value.bool (by rw [← Option.some.inj hd]), krefl _⟩
  · cases hd

theorem mem_room {l : List D} (h1 : okD d = true) (hu : A.units + 80 < cLine) : A.units + 1 + min (PyData.depthAll (pys l)) (py d).depth < cLine := by
  have := depth_of_shaped (okD_and h1).2
  lia
theorem in_ {l : List D} {vl : Value} {r : Bool} {E : Value → Shared → Prop} (hd : memD d l = some r) (ra : Rep s.heap O d v) (rl : Rep s.heap O (.lst l) vl) (hu : A.units + 80 < cLine) :
    wpAny (model prog w) A (compareOp .In v vl) (Says r s) E s := by
  unfold memD at hd
  split at hd
  · rename_i hok
    rw [Bool.and_eq_true] at hok
    obtain ⟨as, ra⟩ := ra.reads (okD_and hok.1).1
    obtain ⟨bs, rl⟩ := rl.reads (okD_and hok.2).1
    exact in_list_reads rl ra (canLay_of_shaped (okD_and hok.2).2) (canLay_of_shaped (okD_and hok.1).2) (mem_room hok.1 hu) ⟨congrArg Value.bool (Option.some.inj hd), krefl _⟩
  · cases hd
theorem notIn_ {l : List D} {vl : Value} {r : Bool} {E : Value → Shared → Prop} (hd : memD d l = some r) (ra : Rep s.heap O d v) (rl : Rep s.heap O (.lst l) vl) (hu : A.units + 80 < cLine) :
    wpAny (model prog w) A (compareOp .NotIn v vl) (Says (!r) s) E s := by
  unfold memD at hd
  split at hd
  · rename_i hok
    rw [Bool.and_eq_true] at hok
    obtain ⟨as, ra⟩ := ra.reads (okD_and hok.1).1
    obtain ⟨bs, rl⟩ := rl.reads (okD_and hok.2).1
    exact notIn_list_reads rl ra (canLay_of_shaped (okD_and hok.2).2) (canLay_of_shaped (okD_and hok.1).2) (mem_room hok.1 hu) ⟨congrArg Value.bool (by rw [← Option.some.inj hd]), krefl _⟩
  · cases hd
end
end Mine
end
noncomputable section
open PySem PySem.W PyProof.Rows PySem.Challenge PySem.SeqAt
set_option maxRecDepth 100000
set_option linter.unusedVariables false
namespace Mine

section
variable {prog : Program} {w : World} {A : Around} {s : Shared} {O : Addr → Prop} {E : Value → Shared → Prop}

theorem add_lsts {l b : Addr} {vs ws : List Value} {n n2 : Nat} {Q : Value → Shared → Prop} (ho : s.heap.get? l = some { cls := .type "list", data := .seq vs.toArray n }) (ho2 : s.heap.get? b = some { cls := .type "list", data := .seq ws.toArray n2 })
    (h : Q (.ref s.heap.objs.size) { s with heap := s.heap.push { cls := .type "list", data := .seq (vs ++ ws).toArray } }) (hsz : vs.length + ws.length ≤ sizeLine) :
    wpAny (model prog w) A (binaryOp .Add (.ref l) (.ref b)) Q E s := by
  have e : vs.toArray ++ ws.toArray = (vs ++ ws).toArray := by simp
  refine concat_meets ⟨_, ho, rfl⟩ ⟨_, ho2, rfl⟩ noFill_list_add seq_list_add PySem.F.slot_list_add PySem.F.entry_list_add (PySem.F.args_list_add_2 _ _) (list_addW l b vs.toArray ws.toArray n n2 none none #[] #[] (by simpa using hsz)) ⟨ho, ho2, ?_⟩
  rw [e]; exact h

/-- the owned addresses are taken -/
noncomputable def OB (O : Addr → Prop) (h : Heap) : Prop := ∀ a, O a → ∃ o, h.get? a = some o
theorem OB.keeps {O : Addr → Prop} {h h' : Heap} (x : OB O h) (hk : KeepsH h h') : OB O h' := fun a q => let ⟨o, e⟩ := x a q; ⟨o, hk a o e⟩
theorem OB.new {O : Addr → Prop} {h : Heap} (x : OB O h) {a : Addr} (ha : h.objs.size ≤ a) : ¬ O a := fun q => by
  obtain ⟨o, e⟩ := x a q
  exact Nat.lt_irrefl _ (Nat.lt_of_lt_of_le (Heap.lt_size e) ha)

noncomputable abbrev Gives' (O : Addr → Prop) (d : D) (s : Shared) : Value → Shared → Prop := fun val s' => Rep s'.heap O d val ∧ Keeps s s'

theorem rep_new {h : Heap} {l : List D} {xs : List Value} (hO : OB O h) (hs : Reps h O l xs) (n : Nat) : Rep (h.push { cls := .type "list", data := .seq xs.toArray n }) O (.lst l) (.ref h.objs.size) :=
  .lst (Heap.get?_push_size _ rfl) (hO.new (Nat.le_refl _)) (hs.keeps fun _ _ e => Heap.get?_push_of_some _ e)
theorem rep_newT {h : Heap} {l : List D} {xs : List Value} (hO : OB O h) (hs : Reps h O l xs) (n : Nat) : Rep (h.push { cls := .type "tuple", data := .seq xs.toArray n }) O (.tup l) (.ref h.objs.size) :=
  .tup (Heap.get?_push_size _ rfl) (hO.new (Nat.le_refl _)) (hs.keeps fun _ _ e => Heap.get?_push_of_some _ e)

/-- what the operations ask of the room -/
structure Air (prog : Program) (w : World) (A : Around) (s : Shared) : Prop where
  units : A.units + 80 < cLine
  pylong : PylongRoom (model prog w) A s

theorem bits_small {a : Int} (h : smallI a = true) : Builtin.Int.intBits a ≤ 64 := by
  have h := smallI_le h
  exact PySem.intBits_le_64 (by lia) (by lia)
theorem div_small {b : Int} (h : ¬ ((b == 0) || !smallI b) = true) : b.natAbs < 1073741824 := by
  simp at h
  have h := smallI_le h.2
  lia
noncomputable def cat : Nat → List Value → List Value
  | 0, _ => []
  | n + 1, l => l ++ cat n l
theorem reps_rep {h : Heap} {l : List D} {xs : List Value} (r : Reps h O l xs) : ∀ n, Reps h O (repL n l) (cat n xs)
  | 0 => .nil
  | n + 1 => r.append (reps_rep r n)
theorem foldl_cat (xs : List Value) : ∀ (n : Nat) (acc : Array Value), List.foldl (fun x1 x2 => x1 ++ x2) acc (List.replicate n xs.toArray) = acc ++ (cat n xs).toArray
  | 0, acc => by simp [cat]
  | n + 1, acc => by
    rw [List.replicate_succ, List.foldl_cons, foldl_cat xs n, cat]
    simp
theorem cat_nil : ∀ n, cat n [] = []
  | 0 => rfl
  | n + 1 => by rw [cat, cat_nil n]; rfl

theorem mul_lst {la : List D} {bb : Int} {x : Addr} {xs : List Value} {n : Nat} {u : Tok} (hl : (smallL (la.length * bb.toNat) && smallI bb) = true) (h1 : s.heap.get? x = some { cls := .type "list", data := .seq xs.toArray n }) (r1 : Reps s.heap O la xs) (hO : OB O s.heap) :
    wpAny (model prog w) A (binaryOp .Mult (.ref x) (.int bb u)) (Gives' O (.lst (repL bb.toNat la)) s) E s := by
  rw [Bool.and_eq_true] at hl
  have h2 := smallL_le hl.1
  rw [← r1.length, ← List.size_toArray] at h2
  have h3 := smallI_le hl.2
  refine wpAny_binaryOp_repeat_ref (T := "list") (U := "int") (by decide) ⟨_, h1, rfl⟩ (fun s' => typeIs_int s' _ u) noFill_list_mul F.fills_int_mul F.slot_int_rmul repeat_list F.slot_int_index.lookup
    (call_meets F.slot_int_rmul (typeIs_int s _ u) F.entry_int_rmul (F.args_int_rmul_2 _ _) (int___rmul___int_list _ u x xs.toArray n)
      ⟨h1, rfl, ⟨_, h1, rfl⟩, call_meets F.slot_list_mul ⟨_, h1, rfl⟩ F.entry_list_mul (F.args_list_mul_2 _ _)
        (AutoListH.list___mul___list_int_3 x xs.toArray n _ u (by simp [Builtin.List.listFitsIndex]; lia) (by lia) (by have := line_big; unfold Builtin.List.listTooLong; simp only [decide_eq_true_eq, gt_iff_lt]; lia))
        ⟨h1, ?_, kpush _ _ _⟩⟩)
  have e : List.foldl (fun x1 x2 => x1 ++ x2) #[] (List.replicate (if xs.toArray.isEmpty = true then 0 else bb.toNat) xs.toArray) = (cat bb.toNat xs).toArray := by
    split
    · rename_i he
      have : xs = [] := by simpa using he
      subst this; simp [cat_nil]
    · rw [foldl_cat]; simp
  rw [e]
  exact rep_new hO (reps_rep r1 _) 0

theorem bin_ {op : Operator} {a b d : D} {va vb : Value} (hd : binD op a b = some d) (ra : Rep s.heap O a va) (rb : Rep s.heap O b vb) (hO : OB O s.heap) :
    wpAny (model prog w) A (binaryOp op va vb) (Gives' O d s) E s := by
  cases op with
  | Add =>
    cases a with
    | int a =>
      cases b with
      | int b =>
        obtain ⟨t, rfl⟩ := rep_int ra; obtain ⟨u, rfl⟩ := rep_int rb
        obtain rfl := Option.some.inj (hd : some (D.int (a + b)) = some d)
        exact P.add_int ⟨.int _ _, ktoks _ _⟩
      | _ => exact none_some hd
    | str a =>
      cases b with
      | str b =>
        obtain ⟨t, rfl⟩ := rep_str ra; obtain ⟨u, rfl⟩ := rep_str rb
        obtain ⟨hl, rfl⟩ := if_some (hd : (if smallL (a.cps.toList.length + b.cps.toList.length) then some (D.str (a ++ b)) else none) = some d)
        exact PyProof.Rows.add_str (fun _ _ => ⟨.str _ _, ktoks _ _⟩) (by have := smallL_le hl; have := line_big; simp only [Str.length, Array.length_toList] at *; lia)
      | _ => exact none_some hd
    | lst a =>
      cases b with
      | lst b =>
        obtain ⟨x, xs, n, rfl, h1, r1⟩ := rep_lst ra; obtain ⟨y, ys, m, rfl, h2, r2⟩ := rep_lst rb
        obtain ⟨hl, rfl⟩ := if_some (hd : (if smallL (a.length + b.length) then some (D.lst (a ++ b)) else none) = some d)
        exact add_lsts h1 h2 ⟨rep_new hO (r1.append r2) 0, kpush _ _ _⟩ (by have := smallL_le hl; have := line_big; rw [r1.length, r2.length]; lia)
      | _ => exact none_some hd
    | _ => exact none_some hd
  | Sub =>
    cases a with
    | int a =>
      cases b with
      | int b =>
        obtain ⟨t, rfl⟩ := rep_int ra; obtain ⟨u, rfl⟩ := rep_int rb
        obtain rfl := Option.some.inj (hd : some (D.int (a - b)) = some d)
        exact P.sub_int ⟨.int _ _, ktoks _ _⟩
      | _ => exact none_some hd
    | bool p =>
      cases b with
      | bool q =>
        obtain rfl := rep_bool ra; obtain rfl := rep_bool rb
        obtain rfl := Option.some.inj (hd : some (D.int ((if p then 1 else 0) - (if q then 1 else 0))) = some d)
        exact PyProof.Rows.sub_bool (by cases p <;> cases q <;> exact ⟨.int _ _, ktoks _ _⟩)
      | _ => exact none_some hd
    | _ => exact none_some hd
  | Mult =>
    cases a with
    | int a =>
      cases b with
      | int b =>
        obtain ⟨t, rfl⟩ := rep_int ra; obtain ⟨u, rfl⟩ := rep_int rb
        obtain ⟨hl, rfl⟩ := if_some (hd : (if smallI a then some (D.int (a * b)) else none) = some d)
        exact P.mul_int ⟨.int _ _, ktoks _ _⟩ (.of_left (bits_small hl))
      | _ => exact none_some hd
    | lst la =>
      cases b with
      | int bb =>
        obtain ⟨x, xs, n, rfl, h1, r1⟩ := rep_lst ra; obtain ⟨u, rfl⟩ := rep_int rb
        obtain ⟨hl, rfl⟩ := if_some (hd : (if smallL (la.length * bb.toNat) && smallI bb then some (D.lst (repL bb.toNat la)) else none) = some d)
        exact mul_lst hl h1 r1 hO
      | _ => exact none_some hd
    | _ => exact none_some hd
  | FloorDiv =>
    cases a with
    | int a =>
      cases b with
      | int b =>
        obtain ⟨t, rfl⟩ := rep_int ra; obtain ⟨u, rfl⟩ := rep_int rb
        obtain ⟨hb, rfl⟩ := if_none (hd : (if b == 0 || !smallI b then none else some (D.int (a.fdiv b))) = some d)
        exact PyProof.Rows.floordiv_int (by simp at hb; exact hb.1) ⟨.int _ _, ktoks _ _⟩ (.inl (PyProof.noPylong_small (div_small hb)))
      | _ => exact none_some hd
    | _ => exact none_some hd
  | Mod =>
    cases a with
    | int a =>
      cases b with
      | int b =>
        obtain ⟨t, rfl⟩ := rep_int ra; obtain ⟨u, rfl⟩ := rep_int rb
        obtain ⟨hb, rfl⟩ := if_none (hd : (if b == 0 then none else some (D.int (a.fmod b))) = some d)
        exact PyProof.Rows.mod_int' (by simpa using hb) ⟨.int _ _, ktoks _ _⟩
      | _ => exact none_some hd
    | _ => exact none_some hd
  | _ => exact none_some hd
end
end Mine
end
noncomputable section
open PySem PySem.W PyProof.Rows PySem.Challenge PySem.SeqAt
set_option maxRecDepth 100000
set_option linter.unusedVariables false
namespace Mine

section
variable {prog : Program} {w : World} {A : Around} {s : Shared} {O : Addr → Prop} {E : Value → Shared → Prop}

theorem sub_tail {value slice : Expr} {o i : Value} {T id : String} {Q : Value → Shared → Prop} (hT : s.TypeIs o T) (hl : typeLookup (.type T) "__getitem__" = pure (some (.builtin id)))
    (h : wpAny (model prog w) A (getItem o i) Q E s) : wpAny (model prog w) A (subscriptTail value slice o i) Q E s := by
  unfold subscriptTail
  refine wpAny_bind ?_
  rw [getitemInPython_of_ne hT.not_modules]
  refine wpAny_bind (wpAny_specialOf hT hl ?_)
  have fin : wpAny (model prog w) A (subscripted slice false o i) (fun r s₃ => wpAny (model prog w) A (letTemporaryGo value o r >>= fun _ => pure r) Q E s₃) E s := by
    have t : ∀ ops, wpAny (model prog w) A (operate ops (getItem o i)) (fun r s₃ => wpAny (model prog w) A (letTemporaryGo value o r >>= fun _ => pure r) Q E s₃) E s :=
      fun ops => wpAny_operating (wpAny_mono h (fun r s₃ h₃ => wpAny_bind (wpAny_letTemporaryGo (wpAny_pure h₃))) fun _ _ x => x)
    cases slice with
    | Slice a b c d => cases c <;> exact t _
    | _ => exact t _
  first
    | exact wpAny_pure (wpAny_bind fin)
    | exact wpAny_bind (wpAny_pure (wpAny_bind fin))
    | exact wpAny_bind fin

theorem idxOf_lt {n j : Nat} {i : Int} (h : idxOf n i = some j) : (0 ≤ i ∧ j = i.toNat) ∨ (i < 0 ∧ -(n : Int) ≤ i ∧ j = (i + n).toNat) := by
  unfold idxOf at h
  split at h
  · exact .inl ⟨by assumption, (Option.some.inj h).symm⟩
  · split at h
    · exact .inr ⟨by lia, by lia, (Option.some.inj h).symm⟩
    · cases h

theorem get_ {value slice : Expr} {a i d : D} {va vi : Value} (hd : getD a i = some d) (ra : Rep s.heap O a va) (ri : Rep s.heap O i vi) :
    wpAny (model prog w) A (subscriptTail value slice va vi) (Gives' O d s) E s := by
  cases a with
  | lst l => cases i with
    | int k =>
      obtain ⟨x, xs, n, rfl, h1, r1⟩ := rep_lst ra; obtain ⟨u, rfl⟩ := rep_int ri
      obtain ⟨hk, hd⟩ := if_then (hd : (if smallI k then (idxOf l.length k).bind (l[·]?) else none) = some d)
      have hk := smallI_le hk
      obtain ⟨j, hj, hd⟩ := Option.bind_eq_some_iff.mp hd
      obtain ⟨v, hv, rv⟩ := r1.get j d hd
      have hv' : xs.toArray[j]? = some v := by simpa using hv
      have hL : s.heap.IsList x xs.toArray := ⟨_, h1, rfl, _, rfl⟩
      refine sub_tail ⟨_, h1, rfl⟩ list_getitem_lookup ?_
      rcases idxOf_lt hj with ⟨h0, rfl⟩ | ⟨h0, h2, rfl⟩
      · exact wpAny_getItem_list hL h0 (by lia) hv' ⟨rv, krefl _⟩
      · have e : (xs.toArray.size : Int) = l.length := by rw [List.size_toArray, r1.length]
        exact wpAny_getItem_list_neg hL h0 (by rw [e]; exact h2) (by lia) (by rw [e]; exact hv') ⟨rv, krefl _⟩
    | _ => exact none_some hd
  | str x => cases i with
    | int k =>
      obtain ⟨t, rfl⟩ := rep_str ra; obtain ⟨u, rfl⟩ := rep_int ri
      obtain ⟨hk, hd⟩ := if_then (hd : (if smallI k then (idxOf x.cps.size k).bind fun j => (x.cps[j]?).map fun c => D.str (Str.mk #[c]) else none) = some d)
      have hk := smallI_le hk
      obtain ⟨j, hj, hd⟩ := Option.bind_eq_some_iff.mp hd
      obtain ⟨c, hc, rfl⟩ := Option.map_eq_some_iff.mp hd
      refine sub_tail (typeIs_str _ _ _) F.slot_str_getitem.lookup (P.getItem_str (c := c) (by simp only [Bool.or_eq_false_iff, decide_eq_false_iff_not]; lia) ?_ ⟨.str _ _, ktoks _ _⟩)
      have hlt : j < x.cps.size := (Array.getElem?_eq_some_iff.mp hc).1
      have : seqIndex? k x.length = some j := by
        rcases idxOf_lt hj with ⟨h0, rfl⟩ | ⟨h0, h2, rfl⟩
        · unfold seqIndex?
          have : x.length = x.cps.size := rfl
          have h0' : ¬ k < 0 := by lia
          simp only [h0', if_false]
          rw [if_pos (by simp only [Bool.and_eq_true, decide_eq_true_eq]; lia)]
        · exact seqIndex_neg h0 h2
      rw [this]; exact hc
    | _ => exact none_some hd
  | _ => exact none_some hd

noncomputable abbrev part (o : Option Nat) : Option Int := o.map fun n => (n : Int)

theorem cut_pick {α : Type} (l : List α) (lo hi : Option Nat) : cutL lo hi l = (l.drop (kms_lo (part lo) l.length)).take (kms_hi (part hi) l.length - kms_lo (part lo) l.length) := by
  have e1 : kms_lo (part lo) l.length = min (lo.getD 0) l.length := by
    cases lo with
    | none => show 0 = _; simp
    | some a => show (if (a : Int) < 0 then l.length - (-(a : Int)).toNat else min (a : Int).toNat l.length) = _; rw [if_neg (by lia)]; simp
  have e2 : kms_hi (part hi) l.length = (match hi with | none => l.length | some b => min b l.length) := by
    cases hi with
    | none => rfl
    | some a => show (if (a : Int) < 0 then l.length - (-(a : Int)).toNat else min (a : Int).toNat l.length) = _; rw [if_neg (by lia)]; simp
  rw [e1, e2, kmk_drop_min]; unfold cutL
  cases hi with
  | none =>
    dsimp only
    rw [List.take_of_length_le]
    rw [List.length_drop]; lia
  | some b =>
    dsimp only
    rw [List.drop_take]
    by_cases hb : b ≤ l.length
    · by_cases ha : lo.getD 0 ≤ l.length
      · rw [Nat.min_eq_left hb, Nat.min_eq_left ha]
      · rw [List.drop_eq_nil_of_le (by lia)]; simp
    · rw [List.take_of_length_le (by rw [List.length_drop]; lia), List.take_of_length_le (by rw [List.length_drop]; lia)]
theorem Reps.drop' {h : Heap} {O : Addr → Prop} {ds : List D} {vs : List Value} (r : Reps h O ds vs) : ∀ n, Reps h O (ds.drop n) (vs.drop n) :=
  r.ind (P := fun ds vs => ∀ n, Reps h O (ds.drop n) (vs.drop n)) (fun n => by cases n <;> exact .nil) fun hd hs ih n => by
    cases n with
    | zero => exact .cons hd hs
    | succ n => exact ih n
theorem Reps.take' {h : Heap} {O : Addr → Prop} {ds : List D} {vs : List Value} (r : Reps h O ds vs) : ∀ n, Reps h O (ds.take n) (vs.take n) :=
  r.ind (P := fun ds vs => ∀ n, Reps h O (ds.take n) (vs.take n)) (fun n => by cases n <;> exact .nil) fun hd hs ih n => by
    cases n with
    | zero => exact .nil
    | succ n => exact .cons hd (ih n)
theorem Reps.cut {h : Heap} {O : Addr → Prop} {ds : List D} {vs : List Value} (r : Reps h O ds vs) (lo hi : Option Nat) : Reps h O (cutL lo hi ds) (cutL lo hi vs) := by
  unfold cutL
  cases hi with
  | none => exact r.drop' _
  | some b => exact (r.take' b).drop' _

theorem slice_ {value slice : Expr} {d r : D} {v vl vu : Value} {lo hi : Option Nat} (hd : sliceD d lo hi false = some r) (ra : Rep s.heap O d v) (pl : IsPart vl (part lo)) (pu : IsPart vu (part hi)) (hO : OB O s.heap) :
    wpAny (model prog w) A (subscriptTail value slice v (.ref s.heap.objs.size)) (Gives' O r s) E { s with heap := s.heap.push { cls := .type "slice", data := .fields #[vl, vu, .none] } } := by
  cases d with
  | lst l =>
      obtain ⟨x, xs, n, rfl, h1, r1⟩ := rep_lst ra
      obtain ⟨hl, rfl⟩ := if_some (hd : (if smallL l.length then some (D.lst (cutL lo hi l)) else none) = some r)
      have hl := smallL_le hl
      have lb := line_big
      have hL : Heap.IsList { s with heap := s.heap.push { cls := .type "slice", data := .fields #[vl, vu, .none] } }.heap x xs.toArray := ⟨_, Heap.get?_push_of_some _ h1, rfl, _, rfl⟩
      refine sub_tail ⟨_, Heap.get?_push_of_some _ h1, rfl⟩ list_getitem_lookup (wpAny_getItem_list_slice hL (Heap.IsSliceOf.new ..) pl pu .none (by simp) ⟨?_, ?_⟩ (by rw [List.size_toArray, r1.length]; lia))
      · rw [kms_pick_eq]
        have e : kms_pick xs.toArray.toList (part lo) (part hi) = cutL lo hi xs := (cut_pick xs lo hi).symm
        rw [e]
        exact rep_new (hO.keeps fun _ _ e => Heap.get?_push_of_some _ e) ((r1.cut lo hi).keeps fun _ _ e => Heap.get?_push_of_some _ e) 0
      · exact ⟨_, s.toks, rfl, fun _ _ e => Heap.get?_push_of_some _ (Heap.get?_push_of_some _ e)⟩
  | str x =>
      obtain ⟨t, rfl⟩ := rep_str ra
      obtain ⟨hl, rfl⟩ := if_some (hd : (if smallL x.cps.size && (lo.isSome || hi.isSome) && decide (lo.getD 0 ≤ hi.getD x.cps.size) && decide (hi.getD x.cps.size ≤ x.cps.size) then some (D.str ⟨(cutL lo hi x.cps.toList).toArray⟩) else none) = some r)
      simp only [Bool.and_eq_true, decide_eq_true_eq] at hl
      obtain ⟨⟨⟨hl, h1⟩, h2⟩, h3⟩ := hl
      have hl := smallL_le hl
      have lb := line_big
      have hk : KeptH (KeepsH s.heap) := fun h ob p b o e => Heap.get?_push_of_some _ (p b o e)
      have fin : ∀ y : Str, y = ⟨(cutL lo hi x.cps.toList).toArray⟩ → ∀ h' t' k, KeepsH s.heap h' → Gives' O (.str ⟨(cutL lo hi x.cps.toList).toArray⟩) s (.str y t') { s with heap := h', toks := k } := by
        rintro y rfl h' t' k p
        exact ⟨.str _ _, ⟨h', k, rfl, p⟩⟩
      have go : ∀ {i}, ItemOn (model prog w) A E (.str x t) i (Gives' O (.str ⟨(cutL lo hi x.cps.toList).toArray⟩) s) { s with heap := s.heap.push { cls := .type "slice", data := .fields #[vl, vu, .none] } } →
          wpAny (model prog w) A (subscriptTail value slice (.str x t) i) (Gives' O (.str ⟨(cutL lo hi x.cps.toList).toArray⟩) s) E { s with heap := s.heap.push { cls := .type "slice", data := .fields #[vl, vu, .none] } } :=
        fun ⟨T, id, a, b, c⟩ => sub_tail b a c
      have hsz : x.length ≤ sizeLine := by show x.cps.size ≤ _; lia
      have eq : ∀ {y z : Str}, (y == z) = true → y = z := fun h => beq_iff_eq.mp h
      cases lo with
      | none => cases hi with
        | none => simp at h1
        | some b =>
          cases pl; cases pu
          refine go (SBH.sliceItem_ns hk (fun _ _ e => e) (fin _ ?_) hsz)
          refine (eq (slice_closes_to (j := (b : Int)) ⟨by lia, by simp at h3 ⊢; lia⟩)).trans ?_
          simp [cutL]
      | some a => cases hi with
        | none =>
          cases pl; cases pu
          refine go (SBH.sliceItem_sn hk (fun _ _ e => e) (fin _ ?_) hsz)
          refine (eq (slice_closes_from (i := (a : Int)) ⟨by lia, by simp at h2 ⊢; lia⟩)).trans ?_
          simp only [Option.getD_some, Option.getD_none] at h2
          simp only [cutL, Option.getD_some, Int.toNat_natCast]
          rw [List.take_of_length_le (by rw [List.length_drop]; simp)]
        | some b =>
          cases pl; cases pu
          refine go (SBH.sliceItem_ss hk (fun _ _ e => e) (fin _ ?_) hsz)
          simp only [Option.getD_some] at h2 h3
          refine (eq (slice_closes (i := (a : Int)) (j := (b : Int)) ⟨by lia, by lia, by simp; lia⟩)).trans ?_
          simp only [cutL, Option.getD_some, Int.toNat_natCast]
          rw [List.drop_take]
          congr 3
          lia
  | _ => exact none_some hd
end
end Mine
end
noncomputable section
open PySem PySem.W PyProof.Rows PySem.Challenge PySem.SeqAt
set_option maxRecDepth 100000
set_option linter.unusedVariables false
namespace Mine

section
variable {prog : Program} {w : World} {A : Around} {s : Shared} {O : Addr → Prop} {E : Value → Shared → Prop}

theorem pick2 {xs : List Value} (h : xs.length ≤ 4) {lo : Option Nat} (hl : lo = none ∨ lo = some 1) : slicePick xs.toArray (part lo) none (some 2) = (alt2 (cutL lo none xs)).toArray := by
  rcases xs with _ | ⟨a, _ | ⟨b, _ | ⟨c, _ | ⟨d, _ | ⟨e, l⟩⟩⟩⟩⟩
  · rcases hl with rfl | rfl <;> with_unfolding_all rfl
  · rcases hl with rfl | rfl <;> with_unfolding_all rfl
  · rcases hl with rfl | rfl <;> with_unfolding_all rfl
  · rcases hl with rfl | rfl <;> with_unfolding_all rfl
  · rcases hl with rfl | rfl <;> with_unfolding_all rfl
  · exact absurd h (by simp only [List.length_cons]; lia)

theorem Reps.alt {h : Heap} {O : Addr → Prop} {ds : List D} {vs : List Value} (r : Reps h O ds vs) : Reps h O (alt2 ds) (alt2 vs) :=
  (r.ind (P := fun ds vs => Reps h O (alt2 ds) (alt2 vs) ∧ ∀ {d v}, Rep h O d v → Reps h O (alt2 (d :: ds)) (alt2 (v :: vs))) ⟨.nil, fun q => .cons q .nil⟩ fun hd _ ih => ⟨ih.2 hd, fun q => .cons q ih.1⟩).1

theorem slice2_lst {d r : D} {lo hi : Option Nat} (hd : sliceD d lo hi true = some r) : ∃ l, d = .lst l ∧ (decide (l.length ≤ 4) && hi.isNone && (lo.isNone || lo == some 1)) = true ∧ D.lst (alt2 (cutL lo hi l)) = r := by
  cases d with
  | lst l => exact ⟨l, rfl, if_some (hd : (if decide (l.length ≤ 4) && hi.isNone && (lo.isNone || lo == some 1) then some (D.lst (alt2 (cutL lo hi l))) else none) = some r)⟩
  | _ => exact none_some hd
theorem slice2_none {d r : D} {lo hi : Option Nat} (hd : sliceD d lo hi true = some r) : hi = none := by
  obtain ⟨l, _, hl, _⟩ := slice2_lst hd
  simp only [Bool.and_eq_true] at hl
  simpa using hl.1.2
theorem slice2_ {value slice : Expr} {d r : D} {v vl : Value} {lo hi : Option Nat} {t : Tok} {k : Nat} (hd : sliceD d lo hi true = some r) (ra : Rep s.heap O d v) (pl : IsPart vl (part lo)) (hO : OB O s.heap) :
    wpAny (model prog w) A (subscriptTail value slice v (.ref s.heap.objs.size)) (Gives' O r s) E { s with heap := s.heap.push { cls := .type "slice", data := .fields #[vl, .none, .int 2 t] }, toks := k } := by
  obtain ⟨l, rfl, hl, rfl⟩ := slice2_lst hd
  obtain ⟨x, xs, n, rfl, h1, r1⟩ := rep_lst ra
  simp only [Bool.and_eq_true, decide_eq_true_eq, Bool.or_eq_true] at hl
  obtain ⟨⟨hl, h2⟩, h3⟩ := hl
  have h2 : hi = none := by simpa using h2
  have h3 : lo = none ∨ lo = some 1 := by simpa using h3
  subst h2
  have lb := line_big
  have hL : Heap.IsList { s with heap := s.heap.push { cls := .type "slice", data := .fields #[vl, .none, .int 2 t] }, toks := k }.heap x xs.toArray := ⟨_, Heap.get?_push_of_some _ h1, rfl, _, rfl⟩
  refine sub_tail ⟨_, Heap.get?_push_of_some _ h1, rfl⟩ list_getitem_lookup (wpAny_getItem_list_slice hL (Heap.IsSliceOf.new ..) pl .none (.int 2 t) (by simp) ⟨?_, ?_⟩ (by rw [List.size_toArray, r1.length]; lia))
  · rw [pick2 (by rw [r1.length]; exact hl) h3]
    exact rep_new (hO.keeps fun _ _ e => Heap.get?_push_of_some _ e) ((r1.cut lo none).alt.keeps fun _ _ e => Heap.get?_push_of_some _ e) 0
  · exact ⟨_, k, rfl, fun _ _ e => Heap.get?_push_of_some _ (Heap.get?_push_of_some _ e)⟩

theorem not_ {d : D} {v : Value} {b : Bool} (hd : truthD d = some b) (ra : Rep s.heap O d v) : wpAny (model prog w) A (unaryOp .Not v) (Gives' O (.bool !b) s) E s :=
  not_value (wpAny_mono (truth_ (E := E) hd ra) (fun b' s' ⟨e, k⟩ => ⟨e ▸ .bool _, k⟩) fun _ _ x => x)
theorem neg_ {i : Int} {v : Value} (ra : Rep s.heap O (.int i) v) : wpAny (model prog w) A (unaryOp .USub v) (Gives' O (.int (-i)) s) E s := by
  obtain ⟨t, rfl⟩ := rep_int ra
  exact P.neg_int ⟨.int _ _, ktoks _ _⟩

theorem is_none_ {d : D} {v : Value} (hr : ¬ isRaw d = true) (ra : Rep s.heap O d v) : (v == Value.none) = isNoneD d := by
  cases ra with
  | val v => exact (hr rfl).elim
  | _ => rfl

/-- the white space's set answers -/
noncomputable def WsOK (prog : Program) (w : World) (h : Heap) : Prop := ∀ (A : Around) (s : Shared) (E : Value → Shared → Prop) (c : Str) (t : Tok), KeepsH h s.heap → c.cps.toList.length = 1 →
  wpAny (model prog w) A (compareOp .In (.str c t) (.ref 62)) (Says (SWs c) s) E s

theorem rep_ws {h : Heap} {O : Addr → Prop} {v : Value} (r : Rep h O .ws v) : v = .ref 62 := by cases r; rfl
theorem ord_ {a b : D} {r : Bool} (hd : cmpD .Lt a b = some r) : (∃ x y, a = .int x ∧ b = .int y) ∨ ∃ x y, a = .str x ∧ b = .str y := by
  cases a with
  | int x => cases b with
    | int y => exact .inl ⟨x, y, rfl, rfl⟩
    | _ => exact none_some hd
  | str x => cases b with
    | str y => exact .inr ⟨x, y, rfl, rfl⟩
    | _ => exact none_some hd
  | _ => exact none_some hd
theorem ordG_ {a b : D} {r : Bool} (hd : cmpD .Gt a b = some r) : (∃ x y, a = .int x ∧ b = .int y) ∨ ∃ x y, a = .str x ∧ b = .str y := by
  cases a with
  | int x => cases b with
    | int y => exact .inl ⟨x, y, rfl, rfl⟩
    | _ => exact none_some hd
  | str x => cases b with
    | str y => exact .inr ⟨x, y, rfl, rfl⟩
    | _ => exact none_some hd
  | _ => exact none_some hd
theorem inD_ {a b : D} {r : Bool} (hd : cmpD .In a b = some r) : (∃ c, a = .str c ∧ b = .ws ∧ c.cps.toList.length = 1 ∧ SWs c = r) ∨ ∃ l, b = .lst l ∧ memD a l = some r := by
  cases b with
  | lst l => exact .inr ⟨l, rfl, hd⟩
  | ws => cases a with
    | str c =>
      obtain ⟨h1, h2⟩ := if_some (hd : (if c.cps.toList.length == 1 then some (SWs c) else none) = some r)
      exact .inl ⟨c, rfl, rfl, beq_iff_eq.mp h1, h2⟩
    | _ => exact none_some hd
  | _ => exact none_some hd
theorem cmp_ {op : CmpOp} {a b : D} {va vb : Value} {r : Bool} (hd : cmpD op a b = some r) (ra : Rep s.heap O a va) (rb : Rep s.heap O b vb) (hu : A.units + 80 < cLine) (hw : WsOK prog w s.heap) :
    wpAny (model prog w) A (compareOp op va vb) (Says r s) E s := by
  cases op with
  | Eq => exact eq_ hd ra rb hu
  | NotEq =>
    obtain ⟨q, hq, rfl⟩ := Option.map_eq_some_iff.mp hd
    exact ne_ hq ra rb hu
  | Lt => rcases ord_ hd with ⟨x, y, rfl, rfl⟩ | ⟨x, y, rfl, rfl⟩
          · obtain ⟨t, rfl⟩ := rep_int ra; obtain ⟨u, rfl⟩ := rep_int rb
            exact Option.some.inj hd ▸ P.lt_int ⟨rfl, krefl _⟩
          · obtain ⟨t, rfl⟩ := rep_str ra; obtain ⟨u, rfl⟩ := rep_str rb
            exact Option.some.inj hd ▸ P.lt_str ⟨rfl, krefl _⟩
  | Gt => rcases ordG_ hd with ⟨x, y, rfl, rfl⟩ | ⟨x, y, rfl, rfl⟩
          · obtain ⟨t, rfl⟩ := rep_int ra; obtain ⟨u, rfl⟩ := rep_int rb
            exact Option.some.inj hd ▸ P.gt_int ⟨rfl, krefl _⟩
          · obtain ⟨t, rfl⟩ := rep_str ra; obtain ⟨u, rfl⟩ := rep_str rb
            exact Option.some.inj hd ▸ P.gt_str ⟨rfl, krefl _⟩
  | GtE => cases a with
    | int a => cases b with
      | int b =>
        obtain ⟨t, rfl⟩ := rep_int ra; obtain ⟨u, rfl⟩ := rep_int rb
        exact Option.some.inj hd ▸ P.ge_int ⟨rfl, krefl _⟩
      | _ => exact none_some hd
    | _ => exact none_some hd
  | LtE => cases a with
    | int a => cases b with
      | int b =>
        obtain ⟨t, rfl⟩ := rep_int ra; obtain ⟨u, rfl⟩ := rep_int rb
        exact Option.some.inj hd ▸ P.le_int ⟨rfl, krefl _⟩
      | _ => exact none_some hd
    | _ => exact none_some hd
  | In =>
    rcases inD_ hd with ⟨c, rfl, rfl, hl, rfl⟩ | ⟨l, rfl, hm⟩
    · obtain ⟨t, rfl⟩ := rep_str ra
      obtain rfl := rep_ws rb
      exact hw A s E _ t (fun _ _ e => e) hl
    · exact in_ hm ra rb hu
  | NotIn => cases b with
    | lst l =>
      obtain ⟨q, hq, rfl⟩ := Option.map_eq_some_iff.mp (hd : (memD a l).map (!·) = some r)
      exact notIn_ hq ra rb hu
    | _ => exact none_some hd
  | Is => cases b with
    | none =>
      obtain rfl := rep_none rb
      obtain ⟨hr, e⟩ := if_none (hd : (if isRaw a then none else some (isNoneD a)) = some r)
      exact is_none ⟨congrArg Value.bool ((is_none_ hr ra).trans e), krefl _⟩
    | _ => exact none_some hd
  | IsNot => cases b with
    | none =>
      obtain rfl := rep_none rb
      obtain ⟨hr, e⟩ := if_none (hd : (if isRaw a then none else some (!isNoneD a)) = some r)
      exact isNot_none ⟨congrArg Value.bool (by rw [is_none_ hr ra]; exact e), krefl _⟩
    | _ => exact none_some hd
end
end Mine
end
noncomputable section
open PySem PySem.W PyProof.Rows PySem.Challenge PySem.SeqAt
set_option maxRecDepth 100000
set_option linter.unusedVariables false
namespace Mine

/-- the heap is kept, and a token was made before -/
noncomputable def Kp (s s' : Shared) : Prop := Keeps s s' ∧ (0 < s.toks → 0 < s'.toks)
theorem kpr (s : Shared) : Kp s s := ⟨krefl s, id⟩
theorem kpt (s : Shared) : Kp s { s with toks := s.toks + 1 } := ⟨ktoks _ _, fun _ => Nat.succ_pos _⟩
theorem kpp (s : Shared) (o : Obj) : Kp s { s with heap := s.heap.push o } := ⟨kpush s o s.toks, id⟩
theorem kpx {a b c : Shared} (x : Kp a b) (y : Kp b c) : Kp a c := ⟨ktrans x.1 y.1, fun h => y.2 (x.2 h)⟩
theorem kph {a b : Shared} (x : Kp a b) : KeepsH a.heap b.heap := kheap x.1
theorem kpm {s : Shared} {h : Heap} {tk : Nat} (hk : KeepsH s.heap h) (ht : 0 < s.toks → 0 < tk) : Kp s { s with heap := h, toks := tk } := ⟨⟨h, tk, rfl, hk⟩, ht⟩

noncomputable abbrev Gv (O : Addr → Prop) (d : D) (s : Shared) : Value → Shared → Prop := fun val s' => Rep s'.heap O d val ∧ Kp s s'
noncomputable abbrev Sv (r : Bool) (s : Shared) : Value → Shared → Prop := fun val s' => val = .bool r ∧ Kp s s'

section
variable {M : Model} {prog : Program} {w : World} {A : Around} {s : Shared} {O : Addr → Prop} {d : D} {v : Value} {E : Value → Shared → Prop}

theorem toks_ {α : Type} {t : Sem α} {Q : α → Shared → Prop} (h : wpAny M A t Q E s) : wpAny M A t (fun a s' => Q a s' ∧ (0 < s.toks → 0 < s'.toks)) E s :=
  wpAny_mono (wpAny_toks_of (n := s.toks) (Nat.le_refl _) h) (fun a s' ⟨x, y⟩ => ⟨y, fun q => Nat.lt_of_lt_of_le q x⟩) fun _ _ x => x.2
theorem upP {α : Type} {t : Sem α} {P : α → Shared → Prop} {s0 : Shared} (h0 : 0 < s0.toks → 0 < s.toks) (h : wpAny M A t (fun a s' => P a s' ∧ Keeps s0 s') E s) : wpAny M A t (fun a s' => P a s' ∧ Kp s0 s') E s :=
  wpAny_mono (toks_ h) (fun a s' ⟨x, y⟩ => ⟨x.1, x.2, fun q => y (h0 q)⟩) fun _ _ x => x

theorem truthK {b : Bool} (ht : truthD d = some b) (r : Rep s.heap O d v) : wpAny (model prog w) A (truthy v) (fun b' s' => b' = b ∧ Kp s s') E s := upP id (truth_ ht r)
theorem binK {op : Operator} {a b d : D} {va vb : Value} (hd : binD op a b = some d) (ra : Rep s.heap O a va) (rb : Rep s.heap O b vb) (hO : OB O s.heap) :
    wpAny (model prog w) A (binaryOp op va vb) (Gv O d s) E s := upP id (bin_ hd ra rb hO)
theorem getK {value slice : Expr} {a i d : D} {va vi : Value} (hd : getD a i = some d) (ra : Rep s.heap O a va) (ri : Rep s.heap O i vi) :
    wpAny (model prog w) A (subscriptTail value slice va vi) (Gv O d s) E s := upP id (get_ hd ra ri)
theorem sliceK {value slice : Expr} {d r : D} {v vl vu : Value} {lo hi : Option Nat} (hd : sliceD d lo hi false = some r) (ra : Rep s.heap O d v) (pl : IsPart vl (part lo)) (pu : IsPart vu (part hi)) (hO : OB O s.heap) :
    wpAny (model prog w) A (subscriptTail value slice v (.ref s.heap.objs.size)) (Gv O r s) E { s with heap := s.heap.push { cls := .type "slice", data := .fields #[vl, vu, .none] } } := upP id (slice_ hd ra pl pu hO)
theorem slice2K {value slice : Expr} {d r : D} {v vl : Value} {lo hi : Option Nat} {t : Tok} {k : Nat} (hk : 0 < s.toks → 0 < k) (hd : sliceD d lo hi true = some r) (ra : Rep s.heap O d v) (pl : IsPart vl (part lo)) (hO : OB O s.heap) :
    wpAny (model prog w) A (subscriptTail value slice v (.ref s.heap.objs.size)) (Gv O r s) E { s with heap := s.heap.push { cls := .type "slice", data := .fields #[vl, .none, .int 2 t] }, toks := k } := upP hk (slice2_ hd ra pl hO)
theorem notK {d : D} {v : Value} {b : Bool} (hd : truthD d = some b) (ra : Rep s.heap O d v) : wpAny (model prog w) A (unaryOp .Not v) (Gv O (.bool !b) s) E s := upP id (not_ hd ra)
theorem negK {i : Int} {v : Value} (ra : Rep s.heap O (.int i) v) : wpAny (model prog w) A (unaryOp .USub v) (Gv O (.int (-i)) s) E s := upP id (neg_ ra)
theorem cmpK {op : CmpOp} {a b : D} {va vb : Value} {r : Bool} (hd : cmpD op a b = some r) (ra : Rep s.heap O a va) (rb : Rep s.heap O b vb) (hu : A.units + 80 < cLine) (hw : WsOK prog w s.heap) :
    wpAny (model prog w) A (compareOp op va vb) (Sv r s) E s := upP id (cmp_ hd ra rb hu hw)

/-- a walk's step, with the token told -/
theorem walk_item {I : Addr} {fp wr : List Addr} {n : Nat} {P : Nat → Value → Prop} {St : Nat → Heap → Prop} (W : Walks prog w A I fp wr n P St) (i : Nat) {Q : Option Value → Shared → Prop} (hi : i < n) (st : St i s.heap)
    (h : ∀ v h' tk, P i v → St (i + 1) h' → (∀ b o, b ∉ wr → s.heap.get? b = some o → h'.get? b = some o) → (0 < s.toks → 0 < tk) → Q (some v) { s with heap := h', toks := tk }) : wpAny (model prog w) A (pyNext (.ref I)) Q E s :=
  wpAny_mono (toks_ (W.item i s (fun r s' => ∃ v h' tk, r = some v ∧ s' = { s with heap := h', toks := tk } ∧ P i v ∧ St (i + 1) h' ∧ (∀ b o, b ∉ wr → s.heap.get? b = some o → h'.get? b = some o)) E hi st fun v h' tk a b c => ⟨v, h', tk, rfl, rfl, a, b, c⟩))
    (fun r s' hz => by obtain ⟨⟨v, h', tk, e1, e2, a, b, c⟩, t⟩ := hz; subst e1; subst e2; exact h v h' tk a b c t) fun _ _ x => x
theorem walk_done {I : Addr} {fp wr : List Addr} {n : Nat} {P : Nat → Value → Prop} {St : Nat → Heap → Prop} (W : Walks prog w A I fp wr n P St) {Q : Option Value → Shared → Prop} (st : St n s.heap)
    (h : ∀ h' tk, (∀ b o, b ∉ wr → s.heap.get? b = some o → h'.get? b = some o) → (0 < s.toks → 0 < tk) → Q none { s with heap := h', toks := tk }) : wpAny (model prog w) A (pyNext (.ref I)) Q E s :=
  wpAny_mono (toks_ (W.done s (fun r s' => ∃ h' tk, r = none ∧ s' = { s with heap := h', toks := tk } ∧ (∀ b o, b ∉ wr → s.heap.get? b = some o → h'.get? b = some o)) E st fun h' tk c => ⟨h', tk, rfl, rfl, c⟩))
    (fun r s' hz => by obtain ⟨⟨h', tk, e1, e2, c⟩, t⟩ := hz; subst e1; subst e2; exact h h' tk c t) fun _ _ x => x

theorem storeK {hs : Heap} {mine : Str → Prop} {env : Env} {ρ : Str → Option D} {x : Str} {val : Value} {Q : Unit → Shared → Prop} {v : World} (X : ER hs O mine env ρ s.heap) (hx : mine x) (hr : Rep s.heap O d val)
    (h : ∀ h' tk, ER hs O mine env (upd1 ρ x d) h' → h'.objs.size = s.heap.objs.size → (∀ b o, b ≠ env.locals → (∀ y, mine y → env.cells.lookup y ≠ some b) → s.heap.get? b = some o → h'.get? b = some o) → (0 < s.toks → 0 < tk) → Q () { s with heap := h', toks := tk }) :
    wpAny (model pw_rt0017_01 v) A (storeName env x val) Q E s :=
  wpAny_mono (toks_ (storeVar (Q := fun _ s' => ∃ h' tk, s' = { s with heap := h', toks := tk } ∧ ER hs O mine env (upd1 ρ x d) h' ∧ h'.objs.size = s.heap.objs.size ∧ (∀ b o, b ≠ env.locals → (∀ y, mine y → env.cells.lookup y ≠ some b) → s.heap.get? b = some o → h'.get? b = some o)) X hx hr
    fun h' tk a b c => ⟨h', tk, rfl, a, b, c⟩)) (fun _ s' hz => by obtain ⟨⟨h', tk, e, a, b, c⟩, t⟩ := hz; subst e; exact h h' tk a b c t) fun _ _ x => x
end
end Mine
end
noncomputable section
open PySem PySem.W PyProof.Rows PySem.Challenge PySem.SeqAt
set_option maxRecDepth 100000
set_option linter.unusedVariables false
namespace Mine

structure Room (n : Nat) (A : Around) : Prop where
  hd : A.handled = none
  depth : A.depth + n + 10 < recursionLimit
  units : A.units + 3 * n + 200 < cLine
theorem Room.pred {n : Nat} {A : Around} (r : Room (n + 1) A) : Room n A := ⟨r.hd, by have := r.depth; lia, by have := r.units; lia⟩
theorem Room.deeper {n : Nat} {A : Around} (r : Room (n + 1) A) (env : Env) : Room n (A.deeper env) :=
  ⟨r.hd, by have := r.depth; show A.depth + 1 + n + 10 < _; lia, by have := r.units; show A.units + 3 + 3 * n + 200 < _; lia⟩

structure Bs (v : World) (mean : ExcName → Option Value) (mg mb : Str → Option Value) (h : Heap) : Prop where
  T : Top qv (looseW qv looseL) mean mg mb h
  X : XPm v mg h

theorem XPm.keeps {v : World} {mg : Str → Option Value} {h h' : Heap} (X : XPm v mg h) (hk : KeepsH h h') : XPm v mg h' where
  lit := X.lit
  com := X.com
  ws := X.ws
  sp := X.sp
  ill := let ⟨es, n, t, a, b⟩ := X.ill; ⟨es, n, t, hk _ _ a, b⟩
  white := let ⟨es, n, t, a, b⟩ := X.white; ⟨es, n, t, hk _ _ a, b⟩
  special := by
    have := X.special
    cases e : h.get? 124 with
    | none => rw [e] at this; exact absurd this (by unfold isSpecial; simp)
    | some o => rw [e] at this; rw [hk _ _ e]; exact this

theorem Bs.keeps {v mean mg mb} {h h' : Heap} (X : Bs v mean mg mb h) (hk : KeepsH h h') : Bs v mean mg mb h' := ⟨X.T.keeps hk, X.X.keeps hk⟩

structure Cx (v : World) (mean : ExcName → Option Value) (mg mb : Str → Option Value) (n : Nat) (A : Around) (hs : Heap) (O : Addr → Prop) (mine : Str → Prop) (env : Env) (sc : Scope) (ρ : Rho) (s : Shared) : Prop where
  room : Room n A
  bs0 : Bs v mean mg mb hs
  er : ER hs O mine env (fun x => ρ.lookup x) s.heap
  scp : env.scope = sc
  ob : OB O s.heap
  tk : 0 < s.toks
theorem Cx.bs {v mean mg mb n A hs O mine env sc ρ} {s : Shared} (X : Cx v mean mg mb n A hs O mine env sc ρ s) : Bs v mean mg mb s.heap := X.bs0.keeps X.er.keep
theorem Cx.keeps {v mean mg mb n A hs O mine env sc ρ} {s s' : Shared} (X : Cx v mean mg mb n A hs O mine env sc ρ s) (hk : Kp s s') : Cx v mean mg mb n A hs O mine env sc ρ s' := ⟨X.room, X.bs0, X.er.keeps (kph hk), X.scp, X.ob.keeps (kph hk), hk.2 X.tk⟩
theorem Cx.pred {v mean mg mb n A hs O mine env sc ρ} {s : Shared} (X : Cx v mean mg mb (n + 1) A hs O mine env sc ρ s) : Cx v mean mg mb n A hs O mine env sc ρ s := ⟨X.room.pred, X.bs0, X.er, X.scp, X.ob, X.tk⟩

noncomputable abbrev pwm (v : World) : Model := model pw_rt0017_01 v

/-- what the evaluator tells of expressions holds -/
structure SoundE (v : World) (mean : ExcName → Option Value) (mg mb : Str → Option Value) (n : Nat) (k : Kit) : Prop where
  star : ∀ sc ρ x p, k.e sc ρ (.Starred x p) = none
  set : ∀ sc ρ x n p, k.e sc ρ (.Set x n p) = none
  e : ∀ {sc ρ x d}, k.e sc ρ x = some d → ∀ {A hs O mine env} {s : Shared}, Cx v mean mg mb n A hs O mine env sc ρ s → wpAny (pwm v) A (eval x env) (Gv O d s) No s
  t : ∀ {sc ρ x r}, k.t sc ρ x = some r → ∀ {A hs O mine env} {s : Shared}, Cx v mean mg mb n A hs O mine env sc ρ s → wpAny (pwm v) A (isTrue x env (eval x env)) (fun b s' => b = r ∧ Kp s s') No s
  cn : ∀ {f args kw d h}, k.c f args kw = some d → Bs v mean mg mb h → ∃ a o fd, mg f = some (.ref a) ∧ h.get? a = some o ∧ o.data = .func fd
  c : ∀ {f args kw d}, k.c f args kw = some d → ∀ {A O vals kws a} {s : Shared}, mg f = some (.ref a) → Room n A → Bs v mean mg mb s.heap → 0 < s.toks → OB O s.heap → Reps s.heap O args vals → kws.map Prod.fst = kw.map Prod.fst → Reps s.heap O (kw.map Prod.snd) (kws.map Prod.snd) →
    wpAny (pwm v) A (call (.ref a) vals kws) (Gv O d s) No s

section
variable {v : World} {mean : ExcName → Option Value} {mg mb : Str → Option Value} {n : Nat} {k : Kit} {A : Around} {hs : Heap} {O : Addr → Prop} {mine : Str → Prop} {env : Env} {sc : Scope} {ρ : Rho} {s : Shared} {d : D}

theorem isV_of (h : isVar sc x = true) (he : env.scope = sc) : IsV (env.kindOf x) := by
  subst he
  unfold isVar at h
  simp only [Bool.or_eq_true, beq_iff_eq] at h
  rcases h with (h | h) | h
  · exact .inl h
  · exact .inr (.inl h)
  · exact .inr (.inr h)

theorem var_ {x : Str} {pos : Pos} (C : Cx v mean mg mb n A hs O mine env sc ρ s) (hv : isVar sc x = true) (hg : goodName x = true) (hd : ρ.lookup x = some d) : wpAny (pwm v) A (eval (.Name x pos) env) (Gv O d s) No s := by
  obtain ⟨val, hvar, hr⟩ := C.er.vars x d hd (isV_of hv C.scp)
  unfold goodName at hg
  simp only [Bool.and_eq_true, Bool.not_eq_true'] at hg
  exact wpAny_Name (loadVar C.er hvar ⟨hr, kpr _⟩ hg.2) hg.1

theorem glob_ {x : Str} {pos : Pos} {val : Value} {Q : Value → Shared → Prop} (C : Cx v mean mg mb n A hs O mine env sc ρ s) (hv : isGlob sc x = true) (hg : goodName x = true) (hm : mg x = some val) (h : Q val s) :
    wpAny (pwm v) A (eval (.Name x pos) env) Q No s := by
  unfold goodName at hg
  simp only [Bool.and_eq_true, Bool.not_eq_true'] at hg
  have hk : env.kindOf x = some .globalImplicit := by
    have := C.scp; subst this
    exact beq_iff_eq.mp hv
  exact Calls.Name_function_global C.er.kind hk (Calls.loadGlobal_global (by rw [C.er.glob]; exact C.bs.T.g) hm h) hg.1
theorem builtin_ {x : Str} {pos : Pos} {val : Value} {Q : Value → Shared → Prop} (C : Cx v mean mg mb n A hs O mine env sc ρ s) (hv : isGlob sc x = true) (hg : goodName x = true) (hm : mg x = none) (hb : mb x = some val) (h : Q val s) :
    wpAny (pwm v) A (eval (.Name x pos) env) Q No s := by
  unfold goodName at hg
  simp only [Bool.and_eq_true, Bool.not_eq_true'] at hg
  have hk : env.kindOf x = some .globalImplicit := by
    have := C.scp; subst this
    exact beq_iff_eq.mp hv
  exact Calls.Name_function_global C.er.kind hk (Calls.loadGlobal_builtin (by rw [C.er.glob]; exact C.bs.T.g) hm (by rw [C.er.blt]; exact C.bs.T.b) hb h) hg.1

theorem args_ (K : SoundE v mean mg mb n k) {pos : Pos} : ∀ {es : List Expr} {ds : List D} {s : Shared}, mapO (k.e sc ρ) es = some ds → Cx v mean mg mb n A hs O mine env sc ρ s →
    wpAny (pwm v) A (spliced (backTo pos (starEach es env))) (fun vs s' => Reps s'.heap O ds vs ∧ Kp s s') No s
  | [], ds, s, h, C => by cases h; exact args_nil ⟨.nil, kpr _⟩
  | e :: r, ds, s, h, C => by
    unfold mapO at h
    split at h
    · rename_i d hd
      obtain ⟨ds', hr, rfl⟩ := Option.map_eq_some_iff.mp h
      have he : starEach (e :: r) env = (false, eval e env) :: starEach r env := by
        cases e with
        | Starred x p => rw [K.star] at hd; cases hd
        | _ => rfl
      exact args_cons (wpAny_mono (K.e hd C) (fun val s₁ ⟨r1, k1⟩ => wpAny_mono (args_ K hr (C.keeps k1)) (fun vs s₂ ⟨r2, k2⟩ => ⟨.cons (r1.keeps (kph k2)) r2, kpx k1 k2⟩) fun _ _ x => x) fun _ _ x => x) he
    · cases h

theorem starEach_plain (K : SoundE v mean mg mb n k) : ∀ {es : List Expr} {ds : List D}, mapO (k.e sc ρ) es = some ds → (backTo pos (starEach es env)).all (fun x => !x.1) = true
  | [], _, _ => rfl
  | e :: r, ds, h => by
    unfold mapO at h
    split at h
    · rename_i d hd
      obtain ⟨ds', hr, rfl⟩ := Option.map_eq_some_iff.mp h
      have he : starEach (e :: r) env = (false, eval e env) :: starEach r env := by
        cases e with
        | Starred x p => rw [K.star] at hd; cases hd
        | _ => rfl
      rw [he]
      exact starEach_plain K hr
    · cases h
end
end Mine
end
noncomputable section
open PySem PySem.W PyProof.Rows PySem.Challenge PySem.SeqAt
set_option maxRecDepth 100000
set_option linter.unusedVariables false
namespace Mine

section
variable {v : World} {mean : ExcName → Option Value} {mg mb : Str → Option Value} {n : Nat} {k : Kit} {A : Around} {hs : Heap} {O : Addr → Prop} {mine : Str → Prop} {env : Env} {sc : Scope} {ρ : Rho} {s : Shared} {d : D}

theorem mapO_len {α β : Type} {f : α → Option β} : ∀ {l : List α} {r : List β}, mapO f l = some r → r.length = l.length
  | [], _, h => by cases h; rfl
  | x :: t, r, h => by
    unfold mapO at h
    split at h
    · obtain ⟨r', hr, rfl⟩ := Option.map_eq_some_iff.mp h
      rw [List.length_cons, List.length_cons, mapO_len hr]
    · cases h

/-- two expressions one behind the other -/
theorem two_ (K : SoundE v mean mg mb n k) {x y : Expr} {a b : D} {Q : Value → Shared → Prop} {f : Value → Value → Sem Value} (hx : k.e sc ρ x = some a) (hy : k.e sc ρ y = some b) (C : Cx v mean mg mb n A hs O mine env sc ρ s)
    (h : ∀ va vb s₂, Rep s₂.heap O a va → Rep s₂.heap O b vb → Kp s s₂ → wpAny (pwm v) A (f va vb) Q No s₂) :
    wpAny (pwm v) A (eval x env) (fun va s₁ => wpAny (pwm v) A (eval y env) (fun vb s₂ => wpAny (pwm v) A (f va vb) Q No s₂) No s₁) No s :=
  wpAny_mono (K.e hx C) (fun va s₁ ⟨r1, k1⟩ => wpAny_mono (K.e hy (C.keeps k1)) (fun vb s₂ ⟨r2, k2⟩ => h va vb s₂ (r1.keeps (kph k2)) r2 (kpx k1 k2)) fun _ _ x => x) fun _ _ x => x

theorem gives_keeps {O : Addr → Prop} {d : D} {s s₂ : Shared} (hk : Kp s s₂) {val : Value} {s₃ : Shared} (h : Gv O d s₂ val s₃) : Gv O d s val s₃ := ⟨h.1, kpx hk h.2⟩

noncomputable def WsAll (v : World) (mg : Str → Option Value) : Prop := ∀ h, XPm v mg h → WsOK pw_rt0017_01 v h

theorem cmp_of {op : CmpOp} {a b : D} {va vb : Value} {r : Bool} {h : Heap} (W : WsAll v mg) (hd : cmpD op a b = some r) (C : Cx v mean mg mb n A hs O mine env sc ρ s) (ra : Rep s.heap O a va) (rb : Rep s.heap O b vb) :
    wpAny (pwm v) A (compareOp op va vb) (Sv r s) No s := cmpK hd ra rb (by have := C.room.units; lia) (W _ C.bs.X)

theorem evalPart_ (K : SoundE v mean mg mb n k) {o : Option Expr} {l : Option D} {l' : Option Nat} (ho : optE k sc ρ o = some l) (hl : natD l = some l')
    (C : Cx v mean mg mb n A hs O mine env sc ρ s) : wpAny (pwm v) A (evalPart o env) (fun val s' => IsPart val (part l') ∧ Kp s s') No s := by
  cases o with
  | none => obtain rfl := Option.some.inj (show some none = some l from ho); obtain rfl := Option.some.inj (show some none = some l' from hl); exact evalPart_none_step ⟨.none, kpr _⟩
  | some e =>
    obtain ⟨d, hd, rfl⟩ := Option.map_eq_some_iff.mp (show (k.e sc ρ e).map some = some l from ho)
    refine evalPart_some_step (wpAny_mono (K.e hd C) (fun val s' ⟨r, hk⟩ => ⟨?_, hk⟩) fun _ _ x => x)
    cases d with
    | int i =>
      obtain ⟨t, rfl⟩ := rep_int r
      obtain ⟨h0, rfl⟩ := if_some (show (if decide (0 ≤ i) && smallI i then some (some i.toNat) else none) = some l' from hl)
      simp only [Bool.and_eq_true, decide_eq_true_eq] at h0
      have : part (some i.toNat) = some i := by show some ((i.toNat : Nat) : Int) = _; rw [Int.toNat_of_nonneg h0.1]
      rw [this]; exact .int _ _
    | _ => exact none_some hl

end
end Mine
end
noncomputable section
open PySem PySem.W PyProof.Rows PySem.Challenge PySem.SeqAt
set_option maxRecDepth 100000
set_option linter.unusedVariables false
namespace Mine

noncomputable def fdOf (d : DefRec) (pm code doc : Value) : FuncData := Calls.docDef d.name d.params d.body d.scope pm code doc

noncomputable def BindOk (d : DefRec) : Prop := ∀ (pm code doc : Value) (vals : List Value) (kws : List (Str × Value)), vals.length = d.params.args.length → kws.map Prod.fst = d.params.kwonlyargs.map (·.arg) →
  bindArgs (fdOf d pm code doc) ⟨vals, kws⟩ = pure ((d.params.args.map (·.arg)).zip vals ++ kws)

theorem map_nil' {kws : List (Str × Value)} {l : List Str} (h : kws.map Prod.fst = l) (e : l = []) : kws = [] := by
  subst e; exact List.map_eq_nil_iff.mp h
theorem len1 {α : Type} {l : List α} (h : l.length = 1) : ∃ a, l = [a] := by
  rcases l with _ | ⟨a, _ | ⟨b, l⟩⟩
  · cases h
  · exact ⟨a, rfl⟩
  · cases h
theorem len2 {α : Type} {l : List α} (h : l.length = 2) : ∃ a b, l = [a, b] := by
  rcases l with _ | ⟨a, l⟩
  · cases h
  · obtain ⟨b, rfl⟩ := len1 (Nat.succ.inj h)
    exact ⟨a, b, rfl⟩
theorem len3 {α : Type} {l : List α} (h : l.length = 3) : ∃ a b c, l = [a, b, c] := by
  rcases l with _ | ⟨a, l⟩
  · cases h
  · obtain ⟨b, c, rfl⟩ := len2 (Nat.succ.inj h)
    exact ⟨a, b, c, rfl⟩
theorem BindOk.of1 {d : DefRec} (e1 : d.params.args.length = 1) (e2 : d.params.kwonlyargs.map (·.arg) = []) (hb : ∀ pm code doc a, bindArgs (fdOf d pm code doc) ⟨[a], []⟩ = pure ((d.params.args.map (·.arg)).zip [a] ++ [])) : BindOk d := by
  intro pm code doc vals kws h1 h2
  obtain ⟨a, rfl⟩ := len1 (h1.trans e1)
  obtain rfl := map_nil' h2 e2
  exact hb pm code doc a
theorem BindOk.of2 {d : DefRec} (e1 : d.params.args.length = 2) (e2 : d.params.kwonlyargs.map (·.arg) = []) (hb : ∀ pm code doc a b, bindArgs (fdOf d pm code doc) ⟨[a, b], []⟩ = pure ((d.params.args.map (·.arg)).zip [a, b] ++ [])) : BindOk d := by
  intro pm code doc vals kws h1 h2
  obtain ⟨a, b, rfl⟩ := len2 (h1.trans e1)
  obtain rfl := map_nil' h2 e2
  exact hb pm code doc a b
theorem BindOk.of3 {d : DefRec} (e1 : d.params.args.length = 3) (e2 : d.params.kwonlyargs.map (·.arg) = []) (hb : ∀ pm code doc a b c, bindArgs (fdOf d pm code doc) ⟨[a, b, c], []⟩ = pure ((d.params.args.map (·.arg)).zip [a, b, c] ++ [])) : BindOk d := by
  intro pm code doc vals kws h1 h2
  obtain ⟨a, b, c, rfl⟩ := len3 (h1.trans e1)
  obtain rfl := map_nil' h2 e2
  exact hb pm code doc a b c
theorem bind_0 : BindOk (dAt 0) := .of3 (by kernel_rfl) (by kernel_rfl) fun pm code doc a b c => by kernel_rfl
theorem bindk_1 (pm code doc a b c x y : Value) : bindArgs (fdOf (dAt 1) pm code doc) ⟨[a, b, c], [(Str.ofString "error_on", x), (Str.ofString "error_on_eof", y)]⟩ = pure (((dAt 1).params.args.map (·.arg)).zip [a, b, c] ++ [(Str.ofString "error_on", x), (Str.ofString "error_on_eof", y)]) := by kernel_rfl
theorem bind_1 : BindOk (dAt 1) := by
  intro pm code doc vals kws h1 h2
  have e1 : (dAt 1).params.args.length = 3 := by kernel_rfl
  have e2 : (dAt 1).params.kwonlyargs.map (·.arg) = [Str.ofString "error_on", Str.ofString "error_on_eof"] := by kernel_rfl
  obtain ⟨a, b, c, rfl⟩ := len3 (h1.trans e1)
  have h2 := h2.trans e2
  have h3 := congrArg List.length h2
  rw [List.length_map] at h3
  obtain ⟨⟨n, x⟩, ⟨m, y⟩, rfl⟩ := len2 h3
  obtain rfl : n = Str.ofString "error_on" := (List.cons.inj h2).1
  obtain rfl : m = Str.ofString "error_on_eof" := (List.cons.inj (List.cons.inj h2).2).1
  exact bindk_1 pm code doc a b c x y
theorem bind_2 : BindOk (dAt 2) := .of2 (by kernel_rfl) (by kernel_rfl) fun pm code doc a b => by kernel_rfl
theorem bind_3 : BindOk (dAt 3) := .of2 (by kernel_rfl) (by kernel_rfl) fun pm code doc a b => by kernel_rfl
theorem bind_4 : BindOk (dAt 4) := .of2 (by kernel_rfl) (by kernel_rfl) fun pm code doc a b => by kernel_rfl
theorem bind_5 : BindOk (dAt 5) := .of3 (by kernel_rfl) (by kernel_rfl) fun pm code doc a b c => by kernel_rfl
theorem bind_6 : BindOk (dAt 6) := .of1 (by kernel_rfl) (by kernel_rfl) fun pm code doc a => by kernel_rfl
theorem bind_7 : BindOk (dAt 7) := .of3 (by kernel_rfl) (by kernel_rfl) fun pm code doc a b c => by kernel_rfl
theorem bind_8 : BindOk (dAt 8) := .of2 (by kernel_rfl) (by kernel_rfl) fun pm code doc a b => by kernel_rfl
theorem bind_9 : BindOk (dAt 9) := .of2 (by kernel_rfl) (by kernel_rfl) fun pm code doc a b => by kernel_rfl
theorem bind_10 : BindOk (dAt 10) := .of2 (by kernel_rfl) (by kernel_rfl) fun pm code doc a b => by kernel_rfl
theorem bind_11 : BindOk (dAt 11) := .of2 (by kernel_rfl) (by kernel_rfl) fun pm code doc a b => by kernel_rfl
theorem bind_12 : BindOk (dAt 12) := .of1 (by kernel_rfl) (by kernel_rfl) fun pm code doc a => by kernel_rfl
theorem bind_13 : BindOk (dAt 13) := .of2 (by kernel_rfl) (by kernel_rfl) fun pm code doc a b => by kernel_rfl
theorem bind_14 : BindOk (dAt 14) := .of2 (by kernel_rfl) (by kernel_rfl) fun pm code doc a b => by kernel_rfl
theorem bind_15 : BindOk (dAt 15) := .of2 (by kernel_rfl) (by kernel_rfl) fun pm code doc a b => by kernel_rfl
theorem bind_16 : BindOk (dAt 16) := .of2 (by kernel_rfl) (by kernel_rfl) fun pm code doc a b => by kernel_rfl
theorem bind_17 : BindOk (dAt 17) := .of1 (by kernel_rfl) (by kernel_rfl) fun pm code doc a => by kernel_rfl

theorem bind_ok : ∀ i, i < 18 → BindOk (dAt i)
  | 0, _ => bind_0
  | 1, _ => bind_1
  | 2, _ => bind_2
  | 3, _ => bind_3
  | 4, _ => bind_4
  | 5, _ => bind_5
  | 6, _ => bind_6
  | 7, _ => bind_7
  | 8, _ => bind_8
  | 9, _ => bind_9
  | 10, _ => bind_10
  | 11, _ => bind_11
  | 12, _ => bind_12
  | 13, _ => bind_13
  | 14, _ => bind_14
  | 15, _ => bind_15
  | 16, _ => bind_16
  | 17, _ => bind_17
  | n + 18, h => absurd h (by lia)
theorem recs_dAt : recsOf qv = (List.range 18).map dAt := by kernel_rfl
theorem dAt_mem : ∀ i, i < 18 → dAt i ∈ recsOf qv := by
  intro i hi
  rw [recs_dAt]
  exact List.mem_map_of_mem (List.mem_range.mpr hi)
end Mine
end
noncomputable section
open PySem PySem.W PyProof.Rows PySem.Challenge PySem.SeqAt
set_option maxRecDepth 100000
set_option linter.unusedVariables false
namespace Mine

noncomputable def mineOf (env : Env) : Str → Prop := fun x => env.kindOf x = some .local ∨ env.kindOf x = some .cell
noncomputable def Fits (O : Addr → Prop) : Fl → Heap → Flow → Prop
  | .next, _, f => f = .next
  | .brk, _, f => f = .brk
  | .ret d, h, f => ∃ val, f = .ret val ∧ Rep h O d val
noncomputable def KeepBut (env : Env) (mine : Str → Prop) (h h' : Heap) : Prop := ∀ b o, b ≠ env.locals → (∀ y, mine y → env.cells.lookup y ≠ some b) → h.get? b = some o → h'.get? b = some o
noncomputable def SPost (hs : Heap) (O : Addr → Prop) (env : Env) (ρ' : Rho) (fl : Fl) (s : Shared) : Flow → Shared → Prop := fun f s' =>
  Fits O fl s'.heap f ∧ ∃ h' tk, s' = { s with heap := h', toks := tk } ∧ ER hs O (mineOf env) env (fun x => ρ'.lookup x) h' ∧ KeepBut env (mineOf env) s.heap h' ∧ (0 < s.toks → 0 < tk)

structure SoundS (v : World) (mean : ExcName → Option Value) (mg mb : Str → Option Value) (n : Nat) (k : Kit) : Prop where
  s : ∀ {sc ρ st ρ' fl}, k.s sc ρ st = some (ρ', fl) → ∀ {A hs O env} {s : Shared}, Cx v mean mg mb n A hs O (mineOf env) env sc ρ s → wpAny (pwm v) A (exec st env) (SPost hs O env ρ' fl s) No s
  w : ∀ {sc ρ c b ρ' fl}, k.w sc ρ c b = some (ρ', fl) → ∀ {A hs O env} {s : Shared}, Cx v mean mg mb n A hs O (mineOf env) env sc ρ s →
    codeAny (pwm v) A (.whileLoop c b [] env) (fun r s' => ∃ f, r = .ok f ∧ SPost hs O env ρ' fl s f s') s

section
variable {v : World} {mean : ExcName → Option Value} {mg mb : Str → Option Value} {n : Nat} {k : Kit} {A : Around} {hs : Heap} {O : Addr → Prop} {env : Env} {sc : Scope} {ρ : Rho} {s : Shared} {d : D}

theorem SPost.trans {ρ₁ ρ₂ : Rho} {fl : Fl} {s₁ : Shared} {f : Flow} {s₂ : Shared} (h1 : ∃ h' tk, s₁ = { s with heap := h', toks := tk } ∧ KeepBut env (mineOf env) s.heap h' ∧ (0 < s.toks → 0 < tk)) (h2 : SPost hs O env ρ₂ fl s₁ f s₂) : SPost hs O env ρ₂ fl s f s₂ := by
  obtain ⟨h', tk, rfl, k1, t1⟩ := h1
  obtain ⟨fi, h'', tk', rfl, er, k2, t2⟩ := h2
  exact ⟨fi, h'', tk', rfl, er, fun b o hb hc e => k2 b o hb hc (k1 b o hb hc e), fun q => t2 (t1 q)⟩

theorem ob_after {O : Addr → Prop} {h h' : Heap} {mine ρ₁} (hO : OB O h) (X : ER hs O mine env ρ₁ h') (Y : ER hs O mine env ρ₁ h' → True) (kb : KeepBut env (mineOf env) h h') : OB O h' := fun a q => by
  by_cases h1 : a = env.locals
  · subst h1; obtain ⟨m, o, _, _, ho, _⟩ := X.ns; exact ⟨o, ho⟩
  · by_cases h2 : ∃ y, env.cells.lookup y = some a
    · obtain ⟨y, hy⟩ := h2
      obtain ⟨_, _, o, ho, _⟩ := X.cells y a hy
      exact ⟨o, ho⟩
    · obtain ⟨o, e⟩ := hO a q
      exact ⟨o, kb a o h1 (fun y _ e => h2 ⟨y, e⟩) e⟩

theorem exL_cons {f : Rho → Stmt → Option (Rho × Fl)} {ρ ρ' : Rho} {st : Stmt} {r : List Stmt} {fl : Fl} (h : exL f ρ (st :: r) = some (ρ', fl)) : (∃ ρ₁, f ρ st = some (ρ₁, .next) ∧ exL f ρ₁ r = some (ρ', fl)) ∨ (f ρ st = some (ρ', fl) ∧ fl ≠ .next) := by
  replace h : (match f ρ st with | some (ρ', .next) => exL f ρ' r | x => x) = some (ρ', fl) := h
  cases e : f ρ st with
  | none => rw [e] at h; exact none_some h
  | some q =>
    obtain ⟨ρ₁, g⟩ := q
    rw [e] at h
    cases g with
    | next => exact .inl ⟨ρ₁, rfl, h⟩
    | brk => exact .inr ⟨h, by rw [← (Prod.mk.inj (Option.some.inj h)).2]; exact nofun⟩
    | ret d => exact .inr ⟨h, by rw [← (Prod.mk.inj (Option.some.inj h)).2]; exact nofun⟩
theorem execs_ (K : SoundS v mean mg mb n k) {sts : List Stmt} : ∀ {ρ ρ' : Rho} {fl : Fl} {s : Shared}, exL (k.s sc) ρ sts = some (ρ', fl) → Cx v mean mg mb n A hs O (mineOf env) env sc ρ s →
    wpAny (pwm v) A (execs sts env) (SPost hs O env ρ' fl s) No s := by
  induction sts with
  | nil =>
    intro ρ ρ' fl s h C
    obtain ⟨rfl, rfl⟩ := Prod.mk.inj (Option.some.inj h)
    exact wpAny_execs_nil ⟨rfl, s.heap, s.toks, rfl, C.er, fun _ _ _ _ e => e, id⟩
  | cons st r ih =>
    intro ρ ρ' fl s h C
    refine wpAny_execs_cons ?_
    rcases exL_cons h with ⟨ρ₁, h1, h⟩ | ⟨h, hx⟩
    · refine wpAny_mono (K.s h1 C) (fun f s₁ hp => ?_) fun _ _ x => x
      obtain ⟨rfl, h', tk, rfl, er, kb, kt⟩ := hp
      exact wpAny_mono (ih h ⟨C.room, C.bs0, er, C.scp, ob_after C.ob er (fun _ => trivial) kb, kt C.tk⟩) (fun f s₂ hp => SPost.trans (ρ₁ := ρ₁) ⟨h', tk, rfl, kb, kt⟩ hp) fun _ _ x => x
    · refine wpAny_mono (K.s h C) (fun f s₁ hp => ?_) fun _ _ x => x
      cases fl with
      | next => exact (hx rfl).elim
      | brk => obtain ⟨rfl, q⟩ := hp; exact ⟨rfl, q⟩
      | ret d => obtain ⟨⟨val, rfl, r⟩, q⟩ := hp; exact ⟨⟨val, rfl, r⟩, q⟩

theorem bindL_look {kind : Str → Option NameKind} {x : Str} (hx : kind x = some .local) : ∀ (binds : List (Str × Value)) (m : Str → Option Value), noDup (binds.map Prod.fst) = true → bindL kind binds m x = (binds.lookup x).or (m x)
  | [], m, _ => by simp [bindL]
  | (y, v) :: r, m, h => by
    simp only [List.map_cons, noDup, Bool.and_eq_true, Bool.not_eq_true'] at h
    rw [bindL, bindL_look hx r _ h.2, List.lookup_cons]
    by_cases hxy : x = y
    · subst hxy
      have : r.lookup x = none := by
        cases e : r.lookup x with
        | none => rfl
        | some c =>
          have := mem_of_lookup e
          have hm : x ∈ r.map Prod.fst := List.mem_map_of_mem (f := Prod.fst) this
          rw [List.contains_eq_mem] at h
          simp [hm] at h
      rw [this, if_pos hx]
      simp
    · have hb : (x == y) = false := beq_eq_false_iff_ne.mpr hxy
      rw [hb]
      congr 1
      by_cases hy : kind y = some .local
      · rw [if_pos hy]; simp [hxy]
      · rw [if_neg hy]
theorem bindC_look {kind : Str → Option NameKind} {x : Str} (hx : kind x ≠ some .local) : ∀ (binds : List (Str × Value)) (m : Str → Option Value), noDup (binds.map Prod.fst) = true → bindC kind binds m x = (binds.lookup x).or (m x)
  | [], m, _ => by simp [bindC]
  | (y, v) :: r, m, h => by
    simp only [List.map_cons, noDup, Bool.and_eq_true, Bool.not_eq_true'] at h
    rw [bindC, bindC_look hx r _ h.2, List.lookup_cons]
    by_cases hxy : x = y
    · subst hxy
      have : r.lookup x = none := by
        cases e : r.lookup x with
        | none => rfl
        | some c =>
          have := mem_of_lookup e
          have hm : x ∈ r.map Prod.fst := List.mem_map_of_mem (f := Prod.fst) this
          rw [List.contains_eq_mem] at h
          simp [hm] at h
      rw [this, if_neg hx]
      simp
    · have hb : (x == y) = false := beq_eq_false_iff_ne.mpr hxy
      rw [hb]
      congr 1
      by_cases hy : kind y = some .local
      · rw [if_pos hy]
      · rw [if_neg hy]; simp [hxy]

theorem cells_some : ∀ {names : List (Str × NameKind)} {x : Str} (n : Nat) (acc : List (Str × Addr)), ((x, NameKind.cell) ∈ names ∨ (acc.lookup x).isSome = true) → ((cellsFrom n names acc).lookup x).isSome = true
  | [], x, n, acc, h => by
    rcases h with h | h
    · cases h
    · exact h
  | (y, kd) :: r, x, n, acc, h => by
    unfold cellsFrom
    by_cases hk : (kd == NameKind.cell) = true
    · rw [if_pos hk]
      refine cells_some _ _ ?_
      rw [List.lookup_cons]
      by_cases hxy : x = y
      · subst hxy; right; simp
      · have hb : (x == y) = false := beq_eq_false_iff_ne.mpr hxy
        rw [hb]
        rcases h with h | h
        · rcases List.mem_cons.mp h with e | e
          · cases e; exact (hxy rfl).elim
          · exact .inl e
        · exact .inr h
    · rw [if_neg hk]
      refine cells_some _ _ ?_
      rcases h with h | h
      · rcases List.mem_cons.mp h with e | e
        · cases e; exact (hk rfl).elim
        · exact .inl e
      · exact .inr h

theorem lookup_kw {h : Heap} {O : Addr → Prop} {kw : List (Str × D)} : ∀ {kws : List (Str × Value)}, kws.map Prod.fst = kw.map Prod.fst → Reps h O (kw.map Prod.snd) (kws.map Prod.snd) →
    ∀ {x : Str} {d : D}, kw.lookup x = some d → ∃ val, kws.lookup x = some val ∧ Rep h O d val := by
  induction kw with
  | nil => exact fun _ _ _ _ e => none_some e
  | cons q r ih =>
    intro kws hk hr x d e
    obtain ⟨y, da⟩ := q
    rcases kws with _ | ⟨⟨z, vb⟩, t⟩
    · cases hk
    obtain ⟨e1, hk⟩ := List.cons.inj hk
    obtain ⟨v1, t1, e2, h1, h2⟩ := hr.consInv
    obtain ⟨e3, e4⟩ := List.cons.inj e2
    rw [List.lookup_cons] at e ⊢
    rw [show z = y from e1]
    cases hx : x == y with
    | true => rw [hx] at e; exact ⟨_, rfl, by rw [← Option.some.inj e, show vb = v1 from e3]; exact h1⟩
    | false => rw [hx] at e; exact ih hk (e4 ▸ h2) e
theorem lookup_pair {h : Heap} {O : Addr → Prop} {names : List Str} {kw : List (Str × D)} {kws : List (Str × Value)} (hk : kws.map Prod.fst = kw.map Prod.fst) (hr : Reps h O (kw.map Prod.snd) (kws.map Prod.snd)) : ∀ {ds : List D} {vs : List Value}, Reps h O ds vs → names.length = ds.length →
    ∀ {x : Str} {d : D}, (names.zip ds ++ kw).lookup x = some d → ∃ val, (names.zip vs ++ kws).lookup x = some val ∧ Rep h O d val := by
  induction names with
  | nil => exact fun _ _ _ _ e => lookup_kw hk hr e
  | cons y names ih =>
    intro ds vs r hl x d e
    rcases ds with _ | ⟨d0, ds⟩
    · cases hl
    obtain ⟨v1, t1, rfl, h1, h2⟩ := r.consInv
    rw [List.zip_cons_cons, List.cons_append, List.lookup_cons] at e ⊢
    cases hx : x == y with
    | true => rw [hx] at e; exact ⟨_, rfl, Option.some.inj e ▸ h1⟩
    | false => rw [hx] at e; exact ih h2 (Nat.succ.inj hl) e

theorem findD_some {f : Str} {n : Nat} : ∀ {i j : Nat}, findD f n i = some j → (dAt j).name = f ∧ i ≤ j ∧ j < i + n := by
  induction n with
  | zero => exact fun h => none_some h
  | succ n ih =>
    intro i j h
    by_cases hb : ((dAt i).name == f) = true
    · obtain rfl : i = j := Option.some.inj ((if_pos hb).symm.trans h)
      exact ⟨beq_iff_eq.mp hb, Nat.le_refl _, Nat.lt_add_of_pos_right (Nat.succ_pos _)⟩
    · obtain ⟨a, b, c⟩ := ih ((if_neg hb).symm.trans h)
      exact ⟨a, Nat.le_of_succ_le b, by omega⟩

theorem fn_of {f : Str} {i : Nat} {h : Heap} (hf : fnOf f = some i) (B : Bs v mean mg mb h) : i < 18 ∧ ∃ a o pm code doc, mg f = some (.ref a) ∧ h.get? a = some o ∧ o.data = .func (fdOf (dAt i) pm code doc) ∧ h.CodeRec code (dAt i).name := by
  obtain ⟨e, _, hi⟩ := findD_some hf
  have hi : i < 18 := by omega
  obtain ⟨a, o, pm, code, doc, h1, h2, h3, h4⟩ := B.T.fn _ (dAt_mem i hi)
  exact ⟨hi, a, o, pm, code, doc, e ▸ h1, h2, h3, h4⟩

theorem newFunctionEnvK {M : Model} {E : Value → Shared → Prop} {scope : Scope} {globals : Addr} {binds : List (Str × Value)} {qual : Str} {func : Option Addr} {code : Value} {builtins : Addr} {Q : Env → Shared → Prop}
    (hk : scope.kind = .function)
    (hkind : ∀ x ∈ binds, scope.names.lookup x.1 = some .local ∨ (scope.names.lookup x.1 = some .cell ∧ ((cellsFrom (s.heap.objs.size + 1) scope.names []).lookup x.1).isSome = true))
    (hQ : ∀ env, env = newEnv scope s.heap.objs.size globals (cellsFrom (s.heap.objs.size + 1) scope.names []) qual func code none builtins →
      ∀ s', InCallC s env.locals (bindL env.kindOf binds fun _ => none) env.cells (bindC env.kindOf binds fun _ => none) s' → (0 < s.toks → 0 < s'.toks) → Q env s') :
    wpAny M A (newFunctionEnv scope globals [] binds qual func code none builtins) Q E s :=
  wpAny_mono (toks_ (wpAny_newFunctionEnv_cells (Q := fun env s' => env = newEnv scope s.heap.objs.size globals (cellsFrom (s.heap.objs.size + 1) scope.names []) qual func code none builtins ∧ InCallC s env.locals (bindL env.kindOf binds fun _ => none) env.cells (bindC env.kindOf binds fun _ => none) s')
    hk hkind fun env he s' X => ⟨he, X⟩)) (fun env s' ⟨⟨he, X⟩, t⟩ => hQ env he s' X t) fun _ _ x => x

/-- a call of a plain function -/
theorem call_fn {i : Nat} {a : Addr} {o : Obj} {pm code doc : Value} {vals : List Value} {kws : List (Str × Value)} {args : List D} {kw : List (Str × D)} {ρ : Rho} (R : Room (n + 1) A) (B : Bs v mean mg mb s.heap) (h0 : 0 < s.toks) (hO : OB O s.heap) (hi : i < 18)
    (ho : s.heap.get? a = some o) (hd : o.data = .func (fdOf (dAt i) pm code doc)) (hc : s.heap.CodeRec code (dAt i).name) (hp : plainD (dAt i) = true) (hb : bindA (dAt i) args kw = some ρ)
    (ha : Reps s.heap O args vals) (hk : kws.map Prod.fst = kw.map Prod.fst) (hkv : Reps s.heap O (kw.map Prod.snd) (kws.map Prod.snd)) {Q : Value → Shared → Prop}
    (h : ∀ env s₁, Kp s s₁ → Cx v mean mg mb n (A.deeper env) s.heap O (mineOf env) env (dAt i).scope ρ s₁ → s.heap.objs.size ≤ env.locals → (env.frame = some env.locals ∧ env.cells = cellsFrom (s.heap.objs.size + 1) (dAt i).scope.names []) →
      wpAny (pwm v) (A.deeper env) (execs (dAt i).body env) (fun f s' => Q (match f with | .ret v => v | _ => .none) s') No s₁) :
    wpAny (pwm v) A (call (.ref a) vals kws) Q No s := by
  unfold bindA at hb
  split at hb
  · rename_i hl
    simp only [Bool.and_eq_true, beq_iff_eq] at hl
    obtain ⟨hl1, hl2⟩ := hl
    obtain rfl := Option.some.inj hb
    unfold plainD at hp
    simp only [Bool.and_eq_true, beq_iff_eq, Bool.not_eq_true'] at hp
    obtain ⟨⟨⟨⟨⟨p1, p2⟩, p3⟩, p4⟩, p6⟩, p5⟩ := hp
    have hbind := bind_ok i hi pm code doc vals kws (by rw [ha.length, hl1]) (hk.trans hl2.symm)
    have hkeys : (((dAt i).params.args.map (·.arg)).zip vals ++ kws).map Prod.fst = (dAt i).params.args.map (·.arg) ++ (dAt i).params.kwonlyargs.map (·.arg) := by
      rw [List.map_append, hk, ← hl2, List.map_fst_zip]
      rw [List.length_map, ha.length, hl1]; exact Nat.le_refl _
    have hkind : ∀ x ∈ ((dAt i).params.args.map (·.arg)).zip vals ++ kws, (dAt i).scope.names.lookup x.1 = some .local ∨ ((dAt i).scope.names.lookup x.1 = some .cell ∧ ((cellsFrom (s.heap.objs.size + 1) (dAt i).scope.names []).lookup x.1).isSome = true) := by
      intro x hx
      have hx' : x.1 ∈ (dAt i).params.args.map (·.arg) ++ (dAt i).params.kwonlyargs.map (·.arg) := by rw [← hkeys]; exact List.mem_map_of_mem (f := Prod.fst) hx
      have := List.all_eq_true.mp p5 _ hx'
      simp only [Bool.or_eq_true, beq_iff_eq] at this
      exact this.imp id fun e => ⟨e, cells_some _ _ (.inl (mem_of_lookup e))⟩
    refine wpAny_call (codeAny_call_function (fd := fdOf (dAt i) pm code doc) (by have := R.depth; omega) ho hd p3 p2 rfl hc ?_)
    rw [hbind]
    refine wpAny_pure (newFunctionEnvK p1 hkind fun env he s' X ht => ⟨B.T.nolimit.keeps X.toInCall.keep, codeAny_func ?_⟩)
    obtain ⟨h₁, tk, hs', _⟩ := X.done
    have hK : Kp s s' := ⟨⟨h₁, tk, hs', by rw [show h₁ = s'.heap by rw [hs']]; exact X.toInCall.keep⟩, ht⟩
    have hkd : env.kindOf = fun x => (dAt i).scope.names.lookup x := by subst he; rfl
    have er : ER s.heap O (mineOf env) env (fun x => (((dAt i).params.args.map (·.arg)).zip args ++ kw).lookup x) s'.heap := by
      refine ⟨X.toInCall.keep, by subst he; exact p1, by subst he; rfl, by subst he; rfl, ⟨_, X.toInCall.ns⟩, X.toInCall.fresh, fun x y c e1 e2 => name_of_addr X.apart (mem_of_lookup e1) (mem_of_lookup e2),
        fun x c e => ⟨Nat.ne_of_gt (X.above x c (mem_of_lookup e)), _, X.cell x c e⟩, fun x hx => hx.imp id fun e => ?_, fun x hx => ?_, fun x d e hv => ?_⟩
      · rw [hkd] at e
        have hcs : env.cells = cellsFrom (s.heap.objs.size + 1) (dAt i).scope.names [] := by subst he; rfl
        have := cells_some (s.heap.objs.size + 1) [] (.inl (mem_of_lookup e))
        rw [← hcs] at this
        obtain ⟨c, hc'⟩ := Option.isSome_iff_exists.mp this
        refine ⟨by rw [hkd]; exact e, c, hc', Nat.le_of_lt ?_⟩
        exact Nat.lt_of_le_of_lt X.toInCall.fresh (X.above x c (mem_of_lookup hc'))
      · have hcs : env.cells = cellsFrom (s.heap.objs.size + 1) (dAt i).scope.names [] := by subst he; rfl
        have hcell : (dAt i).scope.names.lookup x = some .cell := by
          rw [hkd] at hx
          refine hx.elim id fun e => ?_
          have := List.all_eq_true.mp p6 _ (mem_of_lookup e)
          simp at this
        have := cells_some (s.heap.objs.size + 1) [] (.inl (mem_of_lookup hcell))
        rw [← hcs] at this
        exact Option.isSome_iff_exists.mp this
      · obtain ⟨val, h1, h2⟩ := lookup_pair hk hkv ha (by rw [List.length_map, hl1]) e
        have nd : noDup ((((dAt i).params.args.map (·.arg)).zip vals ++ kws).map Prod.fst) = true := by rw [hkeys]; exact p4
        refine ⟨val, ?_, h2.keeps X.toInCall.keep⟩
        by_cases hx : env.kindOf x = some .local
        · exact .inl ⟨hx, _, X.toInCall.ns, by rw [bindL_look hx _ _ nd, h1]; rfl⟩
        · have hx' : env.kindOf x = some .cell := by
            have := hkind (x, val) (mem_of_lookup h1)
            rw [hkd] at hx ⊢
            exact this.elim (fun q => (hx q).elim) (·.1)
          have hcs : env.cells = cellsFrom (s.heap.objs.size + 1) (dAt i).scope.names [] := by subst he; rfl
          have hx2 : (dAt i).scope.names.lookup x = some .cell := by rw [hkd] at hx'; exact hx'
          have := cells_some (s.heap.objs.size + 1) [] (.inl (mem_of_lookup hx2))
          rw [← hcs] at this
          obtain ⟨c, hc'⟩ := Option.isSome_iff_exists.mp this
          have hcell := X.cell x c hc'
          rw [bindC_look hx _ _ nd, h1] at hcell
          exact .inr ⟨.inl hx', c, hc', hcell⟩
    have he' : env = newEnv (fdOf (dAt i) pm code doc).scope s.heap.objs.size (fdOf (dAt i) pm code doc).globals (cellsFrom (s.heap.objs.size + 1) (dAt i).scope.names []) ((fdOf (dAt i) pm code doc).qualname ++ ".<locals>.") (some a) (fdOf (dAt i) pm code doc).code none (fdOf (dAt i) pm code doc).builtins := he
    exact wpAny_mono (h env s' hK ⟨R.deeper env, B, er, by subst he; rfl, hO.keeps X.toInCall.keep, ht h0⟩ X.toInCall.fresh (by subst he; exact ⟨rfl, rfl⟩)) (fun f s'' q => q) fun _ _ x => x.elim
  · cases hb

/-- the three functions that change lists answer as told -/
noncomputable def SpecOK (v : World) (mean : ExcName → Option Value) (mg mb : Str → Option Value) (n : Nat) : Prop :=
  ∀ {f : Str} {args : List D} {d : D}, specC f args = some d → ∀ {A O vals a} {s : Shared}, mg f = some (.ref a) → Room n A → Bs v mean mg mb s.heap → 0 < s.toks → OB O s.heap → Reps s.heap O args vals → wpAny (pwm v) A (call (.ref a) vals) (Gv O d s) No s

theorem stepC_ok {g : Bool} (KS : g = true → SpecOK v mean mg mb (n + 1)) (K : SoundS v mean mg mb n k) {f : Str} {args : List D} {kw : List (Str × D)} (h : stepC g k f args kw = some d) {vals : List Value} {kws : List (Str × Value)} {a : Addr} (hm : mg f = some (.ref a)) (R : Room (n + 1) A) (B : Bs v mean mg mb s.heap) (h0 : 0 < s.toks) (hO : OB O s.heap)
    (ha : Reps s.heap O args vals) (hk : kws.map Prod.fst = kw.map Prod.fst) (hkv : Reps s.heap O (kw.map Prod.snd) (kws.map Prod.snd)) : wpAny (pwm v) A (call (.ref a) vals kws) (Gv O d s) No s := by
  delta stepC at h
  by_cases hsp : specNames.contains f = true
  · rw [if_pos hsp] at h
    · obtain ⟨hkw, h'⟩ := if_then h
      rw [Bool.and_eq_true] at hkw
      have e1 : kw = [] := by simpa using hkw.1
      subst e1
      have e2 : kws = [] := by simpa using hk
      subst e2
      exact KS hkw.2 h' hm R B h0 hO ha
  rw [if_neg hsp] at h
  cases hf : fnOf f with
  | none => rw [hf] at h; exact none_some h
  | some i =>
    rw [hf] at h
    obtain ⟨hi, a', o, pm, code, doc, h1, h2, h3, h4⟩ := fn_of hf B
    rw [hm] at h1
    obtain rfl : a = a' := by cases h1; rfl
    dsimp only at h
    obtain ⟨hp, h⟩ := if_else h
    · cases hb : bindA (dAt i) args kw with
      | none => rw [hb] at h; exact none_some h
      | some ρ =>
        rw [hb] at h
        dsimp only at h
        refine call_fn R B h0 hO hi h2 h3 h4 (by simpa using hp) hb ha hk hkv fun env s₁ hks C hlo _ => ?_
        have kp : ∀ {s' : Shared} {h' : Heap} {tk : Nat} {ρ' : Rho}, s' = { s₁ with heap := h', toks := tk } → (0 < s₁.toks → 0 < tk) → ER s.heap O (mineOf env) env (fun x => ρ'.lookup x) h' → Kp s s' := by
          rintro s' h' tk ρ' rfl ht er
          obtain ⟨⟨h₁, t₁, rfl, _⟩, t2⟩ := hks
          exact ⟨⟨h', tk, rfl, er.keep⟩, fun q => ht (t2 q)⟩
        cases he : exL (k.s (dAt i).scope) ρ (dAt i).body with
        | none => rw [he] at h; exact none_some h
        | some q =>
        obtain ⟨ρ', fl⟩ := q
        rw [he] at h
        cases fl with
        | ret r =>
          obtain rfl := Option.some.inj h
          refine wpAny_mono (execs_ K he C) (fun f s' hp => ?_) fun _ _ x => x
          obtain ⟨⟨val, rfl, rr⟩, h', tk, e, er, _, ht⟩ := hp
          exact ⟨rr, kp e ht er⟩
        | next =>
          obtain rfl := Option.some.inj h
          refine wpAny_mono (execs_ K he C) (fun f s' hp => ?_) fun _ _ x => x
          obtain ⟨hf, h', tk, e, er, _, ht⟩ := hp
          obtain rfl : f = .next := hf
          exact ⟨.none, kp e ht er⟩
        | brk => exact none_some h
end
end Mine
end
noncomputable section
open PySem PySem.W PyProof.Rows PySem.Challenge PySem.SeqAt
set_option maxRecDepth 100000
set_option linter.unusedVariables false
namespace Mine

noncomputable def Flds (h : Heap) (I : Addr) : Prop := ∃ o fs, h.get? I = some o ∧ o.data = .fields fs

theorem Rep.but {h h' : Heap} {O : Addr → Prop} {I : Addr} {d : D} {v : Value} (r : Rep h O d v) (hI : Flds h I) (hk : ∀ b o, b ≠ I → h.get? b = some o → h'.get? b = some o) : Rep h' O d v :=
  r.mono (fun b => b = I) (fun b o hb e => hk b o hb e) fun b hb c xs n _ _ e => by
    subst hb; obtain ⟨o, fs, ho, hd⟩ := hI; rw [ho] at e; cases e; cases hd

theorem Flds.ns {h : Heap} {I a : Addr} {m} (hI : Flds h I) (hn : h.Ns a m) : a ≠ I := by
  rintro rfl; obtain ⟨o, fs, ho, hd⟩ := hI; obtain ⟨o', es, ep, ho', hd', _⟩ := hn; rw [ho] at ho'; cases ho'; rw [hd] at hd'; cases hd'
theorem Flds.cell {h : Heap} {I a : Addr} {v} (hI : Flds h I) (hn : h.IsCell a v) : a ≠ I := by
  rintro rfl; obtain ⟨o, fs, ho, hd⟩ := hI; obtain ⟨o', ho', hd'⟩ := hn; rw [ho] at ho'; cases ho'; rw [hd] at hd'; cases hd'

theorem ER.but {hs h h' : Heap} {O mine env ρ} {I : Addr} (X : ER hs O mine env ρ h) (hI : Flds h I) (hlo : hs.get? I = none) (hk : ∀ b o, b ≠ I → h.get? b = some o → h'.get? b = some o) : ER hs O mine env ρ h' where
  keep := fun b o e => hk b o (fun q => by subst q; rw [hlo] at e; cases e) (X.keep b o e)
  kind := X.kind
  glob := X.glob
  blt := X.blt
  ns := let ⟨m, n⟩ := X.ns; ⟨m, n.at' fun o e => hk _ o (hI.ns n) e⟩
  above := X.above
  apart := X.apart
  cells := fun x c e => let ⟨a, v, b⟩ := X.cells x c e; ⟨a, v, let ⟨o, ho, hd⟩ := b; ⟨o, hk _ _ (hI.cell b) ho, hd⟩⟩
  mineOk := X.mineOk
  full := X.full
  vars := fun x d e q => by
    obtain ⟨v, a, b⟩ := X.vars x d e q
    refine ⟨v, ?_, b.but hI hk⟩
    rcases a with ⟨a, m, n, c⟩ | ⟨a, c, n, i⟩
    · exact .inl ⟨a, m, n.at' fun o e => hk _ o (hI.ns n) e, c⟩
    · exact .inr ⟨a, c, n, let ⟨o, ho, hd⟩ := i; ⟨o, hk _ _ (hI.cell i) ho, hd⟩⟩

/-- an iterator over data, not started; h₀ the heap behind its making, lo the addresses before -/
structure Itr (v : World) (A : Around) (O : Addr → Prop) (I : Addr) (fp : List Addr) (ds : List D) (P : Nat → Value → Prop) (St : Nat → Heap → Prop) (h₀ : Heap) (lo : Nat) : Prop where
  W : Walks pw_rt0017_01 v A I fp [I] ds.length P St
  st : St 0 h₀
  item : ∀ i val d, P i val → ds[i]? = some d → Rep h₀ O d val
  flds : ∀ i h, St i h → Flds h I
  above : lo ≤ I
  foot : ∀ b ∈ fp, b = I ∨ (b < lo ∧ ∃ c xs n, (c = "list" ∨ c = "tuple") ∧ h₀.get? b = some { cls := .type c, data := .seq xs n })

noncomputable abbrev HasIt (v : World) (A : Around) (O : Addr → Prop) (ds : List D) (s : Shared) (it : Value) (s' : Shared) : Prop := ∃ I fp P St, it = .ref I ∧ Itr v A O I fp ds P St s'.heap s.heap.objs.size ∧ Kp s s'

theorem upTo_get : ∀ {n : Nat} {a : Int} {i : Nat} {d : D}, (upTo a n)[i]? = some d → d = .int (a + i)
  | 0, a, i, d, h => by simp [upTo] at h
  | n + 1, a, 0, d, h => by simp [upTo] at h; subst h; simp
  | n + 1, a, i + 1, d, h => by
    simp only [upTo, List.getElem?_cons_succ] at h
    rw [upTo_get h]; congr 1; push_cast; lia
theorem downTo_get : ∀ {n : Nat} {a : Int} {i : Nat} {d : D}, (downTo a n)[i]? = some d → d = .int (a - i)
  | 0, a, i, d, h => by simp [downTo] at h
  | n + 1, a, 0, d, h => by simp [downTo] at h; subst h; simp
  | n + 1, a, i + 1, d, h => by
    simp only [downTo, List.getElem?_cons_succ] at h
    rw [downTo_get h]; congr 1; push_cast; lia
theorem upTo_len : ∀ {n : Nat} {a : Int}, (upTo a n).length = n
  | 0, _ => rfl
  | n + 1, a => by simp [upTo, upTo_len]
theorem downTo_len : ∀ {n : Nat} {a : Int}, (downTo a n).length = n
  | 0, _ => rfl
  | n + 1, a => by simp [downTo, downTo_len]

section
variable {v : World} {mean : ExcName → Option Value} {mg mb : Str → Option Value} {n : Nat} {k : Kit} {A : Around} {hs : Heap} {O : Addr → Prop} {mine : Str → Prop} {env : Env} {sc : Scope} {ρ : Rho} {s : Shared} {d : D}

theorem iter_lst {l : List D} {val : Value} (hh : A.handled = none) (r : Rep s.heap O (.lst l) val) {Q : Value → Shared → Prop} (hQ : ∀ it s', HasIt v A O l s it s' → Q it s') : wpAny (pwm v) A (pyIter val) Q No s := by
  obtain ⟨x, xs, m, rfl, h1, r1⟩ := rep_lst r
  have hL : s.heap.IsList x xs.toArray := ⟨_, h1, rfl, _, rfl⟩
  have hne : x ≠ s.heap.objs.size := Nat.ne_of_lt (Heap.lt_size h1)
  refine wpAny_pyIter_list hL (hQ _ _ ⟨s.heap.objs.size, [s.heap.objs.size, x], (fun i v => xs.toArray[i]? = some v), (fun i h => h.IsListIter s.heap.objs.size x i ∧ h.IsList x xs.toArray), rfl, ⟨?_, ⟨?_, ?_⟩, ?_, ?_, Nat.le_refl _, ?_⟩, kpp _ _⟩)
  · have e : xs.toArray.size = l.length := by simpa using r1.length
    rw [← e]
    exact Walks.list (prog := pw_rt0017_01) (w := v) hh s.heap.objs.size x hne xs.toArray
  · exact ⟨_, Heap.get?_push_size _ rfl, rfl, rfl⟩
  · exact hL.push _
  · intro i val d hp hd
    obtain ⟨v', hv, rv⟩ := r1.get i d hd
    have : xs[i]? = some val := by simpa using hp
    rw [hv] at this; cases this
    exact rv.keeps fun _ _ e => Heap.get?_push_of_some _ e
  · rintro i h ⟨⟨o, ho, _, hd⟩, _⟩; exact ⟨o, _, ho, hd⟩
  · intro b hb
    rcases List.mem_cons.mp hb with e | hb
    · exact .inl e
    · rcases List.mem_cons.mp hb with e | hb
      · subst e
        exact .inr ⟨Heap.lt_size h1, "list", _, _, .inl rfl, Heap.get?_push_of_some _ h1⟩
      · cases hb

theorem iter_str {x : Str} {val : Value} (hh : A.handled = none) (r : Rep s.heap O (.str x) val) {Q : Value → Shared → Prop} (hQ : ∀ it s', HasIt v A O (charsD x) s it s' → Q it s') : wpAny (pwm v) A (pyIter val) Q No s := by
  obtain ⟨t, rfl⟩ := rep_str r
  have key : ∀ ty, (∀ A' : Around, A'.handled = none → Walks pw_rt0017_01 v A' s.heap.objs.size [s.heap.objs.size] [s.heap.objs.size] x.cps.size (SignAt x) (fun i h => h.IsStrIter s.heap.objs.size ty x t i)) →
      Q (.ref s.heap.objs.size) { s with heap := s.heap.push { cls := .type ty, data := .fields #[.str x t, .int 0 0] } } := by
    intro ty hw
    have hlen : (charsD x).length = x.cps.size := by simp [charsD]
    refine hQ _ _ ⟨s.heap.objs.size, [s.heap.objs.size], SignAt x, (fun i h => h.IsStrIter s.heap.objs.size ty x t i), rfl, ⟨by rw [hlen]; exact hw A hh, ⟨_, Heap.get?_push_size _ rfl, rfl, rfl⟩, ?_, ?_, Nat.le_refl _, ?_⟩, kpp _ _⟩
    · rintro i val d ⟨c, u, hc, rfl⟩ hd
      have : d = .str ⟨#[c]⟩ := by
        simp only [charsD, List.getElem?_map, Array.getElem?_toList, hc, Option.map_some, Option.some.injEq] at hd
        exact hd.symm
      subst this
      exact .str _ _
    · rintro i h ⟨o, ho, _, hd⟩; exact ⟨o, _, ho, hd⟩
    · intro b hb; exact .inl (by simpa using hb)
  cases ha : x.cps.all (· < 128)
  · exact wpAny_pyIter_wide ha (key _ fun A' hA => Walks.strWide hA _ x t)
  · exact wpAny_pyIter_ascii ha (key _ fun A' hA => Walks.strAscii hA _ x t)

theorem iter_range {a b c : Int} {r : Addr} {t u w' : Tok} {ds : List D} (hh : A.handled = none) (hr : IsRange s.heap r a b c t u w') (hs : Builtin.Range.small a b c = true) (hlen : ds.length = (Builtin.Range.rangeSize a b c).toNat) (h0 : 0 ≤ Builtin.Range.rangeSize a b c)
    (hds : ∀ (i : Nat) (d : D), ds[i]? = some d → d = .int (a + i * c)) {Q : Value → Shared → Prop} (hQ : ∀ it s', HasIt v A O ds s it s' → Q it s') : wpAny (pwm v) A (pyIter (.ref r)) Q No s := by
  refine wpAny_pyIter_range hr hs (hQ _ _ ⟨s.heap.objs.size, [s.heap.objs.size], _, _, rfl, ⟨by rw [hlen]; exact Walks.range hh s.heap.objs.size a c _, ?_, ?_, ?_, Nat.le_refl _, ?_⟩, kpp _ _⟩)
  · have e : ((Builtin.Range.rangeSize a b c).toNat : Int) - (0 : Nat) = Builtin.Range.rangeSize a b c := by lia
    have e2 : a + ((0 : Nat) : Int) * c = a := by simp
    show IsRangeIter _ _ _ _ _
    rw [e, e2]
    exact Heap.get?_push_size _ rfl
  · rintro i val d ⟨tt, rfl⟩ hd
    rw [hds i d hd]; exact .int _ _
  · intro i h st; exact ⟨_, _, st, rfl⟩
  · intro b hb; exact .inl (by simpa using hb)
end
end Mine
end
noncomputable section
open PySem PySem.W PyProof.Rows PySem.Challenge PySem.SeqAt
set_option maxRecDepth 100000
set_option linter.unusedVariables false
namespace Mine

section
variable {v : World} {mean : ExcName → Option Value} {mg mb : Str → Option Value} {n : Nat} {k : Kit} {A : Around} {hs : Heap} {O : Addr → Prop} {mine : Str → Prop} {env : Env} {sc : Scope} {ρ : Rho} {s : Shared} {d : D}

theorem evalArgs_ (K : SoundE v mean mg mb n k) {pos : Pos} {f : Value} {es : List Expr} {ds : List D} (h : mapO (k.e sc ρ) es = some ds) (hne : ds ≠ []) (C : Cx v mean mg mb n A hs O mine env sc ρ s) {Q : Args → Shared → Prop}
    (hQ : ∀ vs s', Reps s'.heap O ds vs → Kp s s' → Q ⟨vs, []⟩ s') : wpAny (pwm v) A (evalArgs f true (backTo pos (starEach es env)) []) Q No s := by
  have ha := args_ K (pos := pos) h C
  cases es with
  | nil => cases h; exact (hne rfl).elim
  | cons e r =>
    have he : starEach (e :: r) env = (false, eval e env) :: starEach r env := by
      cases e with
      | Starred x p => unfold mapO at h; rw [K.star] at h; cases h
      | _ => rfl
    rw [he] at ha ⊢
    exact Calls.evalArgs_plain (wpAny_mono ha (fun vs s' ⟨r, hk⟩ => hQ vs s' r hk) fun _ _ x => x)

theorem plain_any (K : SoundE v mean mg mb n k) {pos : Pos} {es : List Expr} {ds : List D} (h : mapO (k.e sc ρ) es = some ds) : (backTo pos (starEach es env)).any (·.1) = false := by
  have := starEach_plain (env := env) (pos := pos) K h
  rw [List.any_eq_false]
  intro x hx
  have := List.all_eq_true.mp this x hx
  simpa using this

/-- names that the top leaves free -/
theorem free_name {x : Str} {h : Heap} (B : Bs v mean mg mb h) (h1 : x ∉ startupNames) (h2 : x ∉ looseW qv looseL) (h3 : x ∉ (recsOf qv).map (·.name)) (h4 : x ∉ (litsOf qv).map (·.1)) (h5 : x ∉ (clssOf qv (looseW qv looseL)).map (·.name)) : mg x = none :=
  B.T.free x h1 h2 h3 h4 h5

noncomputable def freeB (x : Str) : Bool := !(startupNames.contains x) && !((looseW qv looseL).contains x) && !(((recsOf qv).map (·.name)).contains x) && !(((litsOf qv).map (·.1)).contains x) && !(((clssOf qv (looseW qv looseL)).map (·.name)).contains x) && !(x == ("__name__" : Str))
theorem free_B {x : Str} {h : Heap} (B : Bs v mean mg mb h) (hx : freeB x = true) : mg x = none ∧ mb x = bootBuiltins x := by
  unfold freeB at hx
  simp only [Bool.and_eq_true, Bool.not_eq_true', List.contains_eq_mem, decide_eq_false_iff_not, beq_eq_false_iff_ne] at hx
  obtain ⟨⟨⟨⟨⟨h1, h2⟩, h3⟩, h4⟩, h5⟩, h6⟩ := hx
  exact ⟨B.T.free x h1 h2 h3 h4 h5, B.T.builtins x h6⟩

theorem free_range : freeB (Str.ofString "range") = true := by kernel_rfl
theorem free_len : freeB (Str.ofString "len") = true := by kernel_rfl
theorem free_sum : freeB (Str.ofString "sum") = true := by kernel_rfl
theorem free_sorted : freeB (Str.ofString "sorted") = true := by kernel_rfl
theorem free_isinstance : freeB (Str.ofString "isinstance") = true := by kernel_rfl

theorem small_down {a b : Int} (ha : -1000000 ≤ a) (ha' : a ≤ 1000000) (hb : -1000000 ≤ b) (hb' : b ≤ 1000000) : Builtin.Range.small a b (-1) = true ∧ Builtin.Range.rangeSize a b (-1) = ((a - b).toNat : Int) := by
  have e : Builtin.Range.rangeSize a b (-1) = ((a - b).toNat : Int) := by
    unfold Builtin.Range.rangeSize
    simp only [show ¬ ((-1 : Int) > 0) by decide, if_false, show (-(-1) : Int) = 1 by decide, Int.ediv_one]
    split <;> lia
  refine ⟨?_, e⟩
  unfold Builtin.Range.small
  rw [e]
  simp only [Builtin.Range.rangeFitsLong, Bool.and_eq_true, Bool.or_eq_true, decide_eq_true_eq, beq_iff_eq, show ¬ ((-1 : Int) > 0) by decide, if_false]
  lia

theorem rangeD_inv {ds l : List D} (h : rangeD ds = some l) : (∃ b, ds = [.int b] ∧ smallI b = true ∧ upTo 0 b.toNat = l) ∨ ∃ a b c, ds = [.int a, .int b, .int c] ∧ (smallI a && smallI b && c == -1) = true ∧ downTo a (a - b).toNat = l := by
  rcases ds with _ | ⟨x, ds⟩
  · exact none_some h
  rcases ds with _ | ⟨y, ds⟩
  · cases x with
    | int b => exact .inl ⟨b, rfl, if_some (show (if smallI b then some (upTo 0 b.toNat) else none) = some l from h)⟩
    | _ => exact none_some h
  rcases ds with _ | ⟨z, ds⟩
  · cases x with
    | int a => cases y <;> exact none_some h
    | _ => exact none_some h
  rcases ds with _ | ⟨z', ds⟩
  · cases x with
    | int a => cases y with
      | int b => cases z with
        | int c => exact .inr ⟨a, b, c, rfl, if_some (show (if smallI a && smallI b && c == -1 then some (downTo a (a - b).toNat) else none) = some l from h)⟩
        | _ => exact none_some h
      | _ => exact none_some h
    | _ => exact none_some h
  · cases x with
    | int a => cases y with
      | int b => cases z <;> exact none_some h
      | _ => exact none_some h
    | _ => exact none_some h
theorem iter_rangeD {ds l : List D} {vs : List Value} (hh : A.handled = none) (hd : rangeD ds = some l) (r : Reps s.heap O ds vs) : wpAny (pwm v) A (call (.type "range") vs) (fun x s₁ => wpAny (pwm v) A (pyIter x) (fun it s₂ => HasIt v A O l s₁ it s₂ ∧ Kp s s₁) No s₁) No s := by
  rcases rangeD_inv hd with ⟨b, rfl, hb, rfl⟩ | ⟨a, b, c, rfl, hb, rfl⟩
  ·   have hb := smallI_le hb
      · obtain ⟨v1, w1, rfl, h1, h2⟩ := r.consInv
        obtain rfl := h2.nilInv
        obtain ⟨t, rfl⟩ := rep_int h1
        refine call_range_1 (iter_range hh (IsRange.new ..) (small_one (by decide) (by decide) (by lia) (by lia)) ?_ ?_ ?_ fun it s' h => ⟨h, kpm (fun _ _ e => Heap.get?_push_of_some _ e) fun _ => Nat.succ_pos _⟩)
        · rw [rangeSize_one, upTo_len]; split <;> lia
        · rw [rangeSize_one]; split <;> lia
        · intro i d h; rw [upTo_get h]; simp
  ·   simp only [Bool.and_eq_true, beq_iff_eq] at hb
      obtain ⟨⟨ha, hb⟩, rfl⟩ := hb
      have ha := smallI_le ha
      have hb := smallI_le hb
      obtain ⟨v1, w1, rfl, h1, g1⟩ := r.consInv
      obtain ⟨v2, w2, rfl, h2, g2⟩ := g1.consInv
      obtain ⟨v3, w3, rfl, h3, g3⟩ := g2.consInv
      obtain rfl := g3.nilInv
      ·     obtain ⟨t, rfl⟩ := rep_int h1
            obtain ⟨u, rfl⟩ := rep_int h2
            obtain ⟨w', rfl⟩ := rep_int h3
            obtain ⟨e1, e2⟩ := small_down ha.1 ha.2 hb.1 hb.2
            refine call_range_3 (by decide) (iter_range hh (IsRange.new ..) e1 ?_ ?_ ?_ fun it s' h => ⟨h, kpp _ _⟩) (.inl (PyProof.noPylong_small (by decide)))
            · rw [e2, downTo_len]; lia
            · rw [e2]; lia
            · intro i d h; rw [downTo_get h]; congr 1; lia

theorem rangeD_ne {ds l : List D} (h : rangeD ds = some l) : ds ≠ [] := by rintro rfl; exact none_some h

theorem iter_items {l : List D} {val : Value} (hh : A.handled = none) (hd : itemsD d = some l) (r : Rep s.heap O d val) {Q : Value → Shared → Prop} (hQ : ∀ it s', HasIt v A O l s it s' → Q it s') : wpAny (pwm v) A (pyIter val) Q No s := by
  cases d with
  | lst l' => exact iter_lst hh (Option.some.inj hd ▸ r) hQ
  | str x => exact iter_str hh r (fun it s' q => hQ it s' (Option.some.inj hd ▸ q))
  | _ => exact none_some hd

theorem call_or {x : Expr} : (∃ f p args q, x = .Call (.Name f p) args [] q) ∨ ∀ k sc ρ, stepIter k sc ρ x = (k.e sc ρ x).bind itemsD := by
  cases x with
  | Call f args kws q =>
    cases f with
    | Name f p =>
      cases kws with
      | nil => exact .inl ⟨f, p, args, q, rfl⟩
      | cons a b => exact .inr fun _ _ _ => rfl
    | _ => exact .inr fun _ _ _ => rfl
  | _ => exact .inr fun _ _ _ => rfl
theorem stepIter_ok (K : SoundE v mean mg mb n k) {x : Expr} {ds : List D} (h : stepIter k sc ρ x = some ds) (C : Cx v mean mg mb n A hs O mine env sc ρ s) :
    wpAny (pwm v) A (eval x env) (fun val s₁ => wpAny (pwm v) A (pyIter val) (fun it s₂ => HasIt v A O ds s₁ it s₂ ∧ Kp s s₁) No s₁) No s ∧ ∀ y, foldedSetIterable x env y = pure y := by
  have plain : ∀ {x : Expr}, (k.e sc ρ x).bind itemsD = some ds →
      wpAny (pwm v) A (eval x env) (fun val s₁ => wpAny (pwm v) A (pyIter val) (fun it s₂ => HasIt v A O ds s₁ it s₂ ∧ Kp s s₁) No s₁) No s ∧ ∀ y, foldedSetIterable x env y = pure y := by
    intro x h
    obtain ⟨d, hd, hi⟩ := Option.bind_eq_some_iff.mp h
    refine ⟨wpAny_mono (K.e hd C) (fun val s₁ ⟨r, hk⟩ => iter_items C.room.hd hi r fun it s' q => ⟨q, hk⟩) fun _ _ x => x, ?_⟩
    cases x with
    | Set a b c => rw [K.set] at hd; cases hd
    | _ => intro y; rfl
  rcases call_or (x := x) with ⟨f, p, args, q, rfl⟩ | hn
  rotate_left
  · exact plain ((hn k sc ρ).symm.trans h)
  · replace h : (if isGlob sc f && goodName f && f == Str.ofString "range" then (mapO (k.e sc ρ) args).bind rangeD else (k.e sc ρ (.Call (.Name f p) args [] q)).bind itemsD) = some ds := h
    split at h
    · rename_i hf
      simp only [Bool.and_eq_true, beq_iff_eq] at hf
      obtain ⟨⟨h1, h2⟩, rfl⟩ := hf
      obtain ⟨as, ha, hr⟩ := Option.bind_eq_some_iff.mp h
      obtain ⟨f1, f2⟩ := free_B C.bs free_range
      refine ⟨?_, fun y => rfl⟩
      refine Call_ (builtin_ C h1 h2 f1 (f2.trans boot_range) ?_)
      refine PyProof.Rows.callWith_type (plain_any K ha) (evalArgs_ K ha (rangeD_ne hr) C fun vs s' r hk => ?_)
      exact wpAny_mono (iter_rangeD C.room.hd hr r) (fun x s₁ h => wpAny_mono h (fun it s₂ ⟨a, b⟩ => ⟨a, kpx hk b⟩) fun _ _ x => x) fun _ _ x => x
    · exact plain h
end
end Mine
end
noncomputable section
open PySem PySem.W PyProof.Rows PySem.Challenge PySem.SeqAt
set_option maxRecDepth 100000
set_option linter.unusedVariables false
namespace Mine

section
variable {v : World} {mean : ExcName → Option Value} {mg mb : Str → Option Value} {n : Nat} {k : Kit} {A : Around} {hs : Heap} {O : Addr → Prop} {mine : Str → Prop} {env : Env} {sc : Scope} {ρ : Rho} {s : Shared} {d : D}

theorem two' (K : SoundE v mean mg mb n k) {x y : Expr} {a b : D} {Q : Value → Value → Shared → Prop} (hx : k.e sc ρ x = some a) (hy : k.e sc ρ y = some b) (C : Cx v mean mg mb n A hs O mine env sc ρ s)
    (h : ∀ va vb s₂, Rep s₂.heap O a va → Rep s₂.heap O b vb → Kp s s₂ → Q va vb s₂) : wpAny (pwm v) A (eval x env) (fun va s₁ => wpAny (pwm v) A (eval y env) (fun vb s₂ => Q va vb s₂) No s₁) No s :=
  wpAny_mono (K.e hx C) (fun va s₁ ⟨r1, k1⟩ => wpAny_mono (K.e hy (C.keeps k1)) (fun vb s₂ ⟨r2, k2⟩ => h va vb s₂ (r1.keeps (kph k2)) r2 (kpx k1 k2)) fun _ _ x => x) fun _ _ x => x

noncomputable abbrev Tells (r : Bool) (s : Shared) : Bool → Shared → Prop := fun b s' => b = r ∧ Kp s s'

theorem all_ (K : SoundE v mean mg mb n k) {es : List Expr} {r : Bool} : ∀ {s : Shared}, allO (k.t sc ρ) es = some r → Cx v mean mg mb n A hs O mine env sc ρ s → wpAny (pwm v) A (allTrue .And es env) (Tells r s) No s := by
  induction es with
  | nil => exact fun h C => wpAny_allTrue_And_nil ⟨Option.some.inj h, kpr _⟩
  | cons e t ih =>
    intro s h C
    replace h : (match k.t sc ρ e with | some true => allO (k.t sc ρ) t | some false => some false | none => none) = some r := h
    cases h1 : k.t sc ρ e with
    | none => rw [h1] at h; exact none_some h
    | some q =>
      rw [h1] at h
      refine wpAny_allTrue_And_cons (wpAny_mono (K.t h1 C) (fun b s₁ ⟨e, k1⟩ => ?_) fun _ _ x => x)
      subst e
      cases b with
      | true => exact wpAny_mono (ih h (C.keeps k1)) (fun b s₂ ⟨e, k2⟩ => ⟨e, kpx k1 k2⟩) fun _ _ x => x
      | false => exact ⟨Option.some.inj h, k1⟩
theorem any_ (K : SoundE v mean mg mb n k) {es : List Expr} {r : Bool} : ∀ {s : Shared}, anyO (k.t sc ρ) es = some r → Cx v mean mg mb n A hs O mine env sc ρ s → wpAny (pwm v) A (allTrue .Or es env) (Tells r s) No s := by
  induction es with
  | nil => exact fun h C => wpAny_allTrue_Or_nil ⟨Option.some.inj h, kpr _⟩
  | cons e t ih =>
    intro s h C
    replace h : (match k.t sc ρ e with | some true => some true | some false => anyO (k.t sc ρ) t | none => none) = some r := h
    cases h1 : k.t sc ρ e with
    | none => rw [h1] at h; exact none_some h
    | some q =>
      rw [h1] at h
      refine wpAny_allTrue_Or_cons (wpAny_mono (K.t h1 C) (fun b s₁ ⟨e, k1⟩ => ?_) fun _ _ x => x)
      subst e
      cases b with
      | true => exact ⟨Option.some.inj h, k1⟩
      | false => exact wpAny_mono (ih h (C.keeps k1)) (fun b s₂ ⟨e, k2⟩ => ⟨e, kpx k1 k2⟩) fun _ _ x => x

theorem isTrue_ifexp {c a b : Expr} {pos : Pos} {whole : Sem Value} {Q : Bool → Shared → Prop} (h : wpAny (pwm v) A (isTrue c env (eval c env)) (fun r s₁ => if r then wpAny (pwm v) A (isTrue a env (eval a env)) Q No s₁ else wpAny (pwm v) A (isTrue b env (eval b env)) Q No s₁) No s) :
    wpAny (pwm v) A (isTrue (.IfExp c a b pos) env whole) Q No s := by
  rw [arm_isTrue_IfExp]
  refine wpAny_bind (wpAny_mono h (fun r s₁ h₁ => ?_) fun _ _ x => x)
  cases r <;> exact h₁

theorem stepT_ok (W : WsAll v mg) (K : SoundE v mean mg mb n k) {x : Expr} {r : Bool} (h : stepT k sc ρ x = some r) (C : Cx v mean mg mb n A hs O mine env sc ρ s) : wpAny (pwm v) A (isTrue x env (eval x env)) (Tells r s) No s := by
  have dflt : (isTrue x env (eval x env) = (do let v ← eval x env; standAt x.pos; holding [v] (truthy v))) → (k.e sc ρ x).bind truthD = some r → wpAny (pwm v) A (isTrue x env (eval x env)) (Tells r s) No s := fun he h => by
    obtain ⟨d, hd, ht⟩ := Option.bind_eq_some_iff.mp h
    exact wpAny_isTrue_value (wpAny_mono (K.e hd C) (fun val s₁ ⟨r1, k1⟩ => wpAny_mono (truthK ht r1) (fun b s₂ ⟨e, k2⟩ => ⟨e, kpx k1 k2⟩) fun _ _ x => x) fun _ _ x => x) he
  cases x with
  | UnaryOp op x p =>
    cases op with
    | Not =>
      obtain ⟨b, hb, rfl⟩ := Option.map_eq_some_iff.mp (h : (k.t sc ρ x).map (!·) = some r)
      exact wpAny_isTrue_Not (wpAny_mono (K.t hb C) (fun b s₁ ⟨e, k1⟩ => ⟨by rw [e], k1⟩) fun _ _ x => x)
    | _ => exact dflt rfl h
  | BoolOp op es p =>
    cases op with
    | And => exact wpAny_isTrue_BoolOp (all_ K h C)
    | Or => exact wpAny_isTrue_BoolOp (any_ K h C)
  | IfExp c a b p =>
    replace h : (match k.t sc ρ c with | some true => k.t sc ρ a | some false => k.t sc ρ b | none => none) = some r := h
    cases h1 : k.t sc ρ c with
    | none => rw [h1] at h; exact none_some h
    | some q =>
      rw [h1] at h
      refine isTrue_ifexp (wpAny_mono (K.t h1 C) (fun b s₁ ⟨e, k1⟩ => ?_) fun _ _ x => x)
      subst e
      cases b <;> exact wpAny_mono (K.t h (C.keeps k1)) (fun b s₂ ⟨e, k2⟩ => ⟨e, kpx k1 k2⟩) fun _ _ x => x
  | Compare l ops rs p =>
    obtain ⟨op, r', a, b, rfl, rfl, hm, h1, h2, h3⟩ : ∃ op r' a b, ops = [op] ∧ rs = [r'] ∧ ¬ behindInMarks op r' = true ∧ k.e sc ρ l = some a ∧ k.e sc ρ r' = some b ∧ cmpD op a b = some r := by
      rcases ops with _ | ⟨op, _ | ⟨o2, ops⟩⟩
      · exact none_some h
      · rcases rs with _ | ⟨r', _ | ⟨r2, rs⟩⟩
        · exact none_some h
        · obtain ⟨hm, h⟩ := if_else (show (if behindInMarks op r' then none else (match k.e sc ρ l, k.e sc ρ r' with | some a, some b => cmpD op a b | _, _ => none)) = some r from h)
          cases h1 : k.e sc ρ l with
          | none => rw [h1] at h; exact none_some h
          | some a => cases h2 : k.e sc ρ r' with
            | none => rw [h1, h2] at h; exact none_some h
            | some b => rw [h1, h2] at h; exact ⟨op, r', a, b, rfl, rfl, hm, rfl, h2, h⟩
        · exact none_some h
      · exact none_some h
    exact wpAny_isTrue_Compare1 (two' K h1 h2 C fun va vb s₂ r1 r2 hk => wpAny_mono (cmp_of (h := s₂.heap) W h3 (C.keeps hk) r1 r2)
      (fun c s₃ ⟨e, hk'⟩ => by subst e; exact wpAny_truthy_bool ⟨rfl, kpx hk hk'⟩) fun _ _ x => x) (by simpa using hm)
  | _ => exact dflt rfl h
end
end Mine
end
noncomputable section
open PySem PySem.W PyProof.Rows PySem.Challenge PySem.SeqAt
set_option maxRecDepth 100000
set_option linter.unusedVariables false
namespace Mine

theorem upd_eq (ρ : Rho) (x : Str) (d : D) : upd1 (fun y => ρ.lookup y) x d = fun y => List.lookup y ((x, d) :: ρ) := by
  funext y
  unfold upd1
  rw [List.lookup_cons]
  by_cases h : y = x
  · subst h; simp
  · rw [if_neg h, beq_eq_false_iff_ne.mpr h]

section
variable {v : World} {mean : ExcName → Option Value} {mg mb : Str → Option Value} {n : Nat} {k : Kit} {A : Around} {hs : Heap} {O : Addr → Prop} {env : Env} {sc : Scope} {ρ : Rho} {s : Shared} {d : D}

/-- kept but for the own names and one address -/
noncomputable def KeepI (env : Env) (I : Addr) (h h' : Heap) : Prop := ∀ b o, b ≠ I → b ≠ env.locals → (∀ y, mineOf env y → env.cells.lookup y ≠ some b) → h.get? b = some o → h'.get? b = some o

theorem ER.seq_ne {hs h : Heap} {O mine ρ} (X : ER hs O mine env ρ h) {b : Addr} {c xs n} (e : h.get? b = some { cls := .type c, data := .seq xs n }) : b ≠ env.locals ∧ ∀ y, env.cells.lookup y ≠ some b := by
  refine ⟨?_, ?_⟩
  · rintro rfl
    obtain ⟨m, o, es, ep, ho, hd, _⟩ := X.ns
    rw [e] at ho; cases ho; cases hd
  · intro y hy
    obtain ⟨_, v, o, ho, hd⟩ := X.cells y b hy
    rw [e] at ho; cases ho; cases hd

theorem rep_keepI {h h' : Heap} {O : Addr → Prop} {I : Addr} {mine ρ} (X : ER hs O mine env ρ h) (hI : Flds h I) (hk : KeepI env I h h') {d : D} {v : Value} (r : Rep h O d v) : Rep h' O d v := by
  refine r.mono (fun b => ¬ (b ≠ I ∧ b ≠ env.locals ∧ ∀ y, env.cells.lookup y ≠ some b)) (fun b o hb e => ?_) fun b hb c xs m _ _ e => ?_
  · have hb := Classical.not_not.mp hb
    exact hk b o hb.1 hb.2.1 (fun y _ => hb.2.2 y) e
  · refine hb ⟨?_, X.seq_ne e⟩
    rintro rfl
    obtain ⟨o, fs, ho, hd⟩ := hI
    rw [e] at ho; cases ho; cases hd

theorem ob_keepI {h h' : Heap} {I : Addr} {mine ρ₁} (hO : OB O h) (X : ER hs O mine env ρ₁ h') (hI : ¬ O I) (kb : KeepI env I h h') : OB O h' := fun a q => by
  by_cases h1 : a = env.locals
  · subst h1; obtain ⟨m, o, _, _, ho, _⟩ := X.ns; exact ⟨o, ho⟩
  · by_cases h2 : ∃ y, env.cells.lookup y = some a
    · obtain ⟨y, hy⟩ := h2
      obtain ⟨_, _, o, ho, _⟩ := X.cells y a hy
      exact ⟨o, ho⟩
    · obtain ⟨o, e⟩ := hO a q
      exact ⟨o, kb a o (fun e => hI (e ▸ q)) h1 (fun y _ e => h2 ⟨y, e⟩) e⟩

theorem Flds.ne_seq {h : Heap} {I b : Addr} {c xs n} (F : Flds h I) (e : h.get? b = some { cls := .type c, data := .seq xs n }) : b ≠ I := by
  rintro rfl
  obtain ⟨o, fs, ho, hd⟩ := F
  rw [e] at ho; cases ho; cases hd
theorem forL_cons {f : Rho → D → Option (Rho × Fl)} {ρ ρ' : Rho} {d : D} {r : List D} {fl : Fl} (h : forL f ρ (d :: r) = some (ρ', fl)) : (∃ ρ₁, f ρ d = some (ρ₁, .next) ∧ forL f ρ₁ r = some (ρ', fl)) ∨ ∃ dd, f ρ d = some (ρ', .ret dd) ∧ .ret dd = fl := by
  replace h : (match f ρ d with | some (ρ', .next) => forL f ρ' r | some (ρ', .ret d) => some (ρ', .ret d) | _ => none) = some (ρ', fl) := h
  cases e : f ρ d with
  | none => rw [e] at h; exact none_some h
  | some q =>
    obtain ⟨ρ₁, g⟩ := q
    rw [e] at h
    cases g with
    | next => exact .inl ⟨ρ₁, rfl, h⟩
    | brk => exact none_some h
    | ret dd =>
      obtain ⟨e1, e2⟩ := Prod.mk.inj (Option.some.inj h)
      exact .inr ⟨dd, by rw [e1], e2⟩

theorem for_ (K : SoundS v mean mg mb n k) {x : Str} {px : Pos} {body : List Stmt} {I : Addr} {fp : List Addr} {ds : List D} {P : Nat → Value → Prop} {St : Nat → Heap → Prop} {lo : Nat} {ρ' : Rho} {fl : Fl}
    (h : forL (fun ρ d => exL (k.s sc) ((x, d) :: ρ) body) ρ ds = some (ρ', fl)) (hx : mineOf env x) (C : Cx v mean mg mb n A hs O (mineOf env) env sc ρ s) (T : Itr v A O I fp ds P St s.heap lo) (hI : hs.get? I = none) (hIO : ¬ O I) :
    codeAny (pwm v) A (.forLoop (.Name x px) (.ref I) body [] env) (fun r s' => ∃ f, r = .ok f ∧ Fits O fl s'.heap f ∧ ∃ h' tk, s' = { s with heap := h', toks := tk } ∧ ER hs O (mineOf env) env (fun y => ρ'.lookup y) h' ∧ KeepI env I s.heap h' ∧ 0 < tk) s := by
  have X0 := C.er
  have F0 := T.flds 0 _ T.st
  refine codeAny_hide fun Q hQ => ?_
  obtain ⟨J, hJ⟩ : ∃ J : Nat → Shared → Prop, ∀ m s', J m s' ↔ (∃ i ρi h tk, s' = { s with heap := h, toks := tk } ∧ m = ds.length - i ∧ i ≤ ds.length ∧ St i h ∧ ER hs O (mineOf env) env (fun y => List.lookup y ρi) h ∧ KeepI env I s.heap h ∧
      forL (fun ρ d => exL (k.s sc) ((x, d) :: ρ) body) ρi (ds.drop i) = some (ρ', fl) ∧ 0 < tk) := ⟨_, fun _ _ => Iff.rfl⟩
  refine codeAny_forLoop J ?_ (ds.length - 0) ((hJ _ _).mpr ⟨0, ρ, s.heap, s.toks, rfl, rfl, Nat.zero_le _, T.st, X0, fun _ _ _ _ _ e => e, h, C.tk⟩)
  intro m s' hm
  obtain ⟨i, ρi, H, tk, rfl, rfl, hi, hst, X, hk, hf, hpos⟩ := (hJ m s').mp hm
  clear hm
  have FI := T.flds i H hst
  have nI : env.locals ≠ I := let ⟨_, q⟩ := X.ns; FI.ns q
  have cI : ∀ y, env.cells.lookup y ≠ some I := fun y e => let ⟨_, _, q⟩ := X.cells y I e; FI.cell q rfl
  by_cases hlt : i < ds.length
  · rw [List.drop_eq_getElem_cons hlt] at hf
    refine walk_item T.W i hlt hst fun val h₁ tk₁ hP hst₁ hk₁ ht₁ => ?_
    have hk₁' : ∀ b o, b ≠ I → H.get? b = some o → h₁.get? b = some o := fun b o hb e => hk₁ b o (by simpa using hb) e
    have X₁ : ER hs O (mineOf env) env (fun y => List.lookup y ρi) h₁ := X.but FI hI hk₁'
    have kI₁ : KeepI env I s.heap h₁ := fun b o hb hl hc e => hk₁' b o hb (hk b o hb hl hc e)
    have rv : Rep h₁ O ds[i] val := rep_keepI X0 F0 kI₁ (T.item i val _ hP (by simp [hlt]))
    refine wpAny_assign_Name (storeK (s := { s with heap := h₁, toks := tk₁ }) X₁ hx rv fun h₂ tk₂ X₂ hsz hk₂ ht₂ => ?_)
    rw [upd_eq] at X₂
    have kI₂ : KeepI env I s.heap h₂ := fun b o hb hl hc e => hk₂ b o hl hc (kI₁ b o hb hl hc e)
    have foot : ∀ h₃, KeepI env I s.heap h₃ → (∀ o, h₁.get? I = some o → h₃.get? I = some o) → St (i + 1) h₃ := by
      intro h₃ hk₃ hII
      refine T.W.frame _ _ _ hst₁ fun b hb o e => ?_
      rcases T.foot b hb with rfl | ⟨_, c, xs, q, _, e0⟩
      · exact hII o e
      · have hbI : b ≠ I := F0.ne_seq e0
        obtain ⟨n1, n2⟩ := X0.seq_ne e0
        have := kI₁ b _ hbI n1 (fun y _ => n2 y) e0
        rw [← this.symm.trans e]
        exact hk₃ b _ hbI n1 (fun y _ => n2 y) e0
    rcases forL_cons hf with ⟨ρ₂, hb, hf⟩ | ⟨dd, hb, hfl⟩
    · refine wpAny_mono (execs_ (s := { s with heap := h₂, toks := tk₂ }) K hb ⟨C.room, C.bs0, X₂, C.scp, ob_keepI C.ob X₂ hIO kI₂, ht₂ (ht₁ hpos)⟩) (fun f s₃ hp => ?_) fun _ _ x => x.elim
      obtain ⟨rfl, h₃, tk₃, rfl, X₃, kb, ht₃⟩ := hp
      have kI₃ : KeepI env I s.heap h₃ := fun b o hb hl hc e => kb b o hl hc (kI₂ b o hb hl hc e)
      refine ⟨ds.length - (i + 1), by lia, (hJ _ _).mpr ⟨i + 1, ρ₂, h₃, tk₃, rfl, rfl, hlt, foot h₃ kI₃ fun o e => kb I o (Ne.symm nI) (fun y _ => cI y) (hk₂ I o (Ne.symm nI) (fun y _ => cI y) e), X₃, kI₃, hf, ht₃ (ht₂ (ht₁ hpos))⟩⟩
    · refine wpAny_mono (execs_ (s := { s with heap := h₂, toks := tk₂ }) K hb ⟨C.room, C.bs0, X₂, C.scp, ob_keepI C.ob X₂ hIO kI₂, ht₂ (ht₁ hpos)⟩) (fun f s₃ hp => ?_) fun _ _ x => x.elim
      obtain ⟨⟨val', rfl, rr⟩, h₃, tk₃, rfl, X₃, kb, ht₃⟩ := hp
      exact hQ _ _ ⟨_, rfl, hfl ▸ ⟨val', rfl, rr⟩, h₃, tk₃, rfl, X₃, fun b o hb hl hc e => kb b o hl hc (kI₂ b o hb hl hc e), ht₃ (ht₂ (ht₁ hpos))⟩
  · have hi' : i = ds.length := by lia
    rw [List.drop_eq_nil_of_le (by lia)] at hf
    obtain ⟨e1, e2⟩ := Prod.mk.inj (Option.some.inj hf)
    refine walk_done T.W (hi' ▸ hst) fun h₁ tk₁ hk₁ ht₁ => wpAny_execs_nil ?_
    have hk₁' : ∀ b o, b ≠ I → H.get? b = some o → h₁.get? b = some o := fun b o hb e => hk₁ b o (by simpa using hb) e
    exact hQ _ _ ⟨_, rfl, e2 ▸ rfl, h₁, tk₁, rfl, e1 ▸ X.but FI hI hk₁', fun b o hb hl hc e => hk₁' b o hb (hk b o hb hl hc e), ht₁ hpos⟩
end
end Mine
end
noncomputable section
open PySem PySem.W PyProof.Rows PySem.Challenge PySem.SeqAt
set_option maxRecDepth 100000
set_option linter.unusedVariables false
namespace Mine

section
variable {v : World} {mean : ExcName → Option Value} {mg mb : Str → Option Value} {n : Nat} {k : Kit} {A : Around} {hs : Heap} {O : Addr → Prop} {env : Env} {sc : Scope} {ρ : Rho} {s : Shared} {d : D}

theorem isOwn_mine {x : Str} (h : isOwn sc x = true) (he : env.scope = sc) : mineOf env x := by
  subst he
  unfold isOwn at h
  simp only [Bool.or_eq_true, beq_iff_eq] at h
  exact h

theorem post_store {x : Str} {val : Value} {s₁ : Shared} (X : ER hs O (mineOf env) env (fun y => ρ.lookup y) s₁.heap) (hx : mineOf env x) (r : Rep s₁.heap O d val) (hk : Kp s s₁) :
    wpAny (pwm v) A (storeName env x val) (fun _ => SPost hs O env ((x, d) :: ρ) .next s .next) No s₁ := by
  refine storeK X hx r fun h' tk X' hsz hk' ht => ?_
  rw [upd_eq] at X'
  obtain ⟨⟨h₁, tk₁, rfl, k1⟩, t1⟩ := hk
  exact ⟨rfl, h', tk, rfl, X', fun b o hb hc e => hk' b o hb hc (k1 b o e), fun q => ht (t1 q)⟩

/-- what the comprehensions' rule tells of an assignment with exchanged stores -/
noncomputable def CompUse (v : World) (mean : ExcName → Option Value) (mg mb : Str → Option Value) (n : Nat) (k : Kit) : Prop :=
  ∀ {sc : Scope} {ρ : Rho} {elt : Expr} {gens : List Comprehension} {csc : Scope} {cpos : Pos} {d : D}, k.e sc ρ (.ListComp elt gens csc cpos) = some d → ∀ {A hs O env} {s : Shared} {x : Str} {px pos : Pos},
    Cx v mean mg mb n A hs O (mineOf env) env sc ρ s → isOwn sc x = true → swapsWith (.ListComp elt gens csc cpos) (some (.Name x px)) pos.line env = pure true →
    wpAny (pwm v) A (exec (.Assign [.Name x px] (.ListComp elt gens csc cpos) pos) env) (SPost hs O env ((x, d) :: ρ) .next s) No s

structure Plain (k : Kit) : Prop where
  noSetComp : ∀ sc ρ a b c e, k.e sc ρ (.SetComp a b c e) = none
  noDictComp : ∀ sc ρ a b c e f, k.e sc ρ (.DictComp a b c e f) = none

theorem swaps_bool {a : Expr} {b : List Comprehension} {c : Scope} {e : Pos} {x : Str} {px : Pos} {l : Nat} : ∃ q : Bool, swapsWith (.ListComp a b c e) (some (.Name x px)) l env = pure q := ⟨_, rfl⟩

theorem tup2_eq {es : List Expr} {x y : Str} {p q : Pos} (h : tup2? es = some (x, p, y, q)) : es = [.Name x p, .Name y q] := by
  rcases es with _ | ⟨e1, es⟩
  · exact none_some h
  cases e1 with
  | Name a pa =>
    rcases es with _ | ⟨e2, es⟩
    · exact none_some h
    cases e2 with
    | Name b pb =>
      cases es with
      | nil =>
        obtain ⟨h1, h⟩ := Prod.mk.inj (Option.some.inj h)
        obtain ⟨h2, h⟩ := Prod.mk.inj h
        obtain ⟨h3, h4⟩ := Prod.mk.inj h
        rw [h1, h2, h3, h4]
      | cons _ _ => exact none_some h
    | _ => exact none_some h
  | _ => exact none_some h
theorem kp_frame {s₁ : Shared} (hk : Kp s s₁) : ∃ h' tk, s₁ = { s with heap := h', toks := tk } ∧ KeepBut env (mineOf env) s.heap h' ∧ (0 < s.toks → 0 < tk) := by
  obtain ⟨⟨h', tk, rfl, hk⟩, ht⟩ := hk
  exact ⟨h', tk, rfl, (fun b o _ _ e => hk b o e), ht⟩
theorem kp_post {s₁ : Shared} {fl : Fl} {f : Flow} (C : Cx v mean mg mb n A hs O (mineOf env) env sc ρ s) (hk : Kp s s₁) (hf : Fits O fl s₁.heap f) : SPost hs O env ρ fl s f s₁ := by
  have X := (C.keeps hk).er
  obtain ⟨h', tk, rfl, k, ht⟩ := kp_frame (env := env) hk
  exact ⟨hf, h', tk, rfl, X, k, ht⟩
theorem asg_name (KE : SoundE v mean mg mb n k) (KC : CompUse v mean mg mb n k) (KP : Plain k) {val : Expr} {x : Str} {px pos : Pos} {ρ' : Rho} {fl : Fl} (hx : isOwn sc x = true) (h : (k.e sc ρ val).map (fun d => ((x, d) :: ρ, Fl.next)) = some (ρ', fl)) (C : Cx v mean mg mb n A hs O (mineOf env) env sc ρ s) :
    wpAny (pwm v) A (exec (.Assign [.Name x px] val pos) env) (SPost hs O env ρ' fl s) No s := by
  obtain ⟨d, hd, e⟩ := Option.map_eq_some_iff.mp h
  obtain ⟨rfl, rfl⟩ := Prod.mk.inj e
  have usual : swapsWith val (some (.Name x px)) pos.line env = pure false → wpAny (pwm v) A (exec (.Assign [.Name x px] val pos) env) (SPost hs O env ((x, d) :: ρ) .next s) No s := fun hw =>
    wpAny_Assign_Name (wpAny_mono (KE.e hd C) (fun va s₁ ⟨r, hk⟩ => post_store (C.keeps hk).er (isOwn_mine hx C.scp) r hk) fun _ _ x => x) hw
  cases val with
  | ListComp a b c e =>
    obtain ⟨q, hq⟩ := swaps_bool (env := env) (a := a) (b := b) (c := c) (e := e) (x := x) (px := px) (l := pos.line)
    cases q with
    | false => exact usual hq
    | true => exact KC hd C hx hq
  | SetComp a b c e => exact none_some ((KP.noSetComp ..).symm.trans hd)
  | DictComp a b c e f => exact none_some ((KP.noDictComp ..).symm.trans hd)
  | _ => exact usual rfl
theorem asg2_inv {ρ' : Rho} {fl : Fl} {val : Expr} {x y : Str} (h : (match k.e sc ρ val with | some (.tup [a, b]) => some ((y, b) :: (x, a) :: ρ, Fl.next) | some (.lst [a, b]) => some ((y, b) :: (x, a) :: ρ, Fl.next) | _ => none) = some (ρ', fl)) :
    ∃ a b, (k.e sc ρ val = some (.tup [a, b]) ∨ k.e sc ρ val = some (.lst [a, b])) ∧ ((y, b) :: (x, a) :: ρ, Fl.next) = (ρ', fl) := by
  cases e : k.e sc ρ val with
  | none => rw [e] at h; exact none_some h
  | some d =>
    rw [e] at h
    cases d with
    | tup l =>
      rcases l with _ | ⟨a, _ | ⟨b, _ | ⟨c, l⟩⟩⟩
      · exact none_some h
      · exact none_some h
      · exact ⟨a, b, .inl rfl, Option.some.inj h⟩
      · exact none_some h
    | lst l =>
      rcases l with _ | ⟨a, _ | ⟨b, _ | ⟨c, l⟩⟩⟩
      · exact none_some h
      · exact none_some h
      · exact ⟨a, b, .inr rfl, Option.some.inj h⟩
      · exact none_some h
    | _ => exact none_some h
noncomputable abbrev asg2 (k : Kit) (sc : Scope) (ρ : Rho) (v : Expr) (x y : Str) : Option (Rho × Fl) := if isOwn sc x && isOwn sc y && !(x == y) && swOk v then (match k.e sc ρ v with
      | some (.tup [a, b]) => some ((y, b) :: (x, a) :: ρ, .next)
      | some (.lst [a, b]) => some ((y, b) :: (x, a) :: ρ, .next)
      | _ => none) else none
theorem asg_ok (KE : SoundE v mean mg mb n k) (KC : CompUse v mean mg mb n k) (KP : Plain k)
    (KT : ∀ {x y : Str} {px py pt pos : Pos} {q : Nat} {val : Expr} {a b : D}, isOwn sc x = true → isOwn sc y = true → (x == y) = false → swOk val = true → (k.e sc ρ val = some (.tup [a, b]) ∨ k.e sc ρ val = some (.lst [a, b])) → Cx v mean mg mb n A hs O (mineOf env) env sc ρ s →
      wpAny (pwm v) A (exec (.Assign [.Tuple [.Name x px, .Name y py] q pt] val pos) env) (SPost hs O env ((y, b) :: (x, a) :: ρ) .next s) No s)
    {t val : Expr} {pos : Pos} {ρ' : Rho} {fl : Fl} (h : asg1S k sc ρ val t = some (ρ', fl)) (C : Cx v mean mg mb n A hs O (mineOf env) env sc ρ s) : wpAny (pwm v) A (exec (.Assign [t] val pos) env) (SPost hs O env ρ' fl s) No s := by
  cases t with
  | Name x px =>
    obtain ⟨hx, h⟩ := if_then h
    exact asg_name KE KC KP hx h C
  | Tuple es q pt =>
    cases ht : tup2? es with
    | none =>
      replace h : (match tup2? es with | some (x, _, y, _) => asg2 k sc ρ val x y | none => none) = some (ρ', fl) := h
      rw [ht] at h
      exact none_some h
    | some q =>
      obtain ⟨x, px, y, py⟩ := q
      obtain rfl := tup2_eq ht
      obtain ⟨hx, h⟩ := if_then (show asg2 k sc ρ val x y = some (ρ', fl) from h)
      simp only [Bool.and_eq_true, Bool.not_eq_true'] at hx
      obtain ⟨a, b, hd, e⟩ := asg2_inv h
      obtain ⟨rfl, rfl⟩ := Prod.mk.inj e
      exact KT hx.1.1.1 hx.1.1.2 hx.1.2 hx.2 hd C
  | _ => exact none_some h
theorem aug_inv {ρ' : Rho} {fl : Fl} {val : Expr} {x : Str} (h : (match ρ.lookup x, k.e sc ρ val with | some (.int a), some (.int b) => some ((x, D.int (a + b)) :: ρ, Fl.next) | _, _ => none) = some (ρ', fl)) :
    ∃ a b, ρ.lookup x = some (.int a) ∧ k.e sc ρ val = some (.int b) ∧ ((x, D.int (a + b)) :: ρ, Fl.next) = (ρ', fl) := by
  cases e1 : ρ.lookup x with
  | none => rw [e1] at h; exact none_some h
  | some d =>
    rw [e1] at h
    cases d with
    | int a =>
      cases e2 : k.e sc ρ val with
      | none => rw [e2] at h; exact none_some h
      | some d2 =>
        rw [e2] at h
        cases d2 with
        | int b => exact ⟨a, b, rfl, rfl, Option.some.inj h⟩
        | _ => exact none_some h
    | _ => exact none_some h
theorem aug_ok (KE : SoundE v mean mg mb n k) {t val : Expr} {pos : Pos} {ρ' : Rho} {fl : Fl} (h : augS k sc ρ val t = some (ρ', fl)) (C : Cx v mean mg mb n A hs O (mineOf env) env sc ρ s) : wpAny (pwm v) A (exec (.AugAssign t .Add val pos) env) (SPost hs O env ρ' fl s) No s := by
  cases t with
  | Name x px =>
    obtain ⟨hx, h⟩ := if_then h
    rw [Bool.and_eq_true] at hx
    obtain ⟨a, b, h1, h2, e⟩ := aug_inv h
    obtain ⟨rfl, rfl⟩ := Prod.mk.inj e
    have hv : isVar sc x = true := by
      have := hx.1
      unfold isOwn at this
      unfold isVar
      rw [this]; rfl
    obtain ⟨v1, hvar, hr⟩ := C.er.vars x _ h1 (isV_of hv C.scp)
    have hg := hx.2
    unfold goodName at hg
    simp only [Bool.and_eq_true, Bool.not_eq_true'] at hg
    obtain ⟨t1, rfl⟩ := rep_int hr
    refine wpAny_AugAssign_Name (loadVar C.er hvar ?_ hg.2)
    refine wpAny_mono (KE.e h2 C) (fun vb s₁ ⟨r2, hk⟩ => ?_) fun _ _ x => x
    obtain ⟨t2, rfl⟩ := rep_int r2
    exact P.iadd_int (post_store (s₁ := { s₁ with toks := s₁.toks + 1 }) (C.keeps hk).er (isOwn_mine hx.1 C.scp) (.int _ _) (kpx hk (kpt _)))
  | _ => exact none_some h
theorem forS_ok (KE : SoundE v mean mg mb n k) (K : SoundS v mean mg mb n k) {t it : Expr} {b : List Stmt} {pos : Pos} {ρ' : Rho} {fl : Fl} (h : forS k sc ρ it b t = some (ρ', fl)) (C : Cx v mean mg mb n A hs O (mineOf env) env sc ρ s) : wpAny (pwm v) A (exec (.For t it b [] pos) env) (SPost hs O env ρ' fl s) No s := by
  cases t with
  | Name x px =>
      obtain ⟨hx, h⟩ := if_then h
      cases hit : stepIter k sc ρ it with
      | none => rw [hit] at h; exact none_some h
      | some ds =>
        rw [hit] at h
        obtain ⟨h1, h2⟩ := stepIter_ok KE hit C
        refine wpAny_For (wpAny_mono h1 (fun val s₁ q => wpAny_mono q (fun itv s₂ q => ?_) fun _ _ x => x) fun _ _ x => x) h2
        obtain ⟨⟨I, fp, P, St, rfl, T, k2⟩, k1⟩ := q
        have C2 := C.keeps (kpx k1 k2)
        have hlt : env.locals < s₁.heap.objs.size := let ⟨m, o, _, _, ho, _⟩ := (C.keeps k1).er.ns; Heap.lt_size ho
        have hI : hs.get? I = none := Heap.get?_none_of_le (Nat.le_trans C.er.above (Nat.le_of_lt (Nat.lt_of_lt_of_le hlt T.above)))
        refine codeAny_mono (for_ K h (isOwn_mine hx C.scp) C2 T hI (((C.keeps k1).ob).new T.above)) fun r s' hz => ?_
        obtain ⟨f, rfl, fi, h', tk, rfl, X, kI, hp⟩ := hz
        obtain ⟨⟨hh, tt, rfl, kk⟩, tt'⟩ := kpx k1 k2
        refine ⟨fi, h', tk, rfl, X, (fun b o hb hc e => kI b o ?_ hb hc (kk b o e)), fun _ => hp⟩
        obtain ⟨⟨h1', t1', rfl, kk1⟩, _⟩ := k1
        have : b < h1'.objs.size := Heap.lt_size (kk1 b o e)
        have := T.above
        exact Nat.ne_of_lt (Nat.lt_of_lt_of_le ‹b < _› this)
  | _ => exact none_some h
theorem stepS_ok (W : WsAll v mg) (KE : SoundE v mean mg mb n k) (K : SoundS v mean mg mb n k) (KC : CompUse v mean mg mb n k) (KP : Plain k)
    (KT : ∀ {x y : Str} {px py pt pos : Pos} {q : Nat} {val : Expr} {a b : D}, isOwn sc x = true → isOwn sc y = true → (x == y) = false → swOk val = true → (k.e sc ρ val = some (.tup [a, b]) ∨ k.e sc ρ val = some (.lst [a, b])) → Cx v mean mg mb n A hs O (mineOf env) env sc ρ s →
      wpAny (pwm v) A (exec (.Assign [.Tuple [.Name x px, .Name y py] q pt] val pos) env) (SPost hs O env ((y, b) :: (x, a) :: ρ) .next s) No s)
    {st : Stmt} {ρ' : Rho} {fl : Fl} (h : stepS k sc ρ st = some (ρ', fl)) (C : Cx v mean mg mb n A hs O (mineOf env) env sc ρ s) : wpAny (pwm v) A (exec st env) (SPost hs O env ρ' fl s) No s := by
  cases st with
  | Assign ts val pos =>
    rcases ts with _ | ⟨t, _ | ⟨t2, ts⟩⟩
    · exact none_some h
    · exact asg_ok KE KC KP KT h C
    · exact none_some h
  | AugAssign t op val pos =>
    cases op with
    | Add => exact aug_ok KE h C
    | _ => exact none_some h
  | If c a b pos =>
    replace h : (match k.t sc ρ c with | some true => exL (k.s sc) ρ a | some false => exL (k.s sc) ρ b | none => none) = some (ρ', fl) := h
    cases hb : k.t sc ρ c with
    | none => rw [hb] at h; exact none_some h
    | some q =>
      rw [hb] at h
      refine wpAny_If (wpAny_mono (KE.t hb C) (fun b s₁ ⟨e, k1⟩ => ?_) fun _ _ x => x)
      subst e
      cases b <;> exact wpAny_mono (execs_ K h (C.keeps k1)) (fun f s₂ hp => SPost.trans (ρ₁ := ρ) (kp_frame k1) hp) fun _ _ x => x
  | While c b els pos =>
    obtain ⟨he, h⟩ := if_then h
    obtain rfl := List.isEmpty_iff.mp he
    exact wpAny_While (codeAny_mono (K.w h C) fun r s' ⟨f, e, q⟩ => by subst e; exact q)
  | For t it b els pos =>
    obtain ⟨he, h⟩ := if_then h
    obtain rfl := List.isEmpty_iff.mp he
    exact forS_ok KE K h C
  | Try b hds els fin pos =>
    obtain ⟨hb, h⟩ := if_then h
    simp only [Bool.and_eq_true, List.isEmpty_iff] at hb
    obtain ⟨⟨hb1, rfl⟩, rfl⟩ := hb
    cases hds with
    | nil => cases hb1
    | cons hd hds =>
      refine wpAny_Try_except (wpAny_mono (execs_ K h C) (fun f s₁ hp => ?_) fun _ _ x => x.elim)
      cases fl with
      | next => obtain ⟨rfl, q⟩ := hp; exact wpAny_execs_nil ⟨rfl, q⟩
      | brk => obtain ⟨rfl, q⟩ := hp; exact ⟨rfl, q⟩
      | ret d => obtain ⟨⟨val, rfl, r⟩, q⟩ := hp; exact ⟨⟨val, rfl, r⟩, q⟩
  | Return e pos =>
    cases e with
    | none => exact none_some h
    | some e =>
      obtain ⟨d, hd, e⟩ := Option.map_eq_some_iff.mp (show (k.e sc ρ e).map (fun d => (ρ, Fl.ret d)) = some (ρ', fl) from h)
      obtain ⟨rfl, rfl⟩ := Prod.mk.inj e
      exact wpAny_Return_some (wpAny_mono (KE.e hd C) (fun val s₁ ⟨r, hk⟩ => kp_post C hk ⟨val, rfl, r⟩) fun _ _ x => x)
  | Assert c m pos =>
    replace h : (match k.t sc ρ c with | some true => some (ρ, Fl.next) | _ => none) = some (ρ', fl) := h
    cases hb : k.t sc ρ c with
    | none => rw [hb] at h; exact none_some h
    | some q =>
      rw [hb] at h
      cases q with
      | false => exact none_some h
      | true =>
        obtain ⟨rfl, rfl⟩ := Prod.mk.inj (Option.some.inj h)
        exact wpAny_Assert_holds (wpAny_mono (KE.t hb C) (fun b s₁ ⟨e, hk⟩ => ⟨e, kp_post C hk rfl⟩) fun _ _ x => x)
  | _ => exact none_some h
end
end Mine
end
noncomputable section
open PySem PySem.W PyProof.Rows PySem.Challenge PySem.SeqAt
set_option maxRecDepth 100000
set_option linter.unusedVariables false
namespace Mine

/-- the closure of a scope in an env whose cells are there -/
noncomputable def clo (env : Env) : List (Str × NameKind) → List (Str × Addr) → List (Str × Addr)
  | [], acc => acc
  | (y, kd) :: r, acc => if kd == .free then clo env r ((y, (env.cells.lookup y).getD 0) :: acc) else clo env r acc

theorem clo_forIn {env : Env} (f : Str × NameKind → List (Str × Addr) → Sem (ForInStep (List (Str × Addr))))
    (hf : ∀ y kd cs, f (y, kd) cs = if kd == .free then (do let c ← cellOf env y; pure (.yield ((y, c) :: cs))) else pure (.yield cs)) :
    ∀ (names : List (Str × NameKind)) (acc : List (Str × Addr)), (∀ y, (y, NameKind.free) ∈ names → ∃ c, env.cells.lookup y = some c) → forIn names acc f = pure (clo env names acc)
  | [], acc, _ => by rw [List.forIn_nil]; rfl
  | (y, kd) :: r, acc, h => by
    have hr : ∀ y, (y, NameKind.free) ∈ r → ∃ c, env.cells.lookup y = some c := fun y hy => h y (List.mem_cons_of_mem _ hy)
    rw [List.forIn_cons, hf, clo]
    by_cases hk : (kd == NameKind.free) = true
    · rw [if_pos hk, if_pos hk]
      have hk' : kd = .free := beq_iff_eq.mp hk
      subst hk'
      obtain ⟨c, hc⟩ := h y List.mem_cons_self
      unfold cellOf
      rw [hc]
      simp only [pure_bind, Option.getD_some]
      exact clo_forIn f hf r _ hr
    · rw [if_neg hk, if_neg hk]
      simp only [pure_bind]
      exact clo_forIn f hf r _ hr

theorem closure_ {scope : Scope} {env : Env} (h : ∀ y, (y, NameKind.free) ∈ scope.names → ∃ c, env.cells.lookup y = some c) : closureFor scope env = pure (clo env scope.names []) := by
  unfold closureFor
  simp only [bind_pure]
  refine clo_forIn _ (fun y kd cs => ?_) _ _ h
  split <;> simp_all

theorem clo_mem {env : Env} : ∀ {names : List (Str × NameKind)} {acc : List (Str × Addr)} {y : Str} {c : Addr}, (∀ y, (y, NameKind.free) ∈ names → ∃ c, env.cells.lookup y = some c) → (y, c) ∈ clo env names acc → (y, c) ∈ acc ∨ ((y, NameKind.free) ∈ names ∧ env.cells.lookup y = some c)
  | [], acc, y, c, _, h => .inl h
  | (z, kd) :: r, acc, y, c, hh, h => by
    have hr : ∀ y, (y, NameKind.free) ∈ r → ∃ c, env.cells.lookup y = some c := fun y hy => hh y (List.mem_cons_of_mem _ hy)
    unfold clo at h
    split at h
    · rename_i hk
      have hk' : kd = .free := beq_iff_eq.mp hk
      subst hk'
      rcases clo_mem hr h with h | ⟨h, e⟩
      · rcases List.mem_cons.mp h with h | h
        · cases h
          obtain ⟨c, hc⟩ := hh z List.mem_cons_self
          exact .inr ⟨List.mem_cons_self, by rw [hc]; rfl⟩
        · exact .inl h
      · exact .inr ⟨List.mem_cons_of_mem _ h, e⟩
    · rcases clo_mem hr h with h | ⟨h, e⟩
      · exact .inl h
      · exact .inr ⟨List.mem_cons_of_mem _ h, e⟩

theorem clo_some {env : Env} : ∀ {names : List (Str × NameKind)} {acc : List (Str × Addr)} {y : Str}, ((y, NameKind.free) ∈ names ∨ (acc.lookup y).isSome = true) → ((clo env names acc).lookup y).isSome = true
  | [], acc, y, h => by
    rcases h with h | h
    · cases h
    · exact h
  | (z, kd) :: r, acc, y, h => by
    unfold clo
    by_cases hk : (kd == NameKind.free) = true
    · rw [if_pos hk]
      refine clo_some ?_
      rw [List.lookup_cons]
      by_cases hxy : y = z
      · subst hxy; right; simp
      · rw [beq_eq_false_iff_ne.mpr hxy]
        rcases h with h | h
        · rcases List.mem_cons.mp h with e | e
          · cases e; exact (hxy rfl).elim
          · exact .inl e
        · exact .inr h
    · rw [if_neg hk]
      refine clo_some ?_
      rcases h with h | h
      · rcases List.mem_cons.mp h with e | e
        · cases e; exact (hk rfl).elim
        · exact .inl e
      · exact .inr h

theorem cells_mem : ∀ {names : List (Str × NameKind)} {h : Heap} {acc : List (Str × Addr)} {y : Str} {c : Addr}, (y, c) ∈ cellsFrom h.objs.size names acc → (y, c) ∈ acc ∨ ((y, NameKind.cell) ∈ names ∧ h.objs.size ≤ c ∧ (pushCells h names).IsCell c none)
  | [], h, acc, y, c, e => .inl e
  | (z, kd) :: r, h, acc, y, c, e => by
    unfold cellsFrom at e
    unfold pushCells
    split at e
    · rename_i hk
      rw [if_pos hk]
      have hk' : kd = .cell := beq_iff_eq.mp hk
      subst hk'
      rw [← Heap.size_push h { cls := .type "cell", data := .cell none }] at e
      rcases cells_mem e with e | ⟨a, b, q⟩
      · rcases List.mem_cons.mp e with e | e
        · cases e
          exact .inr ⟨List.mem_cons_self, Nat.le_refl _, _, pushCells_keeps _ _ _ _ (Heap.get?_push_size _ rfl), rfl⟩
        · exact .inl e
      · rw [Heap.size_push] at b
        exact .inr ⟨List.mem_cons_of_mem _ a, by lia, q⟩
    · rename_i hk
      rw [if_neg hk]
      rcases cells_mem e with e | ⟨a, b, q⟩
      · exact .inl e
      · exact .inr ⟨List.mem_cons_of_mem _ a, b, q⟩

theorem relab_look {csc sc : Scope} {y : Str} : (relab csc sc).names.lookup y = match csc.names.lookup y with
    | some k => some (if (k == .free && sc.kind == .function && sc.names.lookup y == some .cell) then .cell else k)
    | none => none := by
  unfold relab
  dsimp only
  induction csc.names with
  | nil => rfl
  | cons a r ih =>
    obtain ⟨z, k⟩ := a
    simp only [List.map_cons, List.lookup_cons]
    by_cases h : y = z
    · subst h
      split
      · rename_i hc; simp [hc]
      · rename_i hc; simp [hc]
    · split
      · simp only [List.lookup_cons, beq_eq_false_iff_ne.mpr h]; exact ih
      · simp only [List.lookup_cons, beq_eq_false_iff_ne.mpr h]; exact ih

theorem dup_look : ∀ {names : List (Str × NameKind)} {y : Str} {k : NameKind}, dupFree (names.map Prod.fst) = true → (y, k) ∈ names → names.lookup y = some k
  | [], y, k, _, h => by cases h
  | (z, kd) :: r, y, k, hd, h => by
    simp only [List.map_cons, dupFree, Bool.and_eq_true, Bool.not_eq_true', List.contains_eq_mem, decide_eq_false_iff_not] at hd
    rw [List.lookup_cons]
    rcases List.mem_cons.mp h with e | e
    · cases e; simp
    · have hne : y ≠ z := by
        rintro rfl
        exact hd.1 (List.mem_map_of_mem (f := Prod.fst) e)
      rw [beq_eq_false_iff_ne.mpr hne]
      exact dup_look hd.2 e
end Mine
end
noncomputable section
open PySem PySem.W PyProof.Rows PySem.Challenge PySem.SeqAt
set_option maxRecDepth 100000
set_option linter.unusedVariables false
namespace Mine

noncomputable def compEnv' (csc : Scope) (cl : List (Str × Addr)) (C : Addr) (env : Env) : Env :=
  { scope := relabel csc env, locals := C, globals := env.globals, cells := cl, qual := env.qual, func := none, code := env.code, frame := env.frame, builtins := env.builtins }

theorem newEnv_comp {v : World} {A : Around} {s : Shared} {csc : Scope} {cl : List (Str × Addr)} {env : Env} {Q : Env → Shared → Prop}
    (hQ : Q { scope := csc, locals := s.heap.objs.size, globals := env.globals, cells := cellsFrom (s.heap.objs.size + 1) csc.names cl, qual := env.qual, func := none, code := env.code, frame := env.frame, builtins := env.builtins }
      { s with heap := pushCells (s.heap.push { cls := .type "dict", data := .dict #[] }) csc.names }) :
    wpAny (pwm v) A (newFunctionEnv csc env.globals cl [] env.qual none .none (some env)) Q No s := by
  simp only [newFunctionEnv, Option.isSome_some, if_true]
  refine wpAny_bind (wpAny_alloc ?_)
  refine wpAny_bind (wpAny_layCells _ (fun name kind cells => by cases hkc : kind == NameKind.cell <;> simp [hkc]) _ _ _ _ ?_)
  rw [show ({ s with heap := s.heap.push { cls := .type "dict", data := .dict #[] } } : Shared).heap.objs.size = s.heap.objs.size + 1 from Heap.size_push ..]
  exact wpAny_bind (wpAny_pure (wpAny_pure hQ))

theorem widen_both {h : Heap} {O O' : Addr → Prop} (hO : ∀ a, O' a → O a ∨ h.get? a = none) : (∀ {d : D} {v : Value}, Rep h O d v → Rep h O' d v) ∧ ∀ {ds : List D} {vs : List Value}, Reps h O ds vs → Reps h O' ds vs :=
  ⟨fun r => Rep.rec (motive_1 := fun d v _ => Rep h O' d v) (motive_2 := fun ds vs _ => Reps h O' ds vs) .none .bool .int .str (fun ho hn _ ih => .lst ho (fun q => (hO _ q).elim hn fun e => none_some (e.symm.trans ho)) ih) (fun ho hn _ ih => .tup ho (fun q => (hO _ q).elim hn fun e => none_some (e.symm.trans ho)) ih) .ws .ill .val .nil (fun _ _ a b => .cons a b) r,
   fun r => Reps.rec (motive_1 := fun d v _ => Rep h O' d v) (motive_2 := fun ds vs _ => Reps h O' ds vs) .none .bool .int .str (fun ho hn _ ih => .lst ho (fun q => (hO _ q).elim hn fun e => none_some (e.symm.trans ho)) ih) (fun ho hn _ ih => .tup ho (fun q => (hO _ q).elim hn fun e => none_some (e.symm.trans ho)) ih) .ws .ill .val .nil (fun _ _ a b => .cons a b) r⟩
theorem Rep.widen {h : Heap} {O O' : Addr → Prop} (hO : ∀ a, O' a → O a ∨ h.get? a = Option.none) {d : D} {v : Value} (r : Rep h O d v) : Rep h O' d v := (widen_both hO).1 r
theorem Reps.widen {h : Heap} {O O' : Addr → Prop} (hO : ∀ a, O' a → O a ∨ h.get? a = Option.none) {ds : List D} {vs : List Value} (r : Reps h O ds vs) : Reps h O' ds vs := (widen_both hO).2 r

structure CompFacts (csc sc : Scope) (x : Str) : Prop where
  kind : csc.kind = .function
  skind : sc.kind = .function
  dup : dupFree (csc.names.map Prod.fst) = true
  own : csc.names.lookup x = some .local ∨ csc.names.lookup x = some .cell
  alone : ∀ y k, (y, k) ∈ csc.names → y = x ∨ (k ≠ .cell ∧ (k = .local → y = dot0))
  outer : ∀ y, (y, NameKind.free) ∈ csc.names → sc.names.lookup y = some .cell ∨ sc.names.lookup y = some .free

theorem comp_facts {csc sc : Scope} {x : Str} (h : compOk csc sc x = true) : CompFacts csc sc x ∧ goodName x = true := by
  unfold compOk isOwn at h
  simp only [Bool.and_eq_true, beq_iff_eq, Bool.or_eq_true] at h
  obtain ⟨⟨⟨⟨⟨⟨h1, h2⟩, h3⟩, h4⟩, h5⟩, h6⟩, h7⟩ := h
  refine ⟨⟨h1, h2, h3, h4, fun y k hm => ?_, fun y hm => ?_⟩, h5⟩
  · have := List.all_eq_true.mp h6 _ hm
    simp only [Bool.or_eq_true, beq_iff_eq, Bool.and_eq_true, bne_iff_ne, ne_eq] at this
    exact this.imp id fun q => ⟨q.1, fun e => q.2.resolve_left fun z => z e⟩
  · have := List.all_eq_true.mp h7 _ hm
    simpa using this

theorem comp_er {hs : Heap} {O O' : Addr → Prop} {mine : Str → Prop} {env : Env} {ρ : Rho} {csc sc : Scope} {x : Str} {H0 H3 : Heap} (X : ER hs O mine env (fun y => ρ.lookup y) H0) (hsc : env.scope = sc) (F : CompFacts csc sc x)
    (k03 : KeepsH H0 H3) (hsz : H0.objs.size ≤ H3.objs.size) (hO : ∀ a, O' a → O a ∨ H0.get? a = none) (hdot : ρ.lookup dot0 = none) :
    ER H0 O' (· = x) (compEnv' csc (cellsFrom (H3.objs.size + 1) csc.names (clo env csc.names [])) H3.objs.size env) (fun y => if y = x then none else ρ.lookup y)
      (pushCells (H3.push { cls := .type "dict", data := .dict #[] }) csc.names) := by
  have hfree : ∀ y, (y, NameKind.free) ∈ csc.names → ∃ c, env.cells.lookup y = some c := fun y hy => X.full y (by
    have := F.outer y hy
    subst hsc
    exact this)
  have hsize : (H3.push { cls := .type "dict", data := .dict #[] }).objs.size = H3.objs.size + 1 := Heap.size_push ..
  have k4 : KeepsH H0 (pushCells (H3.push { cls := .type "dict", data := .dict #[] }) csc.names) := fun b o e => pushCells_keeps _ _ b o (Heap.get?_push_of_some _ (k03 b o e))
  have mem : ∀ {y c}, (y, c) ∈ cellsFrom (H3.objs.size + 1) csc.names (clo env csc.names []) → ((y, NameKind.free) ∈ csc.names ∧ env.cells.lookup y = some c) ∨
      ((y, NameKind.cell) ∈ csc.names ∧ H3.objs.size + 1 ≤ c ∧ (pushCells (H3.push { cls := .type "dict", data := .dict #[] }) csc.names).IsCell c none) := by
    intro y c h
    rw [← hsize] at h
    rcases cells_mem h with h | ⟨a, b, q⟩
    · rcases clo_mem hfree h with h | h
      · cases h
      · exact .inl h
    · rw [hsize] at b; exact .inr ⟨a, b, q⟩
  have look : ∀ y, (compEnv' csc (cellsFrom (H3.objs.size + 1) csc.names (clo env csc.names [])) H3.objs.size env).kindOf y = (relab csc sc).names.lookup y := fun y => by subst hsc; rfl
  have oldlt : ∀ {c : Nat} {w}, H0.IsCell c w → (c : Nat) < H0.objs.size := fun q => q.lt
  refine ⟨k4, F.kind, X.glob, X.blt, ⟨_, (Heap.Ns.new H3 (.type "dict")).keeps (pushCells_keeps _ _)⟩, hsz, ?_, ?_, ?_, ?_, ?_⟩
  · intro y z c h1 h2
    rcases mem (mem_of_lookup h1) with ⟨a1, e1⟩ | ⟨a1, b1, _⟩ <;> rcases mem (mem_of_lookup h2) with ⟨a2, e2⟩ | ⟨a2, b2, _⟩
    · exact X.apart y z c e1 e2
    · obtain ⟨_, w, q⟩ := X.cells y c e1
      have := oldlt q; lia
    · obtain ⟨_, w, q⟩ := X.cells z c e2
      have := oldlt q; lia
    · have n1 := F.alone y _ a1
      have n2 := F.alone z _ a2
      exact (n1.resolve_right fun q => q.1 rfl).trans (n2.resolve_right fun q => q.1 rfl).symm
  · intro y c h
    rcases mem (mem_of_lookup h) with ⟨a1, e1⟩ | ⟨a1, b1, q⟩
    · obtain ⟨_, w, q⟩ := X.cells y c e1
      have hlt := oldlt q
      exact ⟨Nat.ne_of_lt (Nat.lt_of_lt_of_le hlt hsz), w, q.keeps k4⟩
    · exact ⟨Nat.ne_of_gt b1, _, q⟩
  · rintro y rfl
    rw [look, relab_look]
    rcases F.own with h | h
    · rw [h]; exact .inl rfl
    · rw [h]
      refine .inr ⟨rfl, ?_⟩
      have hm := mem_of_lookup h
      obtain ⟨c, hc⟩ := Option.isSome_iff_exists.mp (cells_some (H3.objs.size + 1) (clo env csc.names []) (.inl hm))
      refine ⟨c, hc, ?_⟩
      rcases mem (mem_of_lookup hc) with ⟨a1, _⟩ | ⟨_, b1, _⟩
      · rw [dup_look F.dup a1] at h; cases h
      · lia
  · intro y hy
    rw [look, relab_look] at hy
    cases hk : csc.names.lookup y with
    | none => rw [hk] at hy; simp at hy
    | some kd =>
      have hm := mem_of_lookup hk
      have hkd : kd = .free ∨ kd = .cell := by
        rw [hk] at hy
        cases kd <;> simp at hy ⊢
      rcases hkd with rfl | rfl
      · exact Option.isSome_iff_exists.mp (cells_some _ _ (.inr (clo_some (.inl hm))))
      · exact Option.isSome_iff_exists.mp (cells_some _ _ (.inl hm))
  · intro y d h hv
    by_cases hyx : y = x
    · simp [hyx] at h
    · simp only [if_neg hyx] at h
      rw [look, relab_look] at hv
      cases hk : csc.names.lookup y with
      | none => rw [hk] at hv; rcases hv with hv | hv | hv <;> cases hv
      | some kd =>
        have hm := mem_of_lookup hk
        have hn := (F.alone y kd hm).resolve_left hyx
        have hnl : kd ≠ .local := fun e => by
          have := hn.2 e
          subst this
          rw [hdot] at h; cases h
        have hkd : kd = .free := by
          rw [hk] at hv
          rcases hv with hv | hv | hv <;> revert hv <;> cases kd <;> simp_all
        subst hkd
        have ho := F.outer y hm
        subst hsc
        obtain ⟨w, hvar, hr⟩ := X.vars y d h (.inr ho)
        refine ⟨w, ?_, (hr.widen hO).keeps k4⟩
        rcases hvar with ⟨hl, _⟩ | ⟨_, c, hc, hi⟩
        · rcases ho with q | q <;> (have : some NameKind.local = _ := hl.symm.trans q; cases this)
        · obtain ⟨c', hc'⟩ := Option.isSome_iff_exists.mp (cells_some (names := csc.names) (H3.objs.size + 1) (clo env csc.names []) (.inr (clo_some (.inl hm))))
          have : c' = c := by
            rcases mem (mem_of_lookup hc') with ⟨_, e⟩ | ⟨a, _, _⟩
            · rw [hc] at e; cases e; rfl
            · have := dup_look F.dup a; rw [hk] at this; cases this
          subst this
          refine .inr ⟨?_, c', hc', hi.keeps k4⟩
          rw [look, relab_look, hk]
          dsimp only
          split
          · exact .inl rfl
          · exact .inr rfl
end Mine
end
noncomputable section
open PySem PySem.W PyProof.Rows PySem.Challenge PySem.SeqAt
set_option maxRecDepth 100000
set_option linter.unusedVariables false
namespace Mine

section
variable {v : World} {mean : ExcName → Option Value} {mg mb : Str → Option Value} {n : Nat} {k : Kit} {A : Around} {env : Env} {sc : Scope} {ρ : Rho} {s : Shared} {d : D}

theorem tests_ {hs : Heap} {O : Addr → Prop} {mine : Str → Prop} (K : SoundE v mean mg mb n k) : ∀ {ifs : List Expr} {r : Bool} {s : Shared}, allO (k.t sc ρ) ifs = some r → Cx v mean mg mb n A hs O mine env sc ρ s → ∀ (b : Bool), (b = false → r = false ∨ ifs = []) →
    wpAny (pwm v) A (forIn ifs b fun c r => if r = true then do let ok ← isTrue c env (eval c env); pure (ForInStep.yield ok) else pure (ForInStep.yield r)) (fun ok s' => ok = (b && r) ∧ Kp s s') No s
  | [], r, s, h, C, b, hb => by
    cases h
    rw [List.forIn_nil]
    exact wpAny_pure ⟨by simp, kpr _⟩
  | e :: t, r, s, h, C, b, hb => by
    rw [List.forIn_cons]
    cases b with
    | false =>
      simp only [Bool.false_eq_true, if_false]
      refine wpAny_bind (wpAny_pure ?_)
      have none_left : ∀ (t : List Expr) (s : Shared), wpAny (pwm v) A (forIn t false fun c r => if r = true then do let ok ← isTrue c env (eval c env); pure (ForInStep.yield ok) else pure (ForInStep.yield r)) (fun ok s' => ok = false ∧ Kp s s') No s := by
        intro t
        induction t with
        | nil => intro s; rw [List.forIn_nil]; exact wpAny_pure ⟨rfl, kpr _⟩
        | cons a t ih =>
          intro s
          rw [List.forIn_cons]
          simp only [Bool.false_eq_true, if_false]
          exact wpAny_bind (wpAny_pure (ih s))
      exact wpAny_mono (none_left t s) (fun ok s' ⟨e, q⟩ => ⟨by rw [e]; rfl, q⟩) fun _ _ x => x
    | true =>
      simp only [if_true]
      unfold allO at h
      split at h
      · rename_i h1
        refine wpAny_bind (wpAny_bind (wpAny_mono (K.t h1 C) (fun q s₁ ⟨e, k1⟩ => wpAny_pure ?_) fun _ _ x => x))
        subst e
        exact wpAny_mono (tests_ K h (C.keeps k1) true (by simp)) (fun ok s' ⟨e, q⟩ => ⟨e, kpx k1 q⟩) fun _ _ x => x
      · rename_i h1
        cases h
        refine wpAny_bind (wpAny_bind (wpAny_mono (K.t h1 C) (fun q s₁ ⟨e, k1⟩ => wpAny_pure ?_) fun _ _ x => x))
        subst e
        have none_left : ∀ (t : List Expr) (s : Shared), wpAny (pwm v) A (forIn t false fun c r => if r = true then do let ok ← isTrue c env (eval c env); pure (ForInStep.yield ok) else pure (ForInStep.yield r)) (fun ok s' => ok = false ∧ Kp s s') No s := by
          intro t
          induction t with
          | nil => intro s; rw [List.forIn_nil]; exact wpAny_pure ⟨rfl, kpr _⟩
          | cons a t ih =>
            intro s
            rw [List.forIn_cons]
            simp only [Bool.false_eq_true, if_false]
            exact wpAny_bind (wpAny_pure (ih s))
        exact wpAny_mono (none_left t s₁) (fun ok s' ⟨e, q⟩ => ⟨by rw [e]; rfl, kpx k1 q⟩) fun _ _ x => x
      · cases h

theorem narrow_both {h : Heap} {O O' : Addr → Prop} (hO : ∀ a, O a → O' a) : (∀ {d : D} {v : Value}, Rep h O' d v → Rep h O d v) ∧ ∀ {ds : List D} {vs : List Value}, Reps h O' ds vs → Reps h O ds vs :=
  ⟨fun r => Rep.rec (motive_1 := fun d v _ => Rep h O d v) (motive_2 := fun ds vs _ => Reps h O ds vs) .none .bool .int .str (fun ho hn _ ih => .lst ho (fun q => hn (hO _ q)) ih) (fun ho hn _ ih => .tup ho (fun q => hn (hO _ q)) ih) .ws .ill .val .nil (fun _ _ a b => .cons a b) r,
   fun r => Reps.rec (motive_1 := fun d v _ => Rep h O d v) (motive_2 := fun ds vs _ => Reps h O ds vs) .none .bool .int .str (fun ho hn _ ih => .lst ho (fun q => hn (hO _ q)) ih) (fun ho hn _ ih => .tup ho (fun q => hn (hO _ q)) ih) .ws .ill .val .nil (fun _ _ a b => .cons a b) r⟩
theorem Rep.narrow {h : Heap} {O O' : Addr → Prop} (hO : ∀ a, O a → O' a) {d : D} {v : Value} (r : Rep h O' d v) : Rep h O d v := (narrow_both hO).1 r
theorem Reps.narrow {h : Heap} {O O' : Addr → Prop} (hO : ∀ a, O a → O' a) {ds : List D} {vs : List Value} (r : Reps h O' ds vs) : Reps h O ds vs := (narrow_both hO).2 r

noncomputable def rhoX (ρ : Rho) (x : Str) (q : Option D) : Str → Option D := fun y => if y = x then q else ρ.lookup y
theorem rhoX_upd (ρ : Rho) (x : Str) (q : Option D) (d : D) : upd1 (rhoX ρ x q) x d = fun y => List.lookup y ((x, d) :: ρ) := by
  funext y
  unfold upd1 rhoX
  rw [List.lookup_cons]
  by_cases h : y = x
  · subst h; simp
  · rw [if_neg h, if_neg h, beq_eq_false_iff_ne.mpr h]
theorem rhoX_cons (ρ : Rho) (x : Str) (d : D) : (fun y => List.lookup y ((x, d) :: ρ)) = rhoX ρ x (some d) := by
  funext y
  unfold rhoX
  rw [List.lookup_cons]
  by_cases h : y = x
  · subst h; simp
  · rw [if_neg h, beq_eq_false_iff_ne.mpr h]

theorem ER.upto {hs : Heap} {O : Addr → Prop} {mine : Str → Prop} {ρ} {h h' : Heap} {D : Addr} (X : ER hs O mine env ρ h) (hD : O D) (hl : ∃ xs n, h.get? D = some { cls := .type "list", data := .seq xs n }) (hlo : hs.get? D = none) (hk : ∀ b o, b ≠ D → h.get? b = some o → h'.get? b = some o) :
    ER hs O mine env ρ h' where
  keep := fun b o e => hk b o (fun q => by subst q; rw [hlo] at e; cases e) (X.keep b o e)
  kind := X.kind
  glob := X.glob
  blt := X.blt
  ns := let ⟨m, q⟩ := X.ns; ⟨m, q.at' fun o e => hk _ o (fun e' => by obtain ⟨xs, n, hl⟩ := hl; exact (X.seq_ne hl).1 e'.symm) e⟩
  above := X.above
  apart := X.apart
  cells := fun x c e => let ⟨a, v, b⟩ := X.cells x c e; ⟨a, v, let ⟨o, ho, hd⟩ := b; ⟨o, hk _ _ (fun e' => by obtain ⟨xs, n, hl⟩ := hl; exact (X.seq_ne hl).2 x (e' ▸ e)) ho, hd⟩⟩
  mineOk := X.mineOk
  full := X.full
  vars := fun x d e q => by
    obtain ⟨xs, n, hl⟩ := hl
    obtain ⟨v, a, b⟩ := X.vars x d e q
    refine ⟨v, ?_, b.mono (fun b => b = D) (fun b o hb e => hk b o hb e) fun b hb c xs n _ hO _ => hO (hb ▸ hD)⟩
    rcases a with ⟨a, m, q, c⟩ | ⟨a, c, q, i⟩
    · exact .inl ⟨a, m, q.at' fun o e => hk _ o (fun e' => (X.seq_ne hl).1 e'.symm) e, c⟩
    · exact .inr ⟨a, c, q, let ⟨o, ho, hd⟩ := i; ⟨o, hk _ _ (fun e' => (X.seq_ne hl).2 x (e' ▸ q)) ho, hd⟩⟩
end
end Mine
end
noncomputable section
open PySem PySem.W PyProof.Rows PySem.Challenge PySem.SeqAt
set_option maxRecDepth 100000
set_option linter.unusedVariables false
namespace Mine

section
variable {v : World} {mean : ExcName → Option Value} {mg mb : Str → Option Value} {n : Nat} {k : Kit} {A : Around} {env : Env} {sc : Scope} {ρ : Rho} {s : Shared} {d : D}

theorem ne_none {h : Heap} {a b : Addr} {o : Obj} (e : h.get? b = some o) (q : h.get? a = none) : b ≠ a := fun z => none_some (q.symm.trans (z ▸ e))
theorem compO_cons {test : D → Option Bool} {elt : D → Option D} {d : D} {r l : List D} (h : compO test elt (d :: r) = some l) : (∃ y l', test d = some true ∧ elt d = some y ∧ compO test elt r = some l' ∧ y :: l' = l) ∨ (test d = some false ∧ compO test elt r = some l) := by
  replace h : (match test d with
    | some true => (match elt d, compO test elt r with
      | some y, some l => some (y :: l)
      | _, _ => none)
    | some false => compO test elt r
    | none => none) = some l := h
  cases e : test d with
  | none => rw [e] at h; exact none_some h
  | some q =>
    rw [e] at h
    cases q with
    | false => exact .inr ⟨rfl, h⟩
    | true =>
      dsimp only at h
      cases e1 : elt d with
      | none => rw [e1] at h; exact none_some h
      | some y => cases e2 : compO test elt r with
        | none => rw [e1, e2] at h; exact none_some h
        | some l' => rw [e1, e2] at h; exact .inl ⟨y, l', rfl, rfl, rfl, Option.some.inj h⟩
structure CInv (H0 h₀ : Heap) (O : Addr → Prop) (D0 : Addr) (x : Str) (cenv : Env) (ρ : Rho) (St : Nat → Heap → Prop) (ds ys : List D) (I : Addr) (test : D → Option Bool) (elt : D → Option D) (s : Shared) (m : Nat) (s' : Shared) (i : Nat) (h : Heap) (tk : Tok) (q : Option D) (outs : List D) (arr : List Value) (rest : List D) : Prop where
  es : s' = { s with heap := h, toks := tk }
  em : m = ds.length - i
  hi : i ≤ ds.length
  st : St i h
  er : ER H0 (fun a => O a ∨ a = D0) (· = x) cenv (rhoX ρ x q) h
  pl : h.PlainList D0 (List.toArray arr)
  rp : Reps h (fun a => O a ∨ a = D0) outs arr
  la : arr.length ≤ i
  cp : compO test elt (ds.drop i) = some rest
  hys : ys = outs ++ rest
  kp : ∀ b o, b ≠ I → h₀.get? b = some o → h.get? b = some o
  tp : 0 < tk
/-- the loop of a comprehension: H0 the heap before the iterator, h₀ behind it, D0 the list made -/
theorem comp_loop (K : SoundE v mean mg mb n k) {O : Addr → Prop} {elt iter : Expr} {x : Str} {px : Pos} {ifs : List Expr} {csc : Scope} {cpos : Pos} {I D0 : Addr} {fp : List Addr} {ds ys : List D} {P : Nat → Value → Prop} {St : Nat → Heap → Prop}
    {H0 h₀ : Heap} {cenv : Env} (hcs : cenv.scope = sc)
    (h : compO (fun d => allO (k.t sc ((x, d) :: ρ)) ifs) (fun d => k.e sc ((x, d) :: ρ) elt) ds = some ys) (hlen : ds.length ≤ 100000)
    (R : Room n A) (B : Bs v mean mg mb H0) (T : Itr v A O I fp ds P St h₀ H0.objs.size) (k0 : KeepsH H0 h₀)
    (X : ER H0 (fun a => O a ∨ a = D0) (· = x) cenv (rhoX ρ x none) s.heap) (ob : OB O H0) (hD : h₀.get? D0 = none) (hacc : s.heap.PlainList D0 #[]) (hk0 : KeepsH h₀ s.heap) (hI : I ≠ D0) (hL : h₀.get? cenv.locals = none) (hC : ∀ c, cenv.cells.lookup x = some c → h₀.get? c = none) (htk : 0 < s.toks) :
    codeAny (pwm v) A (.compLoop (.ListComp elt [⟨.Name x px, iter, ifs, 0⟩] csc cpos) 0 (.ref I) (.ref D0) cenv)
      (fun r s' => r = .ok .next ∧ ∃ h' tk arr, s' = { s with heap := h', toks := tk } ∧ (∃ m, h'.Ns cenv.locals m) ∧ h'.PlainList D0 (List.toArray arr) ∧ Reps h' (fun a => O a ∨ a = D0) ys arr ∧ KeepsH H0 h' ∧ 0 < tk) s := by
  have Hn : H0.get? D0 = none := by
    cases e : H0.get? D0 with
    | none => rfl
    | some o => exact none_some (hD.symm.trans (k0 _ _ e))
  have hIn : H0.get? I = none := Heap.get?_none_of_le T.above
  have F0 := T.flds 0 _ T.st
  refine codeAny_hide fun Q hQ => ?_
  obtain ⟨J, hJ⟩ : ∃ J : Nat → Shared → Prop, ∀ m s', J m s' ↔ (∃ i h tk q outs arr rest, CInv H0 h₀ O D0 x cenv ρ St ds ys I (fun d => allO (k.t sc ((x, d) :: ρ)) ifs) (fun d => k.e sc ((x, d) :: ρ) elt) s m s' i h tk q outs arr rest) := ⟨_, fun _ _ => Iff.rfl⟩
  refine codeAny_compLoop_tests J ?_ (ds.length - 0) ((hJ _ _).mpr
    ⟨0, s.heap, s.toks, none, [], [], ys, ⟨rfl, rfl, Nat.zero_le _, T.W.frame _ _ _ T.st (fun b _ o e => hk0 b o e), X, hacc, .nil, Nat.zero_le _, h, rfl, fun b o _ e => hk0 b o e, htk⟩⟩)
  intro m s' hm
  obtain ⟨i, H, tk, q, outs, arr, rest, ⟨rfl, rfl, hi, hst, X, hl, ro, ha, hc, hys, hk, hpos⟩⟩ := (hJ m s').mp hm
  clear hm
  have FI := T.flds i H hst
  have nI : cenv.locals ≠ I := let ⟨_, q⟩ := X.ns; FI.ns q
  have cI : ∀ y, cenv.cells.lookup y ≠ some I := fun y e => let ⟨_, _, q⟩ := X.cells y I e; FI.cell q rfl
  obtain ⟨nl, hl'⟩ := id hl
  have nD := X.seq_ne hl'
  by_cases hlt : i < ds.length
  · rw [List.drop_eq_getElem_cons hlt] at hc
    refine walk_item T.W i hlt hst fun val h₁ tk₁ hP hst₁ hk₁ ht₁ => ?_
    have hk₁' : ∀ b o, b ≠ I → H.get? b = some o → h₁.get? b = some o := fun b o hb e => hk₁ b o (by simpa using hb) e
    have X₁ := X.but FI hIn hk₁'
    have k₁ : ∀ b o, b ≠ I → h₀.get? b = some o → h₁.get? b = some o := fun b o hb e => hk₁' b o hb (hk b o hb e)
    have rv : Rep h₁ (fun a => O a ∨ a = D0) ds[i] val := ((T.item i val _ hP (by simp [hlt])).widen fun a q => q.imp id fun e => by rw [e]; exact hD).but F0 k₁
    have ro₁ : Reps h₁ (fun a => O a ∨ a = D0) outs arr := ro.mono (fun b => b = I) (fun b o hb e => hk₁' b o hb e) fun b hb c xs n _ _ e => FI.ne_seq e hb
    refine wpAny_assign_Name (storeK (s := { s with heap := h₁, toks := tk₁ }) X₁ rfl rv fun h₂ tk₂ X₂ hsz hk₂ ht₂ => ?_)
    rw [rhoX_upd] at X₂
    have hlists : ∀ b c xs n, h₁.get? b = some { cls := .type c, data := .seq xs n } → h₂.get? b = some { cls := .type c, data := .seq xs n } := fun b c xs n e =>
      hk₂ b _ (X₁.seq_ne e).1 (fun y _ => (X₁.seq_ne e).2 y) e
    have ro₂ : Reps h₂ (fun a => O a ∨ a = D0) outs arr := ro₁.mono (fun b => ¬ (b ≠ cenv.locals ∧ ∀ y, cenv.cells.lookup y ≠ some b)) (fun b o hb e => by
      have hb := Classical.not_not.mp hb
      exact hk₂ b o hb.1 (fun y _ => hb.2 y) e) fun b hb c xs n _ _ e => hb (X₁.seq_ne e)
    have hD₁ : h₁.get? D0 = some { cls := .type "list", data := .seq arr.toArray nl } := hk₁' _ _ hI.symm hl'
    have hD₂ := hlists _ _ _ _ hD₁
    have I₂ : ∀ o, h₁.get? I = some o → h₂.get? I = some o := fun o e => hk₂ I o (Ne.symm nI) (fun y _ => cI y) e
    have k₂ : ∀ b o, b ≠ I → h₀.get? b = some o → h₂.get? b = some o := fun b o hb e => by
      exact hk₂ b o (ne_none e hL) (fun y hy q => ne_none e (hC b (hy ▸ q)) rfl) (k₁ b o hb e)
    have C₂ : Cx v mean mg mb n A H0 (fun a => O a ∨ a = D0) (· = x) cenv sc ((x, ds[i]) :: ρ) { s with heap := h₂, toks := tk₂ } := ⟨R, B, X₂, hcs, fun a qa => by
      rcases qa with qa | rfl
      · obtain ⟨o, e⟩ := ob a qa; exact ⟨o, X₂.keep a o e⟩
      · exact ⟨_, hD₂⟩, ht₂ (ht₁ hpos)⟩
    rcases compO_cons hc with ⟨y, l, ht, he, hl2, hyl⟩ | ⟨ht, hc⟩
    · ·
        refine wpAny_mono (tests_ (s := { s with heap := h₂, toks := tk₂ }) K ht C₂ true (by simp)) (fun ok s₃ ⟨e3, kk3⟩ => ?_) fun _ _ x => x.elim
        subst e3
        simp only [Bool.and_self, if_true]
        have C₃ := C₂.keeps kk3
        refine wpAny_mono (K.e he C₃) (fun val' s₄ ⟨r4, kk4⟩ => ?_) fun _ _ x => x.elim
        have C₄ := C₃.keeps kk4
        have kk := kpx kk3 kk4
        have hD₄ := kph kk _ _ hD₂
        have ro₄ := ro₂.keeps (kph kk)
        obtain ⟨⟨h₄, tk₄, rfl, k24⟩, _⟩ := kk
        refine wpAny_list_append_plain (items := arr.toArray) ⟨nl, hD₄⟩ (fun h₅ hl₅ hs₅ => ?_) (by have := line_big; rw [List.size_toArray]; lia)
        have k45 : ∀ b o, b ≠ D0 → h₄.get? b = some o → h₅.get? b = some o := fun b o hb e => hs₅.extBut b o hb e
        have X₅ := C₄.er.upto (.inr rfl) ⟨_, _, hD₄⟩ Hn k45
        rw [rhoX_cons] at X₅
        have mono5 : ∀ {ds vs}, Reps h₄ (fun a => O a ∨ a = D0) ds vs → Reps h₅ (fun a => O a ∨ a = D0) ds vs := fun r => r.mono (fun b => b = D0) (fun b o hb e => k45 b o hb e) fun b hb c xs n _ hO _ => hO (.inr hb)
        refine ⟨ds.length - (i + 1), by lia, (hJ _ _).mpr ⟨i + 1, h₅, tk₄, _, outs ++ [y], arr ++ [val'], l, ⟨rfl, rfl, hlt, ?_, X₅, ?_, mono5 (ro₄.append (.cons r4 .nil)), by simp; lia, hl2, by rw [hys, ← hyl, List.append_assoc]; rfl, fun b o hb e => ?_, C₄.tk⟩⟩⟩
        · refine T.W.frame _ _ _ hst₁ fun b hb o e => ?_
          rcases T.foot b hb with rfl | ⟨_, c, xs, q, _, e0⟩
          · exact k45 _ _ hI (k24 _ _ (I₂ o e))
          · have hbI : b ≠ I := F0.ne_seq e0
            have hbD : b ≠ D0 := ne_none e0 hD
            rw [← (k₁ b _ hbI e0).symm.trans e]
            exact k45 _ _ hbD (k24 _ _ (k₂ b _ hbI e0))
        · have : arr.toArray.push val' = (arr ++ [val']).toArray := by simp
          rw [← this]; exact hl₅
        · exact k45 _ _ (ne_none e hD) (k24 _ _ (k₂ b o hb e))
    · refine wpAny_mono (tests_ (s := { s with heap := h₂, toks := tk₂ }) K ht C₂ true (by simp)) (fun ok s₃ ⟨e3, kk3⟩ => ?_) fun _ _ x => x.elim
      subst e3
      simp only [Bool.and_false, Bool.false_eq_true, if_false]
      have C₃ := C₂.keeps kk3
      obtain ⟨⟨h₃, tk₃, rfl, k23⟩, _⟩ := kk3
      have X₃ := C₃.er
      rw [rhoX_cons] at X₃
      refine ⟨ds.length - (i + 1), by lia, (hJ _ _).mpr ⟨i + 1, h₃, tk₃, _, outs, arr, rest, ⟨rfl, rfl, hlt, ?_, X₃, ⟨nl, k23 _ _ hD₂⟩, ro₂.keeps k23, by lia, hc, hys, (fun b o hb e => k23 _ _ (k₂ b o hb e)), C₃.tk⟩⟩⟩
      refine T.W.frame _ _ _ hst₁ fun b hb o e => ?_
      rcases T.foot b hb with rfl | ⟨_, c, xs, q, _, e0⟩
      · exact k23 _ _ (I₂ o e)
      · have hbI : b ≠ I := F0.ne_seq e0
        rw [← (k₁ b _ hbI e0).symm.trans e]
        exact k23 _ _ (k₂ b _ hbI e0)
  · have hi' : i = ds.length := by lia
    rw [List.drop_eq_nil_of_le (by lia)] at hc
    have hr : [] = rest := Option.some.inj hc
    refine walk_done T.W (hi' ▸ hst) fun h₁ tk₁ hk₁ ht₁ => ?_
    have hk₁' : ∀ b o, b ≠ I → H.get? b = some o → h₁.get? b = some o := fun b o hb e => hk₁ b o (by simpa using hb) e
    have X₁ := X.but FI hIn hk₁'
    refine hQ _ _ ⟨rfl, h₁, tk₁, arr, rfl, X₁.ns, ⟨nl, hk₁' _ _ hI.symm hl'⟩, ?_, X₁.keep, ht₁ hpos⟩
    rw [hys, ← hr, List.append_nil]
    exact ro.mono (fun b => b = I) (fun b o hb e => hk₁' b o hb e) fun b hb c xs n _ _ e => FI.ne_seq e hb
end
end Mine
end
noncomputable section
open PySem PySem.W PyProof.Rows PySem.Challenge PySem.SeqAt
set_option maxRecDepth 100000
set_option linter.unusedVariables false
namespace Mine

section
variable {v : World} {mean : ExcName → Option Value} {mg mb : Str → Option Value} {n : Nat} {k : Kit} {A : Around} {hs : Heap} {O : Addr → Prop} {env : Env} {sc : Scope} {ρ : Rho} {s : Shared} {d : D}

theorem comp_free {mine : Str → Prop} {csc : Scope} {x : Str} (F : CompFacts csc sc x) (C : Cx v mean mg mb n A hs O mine env sc ρ s) : ∀ y, (y, NameKind.free) ∈ csc.names → ∃ c, env.cells.lookup y = some c := fun y hy => C.er.full y (by
  have := F.outer y hy
  have e := C.scp
  subst e
  exact this)

theorem comp_run {mine : Str → Prop} (K : SoundE v mean mg mb n k) {elt iter : Expr} {x : Str} {px : Pos} {ifs : List Expr} {csc : Scope} {cpos : Pos} {ds ys : List D} {RR : Value → Addr → Result → Shared → Prop}
    (hit : stepIter k sc ρ iter = some ds) (hco : compOk csc sc x = true) (hlen : ds.length ≤ 100000) (hdot : ρ.lookup dot0 = none)
    (h : compO (fun d => allO (k.t (relab csc sc) ((x, d) :: ρ)) ifs) (fun d => k.e (relab csc sc) ((x, d) :: ρ) elt) ds = some ys)
    (C : Cx v mean mg mb n A hs O mine env sc ρ s)
    (hRR : ∀ D0 L h' tk, s.heap.get? D0 = none → s.heap.get? L = none → D0 ≠ L → (∃ m, h'.Ns L m) → Rep h' O (.lst ys) (.ref D0) → KeepsH s.heap h' → 0 < tk → RR (.ref D0) L (.ok .next) { s with heap := h', toks := tk }) :
    wpAny (pwm v) A (eval iter env) (fun xv s₁ => wpAny (pwm v) A (pyIter xv) (fun it s₂ => wpAny (pwm v) A (newList []) (fun acc s₃ =>
      wpAny (pwm v) A (newFunctionEnv csc env.globals (clo env csc.names []) [] env.qual none .none (some env)) (fun cenv s₄ =>
        codeAny (pwm v) A (.compStart (.ListComp elt [⟨.Name x px, iter, ifs, 0⟩] csc cpos) 0 it acc { cenv with scope := relabel csc env }) (RR acc cenv.locals) s₄) No s₃) No s₂) No s₁) No s := by
  obtain ⟨h1, _⟩ := stepIter_ok K hit C
  obtain ⟨F, hg⟩ := comp_facts hco
  refine wpAny_mono h1 (fun xv s₁ q => wpAny_mono q (fun it s₂ q => ?_) fun _ _ x => x) fun _ _ x => x
  obtain ⟨⟨I, fp, P, St, rfl, T, k2⟩, k1⟩ := q
  have C₁ := C.keeps k1
  have k02 := kpx k1 k2
  have htk2 := (C₁.keeps k2).tk
  obtain ⟨⟨H0, t0, rfl, k01⟩, _⟩ := k1
  obtain ⟨⟨h₀, t₁, rfl, k12⟩, _⟩ := k2
  dsimp only at *
  refine wpAny_newObj_type (newEnv_comp ?_)
  dsimp only
  generalize hH3 : h₀.push { cls := .type "list", dict := none, data := .seq ([] : List Value).toArray } = H3
  have e3 : H3.objs.size = h₀.objs.size + 1 := by rw [← hH3, Heap.size_push]
  have k03 : KeepsH h₀ H3 := fun b o e => hH3 ▸ Heap.get?_push_of_some _ e
  have hFI : I < h₀.objs.size := let ⟨o, _, e, _⟩ := T.flds 0 _ T.st; Heap.lt_size e
  have hsz : H0.objs.size ≤ h₀.objs.size := Nat.le_of_lt (Nat.lt_of_le_of_lt T.above hFI)
  have gone : ∀ {a}, H0.objs.size ≤ a → s.heap.get? a = none := fun {a} ha => by
    cases e : s.heap.get? a with
    | none => rfl
    | some o => exact (Nat.lt_irrefl _ (Nat.lt_of_lt_of_le (Heap.lt_size (k01 _ _ e)) ha)).elim
  have X := comp_er (O' := fun a => O a ∨ a = h₀.objs.size) C₁.er C₁.scp F (fun b o e => k03 _ _ (k12 _ _ e)) (by rw [e3]; exact Nat.le_succ_of_le hsz) (fun a q => q.imp id fun e => by rw [e]; exact Heap.get?_none_of_le hsz) hdot
  have hscope : (compEnv' csc (cellsFrom (H3.objs.size + 1) csc.names (clo env csc.names [])) H3.objs.size env).scope = relab csc sc := by
    have e := C.scp
    subst e
    rfl
  have kp : KeepsH H3 (pushCells (H3.push { cls := .type "dict", data := .dict #[] }) csc.names) := fun b o e => pushCells_keeps _ _ b o (Heap.get?_push_of_some _ e)
  have loop : ∀ st, 0 < st → codeAny (pwm v) A (.compLoop (.ListComp elt [⟨.Name x px, iter, ifs, 0⟩] csc cpos) 0 (.ref I) (.ref h₀.objs.size) (compEnv' csc (cellsFrom (H3.objs.size + 1) csc.names (clo env csc.names [])) H3.objs.size env))
      (RR (.ref h₀.objs.size) H3.objs.size) { s with heap := pushCells (H3.push { cls := .type "dict", data := .dict #[] }) csc.names, toks := st } := by
    intro st hst
    refine codeAny_mono (comp_loop (s := { s with heap := pushCells (H3.push { cls := .type "dict", data := .dict #[] }) csc.names, toks := st }) K hscope h hlen C.room C₁.bs T k12 X C₁.ob (Heap.get?_none_of_le (Nat.le_refl _)) ⟨_, kp _ _ (hH3 ▸ Heap.get?_push_size _ rfl)⟩ (fun b o e => kp _ _ (k03 _ _ e)) (Nat.ne_of_lt hFI)
      (Heap.get?_none_of_le (by show _ ≤ H3.objs.size; lia)) (fun c hc => ?_) hst) fun r s' hz => ?_
    · rw [show H3.objs.size + 1 = (H3.push { cls := .type "dict", data := .dict #[] }).objs.size by rw [Heap.size_push]] at hc
      rcases cells_mem (mem_of_lookup hc) with hm | ⟨_, b, _⟩
      · rcases clo_mem (comp_free F C) hm with hm | ⟨hm, _⟩
        · cases hm
        · have := dup_look F.dup hm
          rcases F.own with q | q <;> (rw [q] at this; cases this)
      · rw [Heap.size_push] at b
        exact Heap.get?_none_of_le (by lia)
    · obtain ⟨rfl, h', tk, arr, rfl, hns, ⟨nl, hpl⟩, hr, hk, hp⟩ := hz
      refine hRR _ _ h' tk (gone hsz) (gone (a := H3.objs.size) (by rw [e3]; exact Nat.le_succ_of_le hsz)) (by rw [e3]; exact Nat.ne_of_lt (Nat.lt_succ_self _)) hns (.lst hpl (C₁.ob.new hsz) (hr.narrow fun a q => .inl q)) (fun b o e => hk _ _ (k01 _ _ e)) hp
  exact codeAny_compStart_list (loop _ htk2) (T.W.self 0 _ _ _ (T.W.frame _ _ _ T.st fun b _ o e => kp _ _ (k03 _ _ e)) (loop _ htk2))

theorem names_ {csc : Scope} {x : Str} (F : CompFacts csc sc x) : ∀ q ∈ csc.names, q.2 = .local → csc.names.lookup q.1 = some .local := fun q hq e => dup_look F.dup (by obtain ⟨a, b⟩ := q; cases e; exact hq)

theorem rep_same {h h' : Heap} {O : Addr → Prop} {L : Addr} (hL : ∃ m, h.Ns L m) (hs : Heap.SameBut L h h') {d : D} {val : Value} (r : Rep h O d val) : Rep h' O d val := by
  obtain ⟨m, hL⟩ := hL
  exact r.mono (fun b => b = L) (fun b o hb e => hs.extBut b o hb e) fun b hb => by subst hb; exact not_seq_ns hL

theorem comp_value {mine : Str → Prop} (K : SoundE v mean mg mb n k) {elt iter : Expr} {x : Str} {px : Pos} {ifs : List Expr} {csc : Scope} {cpos : Pos} {ds ys : List D}
    (hit : stepIter k sc ρ iter = some ds) (hco : compOk csc sc x = true) (hlen : ds.length ≤ 100000) (hdot : ρ.lookup dot0 = none)
    (h : compO (fun d => allO (k.t (relab csc sc) ((x, d) :: ρ)) ifs) (fun d => k.e (relab csc sc) ((x, d) :: ρ) elt) ds = some ys)
    (C : Cx v mean mg mb n A hs O mine env sc ρ s) : wpAny (pwm v) A (eval (.ListComp elt [⟨.Name x px, iter, ifs, 0⟩] csc cpos) env) (Gv O (.lst ys) s) No s := by
  obtain ⟨F, hg⟩ := comp_facts hco
  rw [eval_ListComp]
  refine wpAny_comprehension_free (use := none) rfl (stepIter_ok K hit C).2 (closure_ (comp_free F C)) F.kind (names_ F) (comp_run (RR := fun acc C' => compPost (pwm v) A No none (Gv O (.lst ys) s) acc C') K hit hco hlen hdot h C ?_)
  intro D0 L h' tk hD hL hne hns hr hk hp
  obtain ⟨m, hn⟩ := hns
  exact ⟨m, hn, fun h'' hs'' => ⟨rep_same ⟨m, hn⟩ hs'' hr, kpm (fun b o e => hs''.extBut b o (by rintro rfl; rw [hL] at e; cases e) (hk b o e)) fun _ => hp⟩⟩

theorem ER.other {mine : Str → Prop} {ρ : Str → Option D} {h h' : Heap} {L : Addr} (X : ER hs O mine env ρ h) (n1 : env.locals ≠ L) (n2 : ∀ y, env.cells.lookup y ≠ some L) (hL : ∃ m, h.Ns L m) (hlo : hs.get? L = none) (hk : ∀ b o, b ≠ L → h.get? b = some o → h'.get? b = some o) :
    ER hs O mine env ρ h' where
  keep := fun b o e => hk b o (fun q => by subst q; rw [hlo] at e; cases e) (X.keep b o e)
  kind := X.kind
  glob := X.glob
  blt := X.blt
  ns := let ⟨m, q⟩ := X.ns; ⟨m, q.at' fun o e => hk _ o n1 e⟩
  above := X.above
  apart := X.apart
  cells := fun x c e => let ⟨a, v, b⟩ := X.cells x c e; ⟨a, v, let ⟨o, ho, hd⟩ := b; ⟨o, hk _ _ (fun e' => n2 x (e' ▸ e)) ho, hd⟩⟩
  mineOk := X.mineOk
  full := X.full
  vars := fun x d e q => by
    obtain ⟨m, hL⟩ := hL
    obtain ⟨v, a, b⟩ := X.vars x d e q
    refine ⟨v, ?_, b.mono (fun b => b = L) (fun b o hb e => hk b o hb e) fun b hb => by subst hb; exact not_seq_ns hL⟩
    rcases a with ⟨a, m, q, c⟩ | ⟨a, c, q, i⟩
    · exact .inl ⟨a, m, q.at' fun o e => hk _ o n1 e, c⟩
    · exact .inr ⟨a, c, q, let ⟨o, ho, hd⟩ := i; ⟨o, hk _ _ (fun e' => n2 x (e' ▸ q)) ho, hd⟩⟩

theorem comp_used (K : SoundE v mean mg mb n k) {elt iter : Expr} {x y : Str} {px py pos : Pos} {ifs : List Expr} {csc : Scope} {cpos : Pos} {ds ys : List D}
    (hit : stepIter k sc ρ iter = some ds) (hco : compOk csc sc x = true) (hlen : ds.length ≤ 100000) (hdot : ρ.lookup dot0 = none)
    (h : compO (fun d => allO (k.t (relab csc sc) ((x, d) :: ρ)) ifs) (fun d => k.e (relab csc sc) ((x, d) :: ρ) elt) ds = some ys)
    (C : Cx v mean mg mb n A hs O (mineOf env) env sc ρ s) (hy : isOwn sc y = true) (hsw : swapsWith (.ListComp elt [⟨.Name x px, iter, ifs, 0⟩] csc cpos) (some (.Name y py)) pos.line env = pure true) :
    wpAny (pwm v) A (exec (.Assign [.Name y py] (.ListComp elt [⟨.Name x px, iter, ifs, 0⟩] csc cpos) pos) env) (SPost hs O env ((y, .lst ys) :: ρ) .next s) No s := by
  obtain ⟨F, hg⟩ := comp_facts hco
  rw [exec_Assign_Name_used _ _ _ _ hsw]
  refine wpAny_bind (wpAny_standAt (wpAny_bind ?_))
  show wpAny _ A (do let _ ← comprehension (.ListComp elt [⟨.Name x px, iter, ifs, 0⟩] csc cpos) csc env _ (newList []) false (eval iter env) (some (assign (.Name y py) env))) _ _ s
  refine wpAny_bind (wpAny_mono (wpAny_comprehension_free (Q := fun _ s' => SPost hs O env ((y, .lst ys) :: ρ) .next s .next s') rfl (stepIter_ok K hit C).2 (closure_ (comp_free F C)) F.kind (names_ F)
    (comp_run (RR := fun acc C' => compPost (pwm v) A No (some (assign (.Name y py) env)) (fun _ s' => SPost hs O env ((y, .lst ys) :: ρ) .next s .next s') acc C') K hit hco hlen hdot h C ?_))
    (fun _ s' hq => wpAny_pure (wpAny_pure hq)) fun _ _ e => e)
  intro D0 L h' tk hD hL hne hns hr hk hp
  have C' : Cx v mean mg mb n A hs O (mineOf env) env sc ρ { s with heap := h', toks := tk } := C.keeps (kpm hk fun _ => hp)
  have hLoc : env.locals ≠ L := by rintro rfl; obtain ⟨m, o, _, _, ho, _⟩ := C.er.ns; rw [hL] at ho; cases ho
  have hCell : ∀ z, env.cells.lookup z ≠ some L := by
    intro z hz
    obtain ⟨_, _, o, ho, _⟩ := C.er.cells z L hz
    rw [hL] at ho; cases ho
  show wpAny (pwm v) A (assign (.Name y py) env (.ref D0)) _ No { s with heap := h', toks := tk }
  refine wpAny_assign_Name (storeK (s := { s with heap := h', toks := tk }) C'.er (isOwn_mine hy C.scp) hr fun h₂ tk₂ X₂ hsz₂ hk₂ ht₂ => ?_)
  rw [upd_eq] at X₂
  obtain ⟨m, hn⟩ := hns
  have hn₂ : ∃ m, h₂.Ns L m := ⟨m, hn.at' fun o e => hk₂ L o (Ne.symm hLoc) (fun z _ => hCell z) e⟩
  obtain ⟨m₂, hn₂⟩ := hn₂
  refine ⟨m₂, hn₂, fun h₃ hs₃ => ⟨rfl, h₃, tk₂, rfl, ?_, fun b o hb hc e => hs₃.extBut b o (by rintro rfl; rw [hL] at e; cases e) (hk₂ b o hb hc (hk b o e)), fun _ => ht₂ hp⟩⟩
  have hLs : hs.get? L = none := by
    cases e : hs.get? L with
    | none => rfl
    | some o => have := C.er.keep _ _ e; rw [hL] at this; cases this
  exact X₂.other hLoc hCell ⟨m₂, hn₂⟩ hLs fun b o hb e => hs₃.extBut b o hb e
end
end Mine
end
noncomputable section
open PySem PySem.W PyProof.Rows PySem.Challenge PySem.SeqAt
set_option maxRecDepth 100000
set_option linter.unusedVariables false
namespace Mine

section
variable {v : World} {mean : ExcName → Option Value} {mg mb : Str → Option Value} {n : Nat} {k : Kit} {A : Around} {hs : Heap} {O : Addr → Prop} {env : Env} {sc : Scope} {ρ : Rho} {s : Shared} {d : D}

theorem unpack_tup {a b : D} {val : Value} {Q : List Value → Shared → Prop} (hh : A.handled = none) (r : Rep s.heap O (.tup [a, b]) val) (hQ : ∀ va vb s', Rep s'.heap O a va → Rep s'.heap O b vb → Kp s s' → Q [va, vb] s') : wpAny (pwm v) A (unpackItems val 2 none) Q No s := by
  obtain ⟨x, xs, m, rfl, h1, r1⟩ := rep_tup r
  cases r1 with
  | cons ra r2 => cases r2 with
    | cons rb r3 =>
      cases r3
      rename_i va vb
      refine wpAny_unpackItems_tuple (items := #[va, vb]) hh ⟨_, h1, rfl, _, rfl⟩ fun h' he => ?_
      have hk : KeepsH s.heap h' := fun b o e => he b o (Nat.ne_of_lt (Heap.lt_size e)) e
      exact hQ va vb _ (ra.keeps hk) (rb.keeps hk) ⟨⟨h', s.toks, rfl, hk⟩, id⟩

theorem unpack_lst {a b : D} {val : Value} {Q : List Value → Shared → Prop} (hh : A.handled = none) (r : Rep s.heap O (.lst [a, b]) val) (hQ : ∀ va vb s', Rep s'.heap O a va → Rep s'.heap O b vb → Kp s s' → Q [va, vb] s') : wpAny (pwm v) A (unpackItems val 2 none) Q No s := by
  obtain ⟨x, xs, m, rfl, h1, r1⟩ := rep_lst r
  unfold unpackItems
  refine wpAny_bind ?_
  unfold notIterableAtAll
  refine wpAny_bind (wpAny_specialOf ⟨_, h1, rfl⟩ F.slot_list_iter.lookup ?_)
  refine wpAny_pure ?_
  simp only [Bool.false_eq_true, if_false]
  refine wpAny_bind (wpAny_holding (iter_lst (Q := fun it s' => _) hh r fun it s' hit => ?_))
  obtain ⟨I, fp, P, St, rfl, T, k1⟩ := hit
  obtain ⟨⟨H, tk, rfl, k1⟩, t1⟩ := k1
  have FI : ∀ {i h}, St i h → Flds h I := fun st => T.flds _ _ st
  have hI : I ≥ s.heap.objs.size := T.above
  have low : ∀ {b : Addr} {o}, s.heap.get? b = some o → b ≠ I := fun e => Nat.ne_of_lt (Nat.lt_of_lt_of_le (Heap.lt_size e) hI)
  refine wpAny_bind (wpAny_holding ?_)
  show wpAny _ _ (pyNext (.ref I) >>= _) _ _ _
  refine wpAny_bind (walk_item T.W 0 (by simp) T.st fun v1 H1 tk1 p1 st1 kk1 tt1 => ?_)
  show wpAny _ _ (holding [v1] (draw (.ref I) 1) >>= _) _ _ _
  refine wpAny_bind (wpAny_holding ?_)
  show wpAny _ _ (pyNext (.ref I) >>= _) _ _ _
  refine wpAny_bind (walk_item T.W 1 (by simp) st1 fun v2 H2 tk2 p2 st2 kk2 tt2 => ?_)
  show wpAny _ _ (holding [v2] (draw (.ref I) 0) >>= _) _ _ _
  refine wpAny_bind (wpAny_holding (wpAny_pure (wpAny_pure (wpAny_pure ?_))))
  rw [if_neg (by simp)]
  refine wpAny_bind (wpAny_holding (walk_done T.W st2 fun H3 tk3 kk3 tt3 => ?_))
  simp only [Option.isSome_none, Bool.false_eq_true, if_false]
  have k03 : ∀ b o, b ≠ I → H.get? b = some o → H3.get? b = some o := fun b o hb e => kk3 b o (by simpa using hb) (kk2 b o (by simpa using hb) (kk1 b o (by simpa using hb) e))
  have F0 := T.flds 0 _ T.st
  exact wpAny_pure (hQ v1 v2 _ ((T.item 0 _ _ p1 rfl).but F0 k03) ((T.item 1 _ _ p2 rfl).but F0 k03) (kpm (fun b o e => k03 b o (low e) (k1 b o e)) fun q => tt3 (tt2 (tt1 (t1 q)))))

theorem fm2 {α β : Type} (f : α → Option β) (a b : α) (x y : β) (ha : f a = some x ∨ f a = none) (hb : f b = some y ∨ f b = none) (h : (List.filterMap f [a, b]).length = 2) : List.filterMap f [a, b] = [x, y] := by
  rcases ha with ha | ha <;> rcases hb with hb | hb <;> simp [ha, hb] at h ⊢

/-- the stores are one behind the other, in either order -/
theorem swapped_two {x y : Str} {px py pt : Pos} {q : Nat} {val : Expr} (hw : swOk val = true) : swappedStores [.Tuple [.Name x px, .Name y py] q pt] val env = pure none ∨ swappedStores [.Tuple [.Name x px, .Name y py] q pt] val env = pure (some [x, y]) := by
  cases val with
  | Tuple vs a b =>
    replace hw : (!(vs.any fun | .Starred .. => true | _ => false) && !(vs.all (foldedForSure 8)) && !(vs.all (constantsAlone 8))) = true := hw
    simp only [Bool.and_eq_true, Bool.not_eq_true'] at hw
    obtain ⟨⟨h1, h2⟩, h3⟩ := hw
    unfold swappedStores
    dsimp only
    by_cases hl : (!(2 == 2 || 2 == 3) || vs.length != 2 || env.blockKind != .function) = true
    · left
      rw [if_pos (by exact hl)]
    · rw [if_neg (by exact hl)]
      simp only [h2, h3, Bool.false_eq_true, if_false, pure_bind]
      split
      · exact .inl rfl
      · split
        · exact .inl rfl
        · rename_i hn
          right
          refine congrArg (fun l => pure (some l)) (fm2 _ _ _ _ _ ?_ ?_ ?_)
          · dsimp only
            split
            · exact .inl rfl
            · exact .inr rfl
          · dsimp only
            split
            · exact .inl rfl
            · exact .inr rfl
          · simp only [Bool.or_eq_true, not_or, bne_iff_ne, ne_eq, Decidable.not_not] at hn
            exact hn.1
  | _ => exact .inl rfl

theorem rep_keepB {mine : Str → Prop} {ρ : Str → Option D} {h h' : Heap} (X : ER hs O mine env ρ h) (hk : KeepBut env mine h h') {d : D} {val : Value} (r : Rep h O d val) : Rep h' O d val :=
  r.mono (fun b => ¬ (b ≠ env.locals ∧ ∀ y, env.cells.lookup y ≠ some b)) (fun b o hb e => by
    have hb := Classical.not_not.mp hb
    exact hk b o hb.1 (fun y _ => hb.2 y) e) fun b hb c xs n _ _ e => hb (X.seq_ne e)

theorem two_look {x y : Str} {a b : D} (h : (x == y) = false) : (fun z => List.lookup z ((x, a) :: (y, b) :: ρ)) = fun z => List.lookup z ((y, b) :: (x, a) :: ρ) := by
  have h := beq_eq_false_iff_ne.mp h
  funext z
  simp only [List.lookup_cons]
  by_cases h1 : z = x
  · subst h1
    rw [beq_eq_false_iff_ne.mpr h]
  · rw [beq_eq_false_iff_ne.mpr h1]

theorem two_names (K : SoundE v mean mg mb n k) {x y : Str} {px py pt pos : Pos} {q : Nat} {val : Expr} {a b : D} (hx : isOwn sc x = true) (hy : isOwn sc y = true) (hxy : (x == y) = false) (hw : swOk val = true)
    (hv : k.e sc ρ val = some (.tup [a, b]) ∨ k.e sc ρ val = some (.lst [a, b])) (C : Cx v mean mg mb n A hs O (mineOf env) env sc ρ s) :
    wpAny (pwm v) A (exec (.Assign [.Tuple [.Name x px, .Name y py] q pt] val pos) env) (SPost hs O env ((y, b) :: (x, a) :: ρ) .next s) No s := by
  rw [exec_Assign_arm]
  have e1 : swapsWithSole [.Tuple [.Name x px, .Name y py] q pt] val pos.line env = pure false := by
    cases val <;> rfl
  refine wpAny_bind (wpAny_standAt ?_)
  rw [e1]
  refine wpAny_bind (wpAny_pure ?_)
  rw [if_neg (by decide)]
  have un : ∃ d, k.e sc ρ val = some d ∧ ∀ {s₁ : Shared} {u : Value} {Q : List Value → Shared → Prop}, Rep s₁.heap O d u → (∀ va vb s', Rep s'.heap O a va → Rep s'.heap O b vb → Kp s₁ s' → Q [va, vb] s') → wpAny (pwm v) A (unpackItems u 2 none) Q No s₁ := by
    rcases hv with hv | hv
    · exact ⟨_, hv, fun r h => unpack_tup C.room.hd r h⟩
    · exact ⟨_, hv, fun r h => unpack_lst C.room.hd r h⟩
  obtain ⟨d, hd, un⟩ := un
  refine wpAny_bind (wpAny_mono (K.e hd C) (fun u s₁ ⟨r, k1⟩ => ?_) fun _ _ x => x)
  -- stores
  have stores : ∀ {x y : Str} {a b : D} {va vb : Value} {s₂ : Shared}, mineOf env x → mineOf env y → Rep s₂.heap O a va → Rep s₂.heap O b vb → Kp s s₂ → Cx v mean mg mb n A hs O (mineOf env) env sc ρ s₂ →
      wpAny (pwm v) A (assignInOrder [bindName env x, bindName env y] [va, vb]) (fun _ s' => ∃ h' tk, s' = { s with heap := h', toks := tk } ∧ ER hs O (mineOf env) env (fun z => List.lookup z ((y, b) :: (x, a) :: ρ)) h' ∧ KeepBut env (mineOf env) s.heap h' ∧ (0 < s.toks → 0 < tk)) No s₂ := by
    intro x y a b va vb s₂ mx my ra rb hk C₂
    show wpAny _ _ (do holding [vb] (bindName env x va); assignInOrder [bindName env y] [vb]) _ _ _
    refine wpAny_bind (wpAny_holding (wpAny_bindName (storeK C₂.er mx ra fun h1 tk1 X1 _ kk1 tt1 => ?_)))
    rw [upd_eq] at X1
    have rb1 : Rep h1 O b vb := rep_keepB C₂.er kk1 rb
    show wpAny _ _ (do holding [] (bindName env y vb); assignInOrder [] []) _ _ _
    refine wpAny_bind (wpAny_holding (wpAny_bindName (storeK (s := { s₂ with heap := h1, toks := tk1 }) X1 my rb1 fun h2 tk2 X2 _ kk2 tt2 => ?_)))
    rw [upd_eq] at X2
    obtain ⟨⟨H, tk, rfl, hk⟩, ht⟩ := hk
    exact wpAny_pure ⟨h2, tk2, rfl, X2, fun b o hb hc e => kk2 b o hb hc (kk1 b o hb hc (hk b o e)), fun q => tt2 (tt1 (ht q))⟩
  -- stores
  have storesA : ∀ {x y : Str} {a b : D} {va vb : Value} {s₂ : Shared}, mineOf env x → mineOf env y → Rep s₂.heap O a va → Rep s₂.heap O b vb → Kp s s₂ → Cx v mean mg mb n A hs O (mineOf env) env sc ρ s₂ →
      wpAny (pwm v) A (assignInOrder [assign (.Name x px) env, assign (.Name y py) env] [va, vb]) (fun _ s' => ∃ h' tk, s' = { s with heap := h', toks := tk } ∧ ER hs O (mineOf env) env (fun z => List.lookup z ((y, b) :: (x, a) :: ρ)) h' ∧ KeepBut env (mineOf env) s.heap h' ∧ (0 < s.toks → 0 < tk)) No s₂ := by
    intro x y a b va vb s₂ mx my ra rb hk C₂
    show wpAny _ _ (do holding [vb] (assign (.Name x px) env va); assignInOrder [assign (.Name y py) env] [vb]) _ _ _
    refine wpAny_bind (wpAny_holding (wpAny_assign_Name (storeK C₂.er mx ra fun h1 tk1 X1 _ kk1 tt1 => ?_)))
    rw [upd_eq] at X1
    have rb1 : Rep h1 O b vb := rep_keepB C₂.er kk1 rb
    show wpAny _ _ (do holding [] (assign (.Name y py) env vb); assignInOrder [] []) _ _ _
    refine wpAny_bind (wpAny_holding (wpAny_assign_Name (storeK (s := { s₂ with heap := h1, toks := tk1 }) X1 my rb1 fun h2 tk2 X2 _ kk2 tt2 => ?_)))
    rw [upd_eq] at X2
    obtain ⟨⟨H, tk, rfl, hk⟩, ht⟩ := hk
    exact wpAny_pure ⟨h2, tk2, rfl, X2, fun b o hb hc e => kk2 b o hb hc (kk1 b o hb hc (hk b o e)), fun q => tt2 (tt1 (ht q))⟩
  rcases swapped_two (env := env) (x := x) (y := y) (px := px) (py := py) (pt := pt) (q := q) hw with e2 | e2
  · rw [e2]
    refine wpAny_bind (wpAny_pure ?_)
    show wpAny (pwm v) A (do assignAll u [assign (.Tuple [.Name x px, .Name y py] q pt) env]; pure Flow.next) _ No s₁
    refine wpAny_bind ?_
    show wpAny (pwm v) A (assign (.Tuple [.Name x px, .Name y py] q pt) env u) _ No s₁
    rw [arm_assign_Tuple]
    refine wpAny_bind (wpAny_standAt ?_)
    show wpAny (pwm v) A (do assignInOrder [assign (.Name x px) env, assign (.Name y py) env] (← holding [u] (unpackItems u 2 none))) _ No s₁
    refine wpAny_bind (wpAny_holding (un r fun va vb s₂ ra rb k2 => ?_))
    have hk := kpx k1 k2
    exact wpAny_mono (storesA (isOwn_mine hx C.scp) (isOwn_mine hy C.scp) ra rb hk (C.keeps hk)) (fun _ s' ⟨h', tk, e, X, kb, kt⟩ => wpAny_pure ⟨rfl, h', tk, e, X, kb, kt⟩) fun _ _ x => x
  · rw [e2]
    refine wpAny_bind (wpAny_pure ?_)
    show wpAny (pwm v) A (do rule "assign.swapped-stores"; let items ← unpackItems u 2 none; assignInOrder [bindName env y, bindName env x] items.reverse; pure Flow.next) _ No s₁
    refine wpAny_bind (wpAny_rule (wpAny_bind (un r fun va vb s₂ ra rb k2 => ?_)))
    have hk := kpx k1 k2
    refine wpAny_bind (wpAny_mono (stores (isOwn_mine hy C.scp) (isOwn_mine hx C.scp) rb ra hk (C.keeps hk)) (fun _ s' ⟨h', tk, e, X, kb, kt⟩ => wpAny_pure ⟨rfl, h', tk, e, ?_, kb, kt⟩) fun _ _ x => x)
    rw [two_look hxy] at X
    exact X
end
end Mine
end
noncomputable section
open PySem PySem.W PyProof.Rows PySem.Challenge PySem.SeqAt
set_option maxRecDepth 100000
set_option linter.unusedVariables false
namespace Mine

theorem sub_keyError : isSubtype (.type "KeyError") (.type "LookupError") = pure true := by rw [isSubtype_type]; kernel_rfl

section
variable {v : World} {mean : ExcName → Option Value} {mg mb : Str → Option Value} {n : Nat} {k : Kit} {A : Around} {hs : Heap} {O : Addr → Prop} {env : Env} {sc : Scope} {ρ : Rho} {s : Shared} {d : D} {E : Value → Shared → Prop}

theorem special_map (h : isSpecial (s.heap.get? 124) = true) : ∃ f : Int → Option Value, s.heap.MapOf (intKind pw_rt0017_01 v) 124 f ∧ f 97 = none ∧ f 98 = none := by
  unfold isSpecial at h
  split at h
  · rename_i c dd es ep sl ho
    simp only [Bool.and_eq_true, beq_iff_eq, Array.all_eq_true, Option.isNone_iff_eq_none, Array.isEmpty_iff] at h
    obtain ⟨⟨⟨rfl, rfl⟩, rfl⟩, hall⟩ := h
    have key : ∀ e ∈ es, ∃ i t, e.key = .int i t ∧ e.hash = hashInt i ∧ i ≠ 97 ∧ i ≠ 98 := by
      intro e he
      obtain ⟨j, hj, rfl⟩ := Array.getElem_of_mem he
      have := hall j hj
      split at this
      · rename_i i t hk
        simp only [Bool.and_eq_true, decide_eq_true_eq] at this
        exact ⟨i, t, hk, this.1.1, this.1.2, this.2⟩
      · cases this
    have miss : ∀ k : Int, (∀ e ∈ es, ∀ t, e.key ≠ .int k t) → findBy (intKind pw_rt0017_01 v).is es k = none := by
      intro k hk
      unfold findBy
      cases hf : es.find? fun e => (intKind pw_rt0017_01 v).is k e.key with
      | none => rfl
      | some e =>
        have h1 := Array.find?_some hf
        have h2 := Array.mem_of_find?_eq_some hf
        obtain ⟨t, ht⟩ := Value.isInt_shape h1
        exact (hk e h2 t ht).elim
    refine ⟨fun k => findBy (intKind pw_rt0017_01 v).is es k, ⟨_, es, ep, ho, ⟨rfl, rfl, rfl⟩, rfl, fun e he => ?_, fun k => rfl⟩, ?_, ?_⟩
    · obtain ⟨i, t, h1, h2, _⟩ := key e he
      exact ⟨i, by rw [h1]; exact intKind_is _ _ _ _, h2⟩
    · exact miss 97 fun e he t hk => by obtain ⟨i, t', h1, _, h3, _⟩ := key e he; rw [hk] at h1; cases h1; exact h3 rfl
    · exact miss 98 fun e he t hk => by obtain ⟨i, t', h1, _, _, h3⟩ := key e he; rw [hk] at h1; cases h1; exact h3 rfl
  · cases h

theorem table_miss {c : Nat} {Q : Builtin.Str.Mapped → Shared → Prop} (hh : A.handled = none) (hsp : isSpecial (s.heap.get? 124) = true) (hc : c = 97 ∨ c = 98)
    (h : ∀ h' tk, KeepsH s.heap h' → Q .keep { s with heap := h', toks := tk }) : wpAny (pwm v) A (Builtin.Str.tableLookup (.ref 124) c) Q E s := by
  unfold Builtin.Str.tableLookup
  obtain ⟨f, hm, f1, f2⟩ := special_map (v := v) hsp
  have hf : f c = none := by rcases hc with rfl | rfl <;> assumption
  refine wpAny_bind (wpAny_attempt (wpAny_bind (wpAny_mkInt ?_)))
  refine wpAny_getItem_missing_of (s := { s with toks := s.toks + 1 }) (knd := intKind pw_rt0017_01 v) (k := (c : Int)) (intKind_is _ _ _ _) (by decide) hh hm hf fun h' e hx => ?_
  refine wpAny_bind (wpAny_isInstance (T := "KeyError") (b := true) (let ⟨o, _, e, c, _⟩ := hx.there; ⟨o, e, c⟩) sub_keyError ?_)
  rw [if_pos rfl]
  exact wpAny_bind (wpAny_rule (wpAny_pure (h h' _ hx.keeps)))

theorem translate_ {x : Str} {t : Tok} (hh : A.handled = none) (hsp : isSpecial (s.heap.get? 124) = true) (hx : x.cps.toList = [97] ∨ x.cps.toList = [98]) {Q : Value → Shared → Prop}
    (h : ∀ t' h' tk, KeepsH s.heap h' → Q (.str x t') { s with heap := h', toks := tk }) : wpAny (pwm v) A (call (.builtin "str.translate") [.str x t, .ref 124]) Q E s := by
  have hx' : ∃ c, x = ⟨#[c]⟩ ∧ (c = 97 ∨ c = 98) := by
    obtain ⟨⟨l⟩⟩ := x
    rcases hx with rfl | rfl
    · exact ⟨97, rfl, .inl rfl⟩
    · exact ⟨98, rfl, .inr rfl⟩
  obtain ⟨c, rfl, hc⟩ := hx'
  refine wpAny_call_entry F.slot_str_translate (typeIs_str _ _ _) F.entry_str_translate ?_ (F.args_str_translate_2 _ _)
  unfold Builtin.«str.translate»
  refine wpAny_bind (m := Builtin.Str.strOneArg "translate" _) (wpAny_pure ?_)
  dsimp only
  rw [if_neg (by intro q; cases q)]
  simp only [List.forIn_toArray, List.forIn_cons, List.forIn_nil]
  refine wpAny_bind (wpAny_bind ?_)
  rw [if_neg (by decide)]
  have hlt : ([c].toArray.all fun x => decide (x < 128)) = true := by rcases hc with rfl | rfl <;> simp
  rw [hlt]
  simp only [if_true, List.lookup_nil]
  refine wpAny_bind (table_miss hh hsp hc fun h' tk hk => ?_)
  dsimp only
  refine wpAny_bind (wpAny_pure (wpAny_pure (wpAny_pure ?_)))
  dsimp only
  rw [if_neg (by decide)]
  show wpAny _ _ (mkStr ⟨#[c]⟩ >>= fun v => pure (Fin.done (.ret v))) _ _ _
  exact wpAny_bind (wpAny_mkStr (wpAny_pure ⟨_, rfl, h _ h' _ hk⟩) (by show 1 ≤ sizeLine; decide))
end
end Mine
end
noncomputable section
open PySem PySem.W PyProof.Rows PySem.Challenge PySem.SeqAt
set_option maxRecDepth 100000
set_option linter.unusedVariables false
namespace Mine

theorem slot_fs_contains : Slot "frozenset" "__contains__" "frozenset.__contains__" :=
  .of (owner := "frozenset") (n := "__contains__") (by rw [typeLookup_type, builtinLookup_eq_fast]; kernel_rfl) (by decide +kernel) (by decide +kernel) (by decide +kernel)
    (by first | exact .inl (by decide +kernel) | exact .inr (by decide +kernel)) (by rw [isSubtype_type]; kernel_rfl)
theorem entry_fs_contains : entryFor table "frozenset.__contains__" = some Builtin.«frozenset.__contains__» := entryFor_of_tree (by kernel_rfl)
theorem args_fs_contains (a b : Value) : argsOk "frozenset.__contains__" ⟨[a, b], []⟩ := by unfold argsOk; kernel_rfl
theorem slot_fs_isd : Slot "frozenset" "isdisjoint" "frozenset.isdisjoint" :=
  .of (owner := "frozenset") (n := "isdisjoint") (by rw [typeLookup_type, builtinLookup_eq_fast]; kernel_rfl) (by decide +kernel) (by decide +kernel) (by decide +kernel)
    (by first | exact .inl (by decide +kernel) | exact .inr (by decide +kernel)) (by rw [isSubtype_type]; kernel_rfl)
theorem type_fs_isd : typeOf (.builtin "frozenset.isdisjoint") = pure (.type "method_descriptor") := by show builtinType _ = _; rw [builtinType_eq_fast]; kernel_rfl
theorem entry_fs_isd : entryFor table "frozenset.isdisjoint" = some Builtin.«frozenset.isdisjoint» := entryFor_of_tree (by kernel_rfl)
theorem args_fs_isd (a b : Value) : argsOk "frozenset.isdisjoint" ⟨[a, b], []⟩ := by unfold argsOk; kernel_rfl
theorem plainAttrs_fs : PlainAttrs "frozenset" :=
  ⟨⟨"object.__getattribute__", by rw [typeLookup_type, builtinLookup_eq_fast]; kernel_rfl, by decide +kernel⟩, by rw [typeLookup_type, builtinLookup_eq_fast]; kernel_rfl⟩
theorem plain_isd_loop : plainId "frozenset.isdisjoint.loop" = true := by decide +kernel
theorem entry_isd_loop : entryFor table "frozenset.isdisjoint.loop" = some Builtin.«frozenset.isdisjoint.loop» := entryFor_of_tree (by kernel_rfl)

end Mine
end
noncomputable section
open PySem PySem.W PyProof.Rows PySem.Challenge PySem.SeqAt
set_option maxRecDepth 100000
set_option linter.unusedVariables false
namespace Mine

section
variable {v : World} {mean : ExcName → Option Value} {mg mb : Str → Option Value} {n : Nat} {k : Kit} {A : Around} {hs : Heap} {O : Addr → Prop} {env : Env} {sc : Scope} {ρ : Rho} {s : Shared} {d : D} {E : Value → Shared → Prop}

theorem setContains_ {a : Addr} {ep : Nat} {t : SetTable} {es : Array (Int × Value)} {S : Str → Bool} {n : Nat} {c : Str} {tk : Tok} (ho : s.heap.get? a = some (fso es ep t)) (G : Good v S n es t) {Q : Bool → Shared → Prop}
    (h : Q (S c) { s with toks := s.toks + 1 }) : wpAny (pwm v) A (setContains a (.str c tk)) Q E s := by
  unfold setContains
  refine wpAny_holding (wpAny_bind (wpAny_pyHash_str ?_))
  refine wpAny_bind (find_ (s := { s with toks := s.toks + 1 }) ho G fun r hr _ => ?_)
  rw [hr]
  exact wpAny_pure h

theorem in_set {a : Addr} {ep : Nat} {t : SetTable} {es : Array (Int × Value)} {S : Str → Bool} {n : Nat} {c : Str} {tk : Tok} (ho : s.heap.get? a = some (fso es ep t)) (G : Good v S n es t) {Q : Value → Shared → Prop}
    (h : Q (.bool (S c)) { s with toks := s.toks + 1 }) : wpAny (pwm v) A (compareOp .In (.str c tk) (.ref a)) Q E s := by
  have hT : s.TypeIs (.ref a) "frozenset" := ⟨_, ho, rfl⟩
  show wpAny _ _ (do return .bool (← contains (.ref a) (.str c tk))) Q E s
  refine wpAny_bind ?_
  refine wpAny_contains_slot hT slot_fs_contains (wpAny_call_entry slot_fs_contains hT entry_fs_contains ?_ (args_fs_contains _ _))
  unfold Builtin.«frozenset.__contains__» Builtin.Frozenset.oneOther
  simp only [List.isEmpty_nil, bind_assoc]
  unfold Builtin.Frozenset.addrOf Builtin.Frozenset.withSetAsKey
  refine wpAny_bind (wpAny_pure ?_)
  try dsimp only
  refine wpAny_bind (wpAny_pure ?_)
  try dsimp only
  refine wpAny_bind (wpAny_tryCatch (setContains_ ho G ?_))
  exact wpAny_pure ⟨_, rfl, wpAny_truthy_bool (wpAny_pure h)⟩

theorem wsAll : WsAll v mg := by
  intro h X A s E c t hk hc
  obtain ⟨es, n, tt, ho, G⟩ := X.white
  exact in_set (hk _ _ ho) G ⟨rfl, ktoks _ _⟩

theorem isd_loop {y : Str} {S : Str → Bool} {n ep : Nat} {t : SetTable} {es : Array (Int × Value)} {I a : Addr} {fp : List Addr} {P : Nat → Value → Prop} {St : Nat → Heap → Prop} {h₀ : Heap} {R : Result → Shared → Prop}
    (G : Good v S n es t) (hne : a ≠ I) (W : Walks pw_rt0017_01 v A.in1 I fp [I] (charsD y).length P St) (hP : ∀ i val d, P i val → (charsD y)[i]? = some d → Rep h₀ O d val) (hno : ∀ c ∈ y.cps.toList, S ⟨#[c]⟩ = false) :
    ∀ (m i : Nat) (s : Shared), (charsD y).length - i = m → i ≤ (charsD y).length → St i s.heap → s.heap.get? a = some (fso es ep t) →
      (∀ h' tk, (∀ b o, b ≠ I → s.heap.get? b = some o → h'.get? b = some o) → R (.ok (.ret (.bool true))) { s with heap := h', toks := tk }) →
      codeAny (pwm v) A (.builtin "frozenset.isdisjoint.loop" ⟨[.ref a, .ref I], []⟩) R s
  | 0, i, s, hm, hi, hst, ho, hR => by
    have e : i = (charsD y).length := by lia
    subst e
    refine codeAny_builtin entry_isd_loop ?_
    rw [Around.under_plainId plain_isd_loop _]
    unfold Builtin.«frozenset.isdisjoint.loop»
    refine wpAny_bind (W.done _ _ _ hst fun h' tk hk => ?_)
    exact wpAny_pure (hR h' tk fun b o hb e => hk b o (by simpa using hb) e)
  | m + 1, i, s, hm, hi, hst, ho, hR => by
    refine codeAny_builtin entry_isd_loop ?_
    rw [Around.under_plainId plain_isd_loop _]
    unfold Builtin.«frozenset.isdisjoint.loop»
    have hlt : i < (charsD y).length := by lia
    refine wpAny_bind (W.item i _ _ _ hlt hst fun val h' tk hp hst' hk => ?_)
    have hlt' : i < y.cps.toList.length := by simpa [charsD] using hlt
    have hd : (charsD y)[i]? = some (.str (Str.mk #[y.cps.toList[i]])) := by simp [charsD]
    obtain ⟨tt, rfl⟩ := rep_str (hP i val _ hp hd)
    have ho' : h'.get? a = some (fso es ep t) := hk _ _ (by simpa using hne) ho
    dsimp only
    refine wpAny_bind (wpAny_holding (setContains_ (s := { s with heap := h', toks := tk }) ho' G ?_))
    rw [hno _ (List.getElem_mem hlt')]
    rw [if_neg Bool.false_ne_true]
    refine wpAny_pure ⟨plainId_quiet plain_isd_loop _, ?_⟩
    show codeAny (pwm v) A _ R { s with heap := h', toks := tk + 1 }
    exact isd_loop G hne W hP hno m (i + 1) { s with heap := h', toks := tk + 1 } (by lia) hlt hst' ho' fun h'' tk' hk' => hR h'' tk' fun b o hb e => hk' b o hb (hk b o (by simpa using hb) e)

theorem ctl_no {c : Nat} (h1 : 32 ≤ c) (h2 : c ≠ 127) : SCtl (Str.mk #[c]) = false := by
  unfold SCtl Sk One
  simp only [Bool.or_eq_false_iff, List.any_eq_false, List.mem_range, decide_eq_true_eq, decide_eq_false_iff_not, Str.mk.injEq]
  refine ⟨fun i hi e => ?_, trivial, fun e => ?_⟩
  · have : c = i := by simpa using e
    lia
  · exact h2 (by simpa using e)

theorem isd_ {y : Str} {t : Tok} (hh : A.handled = none) (X : XPm v mg s.heap) (hall : ∀ c ∈ y.cps.toList, 32 ≤ c ∧ c ≠ 127) {Q : Value → Shared → Prop}
    (h : ∀ h' tk, KeepsH s.heap h' → Q (.bool true) { s with heap := h', toks := tk }) : wpAny (pwm v) A (call (.builtin "frozenset.isdisjoint") [.ref 53, .str y t]) Q E s := by
  obtain ⟨es, n, tt, ho, S', m, G, hS⟩ := X.ill
  have hT : s.TypeIs (.ref 53) "frozenset" := ⟨_, ho, rfl⟩
  refine wpAny_call (codeAny_call_builtin slot_fs_isd.plain entry_fs_isd (slot_fs_isd.check _ _ _ _ _ _ _ _ hT (args_fs_isd _ _) ?_))
  unfold Builtin.«frozenset.isdisjoint» Builtin.Frozenset.oneOther
  simp only [List.isEmpty_nil, bind_assoc]
  unfold Builtin.Frozenset.addrOf
  refine wpAny_bind (wpAny_pure ?_)
  try dsimp only
  refine wpAny_bind (wpAny_pure ?_)
  try dsimp only
  rw [if_neg (by intro q; cases q)]
  refine wpAny_bind (wpAny_typeOf (typeIs_str _ _ _) ?_)
  rw [if_neg (by decide)]
  refine wpAny_bind (no_mono (iter_str (A := A.in1) (O := fun _ => False) hh (.str y t) (Q := HasIt v A.in1 (fun _ => False) (charsD y) s) fun it s' q => q) fun it s' q => ?_)
  obtain ⟨I, fp, P, St, rfl, T, k1⟩ := q
  obtain ⟨⟨h₀, tk, rfl, k1⟩, _⟩ := k1
  refine wpAny_pure ⟨plainId_quiet plain_isd_loop _, ?_⟩
  have hI : (53 : Addr) ≠ I := by
    intro e
    have := Heap.lt_size ho
    have h2 := T.above
    rw [← e] at h2
    exact Nat.lt_irrefl _ (Nat.lt_of_lt_of_le this h2)
  exact isd_loop G hI T.W T.item (fun c hc => by
    have := ctl_no (hall c hc).1 (hall c hc).2
    cases hs : S' ⟨#[c]⟩ with
    | false => rfl
    | true => rw [hS _ hs] at this; cases this) _ 0 { s with heap := h₀, toks := tk } rfl (Nat.zero_le _) T.st (k1 _ _ ho) fun h' tk' hk => h h' tk' fun b o e => hk b o (fun q => by
      subst q
      exact Nat.lt_irrefl _ (Nat.lt_of_lt_of_le (Heap.lt_size e) T.above)) (k1 b o e)
end
end Mine
end
noncomputable section
open PySem PySem.W PyProof.Rows PySem.Challenge PySem.SeqAt
set_option maxRecDepth 100000
set_option linter.unusedVariables false
namespace Mine

section
variable {v : World} {mean : ExcName → Option Value} {mg mb : Str → Option Value} {n : Nat} {k : Kit} {A : Around} {hs : Heap} {O : Addr → Prop} {mine : Str → Prop} {env : Env} {sc : Scope} {ρ : Rho} {s : Shared} {d : D} {E : Value → Shared → Prop}

theorem base_of {o : Expr} {m : Str} (h : notCall o = true) : attributeBase o m env (eval o env) = eval o env := by
  cases o with
  | Call f a kw p => cases h
  | _ => rfl

theorem few_ (K : SoundE v mean mg mb n k) {pos : Pos} {args : List Expr} {as : List D} (ha : mapO (k.e sc ρ) args = some as) (h2 : args.length ≤ 2) :
    ((backTo pos (starEach args env)).all (fun x => !x.1) && (backToKw pos (keywordEach [] env)).all (fun x => x.1.isSome) && decide (args.length + ([] : List Keyword).length + (if ([] : List Keyword).isEmpty then 0 else 1) < 30)) = true := by
  rw [starEach_plain K ha]
  have : decide (args.length + ([] : List Keyword).length + (if ([] : List Keyword).isEmpty then 0 else 1) < 30) = true := by
    simp; lia
  rw [this]
  rfl

theorem method_ (K : SoundE v mean mg mb n k) {o : Expr} {m : Str} {ap p : Pos} {args : List Expr} {r : D} {as : List D} {T id : String}
    (ho : k.e sc ρ o = some d) (ha : mapO (k.e sc ρ) args = some as) (hnc : notCall o = true) (hl : (ap.endLine == p.line) = true) (h2 : args.length ≤ 2) (hne : as ≠ [])
    (pa : PlainAttrs T) (slot : Slot T m id) (ty : typeOf (.builtin id) = pure (.type "method_descriptor")) (C : Cx v mean mg mb n A hs O mine env sc ρ s)
    (hT : ∀ {s' : Shared} {ov : Value}, Kp s s' → Rep s'.heap O d ov → s'.TypeIs ov T ∧ (∀ a, ov = .ref a → ∃ ob, s'.heap.get? a = some ob ∧ ob.dict = none))
    (hc : ∀ {s' : Shared} {ov : Value} {vs : List Value}, Kp s s' → Rep s'.heap O d ov → Reps s'.heap O as vs → wpAny (pwm v) A (call (.builtin id) (ov :: vs)) (Gv O r s') No s') :
    wpAny (pwm v) A (eval (.Call (.Attribute o m ap) args [] p) env) (Gv O r s) No s := by
  refine wpAny_Call_method_lateS (base_of hnc) (few_ K ha h2) hl (wpAny_mono (K.e ho C) (fun ov s₁ ⟨r1, k1⟩ => ⟨T, id, pa, slot, ty, (hT k1 r1).1, (hT k1 r1).2, ?_⟩) fun _ _ x => x)
  refine Calls.callWith_builtin (plain_any K ha) (evalArgs_ K ha hne (C.keeps k1) fun vs s' rs k2 => ?_)
  exact wpAny_mono (hc (kpx k1 k2) (r1.keeps (kph k2)) rs) (fun _ _ g => gives_keeps (kpx k1 k2) g) fun _ _ x => x

theorem findL_spec {c : Nat} : ∀ {l : List Nat} {i j : Nat}, findL c i l = some j → i ≤ j ∧ l[j - i]? = some c ∧ ∀ q, i ≤ q → q < j → l[q - i]? ≠ some c
  | [], i, j, h => by cases h
  | x :: r, i, j, h => by
    unfold findL at h
    split at h
    · rename_i hx
      cases h
      refine ⟨Nat.le_refl _, by simpa using hx, fun q h1 h2 => by lia⟩
    · rename_i hx
      obtain ⟨a, b, e⟩ := findL_spec h
      have e1 : j - i = (j - (i + 1)) + 1 := by lia
      refine ⟨by lia, by rw [e1, List.getElem?_cons_succ]; exact b, fun q h1 h2 => ?_⟩
      by_cases hq : q = i
      · subst hq
        rw [Nat.sub_self, List.getElem?_cons_zero]
        intro e'
        exact hx (by simpa using e')
      · have e2 : q - i = (q - (i + 1)) + 1 := by lia
        rw [e2, List.getElem?_cons_succ]
        exact e q (by lia) h2

theorem range'_pre {n lo a : Nat} {pre post : List Nat} (h : List.range' lo n = pre ++ a :: post) : lo ≤ a ∧ ∀ k, lo ≤ k → k < a → k ∈ pre := by
  have hL : n = pre.length + (post.length + 1) := by
    have := congrArg List.length h
    simpa using this
  have hlen : lo + pre.length = a := by
    have h1 : (List.range' lo n)[pre.length]? = some a := by rw [h]; simp
    rw [List.getElem?_range'] at h1
    · simpa using h1
    · lia
  refine ⟨by lia, fun k hk1 hk => ?_⟩
  have h2 : (List.range' lo n)[k - lo]? = pre[k - lo]? := by rw [h, List.getElem?_append_left (by lia)]
  rw [List.getElem?_range'] at h2
  · have h3 : pre[k - lo]? = some k := by rw [← h2]; simp; lia
    exact List.mem_of_getElem? h3
  · lia

theorem occ_from {x : Str} {c lo i : Nat} (h : findL c lo (x.cps.toList.drop lo) = some i) : ∃ r, Builtin.Str.occurrences x ⟨#[c]⟩ lo x.length 1 = i :: r := by
  obtain ⟨h1, h2, h3⟩ := findL_spec h
  rw [List.getElem?_drop] at h2
  have e : lo + (i - lo) = i := by lia
  rw [e] at h2
  have hat := (StrLaws.subAt_one x c i).mpr h2
  have hlt : i < x.length := by
    obtain ⟨q, _⟩ := List.getElem?_eq_some_iff.mp h2
    simpa [Str.length] using q
  rw [StrLaws.occ_eq]
  have hn : ∀ q, lo ≤ q → q < i → ¬ StrLaws.At x ⟨#[c]⟩ x.length q := fun q a b hq => by
    have := h3 q a b
    rw [List.getElem?_drop, show lo + (q - lo) = q by lia] at this
    exact this ((StrLaws.subAt_one x c q).mp hq)
  rcases StrLaws.occ_first x ⟨#[c]⟩ x.length 1 (Nat.le_refl _) (List.range' lo (x.length + 1 - lo)) lo (fun i hi => by simp [List.mem_range'] at hi; lia) with ⟨_, hno⟩ | ⟨pre, a, post, e, h0, ha, hpre⟩
  · exact (hno i (by rw [List.mem_range']; exact ⟨i - lo, by lia, by lia⟩) hat).elim
  · obtain ⟨a1, a2⟩ := range'_pre e
    have hai : a = i := by
      rcases Nat.lt_trichotomy a i with hl | he | hg
      · exact (hn a a1 hl ha).elim
      · exact he
      · exact (hpre i (a2 i h1 hg) hat).elim
    subst hai
    generalize (forIn (List.range' lo (x.length + 1 - lo)) ((#[] : Array Nat), lo) (StrLaws.occBody x ⟨#[c]⟩ x.length 1)).run.fst = arr at h0
    have h1 : arr.toList[0]? = some a := by simpa using h0
    cases hL : arr.toList with
    | nil => rw [hL] at h1; cases h1
    | cons b t => rw [hL] at h1; simp at h1; subst h1; exact ⟨t, rfl⟩

theorem gives_index_from (x y : Str) (p : Nat) (t u w : Tok) (i : Nat) (rest : List Nat) (h : Builtin.Str.occurrences x y p x.length 1 = i :: rest) : Gives (Builtin.«str.index» ⟨[.str x t, .str y u, .int p w], []⟩) (.int i) := by
  have e : fromIndex x.length (p : Int) = p := by unfold fromIndex; rw [if_neg (by lia)]; lia
  show Gives (match Builtin.Str.occurrences x y (fromIndex x.length (p : Int)) (min x.length x.length) 1 with | i :: _ => retInt i | [] => (do rule "str.index.not-found"; raiseError "ValueError" "substring not found")) _
  rw [Nat.min_self, e, h]
  exact .of_eq rfl

theorem count_ {l : List D} {x : D} {vl vx : Value} {c : Nat} (hd : countD x l = some c) (rl : Rep s.heap O (.lst l) vl) (rx : Rep s.heap O x vx) (hu : A.units + 80 < cLine) : wpAny (pwm v) A (call (.builtin "list.count") [vl, vx]) (Gv O (.int c) s) E s := by
  obtain ⟨a, xs, m, rfl, h1, r1⟩ := rep_lst rl
  unfold countD at hd
  split at hd
  · rename_i hok
    rw [Bool.and_eq_true] at hok
    obtain ⟨as, ra⟩ := rx.reads (okD_and hok.1).1
    obtain ⟨bs, rb⟩ := r1.reads (okD_and hok.2).1
    have hsh := canLay_of_shaped (okD_and hok.2).2
    have hall : PyData.canLayAll0 (pys l) = true := hsh
    refine call_meets F.slot_list_count ⟨_, h1, rfl⟩ F.entry_list_count (F.args_list_count_2 _ _) (list_countAt a xs.toArray m none #[] vx (fun y => PyData.eqv (readOf s.heap y) (py x))) ⟨h1, ?_, ?_⟩
    · exact items_eqAt (A := A) (by simpa using rb) ra hall (canLay_of_shaped (okD_and hok.1).2) (by
        have := depth_of_shaped (okD_and hok.1).2
        show A.units + 1 + min (PyData.depthAll (pys l)) (py x).depth < cLine
        lia)
    · have e : xs.toArray.toList.countP (fun y => PyData.eqv (readOf s.heap y) (py x)) = c := by
        have h2 := readsAll_map (pys l) xs bs hall rb
        cases hd
        rw [← h2, List.countP_map]
        rfl
      show Gv O (.int c) s (.int (xs.toArray.toList.countP _ : Nat) _) _
      rw [e]
      exact ⟨.int _ _, kpt _⟩
  · cases hd

theorem methD_ok (K : SoundE v mean mg mb n k) {o : Expr} {m : Str} {ap p : Pos} {args : List Expr} {r : D} {as : List D}
    (ho : k.e sc ρ o = some d) (ha : mapO (k.e sc ρ) args = some as) (hnc : notCall o = true) (hl : (ap.endLine == p.line) = true) (h2 : args.length ≤ 2) (hm : methD d m as = some r) (C : Cx v mean mg mb n A hs O mine env sc ρ s) :
    wpAny (pwm v) A (eval (.Call (.Attribute o m ap) args [] p) env) (Gv O r s) No s := by
  have hh : A.handled = none := C.room.hd
  rcases as with _ | ⟨a1, as⟩
  · exact none_some hm
  rcases as with _ | ⟨a2, as⟩
  rotate_left
  · rcases as with _ | ⟨a3, as⟩
    rotate_left
    · cases a1 with
      | str c => cases a2 <;> exact none_some hm
      | _ => exact none_some hm
    cases a1 with
    | str c => cases a2 with
      | int q => cases d with
        | str x =>
          replace hm := if_then (show (if m == Str.ofString "index" && decide (0 ≤ q) then (match c.cps.toList with
            | [k] => (findL k q.toNat (x.cps.toList.drop q.toNat)).map fun (i : Nat) => D.int (i : Int)
            | _ => none) else none) = some r from hm)
          obtain ⟨hc, hm⟩ := hm
          simp only [Bool.and_eq_true, beq_iff_eq, decide_eq_true_eq] at hc
          obtain ⟨hmi, hq⟩ := hc
          obtain ⟨kc, hkc, hm⟩ : ∃ kc, c.cps.toList = [kc] ∧ (findL kc q.toNat (x.cps.toList.drop q.toNat)).map (fun (i : Nat) => D.int (i : Int)) = some r := by
            generalize c.cps.toList = L at hm ⊢
            rcases L with _ | ⟨k1, _ | ⟨k2, L⟩⟩
            · exact none_some hm
            · exact ⟨k1, rfl, hm⟩
            · exact none_some hm
          obtain ⟨i, hi, rfl⟩ := Option.map_eq_some_iff.mp hm
          subst hmi
          have hcs : c = ⟨#[kc]⟩ := by obtain ⟨⟨l⟩⟩ := c; cases hkc; rfl
          subst hcs
          refine method_ K ho ha hnc hl h2 (by simp) F.plainAttrs_str F.slot_str_index F.type_str_index C (fun _ r => by obtain ⟨t, rfl⟩ := rep_str r; exact ⟨typeIs_str _ _ _, fun _ e => nomatch e⟩) fun hk ro rs => ?_
          obtain ⟨t, rfl⟩ := rep_str ro
          obtain ⟨v1, w1, rfl, r1, g1⟩ := rs.consInv
          obtain ⟨v2, w2, rfl, r2, g2⟩ := g1.consInv
          obtain rfl := g2.nilInv
          ·   obtain ⟨t1, rfl⟩ := rep_str r1
              obtain ⟨t2, rfl⟩ := rep_int r2
              obtain ⟨rest, hocc⟩ := occ_from hi
              have eq : q = ((q.toNat : Nat) : Int) := (Int.toNat_of_nonneg hq).symm
              rw [eq]
              exact call_gives F.slot_str_index (typeIs_str _ _ _) F.entry_str_index (F.args_str_index_3 _ _ _) (gives_index_from x ⟨#[kc]⟩ q.toNat _ _ _ i rest hocc) ⟨.int _ _, kpt _⟩
        | _ => exact none_some hm
      | _ => exact none_some hm
    | _ => exact none_some hm
  · cases d with
    | ill => cases a1 with
      | str y =>
        obtain ⟨hc, rfl⟩ := if_some (show (if m == Str.ofString "isdisjoint" && y.cps.toList.all (fun c => decide (32 ≤ c) && decide (c ≠ 127)) then some (D.bool true) else none) = some r from hm)
        simp only [Bool.and_eq_true, beq_iff_eq] at hc
        obtain ⟨rfl, hall⟩ := hc
        refine method_ K ho ha hnc hl h2 (by simp) plainAttrs_fs slot_fs_isd type_fs_isd C (fun hk r => ?_) fun {s₁ ov vs} hk ro rs => ?_
        · cases r
          obtain ⟨es, n, tt, ho, _⟩ := (C.keeps hk).bs.X.ill
          exact ⟨⟨_, ho, rfl⟩, fun a e => by cases e; exact ⟨_, ho, rfl⟩⟩
        · cases ro
          obtain ⟨v1, w1, rfl, r1, g1⟩ := rs.consInv
          obtain rfl := g1.nilInv
          ·
            obtain ⟨t, rfl⟩ := rep_str r1
            refine no_mono (toks_ (isd_ (E := No) (Q := fun val s' => ∃ h' tk, val = .bool true ∧ s' = { s₁ with heap := h', toks := tk } ∧ KeepsH s₁.heap h') hh (C.keeps hk).bs.X (fun c hc => ?_) fun h' tk hk' => ⟨h', tk, rfl, rfl, hk'⟩)) fun val s' ⟨⟨h', tk, e1, e2, e3⟩, ht⟩ => ?_
            · have := List.all_eq_true.mp hall c hc
              simpa using this
            · subst e1; subst e2
              exact ⟨.bool _, kpm e3 ht⟩
      | _ => exact none_some hm
    | lst l =>
        replace hm := if_then (show (if m == Str.ofString "count" then (countD a1 l).map fun (n : Nat) => D.int (n : Int) else none) = some r from by cases a1 <;> exact hm)
        obtain ⟨hc, hm⟩ := hm
        obtain rfl := beq_iff_eq.mp hc
        obtain ⟨c, hcd, rfl⟩ := Option.map_eq_some_iff.mp hm
        refine method_ K ho ha hnc hl h2 (by simp) F.plainAttrs_list F.slot_list_count F.type_list_count C (fun hk r => ?_) fun hk ro rs => ?_
        · obtain ⟨a, xs, m, rfl, h1, _⟩ := rep_lst r
          exact ⟨⟨_, h1, rfl⟩, fun a e => by cases e; exact ⟨_, h1, rfl⟩⟩
        · obtain ⟨v1, w1, rfl, r1, g1⟩ := rs.consInv
          obtain rfl := g1.nilInv
          exact count_ hcd ro r1 (by have := C.room.units; lia)
    | _ => cases a1 <;> exact none_some hm
end
end Mine
end
noncomputable section
open PySem PySem.W PyProof.Rows PySem.Challenge PySem.SeqAt
set_option maxRecDepth 100000
set_option linter.unusedVariables false
namespace Mine

theorem preSum_shift (val : Nat → Int) : ∀ n, preSum val (n + 1) = val 0 + preSum (fun i => val (i + 1)) n
  | 0 => by simp [preSum]
  | n + 1 => by
    rw [preSum, preSum_shift val n, preSum]
    lia
noncomputable def valD (l : List D) (i : Nat) : Int := match l[i]? with
  | some (.int z) => z
  | _ => 0
theorem sumD_pre {l : List D} : ∀ {a z : Int}, sumD l a = some z → (∀ (i : Nat) (d : D), l[i]? = some d → d = .int (valD l i)) ∧ z = a + preSum (valD l) l.length := by
  induction l with
  | nil =>
    intro a z h
    obtain rfl := Option.some.inj (show some a = some z from h)
    exact ⟨fun i d e => none_some e, (Int.add_zero _).symm⟩
  | cons d r ih =>
    intro a z h
    cases d with
    | int i =>
      obtain ⟨h1, h2⟩ := ih (show sumD r (a + i) = some z from h)
      refine ⟨fun j d hd => ?_, ?_⟩
      · cases j with
        | zero => exact (Option.some.inj hd).symm
        | succ j => exact h1 j d hd
      · rw [List.length_cons, preSum_shift, h2]
        exact Int.add_assoc ..
    | _ => exact none_some h

theorem insS_perm (x : Str) : ∀ l, (insS x l).Perm (x :: l)
  | [] => .refl _
  | y :: r => by
    unfold insS
    split
    · exact ((insS_perm x r).cons y).trans (.swap _ _ _)
    · exact .refl _
theorem sortS_perm : ∀ l, (sortS l).Perm l
  | [] => .refl _
  | x :: r => (insS_perm x _).trans ((sortS_perm r).cons x)
noncomputable abbrev leS (a b : Str) : Prop := ¬ b.cps.toList < a.cps.toList
theorem insS_pair (x : Str) : ∀ l : List Str, l.Pairwise leS → (insS x l).Pairwise leS
  | [], _ => List.pairwise_singleton _ _
  | y :: r, h => by
    unfold insS
    obtain ⟨h1, h2⟩ := List.pairwise_cons.mp h
    split
    · rename_i hlt
      refine List.pairwise_cons.mpr ⟨fun z hz => ?_, insS_pair x r h2⟩
      rcases List.mem_cons.mp ((insS_perm x r).mem_iff.mp hz) with rfl | hz
      · have := of_decide_eq_true hlt
        exact fun q => List.lt_asymm this q
      · exact h1 z hz
    · rename_i hlt
      have hlt : ¬ y.cps.toList < x.cps.toList := fun q => hlt (decide_eq_true q)
      refine List.pairwise_cons.mpr ⟨fun z hz => ?_, h⟩
      rcases List.mem_cons.mp hz with rfl | hz
      · exact hlt
      · intro q
        have hyz := h1 z hz
        unfold leS at hyz
        rw [List.not_lt] at hlt hyz
        exact absurd (List.le_trans hlt hyz) (by rw [List.not_le]; exact q)
theorem sortS_pair : ∀ l : List Str, (sortS l).Pairwise leS
  | [] => .nil
  | x :: r => insS_pair x _ (sortS_pair r)

theorem free_str : freeB (Str.ofString "str") = true := by kernel_rfl

section
variable {v : World} {mean : ExcName → Option Value} {mg mb : Str → Option Value} {n : Nat} {k : Kit} {A : Around} {hs : Heap} {O : Addr → Prop} {mine : Str → Prop} {env : Env} {sc : Scope} {ρ : Rho} {s : Shared} {d : D} {E : Value → Shared → Prop}

theorem strsD_cons {d : D} {t : List D} {ss : List Str} (h : strsD (d :: t) = some ss) : ∃ x r, d = .str x ∧ strsD t = some r ∧ x :: r = ss := by
  cases d with
  | str x =>
    obtain ⟨r, h1, h2⟩ := Option.map_eq_some_iff.mp (show (strsD t).map (x :: ·) = some ss from h)
    exact ⟨x, r, rfl, h1, h2⟩
  | _ => exact none_some h
theorem strs_of {l : List D} : ∀ {ss : List Str} {xs : List Value}, strsD l = some ss → Reps s.heap O l xs → StrsAre xs ss := by
  induction l with
  | nil =>
    intro ss xs h r
    obtain rfl := Option.some.inj (show some [] = some ss from h)
    obtain rfl := r.nilInv
    exact .nil
  | cons d t ih =>
    intro ss xs h r
    obtain ⟨x, ss', rfl, h1, rfl⟩ := strsD_cons h
    obtain ⟨v1, w1, rfl, a, b⟩ := r.consInv
    obtain ⟨t, rfl⟩ := rep_str a
    exact .cons _ _ (ih h1 b)
theorem reps_of {h : Heap} {ss : List Str} {xs : List Value} (r : StrsAre xs ss) : Reps h O (ss.map .str) xs := by
  induction r with
  | nil => exact .nil
  | cons _ _ _ ih => exact .cons (.str _ _) ih
theorem strs_len {ss : List Str} {xs : List Value} (r : StrsAre xs ss) : xs.length = ss.length :=
  by induction r with
  | nil => rfl
  | cons _ _ _ ih => exact congrArg (· + 1) ih
theorem strsD_map {l : List D} : ∀ {ss : List Str}, strsD l = some ss → l = ss.map .str := by
  induction l with
  | nil => exact fun h => Option.some.inj (show some [] = some _ from h) ▸ rfl
  | cons d t ih =>
    intro ss h
    obtain ⟨x, ss', rfl, h1, rfl⟩ := strsD_cons h
    rw [ih h1]; rfl

theorem pair_of_rising : ∀ (p : Str) (l : List Str), risingS p l = true → (p :: l).Pairwise leS
  | p, [], _ => List.pairwise_singleton _ _
  | p, x :: r, h => by
    simp only [risingS, Bool.and_eq_true, Bool.not_eq_true', ltCps_eq, decide_eq_false_iff_not] at h
    have ih := pair_of_rising x r h.2
    refine List.pairwise_cons.mpr ⟨fun z hz => ?_, ih⟩
    rcases List.mem_cons.mp hz with rfl | hz
    · exact h.1
    · have h2 := (List.pairwise_cons.mp ih).1 z hz
      have h1 := h.1
      unfold leS at h2 ⊢
      rw [List.not_lt] at h1 h2 ⊢
      exact List.le_trans h1 h2
theorem pair_of_sorted : ∀ (l : List Str), sortedS l = true → l.Pairwise leS
  | [], _ => .nil
  | x :: r, h => pair_of_rising x r h
theorem str_ext {a b : Str} (h : a.cps.toList = b.cps.toList) : a = b := by
  obtain ⟨⟨x⟩⟩ := a
  obtain ⟨⟨y⟩⟩ := b
  cases h; rfl
theorem sorted_is {ss ss' : List Str} (hp : ss'.Perm ss) (h : sortedS ss' = true) : ss' = sortS ss :=
  List.Perm.eq_of_pairwise (le := leS) (fun a b _ _ h1 h2 => str_ext (by
    unfold leS at h1 h2
    rw [List.not_lt] at h1 h2
    exact List.le_antisymm h1 h2)) (pair_of_sorted _ h) (sortS_pair ss) (hp.trans (sortS_perm ss).symm)

theorem len_ {l : List D} {val : Value} (hlen : l.length < 2 ^ 40) (r : Rep s.heap O (.lst l) val) : wpAny (pwm v) A (call (.builtin "len") [val]) (Gv O (.int l.length) s) E s := by
  obtain ⟨a, xs, m, rfl, h1, r1⟩ := rep_lst r
  have e : (xs.toArray.size : Int) = l.length := by rw [List.size_toArray, r1.length]
  refine Calls.call_len_list (items := xs.toArray) ⟨_, h1, rfl, _, rfl⟩ (by rw [e]; lia) ?_
  rw [e]
  exact ⟨.int _ _, kpm (fun _ _ e => e) fun _ => Nat.succ_pos _⟩
theorem len_s {x : Str} {val : Value} (hlen : x.cps.toList.length < 2 ^ 40) (r : Rep s.heap O (.str x) val) : wpAny (pwm v) A (call (.builtin "len") [val]) (Gv O (.int x.cps.toList.length) s) E s := by
  obtain ⟨t, rfl⟩ := rep_str r
  have e : (x.length : Int) = (x.cps.toList.length : Int) := by simp [Str.length]
  refine len_str (by rw [e]; lia) ?_
  rw [e]
  exact ⟨.int _ _, kpm (fun _ _ e => e) fun _ => Nat.succ_pos _⟩
theorem sum_ {l : List D} {z : Int} {val : Value} (hh : A.handled = none) (hz : sumD l 0 = some z) (r : Rep s.heap O (.lst l) val) : wpAny (pwm v) A (call (.builtin "sum") [val]) (Gv O (.int z) s) E s := by
  obtain ⟨h1, h2⟩ := sumD_pre hz
  refine upP id (call_sum_walkAnyS (no_mono (iter_lst (A := A.in1) (O := O) hh r (Q := HasIt v A.in1 O l s) fun it s' q => q) fun it s' q => ?_))
  obtain ⟨I, fp, P, St, rfl, T, k1⟩ := q
  obtain ⟨⟨h₀, tk, rfl, k1⟩, _⟩ := k1
  have hI : I < h₀.objs.size := let ⟨o, _, e, _⟩ := T.flds 0 _ T.st; Heap.lt_size e
  refine ⟨I, fp, [I], fun a b => b = a, l.length, fun i v => P i v ∧ i < l.length, fun i s => St i s.heap, valD l, rfl, ?_, T.st, fun b hb => ?_, fun i val hp => ?_, fun s' t' hm => ?_⟩
  · have W := T.W.toS
    exact ⟨W.sub, W.grefl, W.gtrans, W.frame, fun i s Q E hi st hQ => W.item i s Q E hi st fun v s' hP => hQ v s' ⟨hP, hi⟩, W.done, W.self⟩
  · rcases T.foot b hb with rfl | ⟨_, c, xs, n, _, e⟩
    · exact hI
    · exact Heap.lt_size e
  · obtain ⟨t, e⟩ := rep_int ((h1 i _ (List.getElem?_eq_getElem hp.2)) ▸ T.item i val _ hp.1 (List.getElem?_eq_getElem hp.2))
    exact ⟨t, e⟩
  · have e : z = preSum (valD l) l.length := by rw [h2]; lia
    rw [← e]
    refine ⟨.int _ _, s'.heap, s'.toks, ?_, fun b o e => hm.heap b o (fun q => ?_) (k1 b o e)⟩
    · obtain ⟨hp, g, dr, tk', os⟩ := s'
      have e1 := hm.gens
      have e2 := hm.drawn
      have e3 := hm.os
      dsimp only at e1 e2 e3
      subst e1; subst e2; subst e3
      rfl
    · have : b = I := by simpa using q
      subst this
      exact Nat.lt_irrefl _ (Nat.lt_of_lt_of_le (Heap.lt_size e) T.above)
theorem sorted_ {l : List D} {ss : List Str} {val : Value} (h64 : ss.length < 64) (hz : strsD l = some ss) (hO : OB O s.heap) (r : Rep s.heap O (.lst l) val) : wpAny (pwm v) A (call (.builtin "sorted") [val]) (Gv O (lstS (sortS ss)) s) E s := by
  obtain ⟨a, xs, m, rfl, h1, r1⟩ := rep_lst r
  have hS := strs_of hz r1
  refine sorted_strs (l := a) (vs := xs) ⟨_, h1, rfl, _, rfl⟩ hS (by rw [strs_len hS]; exact h64) fun out ss' g1 g2 g3 => ?_
  obtain rfl := sorted_is g2 g3
  obtain ⟨e, he⟩ := sortedAll_at s.heap xs out
  refine ⟨.lst (xs := out.toList) (by simpa using he) (hO.new (Nat.le_succ _)) (reps_of g1), kpm (fun b o e => sortedAll_old e) id⟩

theorem builtD_ok {f : Str} {args : List D} {r : D} {vs : List Value} (hd : builtD f args = some r) (hh : A.handled = none) (hO : OB O s.heap) (rs : Reps s.heap O args vs) :
    ∃ id, bootBuiltins f = some (.builtin id) ∧ freeB f = true ∧ wpAny (pwm v) A (call (.builtin id) vs) (Gv O r s) E s := by
  rcases args with _ | ⟨x, _ | ⟨y, args⟩⟩
  · exact none_some hd
  rotate_left
  · cases x <;> exact none_some hd
  obtain ⟨v1, w1, rfl, r1, g1⟩ := rs.consInv
  obtain rfl := g1.nilInv
  cases x with
  | lst l =>
    replace hd : (if f == Str.ofString "len" then (if smallL l.length then some (D.int l.length) else none) else if f == Str.ofString "sum" then (sumD l 0).map .int else if f == Str.ofString "sorted" then (strsD l).bind (fun ss => if decide (ss.length < 64) then some (lstS (sortS ss)) else none) else none) = some r := hd
    by_cases hf : (f == Str.ofString "len") = true
    · obtain ⟨hl, rfl⟩ := if_some ((if_pos hf).symm.trans hd)
      obtain rfl := beq_iff_eq.mp hf
      exact ⟨"len", boot_len, free_len, len_ (by have := smallL_le hl; lia) r1⟩
    replace hd := (if_neg hf).symm.trans hd
    by_cases hf : (f == Str.ofString "sum") = true
    · obtain ⟨z, hz, rfl⟩ := Option.map_eq_some_iff.mp ((if_pos hf).symm.trans hd)
      obtain rfl := beq_iff_eq.mp hf
      exact ⟨"sum", boot_sum, free_sum, sum_ hh hz r1⟩
    obtain ⟨hf, hd⟩ := if_then ((if_neg hf).symm.trans hd)
    obtain rfl := beq_iff_eq.mp hf
    obtain ⟨ss, hss, h⟩ := Option.bind_eq_some_iff.mp hd
    obtain ⟨h64, rfl⟩ := if_some h
    exact ⟨"sorted", boot_sorted, free_sorted, sorted_ (of_decide_eq_true h64) hss hO r1⟩
  | str x =>
    replace hd : (if f == Str.ofString "len" then (if smallL x.cps.toList.length then some (D.int x.cps.toList.length) else none) else none) = some r := hd
    obtain ⟨hf, hd⟩ := if_then hd
    obtain ⟨hl, rfl⟩ := if_some hd
    obtain rfl := beq_iff_eq.mp hf
    exact ⟨"len", boot_len, free_len, len_s (by have := smallL_le hl; lia) r1⟩
  | _ => exact none_some hd
end
end Mine
end
noncomputable section
open PySem PySem.W PyProof.Rows PySem.Challenge PySem.SeqAt
set_option maxRecDepth 100000
set_option linter.unusedVariables false
namespace Mine

section
variable {v : World} {mean : ExcName → Option Value} {mg mb : Str → Option Value} {n : Nat} {k : Kit} {A : Around} {hs : Heap} {O : Addr → Prop} {mine : Str → Prop} {env : Env} {sc : Scope} {ρ : Rho} {s : Shared} {d : D} {E : Value → Shared → Prop}

theorem mapO2 {f : Expr → Option D} {a b : Expr} {x y : D} (ha : f a = some x) (hb : f b = some y) : mapO f [a, b] = some [x, y] := by
  simp [mapO, ha, hb]
theorem mapO1 {f : Expr → Option D} {a : Expr} {x : D} (ha : f a = some x) : mapO f [a] = some [x] := by
  simp [mapO, ha]

/-- replace -/
theorem rep16 : ∀ p ∈ [97, 98, 63, 42], ∀ q ∈ [97, 98, 63, 42], Txt.replace ⟨#[p, q]⟩ ⟨#[42, 42]⟩ ⟨#[42]⟩ = repS ⟨#[p, q]⟩ := by decide +kernel

theorem in4 {c : Nat} (h : (c == 97 || c == 98 || c == 63 || c == 42) = true) : c ∈ [97, 98, 63, 42] := by
  simp only [Bool.or_eq_true, beq_iff_eq] at h
  rcases h with ((rfl | rfl) | rfl) | rfl <;> decide
theorem replace_ (K : SoundE v mean mg mb n k) {o : Expr} {ap p : Pos} {a b x : Str} {ka kb : Nat} {pa pb : Pos} (ho : k.e sc ρ o = some (.str x)) (hnc : notCall o = true) (hl : (ap.endLine == p.line) = true)
    (ha : a.cps.toList = [42, 42]) (hb : b.cps.toList = [42]) (hx : pat2 x = true) (C : Cx v mean mg mb n A hs O mine env sc ρ s) :
    wpAny (pwm v) A (eval (.Call (.Attribute o (Str.ofString "replace") ap) [.Constant (.str a) ka pa, .Constant (.str b) kb pb] [] p) env) (Gv O (.str (repS x)) s) No s := by
  have ha' : a = ⟨#[42, 42]⟩ := str_ext ha
  have hb' : b = ⟨#[42]⟩ := str_ext hb
  subst ha' hb'
  have hr : Txt.replace x ⟨#[42, 42]⟩ ⟨#[42]⟩ = repS x := by
    unfold pat2 at hx
    simp only [Bool.and_eq_true, beq_iff_eq] at hx
    obtain ⟨hl, hall⟩ := hx
    obtain ⟨p, q, e⟩ := len2 hl
    rw [show x = ⟨#[p, q]⟩ from str_ext e]
    exact rep16 p (in4 (List.all_eq_true.mp hall p (by rw [e]; exact .head _))) q (in4 (List.all_eq_true.mp hall q (by rw [e]; exact .tail _ (.head _))))
  have hlen : x.length = 2 := by
    unfold pat2 at hx
    simp only [Bool.and_eq_true, beq_iff_eq] at hx
    simpa [Str.length] using hx.1
  refine wpAny_Call_method_lateS (base_of hnc) rfl hl (wpAny_mono (K.e ho C) (fun ov s₁ ⟨r1, k1⟩ => ?_) fun _ _ x => x)
  obtain ⟨t, rfl⟩ := rep_str r1
  refine ⟨"str", "str.replace", F.plainAttrs_str, F.slot_str_replace, F.type_str_replace, typeIs_str _ _ _, (fun _ e => nomatch e), ?_⟩
  have tk := (C.keeps k1).tk
  refine Calls.callWith_builtin rfl (Calls.evalArgs_plain (Calls.spliced_cons (wpAny_Constant_str (pos := pa) (k := ka) (Calls.spliced_cons (wpAny_Constant_str (pos := pb) (k := kb) (Calls.spliced_nil ?_))))))
  show wpAny _ _ (call (.builtin "str.replace") [.str x t, .str ⟨#[42, 42]⟩ s₁.toks, .str ⟨#[42]⟩ (s₁.toks + 1)]) _ _ _
  have hk1 := k1
  refine no_mono (toks_ (E := No) (SC.replaceW (Q := fun val s' => ∃ t' k', val = .str (repS x) t' ∧ s' = { s₁ with toks := k' }) (Nat.pos_iff_ne_zero.mp tk) (Nat.succ_ne_zero _) (Nat.ne_of_lt (Nat.lt_succ_self _)) (by decide) (by rw [hlen]; decide) (by decide) fun t' k' => ⟨t', k', by rw [hr], rfl⟩))
    fun val s' ⟨⟨t', k', e1, e2⟩, ht⟩ => ?_
  subst e1; subst e2
  exact ⟨.str _ _, kpx k1 (kpm (fun _ _ e => e) fun _ => ht (Nat.succ_pos _))⟩

theorem dictGet_ (K : SoundE v mean mg mb n k) {e1 e2 f1 f2 a b : Expr} {ap p dp : Pos} {k1 k2 x : Str} {v1 v2 y : D} (h1 : k.e sc ρ e1 = some (.str k1)) (h2 : k.e sc ρ f1 = some v1) (h3 : k.e sc ρ e2 = some (.str k2)) (h4 : k.e sc ρ f2 = some v2)
    (ha : k.e sc ρ a = some (.str x)) (hb : k.e sc ρ b = some y) (hl : (ap.endLine == p.line) = true) (hne : ¬ (k1 == k2) = true) (C : Cx v mean mg mb n A hs O mine env sc ρ s) :
    wpAny (pwm v) A (eval (.Call (.Attribute (.Dict [some e1, some e2] [f1, f2] dp) (Str.ofString "get") ap) [a, b] [] p) env) (Gv O (if k1 == x then v1 else if k2 == x then v2 else y) s) No s := by
  have hm := mapO2 (f := k.e sc ρ) ha hb
  refine wpAny_Call_method_lateS rfl (few_ K hm (by simp)) hl (wpAny_Dict_walk (knd := PySem.strKind pw_rt0017_01 v) rfl rfl (by simp) (by simp) ?_)
  have C0 : Cx v mean mg mb n A hs O mine env sc ρ { s with heap := s.heap.push { cls := .type "dict", data := .dict #[] } } := C.keeps (kpp _ _)
  have hD0 : (s.heap.push { cls := .type "dict", data := .dict #[] }).get? s.heap.objs.size = some { cls := .type "dict", data := .dict #[] } := Heap.get?_push_size _ rfl
  refine pairTrees_cons_walk (wpAny_mono (K.e h1 C0) (fun kv1 s₁ ⟨r1, q1⟩ => wpAny_mono (K.e h2 (C0.keeps q1)) (fun vv1 s₂ ⟨r2, q2⟩ => pairTrees_cons_walk (wpAny_mono (K.e h3 (C0.keeps (kpx q1 q2))) (fun kv2 s₃ ⟨r3, q3⟩ =>
    wpAny_mono (K.e h4 (C0.keeps (kpx q1 (kpx q2 q3)))) (fun vv2 s₄ ⟨r4, q4⟩ => pairTrees_nil_walk ?_) fun _ _ x => x) fun _ _ x => x)) fun _ _ x => x) fun _ _ x => x)
  obtain ⟨t1, rfl⟩ := rep_str r1
  obtain ⟨t3, rfl⟩ := rep_str r3
  have q04 := kpx q1 (kpx q2 (kpx q3 q4))
  have hD4 := kph q04 _ _ hD0
  refine display_done_str (P := fun h' => _) rfl (by simp [strPairs]; exact fun e => hne (by simp [e])) ⟨_, #[], 0, hD4, ⟨rfl, rfl, rfl⟩, rfl, fun e he => by simp at he, .nil, List.nodup_nil⟩ fun h' hd hs => ?_
  have keep : ∀ {d w}, Rep s₄.heap O d w → Rep h' O d w := fun r => r.mono (fun b => b = s.heap.objs.size) (fun b o hb e => hs.extBut b o hb e) fun b hb c xs n _ _ e => by
    subst hb; rw [hD4] at e; cases e
  have hk5 : Kp s { s₄ with heap := h', toks := s₄.toks + 2 } := ⟨by
    obtain ⟨⟨H, tk, rfl, hk⟩, _⟩ := q04
    exact ⟨h', _, rfl, fun b o e => hs.extBut b o (Nat.ne_of_lt (Heap.lt_size e)) (hk b o (Heap.get?_push_of_some _ e))⟩, fun _ => Nat.succ_pos _⟩
  have C5 := C.keeps hk5
  obtain ⟨od, es, ep, hod, hex, hdat, hkeys, hpairs, hnd⟩ := id hd
  refine ⟨"dict", "dict.get", F.plainAttrs_dict, F.slot_dict_get, F.type_dict_get, ⟨od, hod, hex.1⟩, fun a e => by cases e; exact ⟨od, hod, hex.2.1⟩, ?_⟩
  refine Calls.callWith_builtin (plain_any K hm) (evalArgs_ K hm (by simp) C5 fun vs s₆ rs q6 => ?_)
  obtain ⟨va1, w1, rfl, ra, g1⟩ := rs.consInv
  obtain ⟨vb1, w2, rfl, rb, g2⟩ := g1.consInv
  obtain rfl := g2.nilInv
  obtain ⟨tx, rfl⟩ := rep_str ra
  have hm6 : s₆.heap.MapOf (PySem.strKind pw_rt0017_01 v) s.heap.objs.size (valueAt (strPairs [(.str k1 t1, vv1), (.str k2 t3, vv2)])) :=
    Heap.DictOf.mapOf ⟨od, es, ep, kph q6 _ _ hod, hex, hdat, hkeys, hpairs, hnd⟩
  refine call_meetsIn F.slot_dict_get ⟨od, kph q6 _ _ hod, hex.1⟩ F.entry_dict_get (F.args_dict_get_3 _ _ _) (meets_dict_get_default (PySem.strKind pw_rt0017_01 v) (k := x) s.heap.objs.size (by simp [PySem.strKind, Value.isStrOf]) ?_ _) ⟨_, hm6, ?_⟩
  · obtain ⟨_, _, _, hw, _⟩ := C.bs.X.white
    have h62 : 62 < s.heap.objs.size := Heap.lt_size hw
    refine beq_eq_false_iff_ne.mpr fun e => ?_
    rw [show sysModules = 1 from rfl] at e
    have e' : s.heap.objs.size = 1 := e
    lia
  · have k6 : ∀ {d w}, Rep s₄.heap O d w → Rep s₆.heap O d w := fun r => (keep r).keeps (kph q6)
    refine ⟨?_, kpx hk5 (kpx q6 (kpt _))⟩
    have e2 : valueAt (strPairs [(Value.str k1 t1, vv1), (Value.str k2 t3, vv2)]) x = if k1 == x then some vv1 else if k2 == x then some vv2 else none := by
      simp only [strPairs, valueAt, List.find?_cons, List.find?_nil]
      by_cases c1 : k1 = x
      · simp [c1]
      · by_cases c2 : k2 = x
        · simp [c1, c2]
        · simp [c1, c2]
    rw [e2]
    cases hc1 : (k1 == x) with
    | true => exact k6 ((r2.keeps (kph q3)).keeps (kph q4))
    | false => cases hc2 : (k2 == x) with
      | true => exact k6 r4
      | false => exact rb
end
end Mine
end
noncomputable section
open PySem PySem.W PyProof.Rows PySem.Challenge PySem.SeqAt
set_option maxRecDepth 100000
set_option linter.unusedVariables false
namespace Mine

section
variable {v : World} {mean : ExcName → Option Value} {mg mb : Str → Option Value} {n : Nat} {k : Kit} {A : Around} {hs : Heap} {O : Addr → Prop} {mine : Str → Prop} {env : Env} {sc : Scope} {ρ : Rho} {s : Shared} {d : D} {E : Value → Shared → Prop}

theorem translateC (K : SoundE v mean mg mb n k) {o : Expr} {ap p py : Pos} {y x : Str} (ho : k.e sc ρ o = some (.str x)) (hnc : notCall o = true) (hl : (ap.endLine == p.line) = true) (h1 : isGlob sc y = true) (h2 : goodName y = true)
    (hy : y = Str.ofString "_special_chars_map") (hx : x.cps.toList = [97] ∨ x.cps.toList = [98]) (C : Cx v mean mg mb n A hs O mine env sc ρ s) :
    wpAny (pwm v) A (eval (.Call (.Attribute o (Str.ofString "translate") ap) [.Name y py] [] p) env) (Gv O (.str x) s) No s := by
  refine wpAny_Call_method_lateS (base_of hnc) rfl hl (wpAny_mono (K.e ho C) (fun ov s₁ ⟨r1, k1⟩ => ?_) fun _ _ x => x)
  obtain ⟨t, rfl⟩ := rep_str r1
  have C1 := C.keeps k1
  refine ⟨"str", "str.translate", F.plainAttrs_str, F.slot_str_translate, F.type_str_translate, typeIs_str _ _ _, (fun _ e => nomatch e), ?_⟩
  refine Calls.callWith_builtin rfl (Calls.evalArgs_plain (Calls.spliced_cons (glob_ C1 h1 h2 (hy ▸ C1.bs.X.sp) (Calls.spliced_nil ?_))))
  show wpAny _ _ (call (.builtin "str.translate") [.str x t, .ref 124]) _ _ _
  refine no_mono (toks_ (E := No) (translate_ (Q := fun val s' => ∃ t' h' tk, val = .str x t' ∧ s' = { s₁ with heap := h', toks := tk } ∧ KeepsH s₁.heap h') C.room.hd C1.bs.X.special hx fun t' h' tk hk => ⟨t', h', tk, rfl, rfl, hk⟩))
    fun val s' ⟨⟨t', h', tk, e1, e2, e3⟩, ht⟩ => ?_
  subst e1; subst e2
  exact ⟨.str _ _, kpx k1 (kpm e3 ht)⟩

theorem isinstC (K : SoundE v mean mg mb n k) {a : Expr} {f y x : Str} {pf py p : Pos} (ha : k.e sc ρ a = some (.str x)) (h1 : isGlob sc f = true) (h2 : goodName f = true) (h3 : isGlob sc y = true) (h4 : goodName y = true)
    (hf : f = Str.ofString "isinstance") (hy : y = Str.ofString "str") (C : Cx v mean mg mb n A hs O mine env sc ρ s) :
    wpAny (pwm v) A (eval (.Call (.Name f pf) [a, .Name y py] [] p) env) (Gv O (.bool true) s) No s := by
  subst hf hy
  obtain ⟨f1, f2⟩ := free_B C.bs free_isinstance
  have he : starEach [a, .Name (Str.ofString "str") py] env = [(false, eval a env), (false, eval (.Name (Str.ofString "str") py) env)] := by
    cases a with
    | Starred x p => rw [K.star] at ha; cases ha
    | _ => rfl
  refine Call_ (builtin_ C h1 h2 f1 (f2.trans boot_isinstance) ?_)
  rw [he]
  refine Calls.callWith_builtin rfl (Calls.evalArgs_plain (Calls.spliced_cons (wpAny_mono (K.e ha C) (fun ov s₁ ⟨r1, k1⟩ => ?_) fun _ _ x => x)))
  obtain ⟨t, rfl⟩ := rep_str r1
  have C1 := C.keeps k1
  obtain ⟨g1, g2⟩ := free_B C1.bs free_str
  refine Calls.spliced_cons (builtin_ C1 h3 h4 g1 (g2.trans PyProof.Rows.boot_str) (Calls.spliced_nil ?_))
  exact IsiPair.str_str ⟨.bool _, k1⟩

theorem builtD_name {f : Str} {as : List D} {r : D} (hd : builtD f as = some r) : f = Str.ofString "len" ∨ f = Str.ofString "sum" ∨ f = Str.ofString "sorted" := by
  rcases as with _ | ⟨x, _ | ⟨y, as⟩⟩
  · exact none_some hd
  rotate_left
  · cases x <;> exact none_some hd
  by_cases h1 : (f == Str.ofString "len") = true
  · exact .inl (beq_iff_eq.mp h1)
  cases x with
  | lst l =>
    replace hd := (if_neg h1).symm.trans (show (if f == Str.ofString "len" then (if smallL l.length then some (D.int l.length) else none) else if f == Str.ofString "sum" then (sumD l 0).map .int else if f == Str.ofString "sorted" then (strsD l).bind (fun ss => if decide (ss.length < 64) then some (lstS (sortS ss)) else none) else none) = some r from hd)
    by_cases h2 : (f == Str.ofString "sum") = true
    · exact .inr (.inl (beq_iff_eq.mp h2))
    · exact .inr (.inr (beq_iff_eq.mp (if_then ((if_neg h2).symm.trans hd)).1))
  | str x => exact .inl (beq_iff_eq.mp (if_then (show (if f == Str.ofString "len" then (if smallL x.cps.toList.length then some (D.int x.cps.toList.length) else none) else none) = some r from hd)).1)
  | _ => exact none_some hd
theorem builtC (K : SoundE v mean mg mb n k) {args : List Expr} {as : List D} {f : Str} {r : D} {pf p : Pos} (ha : mapO (k.e sc ρ) args = some as) (h1 : isGlob sc f = true) (h2 : goodName f = true) (hd : builtD f as = some r)
    (C : Cx v mean mg mb n A hs O mine env sc ρ s) : wpAny (pwm v) A (eval (.Call (.Name f pf) args [] p) env) (Gv O r s) No s := by
  have hne : as ≠ [] := fun z => none_some (z ▸ hd : builtD f [] = some r)
  have hfree : ∃ id, bootBuiltins f = some (.builtin id) ∧ freeB f = true := by
    rcases builtD_name hd with rfl | rfl | rfl
    · exact ⟨_, boot_len, free_len⟩
    · exact ⟨_, boot_sum, free_sum⟩
    · exact ⟨_, boot_sorted, free_sorted⟩
  obtain ⟨id, hb, hf⟩ := hfree
  obtain ⟨f1, f2⟩ := free_B C.bs hf
  refine Call_ (builtin_ C h1 h2 f1 (f2.trans hb) ?_)
  refine Calls.callWith_builtin (plain_any K ha) (evalArgs_ K ha hne C fun vs s' rs k1 => ?_)
  have C1 := C.keeps k1
  obtain ⟨id', hb', _, hc⟩ := builtD_ok (v := v) (A := A) (E := No) hd C.room.hd C1.ob rs
  rw [hb] at hb'
  cases hb'
  exact wpAny_mono hc (fun _ _ g => gives_keeps k1 g) fun _ _ x => x

noncomputable abbrev kwD (k : Kit) (sc : Scope) (ρ : Rho) : Keyword → Option (Str × D) := fun q => match q.arg with | some n => (k.e sc ρ q.value).map fun d => (n, d) | none => none

theorem kws_ (K : SoundE v mean mg mb n k) {pos : Pos} : ∀ {kws : List Keyword} {kw : List (Str × D)} {s : Shared}, mapO (kwD k sc ρ) kws = some kw → Cx v mean mg mb n A hs O mine env sc ρ s →
    (backToKw pos (keywordEach kws env)).all (·.1.isSome) = true ∧ (backToKw pos (keywordEach kws env)).filterMap (·.1) = kw.map Prod.fst ∧
    wpAny (pwm v) A (evalAll ((backToKw pos (keywordEach kws env)).map (·.2))) (fun vs s' => Reps s'.heap O (kw.map Prod.snd) vs ∧ Kp s s') No s
  | [], kw, s, h, C => by
    cases h
    exact ⟨rfl, rfl, evalAll_nil ⟨.nil, kpr _⟩⟩
  | ⟨nm, val, pk⟩ :: r, kw, s, h, C => by
    unfold mapO at h
    split at h
    · rename_i q hq
      obtain ⟨kw', hr, rfl⟩ := Option.map_eq_some_iff.mp h
      cases nm with
      | none => cases hq
      | some nm =>
        obtain ⟨d, hd, rfl⟩ := Option.map_eq_some_iff.mp hq
        obtain ⟨a1, a2, _⟩ := kws_ K hr C
        refine ⟨by simpa [keywordEach, backToKw] using a1, by simpa [keywordEach, backToKw] using a2, ?_⟩
        refine evalAll_cons (wpAny_bind (wpAny_mono (K.e hd C) (fun val s₁ ⟨r1, k1⟩ => wpAny_bind (wpAny_standAt (wpAny_pure ?_))) fun _ _ x => x))
        exact wpAny_mono (kws_ K hr (C.keeps k1)).2.2 (fun vs s₂ ⟨r2, k2⟩ => ⟨.cons (r1.keeps (kph k2)) r2, kpx k1 k2⟩) fun _ _ x => x
    · cases h

theorem zip_fst {α β : Type} : ∀ {l : List α} {m : List β}, l.length = m.length → (l.zip m).map Prod.fst = l ∧ (l.zip m).map Prod.snd = m
  | [], [], _ => ⟨rfl, rfl⟩
  | a :: l, b :: m, h => by
    obtain ⟨h1, h2⟩ := zip_fst (l := l) (m := m) (by simpa using h)
    simp [h1, h2]

theorem funcC (K : SoundE v mean mg mb n k) {args : List Expr} {kws : List Keyword} {as : List D} {kw : List (Str × D)} {f : Str} {r : D} {pf p : Pos} (ha : mapO (k.e sc ρ) args = some as) (hk : mapO (kwD k sc ρ) kws = some kw)
    (h1 : isGlob sc f = true) (h2 : goodName f = true) (hc : k.c f as kw = some r) (C : Cx v mean mg mb n A hs O mine env sc ρ s) : wpAny (pwm v) A (eval (.Call (.Name f pf) args kws p) env) (Gv O r s) No s := by
  obtain ⟨a, o, fd, e1, e2, e3⟩ := K.cn hc C.bs
  have he : eval (.Call (.Name f pf) args kws p) env = (do callWith p (← eval (.Name f pf) env) [] (backTo p (starEach args env)) (backToKw p (keywordEach kws env))) := rfl
  rw [he]
  refine wpAny_bind (glob_ C h1 h2 e1 (callWith_function_kw (o := o) (fd := fd) ?_))
  have fin : ∀ {s₁ s₂ : Shared} {vs kvs : List Value}, Reps s₁.heap O as vs → Kp s s₁ → Reps s₂.heap O (kw.map Prod.snd) kvs → Kp s₁ s₂ →
      (s₂.heap.get? a = some o ∧ o.data = .func fd) ∧ wpAny (pwm v) A (call (.ref a) ([] ++ vs) (((backToKw p (keywordEach kws env)).filterMap (·.1)).zip kvs)) (Gv O r s) No s₂ := by
    intro s₁ s₂ vs kvs rs q1 rk q2
    have q := kpx q1 q2
    refine ⟨⟨kph q _ _ e2, e3⟩, ?_⟩
    have C2 := C.keeps q
    obtain ⟨_, b2, _⟩ := kws_ (pos := p) K hk C
    rw [b2]
    have hz := zip_fst (l := kw.map Prod.fst) (m := kvs) (by rw [List.length_map, rk.length, List.length_map])
    exact wpAny_mono (K.c hc e1 C.room C2.bs C2.tk C2.ob (rs.keeps (kph q2)) hz.1 (by rw [hz.2]; exact rk)) (fun _ _ g => gives_keeps q g) fun _ _ x => x
  obtain ⟨b1, _, _⟩ := kws_ (pos := p) K hk C
  cases args with
  | nil =>
    cases ha
    refine evalArgs_kw_nil b1 (wpAny_mono (kws_ (pos := p) K hk C).2.2 (fun kvs s₂ ⟨rk, q2⟩ => fin .nil (kpr s) rk q2) fun _ _ x => x)
  | cons e rest =>
    have hst : starEach (e :: rest) env = (false, eval e env) :: starEach rest env := by
      cases e with
      | Starred x p => unfold mapO at ha; rw [K.star] at ha; cases ha
      | _ => rfl
    have hA := args_ (pos := p) K ha C
    rw [hst] at hA ⊢
    refine evalArgs_kw b1 (wpAny_mono hA (fun vs s₁ ⟨rs, q1⟩ => wpAny_mono (kws_ (pos := p) K hk (C.keeps q1)).2.2 (fun kvs s₂ ⟨rk, q2⟩ => fin rs q1 rk q2) fun _ _ x => x) fun _ _ x => x)
end
end Mine
end
noncomputable section
open PySem PySem.W PyProof.Rows PySem.Challenge PySem.SeqAt
set_option maxRecDepth 100000
set_option linter.unusedVariables false
namespace Mine

section
variable {M : Model} {A : Around} {E : Value → Shared → Prop} {s : Shared} {env : Env}
theorem wpAny_And3 {x y z : Expr} {pos : Pos} {Q : Value → Shared → Prop}
    (h : wpAny M A (eval x env) (fun v s₁ => wpAny M A (truthy v) (fun t s₂ => if t then wpAny M A (eval y env) (fun w s₃ => wpAny M A (truthy w) (fun t s₄ => if t then wpAny M A (eval z env) Q E s₄ else Q w s₄) E s₃) E s₂ else Q v s₂) E s₁) E s) :
    wpAny M A (eval (.BoolOp .And [x, y, z] pos) env) Q E s := by
  show wpAny M A (do
    let v ← eval x env
    standAt pos
    let t ← holding [v] (truthy v)
    match BoolOp.And, t with
    | .And, false | .Or, true => pure v
    | _, _ => boolOp pos .And [eval y env, eval z env]) Q E s
  refine wpAny_bind (wpAny_mono h (fun v s₁ h₁ => wpAny_bind (wpAny_standAt (wpAny_bind (wpAny_holding (wpAny_mono h₁ (fun t s₂ h₂ => ?_) fun _ _ x => x))))) fun _ _ x => x)
  cases t with
  | false => exact wpAny_pure h₂
  | true => exact wpAny_And2 h₂
end

section
variable {v : World} {mean : ExcName → Option Value} {mg mb : Str → Option Value} {n : Nat} {k : Kit} {A : Around} {hs : Heap} {O : Addr → Prop} {mine : Str → Prop} {env : Env} {sc : Scope} {ρ : Rho} {s : Shared} {d : D}

theorem callB (K : SoundE v mean mg mb n k) {args : List Expr} {kws : List Keyword} {as : List D} {kw : List (Str × D)} {f : Str} {r : D} {pf p : Pos} (ha : mapO (k.e sc ρ) args = some as) (hk : mapO (kwD k sc ρ) kws = some kw)
    (hb : (builtNames.contains f && kw.isEmpty) = true) (h1 : isGlob sc f = true) (h2 : goodName f = true) (hd : builtD f as = some r) (C : Cx v mean mg mb n A hs O mine env sc ρ s) :
    wpAny (pwm v) A (eval (.Call (.Name f pf) args kws p) env) (Gv O r s) No s := by
  rw [Bool.and_eq_true] at hb
  have e1 : kw = [] := by simpa using hb.2
  subst e1
  have e2 : kws = [] := by
    have := mapO_len hk
    simpa using this.symm
  subst e2
  exact builtC K ha h1 h2 hd C

theorem dict2_eq {o e1 f1 e2 f2 : Expr} (h : dict2? o = some (e1, f1, e2, f2)) : ∃ p, o = .Dict [some e1, some e2] [f1, f2] p := by
  cases o with
  | Dict ks vs p =>
    rcases ks with _ | ⟨_ | a, ks⟩
    · exact none_some h
    · exact none_some h
    rcases ks with _ | ⟨_ | b, _ | ⟨_, ks⟩⟩
    · exact none_some h
    · exact none_some h
    · exact none_some h
    · rcases vs with _ | ⟨c, _ | ⟨d, _ | ⟨_, vs⟩⟩⟩
      · exact none_some h
      · exact none_some h
      · obtain ⟨h1, h⟩ := Prod.mk.inj (Option.some.inj h)
        obtain ⟨h2, h⟩ := Prod.mk.inj h
        obtain ⟨h3, h4⟩ := Prod.mk.inj h
        exact ⟨p, by rw [h1, h2, h3, h4]⟩
      · exact none_some h
    · exact none_some h
  | _ => exact none_some h
theorem str_of {e : Expr} : (∃ a k p, e = .Constant (.str a) k p) ∨ ∀ l, strs2? (e :: l) = none := by
  cases e with
  | Constant c k p =>
    cases c with
    | str a => exact .inl ⟨a, k, p, rfl⟩
    | _ => exact .inr fun _ => rfl
  | _ => exact .inr fun _ => rfl
theorem str_of2 {e : Expr} {a : Str} {k : Nat} {p : Pos} : (∃ a k p, e = .Constant (.str a) k p) ∨ ∀ l, strs2? (.Constant (.str a) k p :: e :: l) = none := by
  cases e with
  | Constant c k p =>
    cases c with
    | str a => exact .inl ⟨a, k, p, rfl⟩
    | _ => exact .inr fun _ => rfl
  | _ => exact .inr fun _ => rfl
theorem strs2_eq {l : List Expr} {a b : Str} (h : strs2? l = some (a, b)) : ∃ k1 p1 k2 p2, l = [.Constant (.str a) k1 p1, .Constant (.str b) k2 p2] := by
  rcases l with _ | ⟨e1, l⟩
  · exact none_some h
  rcases str_of (e := e1) with ⟨a1, k1, p1, rfl⟩ | hn
  · rcases l with _ | ⟨e2, l⟩
    · exact none_some h
    rcases str_of2 (e := e2) with ⟨a2, k2, p2, rfl⟩ | hn
    · cases l with
      | nil =>
        obtain ⟨h1, h2⟩ := Prod.mk.inj (Option.some.inj h)
        exact ⟨k1, p1, k2, p2, by rw [h1, h2]⟩
      | cons _ _ => exact none_some h
    · exact none_some ((hn l).symm.trans h)
  · exact none_some ((hn l).symm.trans h)
theorem name1_eq {l : List Expr} {y : Str} {py : Pos} (h : name1? l = some (y, py)) : l = [.Name y py] := by
  rcases l with _ | ⟨e, l⟩
  · exact none_some h
  cases e with
  | Name a p =>
    cases l with
    | nil =>
      obtain ⟨h1, h2⟩ := Prod.mk.inj (Option.some.inj h)
      rw [h1, h2]
    | cons _ _ => exact none_some h
  | _ => exact none_some h
theorem name2_eq {l : List Expr} {a : Expr} {y : Str} {py : Pos} (h : name2? l = some (a, y, py)) : l = [a, .Name y py] := by
  rcases l with _ | ⟨x, _ | ⟨e, l⟩⟩
  · exact none_some h
  · exact none_some h
  cases e with
  | Name b p =>
    cases l with
    | nil =>
      obtain ⟨h1, h⟩ := Prod.mk.inj (Option.some.inj h)
      obtain ⟨h2, h3⟩ := Prod.mk.inj h
      rw [h1, h2, h3]
    | cons _ _ => exact none_some h
  | _ => exact none_some h
theorem slice_eq {i : Expr} {lo hi st : Option Expr} (h : slice? i = some (lo, hi, st)) : ∃ p, i = .Slice lo hi st p := by
  cases i with
  | Slice a b c p =>
    obtain ⟨h1, h⟩ := Prod.mk.inj (Option.some.inj h)
    obtain ⟨h2, h3⟩ := Prod.mk.inj h
    exact ⟨p, by rw [h1, h2, h3]⟩
  | _ => exact none_some h
theorem gen_eq {l : List Comprehension} {x : Str} {iter : Expr} {ifs : List Expr} (h : gen? l = some (x, iter, ifs)) : ∃ p, l = [⟨.Name x p, iter, ifs, 0⟩] := by
  rcases l with _ | ⟨⟨t, it, fs, as⟩, l⟩
  · exact none_some h
  cases t with
  | Name a p =>
    rcases as with (_ | as) | as
    · cases l with
      | nil =>
        obtain ⟨h1, h⟩ := Prod.mk.inj (Option.some.inj h)
        obtain ⟨h2, h3⟩ := Prod.mk.inj h
        exact ⟨p, by rw [h1, h2, h3]; rfl⟩
      | cons _ _ => exact none_some h
    · exact none_some h
    · exact none_some h
  | _ => exact none_some h
theorem of_truth {a : D} {x y : Option D} (h : (match truthD a with | some true => x | some false => y | none => none) = some d) : ∃ b, truthD a = some b ∧ (if b then x else y) = some d := by
  cases e : truthD a with
  | none => rw [e] at h; exact none_some h
  | some b => rw [e] at h; cases b <;> exact ⟨_, rfl, h⟩

theorem cmp1E_ok (W : WsAll v mg) (K : SoundE v mean mg mb n k) {l : Expr} {ops : List CmpOp} {rs : List Expr} {p : Pos} (h : cmp1E k sc ρ l ops rs = some d) (C : Cx v mean mg mb n A hs O mine env sc ρ s) : wpAny (pwm v) A (eval (.Compare l ops rs p) env) (Gv O d s) No s := by
  obtain ⟨op, r', rfl, rfl, h⟩ : ∃ op r', ops = [op] ∧ rs = [r'] ∧ (if behindInMarks op r' then none else (match k.e sc ρ l, k.e sc ρ r' with | some a, some b => (cmpD op a b).map D.bool | _, _ => none)) = some d := by
    rcases ops with _ | ⟨op, _ | ⟨o2, ops⟩⟩
    · exact none_some h
    · rcases rs with _ | ⟨r', _ | ⟨r2, rs⟩⟩
      · exact none_some h
      · exact ⟨op, r', rfl, rfl, h⟩
      · exact none_some h
    · exact none_some h
  replace h := if_else h
  obtain ⟨hm, h⟩ := h
  cases h1 : k.e sc ρ l with
  | none => rw [h1] at h; exact none_some h
  | some a =>
  cases h2 : k.e sc ρ r' with
  | none => rw [h1, h2] at h; exact none_some h
  | some b =>
  rw [h1, h2] at h
  obtain ⟨r, hr, rfl⟩ := Option.map_eq_some_iff.mp h
  exact wpAny_Compare1 (two_ K h1 h2 C fun va vb s₂ r1 r2 hk => wpAny_mono (cmp_of (h := s₂.heap) W hr (C.keeps hk) r1 r2) (fun _ _ ⟨e, hk'⟩ => ⟨e ▸ .bool _, kpx hk hk'⟩) fun _ _ x => x) (by simpa using hm)

theorem boolE_ok (W : WsAll v mg) (K : SoundE v mean mg mb n k) {op : BoolOp} {es : List Expr} {p : Pos} (h : boolE k sc ρ op es = some d) (C : Cx v mean mg mb n A hs O mine env sc ρ s) : wpAny (pwm v) A (eval (.BoolOp op es p) env) (Gv O d s) No s := by
  have and2 : ∀ {x y : Expr} {s : Shared}, (match k.e sc ρ x with | some a => (match truthD a with | some true => k.e sc ρ y | some false => some a | none => none) | none => none) = some d → Cx v mean mg mb n A hs O mine env sc ρ s →
      wpAny (pwm v) A (eval x env) (fun va s₁ => wpAny (pwm v) A (truthy va) (fun t s₂ => if t then wpAny (pwm v) A (eval y env) (Gv O d s) No s₂ else Gv O d s va s₂) No s₁) No s := by
    intro x y s h C
    cases ha : k.e sc ρ x with
    | none => rw [ha] at h; exact none_some h
    | some a =>
    rw [ha] at h
    replace h := of_truth (x := k.e sc ρ y) (y := some a) h
    obtain ⟨b, hb, h⟩ := h
    refine wpAny_mono (K.e ha C) (fun va s₁ ⟨r1, k1⟩ => ?_) fun _ _ x => x
    refine wpAny_mono (truthK hb r1) (fun b s₂ ⟨e, k2⟩ => ?_) fun _ _ x => x
    subst e
    cases b with
    | true => exact wpAny_mono (K.e h (C.keeps (kpx k1 k2))) (fun _ _ g => gives_keeps (kpx k1 k2) g) fun _ _ x => x
    | false => exact Option.some.inj h ▸ ⟨r1.keeps (kph k2), kpx k1 k2⟩
  cases op with
  | And =>
    rcases es with _ | ⟨x, _ | ⟨y, _ | ⟨z, _ | ⟨z', es⟩⟩⟩⟩
    · exact none_some h
    · exact none_some h
    · exact wpAny_And2 (and2 h C)
    · replace h : (match k.e sc ρ x with | some a => (match truthD a with | some true => (match k.e sc ρ y with | some a => (match truthD a with | some true => k.e sc ρ z | some false => some a | none => none) | none => none) | some false => some a | none => none) | none => none) = some d := h
      cases ha : k.e sc ρ x with
      | none => rw [ha] at h; exact none_some h
      | some a =>
      rw [ha] at h
      replace h := of_truth (x := (match k.e sc ρ y with | some a => (match truthD a with | some true => k.e sc ρ z | some false => some a | none => none) | none => none)) (y := some a) h
      obtain ⟨b, hb, h⟩ := h
      refine wpAny_And3 (wpAny_mono (K.e ha C) (fun va s₁ ⟨r1, k1⟩ => ?_) fun _ _ x => x)
      refine wpAny_mono (truthK hb r1) (fun b s₂ ⟨e, k2⟩ => ?_) fun _ _ x => x
      subst e
      have k3 := kpx k1 k2
      cases b with
      | true =>
        refine wpAny_mono (and2 h (C.keeps k3)) (fun _ _ q => wpAny_mono q (fun t _ q => ?_) fun _ _ x => x) fun _ _ x => x
        cases t with
        | true => exact wpAny_mono q (fun _ _ g => gives_keeps k3 g) fun _ _ x => x
        | false => exact gives_keeps k3 q
      | false => exact Option.some.inj h ▸ ⟨r1.keeps (kph k2), k3⟩
    · exact none_some h
  | Or =>
    rcases es with _ | ⟨x, _ | ⟨y, _ | ⟨z, es⟩⟩⟩
    · exact none_some h
    · exact none_some h
    · replace h : (match k.e sc ρ x with | some a => (match truthD a with | some false => k.e sc ρ y | some true => some a | none => none) | none => none) = some d := h
      cases ha : k.e sc ρ x with
      | none => rw [ha] at h; exact none_some h
      | some a =>
        rw [ha] at h
        replace h : (match truthD a with | some false => k.e sc ρ y | some true => some a | none => none) = some d := h
        cases hb : truthD a with
        | none => rw [hb] at h; exact none_some h
        | some b =>
          rw [hb] at h
          refine wpAny_Or2 (wpAny_mono (K.e ha C) (fun va s₁ ⟨r1, k1⟩ => ?_) fun _ _ x => x)
          refine wpAny_mono (truthK hb r1) (fun b s₂ ⟨e, k2⟩ => ?_) fun _ _ x => x
          subst e
          cases b with
          | true => exact Option.some.inj h ▸ ⟨r1.keeps (kph k2), kpx k1 k2⟩
          | false => exact wpAny_mono (K.e h (C.keeps (kpx k1 k2))) (fun _ _ g => gives_keeps (kpx k1 k2) g) fun _ _ x => x
    · exact none_some h

theorem two_inv {st : Option Expr} {b : Bool} (h : twoS st = some b) : (st = none ∧ b = false) ∨ ∃ c p, st = some (.Constant (.int 2) c p) ∧ b = true := by
  cases st with
  | none => exact .inl ⟨rfl, (Option.some.inj h).symm⟩
  | some e => cases e with
    | Constant c k p => cases c with
      | int i =>
        obtain ⟨h1, h2⟩ := if_some (show (if i == 2 then some true else none) = some b from h)
        exact .inr ⟨k, p, by rw [beq_iff_eq.mp h1], h2.symm⟩
      | _ => exact none_some h
    | _ => exact none_some h
theorem sub_inv {a : Option D} {l h' : Option (Option D)} {w : Option Bool} (h : subSl a l h' w = some d) : ∃ a' l1 h1 w' l2 h2, a = some a' ∧ l = some l1 ∧ h' = some h1 ∧ w = some w' ∧ natD l1 = some l2 ∧ natD h1 = some h2 ∧ sliceD a' l2 h2 w' = some d := by
  cases a with
  | none => exact none_some h
  | some a' => cases l with
    | none => exact none_some h
    | some l1 => cases h' with
      | none => exact none_some h
      | some h1 => cases w with
        | none => exact none_some h
        | some w' =>
          replace h : (match natD l1, natD h1 with | some l', some h' => sliceD a' l' h' w' | _, _ => none) = some d := h
          cases e1 : natD l1 with
          | none => rw [e1] at h; exact none_some h
          | some l2 => cases e2 : natD h1 with
            | none => rw [e1, e2] at h; exact none_some h
            | some h2 => rw [e1, e2] at h; exact ⟨a', l1, h1, w', l2, h2, rfl, rfl, rfl, rfl, e1, e2, h⟩
theorem sub_ok (W : WsAll v mg) (K : SoundE v mean mg mb n k) {x i : Expr} {p : Pos} (h : stepE k sc ρ (.Subscript x i p) = some d) (C : Cx v mean mg mb n A hs O mine env sc ρ s) : wpAny (pwm v) A (eval (.Subscript x i p) env) (Gv O d s) No s := by
  cases hsl : slice? i with
  | some q =>
    obtain ⟨lo, hi, st⟩ := q
    obtain ⟨ps, rfl⟩ := slice_eq hsl
    obtain ⟨a, l, h', w, l', h'', h1, h2, h3, h4, e2, e3, h⟩ := sub_inv (show subSl (k.e sc ρ x) (optE k sc ρ lo) (optE k sc ρ hi) (twoS st) = some d from h)
    refine Subscript_ (wpAny_mono (K.e h1 C) (fun va s₁ ⟨r1, k1⟩ => ?_) fun _ _ x => x)
    refine wpAny_Slice (wpAny_mono (evalPart_ K h2 e2 (C.keeps k1)) (fun vl s₂ ⟨p2, k2⟩ => ?_) fun _ _ x => x)
    refine wpAny_mono (evalPart_ K h3 e3 (C.keeps (kpx k1 k2))) (fun vu s₃ ⟨p3, k3⟩ => ?_) fun _ _ x => x
    have kk := kpx k1 (kpx k2 k3)
    have hO := C.ob.keeps (kph kk)
    have r3 := (r1.keeps (kph k2)).keeps (kph k3)
    rcases two_inv h4 with ⟨rfl, rfl⟩ | ⟨c, pc, rfl, rfl⟩
    · exact evalPart_none_step (wpAny_mono (sliceK h r3 p2 p3 hO) (fun _ _ g => gives_keeps kk g) fun _ _ x => x)
    · refine evalPart_some_step (wpAny_Constant_int ?_)
      obtain rfl := slice2_none h
      cases p3
      exact wpAny_mono (slice2K (s := s₃) (fun q => Nat.succ_pos _) h r3 p2 hO) (fun _ _ g => gives_keeps kk g) fun _ _ x => x
  | none =>
    replace h : (match slice? i with
      | some (lo, hi, st) => subSl (k.e sc ρ x) (optE k sc ρ lo) (optE k sc ρ hi) (twoS st)
      | none => (match k.e sc ρ x, k.e sc ρ i with
        | some d, some j => getD d j
        | _, _ => none)) = some d := h
    rw [hsl] at h
    cases h1 : k.e sc ρ x with
    | none => rw [h1] at h; exact none_some h
    | some a =>
    cases h2 : k.e sc ρ i with
    | none => rw [h1, h2] at h; exact none_some h
    | some j =>
    rw [h1, h2] at h
    exact Subscript_ (two_ K h1 h2 C fun va vb s₂ r1 r2 hk => wpAny_mono (getK h r1 r2) (fun _ _ g => gives_keeps hk g) fun _ _ x => x)

noncomputable abbrev get2V (k : Kit) (sc : Scope) (ρ : Rho) (e1 f1 e2 f2 a b : Expr) : Option D := match k.e sc ρ e1, k.e sc ρ f1, k.e sc ρ e2, k.e sc ρ f2 with
    | some (.str k1), some v1, some (.str k2), some v2 => (match k.e sc ρ a, k.e sc ρ b with
      | some (.str x), some y => if k1 == k2 then none else some (if k1 == x then v1 else if k2 == x then v2 else y)
      | _, _ => none)
    | _, _, _, _ => none
noncomputable def Get2 (o1 o2 o3 o4 o5 o6 : Option D) (d : D) : Prop := ∃ k1 v1 k2 v2 x y, o1 = some (.str k1) ∧ o2 = some v1 ∧ o3 = some (.str k2) ∧ o4 = some v2 ∧ o5 = some (.str x) ∧ o6 = some y ∧ ¬ (k1 == k2) = true ∧ (if k1 == x then v1 else if k2 == x then v2 else y) = d
theorem get2_inv {o1 o2 o3 o4 o5 o6 : Option D} (h : (match o1, o2, o3, o4 with
    | some (.str k1), some v1, some (.str k2), some v2 => (match o5, o6 with
      | some (.str x), some y => if k1 == k2 then none else some (if k1 == x then v1 else if k2 == x then v2 else y)
      | _, _ => none)
    | _, _, _, _ => none) = some d) : Get2 o1 o2 o3 o4 o5 o6 d := by
  cases o1 with
  | none => exact none_some h
  | some d1 => cases d1 with
    | str k1 => cases o2 with
      | none => exact none_some h
      | some v1 => cases o3 with
        | none => exact none_some h
        | some d3 => cases d3 with
          | str k2 => cases o4 with
            | none => exact none_some h
            | some v2 => cases o5 with
              | none => exact none_some h
              | some d5 => cases d5 with
                | str x => cases o6 with
                  | none => exact none_some h
                  | some y =>
                    obtain ⟨hne, e⟩ := if_none (show (if k1 == k2 then none else some (if k1 == x then v1 else if k2 == x then v2 else y)) = some d from h)
                    exact ⟨k1, v1, k2, v2, x, y, rfl, rfl, rfl, rfl, rfl, rfl, hne, e⟩
                | _ => exact none_some h
          | _ => exact none_some h
    | _ => exact none_some h
theorem repl_ok (K : SoundE v mean mg mb n k) {o : Expr} {m a b : Str} {ap p : Pos} {k1 k2 : Nat} {p1 p2 : Pos} (h : replE k sc ρ o m ap p a b = some d) (C : Cx v mean mg mb n A hs O mine env sc ρ s) : wpAny (pwm v) A (eval (.Call (.Attribute o m ap) [.Constant (.str a) k1 p1, .Constant (.str b) k2 p2] [] p) env) (Gv O d s) No s := by
  replace h := if_then h
  obtain ⟨hc, h⟩ := h
  simp only [Bool.and_eq_true, beq_iff_eq] at hc
  obtain ⟨⟨⟨⟨hnc, hl⟩, rfl⟩, ha⟩, hb⟩ := hc
  cases hx : k.e sc ρ o with
  | none => rw [hx] at h; exact none_some h
  | some q =>
    rw [hx] at h
    cases q with
    | str x =>
      obtain ⟨hp, rfl⟩ := if_some (show (if pat2 x then some (D.str (repS x)) else none) = some d from h)
      exact replace_ K hx hnc (by simpa using hl) ha hb hp C
    | _ => exact none_some h
theorem meth1_ok (K : SoundE v mean mg mb n k) {o : Expr} {m y : Str} {ap p py : Pos} (h : meth1E k sc ρ o m ap p y py = some d) (C : Cx v mean mg mb n A hs O mine env sc ρ s) : wpAny (pwm v) A (eval (.Call (.Attribute o m ap) [.Name y py] [] p) env) (Gv O d s) No s := by
  replace h := if_then h
  obtain ⟨hc, h⟩ := h
  simp only [Bool.and_eq_true, beq_iff_eq] at hc
  obtain ⟨hnc, hl⟩ := hc
  by_cases hc2 : (m == Str.ofString "translate" && isGlob sc y && goodName y && y == Str.ofString "_special_chars_map") = true
  · rw [if_pos hc2] at h
    simp only [Bool.and_eq_true, beq_iff_eq] at hc2
    obtain ⟨⟨⟨rfl, h1⟩, h2⟩, hy⟩ := hc2
    cases hx : k.e sc ρ o with
    | none => rw [hx] at h; exact none_some h
    | some q =>
      rw [hx] at h
      cases q with
      | str x =>
        obtain ⟨hx2, rfl⟩ := if_some (show (if x.cps.toList == [97] || x.cps.toList == [98] then some (D.str x) else none) = some d from h)
        simp only [Bool.or_eq_true, beq_iff_eq] at hx2
        exact translateC K hx hnc (by simpa using hl) h1 h2 hy hx2 C
      | _ => exact none_some h
  · rw [if_neg hc2] at h
    cases h1 : k.e sc ρ o with
    | none => rw [h1] at h; exact none_some h
    | some a =>
    cases h2 : k.e sc ρ (.Name y py) with
    | none => rw [h1, h2] at h; exact none_some h
    | some b =>
    rw [h1, h2] at h
    exact methD_ok K h1 (mapO1 h2) hnc (by simpa using hl) (by simp) h C
theorem attrE_ok (W : WsAll v mg) (K : SoundE v mean mg mb n k) {o : Expr} {m : Str} {ap p : Pos} {args : List Expr} (h : attrE k sc ρ o m ap p args = some d) (C : Cx v mean mg mb n A hs O mine env sc ρ s) : wpAny (pwm v) A (eval (.Call (.Attribute o m ap) args [] p) env) (Gv O d s) No s := by
  cases hd : dict2? o with
  | some q =>
    obtain ⟨e1, f1, e2, f2⟩ := q
    obtain ⟨pd, rfl⟩ := dict2_eq hd
    rcases args with _ | ⟨a, _ | ⟨b, _ | ⟨c, l⟩⟩⟩
    · exact none_some h
    · exact none_some h
    · replace h := if_then (show (if m == Str.ofString "get" && ap.endLine == p.line then get2V k sc ρ e1 f1 e2 f2 a b else none) = some d from h)
      obtain ⟨hc, h⟩ := h
      simp only [Bool.and_eq_true, beq_iff_eq] at hc
      obtain ⟨rfl, hl⟩ := hc
      obtain ⟨k1, v1, k2, v2, x, y, h1, h2, h3, h4, h5, h6, hne, rfl⟩ := get2_inv (o1 := k.e sc ρ e1) (o2 := k.e sc ρ f1) (o3 := k.e sc ρ e2) (o4 := k.e sc ρ f2) (o5 := k.e sc ρ a) (o6 := k.e sc ρ b) h
      exact dictGet_ K h1 h2 h3 h4 h5 h6 (by simpa using hl) hne C
    · exact none_some h
  | none =>
    replace h : (match dict2? o with
      | some (e1, f1, e2, f2) => get2E k sc ρ e1 f1 e2 f2 m ap p args
      | none => (match strs2? args with
        | some (a, b) => replE k sc ρ o m ap p a b
        | none => (match name1? args with
          | some (y, py) => meth1E k sc ρ o m ap p y py
          | none => methE k sc ρ o m ap p args))) = some d := h
    rw [hd] at h
    cases hs2 : strs2? args with
    | some q =>
      obtain ⟨a, b⟩ := q
      rw [hs2] at h
      obtain ⟨k1, p1, k2, p2, rfl⟩ := strs2_eq hs2
      exact repl_ok K h C
    | none =>
      rw [hs2] at h
      cases hn1 : name1? args with
      | some q =>
        obtain ⟨y, py⟩ := q
        rw [hn1] at h
        obtain rfl := name1_eq hn1
        exact meth1_ok K h C
      | none =>
        rw [hn1] at h
        replace h := if_then (show (if notCall o && ap.endLine == p.line && decide (args.length ≤ 2) then (match k.e sc ρ o, mapO (k.e sc ρ) args with | some d, some as => methD d m as | _, _ => none) else none) = some d from h)
        obtain ⟨hc, h⟩ := h
        simp only [Bool.and_eq_true, beq_iff_eq, decide_eq_true_eq] at hc
        obtain ⟨⟨hnc, hl⟩, h2⟩ := hc
        cases h1 : k.e sc ρ o with
        | none => rw [h1] at h; exact none_some h
        | some a =>
        cases h3 : mapO (k.e sc ρ) args with
        | none => rw [h1, h3] at h; exact none_some h
        | some as =>
        rw [h1, h3] at h
        exact methD_ok K h1 h3 hnc (by simpa using hl) h2 h C

theorem fun2E_ok (W : WsAll v mg) (K : SoundE v mean mg mb n k) {f y : Str} {a : Expr} {pf py p : Pos} (h : fun2E k sc ρ f a y py = some d) (C : Cx v mean mg mb n A hs O mine env sc ρ s) : wpAny (pwm v) A (eval (.Call (.Name f pf) [a, .Name y py] [] p) env) (Gv O d s) No s := by
  by_cases hc : (isGlob sc f && goodName f && isGlob sc y && goodName y && f == Str.ofString "isinstance" && y == Str.ofString "str") = true
  · delta fun2E at h
    rw [if_pos hc] at h
    simp only [Bool.and_eq_true, beq_iff_eq] at hc
    obtain ⟨⟨⟨⟨⟨h1, h2⟩, h3⟩, h4⟩, hf⟩, hy⟩ := hc
    cases hx : k.e sc ρ a with
    | none => rw [hx] at h; exact none_some h
    | some q =>
      rw [hx] at h
      cases q with
      | str x =>
        obtain rfl := Option.some.inj h
        exact isinstC K hx h1 h2 h3 h4 hf hy C
      | _ => exact none_some h
  · delta fun2E at h
    rw [if_neg hc] at h
    cases h1 : k.e sc ρ a with
    | none => rw [h1] at h; exact none_some h
    | some a' =>
    cases h2 : k.e sc ρ (.Name y py) with
    | none => rw [h1, h2] at h; exact none_some h
    | some b =>
    rw [h1, h2] at h
    replace h := if_then (show (if isGlob sc f && goodName f then k.c f [a', b] [] else none) = some d from h)
    obtain ⟨hg, h⟩ := h
    rw [Bool.and_eq_true] at hg
    exact funcC K (mapO2 h1 h2) rfl hg.1 hg.2 h C
theorem funE_ok (W : WsAll v mg) (K : SoundE v mean mg mb n k) {f : Str} {args : List Expr} {kws : List Keyword} {pf p : Pos} (h : funE k sc ρ f args kws = some d) (C : Cx v mean mg mb n A hs O mine env sc ρ s) : wpAny (pwm v) A (eval (.Call (.Name f pf) args kws p) env) (Gv O d s) No s := by
  replace h := if_then h
  obtain ⟨hg, h⟩ := h
  rw [Bool.and_eq_true] at hg
  cases ha : mapO (k.e sc ρ) args with
  | none => rw [ha] at h; exact none_some h
  | some as =>
  rw [ha] at h
  replace h : (match mapO (kwD k sc ρ) kws with | some kw => if builtNames.contains f && kw.isEmpty then builtD f as else k.c f as kw | none => none) = some d := by
    rw [← h]; cases hk : mapO (kwD k sc ρ) kws <;> rfl
  cases hk : mapO (kwD k sc ρ) kws with
  | none => rw [hk] at h; exact none_some h
  | some kw =>
  rw [hk] at h
  by_cases hb : (builtNames.contains f && kw.isEmpty) = true
  · exact callB K ha hk hb hg.1 hg.2 ((if_pos hb).symm.trans h) C
  · exact funcC K ha hk hg.1 hg.2 ((if_neg hb).symm.trans h) C
theorem comp_inv {elt : Expr} {gens : List Comprehension} {csc : Scope} (h : (match gen? gens with
    | some (x, iter, ifs) => (match stepIter k sc ρ iter with
      | some ds => if compOk csc sc x && smallL ds.length && (ρ.lookup dot0).isNone then (let sc' := relab csc sc
        (compO (fun d => allO (k.t sc' ((x, d) :: ρ)) ifs) (fun d => k.e sc' ((x, d) :: ρ) elt) ds).map D.lst) else none
      | none => none)
    | none => none) = some d) : ∃ x px iter ifs ds ys, gens = [⟨.Name x px, iter, ifs, 0⟩] ∧ stepIter k sc ρ iter = some ds ∧ compOk csc sc x = true ∧ ds.length ≤ 100000 ∧ ρ.lookup dot0 = none ∧
      compO (fun d => allO (k.t (relab csc sc) ((x, d) :: ρ)) ifs) (fun d => k.e (relab csc sc) ((x, d) :: ρ) elt) ds = some ys ∧ D.lst ys = d := by
  cases hg : gen? gens with
  | none => rw [hg] at h; exact none_some h
  | some q =>
    obtain ⟨x, iter, ifs⟩ := q
    rw [hg] at h
    obtain ⟨px, rfl⟩ := gen_eq hg
    dsimp only at h
    cases hit : stepIter k sc ρ iter with
    | none => rw [hit] at h; exact none_some h
    | some ds =>
      rw [hit] at h
      obtain ⟨hc, h⟩ := if_then h
      simp only [Bool.and_eq_true, Option.isNone_iff_eq_none] at hc
      obtain ⟨⟨h1, h2⟩, h3⟩ := hc
      obtain ⟨ys, hy, e⟩ := Option.map_eq_some_iff.mp h
      exact ⟨x, px, iter, ifs, ds, ys, rfl, hit, h1, smallL_le h2, h3, hy, e⟩
theorem disp_small {es : List Expr} {ds : List D} {vs : List Value} {h' : Heap} (hl : smallL es.length = true) (hd : mapO (k.e sc ρ) es = some ds) (r1 : Reps h' O ds vs) : vs.length ≤ sizeLine := by
  have := smallL_le hl; have := line_big; rw [r1.length, mapO_len hd]; lia
theorem stepE_ok (W : WsAll v mg) (K : SoundE v mean mg mb n k) {x : Expr} (h : stepE k sc ρ x = some d) (C : Cx v mean mg mb n A hs O mine env sc ρ s) : wpAny (pwm v) A (eval x env) (Gv O d s) No s := by
  cases x with
  | Constant c kk p =>
    cases c with
    | none => obtain rfl := Option.some.inj (show some D.none = some d from h); exact wpAny_Constant_none ⟨.none, kpr _⟩
    | bool b => obtain rfl := Option.some.inj (show some (D.bool b) = some d from h); exact wpAny_Constant_bool ⟨.bool _, kpr _⟩
    | int i => obtain rfl := Option.some.inj (show some (D.int i) = some d from h); exact wpAny_Constant_int ⟨.int _ _, kpt _⟩
    | str y => obtain rfl := Option.some.inj (show some (D.str y) = some d from h); exact wpAny_Constant_str ⟨.str _ _, kpt _⟩
    | _ => exact none_some h
  | Name x p =>
    by_cases hv : (isVar sc x && goodName x) = true
    · have h := (if_pos hv).symm.trans h
      rw [Bool.and_eq_true] at hv
      exact var_ C hv.1 hv.2 h
    · replace h := if_then ((if_neg hv).symm.trans h)
      obtain ⟨hg, h⟩ := h
      rw [Bool.and_eq_true] at hg
      by_cases hx : (x == Str.ofString "TOML_WS_AND_NEWLINE") = true
      · obtain rfl := Option.some.inj ((if_pos hx).symm.trans h)
        exact glob_ C hg.1 hg.2 (beq_iff_eq.mp hx ▸ C.bs.X.ws) ⟨.ws, kpr _⟩
      · obtain ⟨hx, rfl⟩ := if_some ((if_neg hx).symm.trans h)
        simp only [Bool.or_eq_true, beq_iff_eq] at hx
        rcases hx with hx | hx
        · exact glob_ C hg.1 hg.2 (hx ▸ C.bs.X.lit) ⟨.ill, kpr _⟩
        · exact glob_ C hg.1 hg.2 (hx ▸ C.bs.X.com) ⟨.ill, kpr _⟩
  | BinOp l op r p =>
    replace h : (match k.e sc ρ l, k.e sc ρ r with | some a, some b => binD op a b | _, _ => none) = some d := h
    cases h1 : k.e sc ρ l with
    | none => rw [h1] at h; exact none_some h
    | some a =>
    cases h2 : k.e sc ρ r with
    | none => rw [h1, h2] at h; exact none_some h
    | some b =>
    rw [h1, h2] at h
    exact wpAny_BinOp (two_ K h1 h2 C fun va vb s₂ r1 r2 hk => wpAny_mono (binK h r1 r2 (C.ob.keeps (kph hk))) (fun _ _ g => gives_keeps hk g) fun _ _ x => x)
  | UnaryOp op x p =>
    cases op with
    | Not =>
      obtain ⟨b, hb, rfl⟩ := Option.map_eq_some_iff.mp (show ((k.e sc ρ x).bind truthD).map (fun b => D.bool (!b)) = some d from h)
      obtain ⟨a, ha, hb⟩ := Option.bind_eq_some_iff.mp hb
      exact wpAny_UnaryOp (wpAny_mono (K.e ha C) (fun va s₁ ⟨r1, k1⟩ => wpAny_mono (notK hb r1) (fun _ _ g => gives_keeps k1 g) fun _ _ x => x) fun _ _ x => x)
    | USub =>
      replace h : (match k.e sc ρ x with | some (.int i) => some (D.int (-i)) | _ => none) = some d := h
      cases hi : k.e sc ρ x with
      | none => rw [hi] at h; exact none_some h
      | some q =>
        rw [hi] at h
        cases q with
        | int i =>
          obtain rfl := Option.some.inj h
          exact wpAny_UnaryOp (wpAny_mono (K.e hi C) (fun va s₁ ⟨r1, k1⟩ => wpAny_mono (negK r1) (fun _ _ g => gives_keeps k1 g) fun _ _ x => x) fun _ _ x => x)
        | _ => exact none_some h
    | _ => exact none_some h
  | Compare l ops rs p => exact cmp1E_ok W K h C
  | BoolOp op es p => exact boolE_ok W K h C
  | IfExp c a b p =>
    replace h : (match k.t sc ρ c with | some true => k.e sc ρ a | some false => k.e sc ρ b | none => none) = some d := h
    cases hb : k.t sc ρ c with
    | none => rw [hb] at h; exact none_some h
    | some q =>
      rw [hb] at h
      refine wpAny_IfExp (wpAny_mono (K.t hb C) (fun b s₁ ⟨e, k1⟩ => ?_) fun _ _ x => x)
      subst e
      cases b <;> exact wpAny_mono (K.e h (C.keeps k1)) (fun _ _ g => gives_keeps k1 g) fun _ _ x => x
  | List es p =>
    replace h := if_then h
    obtain ⟨hl, h⟩ := h
    obtain ⟨ds, hd, rfl⟩ := Option.map_eq_some_iff.mp h
    exact wpAny_List (wpAny_mono (args_ K hd C) (fun vs s₁ ⟨r1, k1⟩ => ⟨disp_small hl hd r1, rep_new (C.ob.keeps (kph k1)) r1 0, kpx k1 (kpp _ _)⟩) fun _ _ x => x)
  | Tuple es q p =>
    replace h := if_then h
    obtain ⟨hl, h⟩ := h
    obtain ⟨ds, hd, rfl⟩ := Option.map_eq_some_iff.mp h
    exact wpAny_Tuple (wpAny_mono (args_ K hd C) (fun vs s₁ ⟨r1, k1⟩ => ⟨disp_small hl hd r1, rep_newT (C.ob.keeps (kph k1)) r1 0, kpx k1 (kpp _ _)⟩) fun _ _ x => x)
  | Subscript x i p => exact sub_ok W K h C
  | Call f args kws p =>
    cases f with
    | Attribute o m ap =>
      replace h := if_then h
      obtain ⟨hk, h⟩ := h
      obtain rfl := List.isEmpty_iff.mp hk
      exact attrE_ok W K h C
    | Name f pf =>
      replace h : (match name2? args, kws.isEmpty with | some (a, y, py), true => fun2E k sc ρ f a y py | _, _ => funE k sc ρ f args kws) = some d := h
      cases h2 : name2? args with
      | none => rw [h2] at h; exact funE_ok W K h C
      | some q =>
        obtain ⟨a, y, py⟩ := q
        rw [h2] at h
        cases kws with
        | nil =>
          obtain rfl := name2_eq h2
          exact fun2E_ok W K h C
        | cons _ _ => exact funE_ok W K h C
    | _ => exact none_some h
  | ListComp elt gens csc p =>
    obtain ⟨x, px, iter, ifs, ds, ys, rfl, hit, h1, h2, h3, hy, rfl⟩ := comp_inv h
    exact comp_value K hit h1 h2 h3 hy C
  | _ => exact none_some h
end
end Mine
end
noncomputable section
open PySem PySem.W PyProof.Rows PySem.Challenge PySem.SeqAt
set_option maxRecDepth 100000
set_option linter.unusedVariables false
namespace Mine

theorem Room.le {n m : Nat} {A : Around} (r : Room n A) (h : m ≤ n) : Room m A := ⟨r.hd, by have := r.depth; lia, by have := r.units; lia⟩

theorem fn_spec : specNames.all (fun f => (fnOf f).isSome) = true := by kernel_rfl

section
variable {v : World} {mean : ExcName → Option Value} {mg mb : Str → Option Value} {n : Nat} {k : Kit} {A : Around} {hs : Heap} {O : Addr → Prop} {env : Env} {sc : Scope} {ρ : Rho} {s : Shared} {d : D}

theorem Cx.le {mine : Str → Prop} {m : Nat} (C : Cx v mean mg mb n A hs O mine env sc ρ s) (h : m ≤ n) : Cx v mean mg mb m A hs O mine env sc ρ s := ⟨C.room.le h, C.bs0, C.er, C.scp, C.ob, C.tk⟩

theorem compUse_ok {g : Bool} (K : SoundE v mean mg mb n k) : CompUse v mean mg mb (n + 1) (stepAll g k) := by
  intro sc ρ elt gens csc cpos d h A hs O env s x px pos C hx hsw
  obtain ⟨x', px', iter, ifs, ds, ys, rfl, hit, h1, h2, h3, hy, rfl⟩ := comp_inv h
  exact comp_used K hit h1 h2 h3 hy C.pred hx hsw

noncomputable def Sound (v : World) (mean : ExcName → Option Value) (mg mb : Str → Option Value) (n : Nat) : Prop := SoundE v mean mg mb n (ev n) ∧ SoundS v mean mg mb n (ev n)

theorem compUse_ev (h : ∀ m, m ≤ n → Sound v mean mg mb m) : CompUse v mean mg mb n (ev n) := by
  cases n with
  | zero => intro sc ρ elt gens csc cpos d h; cases h
  | succ m => exact compUse_ok (h m (Nat.le_succ m)).1
theorem plain_ev : ∀ n, Plain (ev n)
  | 0 => ⟨fun _ _ _ _ _ _ => rfl, fun _ _ _ _ _ _ _ => rfl⟩
  | n + 1 => ⟨fun _ _ _ _ _ _ => rfl, fun _ _ _ _ _ _ _ => rfl⟩

theorem stepW_inv {c : Expr} {b : List Stmt} {ρ' : Rho} {fl : Fl} (h : stepW k sc ρ c b = some (ρ', fl)) : (∃ ρ₂, k.t sc ρ c = some true ∧ exL (k.s sc) ρ b = some (ρ₂, .next) ∧ k.w sc ρ₂ c b = some (ρ', fl)) ∨ (∃ d, k.t sc ρ c = some true ∧ exL (k.s sc) ρ b = some (ρ', .ret d) ∧ .ret d = fl) ∨ (k.t sc ρ c = some false ∧ ρ = ρ' ∧ .next = fl) := by
  delta stepW at h
  cases e : k.t sc ρ c with
  | none => rw [e] at h; exact none_some h
  | some q =>
    rw [e] at h
    cases q with
    | false =>
      obtain ⟨h1, h2⟩ := Prod.mk.inj (Option.some.inj h)
      exact .inr (.inr ⟨rfl, h1, h2⟩)
    | true =>
      dsimp only at h
      cases e2 : exL (k.s sc) ρ b with
      | none => rw [e2] at h; exact none_some h
      | some q =>
        obtain ⟨ρ₂, g⟩ := q
        rw [e2] at h
        cases g with
        | next => exact .inl ⟨ρ₂, rfl, rfl, h⟩
        | brk => exact none_some h
        | ret d =>
          obtain ⟨h1, h2⟩ := Prod.mk.inj (Option.some.inj h)
          exact .inr (.inl ⟨d, rfl, by rw [h1], h2⟩)
theorem while_ok (h : ∀ m, m ≤ n → Sound v mean mg mb m) {c : Expr} {b : List Stmt} {ρ' : Rho} {fl : Fl} (hw : (ev (n + 1)).w sc ρ c b = some (ρ', fl)) (C : Cx v mean mg mb (n + 1) A hs O (mineOf env) env sc ρ s) :
    codeAny (pwm v) A (.whileLoop c b [] env) (fun r s' => ∃ f, r = .ok f ∧ SPost hs O env ρ' fl s f s') s := by
  refine codeAny_hide fun Q hQ => ?_
  obtain ⟨J, hJ⟩ : ∃ J : Nat → Shared → Prop, ∀ m s', J m s' ↔ (∃ ρ₁ h tk, s' = { s with heap := h, toks := tk } ∧ m ≤ n + 1 ∧ (ev m).w sc ρ₁ c b = some (ρ', fl) ∧ Cx v mean mg mb m A hs O (mineOf env) env sc ρ₁ s' ∧ KeepBut env (mineOf env) s.heap h ∧ (0 < s.toks → 0 < tk)) := ⟨_, fun _ _ => Iff.rfl⟩
  refine codeAny_whileLoop J ?_ (n + 1) ((hJ _ _).mpr ⟨ρ, s.heap, s.toks, rfl, Nat.le_refl _, hw, C, fun _ _ _ _ e => e, id⟩)
  intro m s' hm'
  obtain ⟨ρ₁, H, tk, rfl, hm, hw, C1, kb, ht⟩ := (hJ m s').mp hm'
  clear hm'
  cases m with
  | zero => exact none_some hw
  | succ j =>
    obtain ⟨KE, KS⟩ := h j (Nat.le_of_succ_le_succ hm)
    have Cj := C1.pred
    rcases stepW_inv hw with ⟨ρ₂, hb, hx, hw⟩ | ⟨d, hb, hx, hfl⟩ | ⟨hb, hρ, hfl⟩
    · refine wpAny_mono (KE.t hb Cj) (fun q s₂ ⟨e, k2⟩ => ?_) fun _ _ x => x.elim
      subst e
      simp only [if_true]
      have C2 := Cj.keeps k2
      obtain ⟨⟨h2, t2, rfl, k2⟩, tt2⟩ := k2
      refine wpAny_mono (execs_ KS hx C2) (fun f s₃ hp => ?_) fun _ _ x => x.elim
      obtain ⟨rfl, h3, t3, rfl, er, kb3, tt3⟩ := hp
      exact ⟨j, Nat.lt_succ_self _, (hJ _ _).mpr ⟨ρ₂, h3, t3, rfl, Nat.le_of_succ_le hm, hw, ⟨C2.room, C2.bs0, er, C2.scp, ob_after C2.ob er (fun _ => trivial) kb3, tt3 C2.tk⟩, fun b o hb hc e => kb3 b o hb hc (k2 b o (kb b o hb hc e)), fun q => tt3 (tt2 (ht q))⟩⟩
    · refine wpAny_mono (KE.t hb Cj) (fun q s₂ ⟨e, k2⟩ => ?_) fun _ _ x => x.elim
      subst e
      simp only [if_true]
      have C2 := Cj.keeps k2
      obtain ⟨⟨h2, t2, rfl, k2⟩, tt2⟩ := k2
      refine wpAny_mono (execs_ KS hx C2) (fun f s₃ hp => ?_) fun _ _ x => x.elim
      obtain ⟨⟨val, rfl, rr⟩, h3, t3, rfl, er, kb3, tt3⟩ := hp
      exact hQ _ _ ⟨_, rfl, hfl ▸ ⟨val, rfl, rr⟩, h3, t3, rfl, er, (fun b o hb hc e => kb3 b o hb hc (k2 b o (kb b o hb hc e))), fun q => tt3 (tt2 (ht q))⟩
    · refine wpAny_mono (KE.t hb Cj) (fun q s₂ ⟨e, k2⟩ => ?_) fun _ _ x => x.elim
      subst e
      simp only [Bool.false_eq_true, if_false]
      have C2 := Cj.keeps k2
      obtain ⟨⟨h2, t2, rfl, k2⟩, tt2⟩ := k2
      exact wpAny_execs_nil (hQ _ _ ⟨_, rfl, hfl ▸ rfl, h2, t2, rfl, hρ ▸ C2.er, (fun b o hb hc e => k2 b o (kb b o hb hc e)), fun q => tt2 (ht q)⟩)

theorem sound_step (KSp : 20 ≤ n → SpecOK v mean mg mb (n + 1)) (h : ∀ m, m ≤ n → Sound v mean mg mb m) : Sound v mean mg mb (n + 1) := by
  obtain ⟨KE, KS⟩ := h n (Nat.le_refl _)
  refine ⟨⟨fun _ _ _ _ => rfl, fun _ _ _ _ _ => rfl, ?_, ?_, ?_, ?_⟩, ⟨?_, ?_⟩⟩
  · intro sc ρ x d hx A hs O mine env s C
    exact stepE_ok wsAll KE hx C.pred
  · intro sc ρ x d hx A hs O mine env s C
    exact stepT_ok wsAll KE hx C.pred
  rotate_left
  · intro f args kw d hx A O vals kws a s hm R B h0 hO ha hk hkv
    exact stepC_ok (fun g => KSp (Nat.le_of_ble_eq_true g)) KS hx hm R B h0 hO ha hk hkv
  · intro sc ρ st ρ' fl hx A hs O env s C
    exact stepS_ok wsAll KE KS (compUse_ev h) (plain_ev n) (fun a b c d e C => two_names KE a b c d e C) hx C.pred
  · intro sc ρ c b ρ' fl hx A hs O env s C
    exact while_ok h hx C
  intro f args kw d hh hx B
  have hf : ∃ i, fnOf f = some i := by
    have hx : stepC (Nat.ble 20 n) (ev n) f args kw = some d := hx
    by_cases hs : specNames.contains f = true
    · have := List.all_eq_true.mp fn_spec f (by simpa using hs)
      exact Option.isSome_iff_exists.mp this
    · replace hx := (if_neg hs).symm.trans hx
      cases e : fnOf f with
      | some i => exact ⟨i, rfl⟩
      | none => rw [e] at hx; exact none_some hx
  obtain ⟨i, hi⟩ := hf
  obtain ⟨_, a, o, pm, code, doc, h1, h2, h3, _⟩ := fn_of hi B
  exact ⟨a, o, _, h1, h2, h3⟩

theorem sound_all (KSp : ∀ n, 20 ≤ n → (∀ m, m ≤ n → Sound v mean mg mb m) → SpecOK v mean mg mb (n + 1)) : ∀ n m, m ≤ n → Sound v mean mg mb m
  | 0, m, hm => by
    obtain rfl : m = 0 := by lia
    refine ⟨⟨fun _ _ _ _ => rfl, fun _ _ _ _ _ => rfl, ?_, ?_, ?_, ?_⟩, ⟨?_, ?_⟩⟩
    · intro _ _ _ _ h; cases h
    · intro _ _ _ _ h; cases h
    · intro _ _ _ _ _ h; cases h
    · intro _ _ _ _ h; cases h
    · intro _ _ _ _ _ h; cases h
    · intro _ _ _ _ _ _ h; cases h
  | n + 1, m, hm => by
    have ih := sound_all KSp n
    by_cases h : m ≤ n
    · exact ih m h
    · obtain rfl : m = n + 1 := by lia
      exact sound_step (fun g => KSp n g ih) ih
end
end Mine
end
noncomputable section
open PySem PySem.W PyProof.Rows PySem.Challenge PySem.SeqAt
set_option maxRecDepth 100000
set_option linter.unusedVariables false
namespace Mine

noncomputable def bmO (a : Addr) : Obj := { cls := .type "builtin_function_or_method", data := .fields #[.builtin "list.append", .ref a] }
theorem md_get : typeLookup (.type "method_descriptor") (Str.ofString "__get__") = pure (some (.builtin "method_descriptor.__get__")) := by rw [typeLookup_type, builtinLookup_eq_fast]; kernel_rfl
theorem md_set : typeLookup (.type "method_descriptor") (Str.ofString "__set__") = pure none := by rw [typeLookup_type, builtinLookup_eq_fast]; kernel_rfl
theorem md_delete : typeLookup (.type "method_descriptor") (Str.ofString "__delete__") = pure none := by rw [typeLookup_type, builtinLookup_eq_fast]; kernel_rfl
theorem slot_md_get : Slot "method_descriptor" "__get__" "method_descriptor.__get__" :=
  .of (owner := "method_descriptor") (n := "__get__") (by rw [typeLookup_type, builtinLookup_eq_fast]; kernel_rfl) (by decide +kernel) (by decide +kernel) (by decide +kernel)
    (by first | exact .inl (by decide +kernel) | exact .inr (by decide +kernel)) (by rw [isSubtype_type]; kernel_rfl)
theorem entry_md_get : entryFor table "method_descriptor.__get__" = some Builtin.«method_descriptor.__get__» := entryFor_of_tree (by kernel_rfl)
theorem args_md_get (a b c : Value) : argsOk "method_descriptor.__get__" ⟨[a, b, c], []⟩ := by unfold argsOk; kernel_rfl
theorem sp_get : specialOf (.builtin "list.append") (Str.ofString "__get__") = pure (some (.builtin "method_descriptor.__get__")) := by
  unfold specialOf; rw [F.type_list_append, pure_bind]; exact md_get
theorem sp_set : specialOf (.builtin "list.append") (Str.ofString "__set__") = pure none := by
  unfold specialOf; rw [F.type_list_append, pure_bind]; exact md_set
theorem sp_delete : specialOf (.builtin "list.append") (Str.ofString "__delete__") = pure none := by
  unfold specialOf; rw [F.type_list_append, pure_bind]; exact md_delete
theorem sub_list_list : isSubtype (.type "list") (.type "list") = pure true := by rw [isSubtype_type]; kernel_rfl

end Mine
end
noncomputable section
open PySem PySem.W PyProof.Rows PySem.Challenge PySem.SeqAt
set_option maxRecDepth 100000
set_option linter.unusedVariables false
namespace Mine

section
variable {prog : Program} {w : World} {A : Around} {E : Value → Shared → Prop} {s : Shared}

theorem run_get {a : Addr} {xs : Array Value} {k : Nat} {P : Fin → Shared → Prop} (hx : s.heap.get? a = some { cls := .type "list", data := .seq xs k }) (h : P (.done (.ret (.ref s.heap.objs.size))) { s with heap := s.heap.push (bmO a) }) :
    wpAny (model prog w) A (Builtin.«method_descriptor.__get__» ⟨[.builtin "list.append", .ref a, .type "list"], []⟩) P E s := by
  unfold Builtin.«method_descriptor.__get__»
  refine wpAny_bind (wpAny_of_eq (a := (.builtin "list.append", some (.ref a), some (.type "list"))) (by first | rfl | kernel_rfl) ?_)
  dsimp only
  rw [if_neg (by decide +kernel)]
  refine wpAny_bind ?_
  refine wpAny_bind (wpAny_of_eq (a := (Str.ofString "append", .type "list")) (by first | rfl | kernel_rfl) ?_)
  dsimp only
  refine wpAny_bind (wpAny_isInstance (T := "list") (b := true) ⟨_, hx, rfl⟩ sub_list_list ?_)
  rw [if_neg (by decide)]
  refine wpAny_pure (wpAny_bind ?_)
  exact wpAny_newObj_type (wpAny_pure h)

theorem inOwn_list {a : Addr} {xs : Array Value} {k : Nat} {name : Str} {Q : Option Value → Shared → Prop} (hx : s.heap.get? a = some { cls := .type "list", data := .seq xs k }) (h : Q none s) :
    wpAny (model prog w) A (Builtin.ObjectAttr.inOwnDict name (.ref a)) Q E s := by
  obtain ⟨hp, g, d, tk, os⟩ := s
  unfold Builtin.ObjectAttr.inOwnDict Builtin.ObjectAttr.ownDict
  repeat (any_goals (first | assumption | wp_step))

theorem getattribute_append {a : Addr} {xs : Array Value} {k : Nat} {u : Tok} {P : Fin → Shared → Prop} (hx : s.heap.get? a = some { cls := .type "list", data := .seq xs k })
    (h : P (.done (.ret (.ref s.heap.objs.size))) { s with heap := s.heap.push (bmO a) }) :
    wpAny (model prog w) A (Builtin.«object.__getattribute__» ⟨[.ref a, .str (Str.ofString "append") u], []⟩) P E s := by
  have hT : s.TypeIs (.ref a) "list" := ⟨_, hx, rfl⟩
  unfold Builtin.«object.__getattribute__»
  refine wpAny_bind (wpAny_of_eq (a := (.ref a, [.str (Str.ofString "append") u])) (by first | rfl | kernel_rfl) ?_)
  dsimp only
  refine wpAny_bind (wpAny_of_eq (a := Str.ofString "append") (by first | rfl | kernel_rfl) ?_)
  refine wpAny_bind (wpAny_typeOf hT ?_)
  refine wpAny_bind ?_
  unfold Builtin.ObjectAttr.find
  refine wpAny_bind (wpAny_of_eq F.slot_list_append.lookup ?_)
  refine wpAny_bind (wpAny_of_eq (show Builtin.ObjectAttr.getOf (some (.builtin "list.append")) = pure (some (.builtin "method_descriptor.__get__")) from sp_get) ?_)
  refine wpAny_bind ?_
  unfold Builtin.ObjectAttr.dataDescriptor? Builtin.ObjectAttr.takesStores
  dsimp only
  refine wpAny_bind (wpAny_bind (wpAny_of_eq (a := none) sp_set ?_))
  rw [if_neg (by decide)]
  refine wpAny_bind (wpAny_of_eq (a := none) sp_delete (wpAny_pure ?_))
  rw [if_neg (by decide)]
  refine wpAny_pure ?_
  dsimp only
  unfold Builtin.ObjectAttr.ownThenClass
  refine wpAny_bind (inOwn_list hx ?_)
  dsimp only
  refine wpAny_bind (wpAny_of_eq (a := ()) (by first | rfl | kernel_rfl) ?_)
  refine wpAny_bind (wpAny_rule (wpAny_pure ?_))
  dsimp only
  unfold Builtin.ObjectAttr.bindTo
  dsimp only
  refine wpAny_bind (wpAny_holding (wpAny_call_entry slot_md_get (by first | exact F.type_list_append | rfl) entry_md_get (run_get hx ⟨_, rfl, wpAny_pure h⟩) (args_md_get _ _ _)))

theorem getAttr_append {a : Addr} {xs : Array Value} {k : Nat} {Q : Value → Shared → Prop} (hx : s.heap.get? a = some { cls := .type "list", data := .seq xs k })
    (h : Q (.ref s.heap.objs.size) { s with heap := s.heap.push (bmO a), toks := s.toks + 1 }) : wpAny (model prog w) A (getAttr (.ref a) (Str.ofString "append") true) Q E s := by
  obtain ⟨hp, g, d, tk, os⟩ := s
  have hT : ∀ tk', (⟨hp, g, d, tk', os⟩ : Shared).TypeIs (.ref a) "list" := fun _ => ⟨_, hx, rfl⟩
  have f3 := F.slot_list_getattribute.lookup
  have f4 := F.slot_list_getattribute.bind (.ref a)
  have f5 := am_list_getattr_none
  unfold getAttr getAttrBy
  repeat (any_goals (first | assumption | exact hT _ | ((with_reducible show wpAny _ _ (call (Value.builtin "list.__getattribute__") _ _) _ _ _); refine wpAny_call_entry F.slot_list_getattribute (hT _) am_entry_list_getattribute (getattribute_append hx ⟨_, rfl, ?_⟩) (F.args_list_getattribute_2 _ _)) | wp_step))
  all_goals exact h

theorem callWith_bm {pos : Pos} {u a : Addr} {first : List Value} {args : List (Bool × Sem Value)} {Q : Value → Shared → Prop} (hplain : args.any (·.1) = false)
    (h : wpAny (model prog w) A (evalArgs (.ref u) true args []) (fun x s₁ => s₁.heap.get? u = some (bmO a) ∧ wpAny (model prog w) A (call (.ref u) (first ++ x.pos) x.kw) Q E s₁) E s) : wpAny (model prog w) A (callWith pos (.ref u) first args []) Q E s := by
  unfold callWith
  refine wpAny_bind (wpAny_holding (wpAny_mono h (fun x s₁ h₁ => wpAny_bind (wpAny_standAt ?_)) fun _ _ x => x))
  obtain ⟨ho, hcall⟩ := h₁
  simp only [hplain, List.any_nil, Bool.or_false]
  refine wpAny_bind (m := keeperOf (.ref u)) ?_
  unfold keeperOf
  refine wpAny_bind (wpAny_load ho ?_)
  simp only [bmO, show (Value.type "builtin_function_or_method" != Value.type "method") = true by decide, show (Value.type "builtin_function_or_method" == Value.type "builtin_function_or_method" || Value.type "builtin_function_or_method" == Value.type "method-wrapper") = true by decide, if_true]
  refine wpAny_pure ?_
  exact wpAny_bind (wpAny_mono hcall (fun r s₂ hr => wpAny_bind (wpAny_holding (wpAny_point (wpAny_pure hr)))) fun _ _ x => x)

theorem sub_list_module : isSubtype (.type "list") (.type "module") = pure false := by rw [isSubtype_type]; kernel_rfl
theorem quiet_append {as : Args} : (Code.builtin "list.append" as).quiet = true := Code.quiet_builtin _ (by decide +kernel)

theorem kind_append : builtinKind "list.append" = some .method := by decide +kernel
theorem chk_append (a : Addr) (v : Value) : (match Manifest.signature? "list.append" with
    | some sig => Bind.checkArgs "list.append" { machinery := sig.machinery, full := toString (Bind.lastOf "list") ++ toString "." ++ toString (Bind.lastOf "list.append"), short := sig.short, receiver := sig.receiver, params := sig.params } ⟨[.ref a, v], []⟩
    | none => pure ()) = pure () := by
  rw [signature?_of (id := "list.append") (n := ['d', 'n', 'e', 'p', 'p', 'a']) (o := ['t', 's', 'i', 'l']) (by kernel_rfl) F.owner_list]; kernel_rfl

theorem check_append {a : Addr} {v : Value} {xs : Array Value} {k : Nat} {Q : Unit → Shared → Prop} (hx : s.heap.get? a = some { cls := .type "list", data := .seq xs k }) (h : Q () s) :
    wpAny (model prog w) A (checkBoundCall "list.append" ⟨[.ref a, v], []⟩) Q E s := by
  unfold checkBoundCall
  cases hs : Manifest.signature? "list.append" with
  | none => exact wpAny_pure h
  | some sig =>
    have hc := chk_append a v
    rw [hs] at hc
    dsimp only at hc ⊢
    rw [kind_append]
    dsimp only
    rw [if_neg (by decide)]
    refine wpAny_bind (wpAny_isInstance (T := "list") (b := false) ⟨_, hx, rfl⟩ sub_list_module ?_)
    rw [if_neg (by decide +kernel)]
    refine wpAny_bind ?_
    show wpAny _ _ (loadHead (Value.ref a |> fun _ => a) >>= _) _ _ _
    unfold loadHead
    refine wpAny_bind (wpAny_loadPart hx ?_)
    refine wpAny_pure ?_
    rw [if_neg (by simp)]
    refine wpAny_bind (wpAny_typeOf ⟨_, hx, rfl⟩ ?_)
    dsimp only
    exact wpAny_of_eq hc h

theorem call_bm {u a : Addr} {v : Value} {xs : Array Value} {k : Nat} {Q : Value → Shared → Prop} (hu : s.heap.get? u = some (bmO a)) (hx : s.heap.get? a = some { cls := .type "list", data := .seq xs k }) (hsz : xs.size ≤ sizeLine)
    (h : ∀ h', h'.get? a = some { cls := .type "list", data := .seq (xs.push v) (k + 1) } → Heap.SameBut a s.heap h' → Q .none { s with heap := h' }) : wpAny (model prog w) A (call (.ref u) [v]) Q E s := by
  refine wpAny_call (codeAny_of_tree ?_)
  show wpAny _ A.in1 (callAny (.ref u) ⟨[v], []⟩) _ _ s
  simp only [callAny]
  refine wpAny_bind (wpAny_load hu ?_)
  simp only [bmO, show (Value.type "builtin_function_or_method" == Value.type "method" || Value.type "builtin_function_or_method" == Value.type "builtin_function_or_method" || Value.type "builtin_function_or_method" == Value.type "method-wrapper") = true by decide, if_true]
  refine wpAny_bind (check_append hx ?_)
  refine wpAny_bind (wpAny_pure (wpAny_pure ?_))
  refine ⟨quiet_append, codeAny_builtin F.entry_list_append ?_⟩
  show wpAny _ _ (updateSeq a (·.push v) >>= fun _ => ret .none) _ _ s
  refine wpAny_bind ?_
  refine wpAny_updateSeq hx rfl (wpAny_pure (h _ ?_ (Heap.SameBut.update ..)))
  rw [Heap.get?_update_self _ hx (by rw [Obj.mapSeq_push_plain]; rfl), Obj.mapSeq_push_plain]
end
end Mine
end
noncomputable section
open PySem PySem.W PyProof.Rows PySem.Challenge PySem.SeqAt
set_option maxRecDepth 100000
set_option linter.unusedVariables false
namespace Mine

noncomputable def stAt (i j : Nat) : Stmt := ((dAt i).body[j]?).getD default
noncomputable def tgtS : Stmt → Expr
  | .Assign (t :: _) _ _ => t
  | _ => default
noncomputable def valS : Stmt → Expr
  | .Assign _ v _ => v
  | .Expr v _ => v
  | .While c _ _ _ => c
  | .If c _ _ _ => c
  | .Return (some e) _ => e
  | _ => default
noncomputable def bodyS : Stmt → List Stmt
  | .While _ b _ _ => b
  | .If _ b _ _ => b
  | .Try b _ _ _ _ => b
  | _ => []
noncomputable def elseS : Stmt → List Stmt
  | .If _ _ b _ => b
  | _ => []
noncomputable def posS : Stmt → Pos
  | .Assign _ _ p => p
  | .While _ _ _ p => p
  | .If _ _ _ p => p
  | .Expr _ p => p
  | .Return _ p => p
  | .Try _ _ _ _ p => p
  | _ => default
noncomputable def nth (l : List Stmt) (j : Nat) : Stmt := (l[j]?).getD default
noncomputable def atE : Nat → Expr → Expr
  | 0, .Attribute o _ _ => o
  | 0, .BoolOp _ (a :: _) _ => a
  | 1, .BoolOp _ (_ :: b :: _) _ => b
  | 0, .UnaryOp _ a _ => a
  | 0, .Compare l _ _ _ => l
  | 1, .Compare _ _ (r :: _) _ => r
  | 0, .Subscript o _ _ => o
  | 1, .Subscript _ i _ => i
  | 0, .Call f _ _ _ => f
  | 1, .Call _ (a :: _) _ _ => a
  | 2, .Call _ (_ :: a :: _) _ _ => a
  | _, e => e

noncomputable abbrev N (x : String) : Str := Str.ofString x
noncomputable def scT : Scope := (dAt 7).scope
theorem tr_fn : fnOf (N "_translate") = some 7 := by kernel_rfl
theorem tr_body : (dAt 7).body = [stAt 7 0, stAt 7 1, stAt 7 2, stAt 7 3, stAt 7 4, stAt 7 5] := by kernel_rfl
theorem tr0 : stAt 7 0 = .Assign [.Name (N "res") (tgtS (stAt 7 0)).pos] (.List [] (valS (stAt 7 0)).pos) (posS (stAt 7 0)) := by kernel_rfl
theorem tr1 : stAt 7 1 = .Assign [.Name (N "add") (tgtS (stAt 7 1)).pos] (.Attribute (.Name (N "res") (atE 0 (valS (stAt 7 1))).pos) (N "append") (valS (stAt 7 1)).pos) (posS (stAt 7 1)) := by kernel_rfl
theorem tr3 : stAt 7 3 = .While (valS (stAt 7 3)) [nth (bodyS (stAt 7 3)) 0, nth (bodyS (stAt 7 3)) 1, nth (bodyS (stAt 7 3)) 2] [] (posS (stAt 7 3)) := by kernel_rfl

noncomputable def rhoT (i : Int) (x : Str) (r b : Value) (q : D) : Rho := [(N "i", .int i), (N "n", .int 2), (N "add", .val b), (N "res", .val r), (N "pat", .str x), (N "STAR", .none), (N "QUESTION_MARK", q)]
noncomputable def w0 : Stmt := nth (bodyS (stAt 7 3)) 0
noncomputable def w1 : Stmt := nth (bodyS (stAt 7 3)) 1
noncomputable def w2 : Stmt := nth (bodyS (stAt 7 3)) 2
noncomputable def z0 : Stmt := nth (bodyS w2) 0
noncomputable def z1 : Stmt := nth (bodyS z0) 0
noncomputable def y0 : Stmt := nth (elseS w2) 0
noncomputable def y1 : Stmt := nth (bodyS y0) 0
noncomputable def x0 : Stmt := nth (elseS y0) 0
noncomputable def x1 : Stmt := nth (elseS x0) 0
theorem tr_w2 : w2 = .If (valS w2) [z0] [y0] (posS w2) := by kernel_rfl
theorem tr_z0 : z0 = .If (.BoolOp .Or [.UnaryOp .Not (.Name (N "res") (atE 0 (atE 0 (valS z0))).pos) (atE 0 (valS z0)).pos, .Compare (.Subscript (.Name (N "res") (atE 0 (atE 0 (atE 1 (valS z0)))).pos) (atE 1 (atE 0 (atE 1 (valS z0)))) (atE 0 (atE 1 (valS z0))).pos) [.IsNot] [.Name (N "STAR") (atE 1 (atE 1 (valS z0))).pos] (atE 1 (valS z0)).pos] (valS z0).pos) [z1] [] (posS z0) := by kernel_rfl
theorem tr_z1 : z1 = .Expr (.Call (.Name (N "add") (atE 0 (valS z1)).pos) [.Name (N "STAR") (atE 1 (valS z1)).pos] [] (valS z1).pos) (posS z1) := by kernel_rfl
theorem tr_y0 : y0 = .If (valS y0) [y1] [x0] (posS y0) := by kernel_rfl
theorem tr_y1 : y1 = .Expr (.Call (.Name (N "add") (atE 0 (valS y1)).pos) [.Name (N "QUESTION_MARK") (atE 1 (valS y1)).pos] [] (valS y1).pos) (posS y1) := by kernel_rfl
theorem tr_x0 : x0 = .If (valS x0) (bodyS x0) [x1] (posS x0) := by kernel_rfl
theorem tr_x1 : x1 = .Expr (.Call (.Name (N "add") (atE 0 (valS x1)).pos) [atE 1 (valS x1)] [] (valS x1).pos) (posS x1) := by kernel_rfl
theorem tr5 : stAt 7 5 = .Return (some (.Name (N "res") (valS (stAt 7 5)).pos)) (posS (stAt 7 5)) := by kernel_rfl
theorem tr_own : isOwn scT (N "res") = true ∧ isOwn scT (N "add") = true ∧ isVar scT (N "res") = true ∧ isVar scT (N "add") = true ∧ isVar scT (N "STAR") = true ∧ isVar scT (N "QUESTION_MARK") = true ∧
    goodName (N "res") = true ∧ goodName (N "add") = true ∧ goodName (N "STAR") = true ∧ goodName (N "QUESTION_MARK") = true := by
  refine ⟨?_, ?_, ?_, ?_, ?_, ?_, ?_, ?_, ?_, ?_⟩ <;> kernel_rfl
theorem e_2 (p q' : Nat) (r b : Value) (q : D) : (ev 6).s scT [(N "add", .val b), (N "res", .val r), (N "pat", .str ⟨#[p, q']⟩), (N "STAR", .none), (N "QUESTION_MARK", q)] (stAt 7 2) =
    some ((N "n", .int 2) :: (N "i", .int 0) :: [(N "add", .val b), (N "res", .val r), (N "pat", .str ⟨#[p, q']⟩), (N "STAR", .none), (N "QUESTION_MARK", q)], .next) := by kernel_rfl
theorem e_cond (i : Int) (x : Str) (r b : Value) (q : D) : (ev 6).t scT (rhoT i x r b q) (valS (stAt 7 3)) = some (decide (i < 2)) := by kernel_rfl
theorem e_c (i : Int) (x : Str) (r b : Value) (q : D) : (ev 6).s scT (rhoT i x r b q) w0 = (getD (.str x) (.int i)).map fun d => ((N "c", d) :: rhoT i x r b q, .next) := by kernel_rfl
theorem e_i (i : Int) (x : Str) (r b : Value) (q d : D) : (ev 6).s scT ((N "c", d) :: rhoT i x r b q) w1 = some ((N "i", .int (i + 1)) :: (N "c", d) :: rhoT i x r b q, .next) := by kernel_rfl
noncomputable abbrev rhoC (i : Int) (c x : Str) (r b : Value) (q : D) : Rho := (N "i", .int (i + 1)) :: (N "c", .str c) :: rhoT i x r b q
theorem e_t1 (i : Int) (c x : Str) (r b : Value) (q : D) : (ev 6).t scT (rhoC i c x r b q) (valS w2) = eqD (.str c) (.str (N "*")) := by kernel_rfl
theorem e_t2 (i : Int) (c x : Str) (r b : Value) (q : D) : (ev 6).t scT (rhoC i c x r b q) (valS y0) = eqD (.str c) (.str (N "?")) := by kernel_rfl
theorem e_t3 (i : Int) (c x : Str) (r b : Value) (q : D) : (ev 6).t scT (rhoC i c x r b q) (valS x0) = eqD (.str c) (.str (N "[")) := by kernel_rfl
theorem e_ix (i : Int) (c x : Str) (r b : Value) (q : D) : (ev 6).e scT (rhoC i c x r b q) (atE 1 (atE 0 (atE 1 (valS z0)))) = some (.int (-1)) := by kernel_rfl
theorem e_esc97 (i : Int) (x : Str) (r b : Value) (q : D) : (ev 12).e scT (rhoC i ⟨#[97]⟩ x r b q) (atE 1 (valS x1)) = some (.str ⟨#[97]⟩) := by kernel_rfl
theorem e_esc98 (i : Int) (x : Str) (r b : Value) (q : D) : (ev 12).e scT (rhoC i ⟨#[98]⟩ x r b q) (atE 1 (valS x1)) = some (.str ⟨#[98]⟩) := by kernel_rfl
theorem e_4 (x : Str) (r b : Value) (q : D) : (ev 6).s scT (rhoT 2 x r b q) (stAt 7 4) = some (rhoT 2 x r b q, .next) := by kernel_rfl
theorem e_eq : eqD (.str ⟨#[97]⟩) (.str (N "*")) = some false ∧ eqD (.str ⟨#[98]⟩) (.str (N "*")) = some false ∧ eqD (.str ⟨#[63]⟩) (.str (N "*")) = some false ∧ eqD (.str ⟨#[42]⟩) (.str (N "*")) = some true ∧
    eqD (.str ⟨#[97]⟩) (.str (N "?")) = some false ∧ eqD (.str ⟨#[98]⟩) (.str (N "?")) = some false ∧ eqD (.str ⟨#[63]⟩) (.str (N "?")) = some true ∧ eqD (.str ⟨#[97]⟩) (.str (N "[")) = some false ∧ eqD (.str ⟨#[98]⟩) (.str (N "[")) = some false := by
  refine ⟨?_, ?_, ?_, ?_, ?_, ?_, ?_, ?_, ?_⟩ <;> kernel_rfl
end Mine
end
noncomputable section
open PySem PySem.W PyProof.Rows PySem.Challenge PySem.SeqAt
set_option maxRecDepth 100000
set_option linter.unusedVariables false
namespace Mine

section
variable {v : World} {mean : ExcName → Option Value} {mg mb : Str → Option Value} {n : Nat} {k : Kit} {A : Around} {hs : Heap} {O : Addr → Prop} {env : Env} {sc : Scope} {ρ : Rho} {s : Shared} {d : D}

/-- another list of what is known -/
theorem Cx.sub {mine : Str → Prop} {ρ' : Rho} (C : Cx v mean mg mb n A hs O mine env sc ρ s) (h : ∀ x d, ρ'.lookup x = some d → ρ.lookup x = some d) : Cx v mean mg mb n A hs O mine env sc ρ' s :=
  ⟨C.room, C.bs0, { C.er with vars := fun x d e q => C.er.vars x d (h x d e) q }, C.scp, C.ob, C.tk⟩

theorem raw_ {x : Str} {val : Value} {pos : Pos} {mine : Str → Prop} (C : Cx v mean mg mb n A hs O mine env sc ρ s) (hv : isVar sc x = true) (hg : goodName x = true) (hd : ρ.lookup x = some (.val val)) {Q : Value → Shared → Prop} (h : Q val s) :
    wpAny (pwm v) A (eval (.Name x pos) env) Q No s := by
  obtain ⟨val', hvar, hr⟩ := C.er.vars x _ hd (isV_of hv C.scp)
  cases hr
  unfold goodName at hg
  simp only [Bool.and_eq_true, Bool.not_eq_true'] at hg
  exact wpAny_Name (loadVar C.er hvar h hg.2) hg.1

/-- a statement of the evaluator's, then the rest -/
theorem stmt_ {m : Nat} {k : Kit} (hm : m ≤ n) (KS : SoundS v mean mg mb m k) {st : Stmt} {rest : List Stmt} {ρ' : Rho} {Q : Flow → Shared → Prop} (h : k.s sc ρ st = some (ρ', .next)) (C : Cx v mean mg mb n A hs O (mineOf env) env sc ρ s)
    (hq : ∀ h' tk, Cx v mean mg mb n A hs O (mineOf env) env sc ρ' { s with heap := h', toks := tk } → KeepBut env (mineOf env) s.heap h' → wpAny (pwm v) A (execs rest env) Q No { s with heap := h', toks := tk }) :
    wpAny (pwm v) A (execs (st :: rest) env) Q No s := by
  refine wpAny_execs_cons (wpAny_mono (KS.s h (C.le hm)) (fun f s₁ hp => ?_) fun _ _ x => x)
  obtain ⟨rfl, h', tk, rfl, er, kb, ht⟩ := hp
  exact hq h' tk ⟨C.room, C.bs0, er, C.scp, ob_after C.ob er (fun _ => trivial) kb, ht C.tk⟩ kb

/-- a raw value stored -/
theorem storeRaw {x : Str} {val : Value} {Q : Unit → Shared → Prop} (C : Cx v mean mg mb n A hs O (mineOf env) env sc ρ s) (hx : isOwn sc x = true)
    (h : ∀ h' tk, Cx v mean mg mb n A hs O (mineOf env) env sc ((x, .val val) :: ρ) { s with heap := h', toks := tk } → KeepBut env (mineOf env) s.heap h' → Q () { s with heap := h', toks := tk }) : wpAny (pwm v) A (storeName env x val) Q No s := by
  refine storeK C.er (isOwn_mine hx C.scp) (.val val) fun h' tk X _ kb ht => ?_
  rw [upd_eq] at X
  exact h h' tk ⟨C.room, C.bs0, X, C.scp, ob_after C.ob X (fun _ => trivial) kb, ht C.tk⟩ kb

theorem Cx.own {mine : Str → Prop} {D0 : Addr} (C : Cx v mean mg mb n A hs O mine env sc ρ s) (h0 : ∃ o, s.heap.get? D0 = some o) (hn : ∀ b o, hs.get? b = some o → b ≠ D0) (hrep : ∀ x d, ρ.lookup x = some d → ∀ val, Rep s.heap O d val → Rep s.heap (fun a => O a ∨ a = D0) d val) :
    Cx v mean mg mb n A hs (fun a => O a ∨ a = D0) mine env sc ρ s :=
  ⟨C.room, C.bs0, { C.er with vars := fun x d e q => let ⟨val, a, b⟩ := C.er.vars x d e q; ⟨val, a, hrep x d e val b⟩ }, C.scp, fun a q => q.elim (C.ob a) fun e => e ▸ h0, C.tk⟩

noncomputable abbrev OD (O : Addr → Prop) (D0 : Addr) : Addr → Prop := fun a => O a ∨ a = D0

structure OwnF (hs : Heap) (env : Env) (D0 B0 : Addr) : Prop where
  d0 : hs.get? D0 = none
  b0 : hs.get? B0 = none
  ne : D0 ≠ B0
  lD : env.locals ≠ D0
  lB : env.locals ≠ B0
  cD : ∀ y, env.cells.lookup y ≠ some D0
  cB : ∀ y, env.cells.lookup y ≠ some B0

/-- what is known of the list at work -/
structure Lst (O : Addr → Prop) (D0 B0 : Addr) (l : List D) (h : Heap) : Prop where
  it : ∃ (xs : List Value) (m : Nat), h.get? D0 = some { cls := .type "list", data := .seq xs.toArray m } ∧ Reps h (OD O D0) l xs
  bm : h.get? B0 = some (bmO D0)

theorem Lst.keepB {mine : Str → Prop} {ρ : Str → Option D} {D0 B0 : Addr} {l : List D} {h h' : Heap} (L : Lst O D0 B0 l h) (F : OwnF hs env D0 B0) (X : ER hs (OD O D0) mine env ρ h) (hk : KeepBut env mine h h') : Lst O D0 B0 l h' := by
  obtain ⟨⟨xs, m, h1, r⟩, h2⟩ := L
  refine ⟨⟨xs, m, hk _ _ (Ne.symm F.lD) (fun y _ => F.cD y) h1, ?_⟩, hk _ _ (Ne.symm F.lB) (fun y _ => F.cB y) h2⟩
  exact r.mono (fun b => ¬ (b ≠ env.locals ∧ ∀ y, env.cells.lookup y ≠ some b)) (fun b o hb e => by
    have hb := Classical.not_not.mp hb
    exact hk b o hb.1 (fun y _ => hb.2 y) e) fun b hb c xs n _ _ e => hb (X.seq_ne e)
theorem Lst.keeps {D0 B0 : Addr} {l : List D} {h h' : Heap} (L : Lst O D0 B0 l h) (hk : KeepsH h h') : Lst O D0 B0 l h' := by
  obtain ⟨⟨xs, m, h1, r⟩, h2⟩ := L
  exact ⟨⟨xs, m, hk _ _ h1, r.keeps hk⟩, hk _ _ h2⟩

/-- a list's object in the owner's hand is written anew -/
theorem Cx.write {D0 : Addr} {mine : Str → Prop} {h' : Heap} {tk : Nat} (C : Cx v mean mg mb n A hs (OD O D0) mine env sc ρ s) (d0 : hs.get? D0 = none) (hl : ∃ xs m, s.heap.get? D0 = some { cls := .type "list", data := .seq xs m }) (hk : ∀ b o, b ≠ D0 → s.heap.get? b = some o → h'.get? b = some o) (hD : ∃ o, h'.get? D0 = some o) (ht : 0 < tk) :
    Cx v mean mg mb n A hs (OD O D0) mine env sc ρ { s with heap := h', toks := tk } :=
  ⟨C.room, C.bs0, C.er.upto (.inr rfl) hl d0 hk, C.scp, fun a q => by
    by_cases h : a = D0
    · exact h ▸ hD
    · obtain ⟨o, e⟩ := C.ob a q
      exact ⟨o, hk a o h e⟩, ht⟩

theorem addTo_ {e : Expr} {p1 p2 p3 : Pos} {D0 B0 : Addr} {l : List D} {Q : Flow → Shared → Prop} (C : Cx v mean mg mb n A hs (OD O D0) (mineOf env) env sc ρ s) (hv : isVar sc (N "add") = true) (hg : goodName (N "add") = true) (hlook : ρ.lookup (N "add") = some (.val (.ref B0)))
    (F : OwnF hs env D0 B0) (L : Lst O D0 B0 l s.heap) (hsz : l.length ≤ 1000) (hst : starEach [e] env = [(false, eval e env)]) (he : wpAny (pwm v) A (eval e env) (Gv (OD O D0) d s) No s)
    (hq : ∀ h' tk, Cx v mean mg mb n A hs (OD O D0) (mineOf env) env sc ρ { s with heap := h', toks := tk } → Lst O D0 B0 (l ++ [d]) h' → Q .next { s with heap := h', toks := tk }) :
    wpAny (pwm v) A (exec (.Expr (.Call (.Name (N "add") p1) [e] [] p2) p3) env) Q No s := by
  have hi : interactive env = false := by
    unfold interactive
    rw [C.er.kind]
    rfl
  refine wpAny_Expr_any (Call_ (raw_ C hv hg hlook ?_)) hi
  rw [hst]
  refine callWith_bm (a := D0) rfl (Calls.evalArgs_plain (Calls.spliced_cons (wpAny_mono he (fun val s₁ ⟨r1, k1⟩ => Calls.spliced_nil ?_) fun _ _ x => x)))
  have C1 := C.keeps k1
  have L1 := L.keeps (kph k1)
  obtain ⟨⟨xs, m, h1, r⟩, h2⟩ := L1
  refine ⟨h2, ?_⟩
  have hlen := r.length
  refine call_bm h2 h1 (by have := line_big; rw [List.size_toArray, hlen]; lia) fun h' hD hs' => ?_
  have hk : ∀ b o, b ≠ D0 → s₁.heap.get? b = some o → h'.get? b = some o := fun b o hb e => hs'.extBut b o hb e
  have C2 := C1.write (h' := h') (tk := s₁.toks) F.d0 ⟨_, _, h1⟩ hk ⟨_, hD⟩ C1.tk
  obtain ⟨⟨H, tk, rfl, kk⟩, _⟩ := k1
  refine hq h' tk C2 ⟨⟨xs ++ [val], m + 1, by simpa using hD, ?_⟩, hk _ _ (Ne.symm F.ne) h2⟩
  exact (r.append (.cons r1 .nil)).mono (fun b => b = D0) (fun b o hb e => hk b o hb e) fun b hb c xs n _ hO _ => hO (.inr hb)
end
end Mine
end
noncomputable section
open PySem PySem.W PyProof.Rows PySem.Challenge PySem.SeqAt
set_option maxRecDepth 100000
set_option linter.unusedVariables false
namespace Mine

noncomputable def endsNone : List D → Bool
  | [] => false
  | [d] => isNoneD d
  | _ :: y :: r => endsNone (y :: r)
/-- a turn of _translate -/
noncomputable def trS (q : D) (l : List D) (c : Nat) : List D := if c == 42 then (if endsNone l then l else l ++ [.none]) else if c == 63 then l ++ [q] else l ++ [.str ⟨#[c]⟩]

theorem endsNone_last : ∀ {l : List D}, l ≠ [] → ∃ d, l[l.length - 1]? = some d ∧ endsNone l = isNoneD d
  | [], h => (h rfl).elim
  | [d], _ => ⟨d, rfl, rfl⟩
  | _ :: y :: r, _ => by
    obtain ⟨d, h1, h2⟩ := endsNone_last (l := y :: r) (by simp)
    refine ⟨d, by simpa using h1, ?_⟩
    rw [← h2]; rfl

section
variable {v : World} {mean : ExcName → Option Value} {mg mb : Str → Option Value} {n : Nat} {k : Kit} {A : Around} {hs : Heap} {O : Addr → Prop} {env : Env} {sc : Scope} {ρ : Rho} {s : Shared} {d : D}

theorem star_test (K : SoundE v mean mg mb n k) {D0 B0 : Addr} {l : List D} {p1 p2 p3 p4 p5 p6 p7 : Pos} {ix : Expr} {whole : Sem Value} (C : Cx v mean mg mb n A hs (OD O D0) (mineOf env) env sc ρ s) (hO : ¬ O D0) (L : Lst O D0 B0 l s.heap) (hraw : ∀ d ∈ l, ¬ isRaw d = true)
    (hsz : l.length ≤ 1000) (hv : isVar sc (N "res") = true) (hg : goodName (N "res") = true) (hv2 : isVar sc (N "STAR") = true) (hg2 : goodName (N "STAR") = true) (hr : ρ.lookup (N "res") = some (.val (.ref D0))) (hS : ρ.lookup (N "STAR") = some .none) (hix : k.e sc ρ ix = some (.int (-1))) :
    wpAny (pwm v) A (isTrue (.BoolOp .Or [.UnaryOp .Not (.Name (N "res") p1) p2, .Compare (.Subscript (.Name (N "res") p3) ix p4) [.IsNot] [.Name (N "STAR") p5] p6] p7) env whole) (fun b s' => b = !(endsNone l) ∧ Kp s s') No s := by
  have rl : ∀ {h}, Lst O D0 B0 l h → Rep h O (.lst l) (.ref D0) := fun L => by
    obtain ⟨⟨xs, m, h1, r⟩, _⟩ := L
    exact .lst h1 hO (r.narrow fun a q => .inl q)
  have small : smallL l.length = true := by unfold smallL; simp; lia
  have ht : truthD (.lst l) = some (!l.isEmpty) := if_pos small
  refine wpAny_isTrue_BoolOp (wpAny_allTrue_Or_cons (wpAny_isTrue_Not (wpAny_isTrue_value (raw_ C hv hg hr ?_))))
  refine wpAny_mono (truthK (O := O) ht (rl L)) (fun b s₁ ⟨e, k1⟩ => ?_) fun _ _ x => x
  subst e
  cases hl : l with
  | nil => exact ⟨rfl, k1⟩
  | cons d0 r0 =>
    rw [← hl]
    have hne : l ≠ [] := by rw [hl]; simp
    have he : (!(!l.isEmpty)) = false := by rw [hl]; rfl
    rw [he]
    simp only [Bool.false_eq_true, if_false]
    have C1 := C.keeps k1
    have L1 := L.keeps (kph k1)
    obtain ⟨dl, hd1, hd2⟩ := endsNone_last hne
    have hlen : 0 < l.length := List.length_pos_iff.mpr hne
    have hget : getD (.lst l) (.int (-1)) = some dl := by
      show (if smallI (-1) = true then (idxOf l.length (-1)).bind (l[·]?) else none) = _
      rw [if_pos (by decide)]
      unfold idxOf
      rw [if_neg (by decide), if_pos (by lia)]
      show l[((-1 : Int) + (l.length : Int)).toNat]? = _
      rw [show ((-1 : Int) + (l.length : Int)).toNat = l.length - 1 by lia]
      exact hd1
    have hmem : dl ∈ l := List.mem_of_getElem? hd1
    refine wpAny_allTrue_Or_cons (wpAny_isTrue_Compare1 (Subscript_ (raw_ C1 hv hg hr (wpAny_mono (K.e hix C1) (fun vi s₂ ⟨ri, k2⟩ => ?_) fun _ _ x => x))))
    have L2 := L1.keeps (kph k2)
    have ri' : Rep s₂.heap O (.int (-1)) vi := ri.narrow fun a q => .inl q
    refine wpAny_mono (getK hget (rl L2) ri') (fun vl s₃ ⟨r3, k3⟩ => ?_) fun _ _ x => x
    have C3 := C1.keeps (kpx k2 k3)
    obtain ⟨w, hvar, hw⟩ := C3.er.vars (N "STAR") _ hS (isV_of hv2 C3.scp)
    obtain rfl := rep_none hw
    unfold goodName at hg2
    simp only [Bool.and_eq_true, Bool.not_eq_true'] at hg2
    refine wpAny_Name (loadVar C3.er hvar ?_ hg2.2) hg2.1
    refine isNot_none (wpAny_truthy_bool ?_)
    rw [is_none_ (hraw dl hmem) r3, ← hd2]
    have kk := kpx k1 (kpx k2 k3)
    cases endsNone l with
    | true => exact wpAny_allTrue_Or_nil ⟨rfl, kk⟩
    | false => exact ⟨rfl, kk⟩

theorem letter_cases {c : Nat} (h : c = 97 ∨ c = 98 ∨ c = 63 ∨ c = 42) : (eqD (.str ⟨#[c]⟩) (.str (N "*")) = some (c == 42)) ∧ (c ≠ 42 → eqD (.str ⟨#[c]⟩) (.str (N "?")) = some (c == 63)) ∧ (c ≠ 42 → c ≠ 63 → eqD (.str ⟨#[c]⟩) (.str (N "[")) = some false) := by
  obtain ⟨h1, h2, h3, h4, h5, h6, h7, h8, h9⟩ := e_eq
  rcases h with rfl | rfl | rfl | rfl
  · exact ⟨h1, fun _ => h5, fun _ _ => h8⟩
  · exact ⟨h2, fun _ => h6, fun _ _ => h9⟩
  · exact ⟨h3, fun _ => h7, fun _ h => (h rfl).elim⟩
  · exact ⟨h4, fun h => (h rfl).elim, fun h => (h rfl).elim⟩

theorem tail_c (x : Str) (r b : Value) (q : D) : List.lookup (N "c") [(N "n", D.int 2), (N "add", .val b), (N "res", .val r), (N "pat", .str x), (N "STAR", .none), (N "QUESTION_MARK", q)] = none := by kernel_rfl
theorem rho_next (i : Int) (c x : Str) (r b : Value) (q : D) : ∀ y d, (rhoT (i + 1) x r b q).lookup y = some d → (rhoC i c x r b q).lookup y = some d := by
  intro y d h
  unfold rhoT at h
  unfold rhoC rhoT
  rw [List.lookup_cons] at h ⊢
  split
  · rename_i hy; rw [hy] at h; exact h
  · rename_i hy
    rw [hy] at h
    dsimp only at h
    rw [List.lookup_cons]
    split
    · rename_i hc
      have := beq_iff_eq.mp hc
      subst this
      rw [tail_c] at h; cases h
    · rw [List.lookup_cons, hy]; exact h

theorem plain1 (K : SoundE v mean mg mb n k) {e : Expr} (h : k.e sc ρ e = some d) : starEach [e] env = [(false, eval e env)] := by
  cases e with
  | Starred x p => rw [K.star] at h; cases h
  | _ => rfl

theorem esc_of (i : Int) (x : Str) (r b : Value) (q : D) {c : Nat} (hc : c = 97 ∨ c = 98 ∨ c = 63 ∨ c = 42) (h42 : c ≠ 42) (h63 : c ≠ 63) : (ev 12).e scT (rhoC i ⟨#[c]⟩ x r b q) (atE 1 (valS x1)) = some (.str ⟨#[c]⟩) := by
  rcases hc with rfl | rfl | rfl | rfl
  · exact e_esc97 i x _ _ _
  · exact e_esc98 i x _ _ _
  · exact (h63 rfl).elim
  · exact (h42 rfl).elim
/-- one turn of the loop -/
theorem turn_ (S6 : Sound v mean mg mb 6) (S12 : Sound v mean mg mb 12) {D0 B0 : Addr} {l : List D} {x q0 : Str} {i : Int} {c : Nat} {Q : Flow → Shared → Prop}
    (C : Cx v mean mg mb 12 A hs (OD O D0) (mineOf env) env scT (rhoT i x (.ref D0) (.ref B0) (.str q0)) s) (hO : ¬ O D0) (F : OwnF hs env D0 B0) (L : Lst O D0 B0 l s.heap) (hraw : ∀ d ∈ l, ¬ isRaw d = true) (hsz : l.length ≤ 1000)
    (hget : getD (.str x) (.int i) = some (.str ⟨#[c]⟩)) (hc : c = 97 ∨ c = 98 ∨ c = 63 ∨ c = 42)
    (hq : ∀ h' tk, Cx v mean mg mb 12 A hs (OD O D0) (mineOf env) env scT (rhoT (i + 1) x (.ref D0) (.ref B0) (.str q0)) { s with heap := h', toks := tk } → Lst O D0 B0 (trS (.str q0) l c) h' → Q .next { s with heap := h', toks := tk }) :
    wpAny (pwm v) A (execs [w0, w1, w2] env) Q No s := by
  obtain ⟨o1, o2, v1, v2, v3, v4, g1, g2, g3, g4⟩ := tr_own
  obtain ⟨l1, l2, l3⟩ := letter_cases hc
  have e1 : (ev 6).s scT (rhoT i x (.ref D0) (.ref B0) (.str q0)) w0 = some ((N "c", .str ⟨#[c]⟩) :: rhoT i x (.ref D0) (.ref B0) (.str q0), .next) := by rw [e_c, hget]; rfl
  refine stmt_ (by decide : 6 ≤ 12) S6.2 e1 C fun h1 t1 C1 k1 => ?_
  have L1 := L.keepB F C.er k1
  refine stmt_ (by decide : 6 ≤ 12) S6.2 (e_i i x (.ref D0) (.ref B0) (.str q0) _) C1 fun h2 t2 C2 k2 => ?_
  have L2 := L1.keepB F C1.er k2
  have nx : ∀ {s' : Shared}, Cx v mean mg mb 12 A hs (OD O D0) (mineOf env) env scT (rhoC i ⟨#[c]⟩ x (.ref D0) (.ref B0) (.str q0)) s' → Cx v mean mg mb 12 A hs (OD O D0) (mineOf env) env scT (rhoT (i + 1) x (.ref D0) (.ref B0) (.str q0)) s' := fun C => C.sub (rho_next i ⟨#[c]⟩ x (.ref D0) (.ref B0) (.str q0))
  refine wpAny_execs_cons ?_
  rw [tr_w2]
  refine wpAny_If (wpAny_mono (S6.1.t ((e_t1 i ⟨#[c]⟩ x (.ref D0) (.ref B0) (.str q0)).trans l1) (C2.le (by decide))) (fun b s3 ⟨e, k3⟩ => ?_) fun _ _ x => x)
  subst e
  have C3 := C2.keeps k3
  have L3 := L2.keeps (kph k3)
  obtain ⟨⟨h3, t3, rfl, k3⟩, _⟩ := k3
  by_cases hc42 : c = 42
  · -- a star
    rw [show (c == 42) = true from beq_iff_eq.mpr hc42]
    simp only [if_true]
    refine wpAny_execs_cons ?_
    rw [tr_z0]
    refine wpAny_If (wpAny_mono (star_test (S6.1) (C3.le (by decide)) hO L3 hraw hsz v1 g1 v3 g3 (by rfl) (by rfl) (e_ix i _ x (.ref D0) (.ref B0) (.str q0))) (fun b s4 ⟨e, k4⟩ => ?_) fun _ _ x => x)
    subst e
    have C4 := C3.keeps k4
    have L4 := L3.keeps (kph k4)
    obtain ⟨⟨h4, t4, rfl, k4⟩, _⟩ := k4
    cases he : endsNone l with
    | true =>
      simp only [Bool.not_true, Bool.false_eq_true, if_false]
      refine wpAny_execs_nil (wpAny_execs_nil (wpAny_execs_nil ?_))
      refine hq h4 t4 (nx C4) ?_
      have : trS (.str q0) l c = l := by simp [trS, he, hc42]
      rw [this]; exact L4
    | false =>
      simp only [Bool.not_false, if_true]
      refine wpAny_execs_cons ?_
      rw [tr_z1]
      refine addTo_ (d := .none) C4 v2 g2 (by rfl) F L4 hsz rfl (var_ C4 v3 g3 (by rfl)) fun h5 t5 C5 L5 => ?_
      refine wpAny_execs_nil (wpAny_execs_nil (wpAny_execs_nil ?_))
      refine hq h5 t5 (nx C5) ?_
      have : trS (.str q0) l c = l ++ [.none] := by simp [trS, he, hc42]
      rw [this]; exact L5
  · have hb : (c == 42) = false := beq_eq_false_iff_ne.mpr hc42
    rw [hb]
    simp only [Bool.false_eq_true, if_false]
    refine wpAny_execs_cons ?_
    rw [tr_y0]
    refine wpAny_If (wpAny_mono (S6.1.t ((e_t2 i ⟨#[c]⟩ x (.ref D0) (.ref B0) (.str q0)).trans (l2 hc42)) (C3.le (by decide))) (fun b s4 ⟨e, k4⟩ => ?_) fun _ _ x => x)
    subst e
    have C4 := C3.keeps k4
    have L4 := L3.keeps (kph k4)
    obtain ⟨⟨h4, t4, rfl, k4⟩, _⟩ := k4
    by_cases hc63 : c = 63
    · rw [show (c == 63) = true from beq_iff_eq.mpr hc63]
      simp only [if_true]
      refine wpAny_execs_cons ?_
      rw [tr_y1]
      refine addTo_ (d := .str q0) C4 v2 g2 (by rfl) F L4 hsz rfl (var_ C4 v4 g4 (by rfl)) fun h5 t5 C5 L5 => ?_
      refine wpAny_execs_nil (wpAny_execs_nil (wpAny_execs_nil ?_))
      refine hq h5 t5 (nx C5) ?_
      have : trS (.str q0) l c = l ++ [.str q0] := by simp [trS, hc63]
      rw [this]; exact L5
    · have hb2 : (c == 63) = false := beq_eq_false_iff_ne.mpr hc63
      rw [hb2]
      simp only [Bool.false_eq_true, if_false]
      refine wpAny_execs_cons ?_
      rw [tr_x0]
      refine wpAny_If (wpAny_mono (S6.1.t ((e_t3 i ⟨#[c]⟩ x (.ref D0) (.ref B0) (.str q0)).trans (l3 hc42 hc63)) (C4.le (by decide))) (fun b s5 ⟨e, k5⟩ => ?_) fun _ _ x => x)
      subst e
      have C5 := C4.keeps k5
      have L5 := L4.keeps (kph k5)
      obtain ⟨⟨h5, t5, rfl, k5⟩, _⟩ := k5
      simp only [Bool.false_eq_true, if_false]
      refine wpAny_execs_cons ?_
      rw [tr_x1]
      have hesc := esc_of i x (.ref D0) (.ref B0) (.str q0) hc hc42 hc63
      refine addTo_ (d := .str ⟨#[c]⟩) C5 v2 g2 (by rfl) F L5 hsz (plain1 S12.1 hesc) (S12.1.e hesc C5) fun h6 t6 C6 L6 => ?_
      refine wpAny_execs_nil (wpAny_execs_nil (wpAny_execs_nil (wpAny_execs_nil ?_)))
      refine hq h6 t6 (nx C6) ?_
      have : trS (.str q0) l c = l ++ [.str ⟨#[c]⟩] := by simp [trS, hc42, hc63]
      rw [this]; exact L6
end
end Mine
end
noncomputable section
open PySem PySem.W PyProof.Rows PySem.Challenge PySem.SeqAt
set_option maxRecDepth 100000
set_option linter.unusedVariables false
namespace Mine

theorem tr_plain : plainD (dAt 7) = true := by kernel_rfl
theorem tr_bind (x q : Str) : bindA (dAt 7) [.str x, .none, .str q] [] = some [(N "pat", .str x), (N "STAR", .none), (N "QUESTION_MARK", .str q)] := by kernel_rfl
theorem n_ne_i : (N "n" == N "i") = false := by kernel_rfl
theorem tr_letters {q : D} : ∀ {l : List Nat} {r : List D}, trD q l = some r → ∀ c ∈ l, c = 97 ∨ c = 98 ∨ c = 63 ∨ c = 42
  | [], _, _, c, hc => by cases hc
  | a :: t, r, h, c, hc => by
    unfold trD at h
    have key : (∃ r', trD q t = some r') ∧ (a = 97 ∨ a = 98 ∨ a = 63 ∨ a = 42) := by
      split at h
      · rename_i e; obtain ⟨r', h', _⟩ := Option.map_eq_some_iff.mp h; exact ⟨⟨r', h'⟩, .inr (.inr (.inr (by simpa using e)))⟩
      · split at h
        · rename_i e; obtain ⟨r', h', _⟩ := Option.map_eq_some_iff.mp h; exact ⟨⟨r', h'⟩, .inr (.inr (.inl (by simpa using e)))⟩
        · split at h
          · rename_i e; obtain ⟨r', h', _⟩ := Option.map_eq_some_iff.mp h
            refine ⟨⟨r', h'⟩, ?_⟩
            simp at e
            rcases e with e | e
            · exact .inl e
            · exact .inr (.inl e)
          · cases h
    obtain ⟨⟨r', h'⟩, ha⟩ := key
    rcases List.mem_cons.mp hc with rfl | hc
    · exact ha
    · exact tr_letters h' c hc

theorem tr_fold {q : Str} {p1 p2 : Nat} {r : List D} (h : trD (.str q) [p1, p2] = some r) : r = trS (.str q) (trS (.str q) [] p1) p2 := by
  have h1 := tr_letters h p1 (by simp)
  have h2 := tr_letters h p2 (by simp)
  rcases h1 with rfl | rfl | rfl | rfl <;> rcases h2 with rfl | rfl | rfl | rfl <;> exact (Option.some.inj (h.symm.trans rfl))
theorem raw_trS {q : Str} {l : List D} {c : Nat} (h : ∀ d ∈ l, ¬ isRaw d = true) : ∀ d ∈ trS (.str q) l c, ¬ isRaw d = true := by
  intro d hd
  unfold trS at hd
  split at hd
  · split at hd
    · exact h d hd
    · rcases List.mem_append.mp hd with hd | hd
      · exact h d hd
      · simp at hd; subst hd; simp [isRaw]
  · split at hd
    · rcases List.mem_append.mp hd with hd | hd
      · exact h d hd
      · simp at hd; subst hd; simp [isRaw]
    · rcases List.mem_append.mp hd with hd | hd
      · exact h d hd
      · simp at hd; subst hd; simp [isRaw]
theorem len_trS {q : D} {l : List D} {c : Nat} : (trS q l c).length ≤ l.length + 1 := by
  unfold trS
  split
  · split
    · lia
    · simp
  · split <;> simp

noncomputable def cP (p1 p2 : Nat) : Nat → Nat
  | 0 => p1
  | _ => p2
noncomputable def trP (q : D) (p1 p2 : Nat) : Nat → List D
  | 0 => []
  | j + 1 => trS q (trP q p1 p2 j) (cP p1 p2 j)
theorem raw_trP {q : Str} {p1 p2 : Nat} (j : Nat) : ∀ d ∈ trP (.str q) p1 p2 j, ¬ isRaw d = true := by
  induction j with
  | zero => exact fun d h => nomatch h
  | succ j ih => exact raw_trS ih
theorem len_trP {q : D} {p1 p2 : Nat} (j : Nat) : (trP q p1 p2 j).length ≤ j := by
  induction j with
  | zero => exact Nat.le_refl _
  | succ j ih => exact Nat.le_trans len_trS (Nat.succ_le_succ ih)
theorem cP_ok {p1 p2 : Nat} {P : Nat → Prop} (h1 : P p1) (h2 : P p2) (j : Nat) : P (cP p1 p2 j) := by
  cases j with
  | zero => exact h1
  | succ j => exact h2
theorem get_P {p1 p2 j : Nat} (h : j < 2) : getD (.str ⟨#[p1, p2]⟩) (.int j) = some (.str ⟨#[cP p1 p2 j]⟩) := by
  rcases j with _ | _ | j
  · rfl
  · rfl
  · lia

section
variable {v : World} {mean : ExcName → Option Value} {mg mb : Str → Option Value} {n : Nat} {k : Kit} {A : Around} {hs : Heap} {O : Addr → Prop} {env : Env} {sc : Scope} {ρ : Rho} {s : Shared} {d : D}

theorem getAttrE {D0 : Addr} {xs : Array Value} {m : Nat} {p1 p2 : Pos} {Q : Value → Shared → Prop} {mine : Str → Prop} (C : Cx v mean mg mb n A hs O mine env sc ρ s) (hv : isVar sc (N "res") = true) (hg : goodName (N "res") = true) (hr : ρ.lookup (N "res") = some (.val (.ref D0)))
    (hx : s.heap.get? D0 = some { cls := .type "list", data := .seq xs m }) (h : Q (.ref s.heap.objs.size) { s with heap := s.heap.push (bmO D0), toks := s.toks + 1 }) : wpAny (pwm v) A (eval (.Attribute (.Name (N "res") p1) (N "append") p2) env) Q No s := by
  rw [arm_eval_Attribute]
  have hb : attributeBase (.Name (N "res") p1) (N "append") env (eval (.Name (N "res") p1) env) = eval (.Name (N "res") p1) env := rfl
  rw [hb]
  refine wpAny_bind (raw_ C hv hg hr (wpAny_bind (wpAny_standAt (wpAny_bind (wpAny_holding (getAttr_append hx ?_))))))
  exact wpAny_bind (wpAny_letTemporaryGo (wpAny_pure h))

theorem loopT (S6 : Sound v mean mg mb 6) (S12 : Sound v mean mg mb 12) {D0 B0 : Addr} {q0 : Str} {p1 p2 : Nat} (h1 : p1 = 97 ∨ p1 = 98 ∨ p1 = 63 ∨ p1 = 42) (h2 : p2 = 97 ∨ p2 = 98 ∨ p2 = 63 ∨ p2 = 42)
    (C : Cx v mean mg mb 12 A hs (OD O D0) (mineOf env) env scT (rhoT 0 ⟨#[p1, p2]⟩ (.ref D0) (.ref B0) (.str q0)) s) (hO : ¬ O D0) (F : OwnF hs env D0 B0) (L : Lst O D0 B0 [] s.heap) :
    codeAny (pwm v) A (.whileLoop (valS (stAt 7 3)) [w0, w1, w2] [] env) (fun r s' => r = .ok .next ∧ ∃ h tk, s' = { s with heap := h, toks := tk } ∧ Cx v mean mg mb 12 A hs (OD O D0) (mineOf env) env scT (rhoT 2 ⟨#[p1, p2]⟩ (.ref D0) (.ref B0) (.str q0)) s' ∧
      Lst O D0 B0 (trS (.str q0) (trS (.str q0) [] p1) p2) h) s := by
  refine codeAny_hide fun Q hQ => ?_
  obtain ⟨J, hJ⟩ : ∃ J : Nat → Shared → Prop, ∀ m s', J m s' ↔ (∃ h tk, ∃ j : Nat, s' = { s with heap := h, toks := tk } ∧ j + m = 2 ∧ Cx v mean mg mb 12 A hs (OD O D0) (mineOf env) env scT (rhoT j ⟨#[p1, p2]⟩ (.ref D0) (.ref B0) (.str q0)) s' ∧ Lst O D0 B0 (trP (.str q0) p1 p2 j) h) := ⟨_, fun _ _ => Iff.rfl⟩
  refine codeAny_whileLoop J ?_ 2 ((hJ _ _).mpr ⟨s.heap, s.toks, 0, rfl, rfl, C, L⟩)
  intro m s' hm
  obtain ⟨H, tk, j, rfl, hj, C1, L1⟩ := (hJ m s').mp hm
  clear hm
  refine wpAny_mono (S6.1.t (e_cond j ⟨#[p1, p2]⟩ (.ref D0) (.ref B0) (.str q0)) (C1.le (by decide))) (fun b s2 ⟨e, k2⟩ => ?_) fun _ _ x => x.elim
  subst e
  have C2 := C1.keeps k2
  have L2 := L1.keeps (kph k2)
  obtain ⟨⟨h2', t2, rfl, k2⟩, _⟩ := k2
  by_cases hlt : j < 2
  · rw [show decide ((j : Int) < 2) = true from decide_eq_true (by lia)]
    simp only [if_true]
    exact no_mono (turn_ S6 S12 (Q := fun f s₃ => f = .next ∧ ∃ m', m' < m ∧ J m' s₃) C2 hO F L2 (raw_trP j) (Nat.le_trans (len_trP j) (by lia)) (get_P hlt) (cP_ok (P := fun c => c = 97 ∨ c = 98 ∨ c = 63 ∨ c = 42) h1 h2 j) fun h' tk' C' L' => ⟨rfl, m - 1, by lia, (hJ _ _).mpr ⟨h', tk', j + 1, rfl, by lia, C', L'⟩⟩)
      fun f s₃ ⟨e, q⟩ => by subst e; exact q
  · rw [show decide ((j : Int) < 2) = false from decide_eq_false (by lia)]
    simp only [Bool.false_eq_true, if_false]
    have hj2 : j = 2 := by lia
    rw [hj2] at C2 L2
    exact wpAny_execs_nil (hQ _ _ ⟨rfl, h2', t2, rfl, C2, L2⟩)
end
end Mine
end
noncomputable section
open PySem PySem.W PyProof.Rows PySem.Challenge PySem.SeqAt
set_option maxRecDepth 100000
set_option linter.unusedVariables false
namespace Mine

section
variable {v : World} {mean : ExcName → Option Value} {mg mb : Str → Option Value} {n : Nat} {k : Kit} {A : Around} {hs : Heap} {O : Addr → Prop} {env : Env} {sc : Scope} {ρ : Rho} {s : Shared} {d : D}

theorem swaps_list {es : List Expr} {p : Pos} {t : Option Expr} {l : Nat} : swapsWith (.List es p) t l env = pure false := rfl

theorem while_next {c : Expr} {b : List Stmt} {p : Pos} {Q : Flow → Shared → Prop} (h : codeAny (pwm v) A (.whileLoop c b [] env) (fun r s' => ∃ f, r = .ok f ∧ Q f s') s) : wpAny (pwm v) A (exec (.While c b [] p) env) Q No s :=
  wpAny_While (codeAny_mono h fun r s' ⟨f, e, q⟩ => by subst e; exact q)

theorem fresh_size (h : Heap) : h.get? h.objs.size = none := Heap.get?_none_of_le (Nat.le_refl _)

theorem none_below {h h' : Heap} (k : KeepsH h h') {a : Addr} (e : h'.get? a = none) : h.get? a = none := by
  cases e' : h.get? a with
  | none => rfl
  | some o => have := k _ _ e'; rw [e] at this; cases this

theorem rho0_n (q : D) (p1 p2 : Nat) (r b : Value) : ∀ y d, (rhoT 0 ⟨#[p1, p2]⟩ r b q).lookup y = some d → List.lookup y ((N "n", D.int 2) :: (N "i", .int 0) :: [(N "add", .val b), (N "res", .val r), (N "pat", .str ⟨#[p1, p2]⟩), (N "STAR", .none), (N "QUESTION_MARK", q)]) = some d := by
  intro y d h
  rw [congrFun (two_look (ρ := [(N "add", .val b), (N "res", .val r), (N "pat", .str ⟨#[p1, p2]⟩), (N "STAR", .none), (N "QUESTION_MARK", q)]) (x := N "n") (y := N "i") (a := .int 2) (b := .int 0) n_ne_i) y]
  exact h

theorem translate_ok (hn : 12 ≤ n) (h : ∀ m, m ≤ n → Sound v mean mg mb m) {x q0 : Str} {l : List D} (hx : x.cps.toList.length = 2) (hl : trD (.str q0) x.cps.toList = some l) {vals : List Value} {a : Addr} (hm : mg (N "_translate") = some (.ref a)) (R : Room (n + 1) A) (B : Bs v mean mg mb s.heap)
    (h0 : 0 < s.toks) (hO : OB O s.heap) (ha : Reps s.heap O [.str x, .none, .str q0] vals) : wpAny (pwm v) A (call (.ref a) vals) (Gv O (.lst l) s) No s := by
  obtain ⟨p1, p2, hp⟩ := len2 hx
  have ex : x = ⟨#[p1, p2]⟩ := str_ext hp
  subst ex
  rw [hp] at hl
  have hp1 := tr_letters hl p1 (by simp)
  have hp2 := tr_letters hl p2 (by simp)
  have el := tr_fold hl
  obtain ⟨hi, a', o, pm, code, doc, m1, m2, m3, m4⟩ := fn_of tr_fn B
  rw [hm] at m1
  obtain rfl : a = a' := by cases m1; rfl
  obtain ⟨o1, o2, v1, v2, v3, v4, g1, g2, g3, g4⟩ := tr_own
  refine call_fn (kws := []) (kw := []) R B h0 hO hi m2 m3 m4 tr_plain (tr_bind _ q0) ha rfl .nil fun env s₁ hks C hlo _ => ?_
  have C : Cx v mean mg mb n (A.deeper env) s.heap O (mineOf env) env scT [(N "pat", .str ⟨#[p1, p2]⟩), (N "STAR", .none), (N "QUESTION_MARK", .str q0)] s₁ := C
  rw [tr_body]
  refine wpAny_hide fun Q hQ => ?_
  -- the list
  refine wpAny_execs_cons ?_
  rw [tr0]
  refine wpAny_Assign_Name (wpAny_List (args_nil ⟨by decide, ?_⟩)) rfl
  have hD0 : (s₁.heap.push { cls := .type "list", data := .seq ([] : List Value).toArray }).get? s₁.heap.objs.size = some { cls := .type "list", data := .seq ([] : List Value).toArray } := Heap.get?_push_size _ rfl
  have C1 : Cx v mean mg mb n (A.deeper env) s.heap (OD O s₁.heap.objs.size) (mineOf env) env scT [(N "pat", .str ⟨#[p1, p2]⟩), (N "STAR", .none), (N "QUESTION_MARK", .str q0)] { s₁ with heap := s₁.heap.push { cls := .type "list", data := .seq ([] : List Value).toArray } } := by
    refine (C.keeps (kpp _ _)).own ⟨_, hD0⟩ (fun b o e => Nat.ne_of_lt (Heap.lt_size (C.er.keep _ _ e))) fun y d e val r => ?_
    have : (∃ z, d = .str z) ∨ d = .none := by
      have hmem := mem_of_lookup e
      simp only [List.mem_cons, List.not_mem_nil, or_false, Prod.mk.injEq] at hmem
      rcases hmem with ⟨_, rfl⟩ | ⟨_, rfl⟩ | ⟨_, rfl⟩
      · exact .inl ⟨_, rfl⟩
      · exact .inr rfl
      · exact .inl ⟨_, rfl⟩
    rcases this with ⟨z, rfl⟩ | rfl
    · obtain ⟨t, rfl⟩ := rep_str r; exact .str _ _
    · obtain rfl := rep_none r; exact .none
  generalize hD : s₁.heap.objs.size = D0 at hD0 C1
  have hOD : ¬ O D0 := by rw [← hD]; exact C.ob.new (Nat.le_refl _)
  have dS : s.heap.get? D0 = none := by rw [← hD]; exact none_below C.er.keep (fresh_size _)
  have lD : env.locals ≠ D0 := by
    rw [← hD]
    obtain ⟨_, _, _, _, ho, _⟩ := C.er.ns
    exact Nat.ne_of_lt (Heap.lt_size ho)
  have cD : ∀ y, env.cells.lookup y ≠ some D0 := by
    intro y hy
    rw [← hD] at hy
    obtain ⟨_, _, _, ho, _⟩ := C.er.cells y _ hy
    exact Nat.lt_irrefl _ (Heap.lt_size ho)
  refine storeRaw C1 o1 fun h2 t2 C2 k2 => ?_
  have hD2 := k2 _ _ (Ne.symm lD) (fun y _ => cD y) hD0
  -- the bound append
  refine wpAny_execs_cons ?_
  rw [tr1]
  refine wpAny_Assign_Name (getAttrE C2 v1 g1 (by rfl) hD2 ?_) rfl
  have C3 := C2.keeps (s' := { s₁ with heap := h2.push (bmO D0), toks := t2 + 1 }) (kpm (fun b o e => Heap.get?_push_of_some _ e) fun _ => Nat.succ_pos _)
  have hB0 : (h2.push (bmO D0)).get? h2.objs.size = some (bmO D0) := Heap.get?_push_size _ rfl
  have hD3 : (h2.push (bmO D0)).get? D0 = _ := Heap.get?_push_of_some _ hD2
  have bS : s.heap.get? h2.objs.size = none := none_below C2.er.keep (fresh_size _)
  have lB : env.locals ≠ h2.objs.size := by
    obtain ⟨_, _, _, _, ho, _⟩ := C2.er.ns
    exact Nat.ne_of_lt (Heap.lt_size ho)
  have cB : ∀ y, env.cells.lookup y ≠ some h2.objs.size := by
    intro y hy
    obtain ⟨_, _, _, ho, _⟩ := C2.er.cells y _ hy
    exact Nat.lt_irrefl _ (Heap.lt_size ho)
  have dB : D0 ≠ h2.objs.size := Nat.ne_of_lt (Heap.lt_size hD2)
  show wpAny _ _ (storeName env (N "add") (.ref h2.objs.size)) _ _ _
  generalize h2.objs.size = B0 at hB0 bS lB cB dB
  have F : OwnF s.heap env D0 B0 := ⟨dS, bS, dB, lD, lB, cD, cB⟩
  have L3 : Lst O D0 B0 [] (h2.push (bmO D0)) := ⟨⟨[], _, hD3, .nil⟩, hB0⟩
  refine storeRaw C3 o2 fun h4 t4 C4 k4 => ?_
  have L4 := L3.keepB F C3.er k4
  -- the places
  refine stmt_ (by lia : 6 ≤ n) (h 6 (by lia)).2 (e_2 p1 p2 (.ref D0) (.ref B0) (.str q0)) C4 fun h5 t5 C5 k5 => ?_
  have L5 := L4.keepB F C4.er k5
  have C5 := C5.sub (rho0_n (.str q0) p1 p2 (.ref D0) (.ref B0))
  -- the loop
  refine wpAny_execs_cons ?_
  rw [tr3]
  refine while_next (codeAny_mono (loopT (h 6 (by lia)) (h 12 (by lia)) hp1 hp2 (C5.le hn) hOD F L5) fun r s' hz => ?_)
  obtain ⟨e, h6, t6, rfl, C6, L6⟩ := hz
  refine ⟨.next, e, ?_⟩
  -- the end
  refine stmt_ (by lia : 6 ≤ 12) (h 6 (by lia)).2 (e_4 ⟨#[p1, p2]⟩ (.ref D0) (.ref B0) (.str q0)) C6 fun h7 t7 C7 k7 => ?_
  have L7 := L6.keepB F C6.er k7
  refine wpAny_execs_cons ?_
  rw [tr5]
  refine wpAny_Return_some (raw_ C7 v1 g1 (by rfl) ?_)
  obtain ⟨⟨xs, m, hd, rr⟩, _⟩ := L7
  rw [el] at hQ
  refine hQ _ _ ⟨.lst hd hOD (rr.narrow fun a q => .inl q), ?_⟩
  obtain ⟨⟨h1', t1', rfl, _⟩, _⟩ := hks
  exact kpm C7.er.keep fun _ => C7.tk
end
end Mine
end
noncomputable section
open PySem PySem.W PyProof.Rows PySem.Challenge PySem.SeqAt
set_option maxRecDepth 100000
set_option linter.unusedVariables false
namespace Mine

section
variable {v : World} {mean : ExcName → Option Value} {mg mb : Str → Option Value} {n : Nat}

theorem specOK (hn : 20 ≤ n) (h : ∀ m, m ≤ n → Sound v mean mg mb m) : SpecOK v mean mg mb (n + 1) := by
  intro f args d hd A O vals a s hm R B h0 hO ha
  obtain ⟨x, q, rfl, hd'⟩ : ∃ x q, args = [.str x, .none, .str q] ∧ (if f == Str.ofString "_translate" && x.cps.toList.length == 2 then (trD (.str q) x.cps.toList).map D.lst else none) = some d := by
    rcases args with _ | ⟨a1, args⟩
    · exact none_some hd
    cases a1 with
    | str x =>
      rcases args with _ | ⟨a2, args⟩
      · exact none_some hd
      cases a2 with
      | none =>
        rcases args with _ | ⟨a3, args⟩
        · exact none_some hd
        cases a3 with
        | str q =>
          cases args with
          | nil => exact ⟨x, q, rfl, hd⟩
          | cons _ _ => exact none_some hd
        | _ => exact none_some hd
      | _ => exact none_some hd
    | _ => exact none_some hd
  clear hd
  replace hd := if_then hd'
  clear hd'
  obtain ⟨hf, hd⟩ := hd
  · · simp only [Bool.and_eq_true, beq_iff_eq] at hf
      obtain ⟨rfl, hx⟩ := hf
      obtain ⟨l, hl, rfl⟩ := Option.map_eq_some_iff.mp hd
      exact translate_ok (by lia) h hx hl hm R B h0 hO ha

theorem sound (n : Nat) : Sound v mean mg mb n := sound_all (fun n hn h => specOK hn h) n n (Nat.le_refl _)
end
end Mine
end
noncomputable section
open PySem PySem.W PyProof.Rows PySem.Challenge
set_option maxRecDepth 100000
set_option linter.unusedVariables false
namespace Mine

/-- an exception on its way through one frame -/
structure Fly (hs : Heap) (X : String) (c2 : Value) (e : Addr) (h : Heap) : Prop where
  new : hs.get? e = none
  it : ∃ oe vs, h.get? e = some oe ∧ oe.cls = .type X ∧ oe.data = .fields vs ∧ 1 < vs.size ∧ vs[2]? = some c2 ∧
    (vs[1]? = some .none ∨ ∃ T oT ts x3, vs[1]? = some (.ref T) ∧ hs.get? T = none ∧ T ≠ e ∧ h.get? T = some oT ∧ oT.data = .fields ts ∧ 3 < ts.size ∧ ts[3]? = some x3)
/-- it bears a traceback -/
noncomputable def Tb (e : Addr) (h : Heap) : Prop := ∃ oe vs T, h.get? e = some oe ∧ oe.data = .fields vs ∧ vs[1]? = some (.ref T)
noncomputable def Vol (hs : Heap) (F : List Addr) (h h' : Heap) : Prop :=
  (∀ b o, hs.get? b = some o → h.get? b = some o → h'.get? b = some o) ∧ ∀ b o, h.get? b = some o → (∀ vs, o.data ≠ .fields vs) → (b ∉ F → h'.get? b = some o) ∧ ∃ sl, h'.get? b = some { o with slots := sl }

theorem Vol.refl (hs : Heap) (F : List Addr) (h : Heap) : Vol hs F h h := ⟨fun _ _ _ e => e, fun b o e _ => ⟨fun _ => e, o.slots, e⟩⟩
theorem Vol.trans {hs : Heap} {F : List Addr} {h1 h2 h3 : Heap} (x : Vol hs F h1 h2) (y : Vol hs F h2 h3) : Vol hs F h1 h3 := by
  refine ⟨fun b o e1 e2 => y.1 b o e1 (x.1 b o e1 e2), fun b o e hn => ?_⟩
  obtain ⟨a1, sl, a2⟩ := x.2 b o e hn
  refine ⟨fun hb => (y.2 b o (a1 hb) hn).1 hb, ?_⟩
  obtain ⟨_, sl2, b2⟩ := y.2 b _ a2 hn
  exact ⟨sl2, b2⟩

theorem Vol.one {hs h h' : Heap} {F : List Addr} {e : Addr} (hne : hs.get? e = none) (he : ∀ o, h.get? e = some o → ∃ vs, o.data = .fields vs) (hk : ∀ b o, b ≠ e → h.get? b = some o → h'.get? b = some o) : Vol hs F h h' := by
  refine ⟨fun b o e1 e2 => hk b o (fun q => by subst q; rw [hne] at e1; cases e1) e2, fun b o e2 hn => ?_⟩
  have hb : b ≠ e := fun q => by subst q; obtain ⟨vs, h⟩ := he o e2; exact hn vs h
  exact ⟨fun _ => hk b o hb e2, o.slots, hk b o hb e2⟩

section
variable {M : Model} {A : Around} {E : Value → Shared → Prop} {s : Shared} {hs : Heap} {X : String} {c2 : Value} {e : Addr} {env : Env} {outer : List Env} {L : Addr}

noncomputable abbrev FOf (l : List Env) : List Addr := l.filterMap (·.frame)

theorem entry_ {oe : Obj} {vs : Array Value} {head : Value} {hadNext : Bool} {Q : Unit → Shared → Prop} (hfr : A.frames = some (env :: outer)) (hl : s.heap.FunFrames hs (env :: outer)) (hf : env.frame = some L)
    (hne : hs.get? e = none) (hst : hs.StaysIn s.heap) (he : s.heap.get? e = some oe) (hc : oe.cls = .type X) (hd : oe.data = .fields vs) (hsz : 1 < vs.size) (hc2 : vs[2]? = some c2)
    (h : ∀ h', Fly hs X c2 e h' → Vol hs (FOf (env :: outer)) s.heap h' → Tb e h' → Q () { s with heap := h' }) :
    wpAny M A (do let a ← frameOf env; let pl ← entryPlaceOf L hadNext; let b ← EntryCells.newEntry head a .none (rawInt L) .none pl; setField (.ref e) 1 b) Q E s := by
  have hen : e ∉ FOf (env :: outer) := fun hm => by
    obtain ⟨_, o, ho, hnf⟩ := hl.mem hm
    rw [he] at ho; cases ho; exact hnf vs hd
  refine wpAny_bind (wpAny_frameOf_fun hfr hl hf fun h₁ hs₁ => ?_)
  refine wpAny_bind (wpAny_entryPlaceOf fun pl hpl => ?_)
  unfold EntryCells.newEntry newFields
  refine wpAny_bind (wpAny_newObj_type ?_ (hpl.sizeOk5 _ _ _ _ _))
  have he₁ : h₁.get? e = some oe := (hs₁.2.1 e hen).trans he
  generalize hob : ({ cls := .type "traceback", dict := none, data := .fields ([head, .ref L, .none, rawInt L, .none] ++ (if pl.isEmpty then List.replicate 6 Value.none else pl)).toArray } : Obj) = ob
  have he₂ : (h₁.push ob).get? e = some oe := Heap.get?_push_of_some _ he₁
  have hT : h₁.objs.size ≠ e := Nat.ne_of_gt (Heap.lt_size he₁)
  have v1 : Vol hs (FOf (env :: outer)) s.heap (h₁.push ob) := by
    refine ⟨fun b o e1 e2 => Heap.get?_push_of_some _ ?_, fun b o e2 hn => ?_⟩
    · by_cases hb : b ∈ FOf (env :: outer)
      · rw [(hl.mem hb).1] at e1; cases e1
      · exact (hs₁.2.1 b hb).trans e2
    · refine ⟨fun hb => Heap.get?_push_of_some _ ((hs₁.2.1 b hb).trans e2), ?_⟩
      obtain ⟨sl, q⟩ := hs₁.2.2 b o e2
      exact ⟨sl, Heap.get?_push_of_some _ q⟩
  refine wpAny_setField he₂ hd hsz (h _ ?_ ?_ ?_)
  · have hd₃ := Obj.data_mapFields hd (·.setIfInBounds 1 (Value.ref h₁.objs.size))
    have he₃ := Heap.get?_update_self (Obj.mapFields (·.setIfInBounds 1 (Value.ref h₁.objs.size))) he₂ (Obj.isFreed_of_fields hd₃)
    have hTn : hs.get? h₁.objs.size = none := by
      cases q : hs.get? h₁.objs.size with
      | none => rfl
      | some o =>
        have h1 := hst _ _ q
        have h2 := Heap.lt_size h1
        rw [hs₁.1] at h2
        exact absurd h2 (Nat.lt_irrefl _)
    refine ⟨hne, _, _, he₃, by rw [Obj.cls_mapFields]; exact hc, hd₃, by simpa using hsz, by simpa [Array.getElem?_setIfInBounds] using hc2, .inr ⟨h₁.objs.size, ob, ([head, .ref L, .none, rawInt L, .none] ++ (if pl.isEmpty then List.replicate 6 Value.none else pl)).toArray, rawInt L, by simp [hsz], hTn, hT, ?_, by rw [← hob], by simp, by simp⟩⟩
    rw [Heap.get?_update_other _ _ (Ne.symm hT)]
    exact Heap.get?_push_size h₁ (by rw [← hob]; rfl)
  · refine v1.trans (Vol.one (e := e) hne (fun o q => by rw [he₂] at q; cases q; exact ⟨_, hd⟩) fun b o hb q => ?_)
    rw [Heap.get?_update_other _ _ (Ne.symm hb)]; exact q
  · have hd₃ := Obj.data_mapFields hd (·.setIfInBounds 1 (Value.ref h₁.objs.size))
    have he₃ := Heap.get?_update_self (Obj.mapFields (·.setIfInBounds 1 (Value.ref h₁.objs.size))) he₂ (Obj.isFreed_of_fields hd₃)
    exact ⟨_, _, h₁.objs.size, he₃, hd₃, by simp [hsz]⟩

theorem note_ {Q : Unit → Shared → Prop} (hfr : A.frames = some (env :: outer)) (hl : s.heap.FunFrames hs (env :: outer)) (hf : env.frame = some L) (hst : hs.StaysIn s.heap) (F : Fly hs X c2 e s.heap)
    (h : ∀ h', Fly hs X c2 e h' → Vol hs (FOf (env :: outer)) s.heap h' → Tb e h' → Q () { s with heap := h' }) : wpAny M A (noteFrame (.ref e) env) Q E s := by
  obtain ⟨hne, oe, vs, he, hc, hd, hsz, hc2, h1⟩ := id F
  unfold noteFrame
  simp only [hf]
  rcases h1 with h1 | ⟨T, oT, ts, x3, h1, hTn, hTe, hT, hdT, h3, hx3⟩
  · refine wpAny_bind (wpAny_field he hd h1 ?_)
    rw [if_neg (by decide)]
    exact entry_ hfr hl hf hne hst he hc hd hsz hc2 h
  · refine wpAny_bind (wpAny_field he hd h1 ?_)
    rw [if_pos (show (Value.ref T != Value.none) = true from by simp)]
    refine wpAny_bind (wpAny_field hT hdT hx3 ?_)
    by_cases hq : (x3 == rawInt L) = true
    · rw [if_pos hq]
      exact wpAny_pure (h _ F (Vol.refl ..) ⟨oe, vs, T, he, hd, h1⟩)
    · rw [if_neg hq]
      refine wpAny_bind (wpAny_setField hT hdT h3 ?_)
      have other : ∀ b, b ≠ T → (s.heap.update T (Obj.mapFields (·.setIfInBounds 3 Value.none))).get? b = s.heap.get? b := fun b hb => Heap.get?_update_other _ _ (Ne.symm hb)
      have v1 : Vol hs (FOf (env :: outer)) s.heap (s.heap.update T (Obj.mapFields (·.setIfInBounds 3 Value.none))) := Vol.one hTn (fun o q => by rw [hT] at q; cases q; exact ⟨_, hdT⟩) fun b o hb q => (other b hb).trans q
      refine entry_ hfr (hl.of_keeps fun b o q hn => ⟨o, (other b fun z => by subst z; rw [hT] at q; cases q; exact hn _ hdT).trans q, rfl⟩) hf hne (fun b o q => (other b fun z => by subst z; rw [hTn] at q; cases q).trans (hst b o q)) ((other e (Ne.symm hTe)).trans he) hc hd hsz hc2 fun h' F' V' t' => h h' F' (v1.trans V') t'

theorem flight_ {x : Option Addr} {Q : Unit → Shared → Prop} {Fl : List Addr} (F : Fly hs X c2 e s.heap) (h : ∀ h', Fly hs X c2 e h' → Vol hs Fl s.heap h' → (Tb e s.heap → Tb e h') → Q () { s with heap := h' }) : wpAny M A (setFlight (.ref e) x) Q E s := by
  obtain ⟨hne, oe, vs, he, hc, hd, hsz, hc2, h1⟩ := id F
  unfold setFlight
  rcases h1 with h1 | ⟨T, oT, ts, x3, h1, hTn, hTe, hT, hdT, h3, hx3⟩
  · refine wpAny_bind (wpAny_field he hd h1 ?_)
    rw [if_neg (by decide)]
    exact wpAny_pure (h _ F (Vol.refl ..) id)
  · refine wpAny_bind (wpAny_field he hd h1 ?_)
    rw [if_pos (show (Value.ref T != Value.none) = true from by simp)]
    generalize x.elim Value.none (fun f => rawInt f) = y
    refine wpAny_setField hT hdT h3 (h _ ?_ ?_ ?_)
    · have hd₃ := Obj.data_mapFields hdT (·.setIfInBounds 3 y)
      have hT₃ := Heap.get?_update_self (Obj.mapFields (·.setIfInBounds 3 y)) hT (Obj.isFreed_of_fields hd₃)
      refine ⟨hne, oe, vs, ?_, hc, hd, hsz, hc2, .inr ⟨T, _, _, y, h1, hTn, hTe, hT₃, hd₃, by simpa using h3, by simp [h3]⟩⟩
      rw [Heap.get?_update_other _ _ hTe]; exact he
    · exact Vol.one hTn (fun o q => by rw [hT] at q; cases q; exact ⟨_, hdT⟩) fun b o hb q => by rw [Heap.get?_update_other _ _ (Ne.symm hb)]; exact q
    · intro _
      exact ⟨oe, vs, T, by rw [Heap.get?_update_other _ _ hTe]; exact he, hd, h1⟩

theorem fly_new {h h' : Heap} (hx : Heap.NewExc h h' e X) (hst : hs.StaysIn h) : Fly hs X .none e h' ∧ KeepsH h h' := by
  obtain ⟨ob, t, he, hc, hd⟩ := hx.there
  refine ⟨⟨?_, ob, _, he, hc, hd, by simp, by simp, .inl (by simp)⟩, hx.keeps⟩
  cases q : hs.get? e with
  | none => rfl
  | some o => have := hst _ _ q; rw [hx.new] at this; cases this
end
end Mine
end
noncomputable section
open PySem PySem.W PyProof.Rows PySem.Challenge PySem.SeqAt
set_option maxRecDepth 100000
set_option linter.unusedVariables false
namespace Mine

theorem Vol.of_keeps {hs h h' : Heap} {F : List Addr} (hk : KeepsH h h') : Vol hs F h h' := ⟨fun b o _ e => hk b o e, fun b o e _ => ⟨fun _ => hk b o e, o.slots, hk b o e⟩⟩
theorem Vol.ns {hs h h' : Heap} {F : List Addr} (V : Vol hs F h h') {a : Addr} {m} (hn : h.Ns a m) : h'.Ns a m := by
  obtain ⟨o, es, ep, ho, hd, r⟩ := hn
  obtain ⟨_, sl, q⟩ := V.2 a o ho (fun vs e => by rw [hd] at e; cases e)
  exact ⟨_, es, ep, q, hd, r⟩
theorem Vol.at {hs h h' : Heap} {F : List Addr} (V : Vol hs F h h') (hF : ∀ b ∈ F, ∃ m, h.Ns b m) {a : Addr} {o : Obj} (e : h.get? a = some o) (h1 : ∀ vs, o.data ≠ .fields vs) (h2 : ∀ es n, o.data ≠ .dict es n) : h'.get? a = some o :=
  (V.2 a o e h1).1 fun hm => by
    obtain ⟨m, o', es, ep, ho, hd, _⟩ := hF a hm
    rw [e] at ho; cases ho; exact h2 _ _ hd
theorem Vol.seq {hs h h' : Heap} {F : List Addr} (V : Vol hs F h h') (hF : ∀ b ∈ F, ∃ m, h.Ns b m) {a : Addr} {c : String} {xs : Array Value} {n : Nat} (e : h.get? a = some { cls := .type c, data := .seq xs n }) : h'.get? a = some { cls := .type c, data := .seq xs n } :=
  V.at hF e (fun _ q => by cases q) (fun _ _ q => by cases q)
mutual
theorem Rep.vol {hs h h' : Heap} {F : List Addr} {O : Addr → Prop} (V : Vol hs F h h') (hF : ∀ b ∈ F, ∃ m, h.Ns b m) : ∀ {d : D} {v : Value}, Rep h O d v → Rep h' O d v
  | _, _, .none => .none
  | _, _, .bool b => .bool b
  | _, _, .int i t => .int i t
  | _, _, .str x t => .str x t
  | _, _, .lst ho hO hs => .lst (V.seq hF ho) hO (Reps.vol V hF hs)
  | _, _, .tup ho hO hs => .tup (V.seq hF ho) hO (Reps.vol V hF hs)
  | _, _, .ws => .ws
  | _, _, .ill => .ill
  | _, _, .val v => .val v
theorem Reps.vol {hs h h' : Heap} {F : List Addr} {O : Addr → Prop} (V : Vol hs F h h') (hF : ∀ b ∈ F, ∃ m, h.Ns b m) : ∀ {ds : List D} {vs : List Value}, Reps h O ds vs → Reps h' O ds vs
  | _, _, .nil => .nil
  | _, _, .cons a b => .cons (Rep.vol V hF a) (Reps.vol V hF b)
end

section
variable {v : World} {mean : ExcName → Option Value} {mg mb : Str → Option Value} {n : Nat} {k : Kit} {A A' : Around} {hs : Heap} {O : Addr → Prop} {mine : Str → Prop} {env : Env} {sc : Scope} {ρ : Rho} {s : Shared} {d : D}

theorem Cx.vol {F : List Addr} {h' : Heap} {tk : Nat} (C : Cx v mean mg mb n A hs O mine env sc ρ s) (V : Vol hs F s.heap h') (hF : ∀ b ∈ F, ∃ m, s.heap.Ns b m) (hO : ∀ a, O a → ∃ c xs m, s.heap.get? a = some { cls := .type c, data := .seq xs m }) (ht : 0 < tk) :
    Cx v mean mg mb n A hs O mine env sc ρ { s with heap := h', toks := tk } := by
  refine ⟨C.room, C.bs0, ⟨fun b o e => V.1 b o e (C.er.keep b o e), C.er.kind, C.er.glob, C.er.blt, let ⟨m, q⟩ := C.er.ns; ⟨m, V.ns q⟩, C.er.above, C.er.apart, fun x c e => ?_, C.er.mineOk, C.er.full, fun x d e q => ?_⟩, C.scp, fun a q => let ⟨c, xs, m, e⟩ := hO a q; ⟨_, V.seq hF e⟩, ht⟩
  · obtain ⟨a, w, o, ho, hd⟩ := C.er.cells x c e
    exact ⟨a, w, o, V.at hF ho (fun _ z => by rw [hd] at z; cases z) (fun _ _ z => by rw [hd] at z; cases z), hd⟩
  · obtain ⟨w, a, b⟩ := C.er.vars x d e q
    refine ⟨w, ?_, b.vol V hF⟩
    rcases a with ⟨a, m, q, c⟩ | ⟨a, c, q, o, ho, hd⟩
    · exact .inl ⟨a, m, V.ns q, c⟩
    · exact .inr ⟨a, c, q, o, V.at hF ho (fun _ z => by rw [hd] at z; cases z) (fun _ _ z => by rw [hd] at z; cases z), hd⟩

theorem Cx.rebase {hs' : Heap} (C : Cx v mean mg mb n A hs O mine env sc ρ s) (B : Bs v mean mg mb hs') (hk : KeepsH hs' hs) (hsz : hs'.objs.size ≤ hs.objs.size) : Cx v mean mg mb n A hs' O mine env sc ρ s :=
  ⟨C.room, B, { C.er with keep := fun b o e => C.er.keep b o (hk b o e), above := Nat.le_trans hsz C.er.above, mineOk := fun x hx => (C.er.mineOk x hx).imp id fun ⟨a, c, e, q⟩ => ⟨a, c, e, Nat.le_trans hsz q⟩ }, C.scp, C.ob, C.tk⟩

/-- an owned list is written anew -/
theorem Cx.writeO {D0 : Addr} {h' : Heap} {tk : Nat} (C : Cx v mean mg mb n A hs O mine env sc ρ s) (hO : O D0) (d0 : hs.get? D0 = none) (hl : ∃ xs m, s.heap.get? D0 = some { cls := .type "list", data := .seq xs m }) (hk : ∀ b o, b ≠ D0 → s.heap.get? b = some o → h'.get? b = some o) (hD : ∃ o, h'.get? D0 = some o) (ht : 0 < tk) :
    Cx v mean mg mb n A hs O mine env sc ρ { s with heap := h', toks := tk } :=
  ⟨C.room, C.bs0, C.er.upto hO hl d0 hk, C.scp, fun a q => by
    by_cases h : a = D0
    · exact h ▸ hD
    · obtain ⟨o, e⟩ := C.ob a q
      exact ⟨o, hk a o h e⟩, ht⟩

theorem rawX {x : Str} {val : Value} {pos : Pos} (C : Cx v mean mg mb n A hs O mine env sc ρ s) (hv : isVar sc x = true) (hg : goodName x = true) (hd : ρ.lookup x = some (.val val)) {Q : Value → Shared → Prop} {E : Value → Shared → Prop} (h : Q val s) :
    wpAny (pwm v) A' (eval (.Name x pos) env) Q E s := by
  obtain ⟨val', hvar, hr⟩ := C.er.vars x _ hd (isV_of hv C.scp)
  cases hr
  unfold goodName at hg
  simp only [Bool.and_eq_true, Bool.not_eq_true'] at hg
  exact wpAny_Name (loadVar C.er hvar h hg.2) hg.1
theorem varX {x : Str} {pos : Pos} (C : Cx v mean mg mb n A hs O mine env sc ρ s) (hv : isVar sc x = true) (hg : goodName x = true) (hd : ρ.lookup x = some d) {Q : Value → Shared → Prop} {E : Value → Shared → Prop} (h : ∀ val, Rep s.heap O d val → Q val s) :
    wpAny (pwm v) A' (eval (.Name x pos) env) Q E s := by
  obtain ⟨val', hvar, hr⟩ := C.er.vars x _ hd (isV_of hv C.scp)
  unfold goodName at hg
  simp only [Bool.and_eq_true, Bool.not_eq_true'] at hg
  exact wpAny_Name (loadVar C.er hvar (h _ hr) hg.2) hg.1
theorem builtX {x : Str} {pos : Pos} {val : Value} {Q : Value → Shared → Prop} {E : Value → Shared → Prop} (C : Cx v mean mg mb n A hs O mine env sc ρ s) (hv : isGlob sc x = true) (hg : goodName x = true) (hm : mg x = none) (hb : mb x = some val) (h : Q val s) :
    wpAny (pwm v) A' (eval (.Name x pos) env) Q E s := by
  unfold goodName at hg
  simp only [Bool.and_eq_true, Bool.not_eq_true'] at hg
  have hk : env.kindOf x = some .globalImplicit := by
    have := C.scp; subst this
    exact beq_iff_eq.mp hv
  exact Calls.Name_function_global C.er.kind hk (Calls.loadGlobal_builtin (by rw [C.er.glob]; exact C.bs.T.g) hm (by rw [C.er.blt]; exact C.bs.T.b) hb h) hg.1

/-- a list of strs at a place -/
noncomputable def LstS (h : Heap) (a : Addr) (ss : List Str) : Prop := ∃ (xs : List Value) (m : Nat), h.get? a = some { cls := .type "list", data := .seq xs.toArray m } ∧ StrsAre xs ss
theorem LstS.keep {h h' : Heap} {a : Addr} {ss : List Str} (L : LstS h a ss) (hk : ∀ o, h.get? a = some o → h'.get? a = some o) : LstS h' a ss := let ⟨xs, m, e, r⟩ := L; ⟨xs, m, hk _ e, r⟩
theorem LstS.vol {hs h h' : Heap} {F : List Addr} {a : Addr} {ss : List Str} (L : LstS h a ss) (V : Vol hs F h h') (hF : ∀ b ∈ F, ∃ m, h.Ns b m) : LstS h' a ss := let ⟨xs, m, e, r⟩ := L; ⟨xs, m, V.seq hF e, r⟩
theorem LstS.keepB {h h' : Heap} {a : Addr} {ss : List Str} {ρ : Str → Option D} (L : LstS h a ss) (X : ER hs O mine env ρ h) (hk : KeepBut env mine h h') : LstS h' a ss := by
  obtain ⟨xs, m, e, r⟩ := L
  exact ⟨xs, m, hk _ _ (X.seq_ne e).1 (fun y _ => (X.seq_ne e).2 y) e, r⟩
theorem LstS.rep {h : Heap} {a : Addr} {ss : List Str} (L : LstS h a ss) (hO : ¬ O a) : Rep h O (lstS ss) (.ref a) := let ⟨xs, m, e, r⟩ := L; .lst e hO (reps_of r)
end
end Mine
end
noncomputable section
open PySem PySem.W PyProof.Rows PySem.Challenge PySem.SeqAt
set_option maxRecDepth 100000
set_option linter.unusedVariables false
namespace Mine

noncomputable def hdlE : Stmt → Expr
  | .Try _ (.ExceptHandler (some e) _ _ _ :: _) _ _ _ => e
  | _ => default
noncomputable def hdlB : Stmt → List Stmt
  | .Try _ (.ExceptHandler _ _ b _ :: _) _ _ _ => b
  | _ => []
noncomputable def hdlP : Stmt → Pos
  | .Try _ (.ExceptHandler _ _ _ p :: _) _ _ _ => p
  | _ => default
noncomputable def finS : Stmt → List Stmt
  | .Try _ _ _ f _ => f
  | _ => []
noncomputable def posBr : Stmt → Pos
  | .Break p => p
  | _ => default
noncomputable def tupK : Expr → Nat
  | .Tuple _ k _ => k
  | _ => 0
noncomputable def elE (j : Nat) : Expr → Expr
  | .Tuple es _ _ => es[j]?.getD default
  | e => e

noncomputable def scU : Scope := (dAt 9).scope
noncomputable def u0 : Stmt := nth (bodyS (stAt 9 1)) 0
noncomputable def u1 : Stmt := nth (bodyS (stAt 9 1)) 1
noncomputable def ur : Stmt := nth (bodyS u1) 0
noncomputable def uh : Stmt := nth (hdlB u1) 0
theorem ul_fn : fnOf (N "unorderable_list_difference") = some 9 := by kernel_rfl
theorem ul_plain : plainD (dAt 9) = true := by kernel_rfl
theorem ul_bind (x a : Value) : bindA (dAt 9) [.val x, .val a] [] = some [(N "expected", .val x), (N "actual", .val a)] := by kernel_rfl
theorem ul_body : (dAt 9).body = [stAt 9 0, stAt 9 1, stAt 9 2] := by kernel_rfl
theorem ul0 : stAt 9 0 = .Assign [.Name (N "missing") (tgtS (stAt 9 0)).pos] (.List [] (valS (stAt 9 0)).pos) (posS (stAt 9 0)) := by kernel_rfl
theorem ul1 : stAt 9 1 = .While (.Name (N "expected") (valS (stAt 9 1)).pos) [u0, u1] [] (posS (stAt 9 1)) := by kernel_rfl
theorem ul_u0 : u0 = .Assign [.Name (N "item") (tgtS u0).pos] (.Call (.Attribute (.Name (N "expected") (atE 0 (atE 0 (valS u0))).pos) (N "pop") (atE 0 (valS u0)).pos) [] [] (valS u0).pos) (posS u0) := by kernel_rfl
theorem ul_u1 : u1 = .Try [ur] [.ExceptHandler (some (.Name (N "ValueError") (hdlE u1).pos)) none [uh] (hdlP u1)] [] [] (posS u1) := by kernel_rfl
theorem ul_ur : ur = .Expr (.Call (.Attribute (.Name (N "actual") (atE 0 (atE 0 (valS ur))).pos) (N "remove") (atE 0 (valS ur)).pos) [.Name (N "item") (atE 1 (valS ur)).pos] [] (valS ur).pos) (posS ur) := by kernel_rfl
theorem ul_uh : uh = .Expr (.Call (.Attribute (.Name (N "missing") (atE 0 (atE 0 (valS uh))).pos) (N "append") (atE 0 (valS uh)).pos) [.Name (N "item") (atE 1 (valS uh)).pos] [] (valS uh).pos) (posS uh) := by kernel_rfl
theorem ul2 : stAt 9 2 = .Return (some (.Tuple [.Name (N "missing") (elE 0 (valS (stAt 9 2))).pos, .Name (N "actual") (elE 1 (valS (stAt 9 2))).pos] (tupK (valS (stAt 9 2))) (valS (stAt 9 2)).pos)) (posS (stAt 9 2)) := by kernel_rfl
theorem ul_lines : ((atE 0 (valS u0)).pos.endLine == (valS u0).pos.line) = true ∧ ((atE 0 (valS ur)).pos.endLine == (valS ur).pos.line) = true ∧ ((atE 0 (valS uh)).pos.endLine == (valS uh).pos.line) = true := by
  refine ⟨?_, ?_, ?_⟩ <;> kernel_rfl
theorem ul_names : isOwn scU (N "missing") = true ∧ isOwn scU (N "item") = true ∧ isVar scU (N "missing") = true ∧ isVar scU (N "item") = true ∧ isVar scU (N "expected") = true ∧ isVar scU (N "actual") = true ∧ isGlob scU (N "ValueError") = true ∧
    goodName (N "missing") = true ∧ goodName (N "item") = true ∧ goodName (N "expected") = true ∧ goodName (N "actual") = true ∧ goodName (N "ValueError") = true := by
  refine ⟨?_, ?_, ?_, ?_, ?_, ?_, ?_, ?_, ?_, ?_, ?_, ?_⟩ <;> kernel_rfl

noncomputable def scS : Scope := (dAt 8).scope
noncomputable def t3 : Stmt := nth (bodyS (stAt 8 3)) 0
noncomputable def b0 : Stmt := nth (bodyS t3) 0
noncomputable def b1 : Stmt := nth (bodyS t3) 1
noncomputable def b2 : Stmt := nth (bodyS t3) 2
noncomputable def p0 : Stmt := nth (bodyS b2) 0
noncomputable def p1 : Stmt := nth (bodyS b2) 1
noncomputable def p2 : Stmt := nth (bodyS b2) 2
noncomputable def p2b : Stmt := nth (bodyS p2) 0
noncomputable def q9 : Stmt := nth (elseS b2) 0
noncomputable def q0 : Stmt := nth (bodyS q9) 0
noncomputable def q1 : Stmt := nth (bodyS q9) 1
noncomputable def q2 : Stmt := nth (bodyS q9) 2
noncomputable def q2b : Stmt := nth (bodyS q2) 0
noncomputable def r0 : Stmt := nth (elseS q9) 0
noncomputable def r1 : Stmt := nth (elseS q9) 1
noncomputable def r1w : Stmt := nth (bodyS r1) 0
noncomputable def r1b : Stmt := nth (bodyS r1w) 0
noncomputable def f0 : Stmt := nth (finS r1) 0
noncomputable def f1 : Stmt := nth (finS r1) 1
noncomputable def f1b : Stmt := nth (bodyS f1) 0
noncomputable def h0 : Stmt := nth (hdlB t3) 0
noncomputable def h1 : Stmt := nth (hdlB t3) 1
theorem sl_fn : fnOf (N "sorted_list_difference") = some 8 := by kernel_rfl
theorem sl_plain : plainD (dAt 8) = true := by kernel_rfl
theorem sl_body : (dAt 8).body = [stAt 8 0, stAt 8 1, stAt 8 2, stAt 8 3, stAt 8 4] := by kernel_rfl
theorem sl_t3 : stAt 8 3 = .While (valS (stAt 8 3)) [t3] [] (posS (stAt 8 3)) := by kernel_rfl
theorem sl_try : t3 = .Try [b0, b1, b2] [.ExceptHandler (some (.Name (N "IndexError") (hdlE t3).pos)) none [h0, h1, .Break (posBr (nth (hdlB t3) 2))] (hdlP t3)] [] [] (posS t3) := by kernel_rfl
end Mine
end
noncomputable section
open PySem PySem.W PyProof.Rows PySem.Challenge PySem.SeqAt
set_option maxRecDepth 100000
set_option linter.unusedVariables false
namespace Mine

theorem free_ValueError : freeB (N "ValueError") = true := by kernel_rfl
theorem free_IndexError : freeB (N "IndexError") = true := by kernel_rfl
theorem boot_ValueError : bootBuiltins (N "ValueError") = some (.type "ValueError") := by kernel_rfl
theorem boot_IndexError : bootBuiltins (N "IndexError") = some (.type "IndexError") := by kernel_rfl

theorem eqg {x y : Str} {t u : Tok} : MeetsSeq.EqGives (.str x t) (.str y u) (x == y) := fun _ _ _ _ _ _ h => PyProof.Rows.eqBool_str h

/-- where the one string stands -/
theorem strs_split : ∀ {xs : List Value} {ss : List Str} {x : Str}, StrsAre xs ss → x ∈ ss → ∃ j, ∃ hj : j < xs.length, (∃ t, xs[j] = .str x t) ∧ (∀ m (hm : m < xs.length), m < j → ∃ y t, xs[m] = .str y t ∧ y ≠ x) ∧ StrsAre (xs.eraseIdx j) (ss.erase x)
  | _, _, x, .nil, h => by cases h
  | _, _, x, .cons y t (vs := vs) (ys := ys) r, h => by
    by_cases hy : y = x
    · subst hy
      refine ⟨0, by simp, ⟨t, rfl⟩, fun m hm h0 => by lia, ?_⟩
      simpa using r
    · have hx : x ∈ ys := (List.mem_cons.mp h).resolve_left (Ne.symm hy)
      obtain ⟨j, hj, ⟨u, e⟩, h1, h2⟩ := strs_split r hx
      refine ⟨j + 1, by simp; lia, ⟨u, by simpa using e⟩, fun m hm h0 => ?_, ?_⟩
      · cases m with
        | zero => exact ⟨y, t, rfl, hy⟩
        | succ m => obtain ⟨z, w, e1, e2⟩ := h1 m (by simpa using hm) (by lia); exact ⟨z, w, by simpa using e1, e2⟩
      · rw [List.eraseIdx_cons_succ, List.erase_cons_tail (by simpa using hy)]
        exact .cons y t h2

section
variable {v : World} {mean : ExcName → Option Value} {mg mb : Str → Option Value} {n : Nat} {k : Kit} {A A' : Around} {hs : Heap} {O : Addr → Prop} {env : Env} {sc : Scope} {ρ : Rho} {s : Shared} {d : D} {E : Value → Shared → Prop}

theorem not_isIn {xs : List Value} {ss : List Str} {x : Str} {t : Tok} (r : StrsAre xs ss) (h : x ∉ ss) : ∀ m (hm : m < xs.length), ∃ y u, xs[m] = .str y u ∧ y ≠ x := by
  induction r with
  | nil => intro m hm; simp at hm
  | cons y u r ih =>
    intro m hm
    simp only [List.mem_cons, not_or] at h
    cases m with
    | zero => exact ⟨y, u, rfl, Ne.symm h.1⟩
    | succ m => obtain ⟨z, w, e1, e2⟩ := ih h.2 m (by simpa using hm); exact ⟨z, w, by simpa using e1, e2⟩

theorem strs_app {xs ys : List Value} {ss ts : List Str} (q : StrsAre xs ss) (r : StrsAre ys ts) : StrsAre (xs ++ ys) (ss ++ ts) := by
  induction q with
  | nil => exact r
  | cons y t _ ih => exact .cons y t ih
theorem strs_last : ∀ {ex : List Value} {xs : List Str} {x : Str}, StrsAre ex (xs ++ [x]) → ∃ t, ex.toArray[ex.toArray.size - 1]? = some (.str x t) ∧ StrsAre (ex.eraseIdx (ex.length - 1)) xs
  | _, [], x, r => by
    cases r with
    | cons y t r => cases r; exact ⟨t, rfl, .nil⟩
  | _, z :: zs, x, r0 => by
    cases r0
    rename_i t vs r
    obtain ⟨u, h1, h2⟩ := strs_last r
    have hpos : 0 < vs.length := by rw [strs_len r]; simp
    refine ⟨u, ?_, ?_⟩
    · simp only [List.size_toArray, List.getElem?_toArray, List.length_cons] at h1 ⊢
      rw [show vs.length + 1 - 1 = (vs.length - 1) + 1 by lia, List.getElem?_cons_succ]
      exact h1
    · rw [List.length_cons, show vs.length + 1 - 1 = (vs.length - 1) + 1 by lia, List.eraseIdx_cons_succ]
      exact .cons z t h2

noncomputable def isS (x : Str) : Value → Bool
  | .str y _ => y == x
  | _ => false

theorem eqgs {xs : List Value} {ss : List Str} {x : Str} {t : Tok} (r : StrsAre xs ss) : ∀ y, y ∈ xs.toArray → MeetsSeq.EqGives y (.str x t) (isS x y) := by
  intro y hy
  have hy : y ∈ xs := by simpa using hy
  induction r with
  | nil => cases hy
  | cons z u r ih =>
    rcases List.mem_cons.mp hy with rfl | hy
    · exact eqg
    · exact ih (by simpa using hy) hy

/-- the frame's own facts -/
structure FrOf (hs : Heap) (A : Around) (env : Env) (outer : List Env) : Prop where
  fr : A.frames = some (env :: outer)
  own : env.frame = some env.locals
  newL : hs.get? env.locals = none

theorem fun_frames {outer : List Env} {mine : Str → Prop} (C : Cx v mean mg mb n A hs O mine env sc ρ s) (G : FrOf hs A env outer) (ho : s.heap.FunFrames hs outer) : s.heap.FunFrames hs (env :: outer) := by
  obtain ⟨m, hn⟩ := C.er.ns
  exact ho.cons (by rw [C.er.kind]; decide) G.own hn G.newL

theorem interactive_no {mine : Str → Prop} (C : Cx v mean mg mb n A hs O mine env sc ρ s) : interactive env = false := by
  unfold interactive
  rw [C.er.kind]
  rfl
end
end Mine
end
noncomputable section
open PySem PySem.W PyProof.Rows PySem.Challenge PySem.SeqAt
set_option maxRecDepth 100000
set_option linter.unusedVariables false
namespace Mine

/-- old objects are kept, but for Ex, and the frames' slots -/
noncomputable def VolE (hs : Heap) (Ex F : List Addr) (h h' : Heap) : Prop :=
  (∀ b o, hs.get? b = some o → h.get? b = some o → h'.get? b = some o) ∧ ∀ b o, b ∉ Ex → h.get? b = some o → (∀ vs, o.data ≠ .fields vs) → (b ∉ F → h'.get? b = some o) ∧ ∃ sl, h'.get? b = some { o with slots := sl }

/-- what a call's env alone tells -/
structure Env0 (z : Nat) (env : Env) : Prop where
  l : z ≤ env.locals
  c : ∀ y c, mineOf env y → env.cells.lookup y = some c → z ≤ c

section
variable {hs h0 h h' : Heap} {Ex F : List Addr} {env : Env} {outer : List Env}

theorem VolE.keepB (J : VolE hs Ex F h0 h) (Z : Env0 h0.objs.size env) (hst : ∀ b o, hs.get? b = some o → h0.get? b = some o) (hk : KeepBut env (mineOf env) h h') : VolE hs Ex F h0 h' := by
  have k : ∀ b o, (∃ p, h0.get? b = some p) → h.get? b = some o → h'.get? b = some o := fun b o ⟨p, hp⟩ e => hk b o (Nat.ne_of_lt (Nat.lt_of_lt_of_le (Heap.lt_size hp) Z.l)) (fun y my q => Nat.lt_irrefl _ (Nat.lt_of_lt_of_le (Heap.lt_size hp) (Z.c y b my q))) e
  refine ⟨fun b o e1 e2 => k b o ⟨o, e2⟩ (J.1 b o e1 e2), fun b o hb e hn => ?_⟩
  obtain ⟨a1, sl, a2⟩ := J.2 b o hb e hn
  exact ⟨fun hf => k b o ⟨o, e⟩ (a1 hf), sl, k b _ ⟨o, e⟩ a2⟩
theorem VolE.write {D0 : Addr} (J : VolE hs Ex F h0 h) (hD : D0 ∈ Ex ∨ h0.get? D0 = none) (hn : hs.get? D0 = none) (hk : ∀ b o, b ≠ D0 → h.get? b = some o → h'.get? b = some o) : VolE hs Ex F h0 h' := by
  refine ⟨fun b o e1 e2 => hk b o (fun q => by subst q; rw [hn] at e1; cases e1) (J.1 b o e1 e2), fun b o hb e hnf => ?_⟩
  have hne : b ≠ D0 := fun q => by
    subst q
    rcases hD with hD | hD
    · exact hb hD
    · rw [hD] at e; cases e
  obtain ⟨a1, sl, a2⟩ := J.2 b o hb e hnf
  exact ⟨fun hf => hk b o hne (a1 hf), sl, hk b _ hne a2⟩
theorem VolE.vol {L : Addr} (J : VolE hs Ex F h0 h) (hL : h0.get? L = none) (V : Vol hs (L :: F) h h') : VolE hs Ex F h0 h' := by
  refine ⟨fun b o e1 e2 => V.1 b o e1 (J.1 b o e1 e2), fun b o hb e hnf => ?_⟩
  have hne : b ≠ L := fun q => by subst q; rw [hL] at e; cases e
  obtain ⟨a1, sl, a2⟩ := J.2 b o hb e hnf
  refine ⟨fun hf => (V.2 b o (a1 hf) hnf).1 (fun q => (List.mem_cons.mp q).elim hne hf), ?_⟩
  obtain ⟨_, sl2, b2⟩ := V.2 b _ a2 hnf
  exact ⟨sl2, b2⟩
theorem VolE.keeps (J : VolE hs Ex F h0 h) (hk : KeepsH h h') : VolE hs Ex F h0 h' := by
  refine ⟨fun b o e1 e2 => hk b o (J.1 b o e1 e2), fun b o hb e hnf => ?_⟩
  obtain ⟨a1, sl, a2⟩ := J.2 b o hb e hnf
  exact ⟨fun hf => hk b o (a1 hf), sl, hk b _ a2⟩
theorem VolE.of_keeps (hk : KeepsH h h') : VolE hs Ex F h h' := ⟨fun b o _ e => hk b o e, fun b o _ e _ => ⟨fun _ => hk b o e, o.slots, hk b o e⟩⟩

theorem VolE.nss (J : VolE hs Ex F h0 h) (hx : ∀ b ∈ Ex, ∃ c xs n, h0.get? b = some { cls := .type c, data := .seq xs n }) (hF : ∀ b ∈ F, ∃ m, h0.Ns b m) : ∀ b ∈ F, ∃ m, h.Ns b m := by
  intro b hb
  obtain ⟨m, o, es, ep, ho, hd, r⟩ := hF b hb
  have hne : b ∉ Ex := fun q => by
    obtain ⟨c, xs, n, e⟩ := hx b q
    rw [ho] at e; cases e; cases hd
  obtain ⟨_, sl, a2⟩ := J.2 b o hne ho (fun vs e => by rw [hd] at e; cases e)
  exact ⟨m, _, es, ep, a2, hd, r⟩
theorem VolE.frames (J : VolE hs Ex (FOf outer) h0 h) (hx : ∀ b ∈ Ex, ∃ c xs n, h0.get? b = some { cls := .type c, data := .seq xs n }) (hF : ∀ b ∈ FOf outer, ∃ m, h0.Ns b m) (ho : h0.FunFrames hs outer) : h.FunFrames hs outer := by
  have key : ∀ l : List Env, (∀ e ∈ l, e ∈ outer) → h0.FunFrames hs l → h.FunFrames hs l := by
    intro l
    induction l with
    | nil => intro _ _; trivial
    | cons e r ih =>
      intro hm hl
      obtain ⟨a1, ⟨L, o, a2, a3, a4, a5⟩, a6⟩ := hl
      have hmem : L ∈ FOf outer := List.mem_filterMap.mpr ⟨e, hm e List.mem_cons_self, a2⟩
      obtain ⟨m, o', es, ep, q1, q2, _⟩ := hF L hmem
      have hne : L ∉ Ex := fun q => by
        obtain ⟨c, xs, n, e⟩ := hx L q
        rw [q1] at e; cases e; cases q2
      obtain ⟨_, sl, b2⟩ := J.2 L o hne a4 a5
      exact ⟨a1, ⟨L, _, a2, a3, b2, a5⟩, ih (fun e he => hm e (List.mem_cons_of_mem _ he)) a6⟩
  exact key outer (fun _ h => h) ho
end
end Mine
end
noncomputable section
open PySem PySem.W PyProof.Rows PySem.Challenge PySem.SeqAt
set_option maxRecDepth 100000
set_option linter.unusedVariables false
namespace Mine

section
variable {v : World} {mean : ExcName → Option Value} {mg mb : Str → Option Value} {n : Nat} {k : Kit} {A A' : Around} {hs : Heap} {O : Addr → Prop} {env : Env} {sc : Scope} {ρ : Rho} {s : Shared} {d : D} {E : Value → Shared → Prop}

noncomputable abbrev O3 (x a m : Addr) : Addr → Prop := fun b => b = x ∨ b = a ∨ b = m
noncomputable def rhoU (X0 A0 M0 : Addr) : Rho := [(N "missing", .val (.ref M0)), (N "expected", .val (.ref X0)), (N "actual", .val (.ref A0))]
noncomputable def rhoUi (X0 A0 M0 : Addr) (x : Str) : Rho := (N "item", .str x) :: rhoU X0 A0 M0

theorem rho_item0 (X0 A0 M0 : Addr) : (rhoU X0 A0 M0).lookup (N "item") = none := by kernel_rfl
theorem rho_item (X0 A0 M0 : Addr) (x : Str) : ∀ y d, (rhoU X0 A0 M0).lookup y = some d → (rhoUi X0 A0 M0 x).lookup y = some d := by
  intro y d h
  unfold rhoUi
  rw [List.lookup_cons]
  split
  · rename_i hc
    have := beq_iff_eq.mp hc
    subst this
    rw [rho_item0] at h; cases h
  · exact h

/-- the three lists -/
structure L3 (hs : Heap) (X0 A0 M0 : Addr) (xs as ms : List Str) (h : Heap) : Prop where
  x : LstS h X0 xs
  a : LstS h A0 as
  m : LstS h M0 ms
  xa : X0 ≠ A0
  xm : X0 ≠ M0
  am : A0 ≠ M0
  nx : hs.get? X0 = none
  na : hs.get? A0 = none
  nm : hs.get? M0 = none

theorem L3.vol {F : List Addr} {X0 A0 M0 : Addr} {xs as ms : List Str} {h h' : Heap} (L : L3 hs X0 A0 M0 xs as ms h) (V : Vol hs F h h') (hF : ∀ b ∈ F, ∃ m, h.Ns b m) : L3 hs X0 A0 M0 xs as ms h' :=
  { L with x := L.x.vol V hF, a := L.a.vol V hF, m := L.m.vol V hF }
theorem L3.keepB {X0 A0 M0 : Addr} {xs as ms : List Str} {mine : Str → Prop} {ρ : Str → Option D} {h h' : Heap} (L : L3 hs X0 A0 M0 xs as ms h) (X : ER hs O mine env ρ h) (hk : KeepBut env mine h h') : L3 hs X0 A0 M0 xs as ms h' :=
  { L with x := L.x.keepB X hk, a := L.a.keepB X hk, m := L.m.keepB X hk }
theorem L3.seqs {X0 A0 M0 : Addr} {xs as ms : List Str} {h : Heap} (L : L3 hs X0 A0 M0 xs as ms h) : ∀ b, O3 X0 A0 M0 b → ∃ c ys m, h.get? b = some { cls := .type c, data := .seq ys m } := by
  rintro b (rfl | rfl | rfl)
  · obtain ⟨xs, m, e, _⟩ := L.x; exact ⟨_, _, _, e⟩
  · obtain ⟨xs, m, e, _⟩ := L.a; exact ⟨_, _, _, e⟩
  · obtain ⟨xs, m, e, _⟩ := L.m; exact ⟨_, _, _, e⟩

theorem smallO {l : Nat} (h : l ≤ 1000) : smallL l = true := by unfold smallL; simp; lia

/-- an item is appended to a list at a name -/
theorem append_X {x : Str} {nm : Str} {p1 ap p2 p p3 : Pos} {D0 : Addr} {ss : List Str} {Q : Flow → Shared → Prop} (C : Cx v mean mg mb n A hs O (mineOf env) env sc ρ s) (hO : O D0) (d0 : hs.get? D0 = none) (L : LstS s.heap D0 ss) (hsz : ss.length ≤ 1000)
    (hv : isVar sc nm = true) (hg : goodName nm = true) (hr : ρ.lookup nm = some (.val (.ref D0))) {it : Str} (hv2 : isVar sc it = true) (hg2 : goodName it = true) (hi : ρ.lookup it = some (.str x)) (hl : (ap.endLine == p.line) = true)
    (hq : ∀ h', (∀ b o, b ≠ D0 → s.heap.get? b = some o → h'.get? b = some o) → LstS h' D0 (ss ++ [x]) → Cx v mean mg mb n A hs O (mineOf env) env sc ρ { s with heap := h' } → Q .next { s with heap := h' }) :
    wpAny (pwm v) A' (exec (.Expr (.Call (.Attribute (.Name nm p1) (N "append") ap) [.Name it p2] [] p) p3) env) Q E s := by
  obtain ⟨xs, m, e, r⟩ := id L
  refine wpAny_Expr_any (Call_method1 rfl rfl hl (rawX C hv hg hr ⟨"list", "list.append", F.plainAttrs_list, F.slot_list_append, F.type_list_append, (show s.TypeIs (.ref D0) "list" from ⟨_, e, rfl⟩), fun a q => by cases q; exact ⟨_, e, rfl⟩, ?_⟩)) (interactive_no C)
  refine Calls.callWith_builtin rfl (Calls.evalArgs_plain (Calls.spliced_cons (varX C hv2 hg2 hi fun val rv => Calls.spliced_nil ?_)))
  obtain ⟨t, rfl⟩ := rep_str rv
  show wpAny _ _ (call (.builtin "list.append") [.ref D0, .str x t]) _ _ _
  refine wpAny_list_append_plain (items := xs.toArray) ⟨m, e⟩ (fun h' hl' hs' => ?_) (by have := line_big; rw [List.size_toArray, strs_len r]; lia)
  obtain ⟨m', e'⟩ := hl'
  have hk : ∀ b o, b ≠ D0 → s.heap.get? b = some o → h'.get? b = some o := fun b o hb q => hs'.extBut b o hb q
  refine hq h' hk ⟨xs ++ [.str x t], m', by simpa using e', strs_app r (.cons _ _ .nil)⟩ (C.writeO hO d0 ⟨_, _, e⟩ hk ⟨_, e'⟩ C.tk)

theorem withT {M : Model} {E' : Value → Shared → Prop} {α : Type} {t : Sem α} {Q : α → Shared → Prop} (h : wpAny M A t (fun a s' => (0 < s.toks → 0 < s'.toks) → Q a s') (fun e s' => (0 < s.toks → 0 < s'.toks) → E' e s') s) : wpAny M A t Q E' s :=
  wpAny_mono (wpAny_toks_of (n := s.toks) (Nat.le_refl _) h) (fun a s' ⟨x, y⟩ => y fun q => Nat.lt_of_lt_of_le q x) fun e s' ⟨x, y⟩ => y fun q => Nat.lt_of_lt_of_le q x

structure Pack (h0 hs : Heap) (Ex : List Addr) (outer : List Env) (A : Around) (env : Env) : Prop where
  Z : Env0 h0.objs.size env
  st : ∀ b o, hs.get? b = some o → h0.get? b = some o
  hx : ∀ b ∈ Ex, ∃ c xs n, h0.get? b = some { cls := .type c, data := .seq xs n }
  hF : ∀ b ∈ FOf outer, ∃ m, h0.Ns b m
  ff : h0.FunFrames hs outer
  G : FrOf hs A env outer
  newL : h0.get? env.locals = none

theorem Pack.fenv {h0 : Heap} {Ex : List Addr} {outer : List Env} {mine : Str → Prop} (P : Pack h0 hs Ex outer A env) (C : Cx v mean mg mb n A hs O mine env sc ρ s) (J : VolE hs Ex (FOf outer) h0 s.heap) :
    s.heap.FunFrames hs (env :: outer) ∧ ∀ b ∈ FOf (env :: outer), ∃ m, s.heap.Ns b m := by
  refine ⟨fun_frames C P.G (J.frames P.hx P.hF P.ff), fun b hb => ?_⟩
  unfold FOf at hb
  rw [List.filterMap_cons, P.G.own] at hb
  rcases List.mem_cons.mp hb with rfl | hb
  · exact C.er.ns
  · exact J.nss P.hx P.hF b hb
theorem Pack.fof {h0 : Heap} {Ex : List Addr} {outer : List Env} (P : Pack h0 hs Ex outer A env) : FOf (env :: outer) = env.locals :: FOf outer := by
  unfold FOf
  rw [List.filterMap_cons, P.G.own]

/-- one item of unorderable_list_difference -/
theorem uturn {outer : List Env} {X0 A0 M0 : Addr} {xs as ms : List Str} {x : Str} {Q : Flow → Shared → Prop} (S12 : Sound v mean mg mb 12) (C : Cx v mean mg mb n A hs (O3 X0 A0 M0) (mineOf env) env scU (rhoU X0 A0 M0) s) (L : L3 hs X0 A0 M0 (xs ++ [x]) as ms s.heap)
    {h0 : Heap} (P : Pack h0 hs [X0, A0] outer A env) (J : VolE hs [X0, A0] (FOf outer) h0 s.heap) (hM : h0.get? M0 = none) (h1 : xs.length + 1 ≤ 1000) (h2 : as.length ≤ 1000) (h3 : ms.length ≤ 999)
    (hq : ∀ h' tk, Cx v mean mg mb n A hs (O3 X0 A0 M0) (mineOf env) env scU (rhoU X0 A0 M0) { s with heap := h', toks := tk } → L3 hs X0 A0 M0 xs (if as.contains x then as.erase x else as) (if as.contains x then ms else ms ++ [x]) h' → VolE hs [X0, A0] (FOf outer) h0 h' → Q .next { s with heap := h', toks := tk }) :
    wpAny (pwm v) A (execs [u0, u1] env) Q No s := by
  obtain ⟨l1, l2, l3⟩ := ul_lines
  obtain ⟨o1, o2, v1, v2, v3, v4, v5, g1, g2, g3, g4, g5⟩ := ul_names
  have hh := C.room.hd
  -- the item is taken
  refine wpAny_execs_cons ?_
  rw [ul_u0]
  obtain ⟨ex, mx, e1, rx⟩ := id L.x
  have hlast : ∃ t, ex.toArray[ex.toArray.size - 1]? = some (.str x t) ∧ StrsAre (ex.eraseIdx (ex.length - 1)) xs := strs_last rx
  obtain ⟨t, hl, rx'⟩ := hlast
  refine wpAny_Assign_Name (Call_method0 rfl l1 (rawX C v3 g3 (by rfl) ⟨"list", "list.pop", F.plainAttrs_list, F.slot_list_pop, F.type_list_pop, (show s.TypeIs (.ref X0) "list" from ⟨_, e1, rfl⟩), fun a q => by cases q; exact ⟨_, e1, rfl⟩,
    PySem.P.pop_list e1 hl ?_ (by have := line_big; rw [List.size_toArray, strs_len rx]; simp; lia)⟩)) rfl
  have e2 := IsL.update e1 (fun xs => xs.eraseIdxIfInBounds (ex.toArray.size - 1))
  have k2 : ∀ b o, b ≠ X0 → s.heap.get? b = some o → (s.heap.update X0 (Obj.mapSeq fun xs => xs.eraseIdxIfInBounds (ex.toArray.size - 1))).get? b = some o := fun b o hb q => by rw [Heap.get?_update_other _ _ (Ne.symm hb)]; exact q
  have ea : ex.toArray.eraseIdxIfInBounds (ex.toArray.size - 1) = (ex.eraseIdx (ex.length - 1)).toArray := by simp
  rw [ea] at e2
  generalize (if (ex.eraseIdx (ex.length - 1)).toArray.size == ex.toArray.size then mx else mx + 1) = m2 at e2
  generalize s.heap.update X0 (Obj.mapSeq fun xs => xs.eraseIdxIfInBounds (ex.toArray.size - 1)) = H2 at e2 k2
  have C2 : Cx v mean mg mb n A hs (O3 X0 A0 M0) (mineOf env) env scU (rhoU X0 A0 M0) { s with heap := H2 } := C.writeO (.inl rfl) L.nx ⟨_, _, e1⟩ k2 ⟨_, e2⟩ C.tk
  have L2 : L3 hs X0 A0 M0 xs as ms H2 := { L with x := ⟨_, m2, e2, rx'⟩, a := L.a.keep fun o q => k2 _ o (Ne.symm L.xa) q, m := L.m.keep fun o q => k2 _ o (Ne.symm L.xm) q }
  refine storeK (s := { s with heap := H2 }) C2.er (isOwn_mine o2 C2.scp) (.str x t) fun h3 t3 X3 _ kb3 ht3 => ?_
  rw [upd_eq] at X3
  have C3 : Cx v mean mg mb n A hs (O3 X0 A0 M0) (mineOf env) env scU (rhoUi X0 A0 M0 x) { s with heap := h3, toks := t3 } := ⟨C2.room, C2.bs0, X3, C2.scp, ob_after C2.ob X3 (fun _ => trivial) kb3, ht3 C2.tk⟩
  have L3' := L2.keepB C2.er kb3
  have J3 : VolE hs [X0, A0] (FOf outer) h0 h3 := (J.write (D0 := X0) (.inl (by simp)) L.nx k2).keepB P.Z P.st kb3
  -- the try
  refine wpAny_execs_cons ?_
  rw [ul_u1]
  refine wpAny_Try_except ?_
  refine wpAny_execs_cons ?_
  rw [ul_ur]
  refine wpAny_hide2 fun K E' hK hE' => ?_
  obtain ⟨ax, ma, ea1, ra⟩ := id L3'.a
  have iA := interactive_no C3
  by_cases hmem : x ∈ as
  · -- it is there
    obtain ⟨j, hj, ⟨u, ej⟩, hno, re⟩ := strs_split ra hmem
    refine wpAny_Expr_any (Call_method1 rfl rfl l2 (rawX C3 v4 g4 (by rfl) ⟨"list", "list.remove", F.plainAttrs_list, F.slot_list_remove, F.type_list_remove, (show Shared.TypeIs { s with heap := h3, toks := t3 } (.ref A0) "list" from ⟨_, ea1, rfl⟩), fun a q => by cases q; exact ⟨_, ea1, rfl⟩, ?_⟩)) iA
    refine PySem.P.remove_list (varX C3 v2 g2 (by rfl) fun val rv => ?_)
    obtain ⟨tv, rfl⟩ := rep_str rv
    refine ⟨ax.toArray, ma, isS x, j, by simpa using hj, by have := line_big; rw [List.size_toArray, strs_len ra]; lia, ea1, eqgs ra, ?_, fun m hm hlt => ?_, ?_⟩
    · simp [ej, isS]
    · obtain ⟨y, w, e, hne⟩ := hno m (by simpa using hm) hlt
      simp [e, isS, hne]
    · have e4 := IsL.update ea1 (fun xs => xs.eraseIdxIfInBounds j)
      have k4 : ∀ b o, b ≠ A0 → h3.get? b = some o → (h3.update A0 (Obj.mapSeq fun xs => xs.eraseIdxIfInBounds j)).get? b = some o := fun b o hb q => by rw [Heap.get?_update_other _ _ (Ne.symm hb)]; exact q
      have eb : ax.toArray.eraseIdxIfInBounds j = (ax.eraseIdx j).toArray := by simp
      rw [eb] at e4
      generalize (if (ax.eraseIdx j).toArray.size == ax.toArray.size then ma else ma + 1) = m4 at e4
      generalize h3.update A0 (Obj.mapSeq fun xs => xs.eraseIdxIfInBounds j) = H4 at e4 k4
      have C4 : Cx v mean mg mb n A hs (O3 X0 A0 M0) (mineOf env) env scU (rhoUi X0 A0 M0 x) { s with heap := H4, toks := t3 } := C3.writeO (.inr (.inl rfl)) L.na ⟨_, _, ea1⟩ k4 ⟨_, e4⟩ C3.tk
      have L4 : L3 hs X0 A0 M0 xs (as.erase x) ms H4 := { L3' with x := L3'.x.keep fun o q => k4 _ o L.xa q, a := ⟨_, m4, e4, re⟩, m := L3'.m.keep fun o q => k4 _ o (Ne.symm L.am) q }
      refine hK _ _ (wpAny_execs_nil (wpAny_execs_nil (wpAny_execs_nil ?_)))
      have hc : as.contains x = true := by simpa using hmem
      refine hq H4 t3 (C4.sub (rho_item X0 A0 M0 x)) (by rw [hc]; exact L4) (J3.write (.inl (by simp)) L.na k4)
  · -- it is not there
    refine wpAny_Expr_any (Call_method1 rfl rfl l2 (rawX C3 v4 g4 (by rfl) ⟨"list", "list.remove", F.plainAttrs_list, F.slot_list_remove, F.type_list_remove, (show Shared.TypeIs { s with heap := h3, toks := t3 } (.ref A0) "list" from ⟨_, ea1, rfl⟩), fun a q => by cases q; exact ⟨_, ea1, rfl⟩, ?_⟩)) iA
    refine Calls.callWith_builtin rfl (Calls.evalArgs_plain (Calls.spliced_cons (varX C3 v2 g2 (by rfl) fun val rv => Calls.spliced_nil ?_)))
    obtain ⟨tv, rfl⟩ := rep_str rv
    show wpAny _ _ (call (.builtin "list.remove") [.ref A0, .str x tv]) _ _ _
    refine withT (call_meets F.slot_list_remove ⟨_, ea1, rfl⟩ F.entry_list_remove (F.args_list_remove_2 _ _) (MeetsSeq.list_remove_none A0 ax.toArray ma (.str x tv) (isS x) (eqgs ra) fun m hm => ?_) ⟨ea1, hh, fun h5 t5 e5 hx5 => ?_⟩)
    · obtain ⟨y, w, e, hne⟩ := not_isIn (t := tv) ra hmem m (by simpa using hm)
      simp [e, isS, hne]
    · intro ht5
      have t5pos : 0 < t5 := ht5 C3.tk
      obtain ⟨fl5, kk5⟩ := fly_new hx5 (fun b o q => C3.er.keep b o q)
      have C5 : Cx v mean mg mb n A hs (O3 X0 A0 M0) (mineOf env) env scU (rhoUi X0 A0 M0 x) { s with heap := h5, toks := t5 } := C3.keeps (kpm (s := { s with heap := h3, toks := t3 }) kk5 fun _ => t5pos)
      have J5 := J3.keeps kk5
      have L5 : L3 hs X0 A0 M0 xs as ms h5 := L3'.vol (F := []) (Vol.of_keeps kk5) (by simp)
      obtain ⟨ff5, ns5⟩ := P.fenv C5 J5
      refine hE' _ _ ?_
      refine note_ (s := { s with heap := h5, toks := t5 }) P.G.fr ff5 P.G.own (fun b o q => C5.er.keep b o q) fl5 fun h6 fl6 V6 _ => ?_
      refine flight_ (s := { s with heap := h6, toks := t5 }) (Fl := FOf (env :: outer)) fl6 fun h7 fl7 V7 _ => ?_
      have V57 := V6.trans V7
      have C7 := C5.vol V57 ns5 (fun a q => L5.seqs a q) t5pos
      have L7 := L5.vol V57 ns5
      have J7 := J5.vol P.newL (P.fof ▸ V57)
      have ns7 : ∀ b ∈ FOf (env :: outer), ∃ m, h7.Ns b m := fun b hb => let ⟨m, q⟩ := ns5 b hb; ⟨m, V57.ns q⟩
      obtain ⟨f1, f2⟩ := free_B C7.bs free_ValueError
      refine wpAny_handleBy_builtin (b := true) F.isExc_ValueError F.notTuple_ValueError F.self_ValueError (builtX C7 v5 g5 f1 (f2.trans boot_ValueError) ⟨rfl, ?_, ?_⟩)
      · obtain ⟨_, oe, vs, he, hc, _⟩ := fl7
        exact ⟨oe, he, hc⟩
      · rw [if_pos rfl]
        refine flight_ (s := { s with heap := h7, toks := t5 }) (Fl := FOf (env :: outer)) fl7 fun h8 fl8 V8 _ => ?_
        have C8 := C7.vol V8 ns7 (fun a q => L7.seqs a q) t5pos
        have L8 := L7.vol V8 ns7
        have J8 := J7.vol P.newL (P.fof ▸ V8)
        refine wpAny_execs_cons ?_
        rw [ul_uh]
        refine append_X (s := { s with heap := h8, toks := t5 }) C8 (.inr (.inr rfl)) L.nm L8.m (by lia) v1 g1 (by rfl) v2 g2 (by rfl) l3 fun h9 k9 l9 C9 => ?_
        refine wpAny_execs_nil ?_
        have L9 : L3 hs X0 A0 M0 xs as (ms ++ [x]) h9 := { L8 with x := L8.x.keep fun o q => k9 _ o L.xm q, a := L8.a.keep fun o q => k9 _ o L.am q, m := l9 }
        have hc : as.contains x = false := by simpa using hmem
        refine wpAny_execs_nil ?_
        exact hq h9 t5 (C9.sub (rho_item X0 A0 M0 x)) (by rw [hc]; exact L9) (J8.write (.inr hM) L.nm k9)
end
end Mine
end
noncomputable section
open PySem PySem.W PyProof.Rows PySem.Challenge PySem.SeqAt
set_option maxRecDepth 100000
set_option linter.unusedVariables false
namespace Mine

theorem ul_cells (z : Nat) : cellsFrom z scU.names [] = [] := by kernel_rfl
theorem uld_snoc (xs : List Str) (x : Str) (as ms : List Str) : uld (xs ++ [x]).reverse as ms = uld xs.reverse (if as.contains x then as.erase x else as) (if as.contains x then ms else ms ++ [x]) := by
  rw [List.reverse_append]
  show uld (x :: xs.reverse) as ms = _
  rw [uld]
  split <;> rfl

section
variable {v : World} {mean : ExcName → Option Value} {mg mb : Str → Option Value} {n : Nat} {k : Kit} {A A' : Around} {hs : Heap} {O : Addr → Prop} {env : Env} {sc : Scope} {ρ : Rho} {s : Shared} {d : D} {E : Value → Shared → Prop}

theorem list_truth {X0 : Addr} {xs : List Str} {Q : Bool → Shared → Prop} (L : LstS s.heap X0 xs) (h : xs.length ≤ 1000) (hq : ∀ tk, (0 < s.toks → 0 < tk) → Q (!xs.isEmpty) { s with toks := tk }) : wpAny (pwm v) A (truthy (.ref X0)) Q E s := by
  obtain ⟨ys, m, e, r⟩ := L
  have hl := strs_len r
  refine wpAny_truthy_list ⟨_, e, rfl, _, rfl⟩ (by rw [List.size_toArray, hl]; lia) ?_
  have key := hq (s.toks + 1 + 1) fun _ => Nat.succ_pos _
  cases r with
  | nil => exact key
  | cons y t r => exact key

theorem uloop {outer : List Env} {X0 A0 M0 : Addr} {xs as : List Str} (S12 : Sound v mean mg mb 12) (C : Cx v mean mg mb n A hs (O3 X0 A0 M0) (mineOf env) env scU (rhoU X0 A0 M0) s) (L : L3 hs X0 A0 M0 xs as [] s.heap)
    {h0 : Heap} (P : Pack h0 hs [X0, A0] outer A env) (J : VolE hs [X0, A0] (FOf outer) h0 s.heap) (hM : h0.get? M0 = none) (h1 : xs.length + as.length ≤ 900) :
    codeAny (pwm v) A (.whileLoop (.Name (N "expected") (valS (stAt 9 1)).pos) [u0, u1] [] env) (fun r s' => r = .ok .next ∧ ∃ h tk, s' = { s with heap := h, toks := tk } ∧ Cx v mean mg mb n A hs (O3 X0 A0 M0) (mineOf env) env scU (rhoU X0 A0 M0) s' ∧
      L3 hs X0 A0 M0 [] (uld xs.reverse as []).2 (uld xs.reverse as []).1 h ∧ VolE hs [X0, A0] (FOf outer) h0 h) s := by
  obtain ⟨o1, o2, v1, v2, v3, v4, v5, g1, g2, g3, g4, g5⟩ := ul_names
  refine codeAny_hide fun Q hQ => ?_
  obtain ⟨I, hI⟩ : ∃ I : Nat → Shared → Prop, ∀ m s', I m s' ↔ (∃ h tk ys bs ms, s' = { s with heap := h, toks := tk } ∧ m = ys.length ∧ Cx v mean mg mb n A hs (O3 X0 A0 M0) (mineOf env) env scU (rhoU X0 A0 M0) s' ∧ L3 hs X0 A0 M0 ys bs ms h ∧ VolE hs [X0, A0] (FOf outer) h0 h ∧
      uld ys.reverse bs ms = uld xs.reverse as [] ∧ ys.length ≤ 900 ∧ bs.length ≤ 900 ∧ ms.length + ys.length ≤ 900) := ⟨_, fun _ _ => Iff.rfl⟩
  refine codeAny_whileLoop I ?_ xs.length ((hI _ _).mpr ⟨s.heap, s.toks, xs, as, [], rfl, rfl, C, L, J, rfl, by lia, by lia, by simp; lia⟩)
  intro m s' hm'
  obtain ⟨H, tk, ys, bs, ms, rfl, rfl, C1, L1, J1, hu, b1, b2, b3⟩ := (hI m s').mp hm'
  clear hm'
  refine wpAny_isTrue_value (rawX C1 v3 g3 (by rfl) (list_truth L1.x (by lia) fun t2 ht2 => ?_))
  have C2 : Cx v mean mg mb n A hs (O3 X0 A0 M0) (mineOf env) env scU (rhoU X0 A0 M0) { s with heap := H, toks := t2 } := ⟨C1.room, C1.bs0, C1.er, C1.scp, C1.ob, ht2 C1.tk⟩
  rcases List.eq_nil_or_concat ys with rfl | ⟨zs, z, rfl⟩
  · simp only [List.isEmpty_nil, Bool.not_true, Bool.false_eq_true, if_false]
    refine wpAny_execs_nil (hQ _ _ ⟨rfl, H, t2, rfl, C2, ?_, J1⟩)
    rw [← hu]
    exact L1
  · have he : (!(zs.concat z).isEmpty) = true := by simp
    rw [he]
    simp only [if_true]
    rw [List.concat_eq_append] at L1 hu b1 b3 ⊢
    rw [uld_snoc] at hu
    have hlen : (zs ++ [z]).length = zs.length + 1 := by simp
    refine no_mono (uturn (Q := fun f s₃ => f = .next ∧ ∃ m', m' < (zs ++ [z]).length ∧ I m' s₃) S12 C2 L1 P J1 hM (by lia) (by lia) (by lia) fun h' tk' C' L' J' => ?_) fun f s₃ ⟨e, q⟩ => by subst e; exact q
    refine ⟨rfl, zs.length, by simp, (hI _ _).mpr ⟨h', tk', zs, _, _, rfl, rfl, C', L', J', hu, by lia, ?_, ?_⟩⟩
    · split
      · exact Nat.le_trans (List.length_erase_le) b2
      · exact b2
    · split
      · lia
      · rw [List.length_append]; simp only [List.length_cons, List.length_nil]; lia
end
end Mine
namespace Mine
section
variable {v : World} {mean : ExcName → Option Value} {mg mb : Str → Option Value} {n : Nat} {k : Kit} {A A' : Around} {hs : Heap} {O : Addr → Prop} {env : Env} {sc : Scope} {ρ : Rho} {s : Shared} {d : D} {E : Value → Shared → Prop}

/-- a call of unorderable_list_difference on two lists that are its own -/
theorem uld_call {outer : List Env} {X0 A0 : Addr} {xs as : List Str} {a : Addr} (hn : 12 ≤ n) (hm : mg (N "unorderable_list_difference") = some (.ref a)) (R : Room (n + 1) A) (B : Bs v mean mg mb s.heap) (Bh : Bs v mean mg mb hs) (h0 : 0 < s.toks)
    (hfr : A.frames = some outer) (hst : ∀ b o, hs.get? b = some o → s.heap.get? b = some o) (hsz : hs.objs.size ≤ s.heap.objs.size) (hF : ∀ b ∈ FOf outer, ∃ m, s.heap.Ns b m) (ff : s.heap.FunFrames hs outer)
    (LX : LstS s.heap X0 xs) (LA : LstS s.heap A0 as) (xa : X0 ≠ A0) (nx : hs.get? X0 = none) (na : hs.get? A0 = none) (hlen : xs.length + as.length ≤ 900) :
    wpAny (pwm v) A (call (.ref a) [.ref X0, .ref A0]) (fun val s' => ∃ h' tk, s' = { s with heap := h', toks := tk } ∧ Rep h' (fun _ => False) (.tup [lstS (uld xs.reverse as []).1, lstS (uld xs.reverse as []).2]) val ∧ VolE hs [X0, A0] (FOf outer) s.heap h' ∧ 0 < tk) No s := by
  obtain ⟨hi, a', o, pm, code, doc, m1, m2, m3, m4⟩ := fn_of ul_fn B
  rw [hm] at m1
  obtain rfl : a = a' := by cases m1; rfl
  obtain ⟨o1, o2, v1, v2, v3, v4, v5, g1, g2, g3, g4, g5⟩ := ul_names
  have ob2 : OB (fun b => b = X0 ∨ b = A0) s.heap := by
    rintro b (rfl | rfl)
    · obtain ⟨_, _, e, _⟩ := LX; exact ⟨_, e⟩
    · obtain ⟨_, _, e, _⟩ := LA; exact ⟨_, e⟩
  refine call_fn (O := fun b => b = X0 ∨ b = A0) (kws := []) (kw := []) R B h0 ob2 hi m2 m3 m4 ul_plain (ul_bind (.ref X0) (.ref A0)) (.cons (.val _) (.cons (.val _) .nil)) rfl .nil fun env s₁ hks C hlo hfe => ?_
  have C : Cx v mean mg mb n (A.deeper env) s.heap (fun b => b = X0 ∨ b = A0) (mineOf env) env scU [(N "expected", .val (.ref X0)), (N "actual", .val (.ref A0))] s₁ := C
  obtain ⟨hfe, hcells⟩ := hfe
  have hcells : env.cells = [] := hcells.trans (ul_cells _)
  have newL : s.heap.get? env.locals = none := Heap.get?_none_of_le hlo
  have P : Pack s.heap hs [X0, A0] outer (A.deeper env) env := by
    refine ⟨⟨hlo, fun y c _ e => by rw [hcells] at e; cases e⟩, hst, fun b hb => ?_, hF, ff, ⟨Around.frames_deeper hfr, hfe, ?_⟩, newL⟩
    · simp only [List.mem_cons, List.not_mem_nil, or_false] at hb
      rcases hb with rfl | rfl
      · obtain ⟨_, _, e, _⟩ := LX; exact ⟨_, _, _, e⟩
      · obtain ⟨_, _, e, _⟩ := LA; exact ⟨_, _, _, e⟩
    · exact Heap.get?_none_of_le (Nat.le_trans hsz hlo)
  have C := C.rebase Bh hst hsz
  rw [ul_body]
  refine wpAny_hide fun Q hQ => ?_
  refine wpAny_execs_cons ?_
  rw [ul0]
  refine wpAny_Assign_Name (wpAny_List (args_nil ⟨by decide, ?_⟩)) rfl
  have hD0 : (s₁.heap.push { cls := .type "list", data := .seq ([] : List Value).toArray }).get? s₁.heap.objs.size = some { cls := .type "list", data := .seq ([] : List Value).toArray } := Heap.get?_push_size _ rfl
  have LX1 := LX.keep fun o q => kph hks _ o q
  have LA1 := LA.keep fun o q => kph hks _ o q
  have xm : X0 ≠ s₁.heap.objs.size := by obtain ⟨_, _, e, _⟩ := LX1; exact Nat.ne_of_lt (Heap.lt_size e)
  have am : A0 ≠ s₁.heap.objs.size := by obtain ⟨_, _, e, _⟩ := LA1; exact Nat.ne_of_lt (Heap.lt_size e)
  have nm : hs.get? s₁.heap.objs.size = none := none_below C.er.keep (fresh_size _)
  have hM : s.heap.get? s₁.heap.objs.size = none := none_below (kph hks) (fresh_size _)
  have J1 : VolE hs [X0, A0] (FOf outer) s.heap (s₁.heap.push { cls := .type "list", data := .seq ([] : List Value).toArray }) := VolE.of_keeps fun b o e => Heap.get?_push_of_some _ (kph hks b o e)
  have C1 : Cx v mean mg mb n (A.deeper env) hs (O3 X0 A0 s₁.heap.objs.size) (mineOf env) env scU [(N "expected", .val (.ref X0)), (N "actual", .val (.ref A0))] { s₁ with heap := s₁.heap.push { cls := .type "list", data := .seq ([] : List Value).toArray } } := by
    have C' := C.keeps (kpp s₁ { cls := .type "list", data := .seq ([] : List Value).toArray })
    refine ⟨C'.room, C'.bs0, { C'.er with vars := fun y d e q => ?_ }, C'.scp, ?_, C'.tk⟩
    · obtain ⟨w, hv, hr⟩ := C'.er.vars y d e q
      have hmem := mem_of_lookup e
      simp only [List.mem_cons, List.not_mem_nil, or_false, Prod.mk.injEq] at hmem
      rcases hmem with ⟨_, rfl⟩ | ⟨_, rfl⟩
      · cases hr; exact ⟨_, hv, .val _⟩
      · cases hr; exact ⟨_, hv, .val _⟩
    · rintro b (rfl | rfl | rfl)
      · exact C'.ob _ (.inl rfl)
      · exact C'.ob _ (.inr rfl)
      · exact ⟨_, hD0⟩
  have L1 : L3 hs X0 A0 s₁.heap.objs.size xs as [] (s₁.heap.push { cls := .type "list", data := .seq ([] : List Value).toArray }) :=
    ⟨LX1.keep fun o q => Heap.get?_push_of_some _ q, LA1.keep fun o q => Heap.get?_push_of_some _ q, ⟨[], _, hD0, .nil⟩, xa, xm, am, nx, na, nm⟩
  generalize s₁.heap.objs.size = M0 at hD0 xm am nm hM C1 L1
  refine storeRaw C1 o1 fun h2 t2 C2 k2 => ?_
  have L2 := L1.keepB C1.er k2
  have J2 := J1.keepB P.Z P.st k2
  refine wpAny_execs_cons ?_
  rw [ul1]
  refine while_next (codeAny_mono (uloop (sound 12) C2 L2 P J2 hM hlen) fun r s' hz => ?_)
  obtain ⟨e, h6, t6, rfl, C6, L6, J6⟩ := hz
  refine ⟨.next, e, ?_⟩
  refine wpAny_execs_cons ?_
  rw [ul2]
  refine wpAny_Return_some (wpAny_Tuple (args_cons (rawX C6 v1 g1 (by rfl) (args_cons (rawX C6 v4 g4 (by rfl) (args_nil ⟨by show 2 ≤ sizeLine; decide, ?_⟩)))) ))
  obtain ⟨⟨_, _, rfl, _⟩, _⟩ := hks
  refine hQ _ _ ⟨_, t6, rfl, ?_, J6.keeps fun b o e => Heap.get?_push_of_some _ e, C6.tk⟩
  refine .tup (Heap.get?_push_size _ rfl) (fun q => q) ?_
  exact .cons ((L6.m.rep (O := fun _ => False) (fun q => q)).keeps fun _ _ e => Heap.get?_push_of_some _ e) (.cons ((L6.a.rep (O := fun _ => False) (fun q => q)).keeps fun _ _ e => Heap.get?_push_of_some _ e) .nil)
end
end Mine
end
noncomputable section
open PySem PySem.W PyProof.Rows PySem.Challenge PySem.SeqAt
set_option maxRecDepth 100000
set_option linter.unusedVariables false
namespace Mine

theorem entry_unchain : entryFor table "proto.unchain" = some Builtin.«proto.unchain» := entryFor_of_tree (by kernel_rfl)
theorem plain_unchain : plainId "proto.unchain" = true := by decide +kernel

section
variable {α : Type} {M : Model} {prog : Program} {w : World} {A : Around} {E : Value → Shared → Prop} {s : Shared} {hs : Heap} {X : String} {e1 : Addr}

theorem raiseNew_under {e : Addr} {h0 : Heap} {cls : String} {args : List Value} {Q : α → Shared → Prop} (hA : A.handled = some (.ref e1)) (F1 : Fly hs X .none e1 h0) (hx : Heap.MadeExc h0 s.heap e cls args) (hst : hs.StaysIn h0)
    (h : ∀ h', Fly hs cls (.ref e1) e h' → KeepsH h0 h' → E (.ref e) { s with heap := h' }) : wpAny (model prog w) A (raiseNew (.ref e) : Sem α) Q E s := by
  obtain ⟨hne1, oe, vs, he1, hc1, hd1, hsz1, hc2, _⟩ := F1
  obtain ⟨ob, t, he, hc, hd⟩ := hx.newExc.there
  have hne : e ≠ e1 := fun q => by subst q; have := hx.newExc.new; rw [he1] at this; cases this
  have he1' := hx.newExc.keeps _ _ he1
  unfold raiseNew
  refine wpAny_bind (wpAny_handled ?_)
  rw [hA]
  dsimp only
  rw [if_pos (by simpa using Ne.symm hne)]
  refine wpAny_bind (wpAny_holding (wpAny_runValue (codeAny_builtin entry_unchain ?_)))
  unfold Builtin.«proto.unchain»
  refine wpAny_bind (wpAny_field he1' hd1 hc2 ?_)
  rw [if_pos (by decide)]
  refine wpAny_pure (wpAny_bind ?_)
  unfold updateField
  refine wpAny_bind (wpAny_load he ?_)
  rw [hd]
  dsimp only
  rw [if_pos (by simp)]
  refine wpAny_update he (wpAny_throw (h _ ?_ ?_))
  · have hd₃ := Obj.data_mapFields hd (·.setIfInBounds 2 (Value.ref e1))
    have he₃ := Heap.get?_update_self (Obj.mapFields (·.setIfInBounds 2 (Value.ref e1))) he (Obj.isFreed_of_fields hd₃)
    refine ⟨?_, _, _, he₃, by rw [Obj.cls_mapFields]; exact hc, hd₃, by simp, by simp, .inl (by simp)⟩
    cases q : hs.get? e with
    | none => rfl
    | some o => have := hst _ _ q; rw [hx.newExc.new] at this; cases this
  · intro b o q
    have hb : b ≠ e := fun z => by subst z; rw [hx.newExc.new] at q; cases q
    rw [Heap.get?_update_other _ _ (Ne.symm hb)]
    exact hx.newExc.keeps _ _ q

theorem raise_under {cls msg : String} {Q : α → Shared → Prop} (hp : PlainExc cls) (hA : A.handled = some (.ref e1)) (F1 : Fly hs X .none e1 s.heap) (hst : hs.StaysIn s.heap)
    (h : ∀ h' tk e, Fly hs cls (.ref e1) e h' → KeepsH s.heap h' → E (.ref e) { s with heap := h', toks := tk }) : wpAny (model prog w) A (raiseErrorWords cls msg : Sem α) Q E s := by
  unfold raiseErrorWords
  refine wpAny_bind (wpAny_mkText (wpAny_bind (wpAny_newExc_plain (s := { s with toks := s.toks + 1 }) hp (fun h' e hx => ?_) (by simp; decide))))
  exact raiseNew_under (s := { s with heap := h', toks := s.toks + 1 }) hA F1 hx hst fun h'' f k => h h'' _ e f k

theorem getItem_out2 {l : Addr} {items : Array Value} {kk : Int} {j : Nat} {t : Tok} {Q : Value → Shared → Prop} (hA : A.handled = some (.ref e1)) (F1 : Fly hs X .none e1 s.heap) (hst : hs.StaysIn s.heap) (hl : s.heap.IsList l items) (hk : kk = Int.ofNat j) (hout : items.size ≤ j) (hlo : -(2 ^ 63) ≤ kk) (hhi : kk < 2 ^ 63)
    (h : ∀ h' tk e, Fly hs "IndexError" (.ref e1) e h' → KeepsH s.heap h' → E (.ref e) { s with heap := h', toks := tk }) : wpAny (model prog w) A (getItem (.ref l) (.int kk t)) Q E s := by
  obtain ⟨o, ho, hc, ne, hd⟩ := id hl
  unfold getItem
  try with_reducible refine wpAny_holding ?_
  first | refine wpAny_bind (wpAny_pure ?_) | skip
  refine wpAny_bind (wpAny_sequenceKey hl.typeIs (by decide) ?_)
  refine wpAny_bind (wpAny_callSpecial?_slot (name := Str.ofString "__getitem__") hl.typeIs slot_list_getitem
    (wpAny_call_entry slot_list_getitem hl.typeIs entry_list_getitem ?_ (args_list_getitem _ _)))
  show wpAny _ _ (Builtin.List.listSubscript? (.int kk t) >>= _) _ _ s
  refine wpAny_bind (wpAny_listSubscript_int (fitsIndex_both hlo hhi) ?_)
  clear hhi hlo
  subst hk
  have hx : items[j]? = none := Array.getElem?_eq_none hout
  show wpAny _ _ ((seqItemAt l j >>= fun r => pure (r.map (j, ·))) >>= _) _ _ s
  refine wpAny_bind (wpAny_bind (wpAny_seqItemAt ho hd (wpAny_pure ?_)))
  rw [hx]
  dsimp only [Option.map_none]
  first
    | exact wpAny_bind (wpAny_rule (wpAny_bind (raise_under (A := A.in1) plainExc_IndexError hA F1 hst h)))
    | exact wpAny_bind (wpAny_rule (raise_under (A := A.in1) plainExc_IndexError hA F1 hst h))
    | exact wpAny_bind (wpAny_bind (wpAny_rule (raise_under (A := A.in1) plainExc_IndexError hA F1 hst h)))
end
end Mine
end
noncomputable section
open PySem PySem.W PyProof.Rows PySem.Challenge PySem.SeqAt
set_option maxRecDepth 100000
set_option linter.unusedVariables false
namespace Mine

noncomputable abbrev subE (x : Expr) (nl ni : Str) : Expr := .Subscript (.Name nl (atE 0 x).pos) (.Name ni (atE 1 x).pos) x.pos
noncomputable abbrev cmpE (x : Expr) (nl ni nv : Str) : Expr := .Compare (subE (atE 0 x) nl ni) [.Eq] [.Name nv (atE 1 x).pos] x.pos
noncomputable abbrev appE (x : Expr) (nl m nv : Str) : Expr := .Call (.Attribute (.Name nl (atE 0 (atE 0 x)).pos) m (atE 0 x).pos) [.Name nv (atE 1 x).pos] [] x.pos
noncomputable def slP : Expr → Pos
  | .Subscript _ (.Slice _ _ _ p) _ => p
  | _ => default
noncomputable def slL : Expr → Expr
  | .Subscript _ (.Slice (some e) _ _ _) _ => e
  | e => e
noncomputable abbrev extE (x : Expr) (nl m nr ni : Str) : Expr := .Call (.Attribute (.Name nl (atE 0 (atE 0 x)).pos) m (atE 0 x).pos) [.Subscript (.Name nr (atE 0 (atE 1 x)).pos) (.Slice (some (.Name ni (slL (atE 1 x)).pos)) none none (slP (atE 1 x))) (atE 1 x).pos] [] x.pos
noncomputable def tgt2 : Stmt → Expr
  | .Assign (_ :: t :: _) _ _ => t
  | _ => default
noncomputable def cstK : Expr → Nat
  | .Constant _ k _ => k
  | _ => 0
theorem sl0 : stAt 8 0 = .Assign [.Name (N "i") (tgtS (stAt 8 0)).pos, .Name (N "j") (tgt2 (stAt 8 0)).pos] (.Constant (.int 0) (cstK (valS (stAt 8 0))) (valS (stAt 8 0)).pos) (posS (stAt 8 0)) := by kernel_rfl
theorem sl1 : stAt 8 1 = .Assign [.Name (N "missing") (tgtS (stAt 8 1)).pos] (.List [] (valS (stAt 8 1)).pos) (posS (stAt 8 1)) := by kernel_rfl
theorem sl2 : stAt 8 2 = .Assign [.Name (N "unexpected") (tgtS (stAt 8 2)).pos] (.List [] (valS (stAt 8 2)).pos) (posS (stAt 8 2)) := by kernel_rfl
theorem sl4 : stAt 8 4 = .Return (some (.Tuple [.Name (N "missing") (elE 0 (valS (stAt 8 4))).pos, .Name (N "unexpected") (elE 1 (valS (stAt 8 4))).pos] (tupK (valS (stAt 8 4))) (valS (stAt 8 4)).pos)) (posS (stAt 8 4)) := by kernel_rfl
theorem sl_w : valS (stAt 8 3) = .Constant (.bool true) (cstK (valS (stAt 8 3))) (valS (stAt 8 3)).pos := by kernel_rfl
theorem sl_b0 : b0 = .Assign [.Name (N "e") (tgtS b0).pos] (subE (valS b0) (N "expected") (N "i")) (posS b0) := by kernel_rfl
theorem sl_b1 : b1 = .Assign [.Name (N "a") (tgtS b1).pos] (subE (valS b1) (N "actual") (N "j")) (posS b1) := by kernel_rfl
theorem sl_b2 : b2 = .If (valS b2) [p0, p1, p2] [q9] (posS b2) := by kernel_rfl
theorem sl_p0 : p0 = .Expr (appE (valS p0) (N "missing") (N "append") (N "e")) (posS p0) := by kernel_rfl
theorem sl_p2 : p2 = .While (cmpE (valS p2) (N "expected") (N "i") (N "e")) [p2b] [] (posS p2) := by kernel_rfl
theorem sl_q9 : q9 = .If (valS q9) [q0, q1, q2] [r0, r1] (posS q9) := by kernel_rfl
theorem sl_q0 : q0 = .Expr (appE (valS q0) (N "unexpected") (N "append") (N "a")) (posS q0) := by kernel_rfl
theorem sl_q2 : q2 = .While (cmpE (valS q2) (N "actual") (N "j") (N "a")) [q2b] [] (posS q2) := by kernel_rfl
theorem sl_r1 : r1 = .Try [r1w] [] [] [f0, f1] (posS r1) := by kernel_rfl
theorem sl_r1w : r1w = .While (cmpE (valS r1w) (N "expected") (N "i") (N "e")) [r1b] [] (posS r1w) := by kernel_rfl
theorem sl_f1 : f1 = .While (cmpE (valS f1) (N "actual") (N "j") (N "a")) [f1b] [] (posS f1) := by kernel_rfl
theorem sl_h0 : h0 = .Expr (extE (valS h0) (N "missing") (N "extend") (N "expected") (N "i")) (posS h0) := by kernel_rfl
theorem sl_h1 : h1 = .Expr (extE (valS h1) (N "unexpected") (N "extend") (N "actual") (N "j")) (posS h1) := by kernel_rfl
theorem sl_lines : ((atE 0 (valS p0)).pos.endLine == (valS p0).pos.line) = true ∧ ((atE 0 (valS q0)).pos.endLine == (valS q0).pos.line) = true ∧ ((atE 0 (valS h0)).pos.endLine == (valS h0).pos.line) = true ∧ ((atE 0 (valS h1)).pos.endLine == (valS h1).pos.line) = true := by
  refine ⟨?_, ?_, ?_, ?_⟩ <;> kernel_rfl
noncomputable def sNames : List Str := [N "i", N "j", N "e", N "a", N "missing", N "unexpected", N "expected", N "actual"]
theorem sl_own : sNames.all (fun x => isOwn scS x && isVar scS x && goodName x) = true := by kernel_rfl
theorem sl_glob : (isGlob scS (N "IndexError") && goodName (N "IndexError")) = true := by kernel_rfl
theorem sl_cells (z : Nat) : cellsFrom z scS.names [] = [] := by kernel_rfl
theorem sl_bind (x a : D) : bindA (dAt 8) [x, a] [] = some [(N "expected", x), (N "actual", a)] := by kernel_rfl
/-- what is known in a turn -/
noncomputable def rhoS (i j : Int) (e a : Str) (M U : Value) (X Y : D) : Rho := [(N "i", .int i), (N "j", .int j), (N "e", .str e), (N "a", .str a), (N "unexpected", .val U), (N "missing", .val M), (N "expected", X), (N "actual", Y)]
noncomputable def augT : Stmt → Expr
  | .AugAssign t _ _ _ => t
  | _ => default
noncomputable def augV : Stmt → Expr
  | .AugAssign _ _ v _ => v
  | _ => default
noncomputable def augP : Stmt → Pos
  | .AugAssign _ _ _ p => p
  | _ => default
noncomputable abbrev incS (st : Stmt) (x : Str) : Stmt := .AugAssign (.Name x (augT st).pos) .Add (.Constant (.int 1) (cstK (augV st)) (augV st).pos) (augP st)
theorem g_p1 : p1 = incS p1 (N "i") := by kernel_rfl
theorem g_p2b : p2b = incS p2b (N "i") := by kernel_rfl
theorem g_r0 : r0 = incS r0 (N "i") := by kernel_rfl
theorem g_r1b : r1b = incS r1b (N "i") := by kernel_rfl
theorem g_q1 : q1 = incS q1 (N "j") := by kernel_rfl
theorem g_q2b : q2b = incS q2b (N "j") := by kernel_rfl
theorem g_f0 : f0 = incS f0 (N "j") := by kernel_rfl
theorem g_f1b : f1b = incS f1b (N "j") := by kernel_rfl
theorem g_b2 (i j : Int) (e a : Str) (M U : Value) (X Y : D) : (ev 6).t scS (rhoS i j e a M U X Y) (valS b2) = some (decide (e.cps.toList < a.cps.toList)) := by kernel_rfl
theorem g_q9 (i j : Int) (e a : Str) (M U : Value) (X Y : D) : (ev 6).t scS (rhoS i j e a M U X Y) (valS q9) = some (decide (a.cps.toList < e.cps.toList)) := by kernel_rfl
end Mine
end
noncomputable section
open PySem PySem.W PyProof.Rows PySem.Challenge PySem.SeqAt
set_option maxRecDepth 100000
set_option linter.unusedVariables false
namespace Mine

section
variable {v : World} {mean : ExcName → Option Value} {mg mb : Str → Option Value} {n : Nat} {k : Kit} {A A' : Around} {hs h0 : Heap} {O : Addr → Prop} {env : Env} {sc : Scope} {ρ : Rho} {s : Shared} {d : D} {E : Value → Shared → Prop}
  {outer : List Env} {M0 U0 : Addr} {ms us : List Str}

theorem inc_ {x : Str} {px pv pos : Pos} {kc : Nat} {i : Int} {Q : Flow → Shared → Prop} (C : Cx v mean mg mb n A hs O (mineOf env) env sc ρ s) (hv : isVar sc x = true) (ho : isOwn sc x = true) (hg : goodName x = true) (hi : ρ.lookup x = some (.int i))
    (hq : ∀ h' tk, Cx v mean mg mb n A hs O (mineOf env) env sc ((x, .int (i + 1)) :: ρ) { s with heap := h', toks := tk } → KeepBut env (mineOf env) s.heap h' → Q .next { s with heap := h', toks := tk }) :
    wpAny (pwm v) A' (exec (.AugAssign (.Name x px) .Add (.Constant (.int 1) kc pv) pos) env) Q E s := by
  obtain ⟨v1, hvar, hr⟩ := C.er.vars x _ hi (isV_of hv C.scp)
  unfold goodName at hg
  simp only [Bool.and_eq_true, Bool.not_eq_true'] at hg
  obtain ⟨t1, rfl⟩ := rep_int hr
  refine wpAny_AugAssign_Name (loadVar C.er hvar ?_ hg.2)
  refine wpAny_Constant_int ?_
  refine PySem.P.iadd_int (storeK (s := { s with toks := s.toks + 1 + 1 }) (d := .int (i + 1)) C.er (isOwn_mine ho C.scp) (.int _ _) fun h' tk X _ kb ht => ?_)
  rw [upd_eq] at X
  exact hq h' tk ⟨C.room, C.bs0, X, C.scp, ob_after C.ob X (fun _ => trivial) kb, ht (Nat.succ_pos _)⟩ kb

noncomputable abbrev O2 (M U : Addr) : Addr → Prop := fun b => b = M ∨ b = U

structure St (v : World) (mean : ExcName → Option Value) (mg mb : Str → Option Value) (n : Nat) (A : Around) (hs h0 : Heap) (env : Env) (outer : List Env) (M0 U0 : Addr) (ρ : Rho) (ms us : List Str) (s : Shared) : Prop where
  C : Cx v mean mg mb n A hs (O2 M0 U0) (mineOf env) env scS ρ s
  lm : LstS s.heap M0 ms
  lu : LstS s.heap U0 us
  J : VolE hs [] (FOf outer) h0 s.heap

structure Own2 (hs h0 : Heap) (M0 U0 : Addr) : Prop where
  mu : M0 ≠ U0
  nm : hs.get? M0 = none
  nu : hs.get? U0 = none
  hm : h0.get? M0 = none
  hu : h0.get? U0 = none

theorem St.keeps {s' : Shared} (S : St v mean mg mb n A hs h0 env outer M0 U0 ρ ms us s) (hk : Kp s s') : St v mean mg mb n A hs h0 env outer M0 U0 ρ ms us s' :=
  ⟨S.C.keeps hk, S.lm.keep fun o q => kph hk _ o q, S.lu.keep fun o q => kph hk _ o q, S.J.keeps (kph hk)⟩
theorem St.keepB {ρ' : Rho} {h' : Heap} {tk : Nat} (S : St v mean mg mb n A hs h0 env outer M0 U0 ρ ms us s) (P : Pack h0 hs [] outer A env) (C' : Cx v mean mg mb n A hs (O2 M0 U0) (mineOf env) env scS ρ' { s with heap := h', toks := tk }) (kb : KeepBut env (mineOf env) s.heap h') :
    St v mean mg mb n A hs h0 env outer M0 U0 ρ' ms us { s with heap := h', toks := tk } :=
  ⟨C', S.lm.keepB S.C.er kb, S.lu.keepB S.C.er kb, S.J.keepB P.Z P.st kb⟩
theorem St.sub {ρ' : Rho} (S : St v mean mg mb n A hs h0 env outer M0 U0 ρ ms us s) (h : ∀ x d, ρ'.lookup x = some d → ρ.lookup x = some d) : St v mean mg mb n A hs h0 env outer M0 U0 ρ' ms us s := ⟨S.C.sub h, S.lm, S.lu, S.J⟩
theorem St.fenv (S : St v mean mg mb n A hs h0 env outer M0 U0 ρ ms us s) (P : Pack h0 hs [] outer A env) : s.heap.FunFrames hs (env :: outer) ∧ ∀ b ∈ FOf (env :: outer), ∃ m, s.heap.Ns b m := P.fenv S.C S.J
theorem St.vol {h' : Heap} {tk : Nat} (S : St v mean mg mb n A hs h0 env outer M0 U0 ρ ms us s) (P : Pack h0 hs [] outer A env) (V : Vol hs (FOf (env :: outer)) s.heap h') (ht : 0 < tk) : St v mean mg mb n A hs h0 env outer M0 U0 ρ ms us { s with heap := h', toks := tk } := by
  obtain ⟨_, ns⟩ := S.fenv P
  refine ⟨S.C.vol V ns (fun a q => ?_) ht, S.lm.vol V ns, S.lu.vol V ns, S.J.vol P.newL (P.fof ▸ V)⟩
  rcases q with rfl | rfl
  · obtain ⟨xs, m, e, _⟩ := S.lm; exact ⟨_, _, _, e⟩
  · obtain ⟨xs, m, e, _⟩ := S.lu; exact ⟨_, _, _, e⟩
theorem St.stay (S : St v mean mg mb n A hs h0 env outer M0 U0 ρ ms us s) : hs.StaysIn s.heap := fun b o q => S.C.er.keep b o q

/-- one may raise here -/
noncomputable def MayRaise (hs : Heap) (A' : Around) (h : Heap) : Prop := A'.handled = none ∨ ∃ e1 X, A'.handled = some (.ref e1) ∧ Fly hs X .none e1 h

theorem idx_ {nl ni : Str} {q1 q2 q3 : Pos} {ss : List Str} {i : Nat} {Q : Value → Shared → Prop} (C : Cx v mean mg mb n A hs O (mineOf env) env sc ρ s) (hR : MayRaise hs A' s.heap) (hv1 : isVar sc nl = true) (hg1 : goodName nl = true) (hv2 : isVar sc ni = true) (hg2 : goodName ni = true)
    (hl : ρ.lookup nl = some (lstS ss)) (hi : ρ.lookup ni = some (.int i)) (hsm : ss.length ≤ 1000) (hi2 : i ≤ 1000)
    (hq : ∀ x val, ss[i]? = some x → Rep s.heap O (.str x) val → Q val s)
    (he : ss.length ≤ i → ∀ h' tk e c2, (A'.handled = none → c2 = .none) → Fly hs "IndexError" c2 e h' → KeepsH s.heap h' → 0 < tk → E (.ref e) { s with heap := h', toks := tk }) :
    wpAny (pwm v) A' (eval (.Subscript (.Name nl q1) (.Name ni q2) q3) env) Q E s := by
  refine Subscript_ (varX C hv1 hg1 hl fun vl rl => varX C hv2 hg2 hi fun vi ri => ?_)
  obtain ⟨a, xs, m, rfl, e1, r1⟩ := rep_lst rl
  obtain ⟨t, rfl⟩ := rep_int ri
  have hL : s.heap.IsList a xs.toArray := ⟨_, e1, rfl, _, rfl⟩
  have hlen : xs.length = ss.length := by rw [r1.length]; simp
  refine sub_tail ⟨_, e1, rfl⟩ list_getitem_lookup ?_
  by_cases hlt : i < ss.length
  · obtain ⟨val, hval, rv⟩ := r1.get i (.str ss[i]) (by simp [hlt])
    refine wpAny_getItem_list hL (by lia) (by lia) (x := val) (by simpa using hval) ?_
    exact hq _ _ (by simp [hlt]) rv
  · have hge : ss.length ≤ i := by lia
    rcases hR with hA | ⟨e1', X, hA, F1⟩
    · refine withT (wpAny_getItem_list_out hA hL (.inr (by rw [List.size_toArray, hlen]; lia)) (by lia) (by lia) fun h' tk e hx => ?_)
      intro ht
      obtain ⟨f, kk⟩ := fly_new hx (fun b o q => C.er.keep b o q)
      exact he hge h' tk e _ (fun _ => rfl) f kk (ht C.tk)
    · refine withT (getItem_out2 hA F1 (fun b o q => C.er.keep b o q) hL (j := i) rfl (by rw [List.size_toArray, hlen]; exact hge) (by lia) (by lia) fun h' tk e f kk => ?_)
      intro ht
      exact he hge h' tk e _ (fun q => by rw [hA] at q; cases q) f kk (ht C.tk)
end
end Mine
end
noncomputable section
open PySem PySem.W PyProof.Rows PySem.Challenge PySem.SeqAt
set_option maxRecDepth 100000
set_option linter.unusedVariables false
namespace Mine

theorem okD_str {y : Str} (h : PyData.strOk y = true) : okD (.str y) = true := by
  simp [okD, noSet, shaped, py, PyData.canLay0, PyData.depth, h]
theorem eq_str {y x : Str} (h1 : PyData.strOk y = true) (h2 : PyData.strOk x = true) : eqD (.str y) (.str x) = some (y == x) := by
  show (if okD (.str y) && okD (.str x) then some (PyData.eqv (.str y) (.str x)) else none) = _
  rw [okD_str h1, okD_str h2]; simp [PyData.eqv]
theorem dropEq_len (x : Str) : ∀ l, (dropEq x l).length ≤ l.length
  | [] => Nat.le_refl _
  | y :: r => by rw [dropEq]; split; exact Nat.le_succ_of_le (dropEq_len x r); exact Nat.le_refl _

section
variable {v : World} {mean : ExcName → Option Value} {mg mb : Str → Option Value} {n : Nat} {k : Kit} {A A' : Around} {hs h0 : Heap} {O : Addr → Prop} {env : Env} {sc : Scope} {ρ : Rho} {s : Shared} {d : D} {E : Value → Shared → Prop}
  {outer : List Env} {M0 U0 : Addr} {ms us : List Str}

theorem skip_ {x : Expr} {st : Stmt} {nl ni nv : Str} {ss : List Str} {e : Str} {I : Heap → Prop} {R : Except Value Flow → Shared → Prop} (ρ : Nat → Rho)
    (hname : (isVar scS nl && goodName nl && (isVar scS ni && goodName ni && isOwn scS ni) && (isVar scS nv && goodName nv)) = true)
    (hl : ∀ i, (ρ i).lookup nl = some (lstS ss)) (hi : ∀ i : Nat, (ρ i).lookup ni = some (.int i)) (he : ∀ i, (ρ i).lookup nv = some (.str e)) (hstep : ∀ (i : Nat) y d, (ρ (i + 1)).lookup y = some d → ((ni, .int ((i : Int) + 1)) :: ρ i).lookup y = some d)
    (hst : st = incS st ni) (P : Pack h0 hs [] outer A env) (hfr : A'.frames = some (env :: outer)) (hu : A'.units + 80 < cLine)
    (hI : ∀ h, I h → MayRaise hs A' h) (hIk : ∀ h h' L (m : Str → Option Value), I h → h.Ns L m → (∀ b o, b ≠ L → h.get? b = some o → h'.get? b = some o) → I h') (hcells : env.cells = [])
    (hsm : ss.length ≤ 1000) (hok : ∀ y ∈ ss, PyData.strOk y = true) (hoke : PyData.strOk e = true) {i0 : Nat} (S0 : St v mean mg mb n A hs h0 env outer M0 U0 (ρ i0) ms us s) (I0 : I s.heap) (hi0 : i0 ≤ ss.length)
    (hq : ∀ h' tk i, St v mean mg mb n A hs h0 env outer M0 U0 (ρ i) ms us { s with heap := h', toks := tk } → ss.drop i = dropEq e (ss.drop i0) → i ≤ ss.length → I h' → R (.ok .next) { s with heap := h', toks := tk })
    (hx : ∀ h' tk i c2 e1, St v mean mg mb n A hs h0 env outer M0 U0 (ρ i) ms us { s with heap := h', toks := tk } → ss.drop i = dropEq e (ss.drop i0) → i ≤ ss.length → ss.drop i = [] → (A'.handled = none → c2 = .none) → Fly hs "IndexError" c2 e1 h' → Tb e1 h' → R (.error (.ref e1)) { s with heap := h', toks := tk }) :
    codeAny (pwm v) A' (.whileLoop (cmpE x nl ni nv) [st] [] env) R s := by
  simp only [Bool.and_eq_true] at hname
  obtain ⟨⟨⟨v1, g1⟩, ⟨v2, g2⟩, o2⟩, v3, g3⟩ := hname
  refine codeAny_whileLoop (fun m s' => ∃ h tk i, s' = { s with heap := h, toks := tk } ∧ m = ss.length - i ∧ St v mean mg mb n A hs h0 env outer M0 U0 (ρ i) ms us s' ∧ I h ∧ i ≤ ss.length ∧ dropEq e (ss.drop i) = dropEq e (ss.drop i0)) ?_ (ss.length - i0) ⟨s.heap, s.toks, i0, rfl, rfl, S0, I0, hi0, rfl⟩
  rintro m s' ⟨H, tk, i, rfl, rfl, S, Ih, hle, hd⟩
  refine wpAny_isTrue_Compare1 (idx_ S.C (hI _ Ih) v1 g1 v2 g2 (hl i) (hi i) hsm (by lia) (fun y val hy rv => ?_) fun hge h' tk' e1 c2 hc2 f kk ht => ?_)
  · refine varX S.C v3 g3 (he i) fun vx rx => ?_
    refine wpAny_mono (upP id (eq_ (eq_str (hok y (List.mem_of_getElem? hy)) hoke) rv rx hu)) (fun c s₂ ⟨hc, hk⟩ => ?_) fun _ _ f => f
    have S2 := S.keeps hk
    obtain ⟨⟨⟨H2, tk2, rfl, kk⟩, _⟩, ht⟩ : (_ ∧ True) ∧ _ := ⟨⟨hk.1, trivial⟩, hk.2⟩
    have hlt : i < ss.length := by
      rcases Nat.lt_or_ge i ss.length with h | h
      · exact h
      · rw [List.getElem?_eq_none h] at hy; cases hy
    have hyl : ss[i] = y := by rw [List.getElem?_eq_getElem hlt] at hy; exact Option.some.inj hy
    have hdr : ss.drop i = y :: ss.drop (i + 1) := by rw [← hyl]; exact List.drop_eq_getElem_cons hlt
    have Ih2 : I H2 := by
      obtain ⟨m0, ns⟩ := S.C.er.ns
      exact hIk _ _ _ _ Ih ns fun b o _ q => kk b o q
    rw [hc]
    refine wpAny_truthy_bool ?_
    cases hb : (y == e) with
    | true =>
      simp only [if_true]
      rw [hst]
      refine wpAny_execs_cons (inc_ S2.C v2 o2 g2 (hi i) fun h3 t3 C3 kb => ?_)
      refine wpAny_execs_nil ⟨ss.length - (i + 1), by lia, h3, t3, i + 1, rfl, rfl, (S2.keepB P C3 kb).sub (hstep i), ?_, by lia, ?_⟩
      · obtain ⟨m0, ns⟩ := S2.C.er.ns
        exact hIk _ _ _ _ Ih2 ns fun b o hb q => kb b o hb (fun y _ => by rw [hcells]; intro z; cases z) q
      · rw [← hd, hdr, dropEq, if_pos hb]
    | false =>
      simp only [Bool.false_eq_true, if_false]
      refine wpAny_execs_nil (hq _ _ i S2 ?_ hle Ih2)
      rw [← hd, hdr, dropEq, if_neg (by simp [hb])]
  · have S2 : St v mean mg mb n A hs h0 env outer M0 U0 (ρ i) ms us { s with heap := h', toks := tk' } := S.keeps (s' := { s with heap := h', toks := tk' }) (kpm (s := { s with heap := H, toks := tk }) kk fun _ => ht)
    obtain ⟨ff, ns⟩ := S2.fenv P
    refine note_ (s := { s with heap := h', toks := tk' }) hfr ff P.G.own S2.stay f fun h6 fl6 V6 t6 => ?_
    have S6 := S2.vol P V6 ht
    refine hx _ _ i c2 e1 S6 ?_ hle (List.drop_eq_nil_of_le hge) hc2 fl6 t6
    rw [← hd, List.drop_eq_nil_of_le hge]
    rfl
end
end Mine
end
noncomputable section
open PySem PySem.W PyProof.Rows PySem.Challenge PySem.SeqAt
set_option maxRecDepth 100000
set_option linter.unusedVariables false
namespace Mine

theorem strsD_str : ∀ l : List Str, strsD (l.map .str) = some l
  | [] => rfl
  | x :: r => by simp [strsD, strsD_str r]

section
variable {v : World} {mean : ExcName → Option Value} {mg mb : Str → Option Value} {n : Nat} {k : Kit} {A A' : Around} {hs h0 : Heap} {O : Addr → Prop} {env : Env} {sc : Scope} {ρ : Rho} {s : Shared} {d : D} {E : Value → Shared → Prop}
  {outer : List Env} {M0 U0 : Addr} {ms us : List Str}

/-- an exception came back from the frame's own activation -/
theorem came_ {M : Model} {X : String} {c2 : Value} {e : Addr} {Fl : List Addr} (F : Fly hs X c2 e s.heap) (T : Tb e s.heap)
    (h : ∀ h', Fly hs X c2 e h' → Vol hs Fl s.heap h' → Tb e h' → E (.ref e) { s with heap := h' }) : cameBackBy M A env E (.ref e) s := by
  obtain ⟨oe, vs, T1, he, hd, h1⟩ := id T
  unfold cameBackBy
  refine wpAny_bind (wpAny_field he hd h1 ?_)
  rw [if_neg (by simp)]
  exact flight_ F fun h' f' v' t' => h h' f' v' (t' T)

theorem passOn_ {α : Type} {M : Model} {X : String} {c2 : Value} {e : Addr} {Fl : List Addr} {what : String} {Q : α → Shared → Prop} (F : Fly hs X c2 e s.heap) (T : Tb e s.heap)
    (h : ∀ h', Fly hs X c2 e h' → Vol hs Fl s.heap h' → Tb e h' → E (.ref e) { s with heap := h' }) : wpAny M A (PySem.passOn what (.ref e) env : Sem α) Q E s := by
  obtain ⟨oe, vs, T1, he, hd, h1⟩ := id T
  unfold PySem.passOn
  refine wpAny_bind (wpAny_field he hd h1 ?_)
  rw [if_neg (by simp)]
  exact wpAny_bind (flight_ F fun h' f' v' t' => wpAny_throw (h h' f' v' (t' T)))

theorem extend_X {x : Expr} {nl nr ni : Str} {p3 : Pos} {D0 : Addr} {ss ls : List Str} {i : Nat} {Q : Flow → Shared → Prop} (C : Cx v mean mg mb n A hs O (mineOf env) env sc ρ s) (hO : O D0) (d0 : hs.get? D0 = none) (L : LstS s.heap D0 ss) (hsz : ss.length ≤ 1000) (hsz2 : ls.length ≤ 1000) (hi1 : i ≤ 1000)
    (hv : isVar sc nl = true) (hg : goodName nl = true) (hr : ρ.lookup nl = some (.val (.ref D0))) (hv2 : isVar sc nr = true) (hg2 : goodName nr = true) (hr2 : ρ.lookup nr = some (lstS ls)) (hv3 : isVar sc ni = true) (hg3 : goodName ni = true) (hi : ρ.lookup ni = some (.int i))
    (hl : ((atE 0 x).pos.endLine == x.pos.line) = true)
    (hq : ∀ h' tk, (∀ b o, b ≠ D0 → s.heap.get? b = some o → h'.get? b = some o) → LstS h' D0 (ss ++ ls.drop i) → Cx v mean mg mb n A hs O (mineOf env) env sc ρ { s with heap := h', toks := tk } → Q .next { s with heap := h', toks := tk }) :
    wpAny (pwm v) A' (exec (.Expr (extE x nl (N "extend") nr ni) p3) env) Q E s := by
  obtain ⟨xs, m, e, r⟩ := id L
  refine wpAny_Expr_any (Call_method1 rfl rfl hl (rawX C hv hg hr ⟨"list", "list.extend", F.plainAttrs_list, F.slot_list_extend, F.type_list_extend, (show s.TypeIs (.ref D0) "list" from ⟨_, e, rfl⟩), fun a q => by cases q; exact ⟨_, e, rfl⟩, ?_⟩)) (interactive_no C)
  refine PySem.P.extend_list (Subscript_ (varX C hv2 hg2 hr2 fun vl rl => ?_))
  refine wpAny_Slice (evalPart_some_step (varX C hv3 hg3 hi fun vi ri => ?_))
  obtain ⟨t, rfl⟩ := rep_int ri
  refine evalPart_none_step (evalPart_none_step ?_)
  refine wpAny_mono (sliceK (lo := some i) (hi := none) (r := .lst ((ls.map .str).drop i)) ?_ rl (.int _ _) .none C.ob) (fun val s₂ ⟨rv, hk⟩ => ?_) fun _ _ f => f
  · show (if smallL (ls.map D.str).length then _ else _) = _
    rw [if_pos (smallO (by simpa using hsz2))]
    rfl
  · rw [← List.map_drop] at rv
    obtain ⟨b, ys, m2, rfl, e2, r2⟩ := rep_lst rv
    obtain ⟨h2, tk, rfl, kk⟩ := hk.1
    have C2 := C.keeps hk
    have e1 := kk _ _ e
    have sy := strs_of (strsD_str _) r2
    have hlen : ys.length ≤ 1000 := by rw [strs_len sy, List.length_drop]; lia
    have hxl : xs.length ≤ 1000 := by rw [strs_len r]; exact hsz
    refine ⟨b, xs.toArray, ys.toArray, m, m2, by have := line_big; rw [List.size_toArray]; lia, by have := line_big; rw [List.size_toArray, List.size_toArray]; lia, ?_, rfl, e1, e2, ?_⟩
    · have lb := line_big
      rw [List.size_toArray, List.size_toArray]
      simp only [Builtin.List.listTooLong, Bool.and_eq_true, decide_eq_true_eq, not_and]
      intro _
      lia
    · have e3 := IsL.update e1 (fun xs => xs ++ ys.toArray)
      have k4 : ∀ c o, c ≠ D0 → h2.get? c = some o → (h2.update D0 (Obj.mapSeq fun xs => xs ++ ys.toArray)).get? c = some o := fun c o hb q => by rw [Heap.get?_update_other _ _ (Ne.symm hb)]; exact q
      have e5 : xs.toArray ++ ys.toArray = (xs ++ ys).toArray := by simp
      rw [e5] at e3
      refine hq _ _ (fun c o hc q => k4 c o hc (kk c o q)) ⟨_, _, e3, strs_app r sy⟩ (C2.writeO hO d0 ⟨_, _, e1⟩ k4 ⟨_, e3⟩ C2.tk)
end
end Mine
end
noncomputable section
open PySem PySem.W PyProof.Rows PySem.Challenge PySem.SeqAt
set_option maxRecDepth 100000
set_option linter.unusedVariables false
namespace Mine

noncomputable def rhoL (i j : Int) (M U : Value) (X Y : D) : Rho := [(N "i", .int i), (N "j", .int j), (N "unexpected", .val U), (N "missing", .val M), (N "expected", X), (N "actual", Y)]
theorem sub_all {ρ' ρ : Rho} (h : ∀ p ∈ ρ', ρ.lookup p.1 = some p.2) : ∀ x d, ρ'.lookup x = some d → ρ.lookup x = some d := fun x d e => h _ (mem_of_lookup e)
theorem sub_L (i j : Int) (e a : Str) (M U : Value) (X Y : D) : ∀ x d, (rhoL i j M U X Y).lookup x = some d → (rhoS i j e a M U X Y).lookup x = some d := by
  refine sub_all ?_
  simp only [rhoL, List.forall_mem_cons]
  refine ⟨?_, ?_, ?_, ?_, ?_, ?_, fun _ h => by cases h⟩ <;> kernel_rfl
theorem sub_ea (i j : Int) (e a : Str) (M U : Value) (X Y : D) : ∀ x d, (rhoS i j e a M U X Y).lookup x = some d → ((N "a", D.str a) :: (N "e", .str e) :: rhoL i j M U X Y).lookup x = some d := by
  refine sub_all ?_
  simp only [rhoS, List.forall_mem_cons]
  refine ⟨?_, ?_, ?_, ?_, ?_, ?_, ?_, ?_, fun _ h => by cases h⟩ <;> kernel_rfl
theorem sub_e (i j : Int) (e : Str) (M U : Value) (X Y : D) : ∀ x d, (rhoL i j M U X Y).lookup x = some d → ((N "e", D.str e) :: rhoL i j M U X Y).lookup x = some d := by
  refine sub_all ?_
  simp only [rhoL, List.forall_mem_cons]
  refine ⟨?_, ?_, ?_, ?_, ?_, ?_, fun _ h => by cases h⟩ <;> kernel_rfl
theorem sub_i (i j : Int) (e a : Str) (M U : Value) (X Y : D) : ∀ x d, (rhoS (i + 1) j e a M U X Y).lookup x = some d → ((N "i", .int (i + 1)) :: rhoS i j e a M U X Y).lookup x = some d := by
  refine sub_all ?_
  simp only [rhoS, List.forall_mem_cons]
  refine ⟨?_, ?_, ?_, ?_, ?_, ?_, ?_, ?_, fun _ h => by cases h⟩ <;> kernel_rfl
theorem sub_j (i j : Int) (e a : Str) (M U : Value) (X Y : D) : ∀ x d, (rhoS i (j + 1) e a M U X Y).lookup x = some d → ((N "j", .int (j + 1)) :: rhoS i j e a M U X Y).lookup x = some d := by
  refine sub_all ?_
  simp only [rhoS, List.forall_mem_cons]
  refine ⟨?_, ?_, ?_, ?_, ?_, ?_, ?_, ?_, fun _ h => by cases h⟩ <;> kernel_rfl
theorem nameI : (isVar scS (N "expected") && goodName (N "expected") && (isVar scS (N "i") && goodName (N "i") && isOwn scS (N "i")) && (isVar scS (N "e") && goodName (N "e"))) = true := by kernel_rfl
theorem nameJ : (isVar scS (N "actual") && goodName (N "actual") && (isVar scS (N "j") && goodName (N "j") && isOwn scS (N "j")) && (isVar scS (N "a") && goodName (N "a"))) = true := by kernel_rfl
theorem own_ {x : Str} (h : x ∈ sNames) : isOwn scS x = true ∧ isVar scS x = true ∧ goodName x = true := by
  have := List.all_eq_true.mp sl_own x h
  simpa [Bool.and_eq_true, and_assoc] using this

theorem S_i (i j : Int) (e a : Str) (M U : Value) (X Y : D) : (rhoS i j e a M U X Y).lookup (N "i") = some (.int i) := by kernel_rfl
theorem S_j (i j : Int) (e a : Str) (M U : Value) (X Y : D) : (rhoS i j e a M U X Y).lookup (N "j") = some (.int j) := by kernel_rfl
theorem S_e (i j : Int) (e a : Str) (M U : Value) (X Y : D) : (rhoS i j e a M U X Y).lookup (N "e") = some (.str e) := by kernel_rfl
theorem S_a (i j : Int) (e a : Str) (M U : Value) (X Y : D) : (rhoS i j e a M U X Y).lookup (N "a") = some (.str a) := by kernel_rfl
theorem S_X (i j : Int) (e a : Str) (M U : Value) (X Y : D) : (rhoS i j e a M U X Y).lookup (N "expected") = some X := by kernel_rfl
theorem S_Y (i j : Int) (e a : Str) (M U : Value) (X Y : D) : (rhoS i j e a M U X Y).lookup (N "actual") = some Y := by kernel_rfl
theorem S_M (i j : Int) (e a : Str) (M U : Value) (X Y : D) : (rhoS i j e a M U X Y).lookup (N "missing") = some (.val M) := by kernel_rfl
theorem S_U (i j : Int) (e a : Str) (M U : Value) (X Y : D) : (rhoS i j e a M U X Y).lookup (N "unexpected") = some (.val U) := by kernel_rfl
theorem L_i (i j : Int) (M U : Value) (X Y : D) : (rhoL i j M U X Y).lookup (N "i") = some (.int i) := by kernel_rfl
theorem L_j (i j : Int) (M U : Value) (X Y : D) : (rhoL i j M U X Y).lookup (N "j") = some (.int j) := by kernel_rfl
theorem L_X (i j : Int) (M U : Value) (X Y : D) : (rhoL i j M U X Y).lookup (N "expected") = some X := by kernel_rfl
theorem L_Y (i j : Int) (M U : Value) (X Y : D) : (rhoL i j M U X Y).lookup (N "actual") = some Y := by kernel_rfl
theorem L_M (i j : Int) (M U : Value) (X Y : D) : (rhoL i j M U X Y).lookup (N "missing") = some (.val M) := by kernel_rfl
theorem L_U (i j : Int) (M U : Value) (X Y : D) : (rhoL i j M U X Y).lookup (N "unexpected") = some (.val U) := by kernel_rfl

/-- the strings are good, the lists short -/
structure GoodL (EL AL : List Str) : Prop where
  e : ∀ y ∈ EL, PyData.strOk y = true
  a : ∀ y ∈ AL, PyData.strOk y = true
  le : EL.length ≤ 400
  la : AL.length ≤ 400

section
variable {v : World} {mean : ExcName → Option Value} {mg mb : Str → Option Value} {n : Nat} {k : Kit} {A A' : Around} {hs h0 : Heap} {O : Addr → Prop} {env : Env} {sc : Scope} {ρ : Rho} {s : Shared} {d : D} {E : Value → Shared → Prop}
  {outer : List Env} {M0 U0 : Addr} {ms us : List Str} {EL AL : List Str} {i j : Nat} {e a : Str} {I : Heap → Prop} {Q : Flow → Shared → Prop}

noncomputable abbrev StS (v : World) (mean : ExcName → Option Value) (mg mb : Str → Option Value) (n : Nat) (A : Around) (hs h0 : Heap) (env : Env) (outer : List Env) (M0 U0 : Addr) (EL AL : List Str) (e a : Str) (i j : Nat) (ms us : List Str) (s : Shared) : Prop :=
  St v mean mg mb n A hs h0 env outer M0 U0 (rhoS i j e a (.ref M0) (.ref U0) (lstS EL) (lstS AL)) ms us s
noncomputable abbrev StL (v : World) (mean : ExcName → Option Value) (mg mb : Str → Option Value) (n : Nat) (A : Around) (hs h0 : Heap) (env : Env) (outer : List Env) (M0 U0 : Addr) (EL AL : List Str) (i j : Nat) (ms us : List Str) (s : Shared) : Prop :=
  St v mean mg mb n A hs h0 env outer M0 U0 (rhoL i j (.ref M0) (.ref U0) (lstS EL) (lstS AL)) ms us s

/-- what holds while another may be flying -/
structure Inv (hs : Heap) (A' : Around) (I : Heap → Prop) : Prop where
  m : ∀ h, I h → MayRaise hs A' h
  k : ∀ h h' L (m : Str → Option Value), I h → h.Ns L m → (∀ b o, b ≠ L → h.get? b = some o → h'.get? b = some o) → I h'

theorem skipI {x : Expr} {st : Stmt} {p : Pos} (G : GoodL EL AL) (hst : st = incS st (N "i")) (P : Pack h0 hs [] outer A env) (hfr : A'.frames = some (env :: outer)) (hu : A'.units + 80 < cLine) (hI : Inv hs A' I) (hcells : env.cells = []) (he : PyData.strOk e = true)
    (S : StS v mean mg mb n A hs h0 env outer M0 U0 EL AL e a i j ms us s) (I0 : I s.heap) (hi0 : i ≤ EL.length)
    (hq : ∀ h' tk i', StS v mean mg mb n A hs h0 env outer M0 U0 EL AL e a i' j ms us { s with heap := h', toks := tk } → EL.drop i' = dropEq e (EL.drop i) → i' ≤ EL.length → I h' → Q .next { s with heap := h', toks := tk })
    (hx : ∀ h' tk i' c2 e1, StS v mean mg mb n A hs h0 env outer M0 U0 EL AL e a i' j ms us { s with heap := h', toks := tk } → EL.drop i' = dropEq e (EL.drop i) → i' ≤ EL.length → EL.drop i' = [] → (A'.handled = none → c2 = .none) → Fly hs "IndexError" c2 e1 h' → Tb e1 h' → E (.ref e1) { s with heap := h', toks := tk }) :
    wpAny (pwm v) A' (exec (.While (cmpE x (N "expected") (N "i") (N "e")) [st] [] p) env) Q E s := by
  refine wpAny_While (skip_ (fun i => rhoS i j e a (.ref M0) (.ref U0) (lstS EL) (lstS AL)) nameI (fun i => S_X ..) (fun i => S_i ..) (fun i => S_e ..) (fun i => by rw [show ((i + 1 : Nat) : Int) = (i : Int) + 1 from rfl]; exact sub_i _ _ _ _ _ _ _ _) hst P hfr hu hI.m hI.k hcells (by have := G.le; lia) G.e he S I0 hi0 hq ?_)
  intro h' tk i' c2 e1 S' b1 b2 b3 b4 f t
  obtain ⟨ff, ns⟩ := S'.fenv P
  exact came_ (Fl := FOf (env :: outer)) f t fun h'' f' V' t' => hx h'' tk i' c2 e1 (S'.vol (h' := h'') (tk := tk) P V' S'.C.tk) b1 b2 b3 b4 f' t'
theorem skipJ {x : Expr} {st : Stmt} {p : Pos} (G : GoodL EL AL) (hst : st = incS st (N "j")) (P : Pack h0 hs [] outer A env) (hfr : A'.frames = some (env :: outer)) (hu : A'.units + 80 < cLine) (hI : Inv hs A' I) (hcells : env.cells = []) (ha : PyData.strOk a = true)
    (S : StS v mean mg mb n A hs h0 env outer M0 U0 EL AL e a i j ms us s) (I0 : I s.heap) (hj0 : j ≤ AL.length)
    (hq : ∀ h' tk j', StS v mean mg mb n A hs h0 env outer M0 U0 EL AL e a i j' ms us { s with heap := h', toks := tk } → AL.drop j' = dropEq a (AL.drop j) → j' ≤ AL.length → I h' → Q .next { s with heap := h', toks := tk })
    (hx : ∀ h' tk j' c2 e1, StS v mean mg mb n A hs h0 env outer M0 U0 EL AL e a i j' ms us { s with heap := h', toks := tk } → AL.drop j' = dropEq a (AL.drop j) → j' ≤ AL.length → AL.drop j' = [] → (A'.handled = none → c2 = .none) → Fly hs "IndexError" c2 e1 h' → Tb e1 h' → E (.ref e1) { s with heap := h', toks := tk }) :
    wpAny (pwm v) A' (exec (.While (cmpE x (N "actual") (N "j") (N "a")) [st] [] p) env) Q E s := by
  refine wpAny_While (skip_ (fun j => rhoS i j e a (.ref M0) (.ref U0) (lstS EL) (lstS AL)) nameJ (fun i => S_Y ..) (fun i => S_j ..) (fun i => S_a ..) (fun i => by rw [show ((i + 1 : Nat) : Int) = (i : Int) + 1 from rfl]; exact sub_j _ _ _ _ _ _ _ _) hst P hfr hu hI.m hI.k hcells (by have := G.la; lia) G.a ha S I0 hj0 hq ?_)
  intro h' tk i' c2 e1 S' b1 b2 b3 b4 f t
  obtain ⟨ff, ns⟩ := S'.fenv P
  exact came_ (Fl := FOf (env :: outer)) f t fun h'' f' V' t' => hx h'' tk i' c2 e1 (S'.vol (h' := h'') (tk := tk) P V' S'.C.tk) b1 b2 b3 b4 f' t'
end
end Mine
end
noncomputable section
open PySem PySem.W PyProof.Rows PySem.Challenge PySem.SeqAt
set_option maxRecDepth 100000
set_option linter.unusedVariables false
namespace Mine

section
variable {v : World} {mean : ExcName → Option Value} {mg mb : Str → Option Value} {n : Nat} {k : Kit} {A A' : Around} {hs h0 : Heap} {O : Addr → Prop} {env : Env} {sc : Scope} {ρ : Rho} {s : Shared} {d : D} {E : Value → Shared → Prop}
  {outer : List Env} {M0 U0 : Addr} {ms us : List Str} {EL AL : List Str} {i j : Nat} {e a : Str} {I : Heap → Prop} {Q : Flow → Shared → Prop}

theorem appM {x : Expr} {p : Pos} (W : Own2 hs h0 M0 U0) (S : StS v mean mg mb n A hs h0 env outer M0 U0 EL AL e a i j ms us s) (hsz : ms.length ≤ 1000) (hl : ((atE 0 x).pos.endLine == x.pos.line) = true)
    (hq : ∀ h', StS v mean mg mb n A hs h0 env outer M0 U0 EL AL e a i j (ms ++ [e]) us { s with heap := h' } → Q .next { s with heap := h' }) :
    wpAny (pwm v) A' (exec (.Expr (appE x (N "missing") (N "append") (N "e")) p) env) Q E s := by
  obtain ⟨_, v1, g1⟩ := own_ (x := N "missing") (by decide)
  obtain ⟨_, v2, g2⟩ := own_ (x := N "e") (by decide)
  exact append_X S.C (.inl rfl) W.nm S.lm hsz v1 g1 (S_M ..) v2 g2 (S_e ..) hl fun h' kk L' C' => hq h' ⟨C', L', S.lu.keep fun o q => kk _ o (Ne.symm W.mu) q, S.J.write (.inr W.hm) W.nm kk⟩
theorem appU {x : Expr} {p : Pos} (W : Own2 hs h0 M0 U0) (S : StS v mean mg mb n A hs h0 env outer M0 U0 EL AL e a i j ms us s) (hsz : us.length ≤ 1000) (hl : ((atE 0 x).pos.endLine == x.pos.line) = true)
    (hq : ∀ h', StS v mean mg mb n A hs h0 env outer M0 U0 EL AL e a i j ms (us ++ [a]) { s with heap := h' } → Q .next { s with heap := h' }) :
    wpAny (pwm v) A' (exec (.Expr (appE x (N "unexpected") (N "append") (N "a")) p) env) Q E s := by
  obtain ⟨_, v1, g1⟩ := own_ (x := N "unexpected") (by decide)
  obtain ⟨_, v2, g2⟩ := own_ (x := N "a") (by decide)
  exact append_X S.C (.inr rfl) W.nu S.lu hsz v1 g1 (S_U ..) v2 g2 (S_a ..) hl fun h' kk L' C' => hq h' ⟨C', S.lm.keep fun o q => kk _ o W.mu q, L', S.J.write (.inr W.hu) W.nu kk⟩
theorem incI {st : Stmt} (hst : st = incS st (N "i")) (P : Pack h0 hs [] outer A env) (S : StS v mean mg mb n A hs h0 env outer M0 U0 EL AL e a i j ms us s)
    (hq : ∀ h' tk, StS v mean mg mb n A hs h0 env outer M0 U0 EL AL e a (i + 1) j ms us { s with heap := h', toks := tk } → KeepBut env (mineOf env) s.heap h' → Q .next { s with heap := h', toks := tk }) : wpAny (pwm v) A' (exec st env) Q E s := by
  obtain ⟨o2, v2, g2⟩ := own_ (x := N "i") (by decide)
  rw [hst]
  exact inc_ S.C v2 o2 g2 (S_i ..) fun h3 t3 C3 kb => hq h3 t3 ((S.keepB P C3 kb).sub (by rw [show ((i + 1 : Nat) : Int) = (i : Int) + 1 from rfl]; exact sub_i _ _ _ _ _ _ _ _)) kb
theorem incJ {st : Stmt} (hst : st = incS st (N "j")) (P : Pack h0 hs [] outer A env) (S : StS v mean mg mb n A hs h0 env outer M0 U0 EL AL e a i j ms us s)
    (hq : ∀ h' tk, StS v mean mg mb n A hs h0 env outer M0 U0 EL AL e a i (j + 1) ms us { s with heap := h', toks := tk } → KeepBut env (mineOf env) s.heap h' → Q .next { s with heap := h', toks := tk }) : wpAny (pwm v) A' (exec st env) Q E s := by
  obtain ⟨o2, v2, g2⟩ := own_ (x := N "j") (by decide)
  rw [hst]
  exact inc_ S.C v2 o2 g2 (S_j ..) fun h3 t3 C3 kb => hq h3 t3 ((S.keepB P C3 kb).sub (by rw [show ((j + 1 : Nat) : Int) = (j : Int) + 1 from rfl]; exact sub_j _ _ _ _ _ _ _ _)) kb
theorem extM {x : Expr} {p : Pos} (G : GoodL EL AL) (W : Own2 hs h0 M0 U0) (S : StL v mean mg mb n A hs h0 env outer M0 U0 EL AL i j ms us s) (hi : i ≤ EL.length) (hsz : ms.length ≤ 1000) (hl : ((atE 0 x).pos.endLine == x.pos.line) = true)
    (hq : ∀ h' tk, StL v mean mg mb n A hs h0 env outer M0 U0 EL AL i j (ms ++ EL.drop i) us { s with heap := h', toks := tk } → Q .next { s with heap := h', toks := tk }) :
    wpAny (pwm v) A' (exec (.Expr (extE x (N "missing") (N "extend") (N "expected") (N "i")) p) env) Q E s := by
  obtain ⟨_, v1, g1⟩ := own_ (x := N "missing") (by decide)
  obtain ⟨_, v2, g2⟩ := own_ (x := N "expected") (by decide)
  obtain ⟨_, v3, g3⟩ := own_ (x := N "i") (by decide)
  have := G.le
  exact extend_X S.C (.inl rfl) W.nm S.lm hsz (by lia) (by lia) v1 g1 (L_M ..) v2 g2 (L_X ..) v3 g3 (L_i ..) hl fun h' tk kk L' C' => hq h' tk ⟨C', L', S.lu.keep fun o q => kk _ o (Ne.symm W.mu) q, S.J.write (.inr W.hm) W.nm kk⟩
theorem extU {x : Expr} {p : Pos} (G : GoodL EL AL) (W : Own2 hs h0 M0 U0) (S : StL v mean mg mb n A hs h0 env outer M0 U0 EL AL i j ms us s) (hi : j ≤ AL.length) (hsz : us.length ≤ 1000) (hl : ((atE 0 x).pos.endLine == x.pos.line) = true)
    (hq : ∀ h' tk, StL v mean mg mb n A hs h0 env outer M0 U0 EL AL i j ms (us ++ AL.drop j) { s with heap := h', toks := tk } → Q .next { s with heap := h', toks := tk }) :
    wpAny (pwm v) A' (exec (.Expr (extE x (N "unexpected") (N "extend") (N "actual") (N "j")) p) env) Q E s := by
  obtain ⟨_, v1, g1⟩ := own_ (x := N "unexpected") (by decide)
  obtain ⟨_, v2, g2⟩ := own_ (x := N "actual") (by decide)
  obtain ⟨_, v3, g3⟩ := own_ (x := N "j") (by decide)
  have := G.la
  exact extend_X S.C (.inr rfl) W.nu S.lu hsz (by lia) (by lia) v1 g1 (L_U ..) v2 g2 (L_Y ..) v3 g3 (L_j ..) hl fun h' tk kk L' C' => hq h' tk ⟨C', S.lm.keep fun o q => kk _ o W.mu q, L', S.J.write (.inr W.hu) W.nu kk⟩

/-- where a turn stands -/
structure At (v : World) (mean : ExcName → Option Value) (mg mb : Str → Option Value) (n : Nat) (A : Around) (hs h0 : Heap) (env : Env) (outer : List Env) (M0 U0 : Addr) (EL AL : List Str) (i j : Nat) (ms us : List Str) (s0 s : Shared) : Prop where
  sm : ∃ h tk, s = { s0 with heap := h, toks := tk }
  S : StL v mean mg mb n A hs h0 env outer M0 U0 EL AL i j ms us s
  bi : i ≤ EL.length
  bj : j ≤ AL.length
  bm : ms.length + (EL.drop i).length ≤ 900
  bu : us.length + (AL.drop j).length ≤ 900

noncomputable def Ends (v : World) (mean : ExcName → Option Value) (mg mb : Str → Option Value) (n : Nat) (A : Around) (hs h0 : Heap) (env : Env) (outer : List Env) (M0 U0 : Addr) (EL AL : List Str) (i j : Nat) (ms us : List Str) (s0 : Shared) (x : Value) (s : Shared) : Prop :=
  ∃ e1 c2 i' j' ms' us', x = .ref e1 ∧ At v mean mg mb n A hs h0 env outer M0 U0 EL AL i' j' ms' us' s0 s ∧ Fly hs "IndexError" c2 e1 s.heap ∧ ∀ k, sld (k + 2) (EL.drop i) (AL.drop j) ms us = some (ms' ++ EL.drop i', us' ++ AL.drop j')
noncomputable def GoesOn (v : World) (mean : ExcName → Option Value) (mg mb : Str → Option Value) (n : Nat) (A : Around) (hs h0 : Heap) (env : Env) (outer : List Env) (M0 U0 : Addr) (EL AL : List Str) (i j : Nat) (ms us : List Str) (s0 : Shared) (f : Flow) (s : Shared) : Prop :=
  f = .next ∧ ∃ i' j' ms' us', At v mean mg mb n A hs h0 env outer M0 U0 EL AL i' j' ms' us' s0 s ∧ (∀ k, sld (k + 1) (EL.drop i) (AL.drop j) ms us = sld k (EL.drop i') (AL.drop j') ms' us') ∧ (EL.drop i').length + (AL.drop j').length < (EL.drop i).length + (AL.drop j).length

theorem sld_nil1 (k : Nat) (A m u : List Str) : sld (k + 1) [] A m u = some (m ++ [], u ++ A) := by cases A <;> rfl
theorem sld_nil2 (k : Nat) (E m u : List Str) : sld (k + 1) E [] m u = some (m ++ E, u ++ []) := by cases E <;> rfl
theorem sld_cons (k : Nat) (e a : Str) (E A m u : List Str) : sld (k + 1) (e :: E) (a :: A) m u = (if decide (e.cps.toList < a.cps.toList) then sld k (dropEq e E) (a :: A) (m ++ [e]) u
    else if decide (a.cps.toList < e.cps.toList) then sld k (e :: E) (dropEq a A) m (u ++ [a]) else sld k (dropEq e E) (dropEq a A) m u) := rfl
end
end Mine
end
noncomputable section
open PySem PySem.W PyProof.Rows PySem.Challenge PySem.SeqAt
set_option maxRecDepth 100000
set_option linter.unusedVariables false
namespace Mine

theorem Fly.keepN {hs h h' : Heap} {X : String} {c2 : Value} {e L : Addr} {m : Str → Option Value} (F : Fly hs X c2 e h) (ns : h.Ns L m) (hk : ∀ b o, b ≠ L → h.get? b = some o → h'.get? b = some o) : Fly hs X c2 e h' := by
  obtain ⟨oL, es, ep, hL, hdL, _⟩ := ns
  have key : ∀ b o vs, h.get? b = some o → o.data = .fields vs → h'.get? b = some o := fun b o vs q hd => hk b o (fun z => by subst z; rw [hL] at q; cases q; rw [hdL] at hd; cases hd) q
  obtain ⟨hne, oe, vs, he, hc, hd, hsz, hc2, h1⟩ := F
  refine ⟨hne, oe, vs, key _ _ _ he hd, hc, hd, hsz, hc2, ?_⟩
  rcases h1 with h1 | ⟨T, oT, ts, x3, h1, hTn, hTe, hT, hdT, h3, hx3⟩
  · exact .inl h1
  · exact .inr ⟨T, oT, ts, x3, h1, hTn, hTe, key _ _ _ hT hdT, hdT, h3, hx3⟩
theorem Tb.keepN {h h' : Heap} {e L : Addr} {m : Str → Option Value} (F : Tb e h) (ns : h.Ns L m) (hk : ∀ b o, b ≠ L → h.get? b = some o → h'.get? b = some o) : Tb e h' := by
  obtain ⟨oL, es, ep, hL, hdL, _⟩ := ns
  obtain ⟨oe, vs, T, he, hd, h1⟩ := F
  exact ⟨oe, vs, T, hk _ _ (fun z => by subst z; rw [hL] at he; cases he; rw [hdL] at hd; cases hd) he, hd, h1⟩

section
variable {v : World} {mean : ExcName → Option Value} {mg mb : Str → Option Value} {n : Nat} {k : Kit} {A A' : Around} {hs h0 : Heap} {O : Addr → Prop} {env : Env} {sc : Scope} {ρ : Rho} {s s0 : Shared} {d : D} {E : Value → Shared → Prop}
  {outer : List Env} {M0 U0 : Addr} {ms us : List Str} {EL AL : List Str} {i j : Nat} {e a : Str} {I : Heap → Prop} {Q : Flow → Shared → Prop}

theorem mark_handled (A : Around) (e : Addr) : (A.mark (some (.ref e))).handled = some (.ref e) := by
  simp [Around.mark]
theorem mark_frames (A : Around) (e : Addr) : (A.mark (some (.ref e))).frames = A.frames := rfl
theorem mark_units (A : Around) (e : Addr) : (A.mark (some (.ref e))).units = A.units := rfl

theorem storeD {x : Str} {val : Value} {Q : Unit → Shared → Prop} (C : Cx v mean mg mb n A hs O (mineOf env) env sc ρ s) (hx : isOwn sc x = true) (rv : Rep s.heap O d val)
    (h : ∀ h' tk, Cx v mean mg mb n A hs O (mineOf env) env sc ((x, d) :: ρ) { s with heap := h', toks := tk } → KeepBut env (mineOf env) s.heap h' → Q () { s with heap := h', toks := tk }) : wpAny (pwm v) A' (storeName env x val) Q E s := by
  refine storeK C.er (isOwn_mine hx C.scp) rv fun h' tk X _ kb ht => ?_
  rw [upd_eq] at X
  exact h h' tk ⟨C.room, C.bs0, X, C.scp, ob_after C.ob X (fun _ => trivial) kb, ht C.tk⟩ kb

theorem noteCame_ {X : String} {c2 : Value} {e1 : Addr} (P : Pack h0 hs [] outer A env) (hfr : A'.frames = some (env :: outer)) (S : St v mean mg mb n A hs h0 env outer M0 U0 ρ ms us s) (f : Fly hs X c2 e1 s.heap)
    (h : ∀ h', St v mean mg mb n A hs h0 env outer M0 U0 ρ ms us { s with heap := h' } → Fly hs X c2 e1 h' → E (.ref e1) { s with heap := h' }) : notedBy (pwm v) A' env (cameBackBy (pwm v) A env E) (.ref e1) s := by
  obtain ⟨ff, ns⟩ := S.fenv P
  unfold notedBy
  refine note_ hfr ff P.G.own S.stay f fun h6 f6 V6 t6 => ?_
  refine came_ (s := { s with heap := h6 }) (Fl := FOf (env :: outer)) f6 t6 fun h7 f7 V7 t7 => ?_
  exact h h7 (S.vol (h' := h7) (tk := s.toks) P (V6.trans V7) S.C.tk) f7

theorem body_ (G : GoodL EL AL) (W : Own2 hs h0 M0 U0) (P : Pack h0 hs [] outer A env) (hn : 6 ≤ n) (hcells : env.cells = []) (T : At v mean mg mb n A hs h0 env outer M0 U0 EL AL i j ms us s0 s) :
    wpAny (pwm v) A (execs [b0, b1, b2] env) (GoesOn v mean mg mb n A hs h0 env outer M0 U0 EL AL i j ms us s0) (Ends v mean mg mb n A hs h0 env outer M0 U0 EL AL i j ms us s0) s := by
  refine wpAny_hide2 fun Q E hQ hE => ?_
  obtain ⟨⟨H, TK, rfl⟩, S, bi, bj, bm, bu⟩ := T
  have hA := S.C.room.hd
  have hu : A.units + 80 < cLine := by have := S.C.room.units; lia
  have hR : ∀ h, MayRaise hs A h := fun h => .inl hA
  have hI : Inv hs A (fun _ => True) := ⟨fun h _ => hR h, fun _ _ _ _ _ _ _ => trivial⟩
  have hle := G.le
  have hla := G.la
  obtain ⟨_, vX, gX⟩ := own_ (x := N "expected") (by decide)
  obtain ⟨_, vY, gY⟩ := own_ (x := N "actual") (by decide)
  obtain ⟨oi, vi, gi⟩ := own_ (x := N "i") (by decide)
  obtain ⟨oj, vj, gj⟩ := own_ (x := N "j") (by decide)
  obtain ⟨oe, ve, ge⟩ := own_ (x := N "e") (by decide)
  obtain ⟨oa, va, ga⟩ := own_ (x := N "a") (by decide)
  -- the first item
  refine wpAny_execs_cons ?_
  rw [sl_b0]
  refine wpAny_Assign_Name (idx_ S.C (hR _) vX gX vi gi (L_X ..) (L_i ..) (by lia) (by lia) (fun e val hy rv => ?_) fun hge h' tk' e1 c2 hc2 f kk ht => ?_) rfl
  rotate_left
  · have hd : EL.drop i = [] := List.drop_eq_nil_of_le hge
    refine hE _ _ ⟨e1, c2, i, j, ms, us, rfl, ⟨⟨_, _, rfl⟩, S.keeps (s' := { s0 with heap := h', toks := tk' }) (kpm (s := { s0 with heap := H, toks := TK }) kk fun _ => ht), bi, bj, bm, bu⟩, f, fun k => by rw [hd, sld_nil1]⟩
  have hlt : i < EL.length := by
    rcases Nat.lt_or_ge i EL.length with h | h
    · exact h
    · rw [List.getElem?_eq_none h] at hy; cases hy
  have hEe : EL.drop i = e :: EL.drop (i + 1) := by
    rw [List.getElem?_eq_getElem hlt] at hy
    rw [← Option.some.inj hy]
    exact List.drop_eq_getElem_cons hlt
  have hoke : PyData.strOk e = true := G.e e (List.mem_of_getElem? hy)
  refine storeD S.C oe rv fun h1 t1 C1 kb1 => ?_
  have S1 := S.keepB P C1 kb1
  -- the second item
  refine wpAny_execs_cons ?_
  rw [sl_b1]
  refine wpAny_Assign_Name (idx_ S1.C (hR _) vY gY vj gj (sub_e _ _ _ _ _ _ _ _ _ (L_Y ..)) (sub_e _ _ _ _ _ _ _ _ _ (L_j ..)) (by lia) (by lia) (fun a val2 hy2 rv2 => ?_) fun hge h' tk' e1 c2 hc2 f kk ht => ?_) rfl
  rotate_left
  · have hd : AL.drop j = [] := List.drop_eq_nil_of_le hge
    refine hE _ _ ⟨e1, c2, i, j, ms, us, rfl, ⟨⟨_, _, rfl⟩, St.sub (S1.keeps (s' := { s0 with heap := h', toks := tk' }) (kpm (s := { s0 with heap := h1, toks := t1 }) kk fun _ => ht)) (sub_e _ _ _ _ _ _ _), bi, bj, bm, bu⟩, f, fun k => by rw [hd, sld_nil2]⟩
  have hlt2 : j < AL.length := by
    rcases Nat.lt_or_ge j AL.length with h | h
    · exact h
    · rw [List.getElem?_eq_none h] at hy2; cases hy2
  have hAa : AL.drop j = a :: AL.drop (j + 1) := by
    rw [List.getElem?_eq_getElem hlt2] at hy2
    rw [← Option.some.inj hy2]
    exact List.drop_eq_getElem_cons hlt2
  have hoka : PyData.strOk a = true := G.a a (List.mem_of_getElem? hy2)
  have lE : (EL.drop i).length = (EL.drop (i + 1)).length + 1 := by rw [hEe]; rfl
  have lA : (AL.drop j).length = (AL.drop (j + 1)).length + 1 := by rw [hAa]; rfl
  have dE := dropEq_len e (EL.drop (i + 1))
  have dA := dropEq_len a (AL.drop (j + 1))
  refine storeD S1.C oa rv2 fun h2 t2 C2 kb2 => ?_
  have S2 : StS v mean mg mb n A hs h0 env outer M0 U0 EL AL e a i j ms us { s0 with heap := h2, toks := t2 } := St.sub (S1.keepB P C2 kb2) (sub_ea _ _ _ _ _ _ _ _)
  -- the comparison
  refine wpAny_execs_cons ?_
  rw [sl_b2]
  refine wpAny_If (wpAny_mono ((sound 6).1.t (g_b2 ..) (S2.C.le hn)) (fun b s₂ ⟨hb, hk⟩ => ?_) fun _ _ f => f.elim)
  have S3 := S2.keeps hk
  obtain ⟨h3, t3, rfl, _⟩ := hk.1
  subst hb
  cases hb : decide (e.cps.toList < a.cps.toList) with
  | true =>
    simp only [if_true]
    refine wpAny_hide fun K hK => ?_
    refine wpAny_execs_cons ?_
    rw [sl_p0]
    refine appM W S3 (by lia) sl_lines.1 fun h4 S4 => ?_
    refine wpAny_execs_cons (incI g_p1 P S4 fun h5 t5 S5 _ => ?_)
    refine wpAny_execs_cons ?_
    rw [sl_p2]
    refine skipI G g_p2b P P.G.fr hu hI hcells hoke S5 trivial (by lia) (fun h6 t6 i' S6 hd hi' _ => ?_) (fun h6 t6 i' c2 e1 S6 hd hi' hnil hc f t => ?_)
    · refine wpAny_execs_nil (hK _ _ <| wpAny_execs_nil (hQ _ _ ⟨rfl, i', j, ms ++ [e], us, ⟨⟨_, _, rfl⟩, St.sub S6 (sub_L _ _ _ _ _ _ _ _), hi', bj, ?_, bu⟩, fun k => ?_, ?_⟩))
      · rw [hd, List.length_append, List.length_singleton]; lia
      · rw [hEe, hAa, sld_cons, hb, if_pos rfl, hd]
      · rw [hd]; lia
    · refine hE _ _ ⟨e1, c2, i', j, ms ++ [e], us, rfl, ⟨⟨_, _, rfl⟩, St.sub S6 (sub_L _ _ _ _ _ _ _ _), hi', bj, ?_, bu⟩, f, fun k => ?_⟩
      · rw [hd, List.length_append, List.length_singleton]; lia
      · rw [hEe, hAa, sld_cons, hb, if_pos rfl, ← hd, hnil, sld_nil1]
  | false =>
    simp only [Bool.false_eq_true, if_false]
    refine wpAny_execs_cons ?_
    rw [sl_q9]
    refine wpAny_If (wpAny_mono ((sound 6).1.t (g_q9 ..) (S3.C.le hn)) (fun b s₂ ⟨hb2, hk⟩ => ?_) fun _ _ f => f.elim)
    have S3' := S3.keeps hk
    obtain ⟨h3', t3', rfl, _⟩ := hk.1
    subst hb2
    cases hb2 : decide (a.cps.toList < e.cps.toList) with
    | true =>
      simp only [if_true]
      refine wpAny_hide fun K hK => ?_
      refine wpAny_execs_cons ?_
      rw [sl_q0]
      refine appU W S3' (by lia) sl_lines.2.1 fun h4 S4 => ?_
      refine wpAny_execs_cons (incJ g_q1 P S4 fun h5 t5 S5 _ => ?_)
      refine wpAny_execs_cons ?_
      rw [sl_q2]
      refine skipJ G g_q2b P P.G.fr hu hI hcells hoka S5 trivial (by lia) (fun h6 t6 j' S6 hd hj' _ => ?_) (fun h6 t6 j' c2 e1 S6 hd hj' hnil hc f t => ?_)
      · refine wpAny_execs_nil (hK _ _ <| wpAny_execs_nil (wpAny_execs_nil (hQ _ _ ⟨rfl, i, j', ms, us ++ [a], ⟨⟨_, _, rfl⟩, St.sub S6 (sub_L _ _ _ _ _ _ _ _), bi, hj', bm, ?_⟩, fun k => ?_, ?_⟩)))
        · rw [hd, List.length_append, List.length_singleton]; lia
        · rw [hEe, hAa, sld_cons, hb, hb2, if_neg (by decide), if_pos rfl, hd]
        · rw [hd]; lia
      · refine hE _ _ ⟨e1, c2, i, j', ms, us ++ [a], rfl, ⟨⟨_, _, rfl⟩, St.sub S6 (sub_L _ _ _ _ _ _ _ _), bi, hj', bm, ?_⟩, f, fun k => ?_⟩
        · rw [hd, List.length_append, List.length_singleton]; lia
        · rw [hEe, hAa, sld_cons, hb, hb2, if_neg (by decide), if_pos rfl, ← hd, hnil, sld_nil2]
    | false =>
      simp only [Bool.false_eq_true, if_false]
      have hsl : ∀ k, sld (k + 1) (EL.drop i) (AL.drop j) ms us = sld k (dropEq e (EL.drop (i + 1))) (dropEq a (AL.drop (j + 1))) ms us := fun k => by
        rw [hEe, hAa, sld_cons, hb, hb2, if_neg (by decide), if_neg (by decide)]
      refine wpAny_hide fun K hK => ?_
      refine wpAny_execs_cons (incI g_r0 P S3' fun h4 t4 S4 _ => ?_)
      refine wpAny_execs_cons ?_
      rw [sl_r1]
      refine wpAny_Try_finally ?_
      refine wpAny_execs_cons ?_
      rw [sl_r1w]
      refine skipI G g_r1b P P.G.fr hu hI hcells hoke S4 trivial (by lia) (fun h6 t6 i' S6 hd hi' _ => ?_) (fun h6 t6 i' c2 e1 S6 hd hi' hnil hc f t => ?_)
      · refine wpAny_execs_nil (wpAny_execs_nil ?_)
        refine wpAny_execs_cons (incJ g_f0 P S6 fun h7 t7 S7 _ => ?_)
        refine wpAny_execs_cons ?_
        rw [sl_f1]
        refine skipJ G g_f1b P P.G.fr hu hI hcells hoka S7 trivial (by lia) (fun h8 t8 j' S8 hd2 hj' _ => ?_) (fun h8 t8 j' c2 e1 S8 hd2 hj' hnil hc f t => ?_)
        · refine wpAny_execs_nil (wpAny_execs_nil (hK _ _ <| wpAny_execs_nil (wpAny_execs_nil (hQ _ _ ⟨rfl, i', j', ms, us, ⟨⟨_, _, rfl⟩, St.sub S8 (sub_L _ _ _ _ _ _ _ _), hi', hj', ?_, ?_⟩, fun k => ?_, ?_⟩))))
          · rw [hd]; lia
          · rw [hd2]; lia
          · rw [hsl, hd, hd2]
          · rw [hd, hd2]; lia
        · refine noteCame_ P P.G.fr S8 f fun h9 S9 f9 => ?_
          refine hE _ _ ⟨e1, c2, i', j', ms, us, rfl, ⟨⟨_, _, rfl⟩, St.sub S9 (sub_L _ _ _ _ _ _ _ _), hi', hj', ?_, ?_⟩, f9, fun k => ?_⟩
          · rw [hd]; lia
          · rw [hd2]; lia
          · rw [hsl, ← hd, ← hd2, hnil, sld_nil2]
      · obtain ⟨ff, ns⟩ := S6.fenv P
        refine note_ (s := { s0 with heap := h6, toks := t6 }) P.G.fr ff P.G.own S6.stay f fun h7 f7 V7 _ => ?_
        have S7 := S6.vol (h' := h7) (tk := t6) P V7 S6.C.tk
        obtain ⟨ff7, ns7⟩ := S7.fenv P
        refine ⟨(fun q => by cases q), ?_⟩
        refine note_ (s := { s0 with heap := h7, toks := t6 }) P.G.fr ff7 P.G.own S7.stay f7 fun h8 f8 V8 T8 => ?_
        refine flight_ (s := { s0 with heap := h8, toks := t6 }) (Fl := FOf (env :: outer)) f8 fun h9 f9 V9 T9 => ?_
        have S9 := S7.vol (h' := h9) (tk := t6) P (V8.trans V9) S6.C.tk
        have f9 : Fly hs "IndexError" .none e1 h9 := hc hA ▸ f9
        have hI' : Inv hs (A.mark (some (.ref e1))) (fun h => Fly hs "IndexError" .none e1 h ∧ Tb e1 h) :=
          ⟨fun h q => .inr ⟨e1, _, mark_handled A e1, q.1⟩, fun h h' L m q ns hk => ⟨q.1.keepN ns hk, q.2.keepN ns hk⟩⟩
        refine wpAny_execs_cons (incJ (s := { s0 with heap := h9, toks := t6 }) g_f0 P S9 fun h10 t10 S10 kb => ?_)
        have I10 : Fly hs "IndexError" .none e1 h10 ∧ Tb e1 h10 := by
          obtain ⟨m, q⟩ := S9.C.er.ns
          exact hI'.k h9 h10 _ m ⟨f9, T9 T8⟩ q fun b o hb q => kb b o hb (fun y _ => by rw [hcells]; intro z; cases z) q
        refine wpAny_execs_cons ?_
        rw [sl_f1]
        refine skipJ (s := { s0 with heap := h10, toks := t10 }) G g_f1b P (A' := A.mark (some (.ref e1))) P.G.fr hu hI' hcells hoka S10 I10 (by lia) (fun h11 t11 j' S11 hd2 hj' I11 => ?_) (fun h11 t11 j' c3 e2 S11 hd2 hj' hnil2 hc3 f11 T11 => ?_)
        · refine wpAny_execs_nil ?_
          refine passOn_ (s := { s0 with heap := h11, toks := t11 }) (Fl := FOf (env :: outer)) I11.1 I11.2 fun h12 f12 V12 T12 => ?_
          have S12 := S11.vol (h' := h12) (tk := t11) P V12 S11.C.tk
          refine hE _ _ ⟨e1, _, i', j', ms, us, rfl, ⟨⟨_, _, rfl⟩, St.sub S12 (sub_L _ _ _ _ _ _ _ _), hi', hj', ?_, ?_⟩, f12, fun k => ?_⟩
          · rw [hd]; lia
          · rw [hd2]; lia
          · rw [hsl, ← hd, ← hd2, hnil, sld_nil1]
        · refine noteCame_ (s := { s0 with heap := h11, toks := t11 }) P P.G.fr S11 f11 fun h12 S12 f12 => ?_
          refine hE _ _ ⟨e2, c3, i', j', ms, us, rfl, ⟨⟨_, _, rfl⟩, St.sub S12 (sub_L _ _ _ _ _ _ _ _), hi', hj', ?_, ?_⟩, f12, fun k => ?_⟩
          · rw [hd]; lia
          · rw [hd2]; lia
          · rw [hsl, ← hd, ← hd2, hnil, sld_nil1]
end
end Mine
end
noncomputable section
open PySem PySem.W PyProof.Rows PySem.Challenge PySem.SeqAt
set_option maxRecDepth 100000
set_option linter.unusedVariables false
namespace Mine

section
variable {v : World} {mean : ExcName → Option Value} {mg mb : Str → Option Value} {n : Nat} {k : Kit} {A A' : Around} {hs h0 : Heap} {O : Addr → Prop} {env : Env} {sc : Scope} {ρ : Rho} {s s0 : Shared} {d : D} {E : Value → Shared → Prop}
  {outer : List Env} {M0 U0 : Addr} {ms us : List Str} {EL AL : List Str} {i j : Nat} {e a : Str} {I : Heap → Prop} {Q : Flow → Shared → Prop}

/-- a turn's end -/
noncomputable def Turned (v : World) (mean : ExcName → Option Value) (mg mb : Str → Option Value) (n : Nat) (A : Around) (hs h0 : Heap) (env : Env) (outer : List Env) (M0 U0 : Addr) (EL AL : List Str) (i j : Nat) (ms us : List Str) (s0 : Shared) (f : Flow) (s : Shared) : Prop :=
  GoesOn v mean mg mb n A hs h0 env outer M0 U0 EL AL i j ms us s0 f s ∨ (f = .brk ∧ ∃ i' j' ms' us', (∃ h tk, s = { s0 with heap := h, toks := tk }) ∧ StL v mean mg mb n A hs h0 env outer M0 U0 EL AL i' j' ms' us' s ∧ ∀ k, sld (k + 2) (EL.drop i) (AL.drop j) ms us = some (ms', us'))

theorem sturn_ (G : GoodL EL AL) (W : Own2 hs h0 M0 U0) (P : Pack h0 hs [] outer A env) (hn : 6 ≤ n) (hcells : env.cells = []) (T : At v mean mg mb n A hs h0 env outer M0 U0 EL AL i j ms us s0 s) :
    wpAny (pwm v) A (exec t3 env) (Turned v mean mg mb n A hs h0 env outer M0 U0 EL AL i j ms us s0) No s := by
  refine wpAny_hide fun Q hQ => ?_
  rw [sl_try]
  refine wpAny_Try_except (wpAny_mono (body_ G W P hn hcells T) (fun f s₁ hf => ?_) fun x s₁ hx => ?_)
  · obtain ⟨rfl, r⟩ := id hf
    exact wpAny_execs_nil (hQ _ _ (.inl hf))
  · obtain ⟨e1, c2, i', j', ms', us', rfl, ⟨⟨H, TK, rfl⟩, S, bi, bj, bm, bu⟩, f, hs1⟩ := hx
    obtain ⟨ff, ns⟩ := S.fenv P
    refine note_ (s := { s0 with heap := H, toks := TK }) P.G.fr ff P.G.own S.stay f fun h6 f6 V6 _ => ?_
    have S6 := S.vol (h' := h6) (tk := TK) P V6 S.C.tk
    refine flight_ (s := { s0 with heap := h6, toks := TK }) (Fl := FOf (env :: outer)) f6 fun h7 f7 V7 _ => ?_
    have S7 := S6.vol (h' := h7) (tk := TK) P V7 S.C.tk
    obtain ⟨f1, f2⟩ := free_B S7.C.bs free_IndexError
    have hgl : isGlob scS (N "IndexError") = true ∧ goodName (N "IndexError") = true := by
      have := sl_glob
      rwa [Bool.and_eq_true] at this
    refine wpAny_handleBy_builtin (b := true) F.isExc_IndexError F.notTuple_IndexError F.self_IndexError (builtX S7.C hgl.1 hgl.2 f1 (f2.trans boot_IndexError) ⟨rfl, ?_, ?_⟩)
    · obtain ⟨_, oe, vs, he, hc, _⟩ := f7
      exact ⟨oe, he, hc⟩
    · rw [if_pos rfl]
      refine flight_ (s := { s0 with heap := h7, toks := TK }) (Fl := FOf (env :: outer)) f7 fun h8 f8 V8 _ => ?_
      have S8 := S7.vol (h' := h8) (tk := TK) P V8 S.C.tk
      refine wpAny_execs_cons ?_
      rw [sl_h0]
      refine extM G W S8 bi (by lia) sl_lines.2.2.1 fun h9 t9 S9 => ?_
      refine wpAny_execs_cons ?_
      rw [sl_h1]
      refine extU G W S9 bj (by lia) sl_lines.2.2.2 fun h10 t10 S10 => ?_
      refine wpAny_execs_cons (wpAny_Break ?_)
      exact hQ _ _ (.inr ⟨rfl, i', j', _, _, ⟨_, _, rfl⟩, S10, hs1⟩)

theorem sloop (G : GoodL EL AL) (W : Own2 hs h0 M0 U0) (P : Pack h0 hs [] outer A env) (hn : 6 ≤ n) (hcells : env.cells = []) (S : StL v mean mg mb n A hs h0 env outer M0 U0 EL AL 0 0 [] [] s) {N0 : Nat} {r1 r2 : List Str} (hN : sld N0 EL AL [] [] = some (r1, r2)) (hN2 : EL.length + AL.length + 2 ≤ N0) :
    codeAny (pwm v) A (.whileLoop (valS (stAt 8 3)) [t3] [] env) (fun r s' => r = .ok .next ∧ ∃ h tk i' j', s' = { s with heap := h, toks := tk } ∧ StL v mean mg mb n A hs h0 env outer M0 U0 EL AL i' j' r1 r2 s') s := by
  rw [sl_w]
  refine codeAny_hide fun Q hQ => ?_
  obtain ⟨J, hJ⟩ : ∃ J : Nat → Shared → Prop, ∀ m s', J m s' ↔ (∃ i j ms us k, m = (EL.drop i).length + (AL.drop j).length ∧ At v mean mg mb n A hs h0 env outer M0 U0 EL AL i j ms us s s' ∧ m + 2 ≤ k ∧ sld k (EL.drop i) (AL.drop j) ms us = some (r1, r2)) := ⟨_, fun _ _ => Iff.rfl⟩
  refine codeAny_whileLoop J ?_ (EL.length + AL.length) ((hJ _ _).mpr ⟨0, 0, [], [], N0, rfl, ⟨⟨_, _, rfl⟩, S, by lia, by lia, by have := G.le; simp; lia, by have := G.la; simp; lia⟩, hN2, hN⟩)
  intro m s' hm
  obtain ⟨i, j, ms, us, k, rfl, T, hk, hsl⟩ := (hJ m s').mp hm
  clear hm
  obtain ⟨⟨H, TK, rfl⟩, S1, b1, b2, b3, b4⟩ := id T
  refine wpAny_isTrue_value (wpAny_Constant_bool (wpAny_truthy_bool ?_))
  rw [if_pos rfl]
  refine wpAny_execs_cons (no_mono (sturn_ G W P hn hcells T) fun f s₂ hf => ?_)
  rcases hf with ⟨rfl, i', j', ms', us', T', hstep, hlt⟩ | ⟨rfl, i', j', ms', us', ⟨h2, t2, rfl⟩, S', hend⟩
  · refine wpAny_execs_nil ⟨_, hlt, (hJ _ _).mpr ⟨i', j', ms', us', k - 1, rfl, T', by lia, ?_⟩⟩
    rw [← hstep (k - 1), show k - 1 + 1 = k by lia]
    exact hsl
  · refine hQ _ _ ⟨rfl, h2, t2, i', j', rfl, ?_⟩
    obtain ⟨e1, e2⟩ := Prod.mk.inj (Option.some.inj ((hend (k - 2)).symm.trans ((congrArg (fun q => sld q (EL.drop i) (AL.drop j) ms us) (by lia : k - 2 + 2 = k)).trans hsl)))
    exact e1 ▸ e2 ▸ S'
end
end Mine
end
noncomputable section
open PySem PySem.W PyProof.Rows PySem.Challenge PySem.SeqAt
set_option maxRecDepth 100000
set_option linter.unusedVariables false
namespace Mine

mutual
theorem Rep.apart {h : Heap} {O O' : Addr → Prop} (hO : ∀ a o, O' a → h.get? a = some o → O a) : ∀ {d : D} {v : Value}, Rep h O d v → Rep h O' d v
  | _, _, .none => .none
  | _, _, .bool b => .bool b
  | _, _, .int i t => .int i t
  | _, _, .str x t => .str x t
  | _, _, .lst ho hn hs => .lst ho (fun q => hn (hO _ _ q ho)) (Reps.apart hO hs)
  | _, _, .tup ho hn hs => .tup ho (fun q => hn (hO _ _ q ho)) (Reps.apart hO hs)
  | _, _, .ws => .ws
  | _, _, .ill => .ill
  | _, _, .val v => .val v
theorem Reps.apart {h : Heap} {O O' : Addr → Prop} (hO : ∀ a o, O' a → h.get? a = some o → O a) : ∀ {ds : List D} {vs : List Value}, Reps h O ds vs → Reps h O' ds vs
  | _, _, .nil => .nil
  | _, _, .cons a b => .cons (Rep.apart hO a) (Reps.apart hO b)
end

theorem sub_start (M U : Value) (X Y : D) : ∀ x d, (rhoL 0 0 M U X Y).lookup x = some d → ((N "unexpected", D.val U) :: (N "missing", .val M) :: (N "j", .int 0) :: (N "i", .int 0) :: [(N "expected", X), (N "actual", Y)]).lookup x = some d := by
  refine sub_all ?_
  simp only [rhoL, List.forall_mem_cons]
  refine ⟨?_, ?_, ?_, ?_, ?_, ?_, fun _ h => by cases h⟩ <;> kernel_rfl

section
variable {v : World} {mean : ExcName → Option Value} {mg mb : Str → Option Value} {n : Nat} {k : Kit} {A A' : Around} {hs h0 : Heap} {O : Addr → Prop} {env : Env} {sc : Scope} {ρ : Rho} {s s0 : Shared} {d : D} {E : Value → Shared → Prop}
  {outer : List Env} {M0 U0 : Addr} {ms us : List Str} {EL AL : List Str} {i j : Nat} {e a : Str} {I : Heap → Prop} {Q : Flow → Shared → Prop}

theorem Cx.pushOwn {mine : Str → Prop} (C : Cx v mean mg mb n A hs O mine env sc ρ s) (ob : Obj) (hf : (s.heap.push ob).get? s.heap.objs.size = some ob) :
    Cx v mean mg mb n A hs (fun a => O a ∨ a = s.heap.objs.size) mine env sc ρ { s with heap := s.heap.push ob } := by
  have kk : KeepsH s.heap (s.heap.push ob) := fun _ _ e => Heap.get?_push_of_some _ e
  have C' := C.keeps (kpp s ob)
  refine ⟨C'.room, C'.bs0, { C'.er with vars := fun y d e q => ?_ }, C'.scp, ?_, C'.tk⟩
  · obtain ⟨w, hv, hr⟩ := C.er.vars y d e q
    refine ⟨w, hv.keeps kk, Rep.keeps ?_ kk⟩
    exact hr.apart fun a o q e => q.elim id fun z => by subst z; exact absurd (Heap.lt_size e) (Nat.lt_irrefl _)
  · rintro b (hb | rfl)
    · obtain ⟨o, q⟩ := C.ob b hb
      exact ⟨o, kk _ _ q⟩
    · exact ⟨_, hf⟩

/-- a call of sorted_list_difference -/
theorem sld_call {vx va : Value} {r1 r2 : List Str} {N0 : Nat} {a : Addr} (hn : 6 ≤ n) (hm : mg (N "sorted_list_difference") = some (.ref a)) (R : Room (n + 1) A) (B : Bs v mean mg mb s.heap) (Bh : Bs v mean mg mb hs) (h0 : 0 < s.toks)
    (hfr : A.frames = some outer) (hst : ∀ b o, hs.get? b = some o → s.heap.get? b = some o) (hsz : hs.objs.size ≤ s.heap.objs.size) (hF : ∀ b ∈ FOf outer, ∃ m, s.heap.Ns b m) (ff : s.heap.FunFrames hs outer)
    (G : GoodL EL AL) (rx : Rep s.heap (fun _ => False) (lstS EL) vx) (ra : Rep s.heap (fun _ => False) (lstS AL) va) (hN : sld N0 EL AL [] [] = some (r1, r2)) (hN2 : EL.length + AL.length + 2 ≤ N0) :
    wpAny (pwm v) A (call (.ref a) [vx, va]) (fun val s' => ∃ h' tk, s' = { s with heap := h', toks := tk } ∧ Rep h' (fun _ => False) (.tup [lstS r1, lstS r2]) val ∧ VolE hs [] (FOf outer) s.heap h' ∧ 0 < tk) No s := by
  obtain ⟨hi, a', o, pm, code, doc, m1, m2, m3, m4⟩ := fn_of sl_fn B
  rw [hm] at m1
  obtain rfl : a = a' := by cases m1; rfl
  obtain ⟨oi, vi, gi⟩ := own_ (x := N "i") (by decide)
  obtain ⟨oj, vj, gj⟩ := own_ (x := N "j") (by decide)
  obtain ⟨oM, vM, gM⟩ := own_ (x := N "missing") (by decide)
  obtain ⟨oU, vU, gU⟩ := own_ (x := N "unexpected") (by decide)
  refine call_fn (O := fun _ => False) (kws := []) (kw := []) R B h0 (fun _ q => q.elim) hi m2 m3 m4 sl_plain (sl_bind (lstS EL) (lstS AL)) (.cons rx (.cons ra .nil)) rfl .nil fun env s₁ hks C hlo hfe => ?_
  have C : Cx v mean mg mb n (A.deeper env) s.heap (fun _ => False) (mineOf env) env scS [(N "expected", lstS EL), (N "actual", lstS AL)] s₁ := C
  obtain ⟨hfe, hcells⟩ := hfe
  have hcells : env.cells = [] := hcells.trans (sl_cells _)
  have newL : s.heap.get? env.locals = none := Heap.get?_none_of_le hlo
  have P : Pack s.heap hs [] outer (A.deeper env) env := by
    refine ⟨⟨hlo, fun y c _ e => by rw [hcells] at e; cases e⟩, hst, (fun b hb => by cases hb), hF, ff, ⟨Around.frames_deeper hfr, hfe, ?_⟩, newL⟩
    exact Heap.get?_none_of_le (Nat.le_trans hsz hlo)
  have C := C.rebase Bh hst hsz
  have J0 : VolE hs [] (FOf outer) s.heap s₁.heap := VolE.of_keeps (kph hks)
  obtain ⟨⟨hh1, tt1, rfl, _⟩, _⟩ := hks
  rw [sl_body]
  refine wpAny_hide fun Q hQ => ?_
  -- i = j = 0
  refine wpAny_execs_cons ?_
  rw [sl0]
  have C1 := C.keeps (s' := { s with heap := hh1, toks := tt1 + 1 }) (kpm (s := { s with heap := hh1, toks := tt1 }) (fun _ _ e => e) fun _ => Nat.succ_pos _)
  refine wpAny_Assign_two (wpAny_Constant_int ?_) rfl rfl
  refine wpAny_assign_Name (storeD (s := { s with heap := hh1, toks := tt1 + 1 }) (d := .int 0) C1 oi (.int _ _) fun h2 t2 C2 k2 => ?_)
  refine wpAny_assign_Name (storeD (s := { s with heap := h2, toks := t2 }) (d := .int 0) C2 oj (.int _ _) fun h3 t3 C3 k3 => ?_)
  have J3 : VolE hs [] (FOf outer) s.heap h3 := (J0.keepB P.Z P.st k2).keepB P.Z P.st k3
  -- missing = []
  refine wpAny_execs_cons ?_
  rw [sl1]
  refine wpAny_Assign_Name (wpAny_List (args_nil ⟨by decide, ?_⟩)) rfl
  have hM : (h3.push { cls := .type "list", data := .seq ([] : List Value).toArray }).get? h3.objs.size = some { cls := .type "list", data := .seq ([] : List Value).toArray } := Heap.get?_push_size _ rfl
  have C4 := C3.pushOwn _ hM
  have J4 : VolE hs [] (FOf outer) s.heap (h3.push { cls := .type "list", data := .seq ([] : List Value).toArray }) := J3.keeps fun _ _ e => Heap.get?_push_of_some _ e
  have nM : hs.get? h3.objs.size = none := none_below C3.er.keep (fresh_size _)
  have kS : ∀ {ha hb : Heap}, (∀ b o, s.heap.get? b = some o → ha.get? b = some o) → KeepBut env (mineOf env) ha hb → ∀ b o, s.heap.get? b = some o → hb.get? b = some o := fun p q b o e =>
    q b o (fun z => by subst z; rw [newL] at e; cases e) (fun y _ => by rw [hcells]; intro z; cases z) (p b o e)
  have kp3 := kS (kS ‹∀ (b : Addr) (o : Obj), s.heap.get? b = some o → hh1.get? b = some o› k2) k3
  have wM : s.heap.get? h3.objs.size = none := none_below kp3 (fresh_size _)
  have kp4 : ∀ b o, s.heap.get? b = some o → (h3.push { cls := .type "list", data := .seq ([] : List Value).toArray }).get? b = some o := fun b o e => Heap.get?_push_of_some _ (kp3 b o e)
  have L4 : LstS (h3.push { cls := .type "list", data := .seq ([] : List Value).toArray }) h3.objs.size [] := ⟨[], _, hM, .nil⟩
  show wpAny _ _ (storeName env (N "missing") (.ref h3.objs.size)) _ _ _
  generalize h3.objs.size = M0 at C4 nM wM L4
  refine storeRaw (s := { s with heap := h3.push _, toks := t3 }) C4 oM fun h5 t5 C5 k5 => ?_
  have J5 : VolE hs [] (FOf outer) s.heap h5 := J4.keepB P.Z P.st k5
  have L5 := L4.keepB C4.er k5
  -- unexpected = []
  refine wpAny_execs_cons ?_
  rw [sl2]
  refine wpAny_Assign_Name (wpAny_List (args_nil ⟨by decide, ?_⟩)) rfl
  have hU : (h5.push { cls := .type "list", data := .seq ([] : List Value).toArray }).get? h5.objs.size = some { cls := .type "list", data := .seq ([] : List Value).toArray } := Heap.get?_push_size _ rfl
  have C6 := C5.pushOwn _ hU
  have J6 : VolE hs [] (FOf outer) s.heap (h5.push { cls := .type "list", data := .seq ([] : List Value).toArray }) := J5.keeps fun _ _ e => Heap.get?_push_of_some _ e
  have nU : hs.get? h5.objs.size = none := none_below C5.er.keep (fresh_size _)
  have wU : s.heap.get? h5.objs.size = none := none_below (kS kp4 k5) (fresh_size _)
  have L6 : LstS (h5.push { cls := .type "list", data := .seq ([] : List Value).toArray }) h5.objs.size [] := ⟨[], _, hU, .nil⟩
  have LM6 : LstS (h5.push { cls := .type "list", data := .seq ([] : List Value).toArray }) M0 [] := L5.keep fun _ e => Heap.get?_push_of_some _ e
  have mu : M0 ≠ h5.objs.size := by obtain ⟨_, _, e, _⟩ := L5; exact Nat.ne_of_lt (Heap.lt_size e)
  show wpAny _ _ (storeName env (N "unexpected") (.ref h5.objs.size)) _ _ _
  generalize h5.objs.size = U0 at C6 nU wU L6 mu
  have eO : (fun a => (False ∨ a = M0) ∨ a = U0) = O2 M0 U0 := by funext b; simp [O2]
  rw [eO] at C6
  refine storeRaw (s := { s with heap := h5.push _, toks := t5 }) C6 oU fun h7 t7 C7 k7 => ?_
  have J7 : VolE hs [] (FOf outer) s.heap h7 := J6.keepB P.Z P.st k7
  have L7 := L6.keepB C6.er k7
  have LM7 := LM6.keepB C6.er k7
  have S : StL v mean mg mb n (A.deeper env) hs s.heap env outer M0 U0 EL AL 0 0 [] [] { s with heap := h7, toks := t7 } := ⟨C7.sub (sub_start _ _ _ _), LM7, L7, J7⟩
  -- the loop
  refine wpAny_execs_cons ?_
  rw [sl_t3]
  refine while_next (codeAny_mono (sloop G ⟨mu, nM, nU, wM, wU⟩ P hn hcells S hN hN2) fun r s' hz => ?_)
  obtain ⟨e, h8, t8, i', j', rfl, S8⟩ := hz
  refine ⟨.next, e, ?_⟩
  refine wpAny_execs_cons ?_
  rw [sl4]
  refine wpAny_Return_some (wpAny_Tuple (args_cons (rawX S8.C vM gM (L_M ..) (args_cons (rawX S8.C vU gU (L_U ..) (args_nil ⟨by show 2 ≤ sizeLine; decide, ?_⟩))))))
  refine hQ _ _ ⟨_, t8, rfl, ?_, S8.J.keeps fun b o e => Heap.get?_push_of_some _ e, S8.C.tk⟩
  refine .tup (Heap.get?_push_size _ rfl) (fun q => q) ?_
  exact .cons ((S8.lm.rep (O := fun _ => False) (fun q => q)).keeps fun _ _ e => Heap.get?_push_of_some _ e) (.cons ((S8.lu.rep (O := fun _ => False) (fun q => q)).keeps fun _ _ e => Heap.get?_push_of_some _ e) .nil)
end
end Mine
end
noncomputable section
open PySem PySem.W PyProof.Rows PySem.Challenge PySem.SeqAt
set_option maxRecDepth 100000
set_option linter.unusedVariables false
namespace Mine

section
variable {v : World} {mean : ExcName → Option Value} {mg mb : Str → Option Value} {n : Nat} {k : Kit} {A A' : Around} {hs h0 : Heap} {O : Addr → Prop} {mine : Str → Prop} {env : Env} {sc : Scope} {ρ : Rho} {s s0 : Shared} {d : D}

theorem callF_ (K : SoundE v mean mg mb n k) {args : List Expr} {as : List D} {f : Str} {pf p : Pos} {a : Addr} {o : Obj} {fd : FuncData} {Q : Value → Shared → Prop} (ha : mapO (k.e sc ρ) args = some as) (hne : as ≠ []) (h1 : isGlob sc f = true) (h2 : goodName f = true)
    (e1 : mg f = some (.ref a)) (e2 : s.heap.get? a = some o) (e3 : o.data = .func fd) (C : Cx v mean mg mb n A hs O mine env sc ρ s) (h : ∀ vs s₁, Reps s₁.heap O as vs → Kp s s₁ → wpAny (pwm v) A (call (.ref a) vs []) Q No s₁) :
    wpAny (pwm v) A (eval (.Call (.Name f pf) args [] p) env) Q No s := by
  have he : eval (.Call (.Name f pf) args [] p) env = (do callWith p (← eval (.Name f pf) env) [] (backTo p (starEach args env)) (backToKw p (keywordEach [] env))) := rfl
  rw [he]
  refine wpAny_bind (glob_ C h1 h2 e1 (callWith_function_kw (o := o) (fd := fd) ?_))
  exact evalArgs_ K ha hne C fun vs s' rs k1 => ⟨⟨kph k1 _ _ e2, e3⟩, h vs s' rs k1⟩

theorem copy_ (K : SoundE v mean mg mb n k) {x : Expr} {p1 p2 : Pos} {ss : List Str} {Q : Value → Shared → Prop} (hx : k.e sc ρ x = some (lstS ss)) (hlen : ss.length ≤ 1000) (C : Cx v mean mg mb n A hs O mine env sc ρ s)
    (h : ∀ a h' tk, LstS h' a ss → (∀ b o, s.heap.get? b = some o → h'.get? b = some o) → s.heap.get? a = none → 0 < tk → Q (.ref a) { s with heap := h', toks := tk }) :
    wpAny (pwm v) A (eval (.Subscript x (.Slice none none none p1) p2) env) Q No s := by
  refine Subscript_ (wpAny_mono (K.e hx C) (fun va s₁ ⟨r1, k1⟩ => ?_) fun _ _ x => x)
  refine wpAny_Slice (evalPart_none_step (evalPart_none_step (evalPart_none_step ?_)))
  obtain ⟨y, xs, m, rfl, h1, r1⟩ := rep_lst r1
  have C1 := C.keeps k1
  obtain ⟨⟨h2, t2, rfl, kk⟩, _⟩ := k1
  have sy := strs_of (strsD_str _) r1
  have hL : Heap.IsList (h2.push { cls := .type "slice", data := .fields #[.none, .none, .none] }) y xs.toArray := ⟨_, Heap.get?_push_of_some _ h1, rfl, _, rfl⟩
  refine sub_tail ⟨_, Heap.get?_push_of_some _ h1, rfl⟩ list_getitem_lookup (wpAny_getItem_list_slice hL (Heap.IsSliceOf.new ..) .none .none .none (by simp) ?_ (by have := line_big; rw [List.size_toArray, strs_len sy]; lia))
  rw [kms_pick_eq]
  have e : kms_pick xs.toArray.toList none none = xs := (cut_pick xs none none).symm
  rw [e]
  refine h _ _ _ ⟨xs, _, Heap.get?_push_size _ rfl, sy⟩ (fun b o q => Heap.get?_push_of_some _ (Heap.get?_push_of_some _ (kk b o q))) ?_ C1.tk
  refine none_below (h' := h2.push { cls := .type "slice", data := .fields #[.none, .none, .none] }) (fun b o q => Heap.get?_push_of_some _ (kk b o q)) (fresh_size _)
end
end Mine
end
noncomputable section
open PySem PySem.W PyProof.Rows PySem.Challenge PySem.SeqAt
set_option maxRecDepth 100000
set_option linter.unusedVariables false
namespace Mine

noncomputable def scL : Scope := (dAt 17).scope
noncomputable def lw : Stmt := stAt 17 10
noncomputable def lwA : Expr := atE 0 (valS lw)
noncomputable def lwB : Expr := atE 1 (valS lw)
noncomputable def cA : Expr := atE 0 lwA
noncomputable def cB : Expr := atE 0 lwB
theorem lw_fn : fnOf (N "law") = some 17 := by kernel_rfl
theorem lw_if : lw = .If (.BoolOp .Or [.Compare (.Call (.Name (N "sorted_list_difference") (atE 0 cA).pos) [atE 1 cA, atE 2 cA] [] cA.pos) [.NotEq] [.Name (N "alone") (atE 1 lwA).pos] lwA.pos,
    .Compare (.Call (.Name (N "unorderable_list_difference") (atE 0 cB).pos) [.Subscript (atE 0 (atE 1 cB)) (.Slice none none none (slP (atE 1 cB))) (atE 1 cB).pos, .Subscript (atE 0 (atE 2 cB)) (.Slice none none none (slP (atE 2 cB))) (atE 2 cB).pos] [] cB.pos) [.NotEq] [atE 1 lwB] lwB.pos] (valS lw).pos) (bodyS lw) [] (posS lw) := by kernel_rfl
theorem lw_mark : behindInMarks .NotEq (atE 1 lwB) = false := by kernel_rfl
theorem lw_names : (isGlob scL (N "sorted_list_difference") && goodName (N "sorted_list_difference") && (isGlob scL (N "unorderable_list_difference") && goodName (N "unorderable_list_difference"))) = true := by kernel_rfl
theorem lw_alone : (isVar scL (N "alone") && goodName (N "alone")) = true := by kernel_rfl

section
variable {v : World} {mean : ExcName → Option Value} {mg mb : Str → Option Value} {n : Nat} {k : Kit} {A A' : Around} {hs h0 : Heap} {O : Addr → Prop} {mine : Str → Prop} {env : Env} {sc : Scope} {ρ : Rho} {s s0 : Shared} {d : D}

theorem VolE.vol0 {F : List Addr} {h h' : Heap} (J : VolE hs [] F h h') : Vol hs F h h' := ⟨J.1, fun b o e hn => J.2 b o (by simp) e hn⟩

theorem law10 {m : Nat} {X Y X2 Y2 r1 r2 : List Str} {N0 : Nat} (hm : m ≤ n) (hn : 13 ≤ n) (C : Cx v mean mg mb n A hs (fun _ => False) (mineOf env) env scL ρ s) (G : FrOf hs A env []) (hx : mapO ((ev m).e scL ρ) [atE 1 cA, atE 2 cA] = some [lstS X, lstS Y]) (GX : GoodL X Y)
    (hN : sld N0 X Y [] [] = some (r1, r2)) (hN2 : X.length + Y.length + 2 ≤ N0) (hal : ρ.lookup (N "alone") = some (.tup [lstS r1, lstS r2])) (he1 : eqD (.tup [lstS r1, lstS r2]) (.tup [lstS r1, lstS r2]) = some true)
    (hx2 : (ev m).e scL ρ (atE 0 (atE 1 cB)) = some (lstS X2)) (hy2 : (ev m).e scL ρ (atE 0 (atE 2 cB)) = some (lstS Y2)) (hl2 : X2.length + Y2.length ≤ 900)
    (hb : (ev m).e scL ρ (atE 1 lwB) = some (.tup [lstS (uld X2.reverse Y2 []).1, lstS (uld X2.reverse Y2 []).2])) (he2 : eqD (.tup [lstS (uld X2.reverse Y2 []).1, lstS (uld X2.reverse Y2 []).2]) (.tup [lstS (uld X2.reverse Y2 []).1, lstS (uld X2.reverse Y2 []).2]) = some true) :
    wpAny (pwm v) A (exec lw env) (fun f s' => f = .next ∧ ∃ h' tk, s' = { s with heap := h', toks := tk } ∧ Cx v mean mg mb n A hs (fun _ => False) (mineOf env) env scL ρ s') No s := by
  have hnames := lw_names
  have halone := lw_alone
  simp only [Bool.and_eq_true] at hnames halone
  obtain ⟨⟨b1, b2⟩, b3, b4⟩ := hnames
  have hu : A.units + 80 < cLine := by have := C.room.units; lia
  have Bh := C.bs0
  have hsz : ∀ {s' : Shared}, Cx v mean mg mb n A hs (fun _ => False) (mineOf env) env scL ρ s' → hs.objs.size ≤ s'.heap.objs.size := fun C' => by
    obtain ⟨mm, o, _, _, ho, _⟩ := C'.er.ns
    exact Nat.le_trans C'.er.above (Nat.le_of_lt (Heap.lt_size ho))
  have fr : ∀ {s' : Shared}, Cx v mean mg mb n A hs (fun _ => False) (mineOf env) env scL ρ s' → s'.heap.FunFrames hs [env] ∧ ∀ b ∈ FOf [env], ∃ m, s'.heap.Ns b m := fun C' => by
    refine ⟨fun_frames C' G trivial, fun b hb => ?_⟩
    unfold FOf at hb
    rw [List.filterMap_cons, G.own] at hb
    rcases List.mem_cons.mp hb with rfl | hb
    · exact C'.er.ns
    · cases hb
  obtain ⟨k1, hk1⟩ : ∃ k1, n = k1 + 1 := ⟨n - 1, by lia⟩
  rw [lw_if]
  refine wpAny_hide fun Q hQ => ?_
  refine wpAny_If (wpAny_isTrue_BoolOp (wpAny_allTrue_Or_cons (wpAny_isTrue_Compare1 ?_)))
  refine wpAny_hide fun K1 hK1 => ?_
  -- the sorted difference
  obtain ⟨hi, a, o, pm, code, doc, m1, m2, m3, m4⟩ := fn_of sl_fn C.bs
  refine callF_ (sound m).1 hx (by simp) b1 b2 m1 m2 m3 (C.le hm) fun vs s₁ rs q1 => ?_
  have C1 := C.keeps q1
  obtain ⟨⟨h1, t1, rfl, _⟩, _⟩ := id q1
  cases rs with
  | cons rx rs =>
    cases rs with
    | cons ry rs =>
      cases rs
      obtain ⟨ff, ns⟩ := fr C1
      refine wpAny_mono (sld_call (n := k1) (by lia) m1 (hk1 ▸ C1.room) C1.bs Bh C1.tk G.fr (fun b o e => C1.er.keep b o e) (hsz C1) ns ff GX rx ry hN hN2) (fun val s₂ ⟨h2, t2, es, rv, J2, ht2⟩ => ?_) fun _ _ f => f
      subst es
      have C2 := C1.vol (tk := t2) J2.vol0 ns (fun a q => q.elim) ht2
      refine hK1 _ _ ?_
      refine varX C2 halone.1 halone.2 hal fun val2 rv2 => ?_
      refine wpAny_mono (upP id (ne_ he1 rv rv2 hu)) (fun c s₃ ⟨hc, hk⟩ => ?_) fun _ _ f => f
      subst hc
      refine wpAny_truthy_bool ?_
      rw [if_neg (by decide)]
      have C3 := C2.keeps hk
      obtain ⟨⟨h3, t3, rfl, _⟩, _⟩ := hk
      -- the other difference
      refine wpAny_allTrue_Or_cons (wpAny_isTrue_Compare1 ?_ lw_mark)
      refine wpAny_hide fun K2 hK2 => ?_
      obtain ⟨_, u, ou, upm, ucode, udoc, n1, n2, n3, n4⟩ := fn_of ul_fn C3.bs
      have he : eval (.Call (.Name (N "unorderable_list_difference") (atE 0 cB).pos) [.Subscript (atE 0 (atE 1 cB)) (.Slice none none none (slP (atE 1 cB))) (atE 1 cB).pos, .Subscript (atE 0 (atE 2 cB)) (.Slice none none none (slP (atE 2 cB))) (atE 2 cB).pos] [] cB.pos) env
        = (do callWith cB.pos (← eval (.Name (N "unorderable_list_difference") (atE 0 cB).pos) env) [] (backTo cB.pos (starEach [.Subscript (atE 0 (atE 1 cB)) (.Slice none none none (slP (atE 1 cB))) (atE 1 cB).pos, .Subscript (atE 0 (atE 2 cB)) (.Slice none none none (slP (atE 2 cB))) (atE 2 cB).pos] env)) (backToKw cB.pos (keywordEach [] env))) := rfl
      rw [he]
      refine wpAny_bind (glob_ (s := { s with heap := h3, toks := t3 }) C3 b3 b4 n1 (callWith_function_kw (o := ou) (fd := fdOf (dAt 9) upm ucode udoc) ?_))
      refine Calls.evalArgs_plain (Calls.spliced_cons (copy_ (s := { s with heap := h3, toks := t3 }) (sound m).1 hx2 (by lia) (C3.le hm) fun X0 h4 t4 LX kk4 nX ht4 => Calls.spliced_cons ?_))
      have C4 := C3.keeps (s' := { s with heap := h4, toks := t4 }) (kpm (s := { s with heap := h3, toks := t3 }) kk4 fun _ => ht4)
      refine copy_ (s := { s with heap := h4, toks := t4 }) (sound m).1 hy2 (by lia) (C4.le hm) fun A0 h5 t5 LA kk5 nA ht5 => Calls.spliced_nil ?_
      have C5 := C4.keeps (s' := { s with heap := h5, toks := t5 }) (kpm (s := { s with heap := h4, toks := t4 }) kk5 fun _ => ht5)
      have LX5 : LstS h5 X0 X2 := LX.keep fun o q => kk5 _ o q
      have kk35 : ∀ b o, h3.get? b = some o → h5.get? b = some o := fun b o q => kk5 b o (kk4 b o q)
      have nA3 : h3.get? A0 = none := none_below kk4 nA
      have xa : X0 ≠ A0 := fun z => by
        obtain ⟨_, _, q, _⟩ := LX
        rw [z, nA] at q; cases q
      refine ⟨⟨kk35 _ _ n2, n3⟩, ?_⟩
      obtain ⟨ff5, ns5⟩ := fr C5
      have nhX : hs.get? X0 = none := none_below (fun b o e => C3.er.keep b o e) nX
      have nhA : hs.get? A0 = none := none_below (fun b o e => C3.er.keep b o e) nA3
      show wpAny _ _ (call (.ref u) [.ref X0, .ref A0]) _ _ _
      refine wpAny_mono (uld_call (n := k1) (s := { s with heap := h5, toks := t5 }) (by lia) n1 (hk1 ▸ C5.room) C5.bs Bh ht5 G.fr (fun b o e => C5.er.keep b o e) (hsz C5) ns5 ff5 LX5 LA xa nhX nhA hl2) (fun val s₂ ⟨h6, t6, es, rv, J6, ht6⟩ => ?_) fun _ _ f => f
      subst es
      obtain ⟨ff3, ns3⟩ := fr C3
      have V6 : Vol hs (FOf [env]) h3 h6 := ⟨fun b o e1 e2 => J6.1 b o e1 (kk35 b o e2), fun b o e hn => J6.2 b o (fun z => by
        simp only [List.mem_cons, List.not_mem_nil, or_false] at z
        rcases z with rfl | rfl
        · rw [nX] at e; cases e
        · rw [nA3] at e; cases e) (kk35 b o e) hn⟩
      have C6 := C3.vol (tk := t6) V6 ns3 (fun a q => q.elim) ht6
      refine hK2 _ _ ?_
      refine wpAny_mono ((sound m).1.e hb (C6.le hm)) (fun val2 s₇ ⟨rv2, hk7⟩ => ?_) fun _ _ f => f
      have C7 := C6.keeps hk7
      have rv' := rv.keeps (kph hk7)
      refine wpAny_mono (upP id (ne_ he2 rv' rv2 hu)) (fun c s₃ ⟨hc, hk8⟩ => ?_) fun _ _ f => f
      subst hc
      refine wpAny_truthy_bool ?_
      rw [if_neg (by decide)]
      have C8 := C7.keeps hk8
      obtain ⟨⟨h7, t7, rfl, _⟩, _⟩ := hk7
      obtain ⟨⟨h8, t8, rfl, _⟩, _⟩ := hk8
      refine wpAny_allTrue_Or_nil ?_
      rw [if_neg (by decide)]
      exact wpAny_execs_nil (hQ _ _ ⟨rfl, h8, t8, rfl, C8⟩)
end
end Mine
end
noncomputable section
open PySem PySem.W PyProof.Rows PySem.Challenge PySem.SeqAt
set_option maxRecDepth 100000
set_option linter.unusedVariables false
namespace Mine

theorem lw_plain : plainD (dAt 17) = true := by kernel_rfl
theorem lw_bind (x : D) : bindA (dAt 17) [x] [] = some [(N "script", x)] := by kernel_rfl
noncomputable def lawHead : List Stmt := [stAt 17 0, stAt 17 1, stAt 17 2, stAt 17 3, stAt 17 4, stAt 17 5, stAt 17 6, stAt 17 7, stAt 17 8, stAt 17 9]
noncomputable def lawTail : List Stmt := [stAt 17 11, stAt 17 12, stAt 17 13]
theorem lw_body : (dAt 17).body = lawHead ++ (lw :: lawTail) := by kernel_rfl

/-- what the evaluator says of the law's parts -/
structure LawF (N0 : Nat) (x : D) : Prop where
  facts : ∃ (ρ ρ' : Rho) (X Y X2 Y2 r1 r2 : List Str) (K : Nat), exL ((ev N0).s scL) [(N "script", x)] lawHead = some (ρ, .next) ∧ exL ((ev N0).s scL) ρ lawTail = some (ρ', .ret (.bool true)) ∧
    mapO ((ev N0).e scL ρ) [atE 1 cA, atE 2 cA] = some [lstS X, lstS Y] ∧ GoodL X Y ∧ sld K X Y [] [] = some (r1, r2) ∧ X.length + Y.length + 2 ≤ K ∧ ρ.lookup (N "alone") = some (.tup [lstS r1, lstS r2]) ∧ eqD (.tup [lstS r1, lstS r2]) (.tup [lstS r1, lstS r2]) = some true ∧
    (ev N0).e scL ρ (atE 0 (atE 1 cB)) = some (lstS X2) ∧ (ev N0).e scL ρ (atE 0 (atE 2 cB)) = some (lstS Y2) ∧ X2.length + Y2.length ≤ 900 ∧
    (ev N0).e scL ρ (atE 1 lwB) = some (.tup [lstS (uld X2.reverse Y2 []).1, lstS (uld X2.reverse Y2 []).2]) ∧ eqD (.tup [lstS (uld X2.reverse Y2 []).1, lstS (uld X2.reverse Y2 []).2]) (.tup [lstS (uld X2.reverse Y2 []).1, lstS (uld X2.reverse Y2 []).2]) = some true

section
variable {v : World} {mean : ExcName → Option Value} {mg mb : Str → Option Value} {n : Nat} {k : Kit} {A A' : Around} {hs h0 : Heap} {O : Addr → Prop} {mine : Str → Prop} {env : Env} {sc : Scope} {ρ : Rho} {s s0 : Shared} {d : D}

theorem stmts_ {m : Nat} {k : Kit} (hm : m ≤ n) (KS : SoundS v mean mg mb m k) {rest : List Stmt} {Q : Flow → Shared → Prop} : ∀ {sts : List Stmt} {ρ ρ' : Rho} {s : Shared}, exL (k.s sc) ρ sts = some (ρ', .next) → Cx v mean mg mb n A hs O (mineOf env) env sc ρ s →
    (∀ h' tk, Cx v mean mg mb n A hs O (mineOf env) env sc ρ' { s with heap := h', toks := tk } → wpAny (pwm v) A (execs rest env) Q No { s with heap := h', toks := tk }) → wpAny (pwm v) A (execs (sts ++ rest) env) Q No s
  | [], ρ, ρ', s, h, C, hq => by
    cases h
    exact hq s.heap s.toks C
  | st :: r, ρ, ρ', s, h, C, hq => by
    unfold exL at h
    split at h
    · rename_i ρ₁ h1
      exact stmt_ hm KS h1 C fun h' tk C1 _ => stmts_ hm KS h C1 hq
    · rename_i hx
      exact (hx _ h).elim

theorem law_call {N0 : Nat} {x : D} {val : Value} {a : Addr} (h13 : 13 ≤ N0) (F : LawF N0 x) (hm : mg (N "law") = some (.ref a)) (R : Room (N0 + 1) A) (B : Bs v mean mg mb s.heap) (h0 : 0 < s.toks) (hfr : A.frames = some []) (rx : Rep s.heap (fun _ => False) x val) :
    wpAny (pwm v) A (call (.ref a) [val]) (fun r s' => r = .bool true ∧ ∃ h' tk, s' = { s with heap := h', toks := tk } ∧ KeepsH s.heap h') No s := by
  obtain ⟨hi, a', o, pm, code, doc, m1, m2, m3, m4⟩ := fn_of lw_fn B
  rw [hm] at m1
  obtain rfl : a = a' := by cases m1; rfl
  obtain ⟨ρ, ρ', X, Y, X2, Y2, r1, r2, K, f1, f2, f3, f4, f5, f6, f7, f8, f9, f10, f11, f12, f13⟩ := F.facts
  refine call_fn (O := fun _ => False) (kws := []) (kw := []) R B h0 (fun _ q => q.elim) hi m2 m3 m4 lw_plain (lw_bind x) (.cons rx .nil) rfl .nil fun env s₁ hks C hlo hfe => ?_
  have C : Cx v mean mg mb N0 (A.deeper env) s.heap (fun _ => False) (mineOf env) env scL [(N "script", x)] s₁ := C
  have G : FrOf s.heap (A.deeper env) env [] := ⟨Around.frames_deeper hfr, hfe.1, Heap.get?_none_of_le hlo⟩
  obtain ⟨⟨h1, t1, rfl, _⟩, _⟩ := hks
  rw [lw_body]
  refine stmts_ (Nat.le_refl _) (sound N0).2 f1 C fun h2 t2 C2 => ?_
  refine wpAny_execs_cons (wpAny_mono (law10 (Nat.le_refl _) h13 C2 G f3 f4 f5 f6 f7 f8 f9 f10 f11 f12 f13) (fun f s₃ ⟨e, h3, t3, es, C3⟩ => ?_) fun _ _ x => x)
  subst e; subst es
  refine wpAny_mono (execs_ (sound N0).2 f2 C3) (fun f s₄ hp => ?_) fun _ _ x => x
  obtain ⟨⟨val', rfl, rv⟩, h4, t4, rfl, er, _⟩ := hp
  cases rv
  exact ⟨rfl, h4, t4, rfl, er.keep⟩
end
end Mine
end
noncomputable section
open PySem PySem.W PyProof.Rows PySem.Challenge PySem.SeqAt
set_option maxRecDepth 100000
set_option linter.unusedVariables false
namespace Mine.PL

section
variable {n i : Nat} {sc : Scope} {ρ ρ' : Rho} {f : Str} {args : List D} {kw : List (Str × D)} {fl : Fl} {r : Option (Rho × Fl)} {c : Expr} {a b : List Stmt} {p : Pos} {st : Stmt} {d : D}

theorem r_call {x : D} (h1 : specNames.contains f = false) (h2 : fnOf f = some i) (h3 : plainD (dAt i) = true) (h4 : bindA (dAt i) args kw = some ρ) (h5 : exL ((ev n).s (dAt i).scope) ρ (dAt i).body = some (ρ', .ret x)) : (ev (n + 1)).c f args kw = some x := by
  show stepC _ _ _ _ _ = _
  unfold stepC
  rw [h1, h2]
  simp only [Bool.false_eq_true, if_false, h3, Bool.not_true, h4, h5]
theorem r_cons (h1 : (ev n).s sc ρ st = some (ρ', .next)) (h2 : exL ((ev n).s sc) ρ' a = r) : exL ((ev n).s sc) ρ (st :: a) = r := by
  unfold exL; rw [h1]; exact h2
theorem r_nil : exL ((ev n).s sc) ρ [] = some (ρ, .next) := rfl
theorem r_one {x : Rho × Fl} (h1 : (ev n).s sc ρ st = some x) : exL ((ev n).s sc) ρ [st] = some x := by
  unfold exL; rw [h1]
  obtain ⟨y, fl⟩ := x
  cases fl <;> rfl
theorem r_ret {x : D} (h1 : (ev n).s sc ρ st = some (ρ', .ret x)) : exL ((ev n).s sc) ρ (st :: a) = some (ρ', .ret x) := by
  unfold exL; rw [h1]
theorem r_ifT (h1 : (ev n).t sc ρ c = some true) (h2 : exL ((ev n).s sc) ρ a = r) : (ev (n + 1)).s sc ρ (.If c a b p) = r := by
  show (match (ev n).t sc ρ c with | some true => exL ((ev n).s sc) ρ a | some false => exL ((ev n).s sc) ρ b | none => none) = r
  rw [h1]; exact h2
theorem r_ifF (h1 : (ev n).t sc ρ c = some false) (h2 : exL ((ev n).s sc) ρ b = r) : (ev (n + 1)).s sc ρ (.If c a b p) = r := by
  show (match (ev n).t sc ρ c with | some true => exL ((ev n).s sc) ρ a | some false => exL ((ev n).s sc) ρ b | none => none) = r
  rw [h1]; exact h2
theorem r_while (h : (ev n).w sc ρ c b = r) : (ev (n + 1)).s sc ρ (.While c b [] p) = r := h
theorem r_wT (h1 : (ev n).t sc ρ c = some true) (h2 : exL ((ev n).s sc) ρ b = some (ρ', .next)) (h3 : (ev n).w sc ρ' c b = r) : (ev (n + 1)).w sc ρ c b = r := by
  show stepW _ _ _ _ _ = _
  unfold stepW; rw [h1]; simp only [h2]; exact h3
theorem r_wF (h1 : (ev n).t sc ρ c = some false) : (ev (n + 1)).w sc ρ c b = some (ρ, .next) := by
  show stepW _ _ _ _ _ = _
  unfold stepW; rw [h1]
theorem r_wR {x : D} (h1 : (ev n).t sc ρ c = some true) (h2 : exL ((ev n).s sc) ρ b = some (ρ', .ret x)) : (ev (n + 1)).w sc ρ c b = some (ρ', .ret x) := by
  show stepW _ _ _ _ _ = _
  unfold stepW; rw [h1]; simp only [h2]
theorem r_try {hd : ExceptHandler} {hs : List ExceptHandler} (h : exL ((ev n).s sc) ρ b = r) : (ev (n + 1)).s sc ρ (.Try b (hd :: hs) [] [] p) = r := h
theorem r_asg {x : Str} {px : Pos} (h1 : isOwn sc x = true) (h2 : (ev n).e sc ρ c = some d) : (ev (n + 1)).s sc ρ (.Assign [.Name x px] c p) = some ((x, d) :: ρ, .next) := by
  show (if isOwn sc x = true then ((ev n).e sc ρ c).map (fun d => ((x, d) :: ρ, Fl.next)) else none) = _
  rw [if_pos h1, h2]; rfl
theorem r_return (h2 : (ev n).e sc ρ c = some d) : (ev (n + 1)).s sc ρ (.Return (some c) p) = some (ρ, .ret d) := by
  show ((ev n).e sc ρ c).map (fun d => (ρ, Fl.ret d)) = _
  rw [h2]; rfl

theorem r_cmp {l r' : Expr} {op : CmpOp} {x y : D} (hm : behindInMarks op r' = false) (h1 : (ev n).e sc ρ l = some x) (h2 : (ev n).e sc ρ r' = some y) : (ev (n + 1)).t sc ρ (.Compare l [op] [r'] p) = cmpD op x y := by
  show (if behindInMarks op r' then none else (match (ev n).e sc ρ l, (ev n).e sc ρ r' with | some a, some b => cmpD op a b | _, _ => none)) = _
  rw [hm, h1, h2]; rfl
theorem r_not {x : Expr} {b : Bool} (h : (ev n).t sc ρ x = some b) : (ev (n + 1)).t sc ρ (.UnaryOp .Not x p) = some (!b) := by
  show ((ev n).t sc ρ x).map (!·) = _
  rw [h]; rfl
theorem natD_nat {i : Nat} (h : i ≤ 999999) : natD (some (.int (i : Int))) = some (some i) := by
  show (if decide ((0 : Int) ≤ (i : Int)) && smallI (i : Int) then some (some (i : Int).toNat) else none) = _
  rw [if_pos]; rfl
  unfold smallI
  simp only [Bool.and_eq_true, decide_eq_true_eq]; lia
theorem idxOf_nat (n j : Nat) : idxOf n (j : Int) = some j := if_pos (Int.natCast_nonneg j)
theorem smallI_nat {j : Nat} (h : j ≤ 1000000) : smallI (j : Int) = true := by
  unfold smallI
  simp only [Bool.and_eq_true, decide_eq_true_eq]; lia
theorem r_slice {v lo hi : Expr} {ps : Pos} {i j : Nat} (hv : (ev n).e sc ρ v = some d) (h1 : (ev n).e sc ρ lo = some (.int (i : Int))) (h2 : (ev n).e sc ρ hi = some (.int (j : Int))) (hi1 : i ≤ 999999) (hj : j ≤ 999999) :
    (ev (n + 1)).e sc ρ (.Subscript v (.Slice (some lo) (some hi) none ps) p) = sliceD d (some i) (some j) false := by
  have e1 : natD (some (.int (i : Int))) = some (some i) := natD_nat hi1
  have e2 : natD (some (.int (j : Int))) = some (some j) := natD_nat hj
  show subSl ((ev n).e sc ρ v) (((ev n).e sc ρ lo).map some) (((ev n).e sc ρ hi).map some) (some false) = _
  rw [hv, h1, h2]
  show (match natD (some (.int (i : Int))), natD (some (.int (j : Int))) with | some l', some h' => sliceD d l' h' false | _, _ => none) = _
  rw [e1, e2]
theorem comp_filter {test : D → Option Bool} {elt : D → Option D} {q : D → Bool} {g : D → D} : ∀ {ds : List D}, (∀ d ∈ ds, test d = some (q d)) → (∀ d ∈ ds, q d = true → elt d = some (g d)) → compO test elt ds = some ((ds.filter q).map g)
  | [], _, _ => rfl
  | d :: r, h1, h2 => by
    unfold compO
    rw [h1 d List.mem_cons_self]
    have ih := comp_filter (ds := r) (fun d hd => h1 d (List.mem_cons_of_mem _ hd)) (fun d hd => h2 d (List.mem_cons_of_mem _ hd))
    cases hq : q d with
    | true => simp only [h2 d List.mem_cons_self hq, ih, List.filter_cons, hq, if_true, List.map_cons]
    | false => simp [ih, hq]
theorem comp_map {test : D → Option Bool} {elt : D → Option D} {g : D → D} {ds : List D} (h1 : ∀ d, test d = some true) (h2 : ∀ d ∈ ds, elt d = some (g d)) : compO test elt ds = some (ds.map g) := by
  rw [comp_filter (q := fun _ => true) (g := g) (fun d _ => h1 d) fun d hd _ => h2 d hd]
  have : ds.filter (fun _ => true) = ds := List.filter_eq_self.mpr fun _ _ => rfl
  rw [this]
theorem r_comp {x : Str} {px : Pos} {iter elt : Expr} {ifs : List Expr} {csc : Scope} {ds l : List D} (hi : stepIter (ev n) sc ρ iter = some ds) (hok : compOk csc sc x = true) (hl : ds.length ≤ 1000) (h0 : ρ.lookup dot0 = none)
    (h : compO (fun d => allO ((ev n).t (relab csc sc) ((x, d) :: ρ)) ifs) (fun d => (ev n).e (relab csc sc) ((x, d) :: ρ) elt) ds = some l) : (ev (n + 1)).e sc ρ (.ListComp elt [⟨.Name x px, iter, ifs, 0⟩] csc p) = some (.lst l) := by
  show (match stepIter (ev n) sc ρ iter with
    | some ds => if compOk csc sc x && smallL ds.length && (ρ.lookup dot0).isNone then (compO (fun d => allO ((ev n).t (relab csc sc) ((x, d) :: ρ)) ifs) (fun d => (ev n).e (relab csc sc) ((x, d) :: ρ) elt) ds).map D.lst else none
    | none => none) = _
  have hs : smallL ds.length = true := by unfold smallL; simp; lia
  rw [hi]
  simp only [hok, hs, h0, h, Option.isNone_none, Bool.and_self, if_true, Option.map_some]
end

theorem getS {T : Str} {p c : Nat} (h : T.cps.toList[p]? = some c) (hp : p ≤ 1000000) : getD (.str T) (.int (p : Int)) = some (.str ⟨#[c]⟩) := by
  have hlt : p < T.cps.toList.length := by
    rcases Nat.lt_or_ge p T.cps.toList.length with h' | h'
    · exact h'
    · rw [List.getElem?_eq_none h'] at h; cases h
  have h1 : smallI (p : Int) = true := by unfold smallI; simp; lia
  have h2 : T.cps[p]? = some c := by rw [← Array.getElem?_toList]; exact h
  show (if smallI (p : Int) then (idxOf T.cps.size p).bind fun j => (T.cps[j]?).map fun c => D.str (Str.mk #[c]) else none) = _
  rw [if_pos h1, idxOf_nat]
  show (T.cps[p]?).map _ = _
  rw [h2]; rfl
end Mine.PL
end
noncomputable section
open PySem PySem.W PyProof.Rows PySem.Challenge PySem.SeqAt
set_option maxRecDepth 100000
set_option linter.unusedVariables false
namespace Mine.PL

noncomputable def hd1 : Stmt → ExceptHandler
  | .Try _ (h :: _) _ _ _ => h
  | _ => .ExceptHandler none none [] default
noncomputable def scK : Scope := (dAt 0).scope
noncomputable def kT : Stmt := stAt 0 0
noncomputable def kW : Stmt := nth (bodyS kT) 0
noncomputable def kI : Stmt := nth (bodyS kW) 0
noncomputable def kR : Stmt := stAt 0 1
theorem k_fn : fnOf (N "skip_chars") = some 0 := by kernel_rfl
theorem k_sp : specNames.contains (N "skip_chars") = false := by kernel_rfl
theorem k_pl : plainD (dAt 0) = true := by kernel_rfl
theorem k_body : (dAt 0).body = [kT, kR] := by kernel_rfl
theorem k_try : kT = .Try [kW] [hd1 kT] [] [] (posS kT) := by kernel_rfl
theorem k_while : kW = .While (valS kW) [kI] [] (posS kW) := by kernel_rfl
noncomputable def rhoK (T : Str) (p : Int) : Rho := [(N "src", .str T), (N "pos", .int p), (N "chars", .ws)]
theorem k_bind (T : Str) (p : Int) : bindA (dAt 0) [.str T, .int p, .ws] [] = some (rhoK T p) := by kernel_rfl
theorem k_e0 (n : Nat) (T : Str) (p : Int) : (ev (n + 3)).e scK (rhoK T p) (atE 0 (valS kW)) = getD (.str T) (.int p) := by kernel_rfl
theorem k_e0' (n : Nat) (T : Str) (p q : Int) : (ev (n + 3)).e scK ((N "pos", .int q) :: rhoK T p) (atE 0 (valS kW)) = getD (.str T) (.int q) := by kernel_rfl
theorem k_e1 (n : Nat) (T : Str) (p : Int) : (ev (n + 3)).e scK (rhoK T p) (atE 1 (valS kW)) = some .ws := by kernel_rfl
theorem k_e1' (n : Nat) (T : Str) (p q : Int) : (ev (n + 3)).e scK ((N "pos", .int q) :: rhoK T p) (atE 1 (valS kW)) = some .ws := by kernel_rfl
theorem k_c : valS kW = .Compare (atE 0 (valS kW)) [.In] [atE 1 (valS kW)] (valS kW).pos := by kernel_rfl
theorem k_m : behindInMarks .In (atE 1 (valS kW)) = false := by kernel_rfl
theorem k_i0 (n : Nat) (T : Str) (p : Int) : (ev (n + 4)).s scK (rhoK T p) kI = some ((N "pos", .int (p + 1)) :: rhoK T p, .next) := by kernel_rfl
theorem k_r0 (n : Nat) (T : Str) (p : Int) : (ev (n + 4)).s scK (rhoK T p) kR = some (rhoK T p, .ret (.int p)) := by kernel_rfl
theorem k_r1 (n : Nat) (T : Str) (p q : Int) : (ev (n + 4)).s scK ((N "pos", .int q) :: rhoK T p) kR = some ((N "pos", .int q) :: rhoK T p, .ret (.int q)) := by kernel_rfl

section
variable {T : Str} {p c d : Nat}
theorem k_t0 (n : Nat) (h : T.cps.toList[p]? = some c) (hp : p ≤ 999999) : (ev (n + 4)).t scK (rhoK T p) (valS kW) = some (SWs ⟨#[c]⟩) := by
  rw [k_c]
  exact r_cmp k_m ((k_e0 n T p).trans (getS h (by lia))) (k_e1 n T p)
theorem k_t1 (n : Nat) (q : Int) (h : T.cps.toList[p]? = some c) (hp : p ≤ 1000000) : (ev (n + 4)).t scK ((N "pos", .int (p : Int)) :: rhoK T q) (valS kW) = some (SWs ⟨#[c]⟩) := by
  rw [k_c]
  exact r_cmp k_m ((k_e0' n T q p).trans (getS h (by lia))) (k_e1' n T q p)
theorem skc0 (n : Nat) (h : T.cps.toList[p]? = some c) (hp : p ≤ 999999) (hw : SWs ⟨#[c]⟩ = false) : (ev (n + 8)).c (N "skip_chars") [.str T, .int p, .ws] [] = some (.int p) := by
  refine r_call k_sp k_fn k_pl (k_bind T p) (ρ' := rhoK T p) ?_
  rw [k_body]
  refine r_cons (ρ' := rhoK T p) ?_ (r_ret (k_r0 (n + 3) T p))
  rw [k_try]
  refine r_try (r_one ?_)
  rw [k_while]
  refine r_while (r_wF ?_)
  exact (k_t0 n h hp).trans (by rw [hw])
theorem skc1 (n : Nat) (h : T.cps.toList[p]? = some c) (hp : p ≤ 999999) (hw : SWs ⟨#[c]⟩ = true) (h' : T.cps.toList[p + 1]? = some d) (hw' : SWs ⟨#[d]⟩ = false) : (ev (n + 9)).c (N "skip_chars") [.str T, .int p, .ws] [] = some (.int ((p + 1 : Nat) : Int)) := by
  refine r_call k_sp k_fn k_pl (k_bind T p) (ρ' := (N "pos", .int ((p + 1 : Nat) : Int)) :: rhoK T p) ?_
  rw [k_body]
  refine r_cons (ρ' := (N "pos", .int ((p + 1 : Nat) : Int)) :: rhoK T p) ?_ (r_ret (k_r1 (n + 4) T p _))
  rw [k_try]
  refine r_try (r_one ?_)
  rw [k_while]
  refine r_while (r_wT ?_ (r_one (k_i0 (n + 1) T p)) (r_wF ?_))
  · exact (k_t0 (n + 1) h hp).trans (by rw [hw])
  · exact (k_t1 n p h' (by lia)).trans (by rw [hw'])
end
end Mine.PL
end
noncomputable section
open PySem PySem.W PyProof.Rows PySem.Challenge PySem.SeqAt
set_option maxRecDepth 100000
set_option linter.unusedVariables false
namespace Mine.PL

section
variable {n i : Nat} {sc : Scope} {ρ ρ' : Rho} {c : Expr} {p : Pos} {d : D}
theorem r_tcall {f : Expr} {as : List Expr} {ks : List Keyword} (h : (ev n).e sc ρ (.Call f as ks p) = some d) : (ev (n + 1)).t sc ρ (.Call f as ks p) = truthD d := by
  show ((ev n).e sc ρ (.Call f as ks p)).bind truthD = _
  rw [h]; rfl
theorem r_meth {v s : Expr} {m z : Str} {ap q pz : Pos} {x y : D} (h0 : (ap.endLine == p.line) = true) (h1 : (ev n).e sc ρ (.Name z pz) = some x) (h2 : (ev n).e sc ρ (.Subscript v s q) = some y) : (ev (n + 1)).e sc ρ (.Call (.Attribute (.Name z pz) m ap) [.Subscript v s q] [] p) = methD x m [y] := by
  have hs : (ev (n + 1)).e sc ρ (.Call (.Attribute (.Name z pz) m ap) [.Subscript v s q] [] p) = (if notCall (.Name z pz) && ap.endLine == p.line && decide ([Expr.Subscript v s q].length ≤ 2) then (match (ev n).e sc ρ (.Name z pz), mapO ((ev n).e sc ρ) [.Subscript v s q] with
    | some d, some as => methD d m as
    | _, _ => none) else none) := by rfl
  rw [hs, h1, h0]
  show (match some x, mapO ((ev n).e sc ρ) [.Subscript v s q] with
    | some d, some as => methD d m as
    | _, _ => none) = _
  simp only [mapO, h2, Option.map_some]
end

theorem findL_at {k : Nat} {post : List Nat} : ∀ {mid : List Nat} (j : Nat), k ∉ mid → findL k j (mid ++ k :: post) = some (j + mid.length)
  | [], j, _ => by simp [findL]
  | x :: r, j, h => by
    simp only [List.mem_cons, not_or] at h
    rw [List.cons_append, findL, if_neg (by simp; exact fun e => h.1 e.symm), findL_at (j + 1) h.2]
    simp; lia

noncomputable def sc1 : Scope := (dAt 1).scope
noncomputable def s0 : Stmt := nth (bodyS (stAt 1 0)) 0
noncomputable def s1 : Stmt := stAt 1 1
noncomputable def s1x : Expr := atE 0 (valS s1)
theorem u_fn : fnOf (N "skip_until") = some 1 := by kernel_rfl
theorem u_sp : specNames.contains (N "skip_until") = false := by kernel_rfl
theorem u_pl : plainD (dAt 1) = true := by kernel_rfl
theorem u_body : (dAt 1).body = [stAt 1 0, s1, stAt 1 2] := by kernel_rfl
theorem u_try : stAt 1 0 = .Try [s0] [hd1 (stAt 1 0)] [] [] (posS (stAt 1 0)) := by kernel_rfl
theorem u_s0 : s0 = .Assign [.Name (N "new_pos") (tgtS s0).pos] (valS s0) (posS s0) := by kernel_rfl
noncomputable def slH : Expr → Expr
  | .Subscript _ (.Slice _ (some e) _ _) _ => e
  | e => e
theorem u_s1 : s1 = .If (.UnaryOp .Not (.Call (.Attribute (.Name (N "error_on") (atE 0 (atE 0 s1x)).pos) (N "isdisjoint") (atE 0 s1x).pos) [.Subscript (.Name (N "src") (atE 0 (atE 1 s1x)).pos) (.Slice (some (.Name (N "pos") (slL (atE 1 s1x)).pos)) (some (.Name (N "new_pos") (slH (atE 1 s1x)).pos)) none (slP (atE 1 s1x))) (atE 1 s1x).pos] [] s1x.pos) (valS s1).pos) (bodyS s1) [] (posS s1) := by kernel_rfl
theorem u_own : isOwn sc1 (N "new_pos") = true := by kernel_rfl
theorem u_line : ((atE 0 s1x).pos.endLine == s1x.pos.line) = true := by kernel_rfl
noncomputable def rhoSU (T : Str) (p : Int) (x : Str) (b : Bool) : Rho := [(N "src", .str T), (N "pos", .int p), (N "expect", .str x), (N "error_on", .ill), (N "error_on_eof", .bool b)]
theorem u_bind (T : Str) (p : Int) (x : Str) (b : Bool) : bindA (dAt 1) [.str T, .int p, .str x] [(N "error_on", .ill), (N "error_on_eof", .bool b)] = some (rhoSU T p x b) := by kernel_rfl
theorem u_e0 (n : Nat) (T : Str) (p : Int) (x : Str) (b : Bool) : (ev (n + 3)).e sc1 (rhoSU T p x b) (valS s0) = methD (.str T) (N "index") [.str x, .int p] := by kernel_rfl
theorem u_n (n : Nat) (T : Str) (p q : Int) (x : Str) (b : Bool) (y : Pos) : (ev (n + 1)).e sc1 ((N "new_pos", .int q) :: rhoSU T p x b) (.Name (N "error_on") y) = some .ill ∧ (ev (n + 1)).e sc1 ((N "new_pos", .int q) :: rhoSU T p x b) (.Name (N "src") y) = some (.str T) ∧
    (ev (n + 1)).e sc1 ((N "new_pos", .int q) :: rhoSU T p x b) (.Name (N "pos") y) = some (.int p) ∧ (ev (n + 1)).e sc1 ((N "new_pos", .int q) :: rhoSU T p x b) (.Name (N "new_pos") y) = some (.int q) := by
  refine ⟨?_, ?_, ?_, ?_⟩ <;> kernel_rfl
theorem u_r (n : Nat) (T : Str) (p q : Int) (x : Str) (b : Bool) : (ev (n + 3)).s sc1 ((N "new_pos", .int q) :: rhoSU T p x b) (stAt 1 2) = some ((N "new_pos", .int q) :: rhoSU T p x b, .ret (.int q)) := by kernel_rfl
theorem m_index : (N "index" == N "index") = true := by simp

theorem su_ (n : Nat) {T : Str} {pre mid post : List Nat} {k : Nat} (hT : T.cps.toList = pre ++ (mid ++ k :: post)) (hk : k ∉ mid) (hm : ∀ c ∈ mid, 32 ≤ c ∧ c ≠ 127) (hl : T.cps.toList.length ≤ 1000) {b : Bool} :
    (ev (n + 9)).c (N "skip_until") [.str T, .int (pre.length : Nat), .str ⟨#[k]⟩] [(N "error_on", .ill), (N "error_on_eof", .bool b)] = some (.int ((pre.length + mid.length : Nat) : Int)) := by
  have hlen : T.cps.size = T.cps.toList.length := by simp
  have hlen2 : T.cps.toList.length = pre.length + (mid.length + (post.length + 1)) := by rw [hT]; simp
  refine r_call u_sp u_fn u_pl (u_bind T _ ⟨#[k]⟩ b) (ρ' := (N "new_pos", .int ((pre.length + mid.length : Nat) : Int)) :: rhoSU T (pre.length : Nat) ⟨#[k]⟩ b) ?_
  rw [u_body]
  refine r_cons (ρ' := (N "new_pos", .int ((pre.length + mid.length : Nat) : Int)) :: rhoSU T (pre.length : Nat) ⟨#[k]⟩ b) ?_ (r_cons (ρ' := (N "new_pos", .int ((pre.length + mid.length : Nat) : Int)) :: rhoSU T (pre.length : Nat) ⟨#[k]⟩ b) ?_ (r_ret (u_r (n + 5) T _ _ _ _)))
  · rw [u_try]
    refine r_try (r_one ?_)
    rw [u_s0]
    refine r_asg u_own ((u_e0 (n + 3) T _ _ _).trans ?_)
    show (if (N "index" == N "index" && decide ((0 : Int) ≤ ((pre.length : Nat) : Int))) = true then (findL k ((pre.length : Nat) : Int).toNat (T.cps.toList.drop ((pre.length : Nat) : Int).toNat)).map (fun (i : Nat) => D.int (i : Int)) else none) = _
    rw [if_pos (by simp), hT, Int.toNat_natCast, List.drop_left, findL_at _ hk]
    rfl
  · rw [u_s1]
    obtain ⟨e1, e2, e3, e4⟩ := u_n (n + 2) T (pre.length : Nat) ((pre.length + mid.length : Nat) : Int) ⟨#[k]⟩ b default
    refine r_ifF ((r_not (b := true) ((r_tcall (d := .bool true) ?_).trans rfl)).trans rfl) r_nil
    refine (r_meth u_line (u_n (n + 3) T _ _ _ _ _).1 ((r_slice (u_n (n + 2) T _ _ _ _ _).2.1 (u_n (n + 2) T _ _ _ _ _).2.2.1 (u_n (n + 2) T _ _ _ _ _).2.2.2 (by lia) (by lia)).trans ?_) (y := .str ⟨mid.toArray⟩)).trans ?_
    · show (if (smallL T.cps.size && ((some pre.length).isSome || (some (pre.length + mid.length)).isSome) && decide (pre.length ≤ pre.length + mid.length) && decide (pre.length + mid.length ≤ T.cps.size)) = true then some (D.str ⟨(cutL (some pre.length) (some (pre.length + mid.length)) T.cps.toList).toArray⟩) else none) = _
      rw [if_pos (by simp [smallL]; lia)]
      have : cutL (some pre.length) (some (pre.length + mid.length)) T.cps.toList = mid := by
        unfold cutL
        rw [hT]
        simp [List.take_append, List.drop_append]
      rw [this]
    · show (if (N "isdisjoint" == N "isdisjoint" && (mid.toArray.toList.all fun c => decide (32 ≤ c) && decide (c ≠ 127))) = true then some (D.bool true) else none) = _
      rw [if_pos ?_]
      simp only [Bool.and_eq_true, List.all_eq_true, decide_eq_true_eq]
      exact ⟨beq_self_eq_true _, fun c hc => hm c (by simpa using hc)⟩
end Mine.PL
end
noncomputable section
open PySem PySem.W PyProof.Rows PySem.Challenge PySem.SeqAt
set_option maxRecDepth 100000
set_option linter.unusedVariables false
namespace Mine.PL

/-! skip_comment -/
noncomputable def sc2 : Scope := (dAt 2).scope
noncomputable def m0 : Stmt := nth (bodyS (stAt 2 0)) 0
noncomputable def m1 : Stmt := stAt 2 1
noncomputable def m1r : Stmt := nth (bodyS m1) 0
theorem c_fn : fnOf (N "skip_comment") = some 2 := by kernel_rfl
theorem c_sp : specNames.contains (N "skip_comment") = false := by kernel_rfl
theorem c_pl : plainD (dAt 2) = true := by kernel_rfl
theorem c_body : (dAt 2).body = [stAt 2 0, m1, stAt 2 2] := by kernel_rfl
theorem c_try : stAt 2 0 = .Try [m0] [hd1 (stAt 2 0)] [] [] (posS (stAt 2 0)) := by kernel_rfl
theorem c_m0 : m0 = .Assign [.Name (N "char") (tgtS m0).pos] (valS m0) (posS m0) := by kernel_rfl
theorem c_m1 : m1 = .If (.Compare (.Name (N "char") (atE 0 (valS m1)).pos) [.Eq] [atE 1 (valS m1)] (valS m1).pos) [m1r] [] (posS m1) := by kernel_rfl
theorem c_m1r : m1r = .Return (some (valS m1r)) (posS m1r) := by kernel_rfl
theorem c_own : isOwn sc2 (N "char") = true := by kernel_rfl
theorem c_mk : behindInMarks .Eq (atE 1 (valS m1)) = false := by kernel_rfl
noncomputable def rhoCm (T : Str) (p : Int) : Rho := [(N "src", .str T), (N "pos", .int p)]
theorem c_bind (T : Str) (p : Int) : bindA (dAt 2) [.str T, .int p] [] = some (rhoCm T p) := by kernel_rfl
theorem c_e0 (n : Nat) (T : Str) (p : Int) : (ev (n + 3)).e sc2 (rhoCm T p) (valS m0) = getD (.str T) (.int p) := by kernel_rfl
theorem c_e1 (n : Nat) (T : Str) (p : Int) (d : D) (y : Pos) : (ev (n + 1)).e sc2 ((N "char", d) :: rhoCm T p) (.Name (N "char") y) = some d := by kernel_rfl
theorem c_e2 (n : Nat) (T : Str) (p : Int) (d : D) : (ev (n + 1)).e sc2 ((N "char", d) :: rhoCm T p) (atE 1 (valS m1)) = some (.str ⟨#[35]⟩) := by kernel_rfl
theorem c_e3 (n : Nat) (T : Str) (p : Int) (d : D) : (ev (n + 4)).e sc2 ((N "char", d) :: rhoCm T p) (valS m1r) = (ev (n + 3)).c (N "skip_until") [.str T, .int (p + 1), .str ⟨#[10]⟩] [(N "error_on", .ill), (N "error_on_eof", .bool false)] := by kernel_rfl
theorem c_r (n : Nat) (T : Str) (p : Int) (d : D) : (ev (n + 3)).s sc2 ((N "char", d) :: rhoCm T p) (stAt 2 2) = some ((N "char", d) :: rhoCm T p, .ret (.int p)) := by kernel_rfl

section
variable {T : Str} {p c d : Nat}
theorem cm0 (n : Nat) (h : T.cps.toList[p]? = some c) (hp : p ≤ 999999) (hw : eqD (.str ⟨#[c]⟩) (.str ⟨#[35]⟩) = some false) : (ev (n + 8)).c (N "skip_comment") [.str T, .int p] [] = some (.int p) := by
  refine r_call c_sp c_fn c_pl (c_bind T p) (ρ' := (N "char", .str ⟨#[c]⟩) :: rhoCm T p) ?_
  rw [c_body]
  refine r_cons (ρ' := (N "char", .str ⟨#[c]⟩) :: rhoCm T p) ?_ (r_cons (ρ' := (N "char", .str ⟨#[c]⟩) :: rhoCm T p) ?_ (r_ret (c_r (n + 4) T p _)))
  · rw [c_try]
    refine r_try (r_one ?_)
    rw [c_m0]
    exact r_asg c_own ((c_e0 (n + 2) T p).trans (getS h (by lia)))
  · rw [c_m1]
    exact r_ifF ((r_cmp c_mk (c_e1 (n + 4) T p _ _) (c_e2 (n + 4) T p _)).trans hw) r_nil
theorem cm1 (n : Nat) {pre mid post : List Nat} (hT : T.cps.toList = pre ++ (35 :: (mid ++ 10 :: post))) (hk : 10 ∉ mid) (hm : ∀ c ∈ mid, 32 ≤ c ∧ c ≠ 127) (hl : T.cps.toList.length ≤ 1000) :
    (ev (n + 14)).c (N "skip_comment") [.str T, .int (pre.length : Nat)] [] = some (.int ((pre.length + 1 + mid.length : Nat) : Int)) := by
  have hp : T.cps.toList[pre.length]? = some 35 := by rw [hT]; simp
  have hl' : pre.length ≤ 1000 := by rw [hT] at hl; simp at hl; lia
  refine r_call c_sp c_fn c_pl (c_bind T _) (ρ' := (N "char", .str ⟨#[35]⟩) :: rhoCm T (pre.length : Nat)) ?_
  rw [c_body]
  refine r_cons (ρ' := (N "char", .str ⟨#[35]⟩) :: rhoCm T (pre.length : Nat)) ?_ (r_ret ?_)
  · rw [c_try]
    refine r_try (r_one ?_)
    rw [c_m0]
    exact r_asg c_own ((c_e0 (n + 8) T _).trans (getS hp (by lia)))
  · rw [c_m1]
    refine r_ifT ((r_cmp c_mk (c_e1 (n + 10) T _ _ _) (c_e2 (n + 10) T _ _)).trans (by kernel_rfl)) (r_one ?_)
    rw [c_m1r]
    refine r_return ((c_e3 (n + 7) T _ _).trans ?_)
    have hT' : T.cps.toList = (pre ++ [35]) ++ (mid ++ 10 :: post) := by rw [hT]; simp
    have := su_ (n + 1) hT' hk hm hl (b := false)
    rw [List.length_append] at this
    exact this
end

/-! skip_comments_and_array_ws -/
noncomputable def sc3 : Scope := (dAt 3).scope
noncomputable def a0 : Stmt := nth (bodyS (stAt 3 0)) 0
noncomputable def a1 : Stmt := nth (bodyS (stAt 3 0)) 1
noncomputable def a2 : Stmt := nth (bodyS (stAt 3 0)) 2
noncomputable def a3 : Stmt := nth (bodyS (stAt 3 0)) 3
theorem w_fn : fnOf (N "skip_comments_and_array_ws") = some 3 := by kernel_rfl
theorem w_sp : specNames.contains (N "skip_comments_and_array_ws") = false := by kernel_rfl
theorem w_pl : plainD (dAt 3) = true := by kernel_rfl
theorem w_body : (dAt 3).body = [stAt 3 0] := by kernel_rfl
theorem w_wh : stAt 3 0 = .While (valS (stAt 3 0)) [a0, a1, a2, a3] [] (posS (stAt 3 0)) := by kernel_rfl
theorem w_a0 (n : Nat) (ρ : Rho) (p : Int) : (ev (n + 2)).s sc3 ((N "pos", .int p) :: ρ) a0 = some ((N "pos_before_skip", .int p) :: (N "pos", .int p) :: ρ, .next) := by kernel_rfl
end Mine.PL
end
noncomputable section
open PySem PySem.W PyProof.Rows PySem.Challenge PySem.SeqAt
set_option maxRecDepth 100000
set_option linter.unusedVariables false
namespace Mine.PL

section
variable {n i : Nat} {sc : Scope} {ρ ρ' : Rho} {c : Expr} {p : Pos} {d d1 d2 d3 : D}
theorem r_name {x : Str} {y : Pos} (h : (isVar sc x && goodName x) = true) (hl : ρ.lookup x = some d) : (ev (n + 1)).e sc ρ (.Name x y) = some d := by
  show (if isVar sc x && goodName x then ρ.lookup x else _) = _
  rw [if_pos h, hl]
theorem r_call3 {f : Str} {pf : Pos} {y2 : Str} {p2 : Pos} {e1 e3 : Expr} {r : D} (h0 : (isGlob sc f && goodName f) = true) (hb : builtNames.contains f = false) (h1 : (ev n).e sc ρ e1 = some d1) (h2 : (ev n).e sc ρ (.Name y2 p2) = some d2) (h3 : (ev n).e sc ρ e3 = some d3) (hc : (ev n).c f [d1, d2, d3] [] = some r) :
    (ev (n + 1)).e sc ρ (.Call (.Name f pf) [e1, .Name y2 p2, e3] [] p) = some r := by
  have hs : (ev (n + 1)).e sc ρ (.Call (.Name f pf) [e1, .Name y2 p2, e3] [] p) = (if isGlob sc f && goodName f then (match mapO ((ev n).e sc ρ) [e1, .Name y2 p2, e3], (some [] : Option (List (Str × D))) with
    | some as, some kw => if builtNames.contains f && kw.isEmpty then builtD f as else (ev n).c f as kw
    | _, _ => none) else none) := by rfl
  rw [hs, if_pos h0]
  simp only [mapO, h1, h2, h3, Option.map_some, hb, Bool.false_and, Bool.false_eq_true, if_false, hc]
theorem r_call2n {f y : Str} {pf py : Pos} {e1 : Expr} {r : D} (h0 : (isGlob sc f && goodName f) = true) (hb : (f == Str.ofString "isinstance") = false) (h1 : (ev n).e sc ρ e1 = some d1) (h2 : (ev n).e sc ρ (.Name y py) = some d2) (hc : (ev n).c f [d1, d2] [] = some r) :
    (ev (n + 1)).e sc ρ (.Call (.Name f pf) [e1, .Name y py] [] p) = some r := by
  have hs : (ev (n + 1)).e sc ρ (.Call (.Name f pf) [e1, .Name y py] [] p) = (if isGlob sc f && goodName f && isGlob sc y && goodName y && f == Str.ofString "isinstance" && y == Str.ofString "str" then (match (ev n).e sc ρ e1 with
      | some (.str _) => some (.bool true)
      | _ => none)
    else (match (ev n).e sc ρ e1, (ev n).e sc ρ (.Name y py) with
      | some d, some b => if isGlob sc f && goodName f then (ev n).c f [d, b] [] else none
      | _, _ => none)) := by rfl
  rw [hs, hb, h1, h2]
  simp only [Bool.and_false, Bool.false_and, Bool.false_eq_true, if_false, h0, if_true, hc]
end

theorem w_a1 : a1 = .Assign [.Name (N "pos") (tgtS a1).pos] (.Call (.Name (N "skip_chars") (atE 0 (valS a1)).pos) [.Name (N "src") (atE 1 (valS a1)).pos, .Name (N "pos") (atE 2 (valS a1)).pos, .Name (N "TOML_WS_AND_NEWLINE") (match valS a1 with | .Call _ [_, _, e] _ _ => e.pos | _ => default)] [] (valS a1).pos) (posS a1) := by kernel_rfl
theorem w_a2 : a2 = .Assign [.Name (N "pos") (tgtS a2).pos] (.Call (.Name (N "skip_comment") (atE 0 (valS a2)).pos) [.Name (N "src") (atE 1 (valS a2)).pos, .Name (N "pos") (atE 2 (valS a2)).pos] [] (valS a2).pos) (posS a2) := by kernel_rfl
theorem w_a3 : a3 = .If (.Compare (.Name (N "pos") (atE 0 (valS a3)).pos) [.Eq] [.Name (N "pos_before_skip") (atE 1 (valS a3)).pos] (valS a3).pos) [.Return (some (.Name (N "pos") (valS (nth (bodyS a3) 0)).pos)) (posS (nth (bodyS a3) 0))] [] (posS a3) := by kernel_rfl
theorem w_a0s : a0 = .Assign [.Name (N "pos_before_skip") (tgtS a0).pos] (.Name (N "pos") (valS a0).pos) (posS a0) := by kernel_rfl
theorem w_own0 : isOwn sc3 (N "pos_before_skip") = true := by kernel_rfl
theorem w_own : isOwn sc3 (N "pos") = true := by kernel_rfl
theorem w_vs : (isVar sc3 (N "src") && goodName (N "src")) = true := by kernel_rfl
theorem w_vp : (isVar sc3 (N "pos") && goodName (N "pos")) = true := by kernel_rfl
theorem w_vb : (isVar sc3 (N "pos_before_skip") && goodName (N "pos_before_skip")) = true := by kernel_rfl
theorem w_g1 : (isGlob sc3 (N "skip_chars") && goodName (N "skip_chars")) = true := by kernel_rfl
theorem w_g2 : (isGlob sc3 (N "skip_comment") && goodName (N "skip_comment")) = true := by kernel_rfl
theorem w_b1 : builtNames.contains (N "skip_chars") = false := by kernel_rfl
theorem w_i2 : (N "skip_comment" == Str.ofString "isinstance") = false := by kernel_rfl
theorem w_ws (n : Nat) (ρ : Rho) (y : Pos) : (ev (n + 1)).e sc3 ρ (.Name (N "TOML_WS_AND_NEWLINE") y) = some .ws := by kernel_rfl
theorem w_true (n : Nat) (ρ : Rho) : (ev (n + 2)).t sc3 ρ (valS (stAt 3 0)) = some true := by kernel_rfl
theorem ne_sp : (N "src" == N "pos") = false := by kernel_rfl
theorem ne_sb : (N "src" == N "pos_before_skip") = false := by kernel_rfl
theorem ne_pb : (N "pos" == N "pos_before_skip") = false := by kernel_rfl
theorem ne_bp : (N "pos_before_skip" == N "pos") = false := by kernel_rfl
theorem eq_int (p q : Int) : eqD (.int p) (.int q) = some (p == q) := by
  kernel_rfl

section
variable {T : Str} {ρ : Rho} {p q r : Int}
noncomputable def rhoW (p q r : Int) (ρ : Rho) : Rho := (N "pos", .int r) :: (N "pos", .int q) :: (N "pos_before_skip", .int p) :: ρ
theorem iterA (n : Nat) (hs : ρ.lookup (N "src") = some (.str T)) (hp : ρ.lookup (N "pos") = some (.int p)) (h1 : (ev (n + 3)).c (N "skip_chars") [.str T, .int p, .ws] [] = some (.int q)) (h2 : (ev (n + 3)).c (N "skip_comment") [.str T, .int q] [] = some (.int r)) :
    exL ((ev (n + 5)).s sc3) ρ [a0, a1, a2, a3] = if p = r then some (rhoW p q r ρ, .ret (.int r)) else some (rhoW p q r ρ, .next) := by
  refine r_cons (ρ' := (N "pos_before_skip", .int p) :: ρ) ?_ (r_cons (ρ' := (N "pos", .int q) :: (N "pos_before_skip", .int p) :: ρ) ?_ (r_cons (ρ' := rhoW p q r ρ) ?_ ?_))
  · rw [w_a0s]
    exact r_asg w_own0 (r_name w_vp hp)
  · rw [w_a1]
    refine r_asg w_own (r_call3 w_g1 w_b1 (r_name w_vs ?_) (r_name w_vp ?_) (w_ws _ _ _) h1)
    · simp only [List.lookup_cons, ne_sb, hs]
    · simp only [List.lookup_cons, ne_pb, hp]
  · rw [w_a2]
    refine r_asg w_own (r_call2n w_g2 w_i2 (r_name w_vs ?_) (r_name w_vp ?_) h2)
    · simp only [List.lookup_cons, ne_sp, ne_sb, hs]
    · simp only [List.lookup_cons, beq_self_eq_true]
  · rw [w_a3]
    have ht : (ev (n + 4)).t sc3 (rhoW p q r ρ) (.Compare (.Name (N "pos") (atE 0 (valS a3)).pos) [.Eq] [.Name (N "pos_before_skip") (atE 1 (valS a3)).pos] (valS a3).pos) = some (r == p) := by
      refine (r_cmp rfl (r_name w_vp (d := .int r) ?_) (r_name w_vb (d := .int p) ?_)).trans (eq_int r p)
      · unfold rhoW; simp only [List.lookup_cons, beq_self_eq_true]
      · unfold rhoW; simp only [List.lookup_cons, ne_bp, beq_self_eq_true]
    by_cases hpr : p = r
    · rw [if_pos hpr]
      refine r_ret (r_ifT (ht.trans (by simp [hpr])) (r_one (r_return (r_name w_vp ?_))))
      unfold rhoW; simp only [List.lookup_cons, beq_self_eq_true]
    · rw [if_neg hpr]
      refine r_cons (r_ifF (ht.trans (by simp; exact fun e => hpr e.symm)) r_nil) r_nil
theorem rhoW_s (hs : ρ.lookup (N "src") = some (.str T)) : (rhoW p q r ρ).lookup (N "src") = some (.str T) := by
  unfold rhoW; simp only [List.lookup_cons, ne_sp, ne_sb, hs]
theorem rhoW_p : (rhoW p q r ρ).lookup (N "pos") = some (.int r) := by
  unfold rhoW; simp only [List.lookup_cons, beq_self_eq_true]
theorem w_bind (T : Str) (p : Int) : bindA (dAt 3) [.str T, .int p] [] = some [(N "src", .str T), (N "pos", .int p)] := by kernel_rfl

/-- the blanks and the comment from one place to another -/
noncomputable def SkTo (T : Str) (p q : Nat) : Prop := ∀ n, (ev (n + 30)).c (N "skip_comments_and_array_ws") [.str T, .int (p : Int)] [] = some (.int (q : Int))
/-- one turn's two calls -/
noncomputable def One (T : Str) (p q r : Nat) : Prop := ∀ n, (ev (n + 20)).c (N "skip_chars") [.str T, .int (p : Int), .ws] [] = some (.int (q : Int)) ∧ (ev (n + 20)).c (N "skip_comment") [.str T, .int (q : Int)] [] = some (.int (r : Int))
theorem sk_of {T : Str} {p q : Nat} (h : ∀ n, ∃ ρ', (ev (n + 28)).w sc3 [(N "src", .str T), (N "pos", .int (p : Int))] (valS (stAt 3 0)) [a0, a1, a2, a3] = some (ρ', .ret (.int (q : Int)))) : SkTo T p q := fun n => by
  obtain ⟨ρ', h⟩ := h n
  refine r_call w_sp w_fn w_pl (w_bind T p) (ρ' := ρ') ?_
  rw [w_body]
  refine r_one ?_
  rw [w_wh]
  exact r_while h
theorem w_last {T : Str} {ρ : Rho} {p q : Nat} (n : Nat) (hs : ρ.lookup (N "src") = some (.str T)) (hp : ρ.lookup (N "pos") = some (.int (p : Int))) (h : One T p q p) : ∃ ρ', (ev (n + 23)).w sc3 ρ (valS (stAt 3 0)) [a0, a1, a2, a3] = some (ρ', .ret (.int (p : Int))) := by
  refine ⟨_, r_wR (w_true (n + 20) ρ) ((iterA (n + 17) hs hp (h n).1 (h n).2).trans (if_pos rfl))⟩
theorem w_more {T : Str} {ρ : Rho} {p q r z : Nat} (n : Nat) (hs : ρ.lookup (N "src") = some (.str T)) (hp : ρ.lookup (N "pos") = some (.int (p : Int))) (h : One T p q r) (hpr : p ≠ r)
    (hn : ∀ ρ : Rho, ρ.lookup (N "src") = some (.str T) → ρ.lookup (N "pos") = some (.int (r : Int)) → ∃ ρ', (ev (n + 22)).w sc3 ρ (valS (stAt 3 0)) [a0, a1, a2, a3] = some (ρ', .ret (.int (z : Int)))) :
    ∃ ρ', (ev (n + 23)).w sc3 ρ (valS (stAt 3 0)) [a0, a1, a2, a3] = some (ρ', .ret (.int (z : Int))) := by
  obtain ⟨ρ', e⟩ := hn (rhoW p q r ρ) (rhoW_s hs) rhoW_p
  refine ⟨ρ', r_wT (w_true (n + 20) ρ) ((iterA (n + 17) hs hp (h n).1 (h n).2).trans (if_neg (by lia))) e⟩
end
end Mine.PL
end
noncomputable section
open PySem PySem.W PyProof.Rows PySem.Challenge PySem.SeqAt
set_option maxRecDepth 100000
set_option linter.unusedVariables false
namespace Mine.PL

noncomputable def GoodC (c : Nat) : Prop := SWs ⟨#[c]⟩ = false ∧ eqD (.str ⟨#[c]⟩) (.str ⟨#[35]⟩) = some false
theorem good39 : GoodC 39 := ⟨by kernel_rfl, by kernel_rfl⟩
theorem good44 : GoodC 44 := ⟨by kernel_rfl, by kernel_rfl⟩
theorem good93 : GoodC 93 := ⟨by kernel_rfl, by kernel_rfl⟩
noncomputable def cmt : List Nat := [32, 105, 116, 39, 115, 44, 32, 115, 111, 93]
noncomputable def sepL : Nat → List Nat
  | 0 => []
  | 1 => [32]
  | 2 => [10]
  | 3 => [9]
  | _ => 32 :: 35 :: (cmt ++ [10])

section
variable {T : Str} {p q : Nat}
theorem lk_s (T : Str) (p : Int) : List.lookup (N "src") [(N "src", D.str T), (N "pos", .int p)] = some (.str T) := by kernel_rfl
theorem lk_p (T : Str) (p : Int) : List.lookup (N "pos") [(N "src", D.str T), (N "pos", .int p)] = some (.int p) := by kernel_rfl
theorem one0 {c : Nat} (h : T.cps.toList[p]? = some c) (hp : p ≤ 999999) (g : GoodC c) : One T p p p := fun n => ⟨skc0 (n + 12) h hp g.1, cm0 (n + 12) h hp g.2⟩
theorem one1 {b c : Nat} (hb : T.cps.toList[p]? = some b) (hw : SWs ⟨#[b]⟩ = true) (h : T.cps.toList[p + 1]? = some c) (hp : p ≤ 999998) (g : GoodC c) : One T p (p + 1) (p + 1) :=
  fun n => ⟨skc1 (n + 11) hb (by lia) hw h g.1, cm0 (n + 12) h (by lia) g.2⟩
theorem sk0 (h : One T p p p) : SkTo T p p := sk_of fun n => w_last (n + 5) (lk_s T p) (lk_p T p) h
theorem sk1 (h1 : One T p q q) (h2 : One T q q q) (hne : p ≠ q) : SkTo T p q := sk_of fun n => w_more (n + 5) (lk_s T p) (lk_p T p) h1 hne fun ρ hs hp => w_last (n + 4) hs hp h2
theorem sk3 {r x : Nat} (h1 : One T p r q) (h2 : One T q x x) (h3 : One T x x x) (hne : p ≠ q) (hne2 : q ≠ x) : SkTo T p x := sk_of fun n => w_more (n + 5) (lk_s T p) (lk_p T p) h1 hne fun ρ hs hp => w_more (n + 4) hs hp h2 hne2 fun ρ hs hp => w_last (n + 3) hs hp h3

theorem sk_sep {pre post : List Nat} {i c : Nat} (hi : i < 5) (hT : T.cps.toList = pre ++ (sepL i ++ c :: post)) (g : GoodC c) (hl : T.cps.toList.length ≤ 1000) : SkTo T pre.length (pre.length + (sepL i).length) := by
  have at_ : ∀ j, T.cps.toList[pre.length + j]? = (sepL i ++ c :: post)[j]? := fun j => by
    rw [hT, List.getElem?_append_right (by lia)]; congr 1; lia
  have hp : pre.length + (sepL i).length + 1 ≤ 1000 := by rw [hT] at hl; simp at hl; lia
  have hlast : T.cps.toList[pre.length + (sepL i).length]? = some c := by rw [at_, List.getElem?_append_right (Nat.le_refl _)]; simp
  have blank : ∀ b, (∃ i', sepL i = [b] ∧ i' = i) → SWs ⟨#[b]⟩ = true → SkTo T pre.length (pre.length + (sepL i).length) := by
    rintro b ⟨_, hb, _⟩ hw
    have h0 := at_ 0
    rw [hb] at hlast hp ⊢
    rw [hb] at h0
    exact sk1 (one1 (by simpa using h0) hw hlast (by simp at hp; lia) g) (one0 hlast (by lia) g) (by simp)
  rcases i with _ | _ | _ | _ | _ | i
  · exact sk0 (one0 hlast (by simp at hp; lia) g)
  · exact blank 32 ⟨1, rfl, rfl⟩ (by kernel_rfl)
  · exact blank 10 ⟨2, rfl, rfl⟩ (by kernel_rfl)
  · exact blank 9 ⟨3, rfl, rfl⟩ (by kernel_rfl)
  · have e13 : (sepL 4).length = 13 := rfl
    have h0 : T.cps.toList[pre.length]? = some 32 := by simpa [sepL] using at_ 0
    have h1 : T.cps.toList[pre.length + 1]? = some 35 := by simpa [sepL] using at_ 1
    have h12 : T.cps.toList[pre.length + 12]? = some 10 := by simpa [sepL, cmt] using at_ 12
    rw [e13] at hlast hp ⊢
    have hT' : T.cps.toList = (pre ++ [32]) ++ (35 :: (cmt ++ 10 :: (c :: post))) := by rw [hT]; simp [sepL]
    have hc : One T pre.length (pre.length + 1) (pre.length + 12) := fun n => ⟨skc1 (n + 11) h0 (by lia) (by kernel_rfl) h1 (by kernel_rfl), by
      have := cm1 (n + 6) hT' (by decide) (by decide) hl
      rw [List.length_append] at this
      exact this⟩
    exact sk3 hc (one1 h12 (by kernel_rfl) hlast (by lia) g) (one0 hlast (by lia) g) (by lia) (by lia)
  · exact absurd hi (by lia)
end
end Mine.PL
end
noncomputable section
open PySem PySem.W PyProof.Rows PySem.Challenge PySem.SeqAt
set_option maxRecDepth 100000
set_option linter.unusedVariables false
namespace Mine.PL

section
variable {n i : Nat} {sc : Scope} {ρ ρ' : Rho} {c : Expr} {p : Pos} {d d1 d2 d3 : D}
theorem r_tup2 {a b : Expr} {kk : Nat} (h1 : (ev n).e sc ρ a = some d1) (h2 : (ev n).e sc ρ b = some d2) : (ev (n + 1)).e sc ρ (.Tuple [a, b] kk p) = some (.tup [d1, d2]) := by
  have hs : (ev (n + 1)).e sc ρ (.Tuple [a, b] kk p) = (if smallL 2 then (mapO ((ev n).e sc ρ) [a, b]).map D.tup else none) := by rfl
  rw [hs, if_pos (by decide)]
  simp only [mapO, h1, h2, Option.map_some]
end

noncomputable def sc4 : Scope := (dAt 4).scope
noncomputable def l2 : Stmt := stAt 4 2
noncomputable def l3 : Stmt := stAt 4 3
noncomputable def lS : Expr := elE 1 (valS l3)
theorem p_fn : fnOf (N "parse_literal_str") = some 4 := by kernel_rfl
theorem p_sp : specNames.contains (N "parse_literal_str") = false := by kernel_rfl
theorem p_pl : plainD (dAt 4) = true := by kernel_rfl
theorem p_body : (dAt 4).body = [stAt 4 0, stAt 4 1, l2, l3] := by kernel_rfl
theorem p_l2 : l2 = .Assign [.Name (N "pos") (tgtS l2).pos] (valS l2) (posS l2) := by kernel_rfl
theorem p_l3 : l3 = .Return (some (.Tuple [elE 0 (valS l3), .Subscript (.Name (N "src") (atE 0 lS).pos) (.Slice (some (.Name (N "start_pos") (slL lS).pos)) (some (.Name (N "pos") (slH lS).pos)) none (slP lS)) lS.pos] (tupK (valS l3)) (valS l3).pos)) (posS l3) := by kernel_rfl
theorem p_own : isOwn sc4 (N "pos") = true := by kernel_rfl
noncomputable def rhoP (T : Str) (p : Int) : Rho := [(N "src", .str T), (N "pos", .int p)]
noncomputable def rhoP2 (T : Str) (p : Int) : Rho := (N "start_pos", .int (p + 1)) :: (N "pos", .int (p + 1)) :: rhoP T p
theorem p_bind (T : Str) (p : Int) : bindA (dAt 4) [.str T, .int p] [] = some (rhoP T p) := by kernel_rfl
theorem p_0 (n : Nat) (T : Str) (p : Int) : (ev (n + 3)).s sc4 (rhoP T p) (stAt 4 0) = some ((N "pos", .int (p + 1)) :: rhoP T p, .next) := by kernel_rfl
theorem p_1 (n : Nat) (T : Str) (p : Int) : (ev (n + 3)).s sc4 ((N "pos", .int (p + 1)) :: rhoP T p) (stAt 4 1) = some (rhoP2 T p, .next) := by kernel_rfl
theorem p_2 (n : Nat) (T : Str) (p : Int) : (ev (n + 4)).e sc4 (rhoP2 T p) (valS l2) = (ev (n + 3)).c (N "skip_until") [.str T, .int (p + 1), .str ⟨#[39]⟩] [(N "error_on", .ill), (N "error_on_eof", .bool true)] := by kernel_rfl
theorem p_3a (n : Nat) (T : Str) (p q : Int) : (ev (n + 3)).e sc4 ((N "pos", .int q) :: rhoP2 T p) (elE 0 (valS l3)) = some (.int (q + 1)) := by kernel_rfl
theorem p_n (n : Nat) (T : Str) (p q : Int) (y : Pos) : (ev (n + 1)).e sc4 ((N "pos", .int q) :: rhoP2 T p) (.Name (N "src") y) = some (.str T) ∧ (ev (n + 1)).e sc4 ((N "pos", .int q) :: rhoP2 T p) (.Name (N "start_pos") y) = some (.int (p + 1)) ∧
    (ev (n + 1)).e sc4 ((N "pos", .int q) :: rhoP2 T p) (.Name (N "pos") y) = some (.int q) := by
  refine ⟨?_, ?_, ?_⟩ <;> kernel_rfl

theorem slice_at {T : Str} {pre mid post : List Nat} (hT : T.cps.toList = pre ++ (mid ++ post)) (hl : T.cps.toList.length ≤ 1000) : sliceD (.str T) (some pre.length) (some (pre.length + mid.length)) false = some (.str ⟨mid.toArray⟩) := by
  have hlen : T.cps.size = T.cps.toList.length := by simp
  have hlen2 : T.cps.toList.length = pre.length + (mid.length + post.length) := by rw [hT]; simp
  show (if (smallL T.cps.size && ((some pre.length).isSome || (some (pre.length + mid.length)).isSome) && decide (pre.length ≤ pre.length + mid.length) && decide (pre.length + mid.length ≤ T.cps.size)) = true then some (D.str ⟨(cutL (some pre.length) (some (pre.length + mid.length)) T.cps.toList).toArray⟩) else none) = _
  rw [if_pos (by simp [smallL]; lia)]
  have : cutL (some pre.length) (some (pre.length + mid.length)) T.cps.toList = mid := by
    unfold cutL
    rw [hT]
    simp [List.take_append]
  rw [this]

theorem lit_ (n : Nat) {T : Str} {pre mid post : List Nat} (hT : T.cps.toList = pre ++ (39 :: (mid ++ 39 :: post))) (hk : 39 ∉ mid) (hm : ∀ c ∈ mid, 32 ≤ c ∧ c ≠ 127) (hl : T.cps.toList.length ≤ 1000) :
    (ev (n + 14)).c (N "parse_literal_str") [.str T, .int (pre.length : Nat)] [] = some (.tup [.int ((pre.length + 1 + mid.length + 1 : Nat) : Int), .str ⟨mid.toArray⟩]) := by
  have hT' : T.cps.toList = (pre ++ [39]) ++ (mid ++ 39 :: post) := by rw [hT]; simp
  have hlen : (pre ++ [39]).length = pre.length + 1 := by simp
  have hl' : pre.length + 1 + mid.length + 1 ≤ 1000 := by rw [hT] at hl; simp at hl; lia
  refine r_call p_sp p_fn p_pl (p_bind T _) (ρ' := (N "pos", .int ((pre.length + 1 + mid.length : Nat) : Int)) :: rhoP2 T (pre.length : Nat)) ?_
  rw [p_body]
  refine r_cons (p_0 (n + 10) T _) (r_cons (p_1 (n + 10) T _) (r_cons (ρ' := (N "pos", .int ((pre.length + 1 + mid.length : Nat) : Int)) :: rhoP2 T (pre.length : Nat)) ?_ (r_ret ?_)))
  · rw [p_l2]
    refine r_asg p_own ((p_2 (n + 8) T _).trans ?_)
    have := su_ (n + 2) hT' hk hm hl (b := true)
    rw [hlen] at this
    exact this
  · rw [p_l3]
    refine r_return (r_tup2 (p_3a (n + 8) T _ _) ((r_slice (i := pre.length + 1) (j := pre.length + 1 + mid.length) (p_n (n + 9) T _ _ _).1 (p_n (n + 9) T _ _ _).2.1 (p_n (n + 9) T _ _ _).2.2 (by lia) (by lia)).trans ?_))
    have := slice_at hT' hl
    rw [hlen] at this
    exact this
end Mine.PL
end
noncomputable section
open PySem PySem.W PyProof.Rows PySem.Challenge PySem.SeqAt
set_option maxRecDepth 100000
set_option linter.unusedVariables false
namespace Mine.PL

section
variable {n i : Nat} {sc : Scope} {ρ ρ' : Rho} {c : Expr} {p : Pos} {d d1 d2 d3 : D}
theorem r_bin {l r : Expr} {op : Operator} (h1 : (ev n).e sc ρ l = some d1) (h2 : (ev n).e sc ρ r = some d2) : (ev (n + 1)).e sc ρ (.BinOp l op r p) = binD op d1 d2 := by
  have hs : (ev (n + 1)).e sc ρ (.BinOp l op r p) = (match (ev n).e sc ρ l, (ev n).e sc ρ r with | some a, some b => binD op a b | _, _ => none) := by rfl
  rw [hs, h1, h2]
theorem r_ifeT {a b : Expr} (h1 : (ev n).t sc ρ c = some true) (h2 : (ev n).e sc ρ a = some d) : (ev (n + 1)).e sc ρ (.IfExp c a b p) = some d := by
  have hs : (ev (n + 1)).e sc ρ (.IfExp c a b p) = (match (ev n).t sc ρ c with | some true => (ev n).e sc ρ a | some false => (ev n).e sc ρ b | none => none) := by rfl
  rw [hs, h1, ← h2]
theorem r_ifeF {a b : Expr} (h1 : (ev n).t sc ρ c = some false) (h2 : (ev n).e sc ρ b = some d) : (ev (n + 1)).e sc ρ (.IfExp c a b p) = some d := by
  have hs : (ev (n + 1)).e sc ρ (.IfExp c a b p) = (match (ev n).t sc ρ c with | some true => (ev n).e sc ρ a | some false => (ev n).e sc ρ b | none => none) := by rfl
  rw [hs, h1, ← h2]
theorem r_subB {v l r : Expr} {op : Operator} {q : Pos} (h1 : (ev n).e sc ρ v = some d1) (h2 : (ev n).e sc ρ (.BinOp l op r q) = some d2) : (ev (n + 1)).e sc ρ (.Subscript v (.BinOp l op r q) p) = getD d1 d2 := by
  have hs : (ev (n + 1)).e sc ρ (.Subscript v (.BinOp l op r q) p) = (match (ev n).e sc ρ v, (ev n).e sc ρ (.BinOp l op r q) with | some d, some j => getD d j | _, _ => none) := by rfl
  rw [hs, h1, h2]
theorem r_built1 {f : Str} {pf : Pos} {e1 : Expr} (h0 : (isGlob sc f && goodName f) = true) (hb : builtNames.contains f = true) (h1 : (ev n).e sc ρ e1 = some d1) : (ev (n + 1)).e sc ρ (.Call (.Name f pf) [e1] [] p) = builtD f [d1] := by
  have hs : (ev (n + 1)).e sc ρ (.Call (.Name f pf) [e1] [] p) = (if isGlob sc f && goodName f then (match mapO ((ev n).e sc ρ) [e1], (some [] : Option (List (Str × D))) with
    | some as, some kw => if builtNames.contains f && kw.isEmpty then builtD f as else (ev n).c f as kw
    | _, _ => none) else none) := by rfl
  rw [hs, if_pos h0]
  simp only [mapO, h1, Option.map_some, hb, List.isEmpty_nil, Bool.and_self, if_true]
theorem r_for {x : Str} {px : Pos} {it : Expr} {b : List Stmt} {ds : List D} {r : Option (Rho × Fl)} (h1 : isOwn sc x = true) (h2 : stepIter (ev n) sc ρ it = some ds) (h3 : forL (fun ρ d => exL ((ev n).s sc) ((x, d) :: ρ) b) ρ ds = r) :
    (ev (n + 1)).s sc ρ (.For (.Name x px) it b [] p) = r := by
  have hs : (ev (n + 1)).s sc ρ (.For (.Name x px) it b [] p) = (if isOwn sc x then (match stepIter (ev n) sc ρ it with | some ds => forL (fun ρ d => exL ((ev n).s sc) ((x, d) :: ρ) b) ρ ds | none => none) else none) := by rfl
  rw [hs, if_pos h1, h2]
  exact h3
end

/-! _law_document -/
noncomputable def sc11 : Scope := (dAt 11).scope
noncomputable def d1 : Stmt := stAt 11 1
noncomputable def forB : Stmt → List Stmt
  | .For _ _ b _ _ => b
  | _ => []
noncomputable def forI : Stmt → Expr
  | .For _ i _ _ _ => i
  | _ => default
noncomputable def forP : Stmt → Pos
  | .For _ _ _ _ p => p
  | _ => default
noncomputable def forT : Stmt → Expr
  | .For t _ _ _ _ => t
  | _ => default
noncomputable def g0 : Stmt := nth (forB d1) 0
noncomputable def g1 : Stmt := nth (forB d1) 1
noncomputable def ifC : Expr → Expr
  | .IfExp c _ _ _ => c
  | e => e
noncomputable def ifA : Expr → Expr
  | .IfExp _ a _ _ => a
  | e => e
noncomputable def ifB : Expr → Expr
  | .IfExp _ _ b _ => b
  | e => e
noncomputable def bL : Expr → Expr
  | .BinOp l _ _ _ => l
  | e => e
noncomputable def bR : Expr → Expr
  | .BinOp _ _ r _ => r
  | e => e
noncomputable def gi : Expr := ifB (valS g0)
theorem d_fn : fnOf (N "_law_document") = some 11 := by kernel_rfl
theorem d_sp : specNames.contains (N "_law_document") = false := by kernel_rfl
theorem d_pl : plainD (dAt 11) = true := by kernel_rfl
theorem d_body : (dAt 11).body = [stAt 11 0, d1, stAt 11 2] := by kernel_rfl
theorem d_for : d1 = .For (.Name (N "k") (forT d1).pos) (.Call (.Name (N "range") (atE 0 (forI d1)).pos) [.BinOp (bL (atE 1 (forI d1))) .Mult (.Call (.Name (N "len") (atE 0 (bR (atE 1 (forI d1)))).pos) [.Name (N "patterns") (atE 1 (bR (atE 1 (forI d1)))).pos] [] (bR (atE 1 (forI d1))).pos) (atE 1 (forI d1)).pos] [] (forI d1).pos) [g0, g1] [] (forP d1) := by kernel_rfl
theorem d_g0 : g0 = .Assign [.Name (N "word") (tgtS g0).pos] (.IfExp (.Compare (.Name (N "k") (atE 0 (ifC (valS g0))).pos) [.Eq] [atE 1 (ifC (valS g0))] (ifC (valS g0)).pos) (ifA (valS g0))
    (.IfExp (.Compare (.BinOp (.Name (N "k") (bL (atE 0 (ifC gi))).pos) .Mod (bR (atE 0 (ifC gi))) (atE 0 (ifC gi)).pos) [.Eq] [atE 1 (ifC gi)] (ifC gi).pos)
      (.BinOp (.BinOp (bL (bL (ifA gi))) .Add (.Subscript (.Name (N "patterns") (atE 0 (bR (bL (ifA gi)))).pos) (.BinOp (.Name (N "k") (bL (atE 1 (bR (bL (ifA gi))))).pos) .FloorDiv (bR (atE 1 (bR (bL (ifA gi))))) (atE 1 (bR (bL (ifA gi)))).pos) (bR (bL (ifA gi))).pos) (bL (ifA gi)).pos) .Add (bR (ifA gi)) (ifA gi).pos) (ifB gi) gi.pos) (valS g0).pos) (posS g0) := by kernel_rfl
theorem d_g1 : g1 = .Assign [.Name (N "text") (tgtS g1).pos] (.BinOp (.BinOp (.Name (N "text") (bL (bL (valS g1))).pos) .Add (.Name (N "word") (bR (bL (valS g1))).pos) (bL (valS g1)).pos) .Add
    (.Subscript (atE 0 (bR (valS g1))) (.BinOp (.BinOp (.Name (N "turn") (bL (bL (atE 1 (bR (valS g1))))).pos) .Add (.Name (N "k") (bR (bL (atE 1 (bR (valS g1))))).pos) (bL (atE 1 (bR (valS g1)))).pos) .Mod (bR (atE 1 (bR (valS g1)))) (atE 1 (bR (valS g1))).pos) (bR (valS g1)).pos) (valS g1).pos) (posS g1) := by kernel_rfl
theorem d_consts (n : Nat) (ρ : Rho) : (ev (n + 1)).e sc11 ρ (atE 1 (ifC (valS g0))) = some (.int 0) ∧ (ev (n + 1)).e sc11 ρ (ifA (valS g0)) = some (.str ⟨#[91]⟩) ∧ (ev (n + 1)).e sc11 ρ (bR (atE 0 (ifC gi))) = some (.int 2) ∧ (ev (n + 1)).e sc11 ρ (atE 1 (ifC gi)) = some (.int 1) ∧
    (ev (n + 1)).e sc11 ρ (bL (bL (ifA gi))) = some (.str ⟨#[39]⟩) ∧ (ev (n + 1)).e sc11 ρ (bR (atE 1 (bR (bL (ifA gi))))) = some (.int 2) ∧ (ev (n + 1)).e sc11 ρ (bR (ifA gi)) = some (.str ⟨#[39]⟩) ∧ (ev (n + 1)).e sc11 ρ (ifB gi) = some (.str ⟨#[44]⟩) ∧
    (ev (n + 1)).e sc11 ρ (bR (atE 1 (bR (valS g1)))) = some (.int 5) ∧ (ev (n + 1)).e sc11 ρ (bL (atE 1 (forI d1))) = some (.int 2) := by
  refine ⟨?_, ?_, ?_, ?_, ?_, ?_, ?_, ?_, ?_, ?_⟩ <;> kernel_rfl
theorem d_seps (n : Nat) (ρ : Rho) : (ev (n + 2)).e sc11 ρ (atE 0 (bR (valS g1))) = some (.lst [.str ⟨(sepL 0).toArray⟩, .str ⟨(sepL 1).toArray⟩, .str ⟨(sepL 2).toArray⟩, .str ⟨(sepL 3).toArray⟩, .str ⟨(sepL 4).toArray⟩]) := by kernel_rfl
theorem d_marks : behindInMarks .Eq (atE 1 (ifC (valS g0))) = false ∧ behindInMarks .Eq (atE 1 (ifC gi)) = false := by refine ⟨?_, ?_⟩ <;> kernel_rfl
end Mine.PL
end
noncomputable section
open PySem PySem.W PyProof.Rows PySem.Challenge PySem.SeqAt
set_option maxRecDepth 100000
set_option linter.unusedVariables false
namespace Mine.PL

theorem getL {l : List D} {j : Nat} {x : D} (h : l[j]? = some x) (hj : j ≤ 999999) : getD (.lst l) (.int (j : Int)) = some x := by
  show (if smallI (j : Int) then (idxOf l.length j).bind (l[·]?) else none) = _
  rw [if_pos (smallI_nat (by lia)), idxOf_nat]; exact h
theorem addS {l m : List Nat} (h : l.length + m.length ≤ 100000) : binD .Add (.str ⟨l.toArray⟩) (.str ⟨m.toArray⟩) = some (.str ⟨(l ++ m).toArray⟩) := by
  have h1 : smallL (l.toArray.toList.length + m.toArray.toList.length) = true := by unfold smallL; simpa using h
  show (if smallL (l.toArray.toList.length + m.toArray.toList.length) then some (D.str (⟨l.toArray⟩ ++ ⟨m.toArray⟩)) else none) = _
  rw [if_pos h1]
  show some (D.str ⟨l.toArray ++ m.toArray⟩) = _
  simp
theorem fmod_nat (a b : Nat) (hb : 0 < b) : (a : Int).fmod (b : Int) = ((a % b : Nat) : Int) := by
  rw [Int.fmod_eq_emod_of_nonneg _ (by lia)]; rfl
theorem fdiv_nat (a b : Nat) : (a : Int).fdiv (b : Int) = ((a / b : Nat) : Int) := by
  rw [Int.fdiv_eq_ediv_of_nonneg _ (by lia)]; rfl

noncomputable def stD (l : List Nat) : D := .str ⟨l.toArray⟩
noncomputable def wordL (ps : List (List Nat)) (k : Nat) : List Nat := if k = 0 then [91] else if k % 2 = 1 then 39 :: ((ps[k / 2]?).getD [] ++ [39]) else [44]
theorem d_own : isOwn sc11 (N "word") = true ∧ isOwn sc11 (N "text") = true ∧ isOwn sc11 (N "k") = true := by refine ⟨?_, ?_, ?_⟩ <;> kernel_rfl
theorem d_var : (isVar sc11 (N "k") && goodName (N "k")) = true ∧ (isVar sc11 (N "patterns") && goodName (N "patterns")) = true ∧ (isVar sc11 (N "text") && goodName (N "text")) = true ∧ (isVar sc11 (N "word") && goodName (N "word")) = true ∧ (isVar sc11 (N "turn") && goodName (N "turn")) = true := by
  refine ⟨?_, ?_, ?_, ?_, ?_⟩ <;> kernel_rfl

section
variable {ρ : Rho} {ps : List (List Nat)} {k : Nat} {z : Int} {X : List Nat}
theorem word_ (n : Nat) (hk : ρ.lookup (N "k") = some (.int (k : Int))) (hp : ρ.lookup (N "patterns") = some (.lst (ps.map stD))) (hlt : k < 2 * ps.length) (hl : ps.length ≤ 100) (h2 : ∀ q ∈ ps, q.length ≤ 100) :
    (ev (n + 8)).s sc11 ρ g0 = some ((N "word", stD (wordL ps k)) :: ρ, .next) := by
  obtain ⟨v1, v2, v3, v4, v5⟩ := d_var
  rw [d_g0]
  refine r_asg d_own.1 ?_
  by_cases h0 : k = 0
  · refine r_ifeT ((r_cmp d_marks.1 (r_name (n := n + 4) v1 hk) (d_consts (n + 4) ρ).1).trans ((eq_int _ _).trans (by simp [h0]))) ?_
    rw [(d_consts (n + 5) ρ).2.1]
    simp [wordL, h0, stD]
  · refine r_ifeF ((r_cmp d_marks.1 (r_name (n := n + 4) v1 hk) (d_consts (n + 4) ρ).1).trans ((eq_int _ _).trans (by simp; lia))) ?_
    have hm : (ev (n + 4)).e sc11 ρ (.BinOp (.Name (N "k") (bL (atE 0 (ifC gi))).pos) .Mod (bR (atE 0 (ifC gi))) (atE 0 (ifC gi)).pos) = some (.int ((k % 2 : Nat) : Int)) := by
      refine (r_bin (r_name (n := n + 2) v1 hk) (d_consts (n + 2) ρ).2.2.1).trans ?_
      show some (D.int ((k : Int).fmod ((2 : Nat) : Int))) = _
      rw [fmod_nat _ _ (by lia)]
    by_cases h1 : k % 2 = 1
    · have hj : k / 2 < ps.length := by lia
      have hq : (ps.map stD)[k / 2]? = some (stD ps[k / 2]) := by simp [hj]
      have hql : (ps[k / 2]).length ≤ 100 := h2 _ (List.getElem_mem hj)
      have hw : wordL ps k = 39 :: (ps[k / 2] ++ [39]) := by simp [wordL, h0, h1, hj]
      refine r_ifeT ((r_cmp d_marks.2 hm (d_consts (n + 3) ρ).2.2.2.1).trans ((eq_int _ _).trans (by simp [h1]))) ?_
      have hdiv : (ev (n + 2)).e sc11 ρ (.BinOp (.Name (N "k") (bL (atE 1 (bR (bL (ifA gi))))).pos) .FloorDiv (bR (atE 1 (bR (bL (ifA gi))))) (atE 1 (bR (bL (ifA gi)))).pos) = some (.int ((k / 2 : Nat) : Int)) := by
        refine (r_bin (r_name (n := n) v1 hk) (d_consts n ρ).2.2.2.2.2.1).trans ?_
        show some (D.int ((k : Int).fdiv ((2 : Nat) : Int))) = _
        rw [fdiv_nat]
      have hsub : (ev (n + 3)).e sc11 ρ (.Subscript (.Name (N "patterns") (atE 0 (bR (bL (ifA gi)))).pos) (.BinOp (.Name (N "k") (bL (atE 1 (bR (bL (ifA gi))))).pos) .FloorDiv (bR (atE 1 (bR (bL (ifA gi))))) (atE 1 (bR (bL (ifA gi)))).pos) (bR (bL (ifA gi))).pos) = some (stD ps[k / 2]) :=
        (r_subB (r_name v2 hp) hdiv).trans (getL hq (by lia))
      have hin : (ev (n + 4)).e sc11 ρ (.BinOp (bL (bL (ifA gi))) .Add (.Subscript (.Name (N "patterns") (atE 0 (bR (bL (ifA gi)))).pos) (.BinOp (.Name (N "k") (bL (atE 1 (bR (bL (ifA gi))))).pos) .FloorDiv (bR (atE 1 (bR (bL (ifA gi))))) (atE 1 (bR (bL (ifA gi)))).pos) (bR (bL (ifA gi))).pos) (bL (ifA gi)).pos) = some (stD (39 :: ps[k / 2])) :=
        (r_bin (d_consts (n + 2) ρ).2.2.2.2.1 hsub).trans (addS (l := [39]) (by simp; lia))
      rw [hw]
      exact (r_bin hin (d_consts (n + 3) ρ).2.2.2.2.2.2.1).trans (addS (l := 39 :: ps[k / 2]) (m := [39]) (by simp; lia))
    · refine r_ifeF ((r_cmp d_marks.2 hm (d_consts (n + 3) ρ).2.2.2.1).trans ((eq_int _ _).trans (by simp; lia))) ?_
      rw [(d_consts (n + 4) ρ).2.2.2.2.2.2.2.1]
      simp [wordL, h0, h1, stD]

theorem lt5 {P : Nat → Prop} {j : Nat} (h : j < 5) (h0 : P 0) (h1 : P 1) (h2 : P 2) (h3 : P 3) (h4 : P 4) : P j := by
  rcases j with _ | _ | _ | _ | _ | j
  · exact h0
  · exact h1
  · exact h2
  · exact h3
  · exact h4
  · exact absurd h (by lia)
theorem text_ (n : Nat) {w : List Nat} (hk : ρ.lookup (N "k") = some (.int (k : Int))) (ht : ρ.lookup (N "turn") = some (.int z)) (hx : ρ.lookup (N "text") = some (stD X)) (hw : ρ.lookup (N "word") = some (stD w)) (h1 : X.length + w.length ≤ 1000) :
    (ev (n + 8)).s sc11 ρ g1 = some ((N "text", stD (X ++ w ++ sepL ((z + k).fmod 5).toNat)) :: ρ, .next) := by
  obtain ⟨v1, v2, v3, v4, v5⟩ := d_var
  rw [d_g1]
  refine r_asg d_own.2.1 ?_
  have hi : (ev (n + 5)).e sc11 ρ (.BinOp (.BinOp (.Name (N "turn") (bL (bL (atE 1 (bR (valS g1))))).pos) .Add (.Name (N "k") (bR (bL (atE 1 (bR (valS g1))))).pos) (bL (atE 1 (bR (valS g1)))).pos) .Mod (bR (atE 1 (bR (valS g1)))) (atE 1 (bR (valS g1))).pos) = some (.int ((z + k).fmod 5)) :=
    (r_bin ((r_bin (r_name (n := n + 2) v5 ht) (r_name v1 hk)).trans rfl) (d_consts (n + 3) ρ).2.2.2.2.2.2.2.2.1).trans rfl
  have hm : ∃ j : Nat, j < 5 ∧ (z + k).fmod 5 = (j : Int) := ⟨((z + k).fmod 5).toNat, by
    have := Int.fmod_nonneg_of_pos (z + k) (b := 5) (by lia)
    have := Int.fmod_lt_of_pos (z + k) (b := 5) (by lia)
    lia, by
    have := Int.fmod_nonneg_of_pos (z + k) (b := 5) (by lia)
    lia⟩
  obtain ⟨j, hj, he⟩ := hm
  have hsep : (ev (n + 6)).e sc11 ρ (.Subscript (atE 0 (bR (valS g1))) (.BinOp (.BinOp (.Name (N "turn") (bL (bL (atE 1 (bR (valS g1))))).pos) .Add (.Name (N "k") (bR (bL (atE 1 (bR (valS g1))))).pos) (bL (atE 1 (bR (valS g1)))).pos) .Mod (bR (atE 1 (bR (valS g1)))) (atE 1 (bR (valS g1))).pos) (bR (valS g1)).pos) = some (stD (sepL j)) := by
    refine (r_subB (d_seps (n + 3) ρ) hi).trans ?_
    rw [he]
    refine getL ?_ (by lia)
    rcases j with _ | _ | _ | _ | _ | j
    · rfl
    · rfl
    · rfl
    · rfl
    · rfl
    · exact absurd hj (by lia)
  rw [he, Int.toNat_natCast]
  have hls : (sepL j).length ≤ 13 := lt5 (P := fun j => (sepL j).length ≤ 13) hj (by decide) (by decide) (by decide) (by decide) (by decide)
  exact (r_bin ((r_bin (r_name (n := n + 4) v3 hx) (r_name v4 hw)).trans (addS (by lia))) hsep).trans (addS (by simp; lia))
end
end Mine.PL
end
noncomputable section
open PySem PySem.W PyProof.Rows PySem.Challenge PySem.SeqAt
set_option maxRecDepth 100000
set_option linter.unusedVariables false
namespace Mine.PL

noncomputable def docT (ps : List (List Nat)) (z : Int) : Nat → List Nat
  | 0 => []
  | k + 1 => docT ps z k ++ wordL ps k ++ sepL ((z + k).fmod 5).toNat
theorem sepL_len (i : Nat) : (sepL i).length ≤ 13 := by
  unfold sepL
  split <;> decide
theorem wordL_len {ps : List (List Nat)} (h2 : ∀ q ∈ ps, q.length ≤ 2) (k : Nat) : (wordL ps k).length ≤ 4 := by
  unfold wordL
  split
  · simp
  · split
    · have : ((ps[k / 2]?).getD []).length ≤ 2 := by
        cases e : ps[k / 2]? with
        | none => simp
        | some q => exact h2 q (List.mem_of_getElem? e)
      simp; lia
    · simp
theorem docT_len {ps : List (List Nat)} (h2 : ∀ q ∈ ps, q.length ≤ 2) (z : Int) : ∀ k, (docT ps z k).length ≤ 17 * k
  | 0 => by simp [docT]
  | k + 1 => by
    have := docT_len h2 z k
    have := sepL_len ((z + k).fmod 5).toNat
    have := wordL_len h2 k
    simp only [docT, List.length_append]; lia

theorem d_s0 (n : Nat) (ρ : Rho) : (ev (n + 2)).s sc11 ρ (stAt 11 0) = some ((N "text", stD []) :: ρ, .next) := by kernel_rfl
theorem d_s2 : stAt 11 2 = .Return (some (.BinOp (.Name (N "text") (bL (valS (stAt 11 2))).pos) .Add (bR (valS (stAt 11 2))) (valS (stAt 11 2)).pos)) (posS (stAt 11 2)) := by kernel_rfl
theorem d_c2 (n : Nat) (ρ : Rho) : (ev (n + 1)).e sc11 ρ (bR (valS (stAt 11 2))) = some (stD [93]) := by kernel_rfl
theorem d_gl : (isGlob sc11 (N "len") && goodName (N "len")) = true ∧ builtNames.contains (N "len") = true ∧ (isGlob sc11 (N "range") && goodName (N "range") && N "range" == Str.ofString "range") = true := by refine ⟨?_, ?_, ?_⟩ <;> kernel_rfl
theorem d_bind (x y : D) : bindA (dAt 11) [x, y] [] = some [(N "patterns", x), (N "turn", y)] := by kernel_rfl
theorem n_wt : (N "text" == N "word") = false ∧ (N "turn" == N "word") = false ∧ (N "patterns" == N "word") = false ∧ (N "k" == N "word") = false ∧ (N "text" == N "k") = false ∧ (N "turn" == N "k") = false ∧ (N "patterns" == N "k") = false ∧ (N "turn" == N "text") = false ∧ (N "patterns" == N "text") = false ∧ (N "word" == N "text") = false := by
  refine ⟨?_, ?_, ?_, ?_, ?_, ?_, ?_, ?_, ?_, ?_⟩ <;> kernel_rfl

theorem b_len (l : List D) : builtD (N "len") [.lst l] = if smallL l.length then some (.int l.length) else none := by kernel_rfl
theorem b_range (m : Nat) (ρ : Rho) (e : Expr) (pf q : Pos) : stepIter (ev m) sc11 ρ (.Call (.Name (N "range") pf) [e] [] q) = (mapO ((ev m).e sc11 ρ) [e]).bind rangeD := by kernel_rfl
section
variable {ps : List (List Nat)} {z : Int}
structure DocR (ps : List (List Nat)) (z : Int) (X : List Nat) (ρ : Rho) : Prop where
  p : ρ.lookup (N "patterns") = some (.lst (ps.map stD))
  t : ρ.lookup (N "turn") = some (.int z)
  x : ρ.lookup (N "text") = some (stD X)
theorem doc_loop (n : Nat) (h2 : ∀ q ∈ ps, q.length ≤ 2) (hl : ps.length ≤ 20) : ∀ (c j : Nat) (ρ : Rho), j + c = 2 * ps.length → DocR ps z (docT ps z j) ρ →
    ∃ ρ', forL (fun ρ d => exL ((ev (n + 8)).s sc11) ((N "k", d) :: ρ) [g0, g1]) ρ (upTo (j : Int) c) = some (ρ', .next) ∧ DocR ps z (docT ps z (j + c)) ρ'
  | 0, j, ρ, _, R => ⟨ρ, rfl, R⟩
  | c + 1, j, ρ, hj, R => by
    obtain ⟨e1, e2, e3, e4, e5, e6, e7, e8, e9, e10⟩ := n_wt
    have dl := docT_len h2 z j
    have wl := wordL_len h2 j
    have hbody : exL ((ev (n + 8)).s sc11) ((N "k", D.int (j : Int)) :: ρ) [g0, g1] = some ((N "text", stD (docT ps z (j + 1))) :: (N "word", stD (wordL ps j)) :: (N "k", D.int (j : Int)) :: ρ, .next) := by
      refine r_cons (word_ n ?_ ?_ (by lia) (by lia) fun q hq => Nat.le_trans (h2 q hq) (by lia)) (r_one (text_ n (X := docT ps z j) (w := wordL ps j) ?_ ?_ ?_ ?_ (by lia)))
      · simp only [List.lookup_cons, beq_self_eq_true]
      · simp only [List.lookup_cons, e7, R.p]
      · simp only [List.lookup_cons, e4, beq_self_eq_true]
      · simp only [List.lookup_cons, e2, e6, R.t]
      · simp only [List.lookup_cons, e1, e5, R.x]
      · simp only [List.lookup_cons, beq_self_eq_true]
    have R' : DocR ps z (docT ps z (j + 1)) ((N "text", stD (docT ps z (j + 1))) :: (N "word", stD (wordL ps j)) :: (N "k", D.int (j : Int)) :: ρ) := by
      refine ⟨?_, ?_, ?_⟩
      · simp only [List.lookup_cons, e9, e3, e7, R.p]
      · simp only [List.lookup_cons, e8, e2, e6, R.t]
      · simp only [List.lookup_cons, beq_self_eq_true]
    obtain ⟨ρ', h1, h3⟩ := doc_loop n h2 hl c (j + 1) _ (by lia) R'
    refine ⟨ρ', ?_, by rw [show j + (c + 1) = j + 1 + c by lia]; exact h3⟩
    show (match exL ((ev (n + 8)).s sc11) ((N "k", D.int (j : Int)) :: ρ) [g0, g1] with
      | some (ρ', .next) => forL (fun ρ d => exL ((ev (n + 8)).s sc11) ((N "k", d) :: ρ) [g0, g1]) ρ' (upTo ((j : Int) + 1) c)
      | some (ρ', .ret d) => some (ρ', .ret d)
      | _ => none) = _
    rw [hbody]
    exact h1

theorem doc_ (n : Nat) (h2 : ∀ q ∈ ps, q.length ≤ 2) (hl : ps.length ≤ 20) : (ev (n + 10)).c (N "_law_document") [.lst (ps.map stD), .int z] [] = some (stD (docT ps z (2 * ps.length) ++ [93])) := by
  obtain ⟨v1, v2, v3, v4, v5⟩ := d_var
  obtain ⟨q1, q2, q3⟩ := d_gl
  have R0 : DocR ps z (docT ps z 0) [(N "text", stD []), (N "patterns", .lst (ps.map stD)), (N "turn", .int z)] := by
    obtain ⟨e1, e2, e3, e4, e5, e6, e7, e8, e9, e10⟩ := n_wt
    have e11 : (N "turn" == N "patterns") = false := by kernel_rfl
    refine ⟨?_, ?_, ?_⟩
    · simp only [List.lookup_cons, e9, beq_self_eq_true]
    · simp only [List.lookup_cons, e8, e11, beq_self_eq_true]
    · simp only [List.lookup_cons, beq_self_eq_true]; rfl
  obtain ⟨ρ', hf, R⟩ := doc_loop n h2 hl (2 * ps.length) 0 _ (by lia) R0
  rw [Nat.zero_add] at R
  have dl := docT_len h2 z (2 * ps.length)
  refine r_call d_sp d_fn d_pl (d_bind _ _) (ρ' := ρ') ?_
  rw [d_body]
  refine r_cons (d_s0 (n + 7) _) (r_cons (ρ' := ρ') ?_ (r_ret ?_))
  · rw [d_for]
    refine r_for d_own.2.2 (ds := upTo 0 (2 * ps.length)) ?_ hf
    have hlen : (ev (n + 7)).e sc11 [(N "text", stD []), (N "patterns", .lst (ps.map stD)), (N "turn", .int z)] (.Call (.Name (N "len") (atE 0 (bR (atE 1 (forI d1)))).pos) [.Name (N "patterns") (atE 1 (bR (atE 1 (forI d1)))).pos] [] (bR (atE 1 (forI d1))).pos) = some (.int (ps.length : Int)) := by
      refine (r_built1 q1 q2 (r_name v2 R0.p)).trans ?_
      rw [b_len, if_pos (by unfold smallL; simp; lia)]
      simp
    have hmul : (ev (n + 8)).e sc11 [(N "text", stD []), (N "patterns", .lst (ps.map stD)), (N "turn", .int z)] (.BinOp (bL (atE 1 (forI d1))) .Mult (.Call (.Name (N "len") (atE 0 (bR (atE 1 (forI d1)))).pos) [.Name (N "patterns") (atE 1 (bR (atE 1 (forI d1)))).pos] [] (bR (atE 1 (forI d1))).pos) (atE 1 (forI d1)).pos) = some (.int ((2 * ps.length : Nat) : Int)) :=
      (r_bin (d_consts (n + 6) _).2.2.2.2.2.2.2.2.2 hlen).trans (show (if smallI 2 then some (D.int (2 * (ps.length : Int))) else none) = _ from if_pos rfl)
    refine (b_range _ _ _ _ _).trans ?_
    simp only [mapO, hmul, Option.map_some, Option.bind_some]
    show (if smallI ((2 * ps.length : Nat) : Int) then some (upTo 0 ((2 * ps.length : Nat) : Int).toNat) else none) = _
    rw [if_pos (by unfold smallI; simp; lia), Int.toNat_natCast]
  · rw [d_s2]
    exact r_return ((r_bin (r_name v3 R.x) (d_c2 (n + 6) ρ')).trans (addS (by simp; lia)))
end
end Mine.PL
end
noncomputable section
open PySem PySem.W PyProof.Rows PySem.Challenge PySem.SeqAt
set_option maxRecDepth 100000
set_option linter.unusedVariables false
namespace Mine.PL

section
variable {n i : Nat} {sc : Scope} {ρ ρ' : Rho} {c : Expr} {p : Pos} {d d1 d2 d3 : D}
theorem r_asg2 {x y : Str} {px py pq : Pos} {kq : Nat} (h0 : (isOwn sc x && isOwn sc y && !(x == y) && swOk c) = true) (h1 : (ev n).e sc ρ c = some (.tup [d1, d2])) : (ev (n + 1)).s sc ρ (.Assign [.Tuple [.Name x px, .Name y py] kq pq] c p) = some ((y, d2) :: (x, d1) :: ρ, .next) := by
  have hs : (ev (n + 1)).s sc ρ (.Assign [.Tuple [.Name x px, .Name y py] kq pq] c p) = (if isOwn sc x && isOwn sc y && !(x == y) && swOk c then (match (ev n).e sc ρ c with
    | some (.tup [a, b]) => some ((y, b) :: (x, a) :: ρ, .next)
    | some (.lst [a, b]) => some ((y, b) :: (x, a) :: ρ, .next)
    | _ => none) else none) := by rfl
  rw [hs, if_pos h0, h1]
theorem r_subN {v : Expr} {x : Str} {px : Pos} (h1 : (ev n).e sc ρ v = some d1) (h2 : (ev n).e sc ρ (.Name x px) = some d2) : (ev (n + 1)).e sc ρ (.Subscript v (.Name x px) p) = getD d1 d2 := by
  have hs : (ev (n + 1)).e sc ρ (.Subscript v (.Name x px) p) = (match (ev n).e sc ρ v, (ev n).e sc ρ (.Name x px) with | some d, some j => getD d j | _, _ => none) := by rfl
  rw [hs, h1, h2]
end

noncomputable def sufT (ps : List (List Nat)) (z : Int) : Nat → Nat → List Nat
  | _, 0 => [93]
  | k, c + 1 => wordL ps k ++ sepL ((z + k).fmod 5).toNat ++ sufT ps z (k + 1) c
theorem suf_ (ps : List (List Nat)) (z : Int) : ∀ c k, docT ps z k ++ sufT ps z k c = docT ps z (k + c) ++ [93]
  | 0, k => rfl
  | c + 1, k => by
    have := suf_ ps z c (k + 1)
    rw [show k + (c + 1) = k + 1 + c by lia, ← this]
    simp [sufT, docT]

noncomputable def sc12 : Scope := (dAt 12).scope
noncomputable def rw1 : Stmt := stAt 12 1
noncomputable def rb0 : Stmt := nth (bodyS rw1) 0
noncomputable def rb1 : Stmt := nth (bodyS rw1) 1
noncomputable def rb2 : Stmt := nth (bodyS rw1) 2
theorem rd_fn : fnOf (N "_law_read") = some 12 := by kernel_rfl
theorem rd_sp : specNames.contains (N "_law_read") = false := by kernel_rfl
theorem rd_pl : plainD (dAt 12) = true := by kernel_rfl
theorem rd_body : (dAt 12).body = [stAt 12 0, rw1, stAt 12 2] := by kernel_rfl
theorem rd_wh : rw1 = .While (.Compare (.Subscript (.Name (N "text") (atE 0 (atE 0 (valS rw1))).pos) (.Name (N "place") (atE 1 (atE 0 (valS rw1))).pos) (atE 0 (valS rw1)).pos) [.NotEq] [atE 1 (valS rw1)] (valS rw1).pos) [rb0, rb1, rb2] [] (posS rw1) := by kernel_rfl
noncomputable def tE (j : Nat) : Expr → Expr
  | .Tuple es _ _ => (es[j]?).getD default
  | e => e
theorem rd_b0 : rb0 = .Assign [.Tuple [.Name (N "place") (tE 0 (tgtS rb0)).pos, .Name (N "pattern") (tE 1 (tgtS rb0)).pos] (tupK (tgtS rb0)) (tgtS rb0).pos] (.Call (.Name (N "parse_literal_str") (atE 0 (valS rb0)).pos) [.Name (N "text") (atE 1 (valS rb0)).pos, .Name (N "place") (atE 2 (valS rb0)).pos] [] (valS rb0).pos) (posS rb0) := by kernel_rfl
theorem rd_b1 : rb1 = .Assign [.Tuple [.Name (N "patterns") (tE 0 (tgtS rb1)).pos, .Name (N "place") (tE 1 (tgtS rb1)).pos] (tupK (tgtS rb1)) (tgtS rb1).pos] (.Tuple [.BinOp (.Name (N "patterns") (bL (tE 0 (valS rb1))).pos) .Add (bR (tE 0 (valS rb1))) (tE 0 (valS rb1)).pos, .Call (.Name (N "skip_comments_and_array_ws") (atE 0 (tE 1 (valS rb1))).pos) [.Name (N "text") (atE 1 (tE 1 (valS rb1))).pos, .Name (N "place") (atE 2 (tE 1 (valS rb1))).pos] [] (tE 1 (valS rb1)).pos] (tupK (valS rb1)) (valS rb1).pos) (posS rb1) := by kernel_rfl
theorem rd_b2 : rb2 = .Assign [.Name (N "place") (tgtS rb2).pos] (.IfExp (.Compare (.Subscript (.Name (N "text") (atE 0 (atE 0 (ifC (valS rb2)))).pos) (.Name (N "place") (atE 1 (atE 0 (ifC (valS rb2)))).pos) (atE 0 (ifC (valS rb2))).pos) [.Eq] [atE 1 (ifC (valS rb2))] (ifC (valS rb2)).pos) (ifA (valS rb2)) (.Name (N "place") (ifB (valS rb2)).pos) (valS rb2).pos) (posS rb2) := by kernel_rfl
end Mine.PL
end
noncomputable section
open PySem PySem.W PyProof.Rows PySem.Challenge PySem.SeqAt
set_option maxRecDepth 100000
set_option linter.unusedVariables false
namespace Mine.PL

section
variable {n i : Nat} {sc : Scope} {ρ ρ' : Rho} {c : Expr} {p : Pos} {d d1 d2 d3 : D}
theorem r_call2b {f : Str} {pf q : Pos} {e1 l r' : Expr} {op : Operator} {r : D} (h0 : (isGlob sc f && goodName f) = true) (hb : builtNames.contains f = false) (h1 : (ev n).e sc ρ e1 = some d1) (h2 : (ev n).e sc ρ (.BinOp l op r' q) = some d2) (hc : (ev n).c f [d1, d2] [] = some r) :
    (ev (n + 1)).e sc ρ (.Call (.Name f pf) [e1, .BinOp l op r' q] [] p) = some r := by
  have hs : (ev (n + 1)).e sc ρ (.Call (.Name f pf) [e1, .BinOp l op r' q] [] p) = (if isGlob sc f && goodName f then (match mapO ((ev n).e sc ρ) [e1, .BinOp l op r' q], (some [] : Option (List (Str × D))) with
    | some as, some kw => if builtNames.contains f && kw.isEmpty then builtD f as else (ev n).c f as kw
    | _, _ => none) else none) := by rfl
  rw [hs, if_pos h0]
  simp only [mapO, h1, h2, Option.map_some, hb, Bool.false_and, Bool.false_eq_true, if_false, hc]
theorem r_list1 {a : Expr} (h1 : (ev n).e sc ρ a = some d1) : (ev (n + 1)).e sc ρ (.List [a] p) = some (.lst [d1]) := by
  have hs : (ev (n + 1)).e sc ρ (.List [a] p) = (if smallL 1 then (mapO ((ev n).e sc ρ) [a]).map D.lst else none) := by rfl
  rw [hs, if_pos (by decide)]
  simp only [mapO, h1, Option.map_some]
end
theorem addL {l m : List D} (h : l.length + m.length ≤ 100000) : binD .Add (.lst l) (.lst m) = some (.lst (l ++ m)) := by
  show (if smallL (l.length + m.length) then some (D.lst (l ++ m)) else none) = _
  rw [if_pos (by unfold smallL; simpa using h)]

theorem rd_ifA : ifA (valS rb2) = .Call (.Name (N "skip_comments_and_array_ws") (atE 0 (ifA (valS rb2))).pos) [.Name (N "text") (atE 1 (ifA (valS rb2))).pos, .BinOp (.Name (N "place") (bL (atE 2 (ifA (valS rb2)))).pos) .Add (bR (atE 2 (ifA (valS rb2)))) (atE 2 (ifA (valS rb2))).pos] [] (ifA (valS rb2)).pos := by kernel_rfl
theorem rd_pl1 : bR (tE 0 (valS rb1)) = .List [.Name (N "pattern") (match bR (tE 0 (valS rb1)) with | .List [e] _ => e.pos | _ => default)] (bR (tE 0 (valS rb1))).pos := by kernel_rfl
theorem rd_c (n : Nat) (ρ : Rho) : (ev (n + 1)).e sc12 ρ (bR (atE 2 (ifA (valS rb2)))) = some (.int 1) ∧ (ev (n + 1)).e sc12 ρ (atE 1 (ifC (valS rb2))) = some (.str ⟨#[44]⟩) ∧ (ev (n + 1)).e sc12 ρ (atE 1 (valS rw1)) = some (.str ⟨#[93]⟩) := by
  refine ⟨?_, ?_, ?_⟩ <;> kernel_rfl
theorem rd_own : isOwn sc12 (N "place") = true := by kernel_rfl
theorem rd_o0 (a b : Expr) (l : List Expr) (k : List Keyword) (p : Pos) : (isOwn sc12 (N "place") && isOwn sc12 (N "pattern") && !(N "place" == N "pattern") && swOk (.Call a l k p)) = true := by kernel_rfl
theorem rd_o1 : (isOwn sc12 (N "patterns") && isOwn sc12 (N "place") && !(N "patterns" == N "place") && swOk (valS rb1)) = true := by kernel_rfl
theorem rd_v : (isVar sc12 (N "text") && goodName (N "text")) = true ∧ (isVar sc12 (N "place") && goodName (N "place")) = true ∧ (isVar sc12 (N "patterns") && goodName (N "patterns")) = true ∧ (isVar sc12 (N "pattern") && goodName (N "pattern")) = true := by
  refine ⟨?_, ?_, ?_, ?_⟩ <;> kernel_rfl
theorem rd_g : (isGlob sc12 (N "parse_literal_str") && goodName (N "parse_literal_str")) = true ∧ (N "parse_literal_str" == Str.ofString "isinstance") = false ∧ (isGlob sc12 (N "skip_comments_and_array_ws") && goodName (N "skip_comments_and_array_ws")) = true ∧ (N "skip_comments_and_array_ws" == Str.ofString "isinstance") = false ∧ builtNames.contains (N "skip_comments_and_array_ws") = false := by
  refine ⟨?_, ?_, ?_, ?_, ?_⟩ <;> kernel_rfl
theorem rd_mk : behindInMarks .Eq (atE 1 (ifC (valS rb2))) = false ∧ behindInMarks .NotEq (atE 1 (valS rw1)) = false := by refine ⟨?_, ?_⟩ <;> kernel_rfl
theorem n_rd : (N "text" == N "place") = false ∧ (N "text" == N "pattern") = false ∧ (N "text" == N "patterns") = false ∧ (N "patterns" == N "place") = false ∧ (N "patterns" == N "pattern") = false ∧ (N "place" == N "pattern") = false ∧ (N "place" == N "patterns") = false ∧ (N "pattern" == N "patterns") = false := by
  refine ⟨?_, ?_, ?_, ?_, ?_, ?_, ?_, ?_⟩ <;> kernel_rfl
theorem eq44 : eqD (.str ⟨#[44]⟩) (.str ⟨#[44]⟩) = some true ∧ eqD (.str ⟨#[93]⟩) (.str ⟨#[44]⟩) = some false := by refine ⟨?_, ?_⟩ <;> kernel_rfl

structure RD (T : Str) (p : Nat) (done : List D) (ρ : Rho) : Prop where
  t : ρ.lookup (N "text") = some (.str T)
  p : ρ.lookup (N "place") = some (.int (p : Int))
  d : ρ.lookup (N "patterns") = some (.lst done)

theorem rturn {T : Str} {p p4 p5 p6 : Nat} {done : List D} {q : D} {ρ : Rho} (n : Nat) (R : RD T p done ρ) (h1 : ∀ n, (ev (n + 14)).c (N "parse_literal_str") [.str T, .int (p : Int)] [] = some (.tup [.int (p4 : Int), q])) (h2 : SkTo T p4 p5)
    (h3 : (T.cps.toList[p5]? = some 44 ∧ SkTo T (p5 + 1) p6) ∨ (T.cps.toList[p5]? = some 93 ∧ p6 = p5)) (hp : p5 ≤ 1000) (hd : done.length ≤ 1000) :
    ∃ ρ', exL ((ev (n + 40)).s sc12) ρ [rb0, rb1, rb2] = some (ρ', .next) ∧ RD T p6 (done ++ [q]) ρ' := by
  obtain ⟨v1, v2, v3, v4⟩ := rd_v
  obtain ⟨g1, g2, g3, g4, g5⟩ := rd_g
  obtain ⟨e1, e2, e3, e4, e5, e6, e7, e8⟩ := n_rd
  have s0 : (ev (n + 40)).s sc12 ρ rb0 = some ((N "pattern", q) :: (N "place", .int (p4 : Int)) :: ρ, .next) := by
    rw [rd_b0]
    exact r_asg2 (rd_o0 (.Name (N "parse_literal_str") (atE 0 (valS rb0)).pos) default [.Name (N "text") (atE 1 (valS rb0)).pos, .Name (N "place") (atE 2 (valS rb0)).pos] [] (valS rb0).pos) (r_call2n g1 g2 (r_name v1 R.t) (r_name v2 R.p) (h1 (n + 24)))
  have s1 : (ev (n + 40)).s sc12 ((N "pattern", q) :: (N "place", .int (p4 : Int)) :: ρ) rb1 = some ((N "place", .int (p5 : Int)) :: (N "patterns", .lst (done ++ [q])) :: (N "pattern", q) :: (N "place", .int (p4 : Int)) :: ρ, .next) := by
    have ho := rd_o1
    rw [rd_b1]
    rw [rd_b1] at ho
    refine r_asg2 ho (r_tup2 ((r_bin (r_name v3 ?_) ?_).trans (addL (by simp; lia))) (r_call2n g3 g4 (r_name v1 ?_) (r_name v2 ?_) (h2 (n + 7))))
    · simp only [List.lookup_cons, e5, e4, R.d]
    · rw [rd_pl1]
      refine r_list1 (r_name v4 ?_)
      simp only [List.lookup_cons, beq_self_eq_true]
    · simp only [List.lookup_cons, e2, e1, R.t]
    · simp only [List.lookup_cons, e6, beq_self_eq_true]
  have RT : List.lookup (N "text") ((N "place", D.int (p5 : Int)) :: (N "patterns", .lst (done ++ [q])) :: (N "pattern", q) :: (N "place", .int (p4 : Int)) :: ρ) = some (.str T) := by
    simp only [List.lookup_cons, e1, e3, e2, R.t]
  have RP : List.lookup (N "place") ((N "place", D.int (p5 : Int)) :: (N "patterns", .lst (done ++ [q])) :: (N "pattern", q) :: (N "place", .int (p4 : Int)) :: ρ) = some (.int (p5 : Int)) := by
    simp only [List.lookup_cons, beq_self_eq_true]
  refine ⟨(N "place", .int (p6 : Int)) :: (N "place", .int (p5 : Int)) :: (N "patterns", .lst (done ++ [q])) :: (N "pattern", q) :: (N "place", .int (p4 : Int)) :: ρ, r_cons s0 (r_cons s1 (r_one ?_)), ⟨?_, ?_, ?_⟩⟩
  · rw [rd_b2]
    refine r_asg rd_own ?_
    have hch : ∀ c, T.cps.toList[p5]? = some c → (ev (n + 37)).e sc12 ((N "place", D.int (p5 : Int)) :: (N "patterns", .lst (done ++ [q])) :: (N "pattern", q) :: (N "place", .int (p4 : Int)) :: ρ) (.Subscript (.Name (N "text") (atE 0 (atE 0 (ifC (valS rb2)))).pos) (.Name (N "place") (atE 1 (atE 0 (ifC (valS rb2)))).pos) (atE 0 (ifC (valS rb2))).pos) = some (.str ⟨#[c]⟩) :=
      fun c hc => (r_subN (r_name v1 RT) (r_name v2 RP)).trans (getS hc (by lia))
    rcases h3 with ⟨hc, hs⟩ | ⟨hc, rfl⟩
    · refine r_ifeT ((r_cmp rd_mk.1 (hch 44 hc) (rd_c (n + 36) _).2.1).trans eq44.1) ?_
      rw [rd_ifA]
      exact r_call2b g3 g5 (r_name v1 RT) ((r_bin (r_name v2 RP) (rd_c (n + 35) _).1).trans rfl) (hs (n + 7))
    · exact r_ifeF ((r_cmp rd_mk.1 (hch 93 hc) (rd_c (n + 36) _).2.1).trans eq44.2) (r_name v2 RP)
  · simp only [List.lookup_cons, e1, e3, e2, R.t]
  · simp only [List.lookup_cons, beq_self_eq_true]
  · simp only [List.lookup_cons, e4, beq_self_eq_true]
end Mine.PL
end
noncomputable section
open PySem PySem.W PyProof.Rows PySem.Challenge PySem.SeqAt
set_option maxRecDepth 100000
set_option linter.unusedVariables false
namespace Mine.PL

/-- the patterns are good: short, printable, without a quote -/
noncomputable def GoodP (ps : List (List Nat)) : Prop := (∀ q ∈ ps, q.length ≤ 2) ∧ ∀ q ∈ ps, 39 ∉ q ∧ ∀ c ∈ q, 32 ≤ c ∧ c ≠ 127
noncomputable def posR (ps : List (List Nat)) (z : Int) (j : Nat) : Nat := if j < ps.length then (docT ps z (2 * j + 1)).length else (docT ps z (2 * ps.length)).length

section
variable {ps : List (List Nat)} {z : Int} {j : Nat}
theorem sep_lt (z : Int) : (z.fmod 5).toNat < 5 := by
  have := Int.fmod_nonneg_of_pos z (b := 5) (by lia)
  have := Int.fmod_lt_of_pos z (b := 5) (by lia)
  lia
theorem rstep {T : Str} (hT : T.cps.toList = docT ps z (2 * ps.length) ++ [93]) (g : GoodP ps) (hl : ps.length ≤ 20) (hj : j < ps.length) : ∃ p4 p5 : Nat, (∀ n, (ev (n + 14)).c (N "parse_literal_str") [.str T, .int ((posR ps z j : Nat) : Int)] [] = some (.tup [.int (p4 : Int), stD ps[j]])) ∧ SkTo T p4 p5 ∧
    ((T.cps.toList[p5]? = some 44 ∧ SkTo T (p5 + 1) (posR ps z (j + 1))) ∨ (T.cps.toList[p5]? = some 93 ∧ posR ps z (j + 1) = p5)) ∧ p5 ≤ 1000 := by
  have hlen : T.cps.toList.length ≤ 1000 := by
    have := docT_len g.1 z (2 * ps.length)
    rw [hT]; simp; lia
  have hw1 : wordL ps (2 * j + 1) = 39 :: (ps[j] ++ [39]) := by
    have e : (2 * j + 1) / 2 = j := by lia
    have : (2 * j + 1) % 2 = 1 := by lia
    simp [wordL, this, e, hj]
  obtain ⟨c, hc⟩ : ∃ c, 2 * ps.length = 2 * j + 1 + (c + 1) := ⟨2 * ps.length - (2 * j + 2), by lia⟩
  have hS : T.cps.toList = docT ps z (2 * j + 1) ++ sufT ps z (2 * j + 1) (c + 1) := by rw [suf_, ← hc, hT]
  have hS1 : T.cps.toList = docT ps z (2 * j + 1) ++ (39 :: (ps[j] ++ 39 :: (sepL ((z + (2 * j + 1 : Nat)).fmod 5).toNat ++ sufT ps z (2 * j + 2) c))) := by
    rw [hS, sufT, hw1]; simp
  have hmem := List.getElem_mem hj
  have h2 : docT ps z (2 * j + 2) = docT ps z (2 * j + 1) ++ (39 :: (ps[j] ++ [39])) ++ sepL ((z + (2 * j + 1 : Nat)).fmod 5).toNat := by
    rw [show 2 * j + 2 = (2 * j + 1) + 1 by lia, docT, hw1]
  have hp5 : (docT ps z (2 * j + 2)).length ≤ 1000 := by
    have := docT_len g.1 z (2 * j + 2)
    lia
  have hpos : posR ps z j = (docT ps z (2 * j + 1)).length := if_pos hj
  have hsk : ∀ ch post, sufT ps z (2 * j + 2) c = ch :: post → GoodC ch → SkTo T ((docT ps z (2 * j + 1)).length + 1 + (ps[j]).length + 1) (docT ps z (2 * j + 2)).length := fun ch post he gc => by
    have hS2 : T.cps.toList = (docT ps z (2 * j + 1) ++ (39 :: (ps[j] ++ [39]))) ++ (sepL ((z + (2 * j + 1 : Nat)).fmod 5).toNat ++ ch :: post) := by rw [hS1, he]; simp
    have := sk_sep (sep_lt _) hS2 gc hlen
    have e1 : (docT ps z (2 * j + 1) ++ (39 :: (ps[j] ++ [39]))).length = (docT ps z (2 * j + 1)).length + 1 + (ps[j]).length + 1 := by simp; lia
    have e2 : (docT ps z (2 * j + 2)).length = (docT ps z (2 * j + 1) ++ (39 :: (ps[j] ++ [39]))).length + (sepL ((z + (2 * j + 1 : Nat)).fmod 5).toNat).length := by rw [h2, List.length_append]
    rw [e2, e1]
    rw [e1] at this
    exact this
  refine ⟨(docT ps z (2 * j + 1)).length + 1 + (ps[j]).length + 1, (docT ps z (2 * j + 2)).length, fun n => ?_, ?_, ?_, hp5⟩
  · rw [hpos]
    exact lit_ n hS1 (g.2 _ hmem).1 (g.2 _ hmem).2 hlen
  · cases c with
    | zero => exact hsk 93 [] rfl good93
    | succ c =>
      have hw2 : wordL ps (2 * j + 2) = [44] := by
        have : (2 * j + 2) % 2 = 0 := by lia
        simp [wordL, this]
      exact hsk 44 _ (by rw [sufT, hw2]; rfl) good44
  · cases c with
    | zero =>
      refine .inr ⟨?_, ?_⟩
      · rw [hT, show 2 * ps.length = 2 * j + 2 by lia]; simp
      · unfold posR; rw [if_neg (by lia), show 2 * ps.length = 2 * j + 2 by lia]
    | succ c =>
      have hw2 : wordL ps (2 * j + 2) = [44] := by
        have : (2 * j + 2) % 2 = 0 := by lia
        simp [wordL, this]
      obtain ⟨c', rfl⟩ : ∃ c', c = c' + 1 := ⟨c - 1, by lia⟩
      have hj1 : j + 1 < ps.length := by lia
      have hw3 : wordL ps (2 * j + 3) = 39 :: (ps[j + 1] ++ [39]) := by
        have e : (2 * j + 3) / 2 = j + 1 := by lia
        have : (2 * j + 3) % 2 = 1 := by lia
        simp [wordL, this, e, hj1]
      have hS3 : T.cps.toList = docT ps z (2 * j + 2) ++ sufT ps z (2 * j + 2) (c' + 1 + 1) := by rw [suf_, hT]; congr 2; lia
      have hS4 : T.cps.toList = (docT ps z (2 * j + 2) ++ [44]) ++ (sepL ((z + (2 * j + 2 : Nat)).fmod 5).toNat ++ 39 :: (ps[j + 1] ++ [39] ++ sepL ((z + (2 * j + 2 + 1 : Nat)).fmod 5).toNat ++ sufT ps z (2 * j + 4) c')) := by
        rw [hS3, sufT, hw2, sufT, hw3]; simp
      refine .inl ⟨?_, ?_⟩
      · rw [hS4]; simp
      · have := sk_sep (sep_lt _) hS4 good39 hlen
        have e1 : (docT ps z (2 * j + 2) ++ [44]).length = (docT ps z (2 * j + 2)).length + 1 := by simp
        have e2 : posR ps z (j + 1) = (docT ps z (2 * j + 2) ++ [44]).length + (sepL ((z + (2 * j + 2 : Nat)).fmod 5).toNat).length := by
          unfold posR
          rw [if_pos hj1, show 2 * (j + 1) + 1 = (2 * j + 2) + 1 by lia, docT, hw2]
          simp
          lia
        rw [e2, ← e1]
        exact this
end
end Mine.PL
end
noncomputable section
open PySem PySem.W PyProof.Rows PySem.Challenge PySem.SeqAt
set_option maxRecDepth 100000
set_option linter.unusedVariables false
namespace Mine.PL

theorem ne93 : cmpD .NotEq (.str ⟨#[39]⟩) (.str ⟨#[93]⟩) = some true ∧ cmpD .NotEq (.str ⟨#[93]⟩) (.str ⟨#[93]⟩) = some false := by refine ⟨?_, ?_⟩ <;> kernel_rfl
theorem rd_s0 : stAt 12 0 = .Assign [.Tuple [.Name (N "place") (tE 0 (tgtS (stAt 12 0))).pos, .Name (N "patterns") (tE 1 (tgtS (stAt 12 0))).pos] (tupK (tgtS (stAt 12 0))) (tgtS (stAt 12 0)).pos] (.Tuple [tE 0 (valS (stAt 12 0)), tE 1 (valS (stAt 12 0))] (tupK (valS (stAt 12 0))) (valS (stAt 12 0)).pos) (posS (stAt 12 0)) := by kernel_rfl
theorem rd_o2 : (isOwn sc12 (N "place") && isOwn sc12 (N "patterns") && !(N "place" == N "patterns") && swOk (valS (stAt 12 0))) = true := by kernel_rfl
theorem rd_e0 (n : Nat) (T : Str) : (ev (n + 4)).e sc12 [(N "text", .str T)] (tE 0 (valS (stAt 12 0))) = (ev (n + 3)).c (N "skip_comments_and_array_ws") [.str T, .int 1] [] := by kernel_rfl
theorem rd_e1 (n : Nat) (ρ : Rho) : (ev (n + 2)).e sc12 ρ (tE 1 (valS (stAt 12 0))) = some (.lst []) := by kernel_rfl
theorem rd_ret : stAt 12 2 = .Return (some (.Name (N "patterns") (valS (stAt 12 2)).pos)) (posS (stAt 12 2)) := by kernel_rfl
theorem rd_bind (x : D) : bindA (dAt 12) [x] [] = some [(N "text", x)] := by kernel_rfl

section
variable {ps : List (List Nat)} {z : Int} {j : Nat}
theorem at39 {T : Str} (hT : T.cps.toList = docT ps z (2 * ps.length) ++ [93]) (hj : j < ps.length) : T.cps.toList[posR ps z j]? = some 39 := by
  have hw1 : wordL ps (2 * j + 1) = 39 :: (ps[j] ++ [39]) := by
    have e : (2 * j + 1) / 2 = j := by lia
    have : (2 * j + 1) % 2 = 1 := by lia
    simp [wordL, this, e, hj]
  obtain ⟨c, hc⟩ : ∃ c, 2 * ps.length = 2 * j + 1 + (c + 1) := ⟨2 * ps.length - (2 * j + 2), by lia⟩
  have hS : T.cps.toList = docT ps z (2 * j + 1) ++ sufT ps z (2 * j + 1) (c + 1) := by rw [suf_, ← hc, hT]
  unfold posR
  rw [if_pos hj, hS, sufT, hw1]
  simp
theorem posR_le {T : Str} (hT : T.cps.toList = docT ps z (2 * ps.length) ++ [93]) (g : GoodP ps) (hl : ps.length ≤ 20) (hj : j ≤ ps.length) : posR ps z j ≤ 1000 := by
  unfold posR
  split
  · have := docT_len g.1 z (2 * j + 1); lia
  · have := docT_len g.1 z (2 * ps.length); lia

theorem rtest (n : Nat) {T : Str} {p c : Nat} {done : List D} {ρ : Rho} (R : RD T p done ρ) (h : T.cps.toList[p]? = some c) (hp : p ≤ 1000) : (ev (n + 4)).t sc12 ρ (.Compare (.Subscript (.Name (N "text") (atE 0 (atE 0 (valS rw1))).pos) (.Name (N "place") (atE 1 (atE 0 (valS rw1))).pos) (atE 0 (valS rw1)).pos) [.NotEq] [atE 1 (valS rw1)] (valS rw1).pos) = cmpD .NotEq (.str ⟨#[c]⟩) (.str ⟨#[93]⟩) :=
  r_cmp rd_mk.2 ((r_subN (r_name (n := n + 1) rd_v.1 R.t) (r_name rd_v.2.1 R.p)).trans (getS h (by lia))) (rd_c (n + 2) ρ).2.2

theorem rloop (n : Nat) {T : Str} (hT : T.cps.toList = docT ps z (2 * ps.length) ++ [93]) (g : GoodP ps) (hl : ps.length ≤ 20) : ∀ (c j : Nat) (ρ : Rho), j + c = ps.length → RD T (posR ps z j) ((ps.take j).map stD) ρ →
    ∃ ρ', (ev (n + 41 + c)).w sc12 ρ (.Compare (.Subscript (.Name (N "text") (atE 0 (atE 0 (valS rw1))).pos) (.Name (N "place") (atE 1 (atE 0 (valS rw1))).pos) (atE 0 (valS rw1)).pos) [.NotEq] [atE 1 (valS rw1)] (valS rw1).pos) [rb0, rb1, rb2] = some (ρ', .next) ∧ RD T (posR ps z ps.length) (ps.map stD) ρ'
  | 0, j, ρ, hj, R => by
    obtain rfl : j = ps.length := by lia
    have hlast : T.cps.toList[posR ps z ps.length]? = some 93 := by
      unfold posR
      rw [if_neg (by lia), hT]; simp
    exact ⟨ρ, r_wF ((rtest (n + 36) R hlast (posR_le hT g hl (Nat.le_refl _))).trans ne93.2), by rw [List.take_length] at R; exact R⟩
  | c + 1, j, ρ, hj, R => by
    have hjl : j < ps.length := by lia
    obtain ⟨p4, p5, h1, h2, h3, h5⟩ := rstep hT g hl hjl
    obtain ⟨ρ1, hb, R1⟩ := rturn (n + 1 + c) R h1 h2 (h3.imp id id) h5 (by simp; lia)
    have R2 : RD T (posR ps z (j + 1)) ((ps.take (j + 1)).map stD) ρ1 := by
      have : (ps.take (j + 1)).map stD = (ps.take j).map stD ++ [stD ps[j]] := by rw [List.take_succ_eq_append_getElem hjl, List.map_append]; rfl
      rw [this]
      exact R1
    obtain ⟨ρ', hw, R'⟩ := rloop n hT g hl c (j + 1) ρ1 (by lia) R2
    refine ⟨ρ', ?_, R'⟩
    have e : n + 41 + c = n + 1 + c + 40 := by lia
    refine r_wT (n := n + 41 + c) ?_ ?_ hw
    · rw [show n + 41 + c = n + 37 + c + 4 by lia]
      exact (rtest (n + 37 + c) R (at39 hT hjl) (posR_le hT g hl (by lia))).trans ne93.1
    · rw [e]; exact hb

theorem read_ (n : Nat) {T : Str} (hT : T.cps.toList = docT ps z (2 * ps.length) ++ [93]) (g : GoodP ps) (hl : ps.length ≤ 20) (h0 : 0 < ps.length) : (ev (n + 70)).c (N "_law_read") [.str T] [] = some (.lst (ps.map stD)) := by
  have hlen : T.cps.toList.length ≤ 1000 := by
    have := docT_len g.1 z (2 * ps.length)
    rw [hT]; simp; lia
  have hsk : SkTo T 1 (posR ps z 0) := by
    obtain ⟨c, hc⟩ : ∃ c, 2 * ps.length = 1 + (c + 1) := ⟨2 * ps.length - 2, by lia⟩
    have hw : wordL ps 1 = 39 :: (ps[0] ++ [39]) := by simp [wordL, h0]
    have hS : T.cps.toList = [91] ++ (sepL ((z + (0 : Nat)).fmod 5).toNat ++ 39 :: (ps[0] ++ [39] ++ sepL ((z + (1 : Nat)).fmod 5).toNat ++ sufT ps z 2 c)) := by
      have := suf_ ps z (c + 1) 1
      rw [← hc] at this
      rw [hT, ← this, sufT, hw]
      simp [docT, wordL]
    have := sk_sep (sep_lt _) hS good39 hlen
    have e : posR ps z 0 = [91].length + (sepL ((z + (0 : Nat)).fmod 5).toNat).length := by
      unfold posR
      rw [if_pos h0]
      simp [docT, wordL]; lia
    rw [e]
    exact this
  obtain ⟨e1, e2, e3, e4, e5, e6, e7, e8⟩ := n_rd
  have R0 : RD T (posR ps z 0) ((ps.take 0).map stD) [(N "patterns", .lst []), (N "place", .int ((posR ps z 0 : Nat) : Int)), (N "text", .str T)] := by
    refine ⟨?_, ?_, ?_⟩
    · simp only [List.lookup_cons, e3, e1, beq_self_eq_true]
    · simp only [List.lookup_cons, e7, beq_self_eq_true]
    · simp only [List.lookup_cons, beq_self_eq_true]; rfl
  obtain ⟨ρ', hw, R⟩ := rloop (n + 27 - ps.length) hT g hl ps.length 0 _ (by lia) R0
  refine r_call rd_sp rd_fn rd_pl (rd_bind _) (ρ' := ρ') ?_
  rw [rd_body]
  refine r_cons (ρ' := [(N "patterns", .lst []), (N "place", .int ((posR ps z 0 : Nat) : Int)), (N "text", .str T)]) ?_ (r_cons (ρ' := ρ') ?_ (r_ret ?_))
  · have ho := rd_o2
    rw [rd_s0]
    rw [rd_s0] at ho
    exact r_asg2 ho (r_tup2 ((rd_e0 (n + 63) T).trans (hsk (n + 36))) (rd_e1 (n + 65) _))
  · rw [rd_wh]
    refine r_while ?_
    have : n + 27 - ps.length + 41 + ps.length = n + 68 := by lia
    rw [this] at hw
    exact hw
  · rw [rd_ret]
    exact r_return (r_name rd_v.2.2.1 R.d)
end
end Mine.PL
end
noncomputable section
open PySem PySem.W PyProof.Rows PySem.Challenge PySem.SeqAt
set_option maxRecDepth 100000
set_option linter.unusedVariables false
namespace Mine.PL

/-- the letters and the sixteen patterns -/
noncomputable def ltr : Nat → Nat
  | 0 => 97
  | 1 => 98
  | 2 => 63
  | _ => 42
noncomputable def pt (x : Nat) : List Nat := [ltr (x % 4), ltr (x / 4)]
noncomputable def nmL : List (List Nat) := [[], [97], [97, 97], [97, 98], [98], [98, 97], [98, 98]]
noncomputable def sg (c x : Nat) : Bool := c == 63 || c == x
/-- does the pattern fit the name -/
noncomputable def fitL : List Nat → List Nat → Bool
  | [], m => m.isEmpty
  | c :: r, m => if c == 42 then (List.range (m.length + 1)).any fun k => fitL r (m.drop k) else match m with
    | [] => false
    | x :: m => sg c x && fitL r m
noncomputable def isB (o : Option D) (b : Bool) : Bool := match o with
  | some (.bool c) => c == b
  | _ => false
theorem isB_eq {o : Option D} {b : Bool} (h : isB o b = true) : o = some (.bool b) := by
  unfold isB at h
  split at h
  · rw [beq_iff_eq.mp h]
  · cases h
theorem fits_tab (n : Nat) : ((List.range 16).all fun x => nmL.all fun m => isB ((ev (n + 60)).c (N "_law_fits") [stD (pt x), stD m] []) (fitL (pt x) m)) = true := by kernel_rfl
theorem fits_ (n : Nat) {x : Nat} {m : List Nat} (hx : x < 16) (hm : m ∈ nmL) : (ev (n + 60)).c (N "_law_fits") [stD (pt x), stD m] [] = some (.bool (fitL (pt x) m)) := by
  have h := fits_tab n
  rw [List.all_eq_true] at h
  have h := h x (List.mem_range.mpr hx)
  rw [List.all_eq_true] at h
  exact isB_eq (h m hm)
end Mine.PL
end
noncomputable section
open PySem PySem.W PyProof.Rows PySem.Challenge PySem.SeqAt
set_option maxRecDepth 100000
set_option linter.unusedVariables false
namespace Mine.PL

noncomputable def anyS : Str := Str.ofString "any"
noncomputable def partL (x : Nat) : List D := (trD (.str anyS) (pt x)).getD []
noncomputable def partD (x : Nat) : D := .lst (partL x)
theorem takes_tab (n : Nat) : ((List.range 16).all fun x => nmL.all fun m => isB ((ev (n + 60)).c (N "_law_takes") [partD x, stD m] []) (fitL (pt x) m)) = true := by kernel_rfl
theorem takes_ (n : Nat) {x : Nat} {m : List Nat} (hx : x < 16) (hm : m ∈ nmL) : (ev (n + 60)).c (N "_law_takes") [partD x, stD m] [] = some (.bool (fitL (pt x) m)) := by
  have h := takes_tab n
  rw [List.all_eq_true] at h
  have h := h x (List.mem_range.mpr hx)
  rw [List.all_eq_true] at h
  exact isB_eq (h m hm)
end Mine.PL
end
noncomputable section
open PySem PySem.W PyProof.Rows PySem.Challenge PySem.SeqAt
set_option maxRecDepth 100000
set_option linter.unusedVariables false
namespace Mine.PL

theorem tr_c (n : Nat) (c1 c2 : Nat) (q : Str) : (ev (n + 25)).c (N "_translate") [stD [c1, c2], .none, .str q] [] = (trD (.str q) [c1, c2]).map D.lst := by kernel_rfl
theorem tr_some : ((List.range 16).all fun x => (trD (.str anyS) (pt x)).isSome) = true := by kernel_rfl
theorem tr_ (n : Nat) {x : Nat} (hx : x < 16) : (ev (n + 25)).c (N "_translate") [stD (pt x), .none, .str anyS] [] = some (partD x) := by
  have h := tr_some
  rw [List.all_eq_true] at h
  have h := h x (List.mem_range.mpr hx)
  refine (tr_c n _ _ anyS).trans ?_
  show (trD (.str anyS) (pt x)).map D.lst = _
  unfold partD partL
  obtain ⟨l, e⟩ := Option.isSome_iff_exists.mp h
  rw [e]; rfl
theorem cmp3 (n : Nat) (a b : Int) : (ev (n + 8)).c (N "three_way_cmp") [.int a, .int b] [] = some (.int ((if decide (b < a) then 1 else 0) - (if decide (a < b) then 1 else 0))) := by kernel_rfl
end Mine.PL
end
noncomputable section
open PySem PySem.W PyProof.Rows PySem.Challenge PySem.SeqAt
set_option maxRecDepth 100000
set_option linter.unusedVariables false
namespace Mine.PL

noncomputable def bit (x k : Nat) : Bool := x / 2 ^ k % 2 == 1
noncomputable def subM (f : Nat → Bool) : List (List Nat) := ((List.range 7).filter f).map fun k => nmL.getD k []
/-- the names that the first row takes; the second's -/
noncomputable def oneM (x : Nat) : List (List Nat) := subM fun k => k == 2 || k == 4 || k == 5 || k == 6 || (k == 0 && bit x 0) || (k == 1 && bit x 1) || (k == 3 && bit x 2)
noncomputable def twoM (y : Nat) : List (List Nat) := subM fun k => k == 2 || k == 3 || k == 5 || (k == 0 && bit y 0) || (k == 1 && bit y 1) || (k == 4 && bit y 2) || (k == 6 && bit y 3)
noncomputable def dbl : List (List Nat) → List (List Nat)
  | [] => []
  | a :: r => a :: a :: dbl r
noncomputable def strL (l : List Nat) : Str := ⟨l.toArray⟩
noncomputable def isLs : List D → List Str → Bool
  | [], [] => true
  | .str x :: r, y :: t => x == y && isLs r t
  | _, _ => false
noncomputable def isLo (o : Option D) (l : List Str) : Bool := match o with
  | some (.lst r) => isLs r l
  | _ => false
noncomputable def pairOk (n x y : Nat) : Bool := match sld 40 ((dbl (oneM x)).map strL) ((twoM y).map strL) [] [] with
  | some (r1, r2) => isLo ((ev (n + 60)).c (N "_law_alone") [.lst ((dbl (oneM x)).map stD), .lst ((twoM y).map stD)] []) r1 && isLo ((ev (n + 60)).c (N "_law_alone") [.lst ((twoM y).map stD), .lst ((oneM x).map stD)] []) r2
  | none => false
theorem pairs_tab (n : Nat) : ((List.range 8).all fun x => (List.range 16).all fun y => pairOk n x y) = true := by kernel_rfl
end Mine.PL
end
noncomputable section
open PySem PySem.W PyProof.Rows PySem.Challenge PySem.SeqAt
set_option maxRecDepth 100000
set_option linter.unusedVariables false
namespace Mine.PL
theorem sort_tab : ((List.range 8).all fun x => sortS ((oneM x ++ (oneM x ++ [])).map strL) == (dbl (oneM x)).map strL) = true := by kernel_rfl
theorem isLs_eq {r : List D} : ∀ {l : List Str}, isLs r l = true → r = l.map .str := by
  induction r with
  | nil =>
    intro l h
    cases l with
    | nil => rfl
    | cons y t => exact absurd h Bool.false_ne_true
  | cons d r ih =>
    intro l h
    cases d with
    | str x =>
      cases l with
      | nil => exact absurd h Bool.false_ne_true
      | cons y t =>
        have h := Bool.and_eq_true_iff.mp (show (x == y && isLs r t) = true from h)
        rw [beq_iff_eq.mp h.1, ih h.2]; rfl
    | _ => exact absurd h Bool.false_ne_true
theorem isLo_eq {o : Option D} {l : List Str} (h : isLo o l = true) : o = some (lstS l) := by
  cases o with
  | none => exact absurd h Bool.false_ne_true
  | some d => cases d with
    | lst r => rw [isLs_eq (show isLs r l = true from h)]; rfl
    | _ => exact absurd h Bool.false_ne_true
end Mine.PL
end
noncomputable section
open PySem PySem.W PyProof.Rows PySem.Challenge PySem.SeqAt
set_option maxRecDepth 100000
set_option linter.unusedVariables false
namespace Mine.PL

/-- plain data of a depth -/
noncomputable def Pl : Nat → D → Prop
  | _, .none => True
  | _, .bool _ => True
  | _, .int _ => True
  | _, .str x => PyData.strOk x = true
  | k + 1, .lst l => ∀ x ∈ l, Pl k x
  | k + 1, .tup l => ∀ x ∈ l, Pl k x
  | _, _ => False

noncomputable def PlF (k : Nat) (d : D) : Prop := noSet d = true ∧ (py d).canLay0 = true ∧ (py d).depth ≤ k ∧ PyData.eqv (py d) (py d) = true
noncomputable def PlFs (k : Nat) (l : List D) : Prop := noSets l = true ∧ PyData.canLayAll0 (pys l) = true ∧ PyData.depthAll (pys l) ≤ k ∧ PyData.eqvAll (pys l) (pys l) = true
theorem pl_list {k : Nat} : ∀ {l : List D}, (∀ x ∈ l, PlF k x) → PlFs k l
  | [], _ => by simp [PlFs, noSets, pys, PyData.canLayAll0, PyData.depthAll, PyData.eqvAll]
  | x :: r, h => by
    obtain ⟨a1, a2, a3, a4⟩ := h x List.mem_cons_self
    obtain ⟨b1, b2, b3, b4⟩ := pl_list (l := r) fun y hy => h y (List.mem_cons_of_mem _ hy)
    refine ⟨?_, ?_, ?_, ?_⟩
    · simp [noSets, a1, b1]
    · simp [pys, PyData.canLayAll0, a2, b2]
    · simp only [pys, PyData.depthAll]; lia
    · simp [pys, PyData.eqvAll, a4, b4]
theorem pl_all : ∀ {k : Nat} {d : D}, Pl k d → PlF k d
  | _, .none, _ => by simp [PlF, noSet, py, PyData.canLay0, PyData.depth, PyData.eqv]
  | _, .bool b, _ => by simp [PlF, noSet, py, PyData.canLay0, PyData.depth, PyData.eqv]
  | _, .int i, _ => by simp [PlF, noSet, py, PyData.canLay0, PyData.depth, PyData.eqv]
  | k, .str x, h => by
    have h : PyData.strOk x = true := by cases k <;> exact h
    simp [PlF, noSet, py, PyData.canLay0, PyData.depth, PyData.eqv, h]
  | k + 1, .lst l, h => by
    obtain ⟨b1, b2, b3, b4⟩ := pl_list (k := k) (l := l) fun x hx => pl_all (h x hx)
    refine ⟨?_, ?_, ?_, ?_⟩
    · simp [noSet, b1]
    · simp [py, PyData.canLay0, b2]
    · simp only [py, PyData.depth]; lia
    · simp [py, PyData.eqv, b4]
  | k + 1, .tup l, h => by
    obtain ⟨b1, b2, b3, b4⟩ := pl_list (k := k) (l := l) fun x hx => pl_all (h x hx)
    refine ⟨?_, ?_, ?_, ?_⟩
    · simp [noSet, b1]
    · simp [py, PyData.canLay0, b2]
    · simp only [py, PyData.depth]; lia
    · simp [py, PyData.eqv, b4]
  | 0, .lst _, h => h.elim
  | 0, .tup _, h => h.elim
  | 0, .ws, h => h.elim
  | 0, .ill, h => h.elim
  | 0, .val _, h => h.elim
  | _ + 1, .ws, h => h.elim
  | _ + 1, .ill, h => h.elim
  | _ + 1, .val _, h => h.elim
theorem pl_ok {k : Nat} {d : D} (h : Pl k d) (hk : k ≤ 64) : okD d = true := by
  obtain ⟨b1, b2, b3, b4⟩ := pl_all h
  simp only [okD, b1, shaped, b2, Bool.true_and, decide_eq_true_eq]
  lia
theorem pl_eq {k : Nat} {d : D} (h : Pl k d) (hk : k ≤ 64) : eqD d d = some true := by
  simp only [eqD, pl_ok h hk, Bool.and_self, if_true, (pl_all h).2.2.2]
theorem eqv_str (x y : Str) : PyData.eqv (.str x) (.str y) = (x == y) := by simp [PyData.eqv]
theorem pys_str : ∀ (l : List Str), pys (l.map .str) = l.map .str
  | [] => by simp [pys]
  | x :: r => by simp [pys, py, pys_str r]
theorem count_str {x : Str} {l : List Str} (hx : PyData.strOk x = true) (hl : ∀ y ∈ l, PyData.strOk y = true) : countD (.str x) (l.map .str) = some (l.count x) := by
  have h1 : okD (.str x) = true := pl_ok (k := 0) hx (by lia)
  have h2 : okD (.lst (l.map .str)) = true := pl_ok (k := 1) (fun y hy => by
    obtain ⟨z, hz, rfl⟩ := List.mem_map.mp hy
    exact hl z hz) (by lia)
  simp only [countD, h1, h2, Bool.and_self, if_true, pys_str, py]
  congr 1
  rw [List.countP_map]
  rfl
end Mine.PL
end
noncomputable section
open PySem PySem.W PyProof.Rows PySem.Challenge PySem.SeqAt
set_option maxRecDepth 100000
set_option linter.unusedVariables false
namespace Mine.PL

/-- the items of a list that are left when each of S has taken its first -/
noncomputable def keepG (S : List Str) : List Str → List Str → List Str
  | _, [] => []
  | seen, y :: r => if S.count y ≤ seen.count y then y :: keepG S (y :: seen) r else keepG S (y :: seen) r
theorem keepG_past {x : Str} {S : List Str} : ∀ {Y seen : List Str}, S.count x < seen.count x → keepG (x :: S) seen Y = keepG S seen Y
  | [], _, _ => rfl
  | y :: r, seen, h => by
    have ih := keepG_past (x := x) (S := S) (Y := r) (seen := y :: seen) (by rw [List.count_cons]; lia)
    unfold keepG
    by_cases hy : x = y
    · subst hy
      rw [List.count_cons_self, if_pos (by lia), if_pos (by lia), ih]
    · rw [List.count_cons_of_ne hy, ih]
theorem keepG_erase {x : Str} {S : List Str} : ∀ {Y seen : List Str}, seen.count x ≤ S.count x → keepG (x :: S) seen Y = (keepG S seen Y).erase x
  | [], _, _ => rfl
  | y :: r, seen, h => by
    unfold keepG
    by_cases hy : x = y
    · subst hy
      rw [List.count_cons_self, if_neg (by lia)]
      by_cases he : S.count x ≤ seen.count x
      · rw [if_pos he, List.erase_cons_head]
        exact keepG_past (by rw [List.count_cons_self]; lia)
      · rw [if_neg he]
        exact keepG_erase (by rw [List.count_cons_self]; lia)
    · have ih := keepG_erase (x := x) (S := S) (Y := r) (seen := y :: seen) (by rw [List.count_cons_of_ne (Ne.symm hy)]; exact h)
      rw [List.count_cons_of_ne hy, ih]
      split
      · rw [List.erase_cons_tail (by simpa using Ne.symm hy)]
      · rfl
theorem keepG_count {x : Str} {S : List Str} : ∀ {Y seen : List Str}, (keepG S seen Y).count x = Y.count x - (S.count x - seen.count x)
  | [], seen => (Nat.zero_sub _).symm
  | y :: r, seen => by
    have ih := keepG_count (x := x) (S := S) (Y := r) (seen := y :: seen)
    unfold keepG
    by_cases hy : y = x
    · subst hy
      rw [List.count_cons_self] at ih
      rw [List.count_cons_self]
      by_cases he : S.count y ≤ seen.count y
      · rw [if_pos he, List.count_cons_self, ih, Nat.sub_eq_zero_of_le he, Nat.sub_eq_zero_of_le (Nat.le_succ_of_le he)]; rfl
      · have e : S.count y - seen.count y = (S.count y - (seen.count y + 1)) + 1 := (Nat.sub_add_cancel (Nat.sub_pos_of_lt (Nat.lt_of_not_le he))).symm
        rw [if_neg he, ih, e, Nat.add_sub_add_right]
    · rw [List.count_cons_of_ne hy] at ih
      rw [List.count_cons_of_ne hy]
      split
      · rw [List.count_cons_of_ne hy, ih]
      · exact ih
theorem keepG_nil : ∀ (Y seen : List Str), keepG [] seen Y = Y
  | [], _ => rfl
  | y :: r, seen => by unfold keepG; rw [if_pos (by simp), keepG_nil]
noncomputable def lkR (Y : List Str) : List Str → List Str → List Str
  | [], _ => []
  | x :: r, S => (if Y.count x ≤ S.count x then [x] else []) ++ lkR Y r (x :: S)
theorem uld_lk {Y : List Str} : ∀ {R S m : List Str}, uld R (keepG S [] Y) m = (m ++ lkR Y R S, keepG (R.reverse ++ S) [] Y)
  | [], S, m => by simp [uld, lkR]
  | x :: r, S, m => by
    have he : (keepG S [] Y).erase x = keepG (x :: S) [] Y := (keepG_erase (by simp)).symm
    have hc := keepG_count (x := x) (S := S) (Y := Y) (seen := [])
    simp only [List.count_nil, Nat.sub_zero] at hc
    have hr : (x :: r).reverse ++ S = r.reverse ++ (x :: S) := by simp
    unfold uld lkR
    by_cases hx : x ∈ keepG S [] Y
    · have : 0 < (keepG S [] Y).count x := List.count_pos_iff.mpr hx
      rw [if_pos (by simpa using hx), he, uld_lk, hr, if_neg (by lia)]
      simp
    · have h0 : (keepG S [] Y).count x = 0 := List.count_eq_zero.mpr hx
      rw [if_neg (by simpa using hx), if_pos (by lia)]
      rw [List.erase_of_not_mem hx] at he
      rw [he, uld_lk, hr]
      simp
noncomputable def gS (Y : List Str) (k : Nat) : Str := (Y[k]?).getD ⟨#[]⟩
noncomputable def qLack (X Y : List Str) (k : Nat) : Bool := decide (((X.take k).count (gS X k) : Int) < (X.count (gS X k) : Int) - (Y.count (gS X k) : Int))
noncomputable def qKeep (X Y : List Str) (k : Nat) : Bool := decide ((X.count (gS Y k) : Int) ≤ ((Y.take k).count (gS Y k) : Int))
noncomputable def lacksL (X Y : List Str) : List Str := ((List.range X.length).reverse.filter (qLack X Y)).map (gS X)
noncomputable def keepsL (X Y : List Str) : List Str := ((List.range Y.length).filter (qKeep X Y)).map (gS Y)
theorem cut_at {X : List Str} {p : Nat} (h : p < X.length) : X.take (p + 1) = X.take p ++ [gS X p] ∧ X.drop p = gS X p :: X.drop (p + 1) := by
  have e : gS X p = X[p] := by simp [gS, h]
  rw [e]
  exact ⟨List.take_succ_eq_append_getElem h, List.drop_eq_getElem_cons h⟩
theorem lk_index {X Y : List Str} : ∀ (p : Nat), p ≤ X.length → lkR Y (X.take p).reverse (X.drop p) = ((List.range p).reverse.filter (qLack X Y)).map (gS X)
  | 0, _ => by simp [lkR]
  | p + 1, h => by
    obtain ⟨h1, h2⟩ := cut_at (X := X) (p := p) (by lia)
    have ih := lk_index (X := X) (Y := Y) p (by lia)
    rw [h1, List.range_succ]
    simp only [List.reverse_append, List.reverse_cons, List.reverse_nil, List.nil_append, List.cons_append, List.filter_cons]
    unfold lkR
    rw [← h2, ih]
    have hc : X.count (gS X p) = (X.take p).count (gS X p) + (1 + (X.drop (p + 1)).count (gS X p)) := by
      have hX : X = X.take p ++ (gS X p :: X.drop (p + 1)) := by rw [← h2, List.take_append_drop]
      have := congrArg (List.count (gS X p)) hX
      rw [List.count_append, List.count_cons_self] at this
      lia
    have hq : qLack X Y p = decide (Y.count (gS X p) ≤ (X.drop (p + 1)).count (gS X p)) := by
      unfold qLack
      rw [hc]
      apply Bool.eq_iff_iff.mpr
      simp only [decide_eq_true_eq]
      lia
    rw [hq]
    by_cases hh : Y.count (gS X p) ≤ (X.drop (p + 1)).count (gS X p)
    · simp [hh]
    · simp [hh]
theorem keep_index {X Y : List Str} : ∀ (c p : Nat) (seen : List Str), p + c = Y.length → (∀ z, seen.count z = (Y.take p).count z) → keepG X seen (Y.drop p) = ((List.range' p c).filter (qKeep X Y)).map (gS Y)
  | 0, p, seen, h, _ => by
    have : Y.drop p = [] := List.drop_eq_nil_iff.mpr (by lia)
    simp [this, keepG]
  | c + 1, p, seen, h, hs => by
    obtain ⟨h1, h2⟩ := cut_at (X := Y) (p := p) (by lia)
    have ih := keep_index (X := X) (Y := Y) c (p + 1) (gS Y p :: seen) (by lia) fun z => by
      rw [h1, List.count_append, List.count_cons, hs z, List.count_singleton]
    rw [h2, List.range'_succ]
    unfold keepG
    rw [ih, hs, List.filter_cons]
    have hq : qKeep X Y p = decide (X.count (gS Y p) ≤ (Y.take p).count (gS Y p)) := by
      unfold qKeep
      apply Bool.eq_iff_iff.mpr
      simp only [decide_eq_true_eq]
      lia
    rw [hq]
    by_cases hh : X.count (gS Y p) ≤ (Y.take p).count (gS Y p)
    · simp [hh]
    · simp [hh]
theorem uld_bags (X Y : List Str) : uld X.reverse Y [] = (lacksL X Y, keepsL X Y) := by
  have h := uld_lk (Y := Y) (R := X.reverse) (S := []) (m := [])
  rw [keepG_nil, List.reverse_reverse, List.append_nil, List.nil_append] at h
  rw [h]
  have h1 := lk_index (X := X) (Y := Y) X.length (Nat.le_refl _)
  have h2 := keep_index (X := X) (Y := Y) Y.length 0 [] (by lia) fun z => by simp
  rw [List.take_length, List.drop_length] at h1
  rw [List.drop_zero, ← List.range_eq_range'] at h2
  rw [h1, h2]; rfl

theorem downTo_range : ∀ (n : Nat), downTo ((n : Int) - 1) n = (List.range n).reverse.map fun (j : Nat) => D.int (j : Int)
  | 0 => rfl
  | n + 1 => by
    rw [List.range_succ, List.reverse_append]
    show D.int (((n + 1 : Nat) : Int) - 1) :: downTo (((n + 1 : Nat) : Int) - 1 - 1) n = _
    have e : ((n + 1 : Nat) : Int) - 1 = (n : Int) := by lia
    rw [e, downTo_range n]; rfl
theorem upTo_range' : ∀ (n a : Nat), upTo (a : Int) n = (List.range' a n).map fun (j : Nat) => D.int (j : Int)
  | 0, _ => rfl
  | n + 1, a => by
    rw [List.range'_succ]
    show D.int (a : Int) :: upTo ((a : Int) + 1) n = _
    have := upTo_range' n (a + 1)
    rw [show ((a + 1 : Nat) : Int) = (a : Int) + 1 by lia] at this
    rw [this]; rfl
theorem upTo_range (n : Nat) : upTo 0 n = (List.range n).map fun (j : Nat) => D.int (j : Int) := by
  have := upTo_range' n 0
  rw [List.range_eq_range']; exact this
theorem comp_nat {α : Type} {f : α → D} {q : α → Bool} {test : D → Option Bool} {elt : D → Option D} {g : α → D} : ∀ {l : List α}, (∀ j ∈ l, test (f j) = some (q j)) → (∀ j ∈ l, q j = true → elt (f j) = some (g j)) → compO test elt (l.map f) = some ((l.filter q).map g)
  | [], _, _ => rfl
  | d :: r, h1, h2 => by
    rw [List.map_cons]
    unfold compO
    rw [h1 d List.mem_cons_self]
    have ih := comp_nat (l := r) (fun d hd => h1 d (List.mem_cons_of_mem _ hd)) (fun d hd => h2 d (List.mem_cons_of_mem _ hd))
    cases hq : q d with
    | true => simp only [h2 d List.mem_cons_self hq, ih, List.filter_cons, hq, if_true, List.map_cons]
    | false => simp [ih, hq]
theorem comp_each {α : Type} {f : α → D} {test : D → Option Bool} {elt : D → Option D} {g : α → D} {l : List α} (h1 : ∀ d, test d = some true) (h2 : ∀ j ∈ l, elt (f j) = some (g j)) : compO test elt (l.map f) = some (l.map g) := by
  rw [comp_nat (q := fun _ => true) (g := g) (fun d _ => h1 _) fun d hd _ => h2 d hd]
  have : l.filter (fun _ => true) = l := List.filter_eq_self.mpr fun _ _ => rfl
  rw [this]
theorem getS_ {X : List Str} {k : Nat} (h : k < X.length) (hl : X.length ≤ 1000) : getD (.lst (X.map .str)) (.int (k : Int)) = some (.str (gS X k)) := by
  have h1 : smallI (k : Int) = true := by unfold smallI; simp only [Bool.and_eq_true, decide_eq_true_eq]; lia
  show (if smallI (k : Int) then (idxOf (X.map D.str).length k).bind ((X.map D.str)[·]?) else none) = _
  rw [if_pos h1, show idxOf (X.map D.str).length (k : Int) = some k from if_pos (Int.natCast_nonneg k)]
  show (X.map D.str)[k]? = _
  rw [List.getElem?_map]
  simp [gS, h]
theorem gS_mem {X : List Str} {k : Nat} (h : k < X.length) : gS X k ∈ X := by
  have : gS X k = X[k] := by simp [gS, h]
  rw [this]; exact List.getElem_mem h
end Mine.PL
end
noncomputable section
open PySem PySem.W PyProof.Rows PySem.Challenge PySem.SeqAt
set_option maxRecDepth 100000
set_option linter.unusedVariables false
namespace Mine.PL

/-! parts of a comprehension -/
noncomputable def lcE : Expr → Expr
  | .ListComp e _ _ _ => e
  | e => e
noncomputable def lcT : Expr → Expr
  | .ListComp _ [⟨t, _, _, _⟩] _ _ => t
  | e => e
noncomputable def lcI : Expr → Expr
  | .ListComp _ [⟨_, i, _, _⟩] _ _ => i
  | e => e
noncomputable def lcF : Expr → Expr
  | .ListComp _ [⟨_, _, [c], _⟩] _ _ => c
  | e => e
noncomputable def lcS : Expr → Scope
  | .ListComp _ _ sc _ => sc
  | _ => default
noncomputable def argE (j : Nat) : Expr → Expr
  | .Call _ as _ _ => (as[j]?).getD default
  | e => e

noncomputable def sc15 : Scope := (dAt 15).scope
noncomputable def ba : Expr := valS (stAt 15 0)
noncomputable def bb : Expr := tE 1 (valS (stAt 15 1))
noncomputable def scA : Scope := relab (lcS ba) sc15
noncomputable def scB : Scope := relab (lcS bb) sc15
theorem bg_fn : fnOf (N "_law_bags") = some 15 := by kernel_rfl
theorem bg_sp : specNames.contains (N "_law_bags") = false := by kernel_rfl
theorem bg_pl : plainD (dAt 15) = true := by kernel_rfl
theorem bg_bind (x y : D) : bindA (dAt 15) [x, y] [] = some [(N "one", x), (N "two", y)] := by kernel_rfl
theorem bg_body : (dAt 15).body = [stAt 15 0, stAt 15 1] := by kernel_rfl
theorem bg_s0 : stAt 15 0 = .Assign [.Name (N "lacks") (tgtS (stAt 15 0)).pos] (.ListComp (lcE ba) [⟨.Name (N "k") (lcT ba).pos, lcI ba, [lcF ba], 0⟩] (lcS ba) ba.pos) (posS (stAt 15 0)) := by kernel_rfl
theorem bg_s1 : stAt 15 1 = .Return (some (.Tuple [.Name (N "lacks") (tE 0 (valS (stAt 15 1))).pos, .ListComp (lcE bb) [⟨.Name (N "k") (lcT bb).pos, lcI bb, [lcF bb], 0⟩] (lcS bb) bb.pos] (tupK (valS (stAt 15 1))) (valS (stAt 15 1)).pos)) (posS (stAt 15 1)) := by kernel_rfl
theorem bg_ok : compOk (lcS ba) sc15 (N "k") = true ∧ compOk (lcS bb) sc15 (N "k") = true ∧ isOwn sc15 (N "lacks") = true ∧ (isVar sc15 (N "lacks") && goodName (N "lacks")) = true := by refine ⟨?_, ?_, ?_, ?_⟩ <;> kernel_rfl

/-- a method call's node -/
noncomputable def mNode (n : Nat) (sc : Scope) (ρ : Rho) (o a : Expr) (m : Str) : Option D := match (ev n).e sc ρ o, mapO ((ev n).e sc ρ) [a] with
  | some d, some as => methD d m as
  | _, _ => none
theorem mNode_count {n : Nat} {sc : Scope} {ρ : Rho} {o a : Expr} {l : List Str} {x : Str} (h1 : (ev n).e sc ρ o = some (.lst (l.map .str))) (h2 : (ev n).e sc ρ a = some (.str x)) (hx : PyData.strOk x = true) (hl : ∀ y ∈ l, PyData.strOk y = true) : mNode n sc ρ o a (N "count") = some (.int ((l.count x : Nat) : Int)) := by
  unfold mNode
  simp only [h1, mapO, h2, Option.map_some]
  show (if N "count" == N "count" then (countD (.str x) (l.map .str)).map (fun (n : Nat) => D.int (n : Int)) else none) = _
  rw [if_pos (by simp), count_str hx hl]; rfl

theorem r_sliceTo {n : Nat} {sc : Scope} {ρ : Rho} {d : D} {p : Pos} {v hi : Expr} {ps : Pos} {j : Nat} (hv : (ev n).e sc ρ v = some d) (h2 : (ev n).e sc ρ hi = some (.int (j : Int))) (hj : j ≤ 999999) :
    (ev (n + 1)).e sc ρ (.Subscript v (.Slice none (some hi) none ps) p) = sliceD d none (some j) false := by
  have e2 : natD (some (.int (j : Int))) = some (some j) := natD_nat hj
  show subSl ((ev n).e sc ρ v) (some none) (((ev n).e sc ρ hi).map some) (some false) = _
  rw [hv, h2]
  show (match (some none : Option (Option Nat)), natD (some (.int (j : Int))) with | some l', some h' => sliceD d l' h' false | _, _ => none) = _
  rw [e2]
noncomputable def T1 : Expr := lcF ba
noncomputable def T2 : Expr := lcF bb
theorem a_L (n : Nat) (ρ : Rho) : (ev (n + 1)).e scA ρ (atE 0 T1) = mNode n scA ρ (atE 0 (atE 0 (atE 0 T1))) (atE 1 (atE 0 T1)) (N "count") := by kernel_rfl
theorem a_R1 (n : Nat) (ρ : Rho) : (ev (n + 1)).e scA ρ (bL (atE 1 T1)) = mNode n scA ρ (atE 0 (atE 0 (bL (atE 1 T1)))) (atE 1 (bL (atE 1 T1))) (N "count") := by kernel_rfl
theorem a_R2 (n : Nat) (ρ : Rho) : (ev (n + 1)).e scA ρ (bR (atE 1 T1)) = mNode n scA ρ (atE 0 (atE 0 (bR (atE 1 T1)))) (atE 1 (bR (atE 1 T1))) (N "count") := by kernel_rfl
theorem a_R (n : Nat) (ρ : Rho) : (ev (n + 1)).e scA ρ (atE 1 T1) = (match (ev n).e scA ρ (bL (atE 1 T1)), (ev n).e scA ρ (bR (atE 1 T1)) with | some a, some b => binD .Sub a b | _, _ => none) := by kernel_rfl
theorem a_T (n : Nat) (ρ : Rho) : (ev (n + 1)).t scA ρ T1 = (match (ev n).e scA ρ (atE 0 T1), (ev n).e scA ρ (atE 1 T1) with | some a, some b => cmpD .Lt a b | _, _ => none) := by kernel_rfl
noncomputable def rhoB (i : Int) (a b : D) : Rho := [(N "k", .int i), (N "one", a), (N "two", b)]
noncomputable def rhoC (i : Int) (c a b : D) : Rho := [(N "k", .int i), (N "lacks", c), (N "one", a), (N "two", b)]
theorem a_leaf (n : Nat) (i : Int) (a b : D) : (ev (n + 2)).e scA (rhoB i a b) (lcE ba) = getD a (.int i) ∧ (ev (n + 2)).e scA (rhoB i a b) (atE 1 (atE 0 T1)) = getD a (.int i) ∧ (ev (n + 2)).e scA (rhoB i a b) (atE 1 (bL (atE 1 T1))) = getD a (.int i) ∧ (ev (n + 2)).e scA (rhoB i a b) (atE 1 (bR (atE 1 T1))) = getD a (.int i) ∧
    (ev (n + 2)).e scA (rhoB i a b) (atE 0 (atE 0 (bL (atE 1 T1)))) = some a ∧ (ev (n + 2)).e scA (rhoB i a b) (atE 0 (atE 0 (bR (atE 1 T1)))) = some b := by refine ⟨?_, ?_, ?_, ?_, ?_, ?_⟩ <;> kernel_rfl
noncomputable def S1 : Expr := atE 0 (atE 0 (atE 0 T1))
theorem a_slice : S1 = .Subscript (.Name (N "one") (atE 0 S1).pos) (.Slice none (some (.Name (N "k") (slH S1).pos)) none (slP S1)) S1.pos := by kernel_rfl
theorem a_vars : (isVar scA (N "one") && goodName (N "one")) = true ∧ (isVar scA (N "k") && goodName (N "k")) = true := by refine ⟨?_, ?_⟩ <;> kernel_rfl
theorem a_look (i : Int) (a b : D) : (rhoB i a b).lookup (N "one") = some a ∧ (rhoB i a b).lookup (N "k") = some (.int i) := by refine ⟨?_, ?_⟩ <;> kernel_rfl
theorem a_len (n : Nat) (a b : D) : (ev (n + 3)).e sc15 [(N "one", a), (N "two", b)] (bL (argE 0 (lcI ba))) = builtD (N "len") [a] := by kernel_rfl
theorem a_len1 (n : Nat) (ρ : Rho) : (ev (n + 1)).e sc15 ρ (argE 0 (lcI ba)) = (match (ev n).e sc15 ρ (bL (argE 0 (lcI ba))), (ev n).e sc15 ρ (bR (argE 0 (lcI ba))) with | some a, some b => binD .Sub a b | _, _ => none) := by kernel_rfl
theorem a_one (n : Nat) (ρ : Rho) : (ev (n + 2)).e sc15 ρ (bR (argE 0 (lcI ba))) = some (.int 1) ∧ (ev (n + 2)).e sc15 ρ (argE 1 (lcI ba)) = some (.int (-1)) ∧ (ev (n + 2)).e sc15 ρ (argE 2 (lcI ba)) = some (.int (-1)) := by refine ⟨?_, ?_, ?_⟩ <;> kernel_rfl
theorem a_iter (n : Nat) (ρ : Rho) : stepIter (ev n) sc15 ρ (lcI ba) = (mapO ((ev n).e sc15 ρ) [argE 0 (lcI ba), argE 1 (lcI ba), argE 2 (lcI ba)]).bind rangeD := by kernel_rfl

theorem c_L (n : Nat) (ρ : Rho) : (ev (n + 1)).e scB ρ (atE 0 T2) = mNode n scB ρ (atE 0 (atE 0 (atE 0 T2))) (atE 1 (atE 0 T2)) (N "count") := by kernel_rfl
theorem c_R (n : Nat) (ρ : Rho) : (ev (n + 1)).e scB ρ (atE 1 T2) = mNode n scB ρ (atE 0 (atE 0 (atE 1 T2))) (atE 1 (atE 1 T2)) (N "count") := by kernel_rfl
theorem c_T (n : Nat) (ρ : Rho) : (ev (n + 1)).t scB ρ T2 = (match (ev n).e scB ρ (atE 0 T2), (ev n).e scB ρ (atE 1 T2) with | some a, some b => cmpD .GtE a b | _, _ => none) := by kernel_rfl
theorem c_leaf (n : Nat) (i : Int) (c a b : D) : (ev (n + 2)).e scB (rhoC i c a b) (lcE bb) = getD b (.int i) ∧ (ev (n + 2)).e scB (rhoC i c a b) (atE 1 (atE 0 T2)) = getD b (.int i) ∧ (ev (n + 2)).e scB (rhoC i c a b) (atE 1 (atE 1 T2)) = getD b (.int i) ∧
    (ev (n + 2)).e scB (rhoC i c a b) (atE 0 (atE 0 (atE 1 T2))) = some a := by refine ⟨?_, ?_, ?_, ?_⟩ <;> kernel_rfl
noncomputable def S2 : Expr := atE 0 (atE 0 (atE 0 T2))
theorem c_slice : S2 = .Subscript (.Name (N "two") (atE 0 S2).pos) (.Slice none (some (.Name (N "k") (slH S2).pos)) none (slP S2)) S2.pos := by kernel_rfl
theorem c_vars : (isVar scB (N "two") && goodName (N "two")) = true ∧ (isVar scB (N "k") && goodName (N "k")) = true := by refine ⟨?_, ?_⟩ <;> kernel_rfl
theorem c_look (i : Int) (c a b : D) : (rhoC i c a b).lookup (N "two") = some b ∧ (rhoC i c a b).lookup (N "k") = some (.int i) := by refine ⟨?_, ?_⟩ <;> kernel_rfl
theorem c_len (n : Nat) (c a b : D) : (ev (n + 3)).e sc15 [(N "lacks", c), (N "one", a), (N "two", b)] (argE 0 (lcI bb)) = builtD (N "len") [b] := by kernel_rfl
theorem c_iter (n : Nat) (ρ : Rho) : stepIter (ev n) sc15 ρ (lcI bb) = (mapO ((ev n).e sc15 ρ) [argE 0 (lcI bb)]).bind rangeD := by kernel_rfl

theorem cut_to {l : List Str} {j : Nat} (hl : l.length ≤ 1000) : sliceD (.lst (l.map .str)) none (some j) false = some (.lst ((l.take j).map .str)) := by
  show (if smallL (l.map D.str).length then some (D.lst (cutL none (some j) (l.map .str))) else none) = _
  rw [if_pos (by unfold smallL; simp; lia)]
  simp [cutL]
theorem one_test {f : Expr → Option Bool} {c : Expr} {b : Bool} (h : f c = some b) : allO f [c] = some b := by
  unfold allO
  rw [h]
  cases b <;> rfl

theorem bags_ (n : Nat) {X Y : List Str} (hX : X.length ≤ 900) (hY : Y.length ≤ 900) (gX : ∀ y ∈ X, PyData.strOk y = true) (gY : ∀ y ∈ Y, PyData.strOk y = true) :
    (ev (n + 20)).c (N "_law_bags") [lstS X, lstS Y] [] = some (.tup [lstS (uld X.reverse Y []).1, lstS (uld X.reverse Y []).2]) := by
  rw [uld_bags]
  obtain ⟨o1, o2, o3, o4⟩ := bg_ok
  refine r_call bg_sp bg_fn bg_pl (bg_bind _ _) (ρ' := [(N "lacks", lstS (lacksL X Y)), (N "one", lstS X), (N "two", lstS Y)]) ?_
  rw [bg_body]
  refine r_cons (ρ' := [(N "lacks", lstS (lacksL X Y)), (N "one", lstS X), (N "two", lstS Y)]) ?_ (r_ret ?_)
  · rw [bg_s0]
    refine r_asg o3 (r_comp (n := n + 17) (ds := (List.range X.length).reverse.map fun (j : Nat) => D.int (j : Int)) ?_ o1 (by simp; lia) (by kernel_rfl) ?_)
    · refine (a_iter _ _).trans ?_
      have h0 : (ev (n + 17)).e sc15 [(N "one", lstS X), (N "two", lstS Y)] (argE 0 (lcI ba)) = some (.int ((X.length : Int) - 1)) := by
        rw [a_len1, a_len (n + 13)]
        unfold lstS
        rw [b_len, if_pos (by unfold smallL; simp; lia), (a_one (n + 14) _).1, List.length_map]
        rfl
      simp only [mapO, h0, (a_one (n + 15) _).2.1, (a_one (n + 15) _).2.2, Option.map_some, Option.bind_some]
      show (if smallI ((X.length : Int) - 1) && smallI (-1) && (-1 : Int) == -1 then some (downTo ((X.length : Int) - 1) ((X.length : Int) - 1 - -1).toNat) else none) = _
      rw [if_pos (by simp [smallI]; lia), show ((X.length : Int) - 1 - -1).toNat = X.length by lia, downTo_range]
    · show _ = some (List.map D.str (List.map (gS X) (List.filter (qLack X Y) (List.range X.length).reverse)))
      rw [List.map_map]
      refine comp_nat (fun j hj => one_test ?_) fun j hj _ => ?_
      · have hj : j < X.length := by simpa using hj
        have gx := gX _ (gS_mem hj)
        have hg := getS_ hj (by lia)
        have hi : ∀ m, (ev (m + 3)).e scA (rhoB j (lstS X) (lstS Y)) (atE 0 (atE 0 (atE 0 T1))) = some (.lst ((X.take j).map .str)) := fun m => by
          show (ev (m + 3)).e scA (rhoB j (lstS X) (lstS Y)) S1 = _
          rw [a_slice]
          exact (r_sliceTo (r_name a_vars.1 (a_look _ _ _).1) (r_name a_vars.2 (a_look _ _ _).2) (by lia)).trans (cut_to (by lia))
        obtain ⟨l1, l2, l3, l4, l5, l6⟩ := a_leaf (n + 12) j (lstS X) (lstS Y)
        obtain ⟨k1, k2, k3, k4, k5, k6⟩ := a_leaf (n + 13) j (lstS X) (lstS Y)
        have hL : (ev (n + 16)).e scA (rhoB j (lstS X) (lstS Y)) (atE 0 T1) = some (.int (((X.take j).count (gS X j) : Nat) : Int)) := by
          rw [a_L]
          exact mNode_count (hi (n + 12)) (k2.trans hg) gx fun y hy => gX y (List.mem_of_mem_take hy)
        have hR1 : (ev (n + 15)).e scA (rhoB j (lstS X) (lstS Y)) (bL (atE 1 T1)) = some (.int ((X.count (gS X j) : Nat) : Int)) := by
          rw [a_R1]
          exact mNode_count l5 (l3.trans hg) gx gX
        have hR2 : (ev (n + 15)).e scA (rhoB j (lstS X) (lstS Y)) (bR (atE 1 T1)) = some (.int ((Y.count (gS X j) : Nat) : Int)) := by
          rw [a_R2]
          exact mNode_count l6 (l4.trans hg) gx gY
        show (ev (n + 17)).t scA (rhoB j (lstS X) (lstS Y)) T1 = _
        rw [a_T, hL, a_R, hR1, hR2]
        rfl
      · have hj : j < X.length := by simpa using hj
        exact (a_leaf (n + 15) j (lstS X) (lstS Y)).1.trans (getS_ hj (by lia))
  · rw [bg_s1]
    refine r_return (r_tup2 (r_name o4 (by kernel_rfl)) (r_comp (n := n + 16) (ds := (List.range Y.length).map fun (j : Nat) => D.int (j : Int)) ?_ o2 (by simp; lia) (by kernel_rfl) ?_))
    · refine (c_iter _ _).trans ?_
      have h0 : (ev (n + 16)).e sc15 [(N "lacks", lstS (lacksL X Y)), (N "one", lstS X), (N "two", lstS Y)] (argE 0 (lcI bb)) = some (.int (Y.length : Int)) := by
        rw [c_len (n + 13)]
        unfold lstS
        rw [b_len, if_pos (by unfold smallL; simp; lia), List.length_map]
      simp only [mapO, h0, Option.map_some, Option.bind_some]
      show (if smallI (Y.length : Int) then some (upTo 0 ((Y.length : Int)).toNat) else none) = _
      rw [if_pos (by simp [smallI]; lia), Int.toNat_natCast, upTo_range]
    · show _ = some (List.map D.str (List.map (gS Y) (List.filter (qKeep X Y) (List.range Y.length))))
      rw [List.map_map]
      refine comp_nat (fun j hj => one_test ?_) fun j hj _ => ?_
      · have hj : j < Y.length := by simpa using hj
        have gy := gY _ (gS_mem hj)
        have hg := getS_ hj (by lia)
        obtain ⟨k1, k2, k3, k4⟩ := c_leaf (n + 12) j (lstS (lacksL X Y)) (lstS X) (lstS Y)
        have hi : (ev (n + 14)).e scB (rhoC j (lstS (lacksL X Y)) (lstS X) (lstS Y)) (atE 0 (atE 0 (atE 0 T2))) = some (.lst ((Y.take j).map .str)) := by
          show (ev (n + 14)).e scB (rhoC j (lstS (lacksL X Y)) (lstS X) (lstS Y)) S2 = _
          rw [c_slice]
          exact (r_sliceTo (r_name c_vars.1 (c_look _ _ _ _).1) (r_name c_vars.2 (c_look _ _ _ _).2) (by lia)).trans (cut_to (by lia))
        have hL : (ev (n + 14 + 1)).e scB (rhoC j (lstS (lacksL X Y)) (lstS X) (lstS Y)) (atE 0 T2) = some (.int (((Y.take j).count (gS Y j) : Nat) : Int)) := by
          rw [c_L]
          exact mNode_count hi (k2.trans hg) gy fun y hy => gY y (List.mem_of_mem_take hy)
        have hR : (ev (n + 14 + 1)).e scB (rhoC j (lstS (lacksL X Y)) (lstS X) (lstS Y)) (atE 1 T2) = some (.int ((X.count (gS Y j) : Nat) : Int)) := by
          rw [c_R]
          exact mNode_count k4 (k3.trans hg) gy gX
        show (ev (n + 15 + 1)).t scB (rhoC j (lstS (lacksL X Y)) (lstS X) (lstS Y)) T2 = _
        rw [c_T, hL, hR]
        rfl
      · have hj : j < Y.length := by simpa using hj
        exact (c_leaf (n + 14) j (lstS (lacksL X Y)) (lstS X) (lstS Y)).1.trans (getS_ hj (by lia))
end Mine.PL
end
noncomputable section
open PySem PySem.W PyProof.Rows PySem.Challenge PySem.SeqAt
set_option maxRecDepth 100000
set_option linter.unusedVariables false
namespace Mine.PL

section
variable {n : Nat} {sc : Scope} {ρ : Rho} {α : Type} {l : List α} {f g : α → D} {q : α → Bool} {x : Str} {e : Expr}
theorem r_each (hs : e = .ListComp (lcE e) [⟨.Name x (lcT e).pos, lcI e, [], 0⟩] (lcS e) e.pos) (hok : compOk (lcS e) sc x = true) (hi : stepIter (ev n) sc ρ (lcI e) = some (l.map f)) (hl : l.length ≤ 1000) (h0 : ρ.lookup dot0 = none)
    (h : ∀ j ∈ l, (ev n).e (relab (lcS e) sc) ((x, f j) :: ρ) (lcE e) = some (g j)) : (ev (n + 1)).e sc ρ e = some (.lst (l.map g)) := by
  rw [hs]
  exact r_comp hi hok (by simpa using hl) h0 (comp_each (fun _ => rfl) h)
theorem r_some (hs : e = .ListComp (lcE e) [⟨.Name x (lcT e).pos, lcI e, [lcF e], 0⟩] (lcS e) e.pos) (hok : compOk (lcS e) sc x = true) (hi : stepIter (ev n) sc ρ (lcI e) = some (l.map f)) (hl : l.length ≤ 1000) (h0 : ρ.lookup dot0 = none)
    (h1 : ∀ j ∈ l, (ev n).t (relab (lcS e) sc) ((x, f j) :: ρ) (lcF e) = some (q j)) (h : ∀ j ∈ l, q j = true → (ev n).e (relab (lcS e) sc) ((x, f j) :: ρ) (lcE e) = some (g j)) : (ev (n + 1)).e sc ρ e = some (.lst ((l.filter q).map g)) := by
  rw [hs]
  exact r_comp hi hok (by simpa using hl) h0 (comp_nat (fun j hj => one_test (h1 j hj)) h)
end

/-! the law's environments -/
noncomputable abbrev g3 (a b c : D) : Rho := [(N "names", a), (N "cut", b), (N "script", c)]
noncomputable abbrev g4 (r a b c : D) : Rho := (N "rows", r) :: g3 a b c
noncomputable abbrev g5 (q r a b c : D) : Rho := (N "read", q) :: g4 r a b c
noncomputable abbrev g6 (p q r a b c : D) : Rho := (N "parts", p) :: g5 q r a b c
noncomputable abbrev g7 (t p q r a b c : D) : Rho := (N "taken", t) :: g6 p q r a b c

noncomputable def nmD : D := .lst (nmL.map stD)
noncomputable def co (i : Int) : Nat := (i.fmod 4).toNat + 4 * ((i.fdiv 4).fmod 4).toNat
noncomputable def R1 (C : List Int) : List Int := 2 :: 13 :: 2 :: alt2 C
noncomputable def R2 (C : List Int) : List Int := 4 :: 2 :: alt2 (C.drop 1)
noncomputable def rowD (c : List Nat) : D := .lst (c.map fun x => stD (pt x))
noncomputable def rowsD (c1 c2 : List Nat) : D := .lst [rowD c1, rowD c2]

/-! statement 0 -/
noncomputable def q0 : Expr := valS (stAt 17 0)
theorem s0_sh : stAt 17 0 = .Assign [.Tuple [.Name (N "cut") (tE 0 (tgtS (stAt 17 0))).pos, .Name (N "names") (tE 1 (tgtS (stAt 17 0))).pos] (tupK (tgtS (stAt 17 0))) (tgtS (stAt 17 0)).pos] (.Tuple [tE 0 q0, tE 1 q0] (tupK q0) q0.pos) (posS (stAt 17 0)) := by kernel_rfl
theorem s0_ok : (isOwn scL (N "cut") && isOwn scL (N "names") && !(N "cut" == N "names") && swOk (.Tuple [tE 0 q0, tE 1 q0] (tupK q0) q0.pos)) = true := by kernel_rfl
theorem s0_sl : tE 0 q0 = .Subscript (.Name (N "script") (atE 0 (tE 0 q0)).pos) (.Slice none (some (slH (tE 0 q0))) none (slP (tE 0 q0))) (tE 0 q0).pos := by kernel_rfl
theorem s0_v (c : D) : (isVar scL (N "script") && goodName (N "script")) = true ∧ ([(N "script", c)] : Rho).lookup (N "script") = some c := by refine ⟨?_, ?_⟩ <;> kernel_rfl
theorem s0_c (n : Nat) (ρ : Rho) : (ev (n + 1)).e scL ρ (slH (tE 0 q0)) = some (.int ((4 : Nat) : Int)) := by kernel_rfl
theorem s0_n (n : Nat) (ρ : Rho) : (ev (n + 3)).e scL ρ (tE 1 q0) = some nmD := by kernel_rfl
theorem s0_ (n : Nat) {L : List Int} (hL : L.length ≤ 1000) : (ev (n + 10)).s scL [(N "script", .lst (L.map .int))] (stAt 17 0) = some (g3 nmD (.lst ((L.take 4).map .int)) (.lst (L.map .int)), .next) := by
  rw [s0_sh]
  refine r_asg2 s0_ok (r_tup2 ?_ (s0_n (n + 5) _))
  rw [s0_sl]
  refine (r_sliceTo (r_name (s0_v (.lst (L.map .int))).1 (s0_v _).2) (s0_c (n + 6) _) (by lia)).trans ?_
  show (if smallL (L.map D.int).length then some (D.lst (cutL none (some 4) (L.map .int))) else none) = _
  rw [if_pos (by unfold smallL; simp; lia)]
  simp [cutL]

/-! statement 1 -/
noncomputable def q1 : Expr := valS (stAt 17 1)
noncomputable def sc1a : Scope := relab (lcS q1) scL
noncomputable def sc1b : Scope := relab (lcS (lcE q1)) sc1a
theorem s1_sh : stAt 17 1 = .Assign [.Name (N "rows") (tgtS (stAt 17 1)).pos] q1 (posS (stAt 17 1)) ∧ q1 = .ListComp (lcE q1) [⟨.Name (N "row") (lcT q1).pos, lcI q1, [], 0⟩] (lcS q1) q1.pos ∧
    lcE q1 = .ListComp (lcE (lcE q1)) [⟨.Name (N "x") (lcT (lcE q1)).pos, lcI (lcE q1), [], 0⟩] (lcS (lcE q1)) (lcE q1).pos := by refine ⟨?_, ?_, ?_⟩ <;> kernel_rfl
theorem s1_ok : isOwn scL (N "rows") = true ∧ compOk (lcS q1) scL (N "row") = true ∧ compOk (lcS (lcE q1)) sc1a (N "x") = true := by refine ⟨?_, ?_, ?_⟩ <;> kernel_rfl
noncomputable def abqs : D := .str ⟨#[97, 98, 63, 42]⟩
theorem s1_elt (n : Nat) (i : Int) (ρ : Rho) : (ev (n + 6)).e sc1b ((N "x", .int i) :: ρ) (lcE (lcE q1)) = (match getD abqs (.int (i.fmod 4)), getD abqs (.int ((i.fdiv 4).fmod 4)) with | some a, some b => binD .Add a b | _, _ => none) := by kernel_rfl
theorem s1_in (n : Nat) (l : List D) (a b c : D) : stepIter (ev (n + 2)) sc1a ((N "row", .lst l) :: g3 a b c) (lcI (lcE q1)) = some l := by kernel_rfl
theorem s1_it (n : Nat) (a c : D) : ∀ (C : List Int), C.length ≤ 4 → stepIter (ev (n + 8)) scL (g3 a (.lst (C.map .int)) c) (lcI q1) = some [.lst ((R1 C).map .int), .lst ((R2 C).map .int)]
  | [], _ => by kernel_rfl
  | [x], _ => by kernel_rfl
  | [x, y], _ => by kernel_rfl
  | [x, y, z], _ => by kernel_rfl
  | [x, y, z, w], _ => by kernel_rfl
  | _ :: _ :: _ :: _ :: _ :: _, h => by simp at h
theorem co_lt (i : Int) : co i < 16 := by
  have := Int.fmod_lt_of_pos i (b := 4) (by lia)
  have := Int.fmod_lt_of_pos (i.fdiv 4) (b := 4) (by lia)
  have := Int.fmod_nonneg_of_pos i (b := 4) (by lia)
  have := Int.fmod_nonneg_of_pos (i.fdiv 4) (b := 4) (by lia)
  unfold co; lia
theorem ab_tab : (List.range 4).map (fun (j : Nat) => getD abqs (.int (j : Int))) = (List.range 4).map fun (j : Nat) => some (stD [ltr j]) := by kernel_rfl
theorem ab_at {i : Int} (h0 : 0 ≤ i) (h : i < 4) : getD abqs (.int i) = some (stD [ltr i.toNat]) := by
  have := map_at ab_tab i.toNat (List.mem_range.mpr (by lia))
  rw [Int.toNat_of_nonneg h0] at this
  exact this
theorem s1_val (n : Nat) (i : Int) (ρ : Rho) : (ev (n + 6)).e sc1b ((N "x", .int i) :: ρ) (lcE (lcE q1)) = some (stD (pt (co i))) := by
  have a1 := Int.fmod_lt_of_pos i (b := 4) (by lia)
  have a2 := Int.fmod_lt_of_pos (i.fdiv 4) (b := 4) (by lia)
  have a3 := Int.fmod_nonneg_of_pos i (b := 4) (by lia)
  have a4 := Int.fmod_nonneg_of_pos (i.fdiv 4) (b := 4) (by lia)
  rw [s1_elt, ab_at a3 a1, ab_at a4 a2]
  refine (addS (l := [ltr (i.fmod 4).toNat]) (m := [ltr ((i.fdiv 4).fmod 4).toNat]) (by simp)).trans ?_
  have e1 : co i % 4 = (i.fmod 4).toNat := by unfold co; lia
  have e2 : co i / 4 = ((i.fdiv 4).fmod 4).toNat := by unfold co; lia
  unfold pt
  rw [e1, e2]; rfl
theorem alt2_len {α : Type} : ∀ (l : List α), (alt2 l).length ≤ l.length
  | [] => by simp [alt2]
  | [x] => by simp [alt2]
  | x :: _ :: r => by have := alt2_len r; simp [alt2]; lia
theorem R_len {C : List Int} (h : C.length ≤ 4) : (R1 C).length ≤ 7 ∧ (R2 C).length ≤ 7 := by
  have h1 := alt2_len C
  have h2 := alt2_len (C.drop 1)
  simp only [List.length_drop] at h2
  simp only [R1, R2, List.length_cons]; lia
theorem s1_row (n : Nat) {R : List Int} (hR : R.length ≤ 7) (a b c : D) : (ev (n + 8)).e sc1a ((N "row", .lst (R.map .int)) :: g3 a b c) (lcE q1) = some (rowD (R.map co)) := by
  refine (r_each (f := D.int) (g := fun i => stD (pt (co i))) (l := R) s1_sh.2.2 s1_ok.2.2 (s1_in (n + 5) _ _ _ _) (by lia) (by kernel_rfl) fun i _ => s1_val (n + 1) i _).trans ?_
  unfold rowD
  rw [List.map_map]; rfl
theorem s1_ (n : Nat) {C : List Int} (hC : C.length ≤ 4) (a c : D) : (ev (n + 12)).s scL (g3 a (.lst (C.map .int)) c) (stAt 17 1) = some (g4 (rowsD ((R1 C).map co) ((R2 C).map co)) a (.lst (C.map .int)) c, .next) := by
  obtain ⟨r1, r2⟩ := R_len hC
  rw [s1_sh.1]
  refine r_asg s1_ok.1 (r_each (l := [R1 C, R2 C]) (f := fun R => .lst (R.map .int)) (g := fun R => rowD (R.map co)) s1_sh.2.1 s1_ok.2.1 (s1_it (n + 2) a c C hC) (by simp) (by kernel_rfl) fun R hR => s1_row (n + 2) ?_ _ _ _)
  simp only [List.mem_cons, List.not_mem_nil, or_false] at hR
  rcases hR with rfl | rfl
  · exact r1
  · exact r2
end Mine.PL
end
noncomputable section
open PySem PySem.W PyProof.Rows PySem.Challenge PySem.SeqAt
set_option maxRecDepth 100000
set_option linter.unusedVariables false
namespace Mine.PL

/-! statement 2 -/
noncomputable def q2 : Expr := valS (stAt 17 2)
noncomputable def scR : Scope := relab (lcS q2) scL
theorem s2_sh : stAt 17 2 = .Assign [.Name (N "read") (tgtS (stAt 17 2)).pos] q2 (posS (stAt 17 2)) ∧ q2 = .ListComp (lcE q2) [⟨.Name (N "row") (lcT q2).pos, lcI q2, [], 0⟩] (lcS q2) q2.pos := by refine ⟨?_, ?_⟩ <;> kernel_rfl
theorem s2_ok : isOwn scL (N "read") = true ∧ compOk (lcS q2) scL (N "row") = true := by refine ⟨?_, ?_⟩ <;> kernel_rfl
/-- a call's node -/
noncomputable def cNode (n : Nat) (sc : Scope) (ρ : Rho) (f : Str) (es : List Expr) : Option D := match mapO ((ev n).e sc ρ) es, (some [] : Option (List (Str × D))) with
  | some as, some kw => if builtNames.contains f && kw.isEmpty then builtD f as else (ev n).c f as kw
  | _, _ => none
theorem cNode_ {n : Nat} {sc : Scope} {ρ : Rho} {f : Str} {es : List Expr} {as : List D} (hb : builtNames.contains f = false) (h : mapO ((ev n).e sc ρ) es = some as) : cNode n sc ρ f es = (ev n).c f as [] := by
  unfold cNode
  rw [h]
  simp only [hb, Bool.false_and, Bool.false_eq_true, if_false]
theorem s2_b : builtNames.contains (N "_law_read") = false ∧ builtNames.contains (N "_law_document") = false := by refine ⟨?_, ?_⟩ <;> kernel_rfl
theorem s2_e (n : Nat) (ρ : Rho) : (ev (n + 1)).e scR ρ (lcE q2) = cNode n scR ρ (N "_law_read") [argE 0 (lcE q2)] := by kernel_rfl
theorem s2_d (n : Nat) (ρ : Rho) : (ev (n + 1)).e scR ρ (argE 0 (lcE q2)) = cNode n scR ρ (N "_law_document") [argE 0 (argE 0 (lcE q2)), argE 1 (argE 0 (lcE q2))] := by kernel_rfl
theorem s2_row (n : Nat) (d r a b c : D) : (ev (n + 1)).e scR ((N "row", d) :: g4 r a b c) (argE 0 (argE 0 (lcE q2))) = some d := by kernel_rfl
theorem s2_sum (n : Nat) (l : List D) (d r a c : D) : (ev (n + 2)).e scR ((N "row", d) :: g4 r a (.lst l) c) (argE 1 (argE 0 (lcE q2))) = (sumD l 0).map .int := by kernel_rfl
theorem s2_it (n : Nat) (l : List D) (a b c : D) : stepIter (ev (n + 2)) scL (g4 (.lst l) a b c) (lcI q2) = some l := by kernel_rfl
theorem sum_int : ∀ (C : List Int) (a : Int), ∃ z, sumD (C.map .int) a = some z
  | [], a => ⟨a, rfl⟩
  | i :: r, a => sum_int r (a + i)
theorem ltr_ok (j : Nat) : ltr j = 97 ∨ ltr j = 98 ∨ ltr j = 63 ∨ ltr j = 42 := by
  unfold ltr
  split <;> simp
theorem good_pt (c : List Nat) : GoodP (c.map pt) := by
  have h : ∀ x j, ltr x = j → j ≠ 39 ∧ 32 ≤ j ∧ j ≠ 127 := fun x j e => by
    subst e
    rcases ltr_ok x with e | e | e | e <;> rw [e] <;> decide
  refine ⟨fun q hq => ?_, fun q hq => ?_⟩
  · obtain ⟨x, _, rfl⟩ := List.mem_map.mp hq
    simp [pt]
  · obtain ⟨x, _, rfl⟩ := List.mem_map.mp hq
    refine ⟨?_, fun k hk => ?_⟩
    · simp only [pt, List.mem_cons, List.not_mem_nil, or_false, not_or]
      exact ⟨Ne.symm (h _ _ rfl).1, Ne.symm (h _ _ rfl).1⟩
    · simp only [pt, List.mem_cons, List.not_mem_nil, or_false] at hk
      rcases hk with rfl | rfl
      · exact (h _ _ rfl).2
      · exact (h _ _ rfl).2
theorem rowD_map (c : List Nat) : rowD c = .lst ((c.map pt).map stD) := by
  unfold rowD
  rw [List.map_map]; rfl
theorem s2_row_ (n : Nat) {c : List Nat} (h0 : 0 < c.length) (hl : c.length ≤ 20) (C : List Int) (r a s : D) : (ev (n + 71)).e scR ((N "row", rowD c) :: g4 r a (.lst (C.map .int)) s) (lcE q2) = some (rowD c) := by
  obtain ⟨z, hz⟩ := sum_int C 0
  have hd : (ev (n + 70)).e scR ((N "row", rowD c) :: g4 r a (.lst (C.map .int)) s) (argE 0 (lcE q2)) = some (stD (docT (c.map pt) z (2 * (c.map pt).length) ++ [93])) := by
    refine ((s2_d (n + 69) _).trans (cNode_ (as := [rowD c, .int z]) s2_b.2 (by simp only [mapO, s2_row (n + 68), s2_sum (n + 67), hz, Option.map_some]))).trans ?_
    rw [rowD_map]
    exact doc_ (n + 59) (good_pt c).1 (by simpa using hl)
  refine ((s2_e (n + 70) _).trans (cNode_ (as := [stD (docT (c.map pt) z (2 * (c.map pt).length) ++ [93])]) s2_b.1 (by simp only [mapO, hd, Option.map_some]))).trans ?_
  rw [rowD_map]
  exact read_ n (z := z) (by simp) (good_pt c) (by simpa using hl) (by simpa using h0)
theorem s2_ (n : Nat) {c1 c2 : List Nat} (h1 : 0 < c1.length ∧ c1.length ≤ 20) (h2 : 0 < c2.length ∧ c2.length ≤ 20) (C : List Int) (a s : D) : (ev (n + 73)).s scL (g4 (rowsD c1 c2) a (.lst (C.map .int)) s) (stAt 17 2) = some (g5 (rowsD c1 c2) (rowsD c1 c2) a (.lst (C.map .int)) s, .next) := by
  rw [s2_sh.1]
  refine r_asg s2_ok.1 (r_each (l := [c1, c2]) (f := rowD) (g := rowD) s2_sh.2 s2_ok.2 (s2_it (n + 69) _ _ _ _) (by simp) (by kernel_rfl) fun R hR => ?_)
  simp only [List.mem_cons, List.not_mem_nil, or_false] at hR
  rcases hR with rfl | rfl
  · exact s2_row_ n h1.1 h1.2 C _ _ _
  · exact s2_row_ n h2.1 h2.2 C _ _ _

/-! statement 3 -/
theorem s3_sh : stAt 17 3 = .If (valS (stAt 17 3)) (bodyS (stAt 17 3)) [] (posS (stAt 17 3)) := by kernel_rfl
theorem s3_t (n : Nat) (q r a b c : D) : (ev (n + 3)).t scL (g5 q r a b c) (valS (stAt 17 3)) = cmpD .NotEq q r := by kernel_rfl
theorem ne_self {k : Nat} {d : D} (h : Pl k d) (hk : k ≤ 64) : cmpD .NotEq d d = some false := by
  show (eqD d d).map (!·) = _
  rw [pl_eq h hk]; rfl
theorem str_pl {l : List Nat} (h : ∀ c ∈ l, c < 0x110000) : PyData.strOk ⟨l.toArray⟩ = true := by
  unfold PyData.strOk
  simpa using h
theorem pt_ok (x : Nat) : PyData.strOk ⟨(pt x).toArray⟩ = true := by
  refine str_pl fun c hc => ?_
  simp only [pt, List.mem_cons, List.not_mem_nil, or_false] at hc
  rcases hc with rfl | rfl
  · rcases ltr_ok (x % 4) with e | e | e | e <;> rw [e] <;> decide
  · rcases ltr_ok (x / 4) with e | e | e | e <;> rw [e] <;> decide
theorem rowD_pl (c : List Nat) : Pl 1 (rowD c) := fun d hd => by
  obtain ⟨x, _, rfl⟩ := List.mem_map.mp hd
  exact pt_ok x
theorem rowsD_pl (c1 c2 : List Nat) : Pl 2 (rowsD c1 c2) := fun d hd => by
  simp only [List.mem_cons, List.not_mem_nil, or_false] at hd
  rcases hd with rfl | rfl
  · exact rowD_pl _
  · exact rowD_pl _
theorem s3_ (n : Nat) (c1 c2 : List Nat) (a b c : D) : (ev (n + 4)).s scL (g5 (rowsD c1 c2) (rowsD c1 c2) a b c) (stAt 17 3) = some (g5 (rowsD c1 c2) (rowsD c1 c2) a b c, .next) := by
  rw [s3_sh]
  exact r_ifF ((s3_t n _ _ _ _ _).trans (ne_self (rowsD_pl c1 c2) (by lia))) r_nil

/-! statement 4 -/
noncomputable def prD (c : List Nat) : D := .lst (c.map partD)
noncomputable def prsD (c1 c2 : List Nat) : D := .lst [prD c1, prD c2]
noncomputable def q4 : Expr := valS (stAt 17 4)
noncomputable def sc4a : Scope := relab (lcS q4) scL
noncomputable def sc4b : Scope := relab (lcS (lcE q4)) sc4a
theorem s4_sh : stAt 17 4 = .Assign [.Name (N "parts") (tgtS (stAt 17 4)).pos] q4 (posS (stAt 17 4)) ∧ q4 = .ListComp (lcE q4) [⟨.Name (N "row") (lcT q4).pos, lcI q4, [], 0⟩] (lcS q4) q4.pos ∧
    lcE q4 = .ListComp (lcE (lcE q4)) [⟨.Name (N "pattern") (lcT (lcE q4)).pos, lcI (lcE q4), [], 0⟩] (lcS (lcE q4)) (lcE q4).pos := by refine ⟨?_, ?_, ?_⟩ <;> kernel_rfl
theorem s4_ok : isOwn scL (N "parts") = true ∧ compOk (lcS q4) scL (N "row") = true ∧ compOk (lcS (lcE q4)) sc4a (N "pattern") = true := by refine ⟨?_, ?_, ?_⟩ <;> kernel_rfl
theorem s4_e (n : Nat) (d : D) (ρ : Rho) : (ev (n + 2)).e sc4b ((N "pattern", d) :: ρ) (lcE (lcE q4)) = (ev (n + 1)).c (N "_translate") [d, .none, .str anyS] [] := by kernel_rfl
theorem s4_it (n : Nat) (l : List D) (r a b c : D) : stepIter (ev (n + 2)) scL (g5 (.lst l) r a b c) (lcI q4) = some l := by kernel_rfl
theorem s4_in (n : Nat) (l : List D) (ρ : Rho) : stepIter (ev (n + 2)) sc4a ((N "row", .lst l) :: ρ) (lcI (lcE q4)) = some l := by kernel_rfl
theorem s4_row (n : Nat) {c : List Nat} (hl : c.length ≤ 20) (hc : ∀ x ∈ c, x < 16) (q r a b s : D) : (ev (n + 40)).e sc4a ((N "row", rowD c) :: g5 q r a b s) (lcE q4) = some (prD c) :=
  r_each (l := c) (f := fun x => stD (pt x)) (g := partD) s4_sh.2.2 s4_ok.2.2 (s4_in (n + 37) _ _) (by lia) (by kernel_rfl) fun x hx => (s4_e (n + 37) _ _).trans (tr_ (n + 13) (hc x hx))
theorem s4_ (n : Nat) {c1 c2 : List Nat} (h1 : c1.length ≤ 20) (h2 : c2.length ≤ 20) (g1 : ∀ x ∈ c1, x < 16) (g2 : ∀ x ∈ c2, x < 16) (r a b s : D) : (ev (n + 42)).s scL (g5 (rowsD c1 c2) r a b s) (stAt 17 4) = some (g6 (prsD c1 c2) (rowsD c1 c2) r a b s, .next) := by
  rw [s4_sh.1]
  refine r_asg s4_ok.1 (r_each (l := [c1, c2]) (f := rowD) (g := prD) s4_sh.2.1 s4_ok.2.1 (s4_it (n + 38) _ _ _ _ _) (by simp) (by kernel_rfl) fun R hR => ?_)
  simp only [List.mem_cons, List.not_mem_nil, or_false] at hR
  rcases hR with rfl | rfl
  · exact s4_row n h1 g1 _ _ _ _ _
  · exact s4_row n h2 g2 _ _ _ _ _

/-! statement 5 -/
noncomputable def c5 : Expr := valS (stAt 17 5)
noncomputable def q5 : Expr := atE 1 c5
noncomputable def sc5a : Scope := relab (lcS q5) scL
noncomputable def sc5b : Scope := relab (lcS (lcE q5)) sc5a
theorem s5_sh : stAt 17 5 = .If c5 (bodyS (stAt 17 5)) [] (posS (stAt 17 5)) ∧ q5 = .ListComp (lcE q5) [⟨.Name (N "row") (lcT q5).pos, lcI q5, [], 0⟩] (lcS q5) q5.pos ∧
    lcE q5 = .ListComp (lcE (lcE q5)) [⟨.Name (N "pattern") (lcT (lcE q5)).pos, lcI (lcE q5), [], 0⟩] (lcS (lcE q5)) (lcE q5).pos := by refine ⟨?_, ?_, ?_⟩ <;> kernel_rfl
theorem s5_ok : compOk (lcS q5) scL (N "row") = true ∧ compOk (lcS (lcE q5)) sc5a (N "pattern") = true := by refine ⟨?_, ?_⟩ <;> kernel_rfl
theorem s5_t (n : Nat) (p q r a b c : D) : (ev (n + 2)).t scL (g6 p q r a b c) c5 = (match (ev (n + 1)).e scL (g6 p q r a b c) q5 with | some d => cmpD .NotEq p d | _ => none) := by kernel_rfl
theorem s5_tab (n : Nat) (w p q r a b c : D) : (List.range 16).map (fun x => (ev (n + 12)).e sc5b ((N "pattern", stD (pt x)) :: (N "row", w) :: g6 p q r a b c) (lcE (lcE q5))) = (List.range 16).map fun x => some (partD x) := by kernel_rfl
theorem s5_it (n : Nat) (l : List D) (p q a b c : D) : stepIter (ev (n + 2)) scL (g6 p q (.lst l) a b c) (lcI q5) = some l := by kernel_rfl
theorem s5_in (n : Nat) (l : List D) (ρ : Rho) : stepIter (ev (n + 2)) sc5a ((N "row", .lst l) :: ρ) (lcI (lcE q5)) = some l := by kernel_rfl
theorem s5_row (n : Nat) {c : List Nat} (hl : c.length ≤ 20) (hc : ∀ x ∈ c, x < 16) (p q r a b s : D) : (ev (n + 13)).e sc5a ((N "row", rowD c) :: g6 p q r a b s) (lcE q5) = some (prD c) :=
  r_each (l := c) (f := fun x => stD (pt x)) (g := partD) s5_sh.2.2 s5_ok.2 (s5_in (n + 10) _ _) (by lia) (by kernel_rfl) fun x hx => map_at (s5_tab n (rowD c) p q r a b s) x (List.mem_range.mpr (hc x hx))
noncomputable def flat1 : D → Bool
  | .lst l => l.all fun
    | .none => true
    | .str x => PyData.strOk x
    | _ => false
  | _ => false
theorem flat1_pl {d : D} (h : flat1 d = true) : Pl 1 d := by
  unfold flat1 at h
  split at h
  · intro x hx
    have := List.all_eq_true.mp h x hx
    split at this
    · trivial
    · exact this
    · cases this
  · cases h
theorem part_tab : ((List.range 16).all fun x => flat1 (partD x)) = true := by kernel_rfl
theorem partD_pl {x : Nat} (h : x < 16) : Pl 1 (partD x) := flat1_pl (List.all_eq_true.mp part_tab x (List.mem_range.mpr h))
theorem prsD_pl {c1 c2 : List Nat} (g1 : ∀ x ∈ c1, x < 16) (g2 : ∀ x ∈ c2, x < 16) : Pl 3 (prsD c1 c2) := fun d hd => by
  simp only [List.mem_cons, List.not_mem_nil, or_false] at hd
  rcases hd with rfl | rfl
  · intro e he
    obtain ⟨x, hx, rfl⟩ := List.mem_map.mp he
    exact partD_pl (g1 x hx)
  · intro e he
    obtain ⟨x, hx, rfl⟩ := List.mem_map.mp he
    exact partD_pl (g2 x hx)
theorem s5_ (n : Nat) {c1 c2 : List Nat} (h1 : c1.length ≤ 20) (h2 : c2.length ≤ 20) (g1 : ∀ x ∈ c1, x < 16) (g2 : ∀ x ∈ c2, x < 16) (q a b s : D) : (ev (n + 16)).s scL (g6 (prsD c1 c2) q (rowsD c1 c2) a b s) (stAt 17 5) = some (g6 (prsD c1 c2) q (rowsD c1 c2) a b s, .next) := by
  rw [s5_sh.1]
  refine r_ifF ((s5_t (n + 13) _ _ _ _ _ _).trans ?_) r_nil
  have h : (ev (n + 14)).e scL (g6 (prsD c1 c2) q (rowsD c1 c2) a b s) q5 = some (prsD c1 c2) := by
    refine r_each (l := [c1, c2]) (f := rowD) (g := prD) s5_sh.2.1 s5_ok.1 (s5_it (n + 11) _ _ _ _ _ _) (by simp) (by kernel_rfl) fun R hR => ?_
    simp only [List.mem_cons, List.not_mem_nil, or_false] at hR
    rcases hR with rfl | rfl
    · exact s5_row n h1 g1 _ _ _ _ _ _
    · exact s5_row n h2 g2 _ _ _ _ _ _
  rw [h]
  exact ne_self (prsD_pl g1 g2) (by lia)
end Mine.PL
end
noncomputable section
open PySem PySem.W PyProof.Rows PySem.Challenge PySem.SeqAt
set_option maxRecDepth 100000
set_option linter.unusedVariables false
namespace Mine.PL

noncomputable abbrev g9 (s f t p q r a b c : D) : Rho := (N "second", s) :: (N "first", f) :: g7 t p q r a b c
noncomputable abbrev gA (d s f t p q r a b c : D) : Rho := (N "due", d) :: g9 s f t p q r a b c

/-! statement 6 -/
noncomputable def tkD (x : Nat) : D := .lst (nmL.map fun m => .bool (fitL (pt x) m))
noncomputable def tksD (c : List Nat) : D := .lst (c.map tkD)
noncomputable def q6 : Expr := valS (stAt 17 6)
noncomputable def q6b : Expr := lcE q6
noncomputable def q6c : Expr := lcE q6b
noncomputable def sc6a : Scope := relab (lcS q6) scL
noncomputable def sc6b : Scope := relab (lcS q6b) sc6a
noncomputable def sc6c : Scope := relab (lcS q6c) sc6b
theorem s6_sh : stAt 17 6 = .Assign [.Name (N "taken") (tgtS (stAt 17 6)).pos] q6 (posS (stAt 17 6)) ∧ q6 = .ListComp (lcE q6) [⟨.Name (N "row") (lcT q6).pos, lcI q6, [], 0⟩] (lcS q6) q6.pos ∧
    q6b = .ListComp (lcE q6b) [⟨.Name (N "one") (lcT q6b).pos, lcI q6b, [], 0⟩] (lcS q6b) q6b.pos ∧ q6c = .ListComp (lcE q6c) [⟨.Name (N "name") (lcT q6c).pos, lcI q6c, [], 0⟩] (lcS q6c) q6c.pos := by refine ⟨?_, ?_, ?_, ?_⟩ <;> kernel_rfl
theorem s6_ok : isOwn scL (N "taken") = true ∧ compOk (lcS q6) scL (N "row") = true ∧ compOk (lcS q6b) sc6a (N "one") = true ∧ compOk (lcS q6c) sc6b (N "name") = true := by refine ⟨?_, ?_, ?_, ?_⟩ <;> kernel_rfl
theorem s6_e (n : Nat) (d1 d2 : D) (ρ : Rho) : (ev (n + 2)).e sc6c ((N "name", d2) :: (N "one", d1) :: ρ) (lcE q6c) = (ev (n + 1)).c (N "_law_takes") [d1, d2] [] := by kernel_rfl
theorem s6_i1 (n : Nat) (l : List D) (q r a b c : D) : stepIter (ev (n + 2)) scL (g6 (.lst l) q r a b c) (lcI q6) = some l := by kernel_rfl
theorem s6_i2 (n : Nat) (l : List D) (ρ : Rho) : stepIter (ev (n + 2)) sc6a ((N "row", .lst l) :: ρ) (lcI q6b) = some l := by kernel_rfl
theorem s6_i3 (n : Nat) (l : List D) (o w p q r b c : D) : stepIter (ev (n + 2)) sc6b ((N "one", o) :: (N "row", w) :: g6 p q r (.lst l) b c) (lcI q6c) = some l := by kernel_rfl
theorem s6_one (n : Nat) {x : Nat} (hx : x < 16) (w p q r b c : D) : (ev (n + 62)).e sc6b ((N "one", partD x) :: (N "row", w) :: g6 p q r nmD b c) q6c = some (tkD x) :=
  r_each (l := nmL) (f := stD) (g := fun m => .bool (fitL (pt x) m)) s6_sh.2.2.2 s6_ok.2.2.2 (s6_i3 (n + 59) _ _ _ _ _ _ _ _) (by decide) (by kernel_rfl) fun m hm => (s6_e (n + 59) _ _ _).trans (takes_ n hx hm)
theorem s6_row (n : Nat) {c : List Nat} (hl : c.length ≤ 20) (hc : ∀ x ∈ c, x < 16) (p q r b s : D) : (ev (n + 63)).e sc6a ((N "row", prD c) :: g6 p q r nmD b s) q6b = some (tksD c) :=
  r_each (l := c) (f := partD) (g := tkD) s6_sh.2.2.1 s6_ok.2.2.1 (s6_i2 (n + 60) _ _) (by lia) (by kernel_rfl) fun x hx => s6_one n (hc x hx) _ _ _ _ _ _
theorem s6_ (n : Nat) {c1 c2 : List Nat} (h1 : c1.length ≤ 20) (h2 : c2.length ≤ 20) (k1 : ∀ x ∈ c1, x < 16) (k2 : ∀ x ∈ c2, x < 16) (q r b s : D) : (ev (n + 65)).s scL (g6 (prsD c1 c2) q r nmD b s) (stAt 17 6) = some (g7 (.lst [tksD c1, tksD c2]) (prsD c1 c2) q r nmD b s, .next) := by
  rw [s6_sh.1]
  refine r_asg s6_ok.1 (r_each (l := [c1, c2]) (f := prD) (g := tksD) s6_sh.2.1 s6_ok.2.1 (s6_i1 (n + 61) _ _ _ _ _ _) (by simp) (by kernel_rfl) fun R hR => ?_)
  simp only [List.mem_cons, List.not_mem_nil, or_false] at hR
  rcases hR with rfl | rfl
  · exact s6_row n h1 k1 _ _ _ _ _
  · exact s6_row n h2 k2 _ _ _ _ _

/-! statement 7 -/
noncomputable def hit (c : List Nat) (m : List Nat) : Bool := c.any fun x => fitL (pt x) m
noncomputable def hitL (c : List Nat) : List (List Nat) := subM fun k => hit c (nmL.getD k [])
theorem filt_any {α : Type} (p : α → Bool) : ∀ (l : List α), (l.filter p).isEmpty = !l.any p
  | [] => rfl
  | x :: r => by
    rw [List.filter_cons, List.any_cons]
    cases hp : p x with
    | true => simp
    | false => simp [filt_any p r]
theorem ne_nil {k : Nat} {l : List D} (h : Pl k (.lst l)) (hk : k ≤ 64) : cmpD .NotEq (.lst l) (.lst []) = some (!l.isEmpty) := by
  show (eqD (.lst l) (.lst [])).map (!·) = _
  have h1 := pl_ok h hk
  have h2 : okD (.lst []) = true := by decide
  have h3 : PyData.eqv (py (.lst l)) (py (.lst [])) = l.isEmpty := by
    cases l with
    | nil => simp [py, pys, PyData.eqv, PyData.eqvAll]
    | cons x r => simp [py, pys, PyData.eqv, PyData.eqvAll]
  simp only [eqD, h1, h2, Bool.and_self, if_true, h3, Option.map_some]
theorem nm_at {k : Nat} (h : k < 7) : nmL[k]? = some (nmL.getD k []) := by
  have hl : k < nmL.length := h
  simp [List.getD, hl]
noncomputable def q7 : Expr := valS (stAt 17 7)
noncomputable def q7b : Expr := lcE q7
noncomputable def q7t : Expr := lcF q7b
noncomputable def q7c : Expr := atE 0 q7t
noncomputable def sc7a : Scope := relab (lcS q7) scL
noncomputable def sc7b : Scope := relab (lcS q7b) sc7a
noncomputable def sc7c : Scope := relab (lcS q7c) sc7b
theorem s7_sh : stAt 17 7 = .Assign [.Tuple [.Name (N "first") (tE 0 (tgtS (stAt 17 7))).pos, .Name (N "second") (tE 1 (tgtS (stAt 17 7))).pos] (tupK (tgtS (stAt 17 7))) (tgtS (stAt 17 7)).pos] q7 (posS (stAt 17 7)) ∧ q7 = .ListComp (lcE q7) [⟨.Name (N "row") (lcT q7).pos, lcI q7, [], 0⟩] (lcS q7) q7.pos ∧
    q7b = .ListComp (lcE q7b) [⟨.Name (N "k") (lcT q7b).pos, lcI q7b, [lcF q7b], 0⟩] (lcS q7b) q7b.pos ∧ q7c = .ListComp (lcE q7c) [⟨.Name (N "one") (lcT q7c).pos, lcI q7c, [lcF q7c], 0⟩] (lcS q7c) q7c.pos := by refine ⟨?_, ?_, ?_, ?_⟩ <;> kernel_rfl
theorem s7_ok : (isOwn scL (N "first") && isOwn scL (N "second") && !(N "first" == N "second") && swOk q7) = true ∧ compOk (lcS q7) scL (N "row") = true ∧ compOk (lcS q7b) sc7a (N "k") = true ∧ compOk (lcS q7c) sc7b (N "one") = true := by refine ⟨?_, ?_, ?_, ?_⟩ <;> kernel_rfl
theorem s7_t (n : Nat) (ρ : Rho) : (ev (n + 2)).t sc7b ρ q7t = (match (ev (n + 1)).e sc7b ρ q7c, (some (.lst []) : Option D) with | some d, some e => cmpD .NotEq d e | _, _ => none) := by kernel_rfl
theorem s7_if (n : Nat) (o : D) (j : Int) (ρ : Rho) : (ev (n + 4)).t sc7c ((N "one", o) :: (N "k", .int j) :: ρ) (lcF q7c) = (getD o (.int j)).bind truthD := by kernel_rfl
theorem s7_el (n : Nat) (o : D) (ρ : Rho) : (ev (n + 1)).e sc7c ((N "one", o) :: ρ) (lcE q7c) = some o := by kernel_rfl
theorem s7_i1 (n : Nat) (l : List D) (p q r a b c : D) : stepIter (ev (n + 2)) scL (g7 (.lst l) p q r a b c) (lcI q7) = some l := by kernel_rfl
theorem s7_i2 (n : Nat) (ρ : Rho) : stepIter (ev (n + 3)) sc7a ρ (lcI q7b) = some ((List.range 7).map fun (j : Nat) => D.int (j : Int)) := by kernel_rfl
theorem s7_i3 (n : Nat) (l : List D) (j : D) (ρ : Rho) : stepIter (ev (n + 2)) sc7b ((N "k", j) :: (N "row", .lst l) :: ρ) (lcI q7c) = some l := by kernel_rfl
theorem s7_nm (n : Nat) (j : Int) (w t p q r a b c : D) : (ev (n + 3)).e sc7b ((N "k", .int j) :: (N "row", w) :: g7 t p q r a b c) (lcE q7b) = getD a (.int j) := by kernel_rfl
theorem tkD_pl (x : Nat) : Pl 1 (tkD x) := fun d hd => by
  obtain ⟨m, _, rfl⟩ := List.mem_map.mp hd
  trivial
theorem r_asg2L {n : Nat} {sc : Scope} {ρ : Rho} {c : Expr} {p : Pos} {d1 d2 : D} {x y : Str} {px py pq : Pos} {kq : Nat} (h0 : (isOwn sc x && isOwn sc y && !(x == y) && swOk c) = true) (h1 : (ev n).e sc ρ c = some (.lst [d1, d2])) : (ev (n + 1)).s sc ρ (.Assign [.Tuple [.Name x px, .Name y py] kq pq] c p) = some ((y, d2) :: (x, d1) :: ρ, .next) := by
  have hs : (ev (n + 1)).s sc ρ (.Assign [.Tuple [.Name x px, .Name y py] kq pq] c p) = (if isOwn sc x && isOwn sc y && !(x == y) && swOk c then (match (ev n).e sc ρ c with
    | some (.tup [a, b]) => some ((y, b) :: (x, a) :: ρ, .next)
    | some (.lst [a, b]) => some ((y, b) :: (x, a) :: ρ, .next)
    | _ => none) else none) := by rfl
  rw [hs, if_pos h0, h1]
theorem s7_test (n : Nat) {c : List Nat} (hl : c.length ≤ 20) {k : Nat} (hk : k < 7) (t p q r a b s : D) : (ev (n + 10)).t sc7b ((N "k", .int (k : Int)) :: (N "row", tksD c) :: g7 t p q r a b s) q7t = some (hit c (nmL.getD k [])) := by
  refine (s7_t (n + 8) _).trans ?_
  have h : (ev (n + 9)).e sc7b ((N "k", .int (k : Int)) :: (N "row", tksD c) :: g7 t p q r a b s) q7c = some (.lst ((c.filter fun x => fitL (pt x) (nmL.getD k [])).map tkD)) :=
    r_some (l := c) (f := tkD) (g := tkD) (q := fun x => fitL (pt x) (nmL.getD k [])) s7_sh.2.2.2 s7_ok.2.2.2 (s7_i3 (n + 6) _ _ _) (by lia) (by kernel_rfl) (fun x hx => by
      refine (s7_if (n + 4) _ _ _).trans ?_
      unfold tkD
      rw [getL (x := .bool (fitL (pt x) (nmL.getD k []))) (by rw [List.getElem?_map, nm_at hk]; rfl) (by lia)]
      rfl) fun x hx _ => s7_el (n + 7) _ _
  rw [h]
  refine (ne_nil (k := 2) (fun d hd => ?_) (by lia)).trans ?_
  · obtain ⟨x, _, rfl⟩ := List.mem_map.mp hd
    exact tkD_pl x
  · rw [List.isEmpty_map, filt_any, Bool.not_not]; rfl
theorem s7_row (n : Nat) {c : List Nat} (hl : c.length ≤ 20) (t p q r b s : D) : (ev (n + 11)).e sc7a ((N "row", tksD c) :: g7 t p q r nmD b s) q7b = some (.lst ((hitL c).map stD)) := by
  refine (r_some (l := List.range 7) (f := fun (j : Nat) => .int (j : Int)) (q := fun k => hit c (nmL.getD k [])) (g := fun k => stD (nmL.getD k [])) s7_sh.2.2.1 s7_ok.2.2.1 (s7_i2 (n + 7) _) (by decide) (by kernel_rfl) (fun k hk => s7_test n hl (List.mem_range.mp hk) _ _ _ _ _ _ _) fun k hk _ => ?_).trans ?_
  · refine (s7_nm (n + 7) _ _ _ _ _ _ _ _ _).trans (getL (by rw [List.getElem?_map, nm_at (List.mem_range.mp hk)]; rfl) ?_)
    have := List.mem_range.mp hk
    lia
  · unfold hitL subM
    rw [List.map_map]; rfl
theorem s7_ (n : Nat) {c1 c2 : List Nat} (h1 : c1.length ≤ 20) (h2 : c2.length ≤ 20) (p q r b s : D) : (ev (n + 13)).s scL (g7 (.lst [tksD c1, tksD c2]) p q r nmD b s) (stAt 17 7) = some (g9 (.lst ((hitL c2).map stD)) (.lst ((hitL c1).map stD)) (.lst [tksD c1, tksD c2]) p q r nmD b s, .next) := by
  rw [s7_sh.1]
  refine r_asg2L s7_ok.1 (r_each (l := [c1, c2]) (f := tksD) (g := fun c => .lst ((hitL c).map stD)) s7_sh.2.1 s7_ok.2.1 (s7_i1 (n + 9) _ _ _ _ _ _ _) (by simp) (by kernel_rfl) fun R hR => ?_)
  simp only [List.mem_cons, List.not_mem_nil, or_false] at hR
  rcases hR with rfl | rfl
  · exact s7_row n h1 _ _ _ _ _ _
  · exact s7_row n h2 _ _ _ _ _ _

/-! statement 8 -/
noncomputable def q8 : Expr := valS (stAt 17 8)
noncomputable def q8b : Expr := lcE q8
noncomputable def q8t : Expr := lcF q8b
noncomputable def q8c : Expr := atE 0 q8t
noncomputable def sc8a : Scope := relab (lcS q8) scL
noncomputable def sc8b : Scope := relab (lcS q8b) sc8a
noncomputable def sc8c : Scope := relab (lcS q8c) sc8b
theorem s8_sh : stAt 17 8 = .Assign [.Name (N "due") (tgtS (stAt 17 8)).pos] q8 (posS (stAt 17 8)) ∧ q8 = .ListComp (lcE q8) [⟨.Name (N "row") (lcT q8).pos, lcI q8, [], 0⟩] (lcS q8) q8.pos ∧
    q8b = .ListComp (lcE q8b) [⟨.Name (N "name") (lcT q8b).pos, lcI q8b, [lcF q8b], 0⟩] (lcS q8b) q8b.pos ∧ q8c = .ListComp (lcE q8c) [⟨.Name (N "pattern") (lcT q8c).pos, lcI q8c, [lcF q8c], 0⟩] (lcS q8c) q8c.pos := by refine ⟨?_, ?_, ?_, ?_⟩ <;> kernel_rfl
theorem s8_ok : isOwn scL (N "due") = true ∧ compOk (lcS q8) scL (N "row") = true ∧ compOk (lcS q8b) sc8a (N "name") = true ∧ compOk (lcS q8c) sc8b (N "pattern") = true := by refine ⟨?_, ?_, ?_, ?_⟩ <;> kernel_rfl
theorem s8_t (n : Nat) (ρ : Rho) : (ev (n + 2)).t sc8b ρ q8t = (match (ev (n + 1)).e sc8b ρ q8c, (some (.lst []) : Option D) with | some d, some e => cmpD .NotEq d e | _, _ => none) := by kernel_rfl
theorem s8_if (n : Nat) (d1 d2 : D) (ρ : Rho) : (ev (n + 3)).t sc8c ((N "pattern", d1) :: (N "name", d2) :: ρ) (lcF q8c) = ((ev (n + 1)).c (N "_law_fits") [d1, d2] []).bind truthD := by kernel_rfl
theorem s8_el (n : Nat) (o : D) (ρ : Rho) : (ev (n + 1)).e sc8c ((N "pattern", o) :: ρ) (lcE q8c) = some o := by kernel_rfl
theorem s8_nm (n : Nat) (o : D) (ρ : Rho) : (ev (n + 1)).e sc8b ((N "name", o) :: ρ) (lcE q8b) = some o := by kernel_rfl
theorem s8_i1 (n : Nat) (l : List D) (s f t p q a b c : D) : stepIter (ev (n + 2)) scL (g9 s f t p q (.lst l) a b c) (lcI q8) = some l := by kernel_rfl
theorem s8_i2 (n : Nat) (l : List D) (w s f t p q r b c : D) : stepIter (ev (n + 2)) sc8a ((N "row", w) :: g9 s f t p q r (.lst l) b c) (lcI q8b) = some l := by kernel_rfl
theorem s8_i3 (n : Nat) (l : List D) (m : D) (ρ : Rho) : stepIter (ev (n + 2)) sc8b ((N "name", m) :: (N "row", .lst l) :: ρ) (lcI q8c) = some l := by kernel_rfl
theorem s8_test (n : Nat) {c : List Nat} (hl : c.length ≤ 20) (hc : ∀ x ∈ c, x < 16) {m : List Nat} (hm : m ∈ nmL) (v u t p q r a b s : D) : (ev (n + 64)).t sc8b ((N "name", stD m) :: (N "row", rowD c) :: g9 v u t p q r a b s) q8t = some (hit c m) := by
  refine (s8_t (n + 62) _).trans ?_
  have h : (ev (n + 63)).e sc8b ((N "name", stD m) :: (N "row", rowD c) :: g9 v u t p q r a b s) q8c = some (.lst ((c.filter fun x => fitL (pt x) m).map fun x => stD (pt x))) :=
    r_some (l := c) (f := fun x => stD (pt x)) (g := fun x => stD (pt x)) (q := fun x => fitL (pt x) m) s8_sh.2.2.2 s8_ok.2.2.2 (s8_i3 (n + 60) _ _ _) (by lia) (by kernel_rfl) (fun x hx => by
      refine (s8_if (n + 59) _ _ _).trans ?_
      rw [fits_ n (hc x hx) hm]
      rfl) fun x hx _ => s8_el (n + 61) _ _
  rw [h]
  refine (ne_nil (k := 1) (fun d hd => ?_) (by lia)).trans ?_
  · obtain ⟨x, _, rfl⟩ := List.mem_map.mp hd
    exact pt_ok x
  · rw [List.isEmpty_map, filt_any, Bool.not_not]; rfl
theorem hitL_eq (c : List Nat) : hitL c = nmL.filter (hit c) := by
  have : nmL = (List.range 7).map fun k => nmL.getD k [] := by decide
  conv => rhs; rw [this]
  rw [List.filter_map]; rfl
theorem s8_row (n : Nat) {c : List Nat} (hl : c.length ≤ 20) (hc : ∀ x ∈ c, x < 16) (v u t p q r b s : D) : (ev (n + 65)).e sc8a ((N "row", rowD c) :: g9 v u t p q r nmD b s) q8b = some (.lst ((hitL c).map stD)) := by
  rw [hitL_eq]
  exact r_some (l := nmL) (f := stD) (g := stD) (q := hit c) s8_sh.2.2.1 s8_ok.2.2.1 (s8_i2 (n + 62) _ _ _ _ _ _ _ _ _ _) (by decide) (by kernel_rfl) (fun m hm => s8_test n hl hc hm _ _ _ _ _ _ _ _ _) fun m hm _ => s8_nm (n + 63) _ _
theorem s8_ (n : Nat) {c1 c2 : List Nat} (h1 : c1.length ≤ 20) (h2 : c2.length ≤ 20) (k1 : ∀ x ∈ c1, x < 16) (k2 : ∀ x ∈ c2, x < 16) (v u t p q b s : D) : (ev (n + 67)).s scL (g9 v u t p q (rowsD c1 c2) nmD b s) (stAt 17 8) = some (gA (.lst [.lst ((hitL c1).map stD), .lst ((hitL c2).map stD)]) v u t p q (rowsD c1 c2) nmD b s, .next) := by
  rw [s8_sh.1]
  refine r_asg s8_ok.1 (r_each (l := [c1, c2]) (f := rowD) (g := fun c => .lst ((hitL c).map stD)) s8_sh.2.1 s8_ok.2.1 (s8_i1 (n + 63) _ _ _ _ _ _ _ _ _) (by simp) (by kernel_rfl) fun R hR => ?_)
  simp only [List.mem_cons, List.not_mem_nil, or_false] at hR
  rcases hR with rfl | rfl
  · exact s8_row n h1 k1 _ _ _ _ _ _ _ _
  · exact s8_row n h2 k2 _ _ _ _ _ _ _ _
end Mine.PL
end
noncomputable section
open PySem PySem.W PyProof.Rows PySem.Challenge PySem.SeqAt
set_option maxRecDepth 100000
set_option linter.unusedVariables false
namespace Mine.PL

/-! which names the rows take -/
theorem subM_congr {f g : Nat → Bool} (h : ∀ k, k < 7 → f k = g k) : subM f = subM g := by
  unfold subM
  rw [List.filter_congr fun k hk => h k (List.mem_range.mp hk)]
noncomputable def b2 (b : Bool) : Nat := if b then 1 else 0
theorem bits3 : ∀ a b c : Bool, b2 a + 2 * b2 b + 4 * b2 c < 8 ∧ bit (b2 a + 2 * b2 b + 4 * b2 c) 0 = a ∧ bit (b2 a + 2 * b2 b + 4 * b2 c) 1 = b ∧ bit (b2 a + 2 * b2 b + 4 * b2 c) 2 = c := by decide
theorem bits4 : ∀ a b c d : Bool, b2 a + 2 * b2 b + 4 * b2 c + 8 * b2 d < 16 ∧ bit (b2 a + 2 * b2 b + 4 * b2 c + 8 * b2 d) 0 = a ∧ bit (b2 a + 2 * b2 b + 4 * b2 c + 8 * b2 d) 1 = b ∧ bit (b2 a + 2 * b2 b + 4 * b2 c + 8 * b2 d) 2 = c ∧ bit (b2 a + 2 * b2 b + 4 * b2 c + 8 * b2 d) 3 = d := by decide
theorem one_of {f : Nat → Bool} (h2 : f 2 = true) (h4 : f 4 = true) (h5 : f 5 = true) (h6 : f 6 = true) : ∃ x, x < 8 ∧ subM f = oneM x := by
  obtain ⟨hx, e0, e1, e3⟩ := bits3 (f 0) (f 1) (f 3)
  refine ⟨_, hx, subM_congr fun k hk => ?_⟩
  rcases k with _ | _ | _ | _ | _ | _ | _ | k
  · show f 0 = ((bit _ 0 || false) || false)
    rw [e0, Bool.or_false, Bool.or_false]
  · show f 1 = ((false || bit _ 1) || false)
    rw [e1, Bool.false_or, Bool.or_false]
  · rw [h2]; rfl
  · show f 3 = (false || bit _ 2)
    rw [e3, Bool.false_or]
  · rw [h4]; rfl
  · rw [h5]; rfl
  · rw [h6]; rfl
  · lia
theorem two_of {f : Nat → Bool} (h2 : f 2 = true) (h3 : f 3 = true) (h5 : f 5 = true) : ∃ x, x < 16 ∧ subM f = twoM x := by
  obtain ⟨hx, e0, e1, e4, e6⟩ := bits4 (f 0) (f 1) (f 4) (f 6)
  refine ⟨_, hx, subM_congr fun k hk => ?_⟩
  rcases k with _ | _ | _ | _ | _ | _ | _ | k
  · show f 0 = (((bit _ 0 || false) || false) || false)
    rw [e0, Bool.or_false, Bool.or_false, Bool.or_false]
  · show f 1 = (((false || bit _ 1) || false) || false)
    rw [e1, Bool.false_or, Bool.or_false, Bool.or_false]
  · rw [h2]; rfl
  · rw [h3]; rfl
  · show f 4 = ((false || bit _ 2) || false)
    rw [e4, Bool.false_or, Bool.or_false]
  · rw [h5]; rfl
  · show f 6 = (false || bit _ 3)
    rw [e6, Bool.false_or]
  · lia
theorem hit_of {c : List Nat} {x : Nat} {m : List Nat} (hx : x ∈ c) (h : fitL (pt x) m = true) : hit c m = true := List.any_eq_true.mpr ⟨x, hx, h⟩
theorem hit1 {c : List Nat} (h2 : 2 ∈ c) (h13 : 13 ∈ c) : ∃ x, x < 8 ∧ hitL c = oneM x :=
  one_of (hit_of h2 (by decide)) (hit_of h13 (by decide)) (hit_of h2 (by decide)) (hit_of h13 (by decide))
theorem hit2 {c : List Nat} (h2 : 2 ∈ c) (h4 : 4 ∈ c) : ∃ x, x < 16 ∧ hitL c = twoM x :=
  two_of (hit_of h2 (by decide)) (hit_of h4 (by decide)) (hit_of h2 (by decide))

/-! the differences of the names -/
noncomputable def okS (l : List Str) : Bool := l.all PyData.strOk
theorem sld_tab : ((List.range 8).all fun x => (List.range 16).all fun y => match sld 40 ((dbl (oneM x)).map strL) ((twoM y).map strL) [] [] with
  | some (r1, r2) => okS r1 && okS r2 && okS ((dbl (oneM x)).map strL) && okS ((twoM y).map strL)
  | none => false) = true := by kernel_rfl
theorem all2 {p : Nat → Nat → Bool} {a b x y : Nat} (h : ((List.range a).all fun x => (List.range b).all fun y => p x y) = true) (hx : x < a) (hy : y < b) : p x y = true :=
  List.all_eq_true.mp (List.all_eq_true.mp h x (List.mem_range.mpr hx)) y (List.mem_range.mpr hy)
theorem lst_str (l : List (List Nat)) : D.lst (l.map stD) = lstS (l.map strL) := by
  unfold lstS
  rw [List.map_map]; rfl
theorem pairs_ (n : Nat) {x y : Nat} (hx : x < 8) (hy : y < 16) : ∃ r1 r2, sld 40 ((dbl (oneM x)).map strL) ((twoM y).map strL) [] [] = some (r1, r2) ∧
    (ev (n + 60)).c (N "_law_alone") [.lst ((dbl (oneM x)).map stD), .lst ((twoM y).map stD)] [] = some (lstS r1) ∧ (ev (n + 60)).c (N "_law_alone") [.lst ((twoM y).map stD), .lst ((oneM x).map stD)] [] = some (lstS r2) ∧
    okS r1 = true ∧ okS r2 = true ∧ okS ((dbl (oneM x)).map strL) = true ∧ okS ((twoM y).map strL) = true := by
  have h := all2 (pairs_tab n) hx hy
  have h' := all2 sld_tab hx hy
  unfold pairOk at h
  split at h
  · rename_i r1 r2 e
    rw [e] at h'
    simp only [Bool.and_eq_true] at h h'
    exact ⟨r1, r2, e, isLo_eq h.1, isLo_eq h.2, h'.1.1.1, h'.1.1.2, h'.1.2, h'.2⟩
  · cases h
theorem len_tab : ((List.range 8).all fun x => (List.range 16).all fun y => Nat.ble (dbl (oneM x)).length 14 && Nat.ble (oneM x).length 7 && Nat.ble (twoM y).length 7) = true := by kernel_rfl
theorem len_ {x y : Nat} (hx : x < 8) (hy : y < 16) : (dbl (oneM x)).length ≤ 14 ∧ (oneM x).length ≤ 7 ∧ (twoM y).length ≤ 7 := by
  have h := all2 len_tab hx hy
  simp only [Bool.and_eq_true] at h
  exact ⟨Nat.le_of_ble_eq_true h.1.1, Nat.le_of_ble_eq_true h.1.2, Nat.le_of_ble_eq_true h.2⟩
theorem strs_map : ∀ (l : List (List Nat)), strsD (l.map stD) = some (l.map strL)
  | [] => rfl
  | x :: r => by
    show (strsD (r.map stD)).map (strL x :: ·) = _
    rw [strs_map r]; rfl
theorem sorted_ {x : Nat} (hx : x < 8) : (match binD .Mult (.lst ((oneM x).map stD)) (.int 2) with | some d => builtD (N "sorted") [d] | none => none) = some (lstS ((dbl (oneM x)).map strL)) := by
  obtain ⟨_, hl, _⟩ := len_ hx (y := 0) (by lia)
  have h1 : binD .Mult (.lst ((oneM x).map stD)) (.int 2) = some (.lst ((oneM x ++ (oneM x ++ [])).map stD)) := by
    show (if smallL (((oneM x).map stD).length * (2 : Int).toNat) && smallI 2 then some (D.lst (repL (2 : Int).toNat ((oneM x).map stD))) else none) = _
    rw [if_pos (by simp [smallL, smallI]; lia)]
    show some (D.lst ((oneM x).map stD ++ ((oneM x).map stD ++ []))) = _
    simp
  rw [h1]
  show (strsD ((oneM x ++ (oneM x ++ [])).map stD)).bind (fun ss => if decide (ss.length < 64) then some (lstS (sortS ss)) else none) = _
  rw [strs_map, Option.bind_some, if_pos (by simp; lia)]
  have := List.all_eq_true.mp sort_tab x (List.mem_range.mpr hx)
  rw [beq_iff_eq.mp this]

/-! statement 9 -/
noncomputable abbrev gB (al d s f t p q r a b c : D) : Rho := (N "alone", al) :: gA d s f t p q r a b c
noncomputable def q9 : Expr := valS (stAt 17 9)
noncomputable def q9a : Expr := tE 0 q9
noncomputable def q9b : Expr := tE 1 q9
theorem s9_sh : stAt 17 9 = .Assign [.Name (N "alone") (tgtS (stAt 17 9)).pos] (.Tuple [q9a, q9b] (tupK q9) q9.pos) (posS (stAt 17 9)) := by kernel_rfl
theorem s9_ok : isOwn scL (N "alone") = true ∧ builtNames.contains (N "_law_alone") = false := by refine ⟨?_, ?_⟩ <;> kernel_rfl
theorem s9_a (n : Nat) (ρ : Rho) : (ev (n + 1)).e scL ρ q9a = cNode n scL ρ (N "_law_alone") [argE 0 q9a, argE 1 q9a] := by kernel_rfl
theorem s9_b (n : Nat) (ρ : Rho) : (ev (n + 1)).e scL ρ q9b = cNode n scL ρ (N "_law_alone") [argE 0 q9b, argE 1 q9b] := by kernel_rfl
theorem s9_so (n : Nat) (ρ : Rho) : (ev (n + 1)).e scL ρ (argE 0 q9a) = cNode n scL ρ (N "sorted") [argE 0 (argE 0 q9a)] := by kernel_rfl
theorem s9_mu (n : Nat) (l1 : List D) (d2 s f t p q r a b c : D) : (ev (n + 4)).e scL (gA (.lst [.lst l1, d2]) s f t p q r a b c) (argE 0 (argE 0 q9a)) = binD .Mult (.lst l1) (.int 2) := by kernel_rfl
theorem s9_d (n : Nat) (d1 d2 s f t p q r a b c : D) : (ev (n + 3)).e scL (gA (.lst [d1, d2]) s f t p q r a b c) (argE 1 q9a) = some d2 ∧ (ev (n + 3)).e scL (gA (.lst [d1, d2]) s f t p q r a b c) (argE 0 q9b) = some d2 ∧ (ev (n + 3)).e scL (gA (.lst [d1, d2]) s f t p q r a b c) (argE 1 q9b) = some d1 := by refine ⟨?_, ?_, ?_⟩ <;> kernel_rfl
theorem cNode_b {n : Nat} {sc : Scope} {ρ : Rho} {f : Str} {es : List Expr} {as : List D} (hb : builtNames.contains f = true) (h : mapO ((ev n).e sc ρ) es = some as) : cNode n sc ρ f es = builtD f as := by
  unfold cNode
  rw [h]
  simp only [hb, List.isEmpty_nil, Bool.and_self, if_true]
theorem b_sorted : builtNames.contains (N "sorted") = true := by kernel_rfl
theorem s9_ (n : Nat) {x y : Nat} (hx : x < 8) (hy : y < 16) {r1 r2 : List Str} (h1 : (ev (n + 60)).c (N "_law_alone") [.lst ((dbl (oneM x)).map stD), .lst ((twoM y).map stD)] [] = some (lstS r1)) (h2 : (ev (n + 60)).c (N "_law_alone") [.lst ((twoM y).map stD), .lst ((oneM x).map stD)] [] = some (lstS r2)) (s f t p q r a b c : D) :
    (ev (n + 63)).s scL (gA (.lst [.lst ((oneM x).map stD), .lst ((twoM y).map stD)]) s f t p q r a b c) (stAt 17 9) = some (gB (.tup [lstS r1, lstS r2]) (.lst [.lst ((oneM x).map stD), .lst ((twoM y).map stD)]) s f t p q r a b c, .next) := by
  rw [s9_sh]
  refine r_asg s9_ok.1 (r_tup2 ?_ ?_)
  · have hs : (ev (n + 60)).e scL (gA (.lst [.lst ((oneM x).map stD), .lst ((twoM y).map stD)]) s f t p q r a b c) (argE 0 q9a) = some (.lst ((dbl (oneM x)).map stD)) := by
      have hm := sorted_ hx
      cases hb : binD .Mult (.lst ((oneM x).map stD)) (.int 2) with
      | none => rw [hb] at hm; cases hm
      | some d =>
        rw [hb] at hm
        refine ((s9_so (n + 59) _).trans (cNode_b (as := [d]) b_sorted (by simp only [mapO, s9_mu (n + 55), hb, Option.map_some]))).trans (hm.trans ?_)
        rw [lst_str]
    exact ((s9_a (n + 60) _).trans (cNode_ s9_ok.2 (by simp only [mapO, hs, (s9_d (n + 57) _ _ _ _ _ _ _ _ _ _ _).1, Option.map_some]))).trans h1
  · exact ((s9_b (n + 60) _).trans (cNode_ s9_ok.2 (by simp only [mapO, (s9_d (n + 57) _ _ _ _ _ _ _ _ _ _ _).2.1, (s9_d (n + 57) _ _ _ _ _ _ _ _ _ _ _).2.2, Option.map_some]))).trans h2

/-! statement 10's parts -/
theorem s10_so (n : Nat) (ρ : Rho) : (ev (n + 1)).e scL ρ (atE 1 cA) = cNode n scL ρ (N "sorted") [argE 0 (atE 1 cA)] := by kernel_rfl
theorem s10_mu (n : Nat) (l1 : List D) (al d s t p q r a b c : D) : (ev (n + 4)).e scL (gB al d s (.lst l1) t p q r a b c) (argE 0 (atE 1 cA)) = binD .Mult (.lst l1) (.int 2) := by kernel_rfl
theorem s10_2 (n : Nat) (al d s f t p q r a b c : D) : (ev (n + 1)).e scL (gB al d s f t p q r a b c) (atE 2 cA) = some s := by kernel_rfl
theorem s10_al (al d s f t p q r a b c : D) : (gB al d s f t p q r a b c).lookup (N "alone") = some al := by kernel_rfl
theorem s10_rd (n : Nat) (al d s f t p r1 r2 r a b c : D) : (ev (n + 3)).e scL (gB al d s f t p (.lst [r1, r2]) r a b c) (atE 0 (atE 1 cB)) = some r1 ∧ (ev (n + 3)).e scL (gB al d s f t p (.lst [r1, r2]) r a b c) (atE 0 (atE 2 cB)) = some r2 := by refine ⟨?_, ?_⟩ <;> kernel_rfl
theorem s10_bg (n : Nat) (al d s f t p q r1 r2 a b c : D) : (ev (n + 4)).e scL (gB al d s f t p q (.lst [r1, r2]) a b c) (atE 1 lwB) = (ev (n + 3)).c (N "_law_bags") [r1, r2] [] := by kernel_rfl
theorem s10_X (n : Nat) {x y : Nat} (hx : x < 8) (al d t p q r a b c : D) : mapO ((ev (n + 10)).e scL (gB al d (.lst ((twoM y).map stD)) (.lst ((oneM x).map stD)) t p q r a b c)) [atE 1 cA, atE 2 cA] = some [lstS ((dbl (oneM x)).map strL), lstS ((twoM y).map strL)] := by
  have hs : (ev (n + 10)).e scL (gB al d (.lst ((twoM y).map stD)) (.lst ((oneM x).map stD)) t p q r a b c) (atE 1 cA) = some (lstS ((dbl (oneM x)).map strL)) := by
    have hm := sorted_ hx
    cases hb : binD .Mult (.lst ((oneM x).map stD)) (.int 2) with
    | none => rw [hb] at hm; cases hm
    | some d =>
      rw [hb] at hm
      exact ((s10_so (n + 9) _).trans (cNode_b (as := [d]) b_sorted (by simp only [mapO, s10_mu (n + 5), hb, Option.map_some]))).trans hm
  simp only [mapO, hs, s10_2 (n + 9), Option.map_some]
  rw [lst_str]
end Mine.PL
end
noncomputable section
open PySem PySem.W PyProof.Rows PySem.Challenge PySem.SeqAt
set_option maxRecDepth 100000
set_option linter.unusedVariables false
namespace Mine.PL

noncomputable abbrev gC (m al d s f t p q r a b c : D) : Rho := (N "many", m) :: gB al d s f t p q r a b c
noncomputable abbrev gD (o m al d s f t p q r a b c : D) : Rho := (N "told", o) :: gC m al d s f t p q r a b c
noncomputable def cnt (x : Nat) : Int := (((nmL.filter fun m => fitL (pt x) m).length : Nat) : Int)

/-! statement 11 -/
noncomputable def q11 : Expr := valS (stAt 17 11)
noncomputable def q11c : Expr := argE 0 (lcE q11)
noncomputable def scM1 : Scope := relab (lcS q11) scL
noncomputable def scM2 : Scope := relab (lcS q11c) scM1
theorem s11_sh : stAt 17 11 = .Assign [.Name (N "many") (tgtS (stAt 17 11)).pos] q11 (posS (stAt 17 11)) ∧ q11 = .ListComp (lcE q11) [⟨.Name (N "pattern") (lcT q11).pos, lcI q11, [], 0⟩] (lcS q11) q11.pos ∧
    q11c = .ListComp (lcE q11c) [⟨.Name (N "name") (lcT q11c).pos, lcI q11c, [lcF q11c], 0⟩] (lcS q11c) q11c.pos := by refine ⟨?_, ?_, ?_⟩ <;> kernel_rfl
theorem s11_ok : isOwn scL (N "many") = true ∧ compOk (lcS q11) scL (N "pattern") = true ∧ compOk (lcS q11c) scM1 (N "name") = true ∧ builtNames.contains (N "len") = true := by refine ⟨?_, ?_, ?_, ?_⟩ <;> kernel_rfl
theorem s11_e (n : Nat) (ρ : Rho) : (ev (n + 1)).e scM1 ρ (lcE q11) = cNode n scM1 ρ (N "len") [q11c] := by kernel_rfl
theorem s11_if (n : Nat) (d1 d2 : D) (ρ : Rho) : (ev (n + 3)).t scM2 ((N "name", d2) :: (N "pattern", d1) :: ρ) (lcF q11c) = ((ev (n + 1)).c (N "_law_fits") [d1, d2] []).bind truthD := by kernel_rfl
theorem s11_nm (n : Nat) (o : D) (ρ : Rho) : (ev (n + 1)).e scM2 ((N "name", o) :: ρ) (lcE q11c) = some o := by kernel_rfl
theorem s11_i1 (n : Nat) (l : List D) (al d s f t p q r2 a b c : D) : stepIter (ev (n + 4)) scL (gB al d s f t p q (.lst [.lst l, r2]) a b c) (lcI q11) = some l := by kernel_rfl
theorem s11_i2 (n : Nat) (l : List D) (o al d s f t p q r b c : D) : stepIter (ev (n + 2)) scM1 ((N "pattern", o) :: gB al d s f t p q r (.lst l) b c) (lcI q11c) = some l := by kernel_rfl
noncomputable def manyD (c : List Nat) : D := .lst (c.map fun x => .int (cnt x))
theorem s11_pat (n : Nat) {x : Nat} (hx : x < 16) (al d s f t p q r b c : D) : (ev (n + 64)).e scM1 ((N "pattern", stD (pt x)) :: gB al d s f t p q r nmD b c) (lcE q11) = some (.int (cnt x)) := by
  have h : (ev (n + 63)).e scM1 ((N "pattern", stD (pt x)) :: gB al d s f t p q r nmD b c) q11c = some (.lst ((nmL.filter fun m => fitL (pt x) m).map stD)) :=
    r_some (l := nmL) (f := stD) (g := stD) (q := fun m => fitL (pt x) m) s11_sh.2.2 s11_ok.2.2.1 (s11_i2 (n + 60) _ _ _ _ _ _ _ _ _ _ _ _) (by decide) (by kernel_rfl) (fun m hm => by
      refine (s11_if (n + 59) _ _ _).trans ?_
      rw [fits_ n hx hm]
      rfl) fun m hm _ => s11_nm (n + 61) _ _
  have hl : (nmL.filter fun m => fitL (pt x) m).length ≤ 7 := List.length_filter_le _ _
  refine ((s11_e (n + 63) _).trans (cNode_b (as := [.lst ((nmL.filter fun m => fitL (pt x) m).map stD)]) s11_ok.2.2.2 (by simp only [mapO, h, Option.map_some]))).trans ?_
  rw [b_len, if_pos (by unfold smallL; simp; lia), List.length_map]; rfl
theorem s11_ (n : Nat) {c1 : List Nat} (h1 : c1.length ≤ 20) (k1 : ∀ x ∈ c1, x < 16) (r2 al d s f t p q b c : D) : (ev (n + 66)).s scL (gB al d s f t p q (.lst [rowD c1, r2]) nmD b c) (stAt 17 11) = some (gC (manyD c1) al d s f t p q (.lst [rowD c1, r2]) nmD b c, .next) := by
  rw [s11_sh.1]
  exact r_asg s11_ok.1 (r_each (l := c1) (f := fun x => stD (pt x)) (g := fun x => .int (cnt x)) s11_sh.2.1 s11_ok.2.1 (s11_i1 (n + 60) _ _ _ _ _ _ _ _ _ _ _ _) (by lia) (by kernel_rfl) fun x hx => s11_pat n (k1 x hx) _ _ _ _ _ _ _ _ _ _)

/-! statement 12 -/
noncomputable def tw (i j : Int) : Int := (if decide (j < i) then 1 else 0) - (if decide (i < j) then 1 else 0)
noncomputable def q12 : Expr := valS (stAt 17 12)
noncomputable def q12b : Expr := lcE q12
noncomputable def q12e : Expr := lcE q12b
noncomputable def scN1 : Scope := relab (lcS q12) scL
noncomputable def scN2 : Scope := relab (lcS q12b) scN1
theorem s12_sh : stAt 17 12 = .Assign [.Name (N "told") (tgtS (stAt 17 12)).pos] q12 (posS (stAt 17 12)) ∧ q12 = .ListComp (lcE q12) [⟨.Name (N "one") (lcT q12).pos, lcI q12, [], 0⟩] (lcS q12) q12.pos ∧
    q12b = .ListComp (lcE q12b) [⟨.Name (N "other") (lcT q12b).pos, lcI q12b, [], 0⟩] (lcS q12b) q12b.pos := by refine ⟨?_, ?_, ?_⟩ <;> kernel_rfl
theorem s12_ok : isOwn scL (N "told") = true ∧ compOk (lcS q12) scL (N "one") = true ∧ compOk (lcS q12b) scN1 (N "other") = true ∧ builtNames.contains (N "three_way_cmp") = false := by refine ⟨?_, ?_, ?_, ?_⟩ <;> kernel_rfl
theorem s12_e (n : Nat) (ρ : Rho) : (ev (n + 1)).e scN2 ρ q12e = cNode n scN2 ρ (N "three_way_cmp") [argE 0 q12e, argE 1 q12e] := by kernel_rfl
theorem s12_a (n : Nat) (l1 l2 : List D) (ρ : Rho) : (ev (n + 2)).e scN2 ((N "other", .lst l2) :: (N "one", .lst l1) :: ρ) (argE 0 q12e) = (countD (.bool true) l1).map (fun (n : Nat) => D.int (n : Int)) ∧ (ev (n + 2)).e scN2 ((N "other", .lst l2) :: (N "one", .lst l1) :: ρ) (argE 1 q12e) = (countD (.bool true) l2).map (fun (n : Nat) => D.int (n : Int)) := by refine ⟨?_, ?_⟩ <;> kernel_rfl
theorem s12_i1 (n : Nat) (l : List D) (t2 m al d s f p q r a b c : D) : stepIter (ev (n + 4)) scL (gC m al d s f (.lst [.lst l, t2]) p q r a b c) (lcI q12) = some l := by kernel_rfl
theorem s12_i2 (n : Nat) (l : List D) (o t2 m al d s f p q r a b c : D) : stepIter (ev (n + 4)) scN1 ((N "one", o) :: gC m al d s f (.lst [.lst l, t2]) p q r a b c) (lcI q12b) = some l := by kernel_rfl
theorem cnt_tab : (List.range 16).map (fun x => countD (.bool true) (nmL.map fun m => .bool (fitL (pt x) m))) = (List.range 16).map fun x => some (nmL.filter fun m => fitL (pt x) m).length := by kernel_rfl
theorem cnt_ {x : Nat} (hx : x < 16) : countD (.bool true) (nmL.map fun m => .bool (fitL (pt x) m)) = some (nmL.filter fun m => fitL (pt x) m).length := map_at cnt_tab x (List.mem_range.mpr hx)
noncomputable def toldD (c : List Nat) : D := .lst (c.map fun x => .lst (c.map fun y => .int (tw (cnt x) (cnt y))))
theorem s12_one (n : Nat) {c1 : List Nat} (h1 : c1.length ≤ 20) (k1 : ∀ x ∈ c1, x < 16) {x : Nat} (hx : x < 16) (t2 m al d s f p q r a b c : D) : (ev (n + 20)).e scN1 ((N "one", tkD x) :: gC m al d s f (.lst [tksD c1, t2]) p q r a b c) q12b = some (.lst (c1.map fun y => .int (tw (cnt x) (cnt y)))) :=
  r_each (l := c1) (f := tkD) (g := fun y => .int (tw (cnt x) (cnt y))) s12_sh.2.2 s12_ok.2.2.1 (s12_i2 (n + 15) _ _ _ _ _ _ _ _ _ _ _ _ _ _) (by lia) (by kernel_rfl) fun y hy => by
    have ha := s12_a (n + 16) (nmL.map fun m => .bool (fitL (pt x) m)) (nmL.map fun m => .bool (fitL (pt y) m)) (gC m al d s f (.lst [tksD c1, t2]) p q r a b c)
    rw [cnt_ hx, cnt_ (k1 y hy)] at ha
    exact ((s12_e (n + 18) _).trans (cNode_ (as := [.int (cnt x), .int (cnt y)]) s12_ok.2.2.2 (by
      show mapO ((ev (n + 18)).e scN2 ((N "other", .lst (nmL.map fun m => .bool (fitL (pt y) m))) :: (N "one", .lst (nmL.map fun m => .bool (fitL (pt x) m))) :: gC m al d s f (.lst [tksD c1, t2]) p q r a b c)) [argE 0 q12e, argE 1 q12e] = _
      simp only [mapO, ha.1, ha.2, Option.map_some]; rfl))).trans (cmp3 (n + 10) _ _)
theorem s12_ (n : Nat) {c1 : List Nat} (h1 : c1.length ≤ 20) (k1 : ∀ x ∈ c1, x < 16) (t2 m al d s f p q r a b c : D) : (ev (n + 22)).s scL (gC m al d s f (.lst [tksD c1, t2]) p q r a b c) (stAt 17 12) = some (gD (toldD c1) m al d s f (.lst [tksD c1, t2]) p q r a b c, .next) := by
  rw [s12_sh.1]
  exact r_asg s12_ok.1 (r_each (l := c1) (f := tkD) (g := fun x => .lst (c1.map fun y => .int (tw (cnt x) (cnt y)))) s12_sh.2.1 s12_ok.2.1 (s12_i1 (n + 16) _ _ _ _ _ _ _ _ _ _ _ _ _) (by lia) (by kernel_rfl) fun x hx => s12_one n h1 k1 (k1 x hx) _ _ _ _ _ _ _ _ _ _ _ _)

/-! statement 13 -/
noncomputable def q13 : Expr := atE 1 (valS (stAt 17 13))
noncomputable def q13b : Expr := lcE q13
noncomputable def q13e : Expr := lcE q13b
noncomputable def scO1 : Scope := relab (lcS q13) scL
noncomputable def scO2 : Scope := relab (lcS q13b) scO1
theorem s13_sh : stAt 17 13 = .Return (some (valS (stAt 17 13))) (posS (stAt 17 13)) ∧ q13 = .ListComp (lcE q13) [⟨.Name (N "a") (lcT q13).pos, lcI q13, [], 0⟩] (lcS q13) q13.pos ∧
    q13b = .ListComp (lcE q13b) [⟨.Name (N "b") (lcT q13b).pos, lcI q13b, [], 0⟩] (lcS q13b) q13b.pos ∧
    q13e = .IfExp (ifC q13e) (ifA q13e) (.IfExp (ifC (ifB q13e)) (ifA (ifB q13e)) (ifB (ifB q13e)) (ifB q13e).pos) q13e.pos := by refine ⟨?_, ?_, ?_, ?_⟩ <;> kernel_rfl
theorem s13_ok : compOk (lcS q13) scL (N "a") = true ∧ compOk (lcS q13b) scO1 (N "b") = true := by refine ⟨?_, ?_⟩ <;> kernel_rfl
theorem s13_e (n : Nat) (o m al d s f t p q r a b c : D) : (ev (n + 2)).e scL (gD o m al d s f t p q r a b c) (valS (stAt 17 13)) = (match (some o : Option D), (ev (n + 1)).e scL (gD o m al d s f t p q r a b c) q13 with | some x, some y => (cmpD .Eq x y).map .bool | _, _ => none) := by kernel_rfl
theorem s13_t (n : Nat) (i j : Int) (ρ : Rho) : (ev (n + 3)).t scO2 ((N "b", .int j) :: (N "a", .int i) :: ρ) (ifC q13e) = eqD (.int i) (.int j) ∧ (ev (n + 3)).t scO2 ((N "b", .int j) :: (N "a", .int i) :: ρ) (ifC (ifB q13e)) = some (decide (i < j)) := by refine ⟨?_, ?_⟩ <;> kernel_rfl
theorem s13_c (n : Nat) (ρ : Rho) : (ev (n + 3)).e scO2 ρ (ifA q13e) = some (.int 0) ∧ (ev (n + 3)).e scO2 ρ (ifA (ifB q13e)) = some (.int (-1)) ∧ (ev (n + 3)).e scO2 ρ (ifB (ifB q13e)) = some (.int 1) := by refine ⟨?_, ?_, ?_⟩ <;> kernel_rfl
theorem s13_i1 (n : Nat) (l : List D) (o al d s f t p q r a b c : D) : stepIter (ev (n + 2)) scL (gD o (.lst l) al d s f t p q r a b c) (lcI q13) = some l := by kernel_rfl
theorem s13_i2 (n : Nat) (l : List D) (i o al d s f t p q r a b c : D) : stepIter (ev (n + 2)) scO1 ((N "a", i) :: gD o (.lst l) al d s f t p q r a b c) (lcI q13b) = some l := by kernel_rfl
theorem s13_v (n : Nat) (i j : Int) (ρ : Rho) : (ev (n + 6)).e scO2 ((N "b", .int j) :: (N "a", .int i) :: ρ) q13e = some (.int (tw i j)) := by
  rw [s13_sh.2.2.2]
  by_cases h : i = j
  · refine (r_ifeT ((s13_t (n + 2) i j ρ).1.trans ((eq_int _ _).trans (by simp [h]))) (s13_c (n + 2) _).1).trans ?_
    unfold tw
    simp [h]
  · refine r_ifeF ((s13_t (n + 2) i j ρ).1.trans ((eq_int _ _).trans (by simp [h]))) ?_
    by_cases h2 : i < j
    · refine (r_ifeT ((s13_t (n + 1) i j ρ).2.trans (by simp [h2])) (s13_c (n + 1) _).2.1).trans ?_
      unfold tw
      have : ¬ j < i := by lia
      simp [h2, this]
    · refine (r_ifeF ((s13_t (n + 1) i j ρ).2.trans (by simp [h2])) (s13_c (n + 1) _).2.2).trans ?_
      unfold tw
      have : j < i := by lia
      simp [h2, this]
theorem toldD_pl (c : List Nat) : Pl 2 (toldD c) := fun d hd => by
  obtain ⟨x, _, rfl⟩ := List.mem_map.mp hd
  intro e he
  obtain ⟨y, _, rfl⟩ := List.mem_map.mp he
  trivial
theorem s13_ (n : Nat) {c1 : List Nat} (h1 : c1.length ≤ 20) (al d s f t p q r a b c : D) : (ev (n + 12)).s scL (gD (toldD c1) (manyD c1) al d s f t p q r a b c) (stAt 17 13) = some (gD (toldD c1) (manyD c1) al d s f t p q r a b c, .ret (.bool true)) := by
  have h : (ev (n + 10)).e scL (gD (toldD c1) (manyD c1) al d s f t p q r a b c) q13 = some (toldD c1) :=
    r_each (l := c1) (f := fun x => .int (cnt x)) (g := fun x => .lst (c1.map fun y => .int (tw (cnt x) (cnt y)))) s13_sh.2.1 s13_ok.1 (s13_i1 (n + 7) _ _ _ _ _ _ _ _ _ _ _ _ _) (by lia) (by kernel_rfl) fun x hx =>
      r_each (l := c1) (f := fun x => .int (cnt x)) (g := fun y => .int (tw (cnt x) (cnt y))) s13_sh.2.2.1 s13_ok.2 (s13_i2 (n + 6) _ _ _ _ _ _ _ _ _ _ _ _ _ _) (by lia) (by kernel_rfl) fun y hy => s13_v (n + 2) _ _ _
  have he : (ev (n + 11)).e scL (gD (toldD c1) (manyD c1) al d s f t p q r a b c) (valS (stAt 17 13)) = some (.bool true) := by
    refine (s13_e (n + 9) _ _ _ _ _ _ _ _ _ _ _ _ _).trans ?_
    rw [h]
    show (eqD (toldD c1) (toldD c1)).map D.bool = _
    rw [pl_eq (toldD_pl c1) (by lia)]; rfl
  rw [s13_sh.1]
  exact r_return he
end Mine.PL
end
noncomputable section
open PySem PySem.W PyProof.Rows PySem.Challenge PySem.SeqAt
set_option maxRecDepth 100000
set_option linter.unusedVariables false
namespace Mine.PL

theorem lawHead_eq : lawHead = [stAt 17 0, stAt 17 1, stAt 17 2, stAt 17 3, stAt 17 4, stAt 17 5, stAt 17 6, stAt 17 7, stAt 17 8, stAt 17 9] := rfl
theorem lawTail_eq : lawTail = [stAt 17 11, stAt 17 12, stAt 17 13] := rfl
noncomputable def rowS (c : List Nat) : List Str := c.map fun x => strL (pt x)
theorem rowD_S (c : List Nat) : rowD c = lstS (rowS c) := by
  unfold rowD lstS rowS
  rw [List.map_map]; rfl
theorem rowS_ok (c : List Nat) : ∀ y ∈ rowS c, PyData.strOk y = true := fun y hy => by
  obtain ⟨x, _, rfl⟩ := List.mem_map.mp hy
  exact pt_ok x
theorem lstS_pl {l : List Str} (h : ∀ y ∈ l, PyData.strOk y = true) : Pl 1 (lstS l) := fun d hd => by
  obtain ⟨y, hy, rfl⟩ := List.mem_map.mp hd
  exact h y hy
theorem tup_eq {a b : List Str} (h1 : ∀ y ∈ a, PyData.strOk y = true) (h2 : ∀ y ∈ b, PyData.strOk y = true) : eqD (.tup [lstS a, lstS b]) (.tup [lstS a, lstS b]) = some true :=
  pl_eq (k := 2) (fun d hd => by
    simp only [List.mem_cons, List.not_mem_nil, or_false] at hd
    rcases hd with rfl | rfl
    · exact lstS_pl h1
    · exact lstS_pl h2) (by lia)
theorem okS_all {l : List Str} (h : okS l = true) : ∀ y ∈ l, PyData.strOk y = true := List.all_eq_true.mp h
theorem lacks_ok {X Y : List Str} (h : ∀ y ∈ X, PyData.strOk y = true) : ∀ y ∈ lacksL X Y, PyData.strOk y = true := fun y hy => by
  obtain ⟨k, hk, rfl⟩ := List.mem_map.mp hy
  have hk := (List.mem_filter.mp hk).1
  rw [List.mem_reverse, List.mem_range] at hk
  exact h _ (gS_mem hk)
theorem keeps_ok {X Y : List Str} (h : ∀ y ∈ Y, PyData.strOk y = true) : ∀ y ∈ keepsL X Y, PyData.strOk y = true := fun y hy => by
  obtain ⟨k, hk, rfl⟩ := List.mem_map.mp hy
  have hk := (List.mem_filter.mp hk).1
  rw [List.mem_range] at hk
  exact h _ (gS_mem hk)

theorem lawF (n : Nat) {L : List Int} (hL : L.length ≤ 63) : LawF (n + 100) (.lst (L.map .int)) := by
  obtain ⟨C, hC, eC⟩ : ∃ C : List Int, C.length ≤ 4 ∧ L.take 4 = C := ⟨_, by simp; lia, rfl⟩
  obtain ⟨l1, l2⟩ := R_len hC
  obtain ⟨c1, e1⟩ : ∃ c1, (R1 C).map co = c1 := ⟨_, rfl⟩
  obtain ⟨c2, e2⟩ : ∃ c2, (R2 C).map co = c2 := ⟨_, rfl⟩
  have h1 : 0 < c1.length ∧ c1.length ≤ 20 := by rw [← e1, List.length_map]; refine ⟨?_, by lia⟩; simp [R1]
  have h2 : 0 < c2.length ∧ c2.length ≤ 20 := by rw [← e2, List.length_map]; refine ⟨?_, by lia⟩; simp [R2]
  have k1 : ∀ x ∈ c1, x < 16 := fun x hx => by
    rw [← e1] at hx
    obtain ⟨i, _, rfl⟩ := List.mem_map.mp hx
    exact co_lt i
  have k2 : ∀ x ∈ c2, x < 16 := fun x hx => by
    rw [← e2] at hx
    obtain ⟨i, _, rfl⟩ := List.mem_map.mp hx
    exact co_lt i
  have m12 : 2 ∈ c1 := by rw [← e1]; exact List.mem_map.mpr ⟨2, by simp [R1], by decide⟩
  have m13 : 13 ∈ c1 := by rw [← e1]; exact List.mem_map.mpr ⟨13, by simp [R1], by decide⟩
  have m22 : 2 ∈ c2 := by rw [← e2]; exact List.mem_map.mpr ⟨2, by simp [R2], by decide⟩
  have m24 : 4 ∈ c2 := by rw [← e2]; exact List.mem_map.mpr ⟨4, by simp [R2], by decide⟩
  obtain ⟨x, hx, ex⟩ := hit1 m12 m13
  obtain ⟨y, hy, ey⟩ := hit2 m22 m24
  obtain ⟨r1, r2, p1, p2, p3, p4, p5, p6, p7⟩ := pairs_ (n + 37) hx hy
  obtain ⟨q1, _, q3⟩ := len_ hx hy
  have f0 := s0_ (n + 90) (L := L) (by lia)
  rw [eC] at f0
  have f1 := s1_ (n + 88) hC nmD (.lst (L.map .int))
  rw [e1, e2] at f1
  have f2 := s2_ (n + 27) h1 h2 C nmD (.lst (L.map .int))
  have f3 := s3_ (n + 96) c1 c2 nmD (.lst (C.map .int)) (.lst (L.map .int))
  have f4 := s4_ (n + 58) h1.2 h2.2 k1 k2 (rowsD c1 c2) nmD (.lst (C.map .int)) (.lst (L.map .int))
  have f5 := s5_ (n + 84) h1.2 h2.2 k1 k2 (rowsD c1 c2) nmD (.lst (C.map .int)) (.lst (L.map .int))
  have f6 := s6_ (n + 35) h1.2 h2.2 k1 k2 (rowsD c1 c2) (rowsD c1 c2) (.lst (C.map .int)) (.lst (L.map .int))
  have f7 := s7_ (n + 87) h1.2 h2.2 (prsD c1 c2) (rowsD c1 c2) (rowsD c1 c2) (.lst (C.map .int)) (.lst (L.map .int))
  have f8 := s8_ (n + 33) h1.2 h2.2 k1 k2 (.lst ((hitL c2).map stD)) (.lst ((hitL c1).map stD)) (.lst [tksD c1, tksD c2]) (prsD c1 c2) (rowsD c1 c2) (.lst (C.map .int)) (.lst (L.map .int))
  rw [ex, ey] at f7 f8
  have f9 := s9_ (n + 37) hx hy p2 p3 (.lst ((twoM y).map stD)) (.lst ((oneM x).map stD)) (.lst [tksD c1, tksD c2]) (prsD c1 c2) (rowsD c1 c2) (rowsD c1 c2) nmD (.lst (C.map .int)) (.lst (L.map .int))
  have t1 := s11_ (n + 34) h1.2 k1 (rowD c2) (.tup [lstS r1, lstS r2]) (.lst [.lst ((oneM x).map stD), .lst ((twoM y).map stD)]) (.lst ((twoM y).map stD)) (.lst ((oneM x).map stD)) (.lst [tksD c1, tksD c2]) (prsD c1 c2) (rowsD c1 c2) (.lst (C.map .int)) (.lst (L.map .int))
  have t2 := s12_ (n + 78) h1.2 k1 (tksD c2) (manyD c1) (.tup [lstS r1, lstS r2]) (.lst [.lst ((oneM x).map stD), .lst ((twoM y).map stD)]) (.lst ((twoM y).map stD)) (.lst ((oneM x).map stD)) (prsD c1 c2) (rowsD c1 c2) (rowsD c1 c2) nmD (.lst (C.map .int)) (.lst (L.map .int))
  have t3 := s13_ (n + 88) h1.2 (.tup [lstS r1, lstS r2]) (.lst [.lst ((oneM x).map stD), .lst ((twoM y).map stD)]) (.lst ((twoM y).map stD)) (.lst ((oneM x).map stD)) (.lst [tksD c1, tksD c2]) (prsD c1 c2) (rowsD c1 c2) (rowsD c1 c2) nmD (.lst (C.map .int)) (.lst (L.map .int))
  have hb := bags_ (n + 79) (X := rowS c1) (Y := rowS c2) (by simp [rowS]; lia) (by simp [rowS]; lia) (rowS_ok c1) (rowS_ok c2)
  refine ⟨⟨gB (.tup [lstS r1, lstS r2]) (.lst [.lst ((oneM x).map stD), .lst ((twoM y).map stD)]) (.lst ((twoM y).map stD)) (.lst ((oneM x).map stD)) (.lst [tksD c1, tksD c2]) (prsD c1 c2) (rowsD c1 c2) (rowsD c1 c2) nmD (.lst (C.map .int)) (.lst (L.map .int)),
    gD (toldD c1) (manyD c1) (.tup [lstS r1, lstS r2]) (.lst [.lst ((oneM x).map stD), .lst ((twoM y).map stD)]) (.lst ((twoM y).map stD)) (.lst ((oneM x).map stD)) (.lst [tksD c1, tksD c2]) (prsD c1 c2) (rowsD c1 c2) (rowsD c1 c2) nmD (.lst (C.map .int)) (.lst (L.map .int)),
    (dbl (oneM x)).map strL, (twoM y).map strL, rowS c1, rowS c2, r1, r2, 40, ?_, ?_, ?_, ?_, p1, ?_, ?_, ?_, ?_, ?_, ?_, ?_, ?_⟩⟩
  · rw [lawHead_eq]
    exact r_cons f0 (r_cons f1 (r_cons f2 (r_cons f3 (r_cons f4 (r_cons f5 (r_cons f6 (r_cons f7 (r_cons f8 (r_cons f9 r_nil)))))))))
  · rw [lawTail_eq]
    exact r_cons t1 (r_cons t2 (r_ret t3))
  · exact s10_X (n + 90) hx _ _ _ _ _ _ _ _ _
  · exact ⟨okS_all p6, okS_all p7, by simp; lia, by simp; lia⟩
  · simp; lia
  · exact s10_al _ _ _ _ _ _ _ _ _ _ _
  · exact tup_eq (okS_all p4) (okS_all p5)
  · rw [← rowD_S]; exact (s10_rd (n + 97) _ _ _ _ _ _ _ _ _ _ _ _).1
  · rw [← rowD_S]; exact (s10_rd (n + 97) _ _ _ _ _ _ _ _ _ _ _ _).2
  · simp [rowS]; lia
  · refine (s10_bg (n + 96) _ _ _ _ _ _ _ (rowD c1) (rowD c2) _ _ _).trans ?_
    rw [rowD_S, rowD_S]
    exact hb
  · rw [uld_bags]
    exact tup_eq (lacks_ok (rowS_ok c1)) (keeps_ok (rowS_ok c2))
end Mine.PL
end
noncomputable section
open PySem PySem.W PyProof.Rows PySem.Challenge PySem.SeqAt
set_option maxRecDepth 100000
set_option linter.unusedVariables false
namespace Mine

theorem row_ok : (chainsOk qv && opensWell pw_rt0017_01 && (frees rw_rt0017_01.row.toRowW && rw_rt0017_01.row.toRowW.within.isEmpty)) = true := by kernel_rfl
theorem row_def : PySem.W.defOf qv (N "law") = some (dAt 17, []) ∧ pw_rt0017_01.theDef (N "law") = some ((dAt 17).params, (dAt 17).body, (dAt 17).scope) ∧ kwWritten? (dAt 17).params.kwonlyargs (dAt 17).params.kw_defaults = some [] := by refine ⟨?_, ?_, ?_⟩ <;> kernel_rfl
theorem row_promised : rw_rt0017_01.row.toRowW.promised := ⟨[.list [.int 3, .int 1]], by decide +kernel, by decide +kernel⟩

theorem repsI_of {P : Params} {h : Heap} : ∀ {L : List Int} {vs : List Value}, WellAll P h vs (L.map WData.int) → Reps h (fun _ => False) (L.map D.int) vs
  | [], vs, w => by cases w; exact .nil
  | i :: L, vs, w => by
    cases w with
    | cons w1 w2 => cases w1 with
      | int i t => exact .cons (.int i t) (repsI_of w2)
theorem lay_toks {R : WRecords} {cl : Str → Option Addr} {P : Params} {ord : List DictEntry → List DictEntry} : ∀ (L : List Int) (s : Shared) (r : List Value × Shared), layAllW R cl P ord (L.map WData.int) s = some r → s.toks ≤ r.2.toks
  | [], s, r, e => by
    have : layAllW R cl P ord (List.map WData.int []) s = some ([], s) := by simp [layAllW]
    rw [this] at e
    cases e; exact Nat.le_refl _
  | n :: ns, s, r, e => by
    simp only [List.map_cons, layAllW, layW] at e
    cases q : layAllW R cl P ord (ns.map WData.int) { s with toks := s.toks + 1 } with
    | none => rw [q] at e; cases e
    | some r' =>
      rw [q] at e
      cases e
      have z := lay_toks ns { s with toks := s.toks + 1 } r' q
      exact Nat.le_of_succ_le z
theorem lay_toks1 {R : WRecords} {cl : Str → Option Addr} {P : Params} {ord : List DictEntry → List DictEntry} {L : List Int} {s : Shared} {vs : List Value} {s₁ : Shared} (e : layAllW R cl P ord [.list (L.map WData.int)] s = some (vs, s₁)) : s.toks ≤ s₁.toks := by
  simp only [layAllW, layW] at e
  cases q : layAllW R cl P ord (L.map WData.int) s with
  | none => rw [q] at e; cases e
  | some r =>
    rw [q] at e
    have hh := lay_toks L s r q
    simp only [Option.some.injEq, Prod.mk.injEq] at e
    rw [← e.2]
    exact hh

theorem pre_eq (l : List WData) : (WTm.not (.lt (.lit (.int 63)) (.len (.arg 0)))).holds [] { args := [.list l] } = !decide ((63 : Int) < (l.length : Int)) := by
  show (match some (WData.bool (!decide ((63 : Int) < (l.length : Int)))) with | some (.bool true) => true | _ => false) = _
  cases decide ((63 : Int) < (l.length : Int)) <;> rfl
/-- what the row's condition says -/
theorem args_of {args : List WData} (h : rw_rt0017_01.row.toRowW.claim.pre args = true) : ∃ L : List Int, args = [.list (L.map WData.int)] ∧ L.length ≤ 63 := by
  obtain ⟨h1, h2⟩ := pre_splitW h
  have h1 : WShape.hasAll [] args [.list .int] = true := h1
  obtain ⟨d, r, rfl, h3, h4⟩ := hasAllW_cons h1
  obtain rfl := hasAllW_nil h4
  obtain ⟨xs, rfl, h6⟩ := hasW_list h3
  obtain ⟨L, rfl⟩ := items_int h6
  refine ⟨L, rfl, ?_⟩
  have h2 : (rw_rt0017_01.pre).holds [] { args := [.list (L.map WData.int)] } = true := h2
  have h5 := (holds_andW (show ((WTm.not (.lt (.lit (.int 63)) (.len (.arg 0)))).and (.lit (.bool true))).holds [] { args := [.list (L.map WData.int)] } = true from h2)).1
  rw [pre_eq, List.length_map] at h5
  by_cases hl : L.length ≤ 63
  · exact hl
  · rw [decide_eq_true (by omega)] at h5
    cases h5

theorem caller_room : Room 101 callerA := ⟨rfl, by decide +kernel, by decide +kernel⟩
theorem post_true (a b : List WData) : rw_rt0017_01.row.toRowW.claim.post a (.bool true) b = true := by
  show (WShape.has [] (.bool true) .bool && WTm.holds [] (.eq .res (.lit (.bool true))) { args := a, res := some (.bool true), after := b }) = true
  kernel_rfl
theorem law_ret {w : World} {mean : ExcName → Option Value} {mg mb : Str → Option Value} {s : Shared} {L : List Int} {vs : List Value} {a : Addr} {P : Params} {cl : Str → Option Addr} (hL : L.length ≤ 63) (hm : mg (N "law") = some (.ref a)) (B : Bs w mean mg mb s.heap) (h0 : 0 < s.toks) (hg : s.gens = #[])
    (W : WellAll P s.heap vs [.list (L.map WData.int)]) : wpAny (pwm w) callerA (PySem.call (.ref a) vs) (fun v s' => GoodW rw_rt0017_01.row.toRowW.claim cl mean [.list (L.map WData.int)] s (.ok (.ret v)) s') (fun e s' => GoodW rw_rt0017_01.row.toRowW.claim cl mean [.list (L.map WData.int)] s (.error e) s') s := by
  cases W with
  | cons w1 w2 =>
    cases w2
    cases w1 with
    | list hl w3 =>
      refine wpAny_mono (law_call (N0 := 100) (by omega) (PL.lawF 0 hL) hm caller_room B h0 rfl (.lst hl (fun q => q) (repsI_of w3))) (fun r s' h => ?_) fun _ _ f => f.elim
      obtain ⟨rfl, h', tk, rfl, hk⟩ := h
      exact ⟨.inl ⟨.bool true, .bool true, [], rfl, fun _ => rfl, .bool true, post_true _ _, fun _ => ⟨List.nodup_nil, fun a h => nomatch h⟩⟩, hk, rfl, hg⟩

theorem row_holds (H : ∀ w, HeadOK w) (k1 : rw_rt0017_01.row.wellSaid = true) : rw_rt0017_01.row.Holds := by
  obtain ⟨d1, d2, d3⟩ := row_def
  obtain ⟨ok, k5⟩ := Bool.and_eq_true_iff.mp row_ok
  obtain ⟨hch, o1⟩ := Bool.and_eq_true_iff.mp ok
  obtain ⟨k5, k6⟩ := Bool.and_eq_true_iff.mp k5
  obtain ⟨hsame, hu, ha, hap, hm⟩ := frees_parts k5
  refine ⟨k1, row_promised, ⟨⟨⟨rfl, rfl, rfl, rfl, rfl, by decide +kernel⟩, o1, rfl⟩, row_promised.witness, fun w => ⟨(H w).1, fun s' hs' => ?_⟩⟩⟩
  obtain ⟨s₀, hf, hg0, s, hT, hz, hgens, hg, htk, G0⟩ := (H w).2 s' hs'
  have RF : RecFacts [] s.heap := recFacts_nil rfl
  have hT' := hT
  refine ⟨s₀, hf, hg0, s, hT, fun n hn => ?_, RF.1, RF.2.1, ?_⟩
  · obtain rfl : n = N "law" := by
      simp only [List.mem_ite_nil_right, List.mem_singleton] at hn
      exact hn.2
    exact pinned_of_view hg G0 d1 d2 d3
  refine ClaimW.callFrom_of_specN (c := rw_rt0017_01.row.toRowW.claim) (tree := fun vs => do match ← nsGet mainNs (N "law") with
      | some f => do ret (← PySem.call f vs)
      | none => unsupported "claim.caller:no-such-global") hz hgens fun args hpre hlay ord hord => ?_
  obtain ⟨L, rfl, hL⟩ := args_of hpre
  obtain ⟨⟨vs, s₁⟩, hlaid⟩ := Option.isSome_iff_exists.mp (layAllW_isSome (P := w.params) (ord := ord) G0.has [.list (L.map WData.int)] rw_rt0017_01.row.toRowW.args s (pre_splitW hpre).1)
  have keeps := layAllW_keeps _ _ _ hlaid
  have hal := layAllW_rest _ _ _ hlaid
  obtain ⟨as, hrd, hin, hold⟩ := reads_layAllW hord _ _ _ hlaid hlay s₁.heap (fun _ _ e => e)
  have G₁ := G0.keeps (fun _ _ _ x hk => x.keeps hk) keeps
  obtain ⟨a, o, pm, cd, doc, dV, kV, h1, h2, h3, h4, h5⟩ := G₁.fn d1
  have h1 : s.heap.nsMap mainGlobals (N "law") = some (.ref a) := h1
  have hi := ident_freeW hu ha hap
  have hwi : rw_rt0017_01.row.toRowW.claim.within = [] := List.isEmpty_iff.mp k6
  have htk1 : 0 < s₁.toks := Nat.lt_of_lt_of_le htk (lay_toks1 hlaid)
  have h := law_ret (s := { s₁ with gens := #[] }) (cl := classAt s.heap) hL h1 ⟨G₁.T, G₁.X⟩ htk1 rfl (well_layAllW hord _ s _ hlaid s₁.heap fun _ _ e => e)
  refine ⟨vs, s₁, hlaid, wpAny_bind (wpAny_nsGet G₁.T.g ?_)⟩
  rw [h1]
  refine wpAny_bind (wpAny_mono h (fun v s' g => wpAny_pure ⟨.ret v, rfl, ?_⟩) fun e s' g => ?_)
  · have z := g.endsN (c := rw_rt0017_01.row.toRowW.claim) hsame hwi hi hrd hold hal.2.2.1
    exact ⟨z.1, z.2.1, z.2.2, fun q => ⟨namesKept_of hT' hg _ keeps fun b o e => .inl (g.2.1 b o e), noTable (by rfl) q⟩⟩
  · have z := g.endsN (c := rw_rt0017_01.row.toRowW.claim) hsame hwi hi hrd hold hal.2.2.1
    exact ⟨z.1, z.2.1, z.2.2, fun q => ⟨namesKept_of hT' hg _ keeps fun b o e => .inl (g.2.1 b o e), noTable (by rfl) q⟩⟩
end Mine
end
noncomputable section
open PySem PySem.W PyProof.Rows PySem.Challenge PySem.SeqAt
set_option maxRecDepth 100000
namespace Mine
theorem well_said : rw_rt0017_01.wellSaid = true := by kernel_rfl
theorem head_all (w : World) : HeadOK w :=
  byRow2 "special-get-raises" (P := HeadOK)
    (byRow2 "comprehension-iter-twice" (P := fun w => HeadOK (w.withFollow "special-get-raises" false)) (fun w => head_ff w) fun w => head_tf w)
    (byRow2 "comprehension-iter-twice" (P := fun w => HeadOK (w.withFollow "special-get-raises" true)) (fun w => head_ft w) fun w => head_tt w) w
end Mine
end
open PySem PySem.W PyProof.Rows
set_option maxRecDepth 100000 in
set_option maxHeartbeats 8000000 in
theorem PySem.Challenge.cw_rt0017_01_holds : PySem.Challenge.rw_rt0017_01.Holds := by
  exact holds_law Mine.well_said fun said => Mine.row_holds Mine.head_all said
