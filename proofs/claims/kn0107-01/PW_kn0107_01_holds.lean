import PyProof.Rows.All
import Wide.All
import OpenK.AllK
import Wide.FinOn
import PySem.Challenge.RW_kn0107_01
open PySem PySem.W PyProof.Rows
set_option Elab.async false
set_option compiler.extract_closed false
set_option maxRecDepth 100000
set_option maxHeartbeats 8000000
namespace Mine
open_top hd for PySem.Challenge.rw_kn0107_01
local macro_rules | `(tactic| walk_at "room") => `(tactic| ((try simp only [depth_under_make, depth_under_kw, depth_in1, depth_deeper, depth_caller] at *); (try dsimp only [ktrTop] at *); (try simp only [recursionLimit] at *); omega))
local macro_rules | `(tactic| walk_at "room2") => `(tactic| ((try simp only [depth_under_make, depth_under_kw, depth_in1, depth_deeper, depth_caller]); (try dsimp only [ktrTop]); (try simp only [recursionLimit]); first | omega | decide))
local macro_rules | `(tactic| walk_at "and") => `(tactic| (iterate 30 (first | done | assumption | apply And.right)))
local macro_rules | `(tactic| walk_at "lt") => `(tactic| with_reducible (first | assumption | (apply And.left; walk_at "and"; done) | (apply And.right; walk_at "and"; done)))
local macro_rules | `(tactic| k_ne) => `(tactic| (refine neN ?_; (try dsimp only); first | (refine Nat.ne_of_gt ?_; walk_at "lt"; done) | (refine Nat.ne_of_lt ?_; walk_at "lt"; done) | omega))
local macro_rules | `(tactic| walk_at "asg9") => `(tactic| (k_here; k_dflt (refine' LCg.Assign_ListComp_U (F₀ := ?F) ?a1 ?a2 ?a3 ?a4 ?a5 ?a6 ?a7 ?a8 ?a9 ?_ ?a10; (case F => k_asm); (case a1 => rfl); (case a4 => decide); (case a5 => rfl); (case a6 => decide); (case a7 => rfl); (case a8 => rfl); (case a9 => rfl); (case a3 => with_unfolding_all rfl); (case a2 => with_unfolding_all rfl); (case a10 => intro _; with_unfolding_all rfl); k_whole)))
section
abbrev En (P : Params) (nm : Str) (t : Nat) (v : Value) : DictEntry := ⟨PyData.keyHash P nm, .str nm t, v⟩
/-- the five things of a source, as its dict bears them -/
structure Things where
  sys : Value
  pub : Value
  enc : Value
  byt : Value
  chr : Value
/-- all five may be handed out as they are -/
structure Things.Ok (v : Things) : Prop where
  sys : handedIn v.sys = true
  pub : handedIn v.pub = true
  enc : handedIn v.enc = true
  byt : handedIn v.byt = true
  chr : handedIn v.chr = true
abbrev ents (P : Params) (t : Nat → Nat) (v : Things) : List DictEntry :=
  [En P (Str.ofString "_InputSource__system_id") (t 0) v.sys, En P (Str.ofString "_InputSource__public_id") (t 1) v.pub, En P (Str.ofString "_InputSource__encoding") (t 2) v.enc,
   En P (Str.ofString "_InputSource__bytefile") (t 3) v.byt, En P (Str.ofString "_InputSource__charfile") (t 4) v.chr]
/-- the ledger with one object told anew -/
def upd (d : Addr) (o : Obj) (news : List (Addr × Obj)) : List (Addr × Obj) := (d, o) :: news.filter fun p => decide (p.1 ≠ d)
theorem mem_upd_self {d : Addr} {o : Obj} {news : List (Addr × Obj)} : (d, o) ∈ upd d o news := .head _
theorem mem_upd {a d : Addr} {o o' : Obj} {news : List (Addr × Obj)} (hm : (a, o') ∈ news) (hn : a ≠ d) : (a, o') ∈ upd d o news :=
  .tail _ (List.mem_filter.mpr ⟨hm, by simpa using hn⟩)
theorem upd_upd {d : Addr} {o o' : Obj} {news : List (Addr × Obj)} : upd d o (upd d o' news) = upd d o news := by
  unfold upd
  congr 1
  rw [List.filter_cons, if_neg (by simp), List.filter_filter]
  congr 1
  funext p
  simp
theorem news_sub {h₀ h : Heap} {L : Addr} {l l' : List (Addr × Obj)} (N : News h₀ L h l) (hs : ∀ p ∈ l', p ∈ l) : News h₀ L h l' := fun p hp => N p (hs p hp)
theorem news_front {h₀ h : Heap} {L d : Addr} {o : Obj} {news : List (Addr × Obj)} (N : News h₀ L h news) (hd : (d, o) ∈ news) : News h₀ L h ((d, o) :: news.filter fun p => decide (p.1 ≠ d)) :=
  news_sub N fun p hp => by
    rcases List.mem_cons.mp hp with rfl | hp
    · exact hd
    · exact (List.mem_filter.mp hp).1
theorem upd_front {d : Addr} {o o' : Obj} {news : List (Addr × Obj)} : Upd d o o' ((d, o) :: news.filter fun p => decide (p.1 ≠ d)) (upd d o' news) :=
  Upd.head fun p hp => by simpa using (List.mem_filter.mp hp).2
theorem upd_to {d : Addr} {o o' : Obj} {news news' : List (Addr × Obj)} (U : Upd d o o' news news') : ∀ p ∈ news', p ∈ upd d o' news := by
  obtain ⟨pre, post, rfl, rfl, a, b⟩ := U.split
  intro p hp
  rcases List.mem_append.mp hp with q | q
  · exact mem_upd (List.mem_append_left _ q) (a p q)
  · rcases List.mem_cons.mp q with rfl | q
    · exact mem_upd_self
    · exact mem_upd (List.mem_append_right _ (List.mem_cons_of_mem _ q)) (b p q)
theorem news_updU {h₀ h : Heap} {L d : Addr} {o o' : Obj} {news news' : List (Addr × Obj)} (U : Upd d o o' news news') (N : News h₀ L h (upd d o' news)) : News h₀ L h news' := news_sub N (upd_to U)
/-- two objects of the ledger that differ lie apart -/
theorem news_ne {h₀ h : Heap} {L a b : Addr} {o o' : Obj} {news : List (Addr × Obj)} (N : News h₀ L h news) (ha : (a, o) ∈ news) (hb : (b, o') ∈ news) (hne : o ≠ o') : a ≠ b := fun e => by
  subst e
  have h1 := (N _ ha).1
  have h2 := (N _ hb).1
  rw [h1] at h2
  exact hne (Option.some.inj h2)
theorem inst_ne_dict {C d : Addr} {es : List DictEntry} {c : Nat} : instObj C d ≠ dictOf es c := fun e => nomatch congrArg Obj.cls e
theorem inst_ne_list {C d : Addr} {its : Array Value} {c : Nat} : instObj C d ≠ W.listOf its c := fun e => nomatch congrArg Obj.cls e
theorem dict_ne_list {es : List DictEntry} {its : Array Value} {c c' : Nat} : dictOf es c ≠ W.listOf its c' := fun e => by
  have := congrArg Obj.data e
  cases this

section
variable {prog : Program} {w : World} {A : Around} {E : Value → Shared → Prop} {s : Shared} {K : Frag} {x C L d : Addr} {h₀ : Heap} {m : Str → Option Value} {news : List (Addr × Obj)} {es es' : List DictEntry} {n n' : Nat} {name : Str} {v : Value}
theorem set_dictS {Q : Unit → Shared → Prop} (F : Fr h₀ L s.heap m) (X₀ : K.In h₀) (N : News h₀ L s.heap news) (hx : (x, instObj C d) ∈ news) (hd : (d, dictOf es n) ∈ news)
    (hs : findIn K (.ref C) "__setattr__" = some (some (.builtin "object.__setattr__"))) (hp : plainOver K C = true) (ht : takerIn K C name = some none) (hh : hasDictIn K C = true) (hl : (getL name es).isSome = true)
    (e : (putL name (PyData.keyHash w.params name) (.str name (s.toks + 1)) v es, putN name es n) = (es', n')) (hz : es'.length ≤ 1000)
    (h : ∀ h', Fr h₀ L h' m → News h₀ L h' (upd d (dictOf es' n') news) → Q () { s with heap := h', toks := s.toks + 2 }) :
    wpAny (model prog w) A (setAttr (.ref x) name v) Q E s :=
  set_dict F X₀ (news_front N hd) (InstAt.of_news N hx hd) rfl hs hp ht hh hl e upd_front hz h
end

end
section
/-- where one stands after k steps -/
noncomputable def itr (nx : Nat → Option Nat) (a : Nat) : Nat → Option Nat
  | 0 => some a
  | k + 1 => (itr nx a k).bind nx
section
variable {nx : Nat → Option Nat} {a n : Nat}
theorem itr_succ {k i : Nat} (h : itr nx a k = some i) : itr nx a (k + 1) = nx i := by
  show (itr nx a k).bind nx = nx i
  rw [h]; rfl
theorem itr_shift {i j : Nat} (h : itr nx a i = itr nx a j) : ∀ k, itr nx a (i + k) = itr nx a (j + k)
  | 0 => h
  | k + 1 => by
    show (itr nx a (i + k)).bind nx = (itr nx a (j + k)).bind nx
    rw [itr_shift h k]
theorem itr_none {i : Nat} (h : itr nx a i = none) : ∀ k, itr nx a (i + k) = none
  | 0 => h
  | k + 1 => by
    show (itr nx a (i + k)).bind nx = none
    rw [itr_none h k]; rfl
theorem itr_lt (hnx : ∀ i, i < n → ∀ j, nx i = some j → j < n) (ha : a < n) : ∀ k i, itr nx a k = some i → i < n
  | 0, i, h => by cases h; exact ha
  | k + 1, i, h => by
    cases e : itr nx a k with
    | none => have := itr_none e 1; rw [h] at this; cases this
    | some j =>
      rw [itr_succ e] at h
      exact hnx j (itr_lt hnx ha k j e) i h
/-- a ring once entered is never left -/
theorem never_none {i j : Nat} (hij : i < j) (h : itr nx a i = itr nx a j) (hi : itr nx a i ≠ none) : ∀ k, itr nx a k ≠ none := by
  obtain ⟨d, rfl⟩ := Nat.exists_eq_add_of_le (Nat.le_of_lt hij)
  have hd : 1 ≤ d := Nat.lt_of_add_lt_add_left hij
  have up : ∀ m, itr nx a (i + m * d) = itr nx a i := by
    intro m
    induction m with
    | zero => rw [Nat.zero_mul]; rfl
    | succ m ih => rw [Nat.succ_mul, Nat.add_comm (m * d) d, ← Nat.add_assoc, ← itr_shift h (m * d), ih]
  intro k hk
  obtain ⟨q, hq⟩ := Nat.exists_eq_add_of_le (Nat.le_trans (Nat.le_mul_of_pos_right k hd) (Nat.le_add_left (k * d) i))
  have hk' := itr_none hk q
  rw [← hq, up k] at hk'
  exact hi hk'
/-- how the way from a goes: p steps to its end, or p steps to a ring of q -/
def Way (nx : Nat → Option Nat) (a p q : Nat) : Prop :=
  (q = 0 ∧ itr nx a p = none ∧ ∀ k, k < p → itr nx a k ≠ none) ∨
  (0 < q ∧ itr nx a (p + q) = itr nx a p ∧ (∀ k, itr nx a k ≠ none) ∧ ∀ i j, i < j → j < p + q → itr nx a i ≠ itr nx a j)
theorem way_unique {p q p' q' : Nat} (h : Way nx a p q) (h' : Way nx a p' q') : p = p' ∧ q = q' := by
  rcases h with ⟨hq, hn, hl⟩ | ⟨hq, he, ha, hd⟩ <;> rcases h' with ⟨hq', hn', hl'⟩ | ⟨hq', he', ha', hd'⟩
  · refine ⟨?_, by omega⟩
    rcases Nat.lt_trichotomy p p' with c | c | c
    · exact absurd hn (hl' p c)
    · exact c
    · exact absurd hn' (hl p' c)
  · exact absurd hn (ha' p)
  · exact absurd hn' (ha p')
  · have e : p + q = p' + q' := by
      rcases Nat.lt_trichotomy (p + q) (p' + q') with c | c | c
      · exact absurd he.symm (hd' p (p + q) (by omega) c)
      · exact c
      · exact absurd he'.symm (hd p' (p' + q') (by omega) c)
    have e2 : p = p' := by
      have ee : itr nx a p = itr nx a p' := by rw [← he, ← he', e]
      rcases Nat.lt_trichotomy p p' with c | c | c
      · exact absurd ee (hd p p' c (by omega))
      · exact c
      · exact absurd ee.symm (hd p' p c (by omega))
    exact ⟨e2, by omega⟩
/-- no more than n numbers below n that differ -/
theorem nodup_len : ∀ (n : Nat) (l : List Nat), l.Nodup → (∀ x ∈ l, x < n) → l.length ≤ n
  | 0, l, _, h => by
    cases l with
    | nil => simp
    | cons x r => exact absurd (h x List.mem_cons_self) (Nat.not_lt_zero _)
  | n + 1, l, hd, h => by
    have h1 : (l.erase n).length ≤ n := nodup_len n (l.erase n) (hd.erase n) (fun x hx => by
      have h2 : x ∈ l := List.mem_of_mem_erase hx
      have h3 : x ≠ n := fun e => by
        subst e
        exact absurd hx (by rw [hd.mem_erase_iff]; simp)
      have := h x h2
      omega)
    have := List.length_erase (a := n) (l := l)
    rw [this] at h1
    split at h1 <;> omega
/-- the way comes to its end, or twice to one place -/
theorem way_turns (hnx : ∀ i, i < n → ∀ j, nx i = some j → j < n) (ha : a < n) : itr nx a n = none ∨ ∃ i j, i < j ∧ j ≤ n ∧ itr nx a i = itr nx a j := by
  by_cases hN : itr nx a n = none
  · exact .inl hN
  refine .inr ?_
  have all : ∀ k, k ≤ n → ∃ x, itr nx a k = some x := fun k hk => by
    cases e : itr nx a k with
    | some x => exact ⟨x, rfl⟩
    | none =>
      have := itr_none e (n - k)
      rw [show k + (n - k) = n by omega] at this
      exact absurd this hN
  apply Classical.byContradiction
  intro hno
  let l := (List.range (n + 1)).map fun k => (itr nx a k).getD 0
  have hd : l.Nodup := by
    refine List.pairwise_map.mpr ?_
    refine List.Pairwise.imp_of_mem (fun {x y} hx hy hxy e => ?_) (List.pairwise_lt_range (n := n + 1))
    have hx := List.mem_range.mp hx
    have hy := List.mem_range.mp hy
    obtain ⟨u, hu⟩ := all x (by omega)
    obtain ⟨v, hv⟩ := all y (by omega)
    rw [hu, hv] at e
    exact hno ⟨x, y, hxy, by omega, by rw [hu, hv]; exact congrArg some e⟩
  have hlt : ∀ x ∈ l, x < n := fun x hx => by
    obtain ⟨k, hk, rfl⟩ := List.mem_map.mp hx
    have hk := List.mem_range.mp hk
    obtain ⟨u, hu⟩ := all k (by omega)
    rw [hu]
    exact itr_lt hnx ha k u hu
  have := nodup_len n l hd hlt
  simp [l] at this
  omega
/-- so many places that differ are few -/
theorem few {r : Nat} (hnx : ∀ i, i < n → ∀ j, nx i = some j → j < n) (ha : a < n) (hs : ∀ q, q ≤ r → itr nx a q ≠ none) (hd : ∀ i j, i < j → j ≤ r → itr nx a i ≠ itr nx a j) : r + 1 ≤ n := by
  let l := (List.range (r + 1)).map fun k => (itr nx a k).getD 0
  have sm : ∀ q, q ≤ r → ∃ x, itr nx a q = some x := fun q hq => by
    cases e : itr nx a q with
    | none => exact absurd e (hs q hq)
    | some x => exact ⟨x, rfl⟩
  have hnd : l.Nodup := by
    refine List.pairwise_map.mpr ?_
    refine List.Pairwise.imp_of_mem (fun {x y} hx hy hxy e => ?_) (List.pairwise_lt_range (n := r + 1))
    have hx := List.mem_range.mp hx
    have hy := List.mem_range.mp hy
    obtain ⟨u, hu⟩ := sm x (by omega)
    obtain ⟨v, hv⟩ := sm y (by omega)
    refine hd x y hxy (by omega) ?_
    rw [hu, hv] at e ⊢
    exact congrArg some e
  have := nodup_len n l hnd fun x hx => by
    obtain ⟨k, hk, rfl⟩ := List.mem_map.mp hx
    have hk := List.mem_range.mp hk
    obtain ⟨u, hu⟩ := sm k (by omega)
    rw [hu]
    exact itr_lt hnx ha k u hu
  simpa [l] using this
/-- the path so far, as ints -/
noncomputable def pathOf (nx : Nat → Option Nat) (a r : Nat) : List Int := (List.range r).map fun q => ((itr nx a q).getD 0 : Int)
theorem pathOf_length {r : Nat} : (pathOf nx a r).length = r := by simp [pathOf]
theorem pathOf_get {r q : Nat} (h : q < r) : (pathOf nx a r)[q]? = some ((itr nx a q).getD 0 : Int) := by simp [pathOf, h]
theorem pathOf_succ {r : Nat} : pathOf nx a (r + 1) = pathOf nx a r ++ [((itr nx a r).getD 0 : Int)] := by simp [pathOf, List.range_succ]
theorem pathOf_any {r b : Nat} (hs : ∀ q, q < r → itr nx a q ≠ none) : ((pathOf nx a r).any (· == (b : Int))) = true ↔ ∃ q, q < r ∧ itr nx a q = some b := by
  constructor
  · intro h
    obtain ⟨x, hx, e⟩ := List.any_eq_true.mp h
    obtain ⟨q, hq, rfl⟩ := List.mem_map.mp hx
    have hq := List.mem_range.mp hq
    refine ⟨q, hq, ?_⟩
    cases e' : itr nx a q with
    | none => exact absurd e' (hs q hq)
    | some y =>
      rw [e'] at e
      have : (y : Int) = b := by simpa using e
      exact congrArg some (by omega)
  · rintro ⟨q, hq, e⟩
    exact List.any_eq_true.mpr ⟨_, List.mem_map.mpr ⟨q, List.mem_range.mpr hq, rfl⟩, by simp [e]⟩
/-- the slow one and the fast one meet, or the fast one comes to the end -/
theorem meets (hnx : ∀ i, i < n → ∀ j, nx i = some j → j < n) (ha : a < n) : ∃ T, 1 ≤ T ∧ (itr nx a (2 * T) = none ∨ itr nx a T = itr nx a (2 * T)) := by
  rcases way_turns hnx ha with h | ⟨i, j, hij, _, h⟩
  · refine ⟨n, by omega, .inl ?_⟩
    have := itr_none h n
    rwa [show n + n = 2 * n by omega] at this
  · obtain ⟨d, rfl⟩ := Nat.exists_eq_add_of_le (Nat.le_of_lt hij)
    have hd : 1 ≤ d := Nat.lt_of_add_lt_add_left hij
    have per : ∀ m q, itr nx a (i + q + m * d) = itr nx a (i + q) := by
      intro m
      induction m with
      | zero => intro q; rw [Nat.zero_mul]; rfl
      | succ m ih =>
        intro q
        have h1 := itr_shift h (q + m * d)
        rw [← Nat.add_assoc i q, ih q] at h1
        rw [Nat.succ_mul, show i + q + (m * d + d) = i + d + (q + m * d) by omega]
        exact h1.symm
    have hge : i + 1 ≤ (i + 1) * d := Nat.le_mul_of_pos_right _ hd
    refine ⟨(i + 1) * d, Nat.le_trans (Nat.succ_le_succ (Nat.zero_le i)) hge, .inr ?_⟩
    obtain ⟨q, hq⟩ := Nat.exists_eq_add_of_le (Nat.le_trans (Nat.le_succ i) hge)
    have := per (i + 1) q
    rw [← hq] at this
    rw [Nat.two_mul]
    exact this.symm
/-- what the three walks find is the way -/
theorem way_ring {t c l : Nat} (ht : 1 ≤ t) (nn : ∀ k, itr nx a k ≠ none) (hc : itr nx a c = itr nx a (t + c)) (hcl : ∀ c', c' < c → itr nx a c' ≠ itr nx a (t + c'))
    (hl : 1 ≤ l) (he : itr nx a (t + c + l) = itr nx a (t + c)) (hll : ∀ l', 1 ≤ l' → l' < l → itr nx a (t + c + l') ≠ itr nx a (t + c)) : Way nx a c l := by
  have shift : ∀ k, c ≤ k → itr nx a (t + k) = itr nx a k := fun k hk => by
    obtain ⟨q, rfl⟩ := Nat.exists_eq_add_of_le hk
    rw [← Nat.add_assoc]
    exact (itr_shift hc q).symm
  have hcl2 : itr nx a (c + l) = itr nx a c := by
    rw [← shift (c + l) (Nat.le_add_right _ _), ← Nat.add_assoc, he, ← hc]
  refine .inr ⟨hl, hcl2, nn, ?_⟩
  intro i j hij hj e
  obtain ⟨d, rfl⟩ := Nat.exists_eq_add_of_le (Nat.le_of_lt hij)
  have hd : 1 ≤ d := Nat.lt_of_add_lt_add_left hij
  by_cases hci : c ≤ i
  · -- both on the ring: less than l apart
    obtain ⟨k, hk⟩ := Nat.exists_eq_add_of_le (Nat.le_of_lt (Nat.lt_trans hij hj))
    have h1 := itr_shift e k
    rw [Nat.add_right_comm i d k, ← hk, itr_shift hcl2 d, hcl2] at h1
    refine hll d hd (Nat.lt_of_add_lt_add_left (Nat.lt_of_le_of_lt (Nat.add_le_add_right hci d) hj)) ?_
    rw [Nat.add_assoc, shift _ (Nat.le_add_right _ _), shift c (Nat.le_refl _)]
    exact h1.symm
  · -- i ahead of the ring: then it lies on it
    have per2 : ∀ m, itr nx a (i + m * d) = itr nx a i := by
      intro m
      induction m with
      | zero => rw [Nat.zero_mul]; rfl
      | succ m ih => rw [Nat.succ_mul, Nat.add_comm (m * d) d, ← Nat.add_assoc, ← itr_shift e (m * d), ih]
    have hge : c ≤ c * d := Nat.le_mul_of_pos_right _ hd
    refine hcl i (Nat.lt_of_not_le hci) ?_
    have h1 := shift (i + c * d) (Nat.le_trans hge (Nat.le_add_left _ _))
    have h2 := itr_shift (per2 c) t
    rw [Nat.add_comm (i + c * d) t, h1, per2 c, Nat.add_comm i t] at h2
    exact h2
end
theorem sub_dec {T t k : Nat} (h : k = T - t) (q : t < T) : T - (t + 1) < k := by omega
theorem min10 {n : Nat} : (if (10 : Int) < (n : Int) then (10 : Int) else (n : Int)) = ((min n 10 : Nat) : Int) := by
  rcases Nat.lt_or_ge 10 n with q | q
  · have h : (10 : Int) < (n : Int) := Int.ofNat_lt.mpr q
    rw [if_pos h, Nat.min_eq_right (Nat.le_of_lt q)]; rfl
  · have h : ¬ (10 : Int) < (n : Int) := fun h => absurd (Int.ofNat_lt.mp h) (Nat.not_lt.mpr q)
    rw [if_neg h, Nat.min_eq_left q]

end
section
/-- the walk halts here -/
structure Hold (P : Prop) : Prop where
  out : P
theorem Hold.use {P : Prop} (h : Hold P) : P := h.out
theorem ite_yes {c : Prop} [Decidable c] {p q : Prop} (h : c) (hp : p) : if c then p else q := by rw [if_pos h]; exact hp
theorem ite_no {c : Prop} [Decidable c] {p q : Prop} (h : ¬ c) (hq : q) : if c then p else q := by rw [if_neg h]; exact hq
/-- the ledger less what lies at I -/
def off (I : Addr) (news : List (Addr × Obj)) : List (Addr × Obj) := news.filter fun p => decide (p.1 ≠ I)
theorem mem_off {a I : Addr} {o : Obj} {news : List (Addr × Obj)} (hm : (a, o) ∈ news) (hn : a ≠ I) : (a, o) ∈ off I news := List.mem_filter.mpr ⟨hm, by simpa using hn⟩
theorem off_ne {I : Addr} {news : List (Addr × Obj)} : ∀ p ∈ off I news, p.1 ≠ I := fun p hp => by simpa using (List.mem_filter.mp hp).2
theorem off_sub {I : Addr} {news : List (Addr × Obj)} : ∀ p ∈ off I news, p ∈ news := fun p hp => (List.mem_filter.mp hp).1
theorem mem_offC {h₀ h : Heap} {L a I : Addr} {o oI : Obj} {news : List (Addr × Obj)} (N : News h₀ L h news) (hI : (I, oI) ∈ news) (hm : (a, o) ∈ news) (hc : o.cls ≠ oI.cls) : (a, o) ∈ off I news :=
  mem_off hm (news_ne N hm hI fun e => hc (by rw [e]))

/-- a turn's end -/
def TurnJ (h₀ : Heap) (L : Addr) (J : (Str → Option Value) → List (Addr × Obj) → Prop) (I : Addr) (own : List (Addr × Obj)) (s₁ : Shared) (Q : Flow → Shared → Prop) (f : Flow) (s₂ : Shared) : Prop :=
  match f with
  | .ret v => Q (.ret v) s₂
  | .brk => Q .next s₂
  | _ => ∃ h' tk m' news', s₂ = { s₁ with heap := h', toks := tk } ∧ Fr h₀ L h' m' ∧ News h₀ L h' news' ∧ (∀ p ∈ own, p ∈ news') ∧ J m' (off I news')

section
variable {prog : Program} {w : World} {A : Around} {E : Value → Shared → Prop} {s : Shared} {env : Env} {h₀ : Heap} {x : Str} {body : List Stmt} {Q : Flow → Shared → Prop}
theorem turnJ_toV {I : Addr} {own own' news₁ : List (Addr × Obj)} {L : Addr} {J : (Str → Option Value) → List (Addr × Obj) → Prop} {s₁ s₂ : Shared} {f : Flow} (hs : ∀ p ∈ own', p ∈ own)
    (h : TurnJ h₀ L J I own s₁ Q f s₂) : LoopStepV h₀ L [I] own' J s₁ (fun v s' => Q (.ret v) s') (fun s' => Q .next s') f s₂ := by
  have fin : TurnJ h₀ L J I own s₁ Q .next s₂ → LoopStepU h₀ L [I] own' J s₁ .next s₂ := by
    rintro ⟨h', tk, m', news', e, F', N', ho, hJ⟩
    refine ⟨rfl, h', tk, m', off I news', e, F', fun p hp => ?_, fun p hp hI => off_ne p hp (List.mem_singleton.mp hI), hJ⟩
    rcases List.mem_append.mp hp with q | q
    · exact N' p (ho p (hs p q))
    · exact N' p (off_sub p q)
  cases f with
  | ret v => exact .ret h
  | brk => exact .brk h
  | next => exact .next (fin h)
  | cont => exact .cont (fin h)

theorem iter_rangeJ {r : Addr} {a₀ b₀ : Int} {t₀ u₀ v₀ : Tok} {n : Nat} {m₀ : Str → Option Value} {news : List (Addr × Obj)} (J : Nat → (Str → Option Value) → List (Addr × Obj) → Prop)
    (hh : A.handled = none) (hr : IsRange s.heap r a₀ b₀ 1 t₀ u₀ v₀) (hsmall : Builtin.Range.small a₀ b₀ 1 = true) (hn : Builtin.Range.rangeSize a₀ b₀ 1 = (n : Int)) (F : Fr h₀ env.locals s.heap m₀) (N : News h₀ env.locals s.heap news) (hj : J 0 m₀ news)
    (turn : ∀ i t m₁ news₁ h tk I oI, i < n → oI.cls = .type "range_iterator" → J i m₁ news₁ → (∀ p ∈ news₁, p.1 ≠ I) → Fr h₀ env.locals h (fun y => if y = x then some (.int (a₀ + (i : Int)) t) else m₁ y) → News h₀ env.locals h ((I, oI) :: news₁) →
      wpAny (model prog w) A (execs body env) (TurnJ h₀ env.locals (J (i + 1)) I [(I, oI)] { s with heap := h, toks := tk } Q) E { s with heap := h, toks := tk })
    (done : ∀ m₁ news₁ h tk, J n m₁ news₁ → Fr h₀ env.locals h m₁ → News h₀ env.locals h news₁ → Q .next { s with heap := h, toks := tk }) :
    wpAny (model prog w) A (pyIter (.ref r)) (fun it s₂ => LoopAtV prog w A h₀ env x body Q E it s₂) E s := by
  refine wpAny_pyIter_range hr hsmall ?_
  have WW := LCg.range_walks (prog := prog) (w := w) (I := s.heap.objs.size) hh a₀ n
  have hI₀ : h₀.get? s.heap.objs.size = none := next_is_new F
  refine ⟨_, _, _, n, _, _, m₀, news, J, rfl, WW, ?_, ?_, ?_, (by show IsRangeIter _ _ _ _ _; rw [hn]; simpa using Heap.get?_push_size _ rfl), F.push _, (fun p hp => ⟨Heap.get?_push_of_some _ (N p hp).1, (N p hp).2⟩), hj, ?_, ?_⟩
  · intro hm
    exact absurd F.ns.lt ((List.mem_singleton.mp hm) ▸ Nat.lt_irrefl _)
  · intro b hb
    rw [List.mem_singleton.mp hb]
    exact hI₀
  · intro p hp hI
    exact absurd (Heap.lt_size (N p hp).1) ((List.mem_singleton.mp hI) ▸ Nat.lt_irrefl _)
  · rintro i v m₁ news₁ s₁ own ⟨hh', tk', rfl⟩ hin ⟨t, rfl⟩ hJ hoff hown hget hall hst F₁ N₁
    have hIo : hh'.get? s.heap.objs.size = some _ := hst
    have hmI := hall _ (List.mem_singleton.mpr rfl) hI₀ _ hIo
    have ho : ∀ p ∈ own, p = (s.heap.objs.size, _) := own_one hown (fun b hb => .inl (List.mem_singleton.mp hb)) hIo N₁
    refine wpAny_mono (turn i t m₁ news₁ hh' tk' _ _ hin rfl hJ (fun p hp e => hoff p hp (List.mem_singleton.mpr e)) F₁ (news_one hmI N₁)) (fun f s₂ p => turnJ_toV (news₁ := news₁) (fun p hp => by rw [ho p hp]; exact List.mem_singleton.mpr rfl) p) fun _ _ e => e
  · rintro h' tk m' news' F' N' _ hJ
    exact done m' news' h' tk hJ F' N'

theorem iter_listJ {ax : Addr} {its : Array Value} {cap : Nat} {m₀ : Str → Option Value} {news : List (Addr × Obj)} (J : Nat → (Str → Option Value) → List (Addr × Obj) → Prop)
    (hh : A.handled = none) (hl : (ax, W.listOf its cap) ∈ news) (F : Fr h₀ env.locals s.heap m₀) (N : News h₀ env.locals s.heap news) (hj : J 0 m₀ news)
    (turn : ∀ i v m₁ news₁ h tk I oI, its[i]? = some v → oI.cls = .type "list_iterator" → J i m₁ news₁ → (∀ p ∈ news₁, p.1 ≠ I) → Fr h₀ env.locals h (fun y => if y = x then some v else m₁ y) → News h₀ env.locals h ((I, oI) :: (ax, W.listOf its cap) :: news₁) →
      wpAny (model prog w) A (execs body env) (TurnJ h₀ env.locals (J (i + 1)) I [(I, oI), (ax, W.listOf its cap)] { s with heap := h, toks := tk } Q) E { s with heap := h, toks := tk })
    (done : ∀ m₁ news₁ h tk, J its.size m₁ news₁ → Fr h₀ env.locals h m₁ → News h₀ env.locals h news₁ → Q .next { s with heap := h, toks := tk }) :
    wpAny (model prog w) A (pyIter (.ref ax)) (fun it s₂ => LoopAtV prog w A h₀ env x body Q E it s₂) E s := by
  have hla := (N _ hl).1
  have hls : s.heap.IsList ax its := ⟨_, hla, rfl, _, rfl⟩
  have hne : ax ≠ s.heap.objs.size := Nat.ne_of_lt (Heap.lt_size hla)
  have hI₀ : h₀.get? s.heap.objs.size = none := next_is_new F
  refine wpAny_pyIter_list hls ?_
  have WW := Walks.list (prog := prog) (w := w) hh s.heap.objs.size ax hne its
  let J' : Nat → (Str → Option Value) → List (Addr × Obj) → Prop := fun i m₁ news₁ => (ax, W.listOf its cap) ∈ news₁ ∧ J i m₁ news₁
  refine ⟨_, _, _, its.size, _, _, m₀, news, J', rfl, WW, ?_, ?_, ?_, ⟨⟨_, Heap.get?_push_size _ rfl, rfl, rfl⟩, hls.at fun o e => Heap.get?_push_of_some _ e⟩, F.push _, (fun p hp => ⟨Heap.get?_push_of_some _ (N p hp).1, (N p hp).2⟩), ⟨hl, hj⟩, ?_, ?_⟩
  · intro hm
    rcases List.mem_cons.mp hm with e | hm
    · exact absurd F.ns.lt (e ▸ Nat.lt_irrefl _)
    · exact (N _ hl).2.1 (List.mem_singleton.mp hm).symm
  · intro b hb
    rw [List.mem_singleton.mp hb]
    exact hI₀
  · intro p hp hI
    exact absurd (Heap.lt_size (N p hp).1) ((List.mem_singleton.mp hI) ▸ Nat.lt_irrefl _)
  · rintro i v m₁ news₁ s₁ own ⟨hh', tk', rfl⟩ hin hP ⟨hlm, hJ⟩ hoff hown hget hall hst F₁ N₁
    obtain ⟨oI, hIo, hcI, _⟩ := hst.1
    have hmI := hall _ (List.mem_cons_self) hI₀ _ hIo
    have hlo : hh'.get? ax = some (W.listOf its cap) := (N₁ _ (List.mem_append_right _ hlm)).1
    have ho : ∀ p ∈ own, p ∈ [(s.heap.objs.size, oI), (ax, W.listOf its cap)] := fun p hp => by
      have e := hget p hp
      rcases List.mem_cons.mp (hown p hp) with q | q
      · rw [q, hIo] at e
        exact List.mem_cons.mpr (.inl (Prod.ext q (Option.some.inj e).symm))
      · have q := List.mem_singleton.mp q
        rw [q, hlo] at e
        exact List.mem_cons.mpr (.inr (List.mem_singleton.mpr (Prod.ext q (Option.some.inj e).symm)))
    have N₂ : News h₀ env.locals hh' ((s.heap.objs.size, oI) :: (ax, W.listOf its cap) :: news₁) := fun p hp => by
      rcases List.mem_cons.mp hp with rfl | hp
      · exact N₁ _ (List.mem_append_left _ hmI)
      · rcases List.mem_cons.mp hp with rfl | hp
        · exact N₁ _ (List.mem_append_right _ hlm)
        · exact N₁ _ (List.mem_append_right _ hp)
    have hoff' : ∀ p ∈ news₁, p.1 ≠ s.heap.objs.size := fun p hp e => hoff p hp (List.mem_singleton.mpr e)
    refine wpAny_mono (turn i v m₁ news₁ hh' tk' _ _ hP hcI hJ hoff' F₁ N₂) (fun f s₂ p => turnJ_toV (news₁ := news₁) ho (?_ : TurnJ h₀ env.locals (J' (i + 1)) _ _ _ Q f s₂)) fun _ _ e => e
    cases f with
    | ret v => exact p
    | brk => exact p
    | next =>
      obtain ⟨h', tk, m', news', e, F', N', ho', hJ'⟩ := p
      exact ⟨h', tk, m', news', e, F', N', ho', mem_off (ho' _ (List.mem_cons_of_mem _ (List.mem_singleton.mpr rfl))) hne, hJ'⟩
    | cont =>
      obtain ⟨h', tk, m', news', e, F', N', ho', hJ'⟩ := p
      exact ⟨h', tk, m', news', e, F', N', ho', mem_off (ho' _ (List.mem_cons_of_mem _ (List.mem_singleton.mpr rfl))) hne, hJ'⟩
  · rintro h' tk m' news' F' N' _ ⟨_, hJ⟩
    exact done m' news' h' tk hJ F' N'
end
theorem fr_kst {h₀ h : Heap} {L : Addr} {m : Str → Option Value} (ps : List (Str × Value)) (F : Fr h₀ L h m) (hp : ∀ p ∈ ps, m p.1 = some p.2) : ∃ u, Fr h₀ L h (kstB u ps) :=
  ⟨m, by
    have e : kstB m ps = m := funext fun z => kstB_eq hp fun _ => rfl
    rw [e]; exact F⟩
theorem fr_only {h₀ h : Heap} {L : Addr} {x : Str} {v : Option Value} {m₀ m₁ : Str → Option Value} (hm : ∀ z, z ≠ x → m₁ z = m₀ z) (F : Fr h₀ L h (fun y => if y = x then v else m₁ y)) : Fr h₀ L h (fun y => if y = x then v else m₀ y) := by
  have e : (fun y => if y = x then v else m₁ y) = fun y => if y = x then v else m₀ y := by
    funext y
    by_cases hy : y = x
    · rw [if_pos hy, if_pos hy]
    · rw [if_neg hy, if_neg hy]; exact hm y hy
  rw [← e]; exact F
theorem news_apart {h₀ h g : Heap} {L l : Addr} {ns news : List (Addr × Obj)} (G : GSub h g (ns.map (·.1))) (N : News h₀ L h news) (hg : g.get? l = none) (hl : ∀ q ∈ ns, q.1 ≠ l) : ∀ p ∈ news, p.1 ≠ l := fun p hp e => by
  by_cases hn : p.1 ∈ ns.map (·.1)
  · obtain ⟨q, hq, e'⟩ := List.mem_map.mp hn
    exact hl q hq (Eq.trans e' e)
  · have := G _ _ (N p hp).1 hn
    rw [e, hg] at this
    cases this
/-- what the call's own ledger leaves out stands as it stood -/
theorem news_rest {h₀ h g h' : Heap} {L L' : Addr} {m' : Str → Option Value} {ns ns' news : List (Addr × Obj)} (G : GSub h g (ns.map (·.1))) (N : News h₀ L h news) (F' : Fr g L' h' m') (N' : News h₀ L h' ns') :
    News h₀ L h' (ns' ++ news.filter fun p => decide (p.1 ∉ ns.map (·.1))) := fun p hp => by
  rcases List.mem_append.mp hp with q | q
  · exact N' p q
  · obtain ⟨q1, q2⟩ := List.mem_filter.mp q
    have q2 : p.1 ∉ ns.map (·.1) := by simpa using q2
    exact ⟨F'.keep _ _ (G _ _ (N p q1).1 q2), (N p q1).2⟩
theorem mem_rest {ns ns' news : List (Addr × Obj)} {p : Addr × Obj} (hp : p ∈ news) (hn : p.1 ∉ ns.map (·.1)) : p ∈ ns' ++ news.filter fun p => decide (p.1 ∉ ns.map (·.1)) :=
  List.mem_append_right _ (List.mem_filter.mpr ⟨hp, by simpa using hn⟩)
theorem rest_all {h₀ h : Heap} {L d : Addr} {ns ns' news : List (Addr × Obj)} (N : News h₀ L h news) (h1 : ∀ q ∈ ns, q ∈ news) (h2 : ∀ q ∈ ns, q.1 ≠ d → q ∈ ns') :
    ∀ p ∈ news, p.1 ≠ d → p ∈ ns' ++ news.filter fun p => decide (p.1 ∉ ns.map (·.1)) := fun p hp hd => by
  by_cases hn : p.1 ∈ ns.map (·.1)
  · obtain ⟨q, hq, e⟩ := List.mem_map.mp hn
    have a := (N q (h1 q hq)).1
    have b := (N p hp).1
    have e' : q.1 = p.1 := e
    rw [e', b] at a
    have qp : q = p := Prod.ext e' (Option.some.inj a).symm
    exact List.mem_append_left _ (qp ▸ h2 q hq (by rw [e']; exact hd))
  · exact mem_rest hp hn

end
section
/-- a list of n items, each told by its place -/
def arr (n : Nat) (f : Nat → Value) : Array Value := ((List.range n).map f).toArray
theorem arr_get {n i : Nat} {f : Nat → Value} (h : i < n) : (arr n f)[i]? = some (f i) := by
  unfold arr
  simp [h]
theorem arr_size {n : Nat} {f : Nat → Value} : (arr n f).size = n := by unfold arr; simp
theorem arr_congr {n : Nat} {f g : Nat → Value} (h : ∀ i, i < n → f i = g i) : arr n f = arr n g := by
  unfold arr
  congr 1
  exact List.map_congr_left fun i hi => h i (List.mem_range.mp hi)
theorem arr_succ {n : Nat} {f : Nat → Value} : arr (n + 1) f = (arr n f).push (f n) := by
  unfold arr
  rw [List.range_succ, List.map_append, List.push_toArray]
  rfl
theorem fit63 {n : Nat} (h : n ≤ 1000) : (n : Int) < 2 ^ 63 := by
  have e : (2 : Int) ^ 63 = 9223372036854775808 := by decide
  omega
theorem kf_ints_of {vs : List Value} {ns : List Int} (h : IntsAre vs ns) : kf_ints vs = true := by
  induction h with
  | nil => rfl
  | cons n t r ih => exact ih
theorem kf_at_of {k : Int} : ∀ {vs : List Value} {ns : List Int}, IntsAre vs ns → ∀ {j : Nat}, ns[j]? = some k → (∀ i, i < j → ns[i]? ≠ some k) → kf_at k vs = some j
  | _, _, .nil, _, h, _ => by cases h
  | _, _, .cons n t r, 0, h, _ => by
    have e : n = k := by simpa using h
    unfold kf_at
    rw [show isInt k (.int n t) = true by simp [isInt, e]]; rfl
  | _, _, .cons n t r, j + 1, h, hl => by
    have e : ¬ n = k := fun e => hl 0 (Nat.zero_lt_succ _) (by simp [e])
    have ih := kf_at_of r (j := j) (by simpa using h) (fun i hi => by simpa using hl (i + 1) (Nat.succ_lt_succ hi))
    unfold kf_at
    rw [show isInt k (.int n t) = false by simp [isInt, e], ih]; rfl
section
variable {prog : Program} {w : World} {A : Around} {E : Value → Shared → Prop} {s : Shared} {h₀ h : Heap} {L D : Addr} {m : Str → Option Value} {news : List (Addr × Obj)} {its : Array Value} {cap : Nat}
theorem isList_led (N : News h₀ L h news) (hm : (D, W.listOf its cap) ∈ news) : h.IsList D its := ⟨_, (N _ hm).1, rfl, _, rfl⟩
theorem isList_base (F : Fr h₀ L h m) (hg : h₀.get? D = some (W.listOf its cap)) : h.IsList D its := ⟨_, F.keep _ _ hg, rfl, _, rfl⟩
theorem item_led {value slice : Expr} {k : Int} {u : Tok} {v : Value} {Q : Value → Shared → Prop} (N : News h₀ L s.heap news) (hm : (D, W.listOf its cap) ∈ news) (hx : its[k.toNat]? = some v) (h0 : 0 ≤ k) (hk : k < 2 ^ 63) (h : Q v s)
    (hs : subscripted slice false (.ref D) (.int k u) = operate [.ref D, .int k u] (getItem (.ref D) (.int k u)) := by with_unfolding_all rfl) :
    wpAny (model prog w) A (subscriptTail value slice (.ref D) (.int k u)) Q E s :=
  have hl := isList_led N hm
  tail_any hl.typeIs slot_list_getitem.lookup (wpAny_getItem_list hl h0 hk hx h) hs
theorem item_base {value slice : Expr} {k : Int} {u : Tok} {v : Value} {Q : Value → Shared → Prop} (F : Fr h₀ L s.heap m) (hg : h₀.get? D = some (W.listOf its cap)) (hx : its[k.toNat]? = some v) (h0 : 0 ≤ k) (hk : k < 2 ^ 63) (h : Q v s)
    (hs : subscripted slice false (.ref D) (.int k u) = operate [.ref D, .int k u] (getItem (.ref D) (.int k u)) := by with_unfolding_all rfl) :
    wpAny (model prog w) A (subscriptTail value slice (.ref D) (.int k u)) Q E s :=
  have hl := isList_base F hg
  tail_any hl.typeIs slot_list_getitem.lookup (wpAny_getItem_list hl h0 hk hx h) hs
theorem last_led {value slice : Expr} {vs : List Value} {u : Tok} {v : Value} {Q : Value → Shared → Prop} (N : News h₀ L s.heap news) (hm : (D, W.listOf vs.toArray cap) ∈ news) (hx : vs.getLast? = some v) (h : Q v s)
    (hs : subscripted slice false (.ref D) (.int (-1) u) = operate [.ref D, .int (-1) u] (getItem (.ref D) (.int (-1) u)) := by with_unfolding_all rfl) :
    wpAny (model prog w) A (subscriptTail value slice (.ref D) (.int (-1) u)) Q E s := by
  have hl := isList_led N hm
  have hlen : 0 < vs.length := by
    cases vs with
    | nil => cases hx
    | cons => simp
  refine tail_any hl.typeIs slot_list_getitem.lookup (wpAny_getItem_list_neg hl (by decide) (by simp; omega) (by decide) ?_ h) hs
  rw [List.getLast?_eq_getElem?] at hx
  have e : ((-1 : Int) + (vs.toArray.size : Int)).toNat = vs.length - 1 := by rw [Int.add_comm]; exact Int.toNat_sub vs.length 1
  rw [e]
  simpa using hx
theorem notin_led {vs : List Value} {ns : List Int} {k : Int} {t : Tok} {b : Bool} {Q : Value → Shared → Prop} (N : News h₀ L s.heap news) (hm : (D, W.listOf vs.toArray cap) ∈ news) (hi : IntsAre vs ns) (e : (!(ns.any (· == k))) = b)
    (h : Q (.bool b) s) : wpAny (model prog w) A (compareOp .NotIn (.int k t) (.ref D)) Q E s := notin_list_ints (isList_led N hm) hi (by rw [e]; exact h)
theorem index_led {vs : List Value} {ns : List Int} {k : Int} {t : Tok} {j : Nat} {Q : Value → Shared → Prop} (N : News h₀ L s.heap news) (hm : (D, W.listOf vs.toArray cap) ∈ news) (hi : IntsAre vs ns) (hj : ns[j]? = some k) (hf : ∀ i, i < j → ns[i]? ≠ some k)
    (hz : vs.length ≤ sizeLine) (h : Q (.int (j : Int) s.toks) { s with toks := s.toks + 1 }) : wpAny (model prog w) A (call (.builtin "list.index") [.ref D, .int k t]) Q E s :=
  kf_index N hm (kf_ints_of hi) (kf_at_of hi hj hf) rfl (by simpa using hz) h
theorem len_led {Q : Value → Shared → Prop} (N : News h₀ L s.heap news) (hm : (D, W.listOf its cap) ∈ news) (hz : its.size ≤ 1000)
    (h : Q (.int (its.size : Nat) (s.toks + 1)) { s with toks := s.toks + 1 + 1 }) : wpAny (model prog w) A (call (.builtin "len") [.ref D]) Q E s :=
  len_list (isList_led N hm) (fit63 hz) h
theorem len_base {Q : Value → Shared → Prop} (F : Fr h₀ L s.heap m) (hg : h₀.get? D = some (W.listOf its cap)) (hz : its.size ≤ 1000)
    (h : Q (.int (its.size : Nat) (s.toks + 1)) { s with toks := s.toks + 1 + 1 }) : wpAny (model prog w) A (call (.builtin "len") [.ref D]) Q E s :=
  len_list (isList_base F hg) (fit63 hz) h
theorem append_led {x : Value} {Q : Value → Shared → Prop} (F : Fr h₀ L s.heap m) (N : News h₀ L s.heap news) (hm : (D, W.listOf its cap) ∈ news)
    (h : ∀ h', Fr h₀ L h' m → News h₀ L h' (upd D (W.listOf (its.push x) (cap + 1)) news) → Q .none { s with heap := h' }) (hsz : its.size ≤ 1000) : wpAny (model prog w) A (call (.builtin "list.append") [.ref D, x]) Q E s :=
  append_K (hsz := by rw [sizeLine_eq]; omega) F (news_front N hm) upd_front h
theorem extend_led {al : List Value} {its2 : Array Value} {b : Addr} {c2 : Nat} {Q : Value → Shared → Prop} (F : Fr h₀ L s.heap m) (N : News h₀ L s.heap news) (hm : (D, W.listOf al.toArray cap) ∈ news) (hb : (b, W.listOf its2 c2) ∈ news) (hbD : @Ne Nat b D)
    (hne : its2.size ≠ 0) (hz : al.length ≤ 1000) (hz2 : its2.size ≤ 1000)
    (h : ∀ h', Fr h₀ L h' m → News h₀ L h' (upd D (W.listOf (al ++ its2.toList).toArray (cap + 1)) news) → Q .none { s with heap := h' }) : wpAny (model prog w) A (call (.builtin "list.extend") [.ref D, .ref b]) Q E s := by
  refine kl_extend (l := al ++ its2.toList) F (news_front N hm) (.tail _ (List.mem_filter.mpr ⟨hb, by simpa using hbD⟩)) rfl (by simpa using hne) upd_front ?_ (by rw [sizeLine_eq]; simp; omega) (by rw [sizeLine_eq]; simp; omega) h
  have e : Builtin.List.listTooLong (al.toArray.size + its2.size) = false := by
    unfold Builtin.List.listTooLong
    rw [sizeLine_eq]
    simp
    omega
  rw [e]
  simp
end

end
local macro_rules | `(tactic| walk_at "ite9") => `(tactic| (first | (refine ite_yes (by rfl) ?_) | (refine ite_yes (by (simp only [decide_eq_true_eq, beq_iff_eq]; omega)) ?_) | (refine ite_no (by (simp only [decide_eq_true_eq, beq_iff_eq]; omega)) ?_)))
local macro_rules | `(tactic| walk_at "mem9") => `(tactic| (first | with_reducible assumption | ((with_reducible show _ ∈ upd _ _ _); first | exact mem_upd_self | (refine mem_upd ?_ ?_; (focus k_mem); first | with_reducible assumption | (apply Ne.symm; with_reducible assumption) | k_ne)) | exact List.Mem.head _ | (refine List.mem_cons_of_mem _ ?_; k_mem)))
local macro_rules | `(tactic| walk_at "for9") => `(tactic| (k_here; (rename Fr _ _ _ _ => lF'); (with_unfolding_all refine' For_invVF lF' ?k1 ?k2 ?_; (case k1 | k2 => exact rfl); k_whole)))
local macro_rules | `(tactic| walk_at "size") => `(tactic| ((try simp only [List.size_toArray, arr_size, Array.size_push, List.length_append, List.length_cons, List.length_nil]); omega))
local macro_rules | `(tactic| walk_at "item9") => `(tactic| (k_here; (with_reducible show wpAny _ _ (subscriptTail _ _ (Value.ref _) (Value.int _ _)) _ _ _); k_dflt (first
  | (refine' item_led ?N ?m ?x ?lo ?hi ?_; (case N => k_asm); (case m => k_mem); (case x => assumption); (case lo | hi => omega); k_whole)
  | (refine' item_base ?F ?g ?x ?lo ?hi ?_; (case F => k_asm); (case g | x => assumption); (case lo | hi => omega); k_whole))))
section
local macro_rules | `(tactic| k_handed) => `(tactic| with_reducible assumption)
local macro_rules | `(tactic| walk_at "setAttr ref") => `(tactic| (k_here; k_dflt (refine' set_dictS ?k1 ?k2 ?k3 ?k4 ?k5 ?k6 ?k7 ?k8 ?k9 ?k10 ?k11 ?k13 ?_; (case k1 | k2 | k3 => k_asm); (case k4 | k5 => k_mem); (case k6 | k7 | k8 | k9 => k_is); (case k10 => k_get); (case k11 => k_put); (case k13 => exact Nat.le_of_ble_eq_true rfl); k_whole; intro h' F' N'; (try k_sweep))))
local macro_rules | `(tactic| units_room) => `(tactic| ((try simp only [units_in1, units_deeper, Around.mark_units, units_caller]); (try dsimp only [ktrTop]); (have hcL9 := cLine_is); omega))
local macro_rules | `(tactic| k_units) => `(tactic| units_room)
section
section
variable {w : World} {mg mb : Str → Option Value} {mean : ExcName → Option Value} {A₀ : Around} {base h₀ : Heap} {outer : List Env} {L : Addr} {m : Str → Option Value} {news : List (Addr × Obj)} {s : Shared}
  {dp un : Nat} {gd : Option (List Code)} {cn : Str} {cs : Scope} {a : Addr} {ccd : Value} {cl : List (Str × Addr)} {Q E : Value → Shared → Prop} {x d : Addr} {t : Nat → Nat} {v : Things}
theorem getSys (B : Below A₀ base outer h₀) (F : Fr h₀ L s.heap m) (X : (Mine.hd.heap_39 w.params).In h₀) (N : News h₀ L s.heap news) (T : Top Mine.hd.view_39 (looseW Mine.hd.view_39 []) mean mg mb h₀) (hk : cs.kind = .function)
    (hx : (x, instObj 102 d) ∈ news) (hd : (d, dictOf (ents w.params t v) 5) ∈ news) (hdp : dp + 5 < recursionLimit) (hv : handedIn v.sys = true)
    (ret : ∀ h' tk', Fr h₀ L h' m → News h₀ L h' news → Q v.sys { s with heap := h', toks := tk' }) :
    wpAny (model PySem.Challenge.rw_kn0107_01.row.prog w) (ktrTop dp un gd cn cs L a ccd cl outer) (call (.ref 57) [.ref x]) Q E s := by
  revert X; k_fill; intro X
  refine wpAny_call ?_
  k_dflt ktr_enter
  k_steps
  all_goals (exact ret _ _ (by k_asm) (by k_asm))
theorem setSys (B : Below A₀ base outer h₀) (F : Fr h₀ L s.heap m) (X : (Mine.hd.heap_39 w.params).In h₀) (N : News h₀ L s.heap news) (T : Top Mine.hd.view_39 (looseW Mine.hd.view_39 []) mean mg mb h₀) (hk : cs.kind = .function) {p : Value}
    (hx : (x, instObj 102 d) ∈ news) (hd : (d, dictOf (ents w.params t v) 5) ∈ news) (hdp : dp + 5 < recursionLimit)
    (ret : ∀ h' tk', Fr h₀ L h' m → News h₀ L h' (upd d (dictOf (ents w.params t { v with sys := p }) 5) news) → Q .none { s with heap := h', toks := tk' }) :
    wpAny (model PySem.Challenge.rw_kn0107_01.row.prog w) (ktrTop dp un gd cn cs L a ccd cl outer) (call (.ref 50) [.ref x, p]) Q E s := by
  refine wpAny_call ?_
  k_dflt ktr_enter
  k_steps
  all_goals (exact ret _ _ (by k_asm) (by k_asm))
theorem getPub (B : Below A₀ base outer h₀) (F : Fr h₀ L s.heap m) (X : (Mine.hd.heap_39 w.params).In h₀) (N : News h₀ L s.heap news) (T : Top Mine.hd.view_39 (looseW Mine.hd.view_39 []) mean mg mb h₀) (hk : cs.kind = .function)
    (hx : (x, instObj 102 d) ∈ news) (hd : (d, dictOf (ents w.params t v) 5) ∈ news) (hdp : dp + 5 < recursionLimit) (hv : handedIn v.pub = true)
    (ret : ∀ h' tk', Fr h₀ L h' m → News h₀ L h' news → Q v.pub { s with heap := h', toks := tk' }) :
    wpAny (model PySem.Challenge.rw_kn0107_01.row.prog w) (ktrTop dp un gd cn cs L a ccd cl outer) (call (.ref 43) [.ref x]) Q E s := by
  refine wpAny_call ?_
  k_dflt ktr_enter
  k_steps
  all_goals (exact ret _ _ (by k_asm) (by k_asm))
theorem setPub (B : Below A₀ base outer h₀) (F : Fr h₀ L s.heap m) (X : (Mine.hd.heap_39 w.params).In h₀) (N : News h₀ L s.heap news) (T : Top Mine.hd.view_39 (looseW Mine.hd.view_39 []) mean mg mb h₀) (hk : cs.kind = .function) {p : Value}
    (hx : (x, instObj 102 d) ∈ news) (hd : (d, dictOf (ents w.params t v) 5) ∈ news) (hdp : dp + 5 < recursionLimit)
    (ret : ∀ h' tk', Fr h₀ L h' m → News h₀ L h' (upd d (dictOf (ents w.params t { v with pub := p }) 5) news) → Q .none { s with heap := h', toks := tk' }) :
    wpAny (model PySem.Challenge.rw_kn0107_01.row.prog w) (ktrTop dp un gd cn cs L a ccd cl outer) (call (.ref 36) [.ref x, p]) Q E s := by
  refine wpAny_call ?_
  k_dflt ktr_enter
  k_steps
  all_goals (exact ret _ _ (by k_asm) (by k_asm))
theorem getEnc (B : Below A₀ base outer h₀) (F : Fr h₀ L s.heap m) (X : (Mine.hd.heap_39 w.params).In h₀) (N : News h₀ L s.heap news) (T : Top Mine.hd.view_39 (looseW Mine.hd.view_39 []) mean mg mb h₀) (hk : cs.kind = .function)
    (hx : (x, instObj 102 d) ∈ news) (hd : (d, dictOf (ents w.params t v) 5) ∈ news) (hdp : dp + 5 < recursionLimit) (hv : handedIn v.enc = true)
    (ret : ∀ h' tk', Fr h₀ L h' m → News h₀ L h' news → Q v.enc { s with heap := h', toks := tk' }) :
    wpAny (model PySem.Challenge.rw_kn0107_01.row.prog w) (ktrTop dp un gd cn cs L a ccd cl outer) (call (.ref 71) [.ref x]) Q E s := by
  refine wpAny_call ?_
  k_dflt ktr_enter
  k_steps
  all_goals (exact ret _ _ (by k_asm) (by k_asm))
theorem setEnc (B : Below A₀ base outer h₀) (F : Fr h₀ L s.heap m) (X : (Mine.hd.heap_39 w.params).In h₀) (N : News h₀ L s.heap news) (T : Top Mine.hd.view_39 (looseW Mine.hd.view_39 []) mean mg mb h₀) (hk : cs.kind = .function) {p : Value}
    (hx : (x, instObj 102 d) ∈ news) (hd : (d, dictOf (ents w.params t v) 5) ∈ news) (hdp : dp + 5 < recursionLimit)
    (ret : ∀ h' tk', Fr h₀ L h' m → News h₀ L h' (upd d (dictOf (ents w.params t { v with enc := p }) 5) news) → Q .none { s with heap := h', toks := tk' }) :
    wpAny (model PySem.Challenge.rw_kn0107_01.row.prog w) (ktrTop dp un gd cn cs L a ccd cl outer) (call (.ref 64) [.ref x, p]) Q E s := by
  refine wpAny_call ?_
  k_dflt ktr_enter
  k_steps
  all_goals (exact ret _ _ (by k_asm) (by k_asm))
theorem getByt (B : Below A₀ base outer h₀) (F : Fr h₀ L s.heap m) (X : (Mine.hd.heap_39 w.params).In h₀) (N : News h₀ L s.heap news) (T : Top Mine.hd.view_39 (looseW Mine.hd.view_39 []) mean mg mb h₀) (hk : cs.kind = .function)
    (hx : (x, instObj 102 d) ∈ news) (hd : (d, dictOf (ents w.params t v) 5) ∈ news) (hdp : dp + 5 < recursionLimit) (hv : handedIn v.byt = true)
    (ret : ∀ h' tk', Fr h₀ L h' m → News h₀ L h' news → Q v.byt { s with heap := h', toks := tk' }) :
    wpAny (model PySem.Challenge.rw_kn0107_01.row.prog w) (ktrTop dp un gd cn cs L a ccd cl outer) (call (.ref 85) [.ref x]) Q E s := by
  refine wpAny_call ?_
  k_dflt ktr_enter
  k_steps
  all_goals (exact ret _ _ (by k_asm) (by k_asm))
theorem setByt (B : Below A₀ base outer h₀) (F : Fr h₀ L s.heap m) (X : (Mine.hd.heap_39 w.params).In h₀) (N : News h₀ L s.heap news) (T : Top Mine.hd.view_39 (looseW Mine.hd.view_39 []) mean mg mb h₀) (hk : cs.kind = .function) {p : Value}
    (hx : (x, instObj 102 d) ∈ news) (hd : (d, dictOf (ents w.params t v) 5) ∈ news) (hdp : dp + 5 < recursionLimit)
    (ret : ∀ h' tk', Fr h₀ L h' m → News h₀ L h' (upd d (dictOf (ents w.params t { v with byt := p }) 5) news) → Q .none { s with heap := h', toks := tk' }) :
    wpAny (model PySem.Challenge.rw_kn0107_01.row.prog w) (ktrTop dp un gd cn cs L a ccd cl outer) (call (.ref 78) [.ref x, p]) Q E s := by
  refine wpAny_call ?_
  k_dflt ktr_enter
  k_steps
  all_goals (exact ret _ _ (by k_asm) (by k_asm))
theorem getChr (B : Below A₀ base outer h₀) (F : Fr h₀ L s.heap m) (X : (Mine.hd.heap_39 w.params).In h₀) (N : News h₀ L s.heap news) (T : Top Mine.hd.view_39 (looseW Mine.hd.view_39 []) mean mg mb h₀) (hk : cs.kind = .function)
    (hx : (x, instObj 102 d) ∈ news) (hd : (d, dictOf (ents w.params t v) 5) ∈ news) (hdp : dp + 5 < recursionLimit) (hv : handedIn v.chr = true)
    (ret : ∀ h' tk', Fr h₀ L h' m → News h₀ L h' news → Q v.chr { s with heap := h', toks := tk' }) :
    wpAny (model PySem.Challenge.rw_kn0107_01.row.prog w) (ktrTop dp un gd cn cs L a ccd cl outer) (call (.ref 99) [.ref x]) Q E s := by
  refine wpAny_call ?_
  k_dflt ktr_enter
  k_steps
  all_goals (exact ret _ _ (by k_asm) (by k_asm))
theorem setChr (B : Below A₀ base outer h₀) (F : Fr h₀ L s.heap m) (X : (Mine.hd.heap_39 w.params).In h₀) (N : News h₀ L s.heap news) (T : Top Mine.hd.view_39 (looseW Mine.hd.view_39 []) mean mg mb h₀) (hk : cs.kind = .function) {p : Value}
    (hx : (x, instObj 102 d) ∈ news) (hd : (d, dictOf (ents w.params t v) 5) ∈ news) (hdp : dp + 5 < recursionLimit)
    (ret : ∀ h' tk', Fr h₀ L h' m → News h₀ L h' (upd d (dictOf (ents w.params t { v with chr := p }) 5) news) → Q .none { s with heap := h', toks := tk' }) :
    wpAny (model PySem.Challenge.rw_kn0107_01.row.prog w) (ktrTop dp un gd cn cs L a ccd cl outer) (call (.ref 92) [.ref x, p]) Q E s := by
  refine wpAny_call ?_
  k_dflt ktr_enter
  k_steps
  all_goals (exact ret _ _ (by k_asm) (by k_asm))
theorem setSysU (B : Below A₀ base outer h₀) (F : Fr h₀ L s.heap m) (X : (Mine.hd.heap_39 w.params).In h₀) (N : News h₀ L s.heap news) (T : Top Mine.hd.view_39 (looseW Mine.hd.view_39 []) mean mg mb h₀) (hk : cs.kind = .function) {p : Value} {news' : List (Addr × Obj)}
    (hx : (x, instObj 102 d) ∈ news) (hd : (d, dictOf (ents w.params t v) 5) ∈ news) (hdp : dp + 5 < recursionLimit) (U : Upd d (dictOf (ents w.params t v) 5) (dictOf (ents w.params t { v with sys := p }) 5) news news')
    (ret : ∀ h' tk', Fr h₀ L h' m → News h₀ L h' news' → Q .none { s with heap := h', toks := tk' }) :
    wpAny (model PySem.Challenge.rw_kn0107_01.row.prog w) (ktrTop dp un gd cn cs L a ccd cl outer) (call (.ref 50) [.ref x, p]) Q E s := setSys B F X N T hk hx hd hdp fun h' tk' F' N' => ret h' tk' F' (news_updU U N')
theorem setPubU (B : Below A₀ base outer h₀) (F : Fr h₀ L s.heap m) (X : (Mine.hd.heap_39 w.params).In h₀) (N : News h₀ L s.heap news) (T : Top Mine.hd.view_39 (looseW Mine.hd.view_39 []) mean mg mb h₀) (hk : cs.kind = .function) {p : Value} {news' : List (Addr × Obj)}
    (hx : (x, instObj 102 d) ∈ news) (hd : (d, dictOf (ents w.params t v) 5) ∈ news) (hdp : dp + 5 < recursionLimit) (U : Upd d (dictOf (ents w.params t v) 5) (dictOf (ents w.params t { v with pub := p }) 5) news news')
    (ret : ∀ h' tk', Fr h₀ L h' m → News h₀ L h' news' → Q .none { s with heap := h', toks := tk' }) :
    wpAny (model PySem.Challenge.rw_kn0107_01.row.prog w) (ktrTop dp un gd cn cs L a ccd cl outer) (call (.ref 36) [.ref x, p]) Q E s := setPub B F X N T hk hx hd hdp fun h' tk' F' N' => ret h' tk' F' (news_updU U N')
theorem setEncU (B : Below A₀ base outer h₀) (F : Fr h₀ L s.heap m) (X : (Mine.hd.heap_39 w.params).In h₀) (N : News h₀ L s.heap news) (T : Top Mine.hd.view_39 (looseW Mine.hd.view_39 []) mean mg mb h₀) (hk : cs.kind = .function) {p : Value} {news' : List (Addr × Obj)}
    (hx : (x, instObj 102 d) ∈ news) (hd : (d, dictOf (ents w.params t v) 5) ∈ news) (hdp : dp + 5 < recursionLimit) (U : Upd d (dictOf (ents w.params t v) 5) (dictOf (ents w.params t { v with enc := p }) 5) news news')
    (ret : ∀ h' tk', Fr h₀ L h' m → News h₀ L h' news' → Q .none { s with heap := h', toks := tk' }) :
    wpAny (model PySem.Challenge.rw_kn0107_01.row.prog w) (ktrTop dp un gd cn cs L a ccd cl outer) (call (.ref 64) [.ref x, p]) Q E s := setEnc B F X N T hk hx hd hdp fun h' tk' F' N' => ret h' tk' F' (news_updU U N')
theorem setBytU (B : Below A₀ base outer h₀) (F : Fr h₀ L s.heap m) (X : (Mine.hd.heap_39 w.params).In h₀) (N : News h₀ L s.heap news) (T : Top Mine.hd.view_39 (looseW Mine.hd.view_39 []) mean mg mb h₀) (hk : cs.kind = .function) {p : Value} {news' : List (Addr × Obj)}
    (hx : (x, instObj 102 d) ∈ news) (hd : (d, dictOf (ents w.params t v) 5) ∈ news) (hdp : dp + 5 < recursionLimit) (U : Upd d (dictOf (ents w.params t v) 5) (dictOf (ents w.params t { v with byt := p }) 5) news news')
    (ret : ∀ h' tk', Fr h₀ L h' m → News h₀ L h' news' → Q .none { s with heap := h', toks := tk' }) :
    wpAny (model PySem.Challenge.rw_kn0107_01.row.prog w) (ktrTop dp un gd cn cs L a ccd cl outer) (call (.ref 78) [.ref x, p]) Q E s := setByt B F X N T hk hx hd hdp fun h' tk' F' N' => ret h' tk' F' (news_updU U N')
theorem setChrU (B : Below A₀ base outer h₀) (F : Fr h₀ L s.heap m) (X : (Mine.hd.heap_39 w.params).In h₀) (N : News h₀ L s.heap news) (T : Top Mine.hd.view_39 (looseW Mine.hd.view_39 []) mean mg mb h₀) (hk : cs.kind = .function) {p : Value} {news' : List (Addr × Obj)}
    (hx : (x, instObj 102 d) ∈ news) (hd : (d, dictOf (ents w.params t v) 5) ∈ news) (hdp : dp + 5 < recursionLimit) (U : Upd d (dictOf (ents w.params t v) 5) (dictOf (ents w.params t { v with chr := p }) 5) news news')
    (ret : ∀ h' tk', Fr h₀ L h' m → News h₀ L h' news' → Q .none { s with heap := h', toks := tk' }) :
    wpAny (model PySem.Challenge.rw_kn0107_01.row.prog w) (ktrTop dp un gd cn cs L a ccd cl outer) (call (.ref 92) [.ref x, p]) Q E s := setChr B F X N T hk hx hd hdp fun h' tk' F' N' => ret h' tk' F' (news_updU U N')
end

end
section
theorem inst_base {h₀ h : Heap} {L x C d : Addr} {m : Str → Option Value} {od : Obj} (F : Fr h₀ L h m) (hx : h₀.get? x = some (instObj C d)) (hd : h₀.get? d = some od) : InstAt h x (instObj C d) C (some od) :=
  ⟨F.keep _ _ hx, rfl, rfl, F.keep _ _ hd⟩

end
section
local macro_rules | `(tactic| k_inst) => `(tactic| exact inst_base (by k_asm) (by assumption) (by assumption))
local macro_rules | `(tactic| kto_obj) => `(tactic| exact Fr.keep (by k_asm) _ _ (by assumption))
local macro_rules | `(tactic| kto_ne) => `(tactic| assumption)
local macro_rules | `(tactic| walk_at "compareOp IsNot ref ref") => `(tactic| (k_here; refine isnot_ref_same ?_))
section
section
variable {w : World} {mg mb : Str → Option Value} {mean : ExcName → Option Value} {A₀ : Around} {base h₀ : Heap} {outer : List Env} {L : Addr} {m : Str → Option Value} {news : List (Addr × Obj)} {s : Shared}
  {dp un : Nat} {gd : Option (List Code)} {cn : Str} {cs : Scope} {a : Addr} {ccd : Value} {cl : List (Str × Addr)} {Q E : Value → Shared → Prop} {x d : Addr} {t : Nat → Nat} {v : Things}
theorem getChrB (B : Below A₀ base outer h₀) (F : Fr h₀ L s.heap m) (X : (Mine.hd.heap_39 w.params).In h₀) (N : News h₀ L s.heap news) (T : Top Mine.hd.view_39 (looseW Mine.hd.view_39 []) mean mg mb h₀) (hk : cs.kind = .function)
    (hx : h₀.get? x = some (instObj 102 d)) (hd : h₀.get? d = some (dictOf (ents w.params t v) 5)) (hdp : dp + 5 < recursionLimit) {r : Value} (hr : v.chr = r) (hv : handedIn r = true)
    (ret : ∀ h' tk', Fr h₀ L h' m → News h₀ L h' news → Q r { s with heap := h', toks := tk' }) :
    wpAny (model PySem.Challenge.rw_kn0107_01.row.prog w) (ktrTop dp un gd cn cs L a ccd cl outer) (call (.ref 99) [.ref x]) Q E s := by
  revert X; k_fill; intro X
  refine wpAny_call ?_
  k_dflt (refine' code_defG ?k1 ?k2 ?k3 ?k4 ?k5 ?kA ?kF ?kK ?k6 ?k7 ?k8 ?k9 ?kB ?_ ?c2 ?c3 ?c4 ?c5; (case kA => exact rfl); (case kF => exact rfl); (case kK => assumption); (case k1 => k_asm); (case k2 => k_asm); (case k3 => k_asm); (case k4 => assumption); (case k5 => k_asm); (case k6 => k_is); (case k7 => k_is); (case k8 => ktr_room); (case k9 => exact BindsTo.of_eq rfl); (case c5 => decide); (case kB => exact locs rfl); (case c2 => exact rfl); (case c3 => exact rfl); (case c4 => exact rfl); k_whole; intro _ _ _ _ _ _ _ _ _ _; (try dsimp only); (try k_fold))
  rename_i g L1 h1 FG F1 N1 B1 X1 T1 G1
  have hx1 := FG.keep _ _ hx
  have hd1 := FG.keep _ _ hd
  have hv' : handedIn v.chr = true := hr ▸ hv
  k_steps
  all_goals (rw [hr]; exact ret _ _ (by k_asm) (by k_asm))
end

end
section
local macro_rules | `(tactic| walk_at "call ref") => `(tactic| (k_here; k_dflt (refine' getChrB ?B ?F ?X ?N ?T ?hk ?hx ?hd ?hdp ?hr ?hv ?_; (case hk => exact rfl); (case B | F | X | N | T => k_asm); (case hx | hd => assumption); (case hdp => walk_at "room"); (case hr => assumption); (case hv => rfl); k_whole; intro h' tk' F' N'; (try k_sweep))))
local macro_rules | `(tactic| walk_at "exec While BoolOp cons nil") => `(tactic| refine Hold.use ?_)
local macro_rules | `(tactic| walk_at "exec While Compare cons nil") => `(tactic| refine Hold.use ?_)
local macro_rules | `(tactic| walk_at "ite") => `(tactic| walk_at "ite9")
def chrOf (xs : Nat → Addr) : Option Nat → Value
  | none => .none
  | some j => .ref (xs j)
theorem chrOf_ok {xs : Nat → Addr} : ∀ o, handedIn (chrOf xs o) = true
  | none => rfl
  | some _ => rfl
section
variable {w : World} {mg mb : Str → Option Value} {mean : ExcName → Option Value} {A₀ : Around} {base h₀ : Heap} {outer : List Env} {L : Addr} {m : Str → Option Value} {news : List (Addr × Obj)} {s : Shared}
  {dp un : Nat} {gd : Option (List Code)} {cn : Str} {cs : Scope} {a : Addr} {ccd : Value} {cl : List (Str × Addr)} {Q E : Value → Shared → Prop} {x d : Addr} {t : Nat → Nat} {v : Things}
theorem ring (B : Below A₀ base outer h₀) (F : Fr h₀ L s.heap m) (X : (Mine.hd.heap_39 w.params).In h₀) (N : News h₀ L s.heap news) (T : Top Mine.hd.view_39 (looseW Mine.hd.view_39 []) mean mg mb h₀) (hk : cs.kind = .function) {n : Nat} {xs ds : Nat → Addr} {ts : Nat → Nat → Nat} {vs : Nat → Things} {nx : Nat → Option Nat} {k₀ : Nat}
    (hx : ∀ i, i < n → (xs i, instObj 102 (ds i)) ∈ news) (hd : ∀ i, i < n → (ds i, dictOf (ents w.params (ts i) (vs i)) 5) ∈ news) (hch : ∀ i, i < n → (vs i).chr = chrOf xs (nx i))
    (hnx : ∀ i, i < n → ∀ j, nx i = some j → j < n) (hinj : ∀ i, i < n → ∀ j, j < n → xs i = xs j → i = j) (hk₀ : k₀ < n) (hn : n ≤ 40)
    (hdp : dp + 15 < recursionLimit) (hun : un + 200 < cLine)
    (ret : ∀ news' h' tk' l P Z tp tq, Fr h₀ L h' m → News h₀ L h' news' → (∀ p ∈ news, p ∈ news') → (l, ({ cls := .type "tuple", data := .seq #[.int P tp, .int Z tq] } : Obj)) ∈ news' → (∀ p ∈ news, p.1 ≠ l) → (∃ p q : Nat, P = p ∧ Z = q ∧ Way nx k₀ p q) → Q (.ref l) { s with heap := h', toks := tk' }) :
    wpAny (model PySem.Challenge.rw_kn0107_01.row.prog w) (ktrTop dp un gd cn cs L a ccd cl outer) (call (.ref 113) [.ref (xs k₀)]) Q E s := by
  revert X; k_fill; intro X
  have N₀ : News h₀ L s.heap [] := News.nil
  refine wpAny_call ?_
  k_dflt (refine' code_defG ?k1 ?k2 ?k3 ?k4 ?k5 ?kA ?kF ?kK ?k6 ?k7 ?k8 ?k9 ?kB ?_ ?c2 ?c3 ?c4 ?c5; (case kA => exact rfl); (case kF => exact rfl); (case kK => assumption); (case k1 => k_asm); (case k2 => k_asm); (case k3 => k_asm); (case k4 => assumption); (case k5 => k_asm); (case k6 => k_is); (case k7 => k_is); (case k8 => ktr_room); (case k9 => exact BindsTo.of_eq rfl); (case c5 => decide); (case kB => exact locs rfl); (case c2 => exact rfl); (case c3 => exact rfl); (case c4 => exact rfl); k_whole; intro _ _ _ _ _ _ _ _ _ _; (try dsimp only); (try k_fold))
  rename_i g L1 h1 FG F1 N1 B1 X1 T1 G1
  have hx1 : ∀ i, i < n → g.get? (xs i) = some (instObj 102 (ds i)) := fun i hi => G1 _ _ (N _ (hx i hi)).1 (by simp)
  have hd1 : ∀ i, i < n → g.get? (ds i) = some (dictOf (ents w.params (ts i) (vs i)) 5) := fun i hi => G1 _ _ (N _ (hd i hi)).1 (by simp)
  obtain ⟨u1, F2⟩ := fr_kst [(Str.ofString "start", Value.ref (xs k₀))] F1 (by
    intro p hp; rw [List.mem_singleton.mp hp]; with_unfolding_all rfl)
  clear F1
  k_steps
  rename_i D0 _ _ _ _ _ _ F3 N3
  obtain ⟨T, hT1, hT⟩ := meets hnx hk₀
  obtain ⟨u2, F4⟩ := fr_kst [(Str.ofString "start", Value.ref (xs k₀)), (Str.ofString "slow", Value.ref (xs k₀)), (Str.ofString "fast", Value.ref (xs k₀)), (Str.ofString "steps", Value.int 0 _)] F3 (by
    intro p hp; simp only [List.mem_cons, List.not_mem_nil, or_false] at hp; rcases hp with rfl | rfl | rfl | rfl <;> with_unfolding_all rfl)
  clear F3 N3
  refine ⟨While_inv2 (fun k m₁ _ => ∃ (t i j : Nat) (z : Int) (tok : Nat), k = T - t ∧ t ≤ T ∧ itr nx k₀ t = some i ∧ itr nx k₀ (2 * t) = some j ∧ z = 2 * (t : Int) ∧ ∀ p ∈ [(Str.ofString "start", Value.ref (xs k₀)), (Str.ofString "slow", Value.ref (xs i)), (Str.ofString "fast", Value.ref (xs j)), (Str.ofString "steps", Value.int z tok)], m₁ p.1 = some p.2) (n₀ := T) F4 News.nil ?_ ?_⟩
  · exact ⟨0, k₀, k₀, 0, _, rfl, Nat.zero_le _, rfl, rfl, rfl, by intro p hp; simp only [List.mem_cons, List.not_mem_nil, or_false] at hp; rcases hp with rfl | rfl | rfl | rfl <;> with_unfolding_all rfl⟩
  · rintro k m₁ news₁ h₂ tk₂ FT _ ⟨t, i, j, z, tok, hk, htT, hi, hj, hz, hm⟩
    obtain ⟨u3, F5⟩ := fr_kst _ FT hm
    have N5 : News g L1 h₂ [] := News.nil
    clear FT hm F4
    have hin := itr_lt hnx hk₀ t i hi
    have hjn := itr_lt hnx hk₀ (2 * t) j hj
    have hxi := hx1 i hin
    have hdi := hd1 i hin
    have hxj := hx1 j hjn
    have hdj := hd1 j hjn
    by_cases hstop : 1 ≤ t ∧ i = j
    · obtain ⟨ht1, rfl⟩ := hstop
      have hz1 : 2 ≤ z := by omega
      have nn : ∀ k, itr nx k₀ k ≠ none := never_none (i := t) (j := 2 * t) (by omega) (by rw [hi, hj]) (by rw [hi]; simp)
      have sm : ∀ k, ∃ x, itr nx k₀ k = some x ∧ x < n := fun k => by
        cases e : itr nx k₀ k with
        | none => exact absurd e (nn k)
        | some x => exact ⟨x, rfl, itr_lt hnx hk₀ k x e⟩
      k_steps
      rename Fr _ _ _ _ => F6
      obtain ⟨u4, F7⟩ := fr_kst [(Str.ofString "slow", Value.ref (xs i)), (Str.ofString "one", Value.ref (xs k₀)), (Str.ofString "ahead", Value.int 0 _)] F6 (by
        intro p hp; simp only [List.mem_cons, List.not_mem_nil, or_false] at hp; rcases hp with rfl | rfl | rfl <;> with_unfolding_all rfl)
      clear F6
      refine ⟨While_inv2 (fun k m₁ _ => ∃ (c i2 j2 : Nat) (za : Int) (tok2 : Nat), k = t - c ∧ c ≤ t ∧ itr nx k₀ c = some i2 ∧ itr nx k₀ (t + c) = some j2 ∧ za = c ∧ (∀ c', c' < c → itr nx k₀ c' ≠ itr nx k₀ (t + c')) ∧ ∀ p ∈ [(Str.ofString "slow", Value.ref (xs j2)), (Str.ofString "one", Value.ref (xs i2)), (Str.ofString "ahead", Value.int za tok2)], m₁ p.1 = some p.2) (n₀ := t) F7 News.nil ?_ ?_⟩
      · exact ⟨0, k₀, i, 0, _, rfl, Nat.zero_le _, rfl, hi, rfl, fun c' h => absurd h (Nat.not_lt_zero _), by intro p hp; simp only [List.mem_cons, List.not_mem_nil, or_false] at hp; rcases hp with rfl | rfl | rfl <;> with_unfolding_all rfl⟩
      · rintro k2 m₂ news₂ h₃ tk₃ FT _ ⟨c, i2, j2, za, tok2, hk2, hct, hi2, hj2, hza, hlow, hm⟩
        obtain ⟨u5, F8⟩ := fr_kst _ FT hm
        have N8 : News g L1 h₃ [] := News.nil
        clear FT hm F7
        have hin2 := itr_lt hnx hk₀ _ i2 hi2
        have hjn2 := itr_lt hnx hk₀ _ j2 hj2
        have hxi2 := hx1 i2 hin2
        have hdi2 := hd1 i2 hin2
        have hxj2 := hx1 j2 hjn2
        have hdj2 := hd1 j2 hjn2
        obtain ⟨j3, hj3, hjn3⟩ := sm (t + c + 1)
        have ej2 : nx j2 = some j3 := (itr_succ hj2).symm.trans hj3
        have hrj2 : (vs j2).chr = Value.ref (xs j3) := by rw [hch j2 hjn2, ej2]; rfl
        by_cases hij2 : i2 = j2
        · subst hij2
          k_steps
          rename Fr _ _ _ _ => F9
          obtain ⟨u6, F10⟩ := fr_kst [(Str.ofString "slow", Value.ref (xs i2)), (Str.ofString "ahead", Value.int za tok2), (Str.ofString "one", Value.ref (xs j3)), (Str.ofString "length", Value.int 1 _)] F9 (by
            intro p hp; simp only [List.mem_cons, List.not_mem_nil, or_false] at hp; rcases hp with rfl | rfl | rfl | rfl <;> with_unfolding_all rfl)
          clear F9
          refine ⟨While_inv2 (fun k m₁ _ => ∃ (l i3 : Nat) (zl : Int) (tok3 : Nat), k = t - l ∧ 1 ≤ l ∧ l ≤ t ∧ itr nx k₀ (t + c + l) = some i3 ∧ zl = l ∧ (∀ l', 1 ≤ l' → l' < l → itr nx k₀ (t + c + l') ≠ itr nx k₀ (t + c)) ∧ ∀ p ∈ [(Str.ofString "slow", Value.ref (xs i2)), (Str.ofString "ahead", Value.int za tok2), (Str.ofString "one", Value.ref (xs i3)), (Str.ofString "length", Value.int zl tok3)], m₁ p.1 = some p.2) (n₀ := t - 1) F10 News.nil ?_ ?_⟩
          · exact ⟨1, j3, 1, _, rfl, Nat.le_refl _, ht1, hj3, rfl, fun l' h h' => absurd h' (by omega), by intro p hp; simp only [List.mem_cons, List.not_mem_nil, or_false] at hp; rcases hp with rfl | rfl | rfl | rfl <;> with_unfolding_all rfl⟩
          · rintro k3 m₃ news₃ h₄ tk₄ FT _ ⟨l, i3, zl, tok3, hk3, hl1, hlt, hi3, hzl, hlow3, hm⟩
            obtain ⟨u7, F11⟩ := fr_kst _ FT hm
            have N11 : News g L1 h₄ [] := News.nil
            clear FT hm F10
            have hin3 := itr_lt hnx hk₀ _ i3 hi3
            have hxi3 := hx1 i3 hin3
            have hdi3 := hd1 i3 hin3
            obtain ⟨i4, hi4, hin4⟩ := sm (t + c + l + 1)
            have ei3 : nx i3 = some i4 := (itr_succ hi3).symm.trans hi4
            have hri3 : (vs i3).chr = Value.ref (xs i4) := by rw [hch i3 hin3, ei3]; rfl
            by_cases hij3 : i3 = i2
            · subst hij3
              k_steps
              all_goals (
                rename GSub _ _ _ => kG
                rename Fr _ _ _ _ => kF
                rename News h₀ _ _ _ => kN
                rename News g _ _ _ => gN
                refine ret _ _ _ _ _ _ _ _ (by assumption) (news_rest kG N (by assumption) kN) (fun p hp => mem_rest hp (by simp)) (List.mem_append_left _ (by k_mem)) (news_apart kG N (gN _ (by k_mem)).2.2 (by simp)) ?_
                exact ⟨c, l, hza, hzl, way_ring ht1 nn (by rw [hi2, hj2]) hlow hl1 (by rw [hi3, hj2]) hlow3⟩)
            · have hne3 : @Ne Nat (xs i3) (xs i2) := fun e => hij3 (hinj i3 hin3 i2 hin2 e)
              have hlt' : l < t := by
                rcases Nat.lt_or_ge l t with q | q
                · exact q
                · have e : l = t := by omega
                  subst e
                  have h2 := itr_shift (nx := nx) (a := k₀) (i := l) (j := 2 * l) (by rw [hi, hj]) c
                  rw [show 2 * l + c = l + c + l by omega, hi3, hj2] at h2
                  exact absurd (Option.some.inj h2).symm hij3
              k_steps
              all_goals (
                rename Fr _ _ _ _ => kF
                refine ⟨_, _, _, [], t - (l + 1), rfl, kF, News.nil, sub_dec hk3 hlt', l + 1, i4, zl + 1, _, rfl, by omega, by omega, hi4, by omega, ?_, by intro p hp; simp only [List.mem_cons, List.not_mem_nil, or_false] at hp; rcases hp with rfl | rfl | rfl | rfl <;> with_unfolding_all rfl⟩
                · intro l' h1 h2
                  rcases Nat.lt_or_ge l' l with q | q
                  · exact hlow3 l' h1 q
                  · have e : l' = l := by omega
                    subst e
                    rw [hi3, hj2]
                    exact fun e => hij3 (Option.some.inj e))
        · have hne2 : @Ne Nat (xs i2) (xs j2) := fun e => hij2 (hinj i2 hin2 j2 hjn2 e)
          have hct' : c < t := by
            rcases Nat.lt_or_ge c t with q | q
            · exact q
            · have e : c = t := by omega
              subst e
              rw [show c + c = 2 * c by omega, hj] at hj2
              rw [hi] at hi2
              exact absurd ((Option.some.inj hi2).symm.trans (Option.some.inj hj2)) hij2
          obtain ⟨i3, hi3, hin3⟩ := sm (c + 1)
          have ei2 : nx i2 = some i3 := (itr_succ hi2).symm.trans hi3
          have hri2 : (vs i2).chr = Value.ref (xs i3) := by rw [hch i2 hin2, ei2]; rfl
          k_steps
          all_goals (
            rename Fr _ _ _ _ => kF
            refine ⟨_, _, _, [], t - (c + 1), rfl, kF, News.nil, sub_dec hk2 hct', c + 1, i3, j3, za + 1, _, rfl, by omega, hi3, hj3, by omega, ?_, by intro p hp; simp only [List.mem_cons, List.not_mem_nil, or_false] at hp; rcases hp with rfl | rfl | rfl <;> with_unfolding_all rfl⟩
            · intro c' h1
              rcases Nat.lt_or_ge c' c with q | q
              · exact hlow c' q
              · have e : c' = c := by omega
                subst e
                rw [hi2, hj2]
                exact fun e => hij2 (Option.some.inj e))
    · have hlt : t < T := by
        rcases Nat.lt_or_ge t T with q | q
        · exact q
        · have e : t = T := by omega
          subst e
          rcases hT with q | q
          · rw [hj] at q; cases q
          · rw [hi, hj] at q; exact absurd ⟨hT1, Option.some.inj q⟩ hstop
      have htest : t = 0 ∧ z = 0 ∨ 2 ≤ z ∧ @Ne Nat (xs i) (xs j) := by
        by_cases ht0 : t = 0
        · exact .inl ⟨ht0, by omega⟩
        · exact .inr ⟨by omega, fun e => hstop ⟨by omega, hinj i hin j hjn e⟩⟩
      have hfew : ∀ k, k < 2 * t + 1 → itr nx k₀ k ≠ none := fun k hk e => by
        have := itr_none e (2 * t - k)
        rw [show k + (2 * t - k) = 2 * t by omega, hj] at this
        cases this
      have e0 := itr_succ hj
      cases e1 : nx j with
      | none =>
        have hrj : (vs j).chr = Value.none := by rw [hch j hjn, e1]; rfl
        rcases htest with ⟨ht0, hz0⟩ | ⟨hz1, hne⟩
        all_goals (
          k_steps
          dsimp only [WhileStep2]
          k_steps
          all_goals (
            rename GSub _ _ _ => kG
            rename Fr _ _ _ _ => kF
            rename News h₀ _ _ _ => kN
            rename News g _ _ _ => gN
            refine ret _ _ _ _ _ _ _ _ (by assumption) (news_rest kG N (by assumption) kN) (fun p hp => mem_rest hp (by simp)) (List.mem_append_left _ (by k_mem)) (news_apart kG N (gN _ (by k_mem)).2.2 (by simp)) ?_
            exact ⟨2 * t + 1, 0, by omega, rfl, .inl ⟨rfl, by rw [e0, e1], hfew⟩⟩))
      | some j1 =>
        have hjn1 := hnx j hjn j1 e1
        have hrj : (vs j).chr = Value.ref (xs j1) := by rw [hch j hjn, e1]; rfl
        have hxj1 := hx1 j1 hjn1
        have hdj1 := hd1 j1 hjn1
        have hj1 : itr nx k₀ (2 * t + 1) = some j1 := by rw [e0, e1]
        have e2' := itr_succ hj1
        have hfew2 : ∀ k, k < 2 * t + 2 → itr nx k₀ k ≠ none := fun k hk e => by
          have := itr_none e (2 * t + 1 - k)
          rw [show k + (2 * t + 1 - k) = 2 * t + 1 by omega, hj1] at this
          cases this
        cases e2 : nx j1 with
        | none =>
          have hrj1 : (vs j1).chr = Value.none := by rw [hch j1 hjn1, e2]; rfl
          rcases htest with ⟨ht0, hz0⟩ | ⟨hz1, hne⟩
          all_goals (
            k_steps
            dsimp only [WhileStep2]
            k_steps
            all_goals (
              rename GSub _ _ _ => kG
              rename Fr _ _ _ _ => kF
              rename News h₀ _ _ _ => kN
              rename News g _ _ _ => gN
              refine ret _ _ _ _ _ _ _ _ (by assumption) (news_rest kG N (by assumption) kN) (fun p hp => mem_rest hp (by simp)) (List.mem_append_left _ (by k_mem)) (news_apart kG N (gN _ (by k_mem)).2.2 (by simp)) ?_
              exact ⟨2 * t + 2, 0, by omega, rfl, .inl ⟨rfl, by rw [e2', e2], hfew2⟩⟩))
        | some j2 =>
          have hrj1 : (vs j1).chr = Value.ref (xs j2) := by rw [hch j1 hjn1, e2]; rfl
          have hj2 : itr nx k₀ (2 * (t + 1)) = some j2 := by rw [show 2 * (t + 1) = 2 * t + 1 + 1 by omega, e2', e2]
          obtain ⟨i1, ei⟩ : ∃ i1, nx i = some i1 := by
            cases ei : nx i with
            | some i1 => exact ⟨i1, rfl⟩
            | none =>
              have h1 := itr_succ hi
              rw [ei] at h1
              exact absurd h1 (hfew2 (t + 1) (by omega))
          have hi1 : itr nx k₀ (t + 1) = some i1 := by rw [itr_succ hi, ei]
          have hri : (vs i).chr = Value.ref (xs i1) := by rw [hch i hin, ei]; rfl
          rcases htest with ⟨ht0, hz0⟩ | ⟨hz1, hne⟩
          all_goals (
            k_steps
            all_goals (
              rename Fr _ _ _ _ => kF
              exact ⟨_, _, _, [], T - (t + 1), rfl, kF, News.nil, sub_dec hk hlt, t + 1, i1, j2, z + 1 + 1, _, rfl, by omega, hi1, hj2, by omega, by intro p hp; simp only [List.mem_cons, List.not_mem_nil, or_false] at hp; rcases hp with rfl | rfl | rfl | rfl <;> with_unfolding_all rfl⟩))
end

end
end
local macro_rules | `(tactic| walk_at "gets") => `(tactic| ((first | refine' getSys ?B ?F ?X ?N ?T ?hk ?hx ?hd ?hdp ?hv ?_ | refine' getPub ?B ?F ?X ?N ?T ?hk ?hx ?hd ?hdp ?hv ?_ | refine' getEnc ?B ?F ?X ?N ?T ?hk ?hx ?hd ?hdp ?hv ?_ | refine' getByt ?B ?F ?X ?N ?T ?hk ?hx ?hd ?hdp ?hv ?_ | refine' getChr ?B ?F ?X ?N ?T ?hk ?hx ?hd ?hdp ?hv ?_); (case hk => exact rfl); (case B | F | X | N | T => k_asm); (case hx | hd => k_mem); (case hdp => walk_at "room"); (case hv => first | assumption | rfl); k_whole; intro h' tk' F' N'; (try dsimp only at N'); (try simp only [upd_upd] at N'); (try k_sweep)))
local macro_rules | `(tactic| walk_at "setsU") => `(tactic| ((first | refine' setSysU ?B ?F ?X ?N ?T ?hk ?hx ?hd ?hdp ?U ?_ | refine' setPubU ?B ?F ?X ?N ?T ?hk ?hx ?hd ?hdp ?U ?_ | refine' setEncU ?B ?F ?X ?N ?T ?hk ?hx ?hd ?hdp ?U ?_ | refine' setBytU ?B ?F ?X ?N ?T ?hk ?hx ?hd ?hdp ?U ?_ | refine' setChrU ?B ?F ?X ?N ?T ?hk ?hx ?hd ?hdp ?U ?_); (case hk => exact rfl); (case B | F | X | N | T => k_asm); (case hx | hd => k_mem); (case hdp => walk_at "room"); (case U => k_upd); k_whole; intro h' tk' F' N'; (try dsimp only at N'); (try simp only [upd_upd] at N'); (try k_sweep)))
local macro_rules | `(tactic| walk_at "sets") => `(tactic| ((first | refine' setSys ?B ?F ?X ?N ?T ?hk ?hx ?hd ?hdp ?_ | refine' setPub ?B ?F ?X ?N ?T ?hk ?hx ?hd ?hdp ?_ | refine' setEnc ?B ?F ?X ?N ?T ?hk ?hx ?hd ?hdp ?_ | refine' setByt ?B ?F ?X ?N ?T ?hk ?hx ?hd ?hdp ?_ | refine' setChr ?B ?F ?X ?N ?T ?hk ?hx ?hd ?hdp ?_); (case hk => exact rfl); (case B | F | X | N | T => k_asm); (case hx | hd => k_mem); (case hdp => walk_at "room"); k_whole; intro h' tk' F' N'; (try dsimp only at N'); (try simp only [upd_upd] at N'); (try k_sweep)))
section
local macro_rules | `(tactic| walk_at "call ref") => `(tactic| (k_here; k_dflt (first | walk_at "gets" | walk_at "setsU" | walk_at "sets")))
section
section
variable {w : World} {mg mb : Str → Option Value} {mean : ExcName → Option Value} {A₀ : Around} {base h₀ : Heap} {outer : List Env} {L : Addr} {m : Str → Option Value} {news : List (Addr × Obj)} {s : Shared}
  {dp un : Nat} {gd : Option (List Code)} {cn : Str} {cs : Scope} {a : Addr} {ccd : Value} {cl : List (Str × Addr)} {Q E : Value → Shared → Prop} {x d : Addr} {t : Nat → Nat} {v : Things}
theorem told (B : Below A₀ base outer h₀) (F : Fr h₀ L s.heap m) (X : (Mine.hd.heap_39 w.params).In h₀) (N : News h₀ L s.heap news) (T : Top Mine.hd.view_39 (looseW Mine.hd.view_39 []) mean mg mb h₀) (hk : cs.kind = .function)
    (hx : (x, instObj 102 d) ∈ news) (hd : (d, dictOf (ents w.params t v) 5) ∈ news) (hdp : dp + 10 < recursionLimit) (hv : v.Ok)
    (ret : ∀ l h' tk', Fr h₀ L h' m → News h₀ L h' ((l, W.listOf [v.sys, v.pub, v.enc, v.byt, v.chr].toArray 0) :: news) → (∀ p ∈ news, p.1 < l) → Q (.ref l) { s with heap := h', toks := tk' }) :
    wpAny (model PySem.Challenge.rw_kn0107_01.row.prog w) (ktrTop dp un gd cn cs L a ccd cl outer) (call (.ref 127) [.ref x]) Q E s := by
  obtain ⟨hv1, hv2, hv3, hv4, hv5⟩ := hv
  revert X; k_fill; intro X
  refine wpAny_call ?_
  k_dflt ktr_enter
  k_steps

  all_goals (exact ret _ _ _ (by k_asm) (by k_asm) (by assumption))
end

end
end
local macro_rules | `(tactic| walk_at "told") => `(tactic| (refine' told ?B ?F ?X ?N ?T ?hk ?hx ?hd ?hdp ?hv ?_; (case hk => exact rfl); (case B | F | X | N | T => k_asm); (case hx | hd => k_mem); (case hdp => walk_at "room"); (case hv => first | assumption | (constructor <;> first | assumption | rfl)); k_whole; intro l' h' tk' F' N' l1; (try k_lt l1); (try k_sweep)))
section
local macro_rules | `(tactic| k_lt $h:ident) => `(tactic| (replace $h := allLt_of $h; dsimp only [AllLt] at $h:ident))
local macro_rules | `(tactic| walk_at "call ref") => `(tactic| (k_here; k_dflt (first | walk_at "gets" | walk_at "setsU" | walk_at "sets")))
local macro_rules | `(tactic| k_mem) => `(tactic| walk_at "mem9")
local macro_rules | `(tactic| walk_at "call ref") => `(tactic| (k_here; k_dflt (walk_at "told")))
section
section
variable {w : World} {mg mb : Str → Option Value} {mean : ExcName → Option Value} {A₀ : Around} {base h₀ : Heap} {outer : List Env} {L : Addr} {m : Str → Option Value} {news : List (Addr × Obj)} {s : Shared}
  {dp un : Nat} {gd : Option (List Code)} {cn : Str} {cs : Scope} {a : Addr} {ccd : Value} {cl : List (Str × Addr)} {Q E : Value → Shared → Prop} {x d : Addr} {t : Nat → Nat} {v : Things}
abbrev nones : Things := ⟨.none, .none, .none, .none, .none⟩
theorem washed (B : Below A₀ base outer h₀) (F : Fr h₀ L s.heap m) (X : (Mine.hd.heap_39 w.params).In h₀) (N : News h₀ L s.heap news) (T : Top Mine.hd.view_39 (looseW Mine.hd.view_39 []) mean mg mb h₀) (hk : cs.kind = .function)
    (hx : (x, instObj 102 d) ∈ news) (hd : (d, dictOf (ents w.params t v) 5) ∈ news) (hdp : dp + 15 < recursionLimit) (hun : un + 200 < cLine) (hv : v.Ok) (hxd : @Ne Nat x d)
    (ret : ∀ news' h' tk', Fr h₀ L h' m → News h₀ L h' news' → (∀ p ∈ news, p.1 ≠ d → p ∈ news') → (d, dictOf (ents w.params t nones) 5) ∈ news' → Q (.bool true) { s with heap := h', toks := tk' }) :
    wpAny (model PySem.Challenge.rw_kn0107_01.row.prog w) (ktrTop dp un gd cn cs L a ccd cl outer) (call (.ref 134) [.ref x]) Q E s := by
  revert X; k_fill; intro X
  have N₀ : News h₀ L s.heap [(x, instObj 102 d), (d, dictOf (ents w.params t v) 5)] := news_sub N (by intro p hp; simp only [List.mem_cons, List.not_mem_nil, or_false] at hp; rcases hp with rfl | rfl <;> assumption)
  refine wpAny_call ?_
  k_dflt (refine' code_defG ?k1 ?k2 ?k3 ?k4 ?k5 ?kA ?kF ?kK ?k6 ?k7 ?k8 ?k9 ?kB ?_ ?c2 ?c3 ?c4 ?c5; (case kA => exact rfl); (case kF => exact rfl); (case kK => assumption); (case k1 => k_asm); (case k2 => k_asm); (case k3 => k_asm); (case k4 => assumption); (case k5 => k_asm); (case k6 => k_is); (case k7 => k_is); (case k8 => ktr_room); (case k9 => exact BindsTo.of_eq rfl); (case c5 => decide); (case kB => exact locs rfl); (case c2 => exact rfl); (case c3 => exact rfl); (case c4 => exact rfl); k_whole; intro _ _ _ _ _ _ _ _ _ _; (try dsimp only); (try k_fold))
  k_steps
  all_goals (
    rename GSub _ _ _ => kG
    rename Fr _ _ _ _ => kF
    rename News _ _ _ _ => kN
    refine ret _ _ _ (by assumption) (news_rest kG N (by assumption) kN) (rest_all N ?_ ?_) (List.mem_append_left _ (by k_mem))
    · intro q hq; simp only [List.mem_cons, List.not_mem_nil, or_false] at hq; rcases hq with rfl | rfl <;> assumption
    · intro q hq hqd; simp only [List.mem_cons, List.not_mem_nil, or_false] at hq; rcases hq with rfl | rfl
      · k_mem
      · exact absurd rfl hqd)
end

end
section
local macro_rules | `(tactic| walk_at "pyIter ref") => `(tactic| refine Hold.use ?_)
local macro_rules | `(tactic| walk_at "exec While") => `(tactic| refine Hold.use ?_)
local macro_rules | `(tactic| walk_at "exec For Name Call cons nil") => `(tactic| walk_at "for9")
local macro_rules | `(tactic| walk_at "exec For Name Name cons nil") => `(tactic| walk_at "for9")
section
section
variable {w : World} {mg mb : Str → Option Value} {mean : ExcName → Option Value} {A₀ : Around} {base h₀ : Heap} {outer : List Env} {L : Addr} {m : Str → Option Value} {news : List (Addr × Obj)} {s : Shared}
  {dp un : Nat} {gd : Option (List Code)} {cn : Str} {cs : Scope} {a : Addr} {ccd : Value} {cl : List (Str × Addr)} {Q E : Value → Shared → Prop} {x d : Addr} {t : Nat → Nat} {v : Things}
theorem again (B : Below A₀ base outer h₀) (F : Fr h₀ L s.heap m) (X : (Mine.hd.heap_39 w.params).In h₀) (N : News h₀ L s.heap news) (T : Top Mine.hd.view_39 (looseW Mine.hd.view_39 []) mean mg mb h₀) (hk : cs.kind = .function) {i : Int} {ti : Nat}
    (hx : (x, instObj 102 d) ∈ news) (hd : (d, dictOf (ents w.params t v) 5) ∈ news) (hdp : dp + 15 < recursionLimit) (hun : un + 200 < cLine) (hv : v.Ok) (hxd : @Ne Nat x d) (hi : 0 ≤ i ∧ i < 10)
    (ret : ∀ news' h' tk' l its cap, Fr h₀ L h' m → News h₀ L h' news' → (∀ p ∈ news, p ∈ news') → (l, W.listOf its cap) ∈ news' → its.toList = List.replicate 5 Value.none → (∀ p ∈ news, p.1 ≠ l) → Q (.ref l) { s with heap := h', toks := tk' }) :
    wpAny (model PySem.Challenge.rw_kn0107_01.row.prog w) (ktrTop dp un gd cn cs L a ccd cl outer) (call (.ref 141) [.ref x, .int i ti]) Q E s := by
  revert X; k_fill; intro X
  have N₀ : News h₀ L s.heap [(x, instObj 102 d), (d, dictOf (ents w.params t v) 5)] := news_sub N (by intro p hp; simp only [List.mem_cons, List.not_mem_nil, or_false] at hp; rcases hp with rfl | rfl <;> assumption)
  refine wpAny_call ?_
  k_dflt (refine' code_defG ?k1 ?k2 ?k3 ?k4 ?k5 ?kA ?kF ?kK ?k6 ?k7 ?k8 ?k9 ?kB ?_ ?c2 ?c3 ?c4 ?c5; (case kA => exact rfl); (case kF => exact rfl); (case kK => assumption); (case k1 => k_asm); (case k2 => k_asm); (case k3 => k_asm); (case k4 => assumption); (case k5 => k_asm); (case k6 => k_is); (case k7 => k_is); (case k8 => ktr_room); (case k9 => exact BindsTo.of_eq rfl); (case c5 => decide); (case kB => exact locs rfl); (case c2 => exact rfl); (case c3 => exact rfl); (case c4 => exact rfl); k_whole; intro _ _ _ _ _ _ _ _ _ _; (try dsimp only); (try k_fold))
  k_steps
  rename_i lT _ _ _ lA _ _ _ _ _ _ _ _ _ _ _ _ _ _ _ R F5 N5 _
  obtain ⟨u, F6⟩ := fr_kst [(Str.ofString "source", Value.ref x), (Str.ofString "turn", Value.int i ti), (Str.ofString "things", Value.ref lT), (Str.ofString "answers", Value.ref lA)] F5 (by
    intro p hp; simp only [List.mem_cons, List.not_mem_nil, or_false] at hp; rcases hp with rfl | rfl | rfl | rfl <;> with_unfolding_all rfl)
  clear F5
  refine ⟨iter_rangeJ (fun j m₁ news₁ => (∀ p ∈ [(Str.ofString "source", Value.ref x), (Str.ofString "turn", Value.int i ti), (Str.ofString "things", Value.ref lT), (Str.ofString "answers", Value.ref lA)], m₁ p.1 = some p.2) ∧ (x, instObj 102 d) ∈ news₁ ∧ (d, dictOf (ents w.params t v) 5) ∈ news₁ ∧ (lT, W.listOf [v.sys, v.pub, v.enc, v.byt, v.chr].toArray 0) ∈ news₁ ∧ ∃ its cap, (lA, W.listOf its cap) ∈ news₁ ∧ its.toList = List.replicate j Value.none) (n := 5) rfl R (by decide) (by decide) F6 N5 ?_ ?_ ?_⟩
  · refine ⟨?_, by k_mem, by k_mem, by k_mem, #[], 0, by k_mem, rfl⟩
    intro p hp; simp only [List.mem_cons, List.not_mem_nil, or_false] at hp; rcases hp with rfl | rfl | rfl | rfl <;> with_unfolding_all rfl
  · rintro j tj m₁ news₁ h₁ tk₁ I oI hj hoI ⟨hm, hxm, hdm, hTm, its, cap, hAm, hits⟩ hoff FT NT
    rw [Int.zero_add] at FT
    have N7 : News _ _ h₁ [(I, oI), (lA, W.listOf its cap), (lT, W.listOf [v.sys, v.pub, v.enc, v.byt, v.chr].toArray 0), (x, instObj 102 d), (d, dictOf (ents w.params t v) 5)] := news_sub NT (by
      intro p hp; simp only [List.mem_cons, List.not_mem_nil, or_false] at hp
      rcases hp with rfl | rfl | rfl | rfl | rfl
      · exact .head _
      all_goals exact .tail _ (by assumption))
    obtain ⟨u', F7⟩ := fr_kst [(Str.ofString "k", Value.int j tj), (Str.ofString "source", Value.ref x), (Str.ofString "turn", Value.int i ti), (Str.ofString "things", Value.ref lT), (Str.ofString "answers", Value.ref lA)] FT (by
      intro p hp; rcases List.mem_cons.mp hp with rfl | hp
      · exact if_pos rfl
      · have := hm p hp
        simp only [List.mem_cons, List.not_mem_nil, or_false] at hp; rcases hp with rfl | rfl | rfl | rfl <;> exact this)
    have nA : @Ne Nat I lA := fun e => hoff _ hAm e.symm
    have nT : @Ne Nat I lT := fun e => hoff _ hTm e.symm
    have nx : @Ne Nat I x := fun e => hoff _ hxm e.symm
    have nd : @Ne Nat I d := fun e => hoff _ hdm e.symm
    have hsz : its.size = j := by rw [← Array.length_toList, hits, List.length_replicate]
    clear FT NT N5 F6 R hoff
    k_steps
    all_goals (
      rename Fr _ _ _ _ => FE
      rename News _ _ _ _ => NE
      refine ⟨_, _, _, _, rfl, FE, NE, ?_, ?_, mem_off (by k_mem) (Ne.symm nx), mem_off (by k_mem) (Ne.symm nd), mem_off (by k_mem) (Ne.symm nT), its.push Value.none, cap + 1, mem_off (by k_mem) (Ne.symm nA), ?_⟩
      · intro p hp
        rw [List.mem_singleton.mp hp]; k_mem
      · intro p hp; simp only [List.mem_cons, List.not_mem_nil, or_false] at hp; rcases hp with rfl | rfl | rfl | rfl <;> with_unfolding_all rfl
      · rw [Array.toList_push, hits, List.replicate_succ'])
  · rintro m₁ news₁ h₁ tk₁ ⟨hm, hxm, hdm, hTm, its, cap, hAm, hits⟩ FT NT
    have N7 : News _ _ h₁ [(lA, W.listOf its cap), (x, instObj 102 d), (d, dictOf (ents w.params t v) 5)] := news_sub NT (by
      intro p hp; simp only [List.mem_cons, List.not_mem_nil, or_false] at hp
      rcases hp with rfl | rfl | rfl
      all_goals assumption)
    obtain ⟨u', F7⟩ := fr_kst _ FT hm
    clear FT NT N5 F6 R
    have gA := (N7 _ (List.mem_cons_self)).2.2
    dsimp only
    k_steps
    all_goals (
      rename GSub _ _ _ => kG
      rename Fr _ _ _ _ => kF
      rename News _ _ _ _ => kN
      refine ret _ _ _ _ its cap (by assumption) (news_rest kG N (by assumption) kN) (fun p hp => ?_) (List.mem_append_left _ (by k_mem)) hits (news_apart kG N gA ?_)
      · by_cases hd' : p.1 = d
        · have h1 := (N p hp).1
          rw [hd', (N _ hd).1] at h1
          have e : p = (d, dictOf (ents w.params t v) 5) := Prod.ext hd' (Option.some.inj h1).symm
          rw [e]; exact List.mem_append_left _ (by k_mem)
        · refine rest_all N ?_ ?_ p hp hd'
          · intro q hq; simp only [List.mem_cons, List.not_mem_nil, or_false] at hq; rcases hq with rfl | rfl <;> assumption
          · intro q hq hqd; simp only [List.mem_cons, List.not_mem_nil, or_false] at hq; rcases hq with rfl | rfl
            · k_mem
            · exact absurd rfl hqd
      · intro q hq; simp only [List.mem_cons, List.not_mem_nil, or_false] at hq; rcases hq with rfl | rfl
        all_goals (refine neN ?_; (try dsimp only); omega))
end

end
end
end
local macro_rules | `(tactic| k_mem) => `(tactic| walk_at "mem9")
local macro_rules | `(tactic| walk_at "subscriptTail Name Subscript ref int") => `(tactic| walk_at "item9")
local macro_rules | `(tactic| walk_at "subscriptTail Name Name ref int") => `(tactic| walk_at "item9")
local macro_rules | `(tactic| walk_at "subscriptTail Name Constant ref int") => `(tactic| walk_at "item9")
local macro_rules | `(tactic| walk_at "subscriptTail Name UnaryOp ref int") => `(tactic| (k_here; (with_reducible show wpAny _ _ (subscriptTail _ _ (Value.ref _) (Value.int _ _)) _ _ _); k_dflt (refine' last_led ?N ?m ?x ?_; (case N => k_asm); (case m => k_mem); (case x => assumption); k_whole)))
local macro_rules | `(tactic| walk_at "compareOp NotIn int ref") => `(tactic| (k_here; k_dflt (refine' notin_led ?N ?m ?i ?e ?_; (case N => k_asm); (case m => k_mem); (case i | e => assumption); k_whole)))
local macro_rules | `(tactic| walk_at "call builtin:list.index") => `(tactic| (k_here; k_dflt (refine' index_led ?N ?m ?i ?j ?f ?z ?_; (case N => k_asm); (case m => k_mem); (case i | j | f => assumption); (case z => ((rw [PySem.sizeLine_eq]); omega)); k_whole)))
local macro_rules | `(tactic| walk_at "call builtin:len") => `(tactic| (k_here; (with_reducible show wpAny _ _ (call (Value.builtin "len") [Value.ref _]) _ _ _); k_dflt (first
  | (refine' len_led ?N ?m ?z ?_; (case N => k_asm); (case m => k_mem); (case z => walk_at "size"); k_whole)
  | (refine' len_base ?F ?g ?z ?_; (case F => k_asm); (case g => assumption); (case z => walk_at "size"); k_whole))))
local macro_rules | `(tactic| walk_at "call builtin:list.append") => `(tactic| (k_here; (try dsimp only [List.cons_append, List.nil_append]); (show wpAny _ _ (call (Value.builtin "list.append") [Value.ref _, _]) _ _ _); k_dflt (refine' append_led ?F ?N ?m ?_ ?z; (case F | N => k_asm); (case m => k_mem); (case z => walk_at "size"); k_whole); intro h' F' N'; (try k_sweep)))
section
local macro_rules | `(tactic| walk_at "exec While BoolOp cons nil") => `(tactic| refine Hold.use ?_)
local macro_rules | `(tactic| walk_at "exec While Compare cons nil") => `(tactic| refine Hold.use ?_)
local macro_rules | `(tactic| walk_at "ite") => `(tactic| walk_at "ite9")
def tvOf (nx : Nat → Option Nat) (tk : Nat → Nat) (i : Nat) : Value := match nx i with
  | none => .none
  | some j => .int (j : Int) (tk i)
section
variable {w : World} {mg mb : Str → Option Value} {mean : ExcName → Option Value} {A₀ : Around} {base h₀ : Heap} {outer : List Env} {L : Addr} {m : Str → Option Value} {news : List (Addr × Obj)} {s : Shared}
  {dp un : Nat} {gd : Option (List Code)} {cn : Str} {cs : Scope} {a : Addr} {ccd : Value} {cl : List (Str × Addr)} {Q E : Value → Shared → Prop} {x d : Addr} {t : Nat → Nat} {v : Things}
theorem path (B : Below A₀ base outer h₀) (F : Fr h₀ L s.heap m) (X : (Mine.hd.heap_39 w.params).In h₀) (N : News h₀ L s.heap news) (T : Top Mine.hd.view_39 (looseW Mine.hd.view_39 []) mean mg mb h₀) (hk : cs.kind = .function) {n aT cT : Nat} {kt : Nat → Nat} {nx : Nat → Option Nat}
    (hT : (aT, W.listOf (arr n (tvOf nx kt)) cT) ∈ news) (hnx : ∀ i, i < n → ∀ j, nx i = some j → j < n) (hn0 : 1 ≤ n) (hn : n ≤ 40)
    (hdp : dp + 15 < recursionLimit) (hun : un + 200 < cLine)
    (ret : ∀ news' h' tk' l P Z tp tq, Fr h₀ L h' m → News h₀ L h' news' → (∀ p ∈ news, p ∈ news') → (l, ({ cls := .type "tuple", data := .seq #[.int P tp, .int Z tq] } : Obj)) ∈ news' → (∀ p ∈ news, p.1 ≠ l) → (∃ p q : Nat, P = p ∧ Z = q ∧ Way nx (n - 1) p q) → Q (.ref l) { s with heap := h', toks := tk' }) :
    wpAny (model PySem.Challenge.rw_kn0107_01.row.prog w) (ktrTop dp un gd cn cs L a ccd cl outer) (call (.ref 120) [.ref aT]) Q E s := by
  revert X; k_fill; intro X
  have N₀ : News h₀ L s.heap [] := News.nil
  refine wpAny_call ?_
  k_dflt (refine' code_defG ?k1 ?k2 ?k3 ?k4 ?k5 ?kA ?kF ?kK ?k6 ?k7 ?k8 ?k9 ?kB ?_ ?c2 ?c3 ?c4 ?c5; (case kA => exact rfl); (case kF => exact rfl); (case kK => assumption); (case k1 => k_asm); (case k2 => k_asm); (case k3 => k_asm); (case k4 => assumption); (case k5 => k_asm); (case k6 => k_is); (case k7 => k_is); (case k8 => ktr_room); (case k9 => exact BindsTo.of_eq rfl); (case c5 => decide); (case kB => exact locs rfl); (case c2 => exact rfl); (case c3 => exact rfl); (case c4 => exact rfl); k_whole; intro _ _ _ _ _ _ _ _ _ _; (try dsimp only); (try k_fold))
  rename_i g L1 h1 FG F1 N1 B1 X1 T1 G1
  have hT1 : g.get? aT = some (W.listOf (arr n (tvOf nx kt)) cT) := G1 _ _ (N _ hT).1 (by simp)
  obtain ⟨u1, F2⟩ := fr_kst [(Str.ofString "targets", Value.ref aT)] F1 (by
    intro p hp; rw [List.mem_singleton.mp hp]; with_unfolding_all rfl)
  clear F1
  k_steps
  rename_i pa _ _ _ F3 N3
  have hsz0 : (arr n (tvOf nx kt)).size = n := arr_size
  obtain ⟨u2, F4⟩ := fr_kst [(Str.ofString "targets", Value.ref aT), (Str.ofString "path", Value.ref pa)] F3 (by
    intro p hp; simp only [List.mem_cons, List.not_mem_nil, or_false] at hp; rcases hp with rfl | rfl <;> with_unfolding_all rfl)
  clear F3
  have hk₀ : n - 1 < n := by omega
  refine ⟨While_inv2 (fun k m₁ news₁ => ∃ (r a : Nat) (z : Int) (vs : List Value) (cap ta : Nat), k = n - r ∧ z = a ∧ (∀ q, q ≤ r → itr nx (n - 1) q ≠ none) ∧ (∀ i j, i < j → j ≤ r → itr nx (n - 1) i ≠ itr nx (n - 1) j) ∧ itr nx (n - 1) r = some a ∧ IntsAre vs (pathOf nx (n - 1) (r + 1)) ∧
      vs.getLast? = some (Value.int z ta) ∧ (pa, W.listOf vs.toArray cap) ∈ news₁ ∧ ∀ p ∈ [(Str.ofString "targets", Value.ref aT), (Str.ofString "path", Value.ref pa)], m₁ p.1 = some p.2) (n₀ := n) F4 N3 ?_ ?_⟩
  · refine ⟨0, n - 1, _, _, 0, _, rfl, ?_, fun q hq => ?_, fun i j hij hj => absurd hij (by omega), rfl, ?_, rfl, List.mem_cons_self, by intro p hp; simp only [List.mem_cons, List.not_mem_nil, or_false] at hp; rcases hp with rfl | rfl <;> with_unfolding_all rfl⟩
    · rw [hsz0]; omega
    · obtain rfl : q = 0 := by omega
      simp [itr]
    · have e : pathOf nx (n - 1) (0 + 1) = [((arr n (tvOf nx kt)).size : Int) - 1] := by
        simp only [pathOf, List.range_succ, List.range_zero, List.nil_append, List.map_cons, List.map_nil, itr, Option.getD_some]
        rw [hsz0]; congr 1; omega
      rw [e]; exact .cons _ _ .nil
  · rintro k m₁ news₁ h₂ tk₂ FT NT ⟨r, a, z, vs, cap, ta, hk, hz, hsome, hdist, ha, hiv, hlast, hpm, hm⟩
    obtain ⟨u3, F5⟩ := fr_kst _ FT hm
    have N5 : News g L1 h₂ [(pa, W.listOf vs.toArray cap)] := news_sub NT (by intro p hp; rw [List.mem_singleton.mp hp]; exact hpm)
    clear FT NT hm F4 N3
    have han := itr_lt hnx hk₀ r a ha
    have hfew := few hnx hk₀ hsome hdist
    have hlen : vs.length = r + 1 := by rw [hiv.length, pathOf_length]
    have hzt : z.toNat = a := by omega
    cases e : nx a with
    | none =>
      have hta : (arr n (tvOf nx kt))[z.toNat]? = some Value.none := by rw [hzt, arr_get han]; unfold tvOf; rw [e]
      k_steps
      all_goals (
        rename GSub _ _ _ => kG
        rename Fr _ _ _ _ => kF
        rename News h₀ _ _ _ => kN
        rename News g _ _ _ => gN
        refine ret _ _ _ _ _ _ _ _ (by assumption) (news_rest kG N (by assumption) kN) (fun p hp => mem_rest hp (by simp)) (List.mem_append_left _ (by k_mem)) (news_apart kG N (gN _ (by k_mem)).2.2 (by simp)) ?_
        exact ⟨r + 1, 0, by simp only [List.size_toArray, hlen], rfl, .inl ⟨rfl, by rw [itr_succ ha, e], fun k hk => hsome k (by omega)⟩⟩)
    | some b =>
      have hbn := hnx a han b e
      have hb : itr nx (n - 1) (r + 1) = some b := by rw [itr_succ ha, e]
      have hta : (arr n (tvOf nx kt))[z.toNat]? = some (Value.int (b : Int) (kt a)) := by rw [hzt, arr_get han]; unfold tvOf; rw [e]
      by_cases hin : ∃ q, q < r + 1 ∧ itr nx (n - 1) q = some b
      · have hin' := (pathOf_any (b := b) fun q hq => hsome q (by omega)).mpr hin
        have hnot : (!((pathOf nx (n - 1) (r + 1)).any (· == (b : Int)))) = false := by rw [hin']; rfl
        obtain ⟨q, hq, eq⟩ := hin
        have hj : (pathOf nx (n - 1) (r + 1))[q]? = some (b : Int) := by rw [pathOf_get hq, eq]; rfl
        have hf : ∀ i, i < q → (pathOf nx (n - 1) (r + 1))[i]? ≠ some (b : Int) := fun i hi e' => by
          rw [pathOf_get (by omega)] at e'
          cases e3 : itr nx (n - 1) i with
          | none => exact hsome i (by omega) e3
          | some y =>
            rw [e3] at e'
            have : (y : Int) = b := by simpa using e'
            exact hdist i q hi (by omega) (by rw [e3, eq]; exact congrArg some (by omega))
        k_steps
        all_goals (
          rename GSub _ _ _ => kG
          rename Fr _ _ _ _ => kF
          rename News h₀ _ _ _ => kN
          rename News g _ _ _ => gN
          refine ret _ _ _ _ _ _ _ _ (by assumption) (news_rest kG N (by assumption) kN) (fun p hp => mem_rest hp (by simp)) (List.mem_append_left _ (by k_mem)) (news_apart kG N (gN _ (by k_mem)).2.2 (by simp)) ?_
          refine ⟨q, r + 1 - q, rfl, by simp only [List.size_toArray, hlen]; omega, .inr ⟨Nat.sub_pos_of_lt hq, ?_, ?_, fun i j hij hj => hdist i j hij (Nat.le_of_lt_succ (Nat.lt_of_lt_of_eq hj (Nat.add_sub_of_le (Nat.le_of_lt hq))))⟩⟩
          · rw [Nat.add_sub_of_le (Nat.le_of_lt hq), hb, eq]
          · exact never_none (i := q) (j := r + 1) (by omega) (by rw [hb, eq]) (by rw [eq]; simp))
      · have hnot : (!((pathOf nx (n - 1) (r + 1)).any (· == (b : Int)))) = true := by
          cases q : (pathOf nx (n - 1) (r + 1)).any (· == (b : Int)) with
          | false => rfl
          | true => exact absurd ((pathOf_any (b := b) fun q hq => hsome q (by omega)).mp q) hin
        k_steps
        all_goals (
          rename Fr _ _ _ _ => kF
          rename News g _ _ _ => kN
          refine ⟨_, _, _, _, n - (r + 1), rfl, kF, kN, sub_dec hk (by omega), r + 1, b, (b : Int), vs ++ [Value.int (b : Int) (kt a)], cap + 1, kt a, rfl, rfl, ?_, ?_, hb, ?_, by simp, ?_, by intro p hp; simp only [List.mem_cons, List.not_mem_nil, or_false] at hp; rcases hp with rfl | rfl <;> with_unfolding_all rfl⟩
          · intro q hq
            rcases Nat.lt_or_ge q (r + 1) with h | h
            · exact hsome q (by omega)
            · obtain rfl : q = r + 1 := by omega
              rw [hb]; simp
          · intro i j hij hj
            rcases Nat.lt_or_ge j (r + 1) with h | h
            · exact hdist i j hij (by omega)
            · obtain rfl : j = r + 1 := by omega
              rw [hb]
              exact fun e' => hin ⟨i, hij, e'⟩
          · rw [pathOf_succ, hb]
            exact hiv.append (.cons _ _ .nil)
          · have e' : (vs ++ [Value.int (b : Int) (kt a)]).toArray = vs.toArray.push (Value.int (b : Int) (kt a)) := by simp
            rw [e']
            k_mem)
end

end
local macro_rules | `(tactic| walk_at "call ref") => `(tactic| (k_here; k_dflt (first | walk_at "gets" | walk_at "sets")))
local macro_rules | `(tactic| walk_at "call ref") => `(tactic| (k_here; k_dflt (walk_at "told")))
section
/-- the places of the law's own objects: its lists, the cell of n, the sources, their dicts, byte lists, and the lists of froms -/
inductive Slot where
  | S | T | F | A | N
  | X (i : Nat) | D (i : Nat) | B (i : Nat) | G (i : Nat)
structure St where
  n : Nat
  nb : Nat
  nx : Nat → Option Nat
  kt : Nat → Nat
  aS : Addr
  aT : Addr
  aF : Addr
  aA : Addr
  aN : Addr
  cS : Nat
  cT : Nat
  cF : Nat
  cA : Nat
  xs : Nat → Addr
  ds : Nat → Addr
  bs : Nat → Addr
  gs : Nat → Addr
  oN : Obj
  ts : Nat → Nat → Nat
  vs : Nat → Things
  bl : Nat → List Value
  bc : Nat → Nat
  gl : Nat → List Value
  gc : Nat → Nat
  al : List Value
def St.ad (σ : St) : Slot → Addr
  | .S => σ.aS | .T => σ.aT | .F => σ.aF | .A => σ.aA | .N => σ.aN
  | .X i => σ.xs i | .D i => σ.ds i | .B i => σ.bs i | .G i => σ.gs i
def St.ob (P : Params) (σ : St) : Slot → Obj
  | .S => W.listOf (arr σ.n fun i => .ref (σ.xs i)) σ.cS
  | .T => W.listOf (arr σ.n (tvOf σ.nx σ.kt)) σ.cT
  | .F => W.listOf (arr σ.n fun i => .ref (σ.gs i)) σ.cF
  | .A => W.listOf σ.al.toArray σ.cA
  | .N => σ.oN
  | .X i => instObj 102 (σ.ds i)
  | .D i => dictOf (ents P (σ.ts i) (σ.vs i)) 5
  | .B i => W.listOf (σ.bl i).toArray (σ.bc i)
  | .G i => W.listOf (σ.gl i).toArray (σ.gc i)
def St.ok (σ : St) : Slot → Prop
  | .X i => i < σ.n | .D i => i < σ.n | .B i => i < σ.nb | .G i => i < σ.n
  | _ => True
/-- the ledger bears them, each at a place of its own -/
structure St.In (P : Params) (σ : St) (news : List (Addr × Obj)) : Prop where
  own : ∀ q, σ.ok q → (σ.ad q, σ.ob P q) ∈ news
  inj : ∀ q r, σ.ok q → σ.ok r → σ.ad q = σ.ad r → q = r
section
variable {P : Params} {σ : St} {news : List (Addr × Obj)}
theorem St.In.mono {news' : List (Addr × Obj)} (I : σ.In P news) (h : ∀ p ∈ news, p ∈ news') : σ.In P news' := ⟨fun q hq => h _ (I.own q hq), I.inj⟩
theorem St.In.S (I : σ.In P news) : (σ.aS, W.listOf (arr σ.n fun i => .ref (σ.xs i)) σ.cS) ∈ news := I.own .S trivial
theorem St.In.T (I : σ.In P news) : (σ.aT, W.listOf (arr σ.n (tvOf σ.nx σ.kt)) σ.cT) ∈ news := I.own .T trivial
theorem St.In.F (I : σ.In P news) : (σ.aF, W.listOf (arr σ.n fun i => .ref (σ.gs i)) σ.cF) ∈ news := I.own .F trivial
theorem St.In.A (I : σ.In P news) : (σ.aA, W.listOf σ.al.toArray σ.cA) ∈ news := I.own .A trivial
theorem St.In.N (I : σ.In P news) : (σ.aN, σ.oN) ∈ news := I.own .N trivial
theorem St.In.X {i : Nat} (I : σ.In P news) (h : i < σ.n) : (σ.xs i, instObj 102 (σ.ds i)) ∈ news := I.own (.X i) h
theorem St.In.D {i : Nat} (I : σ.In P news) (h : i < σ.n) : (σ.ds i, dictOf (ents P (σ.ts i) (σ.vs i)) 5) ∈ news := I.own (.D i) h
theorem St.In.B {i : Nat} (I : σ.In P news) (h : i < σ.nb) : (σ.bs i, W.listOf (σ.bl i).toArray (σ.bc i)) ∈ news := I.own (.B i) h
theorem St.In.G {i : Nat} (I : σ.In P news) (h : i < σ.n) : (σ.gs i, W.listOf (σ.gl i).toArray (σ.gc i)) ∈ news := I.own (.G i) h
theorem St.In.ne (I : σ.In P news) (q r : Slot) (hq : σ.ok q) (hr : σ.ok r) (h : q ≠ r) : @Ne Nat (σ.ad q) (σ.ad r) := fun e => h (I.inj q r hq hr e)
/-- one object told anew -/
theorem St.In.upd1 (I : σ.In P news) (r : Slot) (σ' : St) (o' : Obj) (hr : σ.ok r) (hok : ∀ q, σ'.ok q → σ.ok q) (had : ∀ q, σ'.ad q = σ.ad q) (ho : σ'.ob P r = o') (hob : ∀ q, σ.ok q → q ≠ r → σ'.ob P q = σ.ob P q) : σ'.In P (upd (σ.ad r) o' news) :=
  ⟨fun q hq => by
    by_cases e : q = r
    · subst e; rw [had, ho]; exact mem_upd_self
    · rw [had, hob q (hok q hq) e]
      exact mem_upd (I.own q (hok q hq)) fun e' => e (I.inj q r (hok q hq) hr e'),
   fun q r hq hr e => I.inj q r (hok q hq) (hok r hr) (by rw [← had, ← had]; exact e)⟩
theorem St.In.cons (I : σ.In P news) (p : Addr × Obj) : σ.In P (p :: news) := I.mono fun _ h => .tail _ h
end
/-- at one place another value -/
def put {α : Type} (f : Nat → α) (k : Nat) (v : α) (i : Nat) : α := if i = k then v else f i
theorem put_at {α : Type} {f : Nat → α} {k : Nat} {v : α} : put f k v k = v := by unfold put; rw [if_pos rfl]
theorem put_ne {α : Type} {f : Nat → α} {k i : Nat} {v : α} (h : i ≠ k) : put f k v i = f i := by unfold put; rw [if_neg h]
section
variable {P : Params} {σ : St} {news : List (Addr × Obj)}
/-- a source's things told anew -/
theorem St.In.setV (I : σ.In P news) {k : Nat} (hk : k < σ.n) (v : Things) : ({ σ with vs := put σ.vs k v } : St).In P (upd (σ.ds k) (dictOf (ents P (σ.ts k) v) 5) news) :=
  I.upd1 (.D k) _ _ hk (fun q hq => by cases q <;> exact hq) (fun q => by cases q <;> rfl) (by show dictOf (ents P (σ.ts k) (put σ.vs k v k)) 5 = _; rw [put_at]) fun q hq e => by
    cases q with
    | D i => show dictOf (ents P (σ.ts i) (put σ.vs k v i)) 5 = _; rw [put_ne (fun e' => e (by rw [e']))]; rfl
    | _ => rfl
theorem St.In.setA (I : σ.In P news) (al : List Value) (c : Nat) : ({ σ with al := al, cA := c } : St).In P (upd σ.aA (W.listOf al.toArray c) news) :=
  I.upd1 .A _ _ trivial (fun q hq => by cases q <;> exact hq) (fun q => by cases q <;> rfl) rfl fun q hq e => by
    cases q with
    | A => exact absurd rfl e
    | _ => rfl
theorem St.In.setB (I : σ.In P news) {k : Nat} (hk : k < σ.nb) (l : List Value) (c : Nat) : ({ σ with bl := put σ.bl k l, bc := put σ.bc k c } : St).In P (upd (σ.bs k) (W.listOf l.toArray c) news) :=
  I.upd1 (.B k) _ _ hk (fun q hq => by cases q <;> exact hq) (fun q => by cases q <;> rfl) (by show W.listOf (put σ.bl k l k).toArray (put σ.bc k c k) = _; rw [put_at, put_at]) fun q hq e => by
    cases q with
    | B i => show W.listOf (put σ.bl k l i).toArray (put σ.bc k c i) = _; rw [put_ne (fun e' => e (by rw [e'])), put_ne (fun e' => e (by rw [e']))]; rfl
    | _ => rfl
theorem St.In.setG (I : σ.In P news) {k : Nat} (hk : k < σ.n) (l : List Value) (c : Nat) : ({ σ with gl := put σ.gl k l, gc := put σ.gc k c } : St).In P (upd (σ.gs k) (W.listOf l.toArray c) news) :=
  I.upd1 (.G k) _ _ hk (fun q hq => by cases q <;> exact hq) (fun q => by cases q <;> rfl) (by show W.listOf (put σ.gl k l k).toArray (put σ.gc k c k) = _; rw [put_at, put_at]) fun q hq e => by
    cases q with
    | G i => show W.listOf (put σ.gl k l i).toArray (put σ.gc k c i) = _; rw [put_ne (fun e' => e (by rw [e'])), put_ne (fun e' => e (by rw [e']))]; rfl
    | _ => rfl
/-- a new byte list -/
theorem St.In.newB (I : σ.In P news) {b : Addr} (l : List Value) (c : Nat) (hb : ∀ p ∈ news, p.1 ≠ b) :
    ({ σ with nb := σ.nb + 1, bs := put σ.bs σ.nb b, bl := put σ.bl σ.nb l, bc := put σ.bc σ.nb c } : St).In P ((b, W.listOf l.toArray c) :: news) := by
  let σ' : St := { σ with nb := σ.nb + 1, bs := put σ.bs σ.nb b, bl := put σ.bl σ.nb l, bc := put σ.bc σ.nb c }
  have key : ∀ q, σ'.ok q → q = .B σ.nb ∨ (σ.ok q ∧ σ'.ad q = σ.ad q ∧ σ'.ob P q = σ.ob P q) := fun q hq => by
    cases q with
    | B i =>
      by_cases e : i = σ.nb
      · exact .inl (by rw [e])
      · have hi : i < σ.nb + 1 := hq
        refine .inr ⟨show i < σ.nb by omega, ?_, ?_⟩
        · show put σ.bs σ.nb b i = _; rw [put_ne e]; rfl
        · show W.listOf (put σ.bl σ.nb l i).toArray (put σ.bc σ.nb c i) = _; rw [put_ne e, put_ne e]; rfl
    | _ => exact .inr ⟨hq, rfl, rfl⟩
  have here : σ'.ad (.B σ.nb) = b := by show put σ.bs σ.nb b σ.nb = b; exact put_at
  have hobj : σ'.ob P (.B σ.nb) = W.listOf l.toArray c := by show W.listOf (put σ.bl σ.nb l σ.nb).toArray (put σ.bc σ.nb c σ.nb) = _; rw [put_at, put_at]
  refine ⟨fun q hq => ?_, fun q r hq hr e => ?_⟩
  · rcases key q hq with rfl | ⟨h1, h2, h3⟩
    · rw [here, hobj]; exact .head _
    · rw [h2, h3]; exact .tail _ (I.own q h1)
  · rcases key q hq with rfl | ⟨h1, h2, h3⟩ <;> rcases key r hr with rfl | ⟨g1, g2, g3⟩
    · rfl
    · rw [here, g2] at e; exact absurd e.symm (hb _ (I.own r g1))
    · rw [here, h2] at e; exact absurd e (hb _ (I.own q h1))
    · rw [h2, g2] at e; exact I.inj q r h1 g1 e
end

end
section
theorem ne_of_all {led : List (Addr × Obj)} {a b : Addr} {o : Obj} (h : ∀ p ∈ led, p.1 < b) (hm : (a, o) ∈ led) : @Ne Nat b a := Nat.ne_of_gt (h _ hm)
theorem extend_new {prog : Program} {w : World} {A : Around} {E : Value → Shared → Prop} {s : Shared} {h₀ : Heap} {L D : Addr} {m : Str → Option Value} {news led : List (Addr × Obj)} {cap : Nat} {al : List Value} {its2 : Array Value} {b : Addr} {c2 : Nat} {Q : Value → Shared → Prop}
    (F : Fr h₀ L s.heap m) (N : News h₀ L s.heap news) (hm : (D, W.listOf al.toArray cap) ∈ news) (hb : (b, W.listOf its2 c2) ∈ news) (hl : ∀ p ∈ led, p.1 < b) (hd : (D, W.listOf al.toArray cap) ∈ led)
    (hne : its2.size ≠ 0) (hz : al.length ≤ 1000) (hz2 : its2.size ≤ 1000)
    (h : ∀ h', Fr h₀ L h' m → News h₀ L h' (upd D (W.listOf (al ++ its2.toList).toArray (cap + 1)) news) → Q .none { s with heap := h' }) : wpAny (model prog w) A (call (.builtin "list.extend") [.ref D, .ref b]) Q E s :=
  extend_led F N hm hb (ne_of_all hl hd) hne hz hz2 h
theorem extend_rep {prog : Program} {w : World} {A : Around} {E : Value → Shared → Prop} {s : Shared} {h₀ : Heap} {L D : Addr} {m : Str → Option Value} {news led : List (Addr × Obj)} {cap : Nat} {al : List Value} {its2 : Array Value} {b : Addr} {c2 : Nat} {Q : Value → Shared → Prop}
    (F : Fr h₀ L s.heap m) (N : News h₀ L s.heap news) (hm : (D, W.listOf al.toArray cap) ∈ news) (hb : (b, W.listOf its2 c2) ∈ news) (hl : ∀ p ∈ led, p.1 ≠ b) (hd : (D, W.listOf al.toArray cap) ∈ led)
    (hits : its2.toList = List.replicate 5 Value.none) (hz : al.length ≤ 1000)
    (h : ∀ h', Fr h₀ L h' m → News h₀ L h' (upd D (W.listOf (al ++ List.replicate 5 Value.none).toArray (cap + 1)) news) → Q .none { s with heap := h' }) : wpAny (model prog w) A (call (.builtin "list.extend") [.ref D, .ref b]) Q E s := by
  have hsz : its2.size = 5 := by rw [← Array.length_toList, hits, List.length_replicate]
  exact extend_led F N hm hb (fun e => hl _ hd e.symm) (by omega) hz (by omega) (by rw [hits]; exact h)
theorem sub_mem {l l' : List (Addr × Obj)} {p : Addr × Obj} (h : ∀ p ∈ l, p ∈ l') (hp : p ∈ l) : p ∈ l' := h p hp
theorem range_small {n : Nat} (h : n ≤ 40) : Builtin.Range.small 0 (n : Int) 1 = true := small_one (by decide) (by decide) (by omega) (by omega)
theorem range_size {n : Nat} : Builtin.Range.rangeSize 0 (n : Int) 1 = (n : Int) := by rw [rangeSize_nat, Int.sub_zero, Int.toNat_natCast]
theorem allLt_mem {d : Addr} : ∀ {l : List (Addr × Obj)}, AllLt d l → ∀ p ∈ l, p.1 < d
  | [], _, _, hp => nomatch hp
  | _ :: _, h, p, hp => by
    rcases List.mem_cons.mp hp with rfl | hp
    · exact h.1
    · exact allLt_mem h.2 p hp
theorem mem_updp {d : Addr} {o : Obj} {p : Addr × Obj} {news : List (Addr × Obj)} (hm : p ∈ news) (hn : p.1 ≠ d) : p ∈ upd d o news := .tail _ (List.mem_filter.mpr ⟨hm, by simpa using hn⟩)
theorem mem_offp {I : Addr} {p : Addr × Obj} {news : List (Addr × Obj)} (hm : p ∈ news) (hn : p.1 ≠ I) : p ∈ off I news := List.mem_filter.mpr ⟨hm, by simpa using hn⟩
theorem of_upd {d : Addr} {o : Obj} {p : Addr × Obj} {news : List (Addr × Obj)} (h : p ∈ upd d o news) : p = (d, o) ∨ (p ∈ news ∧ p.1 ≠ d) := by
  rcases List.mem_cons.mp h with h | h
  · exact .inl h
  · obtain ⟨a, b⟩ := List.mem_filter.mp h
    exact .inr ⟨a, by simpa using b⟩
abbrev ledOf {h₀ h : Heap} {L : Addr} {led : List (Addr × Obj)} (_ : News h₀ L h led) : List (Addr × Obj) := led
theorem lt_upd {d b : Addr} {o : Obj} {led : List (Addr × Obj)} (h : ∀ p ∈ upd d o led, p.1 < b) : ∀ p ∈ led, p.1 < b := fun p hp => by
  by_cases e : p.1 = d
  · rw [e]; exact h (d, o) mem_upd_self
  · exact h p (mem_updp hp e)
theorem lt_tail {b : Addr} {q : Addr × Obj} {led : List (Addr × Obj)} (h : ∀ p ∈ q :: led, p.1 < b) : ∀ p ∈ led, p.1 < b := fun p hp => h p (.tail _ hp)
theorem put_const {α : Type} {k : Nat} {v : α} : put (fun _ => v) k v = fun _ => v := funext fun i => by unfold put; split <;> rfl
theorem rep_more {α : Type} {a b : Nat} {x : α} : List.replicate a x ++ List.replicate b x = List.replicate (a + b) x := List.replicate_append_replicate
section
variable {P : Params} {σ : St} {news : List (Addr × Obj)}
theorem St.In.turn1 (I : σ.In P news) {k : Nat} {b : Addr} {v : Things} {al : List Value} {cA c : Nat} {final : List (Addr × Obj)} (hk : σ.nb = k) (hkn : k < σ.n) (hD : (σ.ds k, dictOf (ents P (σ.ts k) v) 5) ∈ final) (hA : (σ.aA, W.listOf al.toArray cA) ∈ final)
    (hB : (b, W.listOf ([] : List Value).toArray c) ∈ final) (hb : ∀ p ∈ news, p.1 ≠ b) (keep : ∀ p ∈ news, p.1 ≠ σ.ds k → p.1 ≠ σ.aA → p ∈ final) :
    ({ σ with nb := k + 1, bs := put σ.bs k b, bl := put σ.bl k [], bc := put σ.bc k c, vs := put σ.vs k v, al := al, cA := cA } : St).In P final := by
  subst hk
  have C := ((I.setV hkn v).setA al cA).newB (b := b) [] c (fun p hp => by
    rcases of_upd hp with rfl | ⟨hp, _⟩
    · exact (hb (σ.aA, _) I.A : σ.aA ≠ b)
    · rcases of_upd hp with rfl | ⟨hp, _⟩
      · exact (hb (σ.ds σ.nb, _) (I.D hkn) : σ.ds σ.nb ≠ b)
      · exact hb p hp)
  refine C.mono fun p hp => ?_
  rcases List.mem_cons.mp hp with rfl | hp
  · exact hB
  · rcases of_upd hp with rfl | ⟨hp, h1⟩
    · exact hA
    · rcases of_upd hp with rfl | ⟨hp, h2⟩
      · exact hD
      · exact keep p hp h2 h1
/-- one more answer, and a source that points nowhere -/
theorem St.In.turn2n (I : σ.In P news) {k : Nat} {v : Things} {al : List Value} {cA : Nat} {final : List (Addr × Obj)} (hkn : k < σ.n) (hD : (σ.ds k, dictOf (ents P (σ.ts k) v) 5) ∈ final) (hA : (σ.aA, W.listOf al.toArray cA) ∈ final)
    (keep : ∀ p ∈ news, p.1 ≠ σ.ds k → p.1 ≠ σ.aA → p ∈ final) :
    ({ σ with vs := put σ.vs k v, al := al, cA := cA } : St).In P final := by
  refine ((I.setV hkn v).setA al cA).mono fun p hp => ?_
  rcases of_upd hp with rfl | ⟨hp, h1⟩
  · exact hA
  · rcases of_upd hp with rfl | ⟨hp, h2⟩
    · exact hD
    · exact keep p hp h2 h1
/-- the answers alone -/
theorem St.In.turnA (I : σ.In P news) {al : List Value} {cA : Nat} {final : List (Addr × Obj)} (hA : (σ.aA, W.listOf al.toArray cA) ∈ final) (keep : ∀ p ∈ news, p.1 ≠ σ.aA → p ∈ final) : ({ σ with al := al, cA := cA } : St).In P final := by
  refine (I.setA al cA).mono fun p hp => ?_
  rcases of_upd hp with rfl | ⟨hp, h1⟩
  · exact hA
  · exact keep p hp h1
/-- a source k that points at a source j -/
theorem St.In.turn2s (I : σ.In P news) {k j : Nat} {v u : Things} {al bl gl : List Value} {cA bc gc : Nat} {final : List (Addr × Obj)} (hkn : k < σ.n) (hjn : j < σ.n) (hjb : j < σ.nb)
    (hD : (σ.ds k, dictOf (ents P (σ.ts k) (put (put σ.vs k v) j u k)) 5) ∈ final) (hD2 : (σ.ds j, dictOf (ents P (σ.ts j) u) 5) ∈ final) (hA : (σ.aA, W.listOf al.toArray cA) ∈ final) (hB : (σ.bs j, W.listOf bl.toArray bc) ∈ final) (hG : (σ.gs j, W.listOf gl.toArray gc) ∈ final)
    (keep : ∀ p ∈ news, p.1 ≠ σ.ds k → p.1 ≠ σ.ds j → p.1 ≠ σ.aA → p.1 ≠ σ.bs j → p.1 ≠ σ.gs j → p ∈ final) :
    ({ σ with vs := put (put σ.vs k v) j u, al := al, cA := cA, bl := put σ.bl j bl, bc := put σ.bc j bc, gl := put σ.gl j gl, gc := put σ.gc j gc } : St).In P final := by
  have C := ((((I.setV hkn v).setV (k := j) hjn u).setA al cA).setB (k := j) hjb bl bc).setG (k := j) hjn gl gc
  refine C.mono fun p hp => ?_
  rcases of_upd hp with rfl | ⟨hp, h1⟩
  · exact hG
  · rcases of_upd hp with rfl | ⟨hp, h2⟩
    · exact hB
    · rcases of_upd hp with rfl | ⟨hp, h3⟩
      · exact hA
      · rcases of_upd hp with rfl | ⟨hp, h4⟩
        · exact hD2
        · rcases of_upd hp with rfl | ⟨hp, h5⟩
          · have e : put (put σ.vs k v) j u k = v := by
              have h4 : ¬ σ.ds k = σ.ds j := h4
              have : k ≠ j := fun e => h4 (by rw [e])
              rw [put_ne this, put_at]
            rw [e] at hD
            exact hD
          · exact keep p hp h5 h4 h3 h2 h1
end

end
section
/-- the places ahead of i that lead to k -/
def srcs (nx : Nat → Option Nat) (i k : Nat) : List Nat := (List.range i).filter fun q => decide (nx q = some k)
theorem srcs_zero {nx : Nat → Option Nat} {k : Nat} : srcs nx 0 k = [] := rfl
theorem srcs_hit {nx : Nat → Option Nat} {i k : Nat} (h : nx i = some k) : srcs nx (i + 1) k = srcs nx i k ++ [i] := by
  unfold srcs; rw [List.range_succ, List.filter_append]; simp [h]
theorem srcs_miss {nx : Nat → Option Nat} {i k : Nat} (h : nx i ≠ some k) : srcs nx (i + 1) k = srcs nx i k := by
  unfold srcs; rw [List.range_succ, List.filter_append]; simp [h]
theorem Things.withs {v : Things} {a b : Value} (ha : v.pub = a) (hb : v.byt = b) : v = ⟨v.sys, a, v.enc, b, v.chr⟩ := by
  cases v; subst ha hb; rfl
structure Second (σ : St) (i : Nat) (vs : Nat → Things) (bl gl : Nat → List Value) : Prop where
  sys : ∀ k, k < σ.n → ∃ t, (vs k).sys = .int (k : Int) t
  pub : ∀ k, k < σ.n → ∃ t, (vs k).pub = .int ((srcs σ.nx i k).length : Int) t
  byt : ∀ k, k < σ.n → (vs k).byt = .ref (σ.bs k)
  chr : ∀ k, k < i → k < σ.n → (vs k).chr = chrOf σ.xs (σ.nx k)
  enc : ∀ k, k < i → k < σ.n → (vs k).enc = tvOf σ.nx σ.kt k
  ok : ∀ k, k < σ.n → (vs k).Ok
  bl : ∀ k, k < σ.n → bl k = (srcs σ.nx i k).map fun q => Value.ref (σ.xs q)
  gl : ∀ k, k < σ.n → IntsAre (gl k) ((srcs σ.nx i k).map fun q : Nat => (q : Int))
section
variable {σ : St} {j t : Nat} {vs : Nat → Things} {bl gl : Nat → List Value} {v u : Things}
theorem Second.none (S : Second σ j vs bl gl) (hj : j < σ.n) (e : σ.nx j = none) (hv : v = ⟨(vs j).sys, (vs j).pub, .none, (vs j).byt, .none⟩) : Second σ (j + 1) (put vs j v) bl gl := by
  have ms : ∀ k, srcs σ.nx (j + 1) k = srcs σ.nx j k := fun k => srcs_miss (by rw [e]; simp)
  refine ⟨fun k hk => ?_, fun k hk => ?_, fun k hk => ?_, fun k hkj hk => ?_, fun k hkj hk => ?_, fun k hk => ?_, fun k hk => ?_, fun k hk => ?_⟩
  · by_cases h : k = j
    · subst h; rw [put_at, hv]; exact S.sys k hk
    · rw [put_ne h]; exact S.sys k hk
  · rw [ms]
    by_cases h : k = j
    · subst h; rw [put_at, hv]; exact S.pub k hk
    · rw [put_ne h]; exact S.pub k hk
  · by_cases h : k = j
    · subst h; rw [put_at, hv]; exact S.byt k hk
    · rw [put_ne h]; exact S.byt k hk
  · by_cases h : k = j
    · subst h; rw [put_at, hv, e]; rfl
    · rw [put_ne h]; exact S.chr k (by omega) hk
  · by_cases h : k = j
    · subst h; rw [put_at, hv]; unfold tvOf; rw [e]
    · rw [put_ne h]; exact S.enc k (by omega) hk
  · by_cases h : k = j
    · subst h; rw [put_at, hv]; have o := S.ok k hk; exact ⟨o.sys, o.pub, rfl, o.byt, rfl⟩
    · rw [put_ne h]; exact S.ok k hk
  · rw [ms]; exact S.bl k hk
  · rw [ms]; exact S.gl k hk
theorem Second.some (S : Second σ j vs bl gl) (hj : j < σ.n) (ht : t < σ.n) (e : σ.nx j = some t) {w : Things} {tp tj : Nat} (hv : v = ⟨(vs j).sys, (vs j).pub, .int (t : Int) (σ.kt j), (vs j).byt, .ref (σ.xs t)⟩) (hw : w = put vs j v t)
    (hu : u = ⟨w.sys, .int ((srcs σ.nx j t).length + 1 : Int) tp, w.enc, w.byt, w.chr⟩) :
    Second σ (j + 1) (put (put vs j v) t u) (put bl t (bl t ++ [.ref (σ.xs j)])) (put gl t (gl t ++ [.int (j : Int) tj])) := by
  have ms : ∀ k, k ≠ t → srcs σ.nx (j + 1) k = srcs σ.nx j k := fun k hk => srcs_miss (by rw [e]; simp; omega)
  have mh : srcs σ.nx (j + 1) t = srcs σ.nx j t ++ [j] := srcs_hit e
  have V : ∀ k, k < σ.n → (∃ z, (put vs j v k).sys = .int (k : Int) z) ∧ (put vs j v k).byt = .ref (σ.bs k) ∧ (put vs j v k).Ok ∧ (k < j + 1 → (put vs j v k).chr = chrOf σ.xs (σ.nx k) ∧ (put vs j v k).enc = tvOf σ.nx σ.kt k) ∧ (∃ z, (put vs j v k).pub = .int ((srcs σ.nx j k).length : Int) z) := fun k hk => by
    by_cases h : k = j
    · subst h; rw [put_at, hv]
      have o := S.ok k hk
      exact ⟨S.sys k hk, S.byt k hk, ⟨o.sys, o.pub, rfl, o.byt, rfl⟩, fun _ => ⟨by rw [e]; rfl, by unfold tvOf; rw [e]⟩, S.pub k hk⟩
    · rw [put_ne h]
      exact ⟨S.sys k hk, S.byt k hk, S.ok k hk, fun _ => ⟨S.chr k (by omega) hk, S.enc k (by omega) hk⟩, S.pub k hk⟩
  have Vt := V t ht
  rw [← hw] at Vt
  have U : ∀ k, k < σ.n → (∃ z, (put (put vs j v) t u k).sys = .int (k : Int) z) ∧ (put (put vs j v) t u k).byt = .ref (σ.bs k) ∧ (put (put vs j v) t u k).Ok ∧ (k < j + 1 → (put (put vs j v) t u k).chr = chrOf σ.xs (σ.nx k) ∧ (put (put vs j v) t u k).enc = tvOf σ.nx σ.kt k) := fun k hk => by
    by_cases h : k = t
    · subst h; rw [put_at, hu]
      obtain ⟨a, b, c, d, _⟩ := Vt
      exact ⟨a, b, ⟨c.sys, rfl, c.enc, c.byt, c.chr⟩, d⟩
    · rw [put_ne h]; obtain ⟨a, b, c, d, _⟩ := V k hk; exact ⟨a, b, c, d⟩
  refine ⟨fun k hk => (U k hk).1, fun k hk => ?_, fun k hk => (U k hk).2.1, fun k hkj hk => ((U k hk).2.2.2 hkj).1, fun k hkj hk => ((U k hk).2.2.2 hkj).2, fun k hk => (U k hk).2.2.1, fun k hk => ?_, fun k hk => ?_⟩
  · by_cases h : k = t
    · subst h; rw [put_at, hu, mh, List.length_append, List.length_singleton]; exact ⟨_, rfl⟩
    · rw [put_ne h, ms k h]; exact (V k hk).2.2.2.2
  · by_cases h : k = t
    · subst h; rw [put_at, mh, S.bl k hk, List.map_append]; rfl
    · rw [put_ne h, ms k h]; exact S.bl k hk
  · by_cases h : k = t
    · subst h; rw [put_at, mh, List.map_append]; exact (S.gl k hk).append (.cons _ _ .nil)
    · rw [put_ne h, ms k h]; exact S.gl k hk
end

end
section
def bodyOf : Stmt → List Stmt
  | .FunctionDef _ _ b _ _ _ _ _ _ _ => b
  | _ => []
def scopeOf : Stmt → Scope
  | .FunctionDef _ _ _ _ _ _ s _ _ _ => s
  | _ => default
def lawDef : Stmt := PySem.Challenge.pw_kn0107_01.main.body.getLast?.getD default
def lawBody : List Stmt := bodyOf lawDef
def lawScope : Scope := scopeOf lawDef
def lawStmt (i : Nat) : Stmt := lawBody.getD i default
abbrev lawEnv (L fa : Addr) (cdv : Value) : Env := envOfC (Str.ofString "law") lawScope L fa cdv
/-- a statement's end -/
def Next (h₀ : Heap) (L : Addr) (s : Shared) (J : (Str → Option Value) → List (Addr × Obj) → Prop) (f : Flow) (s' : Shared) : Prop :=
  f = .next ∧ ∃ h' tk' m' news', s' = { s with heap := h', toks := tk' } ∧ Fr h₀ L h' m' ∧ News h₀ L h' news' ∧ J m' news'
/-- the law's end -/
def Done (h₀ : Heap) (L : Addr) (s : Shared) (f : Flow) (s' : Shared) : Prop :=
  f = .ret (.bool true) ∧ ∃ h' tk' m', s' = { s with heap := h', toks := tk' } ∧ Fr h₀ L h' m'

end
section
theorem flat_none : ∀ q : Nat, (List.replicate q [Value.none]).flatten = List.replicate q Value.none
  | 0 => rfl
  | q + 1 => by rw [List.replicate_succ, List.flatten_cons, flat_none q]; rfl
theorem none_reads {h : Heap} : ∀ q : Nat, ReadsAll h (List.replicate q Value.none) (List.replicate q PyData.none) []
  | 0 => .nil
  | q + 1 => by
    have := ReadsAll.cons (Reads.none (h := h)) (none_reads (h := h) q)
    simpa [List.replicate_succ] using this
theorem none_lay : ∀ q : Nat, PyData.canLayAll0 (List.replicate q PyData.none) = true
  | 0 => rfl
  | q + 1 => by simp [List.replicate_succ, PyData.canLayAll0, PyData.canLay0, none_lay q]
theorem none_depth : ∀ q : Nat, PyData.depthAll (List.replicate q PyData.none) ≤ 1
  | 0 => by simp [PyData.depthAll]
  | q + 1 => by
    have := none_depth q
    simp only [List.replicate_succ, PyData.depthAll, PyData.depth]
    omega
theorem none_shaped (q : Nat) : SeqAt.shaped (.list (List.replicate q PyData.none)) = true := by
  have h1 := none_depth q
  have h2 : PyData.depth (.list (List.replicate q PyData.none)) ≤ 64 := by simp only [PyData.depth]; omega
  show (PyData.canLay0 (.list (List.replicate q PyData.none)) && decide (PyData.depth (.list (List.replicate q PyData.none)) ≤ 64)) = true
  rw [Bool.and_eq_true]
  exact ⟨by simp only [PyData.canLay0]; exact none_lay q, decide_eq_true h2⟩
theorem none_eqv : ∀ q : Nat, PyData.eqvAll (List.replicate q PyData.none) (List.replicate q PyData.none) = true
  | 0 => by simp [PyData.eqvAll]
  | q + 1 => by simp [List.replicate_succ, PyData.eqvAll, PyData.eqv, none_eqv q]
section
variable {prog : Program} {w : World} {A : Around} {E : Value → Shared → Prop} {s : Shared} {h₀ h : Heap} {L D : Addr} {m : Str → Option Value} {news : List (Addr × Obj)} {cap : Nat}
theorem mul_none {x : Int} {u : Tok} {Q : Value → Shared → Prop} (F : Fr h₀ L s.heap m) (N : News h₀ L s.heap news) (hm : (D, W.listOf #[Value.none] cap) ∈ news) (hx0 : 0 ≤ x) (hx : x ≤ 1000)
    (h : ∀ b h', Fr h₀ L h' m → News h₀ L h' ((b, W.listOf (List.replicate x.toNat Value.none).toArray 0) :: news) → (∀ p ∈ news, p.1 < b) → Q (.ref b) { s with heap := h' }) :
    wpAny (model prog w) A (binaryOp .Mult (.ref D) (.int x u)) Q E s := by
  refine mul_list (items := #[Value.none]) (k := cap) F N (N _ hm).1 (by omega) (by omega) (by simp; omega) fun h' F' N' => ?_
  have e : List.foldl (fun x1 x2 => x1 ++ x2) #[] (List.replicate (if (#[Value.none] : Array Value).isEmpty = true then 0 else x.toNat) #[Value.none]) = (List.replicate x.toNat Value.none).toArray := by
    rw [listMul_foldl_if]
    have e2 : (#[Value.none] : Array Value).toList = [Value.none] := rfl
    rw [e2, flat_none]
  rw [e] at N'
  exact h _ h' F' N' fun p hp => Heap.lt_size (N p hp).1
theorem eq_nones {a b : Addr} {q c1 c2 : Nat} {Q : Value → Shared → Prop} (N : News h₀ L s.heap news) (ha : (a, W.listOf (List.replicate q Value.none).toArray c1) ∈ news) (hb : (b, W.listOf (List.replicate q Value.none).toArray c2) ∈ news) (hu : A.units + 64 < cLine) (h : Q (.bool true) s) :
    wpAny (model prog w) A (compareOp .Eq (.ref a) (.ref b)) Q E s :=
  eq_dataH (reads_list_at (N _ ha).1 rfl rfl (none_reads q)) (reads_list_at (N _ hb).1 rfl rfl (none_reads q)) (none_shaped q) (none_shaped q) hu (by
    have e : PyData.eqv (.list (List.replicate q PyData.none)) (.list (List.replicate q PyData.none)) = true := by simp only [PyData.eqv]; exact none_eqv q
    rw [e]; exact h)
end

end
section
theorem ne_ints_led {prog : Program} {w : World} {A : Around} {E : Value → Shared → Prop} {s : Shared} {h₀ : Heap} {L a b : Addr} {news : List (Addr × Obj)} {vs us : List Value} {ns : List Int} {c : Nat} {Q : Value → Shared → Prop}
    (N : News h₀ L s.heap news) (ha : (a, LCg.lst vs) ∈ news) (hb : (b, W.listOf us.toArray c) ∈ news) (hi : IntsAre vs ns) (hj : IntsAre us ns) (hu : A.units + 64 < cLine) (h : Q (.bool false) s) : wpAny (model prog w) A (compareOp .NotEq (.ref a) (.ref b)) Q E s :=
  ke_ne_ints ⟨_, (N _ ha).1, rfl, _, rfl⟩ ⟨_, (N _ hb).1, rfl, _, rfl⟩ hi hj hu (by
    have e : (!decide (ns = ns)) = false := by simp
    rw [e]; exact h)
theorem Things.five {v : Things} {a b c d e : Value} (h1 : v.sys = a) (h2 : v.pub = b) (h3 : v.enc = c) (h4 : v.byt = d) (h5 : v.chr = e) : v = ⟨a, b, c, d, e⟩ := by
  cases v; subst h1 h2 h3 h4 h5; rfl
section
variable {prog : Program} {w : World} {A : Around} {h₀ : Heap} {L : Addr} {m : Str → Option Value} {env : Env} {elt : Expr} {x : Str} {scope : Scope} {cl : List (Str × Addr)} {s : Shared} {S : List (Addr × Obj) → Prop} {P : Nat → Value → Prop} {Fin : List Value → List (Addr × Obj) → Prop}
/-- a comprehension by what holds of the items made so far and of the ledger -/
theorem comp_rest {n : Nat} (J : Nat → List Value → List (Addr × Obj) → Prop)
    (step : ∀ i ys news v I oI C oC D m₂ h tk (E' : Value → Shared → Prop), i < n → J i ys news → P i v → LCg.NsObj oC m₂ → m₂ x = some v → Fr h₀ L h m → News h₀ L h ((I, oI) :: (C, oC) :: (D, LCg.lst ys) :: news) → LCg.Off3 I C D news → ((@Ne Nat I C) ∧ (@Ne Nat I D) ∧ (@Ne Nat C D)) →
      wpAny (model prog w) A (eval elt (compEnvC scope cl C env)) (LCg.CompEnd h₀ L m { s with heap := h, toks := tk } I oI C oC D (LCg.lst ys) S (fun y news' => J (i + 1) (ys ++ [y]) news')) E' { s with heap := h, toks := tk })
    (fin : ∀ ys news, J n ys news → Fin ys news) :
    ∀ k i ys news, i + k = n → J i ys news → LCg.CompRest prog w A h₀ L m env elt x scope cl s S P Fin k i ys news := by
  intro k
  induction k with
  | zero =>
    intro i ys news hi hJ
    have e : i = n := by omega
    subst e
    exact LCg.CompRest.zero (fin ys news hJ)
  | succ k ih =>
    intro i ys news hi hJ
    refine LCg.CompRest.succ ?_
    intro v I oI C oC D m₂ h tk E' hv hC hx F N off ne
    refine wpAny_mono (step i ys news v I oI C oC D m₂ h tk E' (by omega) hJ hv hC hx F N off ne) (fun y s₂ hq => ?_) fun _ _ e => e
    obtain ⟨h', tk', nw, e, F', N', off', hS, hJ'⟩ := hq
    exact ⟨h', tk', nw, e, F', N', off', hS, ih (i + 1) (ys ++ [y]) nw (by omega) hJ'⟩
end

end
section

theorem off1_mem {D : Addr} : ∀ {l : List (Addr × Obj)}, LCg.Off1 D l → ∀ p ∈ l, @Ne Nat p.1 D
  | [], _, _, h => nomatch h
  | _ :: _, ⟨a, b⟩, p, h => by
    rcases List.mem_cons.mp h with rfl | h
    · exact a
    · exact off1_mem b p h
theorem srs_in {a b c : Int} {i n : Nat} (hc : 0 < c) (hn : Builtin.Range.rangeSize a b c = (n : Int)) (hi : i < n) : a + (i : Int) * c < b := by
  unfold Builtin.Range.rangeSize at hn
  rw [if_pos hc] at hn
  split at hn
  · have h1 : (i : Int) ≤ (b - a - 1) / c := by omega
    have h2 := (Int.le_ediv_iff_mul_le hc).mp h1
    omega
  · omega
theorem srs_size {a b c : Int} : ∃ n : Nat, Builtin.Range.rangeSize a b c = (n : Int) ∧ n ≤ (b - a).toNat + (a - b).toNat := ⟨_, rangeSize_toNat a b c, rangeSize_toNat_le a b c⟩
theorem lo63 {z : Int} (h : 0 ≤ z) (h' : z < 3000) : -2 ^ 63 ≤ z ∧ z < 2 ^ 63 := ⟨Int.le_trans (by decide) h, Int.lt_trans h' (by decide)⟩
theorem srs_small {a b c : Int} (ha : 0 ≤ a) (ha' : a < 1000) (hb : 0 ≤ b) (hb' : b < 1000) (hc : 0 < c) (hc' : c < 1000) : Builtin.Range.small a b c = true := by
  obtain ⟨n, e, hn⟩ := srs_size (a := a) (b := b) (c := c)
  unfold Builtin.Range.small
  rw [e]
  simp only [Builtin.Range.rangeFitsLong, Bool.and_eq_true, Bool.or_eq_true, decide_eq_true_eq, beq_iff_eq, show c > 0 from hc, if_true]
  have h1 : (b - a).toNat ≤ 1000 := Int.toNat_le.mpr (Int.le_trans (Int.sub_le_self b ha) (Int.le_of_lt hb'))
  have h2 : (a - b).toNat ≤ 1000 := Int.toNat_le.mpr (Int.le_trans (Int.sub_le_self a hb) (Int.le_of_lt ha'))
  have h3 : n < 3000 := Nat.lt_of_le_of_lt hn (Nat.lt_of_le_of_lt (Nat.add_le_add h1 h2) (by decide))
  have d : (1000 : Int) < 3000 := by decide
  have c1 : (0 : Int) ≤ c - 1 := Int.sub_nonneg_of_le hc
  have c2 : c - 1 < 1000 := Int.lt_of_le_of_lt (Int.sub_le_self c (by decide)) hc'
  exact ⟨⟨⟨⟨lo63 ha (Int.lt_trans ha' d), lo63 hb (Int.lt_trans hb' d)⟩, lo63 (Int.le_of_lt hc) (Int.lt_trans hc' d)⟩, lo63 (Int.natCast_nonneg n) (Int.ofNat_lt.mpr h3)⟩, .inr (lo63 (Int.add_nonneg hb c1) (Int.lt_trans (Int.add_lt_add hb' c2) (by decide)))⟩
section
variable {prog : Program} {w : World} {A : Around} {E : Value → Shared → Prop} {s : Shared} {h₀ : Heap} {L : Addr} {m : Str → Option Value} {env : Env}
def SrcS (prog : Program) (w : World) (A : Around) (h₀ : Heap) (L : Addr) (m : Str → Option Value) (env : Env) (elt : Expr) (x : Str) (scope : Scope) (cl : List (Str × Addr)) (Fin : Shared → List Value → List (Addr × Obj) → Prop) (xv : Value) (s₁ : Shared) : Prop :=
  ∃ r a b c t u v n news, xv = .ref r ∧ A.handled = none ∧ Fr h₀ L s₁.heap m ∧ News h₀ L s₁.heap news ∧ IsRange s₁.heap r a b c t u v ∧ Builtin.Range.small a b c = true ∧ Builtin.Range.rangeSize a b c = ((n : Nat) : Int) ∧ n ≤ sizeLine ∧
    ∀ s₂ : Shared, (∃ h, s₂ = { s₁ with heap := h }) → LCg.CompRest prog w A h₀ L m env elt x scope cl s₂ (fun _ => True) (fun i v => ∃ t, v = .int (a + (i : Int) * c) t) (Fin s₂) n 0 [] news
theorem SrcS.intro {elt : Expr} {x : Str} {scope : Scope} {cl : List (Str × Addr)} {Fin : Shared → List Value → List (Addr × Obj) → Prop} {r : Addr} {a b c : Int} {t u v : Tok} {n : Nat} {news : List (Addr × Obj)} {s₁ : Shared}
    (hh : A.handled = none) (F : Fr h₀ L s₁.heap m) (N : News h₀ L s₁.heap news) (hr : IsRange s₁.heap r a b c t u v) (hsm : Builtin.Range.small a b c = true) (hn : Builtin.Range.rangeSize a b c = ((n : Nat) : Int)) (hsz : n ≤ sizeLine)
    (h : ∀ g, LCg.CompRest prog w A h₀ L m env elt x scope cl { s₁ with heap := g } (fun _ => True) (fun i v => ∃ t, v = .int (a + (i : Int) * c) t) (Fin { s₁ with heap := g }) n 0 [] news) :
    SrcS prog w A h₀ L m env elt x scope cl Fin (.ref r) s₁ := ⟨r, a, b, c, t, u, v, n, news, rfl, hh, F, N, hr, hsm, hn, hsz, fun _ ⟨g, e⟩ => e ▸ h g⟩
theorem stepped_st {I : Addr} {a c : Int} {n : Nat} : ∀ i (h h' : Heap) (o : Obj) (nw : List (Addr × Obj)), IsRangeIter h I (a + (i : Nat) * c) ((n : Int) - (i : Nat)) c → h.get? I = some o → h'.get? I = some o → (∀ b o, h₀.get? b = some o → h'.get? b = some o) → News h₀ L h' nw → True → IsRangeIter h' I (a + (i : Nat) * c) ((n : Int) - (i : Nat)) c :=
  fun i h h' o nw st e e' _ _ _ => by
    have st' : h.get? I = some _ := st
    show h'.get? I = some _
    rw [e', ← e]; exact st'
theorem ListComp_S {elt iter : Expr} {x : Str} {px : Pos} {scope : Scope} {cl : List (Str × Addr)} {pos : Pos} {Q : Value → Shared → Prop} (F₀ : Fr h₀ L s.heap m)
    (hclos : closureFor scope env = pure cl) (hcell : ∀ y ∈ scope.names, y.2 ≠ .cell) (hkind : scope.kind = .function)
    (hnames : ∀ y ∈ scope.names, y.2 = .local → scope.names.lookup y.1 = some .local) (hx : scope.names.lookup x = some .local)
    (h : wpAny (model prog w) A (eval iter env) (SrcS prog w A h₀ L m env elt x scope cl (fun s₂ => LCg.FinE h₀ L m s₂ Q)) E s)
    (hs : ∀ x, foldedSetIterable iter env x = pure x := by intro _; rfl) :
    wpAny (model prog w) A (eval (.ListComp elt [⟨.Name x px, iter, [], 0⟩] scope pos) env) Q E s := by
  rw [eval_ListComp]
  refine wpAny_comprehension_free (use := none) rfl hs hclos hkind hnames (wpAny_mono h (fun xv s₁ h₁ => ?_) fun _ _ e => e)
  rcases h₁ with ⟨r, a, b, c, t, u, v, n, news, rfl, hh, F, N, hr, hsm, hn, hsz, R⟩
  · refine wpAny_pyIter_range hr hsm ?_
    refine LCg.block_U (Walks.range hh _ a c n) hsz (fun i h st => ⟨_, st⟩) stepped_st hcell hkind hx (by show IsRangeIter _ _ _ _ _; rw [hn]; simpa using Heap.get?_push_size _ rfl) (fun b hb => ?_)
      (F.keeps fun _ _ e => Heap.get?_push_of_some _ e) (N.grown fun _ _ e => Heap.get?_push_of_some _ e) (Nat.ne_of_lt F.ns.lt) (next_is_new F) (fun p hp => Nat.ne_of_lt (Heap.lt_size (N p hp).1)) trivial (R _ ⟨_, rfl⟩) ?_
    · rw [List.mem_singleton.mp hb]
      show s₁.heap.objs.size < (s₁.heap.push _).objs.size
      rw [Heap.size_push]; exact Nat.lt_succ_self _
    · intro D C h tk m' ys news' F' N' o1 hn hC₀ hD₀ hCL hDL hCD offC fin
      refine ⟨m', hn, fun h'' hs'' => fin D h'' tk (F'.change hs'' hCL hC₀) (fun p hp => ?_) o1⟩
      refine ⟨hs''.extBut _ _ ?_ (N' p hp).1, (N' p hp).2⟩
      rcases List.mem_cons.mp hp with rfl | hp
      · exact Ne.symm hCD
      · exact offC p hp
end

end
section

section
variable {prog : Program} {w : World} {A : Around} {E : Value → Shared → Prop} {s : Shared} {h₀ : Heap} {L D : Addr} {m : Str → Option Value} {news : List (Addr × Obj)} {cap : Nat}
theorem mul_four {u : Tok} {Q : Value → Shared → Prop} (F : Fr h₀ L s.heap m) (N : News h₀ L s.heap news) (hm : (D, W.listOf #[Value.none] cap) ∈ news)
    (h : ∀ b h', Fr h₀ L h' m → News h₀ L h' ((b, W.listOf #[Value.none, .none, .none, .none] 0) :: news) → (∀ p ∈ news, p.1 < b) → Q (.ref b) { s with heap := h' }) :
    wpAny (model prog w) A (binaryOp .Mult (.ref D) (.int 4 u)) Q E s := mul_none F N hm (by decide) (by decide) h
theorem mul_five {u : Tok} {Q : Value → Shared → Prop} (F : Fr h₀ L s.heap m) (N : News h₀ L s.heap news) (hm : (D, W.listOf #[Value.none] cap) ∈ news)
    (h : ∀ b h', Fr h₀ L h' m → News h₀ L h' ((b, W.listOf #[Value.none, .none, .none, .none, .none] 0) :: news) → (∀ p ∈ news, p.1 < b) → Q (.ref b) { s with heap := h' }) :
    wpAny (model prog w) A (binaryOp .Mult (.ref D) (.int 5 u)) Q E s := mul_none F N hm (by decide) (by decide) h
theorem add_zn {a b : Addr} {t c1 c2 : Nat} {Q : Value → Shared → Prop} (F : Fr h₀ L s.heap m) (N : News h₀ L s.heap news) (ha : (a, W.listOf #[Value.int 0 t] c1) ∈ news) (hb : (b, W.listOf #[Value.none, .none, .none, .none] c2) ∈ news)
    (h : ∀ D h', Fr h₀ L h' m → News h₀ L h' ((D, W.listOf #[Value.int 0 t, .none, .none, .none, .none] 0) :: news) → (∀ p ∈ news, p.1 < D) → Q (.ref D) { s with heap := h' }) :
    wpAny (model prog w) A (binaryOp .Add (.ref a) (.ref b)) Q E s := kmk_add_lit F N (isList_led N ha) (isList_led N hb) (zs := [Value.int 0 t, .none, .none, .none, .none]) rfl h (by rw [sizeLine_eq]; simp)
abbrev nestD : PyData := .list [.list [.int 0, .none, .none, .none, .none], .list [.none, .none, .none, .none, .none]]
theorem nest_shaped : SeqAt.shaped nestD = true := by
  show (PyData.canLay0 nestD && decide (PyData.depth nestD ≤ 64)) = true
  rw [Bool.and_eq_true]
  exact ⟨by simp [nestD, PyData.canLay0, PyData.canLayAll0], by simp [nestD, PyData.depth, PyData.depthAll]⟩
theorem nest_eqv : PyData.eqv nestD nestD = true := by simp [nestD, PyData.eqv, PyData.eqvAll]
theorem nest_reads {p a b : Addr} {t c1 c2 c3 : Nat} (N : News h₀ L s.heap news) (hp : (p, W.listOf #[Value.ref a, .ref b] c1) ∈ news) (ha : (a, W.listOf #[Value.int 0 t, .none, .none, .none, .none] c2) ∈ news) (hb : (b, W.listOf #[Value.none, .none, .none, .none, .none] c3) ∈ news) :
    ∃ as, Reads s.heap (.ref p) nestD as :=
  ⟨_, reads_list_at (N _ hp).1 rfl rfl (.cons (reads_list_at (N _ ha).1 rfl rfl (.cons (.int _ _) (none_reads 4))) (.cons (reads_list_at (N _ hb).1 rfl rfl (none_reads 5)) .nil))⟩
theorem ne_nest {p q a b a' b' : Addr} {t t' c1 c2 c3 c1' c2' c3' : Nat} {Q : Value → Shared → Prop} (N : News h₀ L s.heap news) (hp : (p, W.listOf #[Value.ref a, .ref b] c1) ∈ news) (hq : (q, W.listOf #[Value.ref a', .ref b'] c1') ∈ news)
    (ha : (a, W.listOf #[Value.int 0 t, .none, .none, .none, .none] c2) ∈ news) (hb : (b, W.listOf #[Value.none, .none, .none, .none, .none] c3) ∈ news)
    (ha' : (a', W.listOf #[Value.int 0 t', .none, .none, .none, .none] c2') ∈ news) (hb' : (b', W.listOf #[Value.none, .none, .none, .none, .none] c3') ∈ news) (hu : A.units + 64 < cLine) (h : Q (.bool false) s) :
    wpAny (model prog w) A (compareOp .NotEq (.ref p) (.ref q)) Q E s := by
  obtain ⟨_, r1⟩ := nest_reads N hp ha hb
  obtain ⟨_, r2⟩ := nest_reads N hq ha' hb'
  exact ne_dataH r1 r2 nest_shaped nest_shaped hu (by rw [nest_eqv]; exact h)
end

end
section
local macro_rules | `(tactic| walk_at "pyIter ref") => `(tactic| refine Hold.use ?_)
local macro_rules | `(tactic| walk_at "exec While") => `(tactic| refine Hold.use ?_)
local macro_rules | `(tactic| walk_at "exec For Name Call cons nil") => `(tactic| walk_at "for9")
local macro_rules | `(tactic| walk_at "exec For Name Name cons nil") => `(tactic| walk_at "for9")
section
local macro_rules | `(tactic| walk_at "call builtin:list.extend") => `(tactic| (k_here; (with_reducible show wpAny _ _ (call (Value.builtin _) [Value.ref _, Value.ref _]) _ _ _); k_dflt (first
  | (refine' extend_new ?F ?N ?m ?b ?hl ?hd ?z0 ?z1 ?z2 ?_; (case F | N => k_asm); (case m | b => k_mem); (case hl => assumption); (case hd => k_mem); (case z0 => first | exact Nat.succ_ne_zero _ | (simp; omega)); (case z1 | z2 => walk_at "size"); k_whole)
  | (refine' extend_led ?F ?N ?m ?b ?ne ?z0 ?z1 ?z2 ?_; (case F | N => k_asm); (case m | b => k_mem); (case ne => assumption); (case z0 => first | exact Nat.succ_ne_zero _ | (simp; omega)); (case z1 | z2 => walk_at "size"); k_whole)); intro h' F' N'; (try simp only [upd_upd] at N'); (try k_sweep)))
section
/-- what a source tells behind the first loop -/
structure First (σ : St) (bs : Nat → Nat) (vs : Nat → Things) (k : Nat) : Prop where
  sys : ∃ t, (vs k).sys = .int (k : Int) t
  pub : ∃ t, (vs k).pub = .int 0 t
  enc : ∃ t, (vs k).enc = .str (Str.ofString "x") t
  byt : (vs k).byt = .ref (bs k)
  chr : (vs k).chr = .ref (σ.xs k)


section
variable {w : World} {mg mb : Str → Option Value} {mean : ExcName → Option Value} {h₀ : Heap} {L fa : Addr} {cdv : Value} {m : Str → Option Value} {news : List (Addr × Obj)} {s : Shared} {σ : St}
theorem loop1 (B : Below callerA h₀ [] h₀) (X : (Mine.hd.heap_39 w.params).In h₀) (T : Top Mine.hd.view_39 (looseW Mine.hd.view_39 []) mean mg mb h₀) (F : Fr h₀ L s.heap m) (N : News h₀ L s.heap news) (I : σ.In w.params news) (hn : 3 ≤ σ.n ∧ σ.n ≤ 40) (hnb : σ.nb = 0) (hbl : σ.bl = fun _ => []) (hal : σ.al = []) (hok : ∀ k, k < σ.n → (σ.vs k).Ok) {tn : Nat} (hN : σ.oN.data = .cell (some (.int (σ.n : Int) tn))) (haN : σ.aN = L + 1 + 1)
    (hm : ∀ p ∈ [(Str.ofString "targets", Value.ref σ.aT), (Str.ofString "sources", Value.ref σ.aS), (Str.ofString "froms", Value.ref σ.aF), (Str.ofString "answers", Value.ref σ.aA)], m p.1 = some p.2) :
    wpAny (model PySem.Challenge.rw_kn0107_01.row.prog w) (callerA.deeper (lawEnv L fa cdv)) (exec (lawStmt 7) (lawEnv L fa cdv))
      (Next h₀ L s fun m' news' => (∀ p ∈ [(Str.ofString "targets", Value.ref σ.aT), (Str.ofString "sources", Value.ref σ.aS), (Str.ofString "froms", Value.ref σ.aF), (Str.ofString "answers", Value.ref σ.aA)], m' p.1 = some p.2) ∧ ∃ (bs bc : Nat → Nat) (vs : Nat → Things) (al : List Value) (cA : Nat), (∀ k, k < σ.n → First σ bs vs k) ∧ (∀ k, k < σ.n → (vs k).Ok) ∧ al = List.replicate (5 * σ.n) Value.none ∧
        St.In w.params { σ with nb := σ.n, bs := bs, bl := fun _ => [], bc := bc, vs := vs, al := al, cA := cA } news') (fun _ _ => False) s := by
  unfold lawEnv
  conv in lawStmt _ => whnf
  conv in (occs := *) lawScope => all_goals whnf
  revert X; k_fill; intro X

  obtain ⟨u1, F1⟩ := fr_kst _ F hm
  have hNm : (L + 1 + 1, σ.oN) ∈ news := haN ▸ I.N
  k_steps
  rename_i R F2 N2 K2
  refine ⟨iter_rangeJ (fun i m₁ news₁ => (∀ p ∈ [(Str.ofString "targets", Value.ref σ.aT), (Str.ofString "sources", Value.ref σ.aS), (Str.ofString "froms", Value.ref σ.aF), (Str.ofString "answers", Value.ref σ.aA)], m₁ p.1 = some p.2) ∧ ∃ (bs bc : Nat → Nat) (vs : Nat → Things) (al : List Value) (cA : Nat), (∀ k, k < i → First σ bs vs k) ∧ (∀ k, k < σ.n → (vs k).Ok) ∧ al = List.replicate (5 * i) Value.none ∧
        St.In w.params { σ with nb := i, bs := bs, bl := fun _ => [], bc := bc, vs := vs, al := al, cA := cA } news₁) (n := σ.n) rfl R (range_small hn.2) range_size F2 N2 ?_ ?_ ?_⟩
  · refine ⟨by intro p hp; simp only [List.mem_cons, List.not_mem_nil, or_false] at hp; rcases hp with rfl | rfl | rfl | rfl <;> with_unfolding_all rfl, σ.bs, σ.bc, σ.vs, σ.al, σ.cA, fun k h => absurd h (Nat.not_lt_zero _), hok, hal, ?_⟩
    rw [← hbl, ← hnb]; exact I
  · rintro j tj m₁ news₁ h₁ tk₁ Ia oI hj hoI ⟨hm, bs, bc, vs, al, cA, hfst, hvok, hale, I1⟩ hoff FT NT
    rw [Int.zero_add] at FT
    obtain ⟨u2, F3⟩ := fr_kst ((Str.ofString "k", Value.int (j : Int) tj) :: [(Str.ofString "targets", Value.ref σ.aT), (Str.ofString "sources", Value.ref σ.aS), (Str.ofString "froms", Value.ref σ.aF), (Str.ofString "answers", Value.ref σ.aA)]) FT (by
      intro p hp; rcases List.mem_cons.mp hp with rfl | hp
      · exact if_pos rfl
      · have := hm p hp
        simp only [List.mem_cons, List.not_mem_nil, or_false] at hp; rcases hp with rfl | rfl | rfl | rfl <;> exact this)
    have hS := I1.S
    have hA := I1.A
    have hXj := I1.X hj
    have hDj := I1.D hj
    dsimp only at hS hA hXj hDj
    have nXD : @Ne Nat (σ.xs j) (σ.ds j) := I1.ne (.X j) (.D j) hj hj (by simp)
    have nXA : @Ne Nat (σ.xs j) σ.aA := I1.ne (.X j) .A hj trivial (by simp)
    have nDA : @Ne Nat (σ.ds j) σ.aA := I1.ne (.D j) .A hj trivial (by simp)
    have nSA : @Ne Nat σ.aS σ.aA := I1.ne .S .A trivial trivial (by simp)
    have nSD : @Ne Nat σ.aS (σ.ds j) := I1.ne .S (.D j) trivial hj (by simp)
    have hxj : (arr σ.n fun i => Value.ref (σ.xs i))[((j : Nat) : Int).toNat]? = some (Value.ref (σ.xs j)) := by rw [Int.toNat_natCast, arr_get hj]
    have nIA : @Ne Nat Ia σ.aA := fun e => hoff _ hA e.symm
    have nID : @Ne Nat Ia (σ.ds j) := fun e => hoff _ hDj e.symm
    have hlen : al.length = 5 * j := by rw [hale, List.length_replicate]
    clear FT F2 N2 R K2 hm
    k_steps
    rename_i _ tkP _ tkE _ _ l2 _ q2 _ _ b _ qb _ _ _ _ l3 _ q3 _ FE NE
    have qn : ∀ p ∈ news₁, p.1 < b := lt_tail (lt_upd (lt_tail (lt_upd qb)))
    have qI : Ia < b := lt_upd (lt_tail (lt_upd qb)) (Ia, oI) (.head _)
    have nbA : @Ne Nat b σ.aA := Nat.ne_of_gt (qn _ hA)
    have nbD : @Ne Nat b (σ.ds j) := Nat.ne_of_gt (qn _ hDj)
    have J1 := I1.turn1 (k := j) (b := b) (v := ⟨Value.int (j : Int) tj, Value.int 0 tkP, Value.str (Str.ofString "x") tkE, Value.ref b, Value.ref (σ.xs j)⟩) (c := 0) (final := off Ia (ledOf NE)) rfl hj (mem_off (by k_mem) (hoff _ hDj)) (mem_off (by k_mem) (hoff _ hA)) (mem_off (by k_mem) (Nat.ne_of_gt qI)) (fun p hp => Nat.ne_of_lt (qn p hp))
      (fun p hp h1 h2 => mem_offp (by repeat (first | exact hp | refine mem_updp ?_ (by assumption) | refine List.mem_cons_of_mem _ ?_)) (hoff p hp))
    dsimp only at J1
    rw [put_const] at J1
    refine ⟨_, _, _, _, rfl, FE, NE, ?_, by intro p hp; simp only [List.mem_cons, List.not_mem_nil, or_false] at hp; rcases hp with rfl | rfl | rfl | rfl <;> with_unfolding_all rfl, _, _, _, _, _, ?_, ?_, ?_, J1⟩
    · intro p hp; rw [List.mem_singleton.mp hp]; k_mem
    · intro k hk
      rcases Nat.lt_or_ge k j with h | h
      · have h0 := hfst k h
        have e : k ≠ j := by omega
        exact ⟨by rw [put_ne e]; exact h0.sys, by rw [put_ne e]; exact h0.pub, by rw [put_ne e]; exact h0.enc, by rw [put_ne e, put_ne e]; exact h0.byt, by rw [put_ne e]; exact h0.chr⟩
      · obtain rfl : k = j := by omega
        exact ⟨by rw [put_at]; exact ⟨_, rfl⟩, by rw [put_at]; exact ⟨_, rfl⟩, by rw [put_at]; exact ⟨_, rfl⟩, by rw [put_at, put_at], by rw [put_at]⟩
    · intro k hk
      by_cases e : k = j
      · subst e; rw [put_at]; exact ⟨rfl, rfl, rfl, rfl, rfl⟩
      · rw [put_ne e]; exact hvok k hk
    · rw [hale, show ([Value.none, Value.none, Value.none] : List Value) = List.replicate 3 Value.none from rfl, show ([Value.none, Value.none] : List Value) = List.replicate 2 Value.none from rfl, rep_more, rep_more]
      congr 1
  · rintro m₁ news₁ h₁ tk₁ HJ FT NT
    exact ⟨rfl, _, _, _, _, rfl, FT, NT, HJ⟩
end

end
section
section
variable {w : World} {mg mb : Str → Option Value} {mean : ExcName → Option Value} {h₀ : Heap} {L fa : Addr} {cdv : Value} {m : Str → Option Value} {news : List (Addr × Obj)} {s : Shared} {σ : St}
theorem loop2 (B : Below callerA h₀ [] h₀) (X : (Mine.hd.heap_39 w.params).In h₀) (T : Top Mine.hd.view_39 (looseW Mine.hd.view_39 []) mean mg mb h₀) (F : Fr h₀ L s.heap m) (N : News h₀ L s.heap news) (I : σ.In w.params news) (hn : 3 ≤ σ.n ∧ σ.n ≤ 40) (hnb : σ.nb = σ.n) (hnx : ∀ i, i < σ.n → ∀ j, σ.nx i = some j → j < σ.n) (hfst : ∀ k, k < σ.n → First σ σ.bs σ.vs k) (hok : ∀ k, k < σ.n → (σ.vs k).Ok) (hbl : σ.bl = fun _ => []) (hgl : ∀ k, k < σ.n → σ.gl k = []) (hal : σ.al = List.replicate (5 * σ.n) Value.none)
    {tn : Nat} (hN : σ.oN.data = .cell (some (.int (σ.n : Int) tn))) (haN : σ.aN = L + 1 + 1) (hm : ∀ p ∈ [(Str.ofString "targets", Value.ref σ.aT), (Str.ofString "sources", Value.ref σ.aS), (Str.ofString "froms", Value.ref σ.aF), (Str.ofString "answers", Value.ref σ.aA)], m p.1 = some p.2) :
    wpAny (model PySem.Challenge.rw_kn0107_01.row.prog w) (callerA.deeper (lawEnv L fa cdv)) (exec (lawStmt 8) (lawEnv L fa cdv))
      (Next h₀ L s fun m' news' => (∀ p ∈ [(Str.ofString "targets", Value.ref σ.aT), (Str.ofString "sources", Value.ref σ.aS), (Str.ofString "froms", Value.ref σ.aF), (Str.ofString "answers", Value.ref σ.aA)], m' p.1 = some p.2) ∧ ∃ (vs : Nat → Things) (bl : Nat → List Value) (bc : Nat → Nat) (gl : Nat → List Value) (gc : Nat → Nat) (al : List Value) (cA q : Nat), Second σ σ.n vs bl gl ∧ al = List.replicate q Value.none ∧ q ≤ 5 * σ.n + 3 * σ.n ∧
        St.In w.params { σ with vs := vs, bl := bl, bc := bc, gl := gl, gc := gc, al := al, cA := cA } news') (fun _ _ => False) s := by
  unfold lawEnv
  conv in lawStmt _ => whnf
  conv in (occs := *) lawScope => all_goals whnf
  revert X; k_fill; intro X

  obtain ⟨u1, F1⟩ := fr_kst _ F hm
  have hNm : (L + 1 + 1, σ.oN) ∈ news := haN ▸ I.N
  k_steps
  rename_i R F2 N2 K2
  refine ⟨iter_rangeJ (fun i m₁ news₁ => (∀ p ∈ [(Str.ofString "targets", Value.ref σ.aT), (Str.ofString "sources", Value.ref σ.aS), (Str.ofString "froms", Value.ref σ.aF), (Str.ofString "answers", Value.ref σ.aA)], m₁ p.1 = some p.2) ∧ ∃ (vs : Nat → Things) (bl : Nat → List Value) (bc : Nat → Nat) (gl : Nat → List Value) (gc : Nat → Nat) (al : List Value) (cA q : Nat), Second σ i vs bl gl ∧ al = List.replicate q Value.none ∧ q ≤ 5 * σ.n + 3 * i ∧
        St.In w.params { σ with vs := vs, bl := bl, bc := bc, gl := gl, gc := gc, al := al, cA := cA } news₁) (n := σ.n) rfl R (range_small hn.2) range_size F2 N2 ?_ ?_ ?_⟩
  · refine ⟨by intro p hp; simp only [List.mem_cons, List.not_mem_nil, or_false] at hp; rcases hp with rfl | rfl | rfl | rfl <;> with_unfolding_all rfl, σ.vs, σ.bl, σ.bc, σ.gl, σ.gc, σ.al, σ.cA, 5 * σ.n, ?_, hal, by omega, I⟩
    refine ⟨fun k hk => (hfst k hk).sys, fun k hk => (hfst k hk).pub, fun k hk => (hfst k hk).byt, fun k h => absurd h (Nat.not_lt_zero _), fun k h => absurd h (Nat.not_lt_zero _), hok, fun k hk => by rw [hbl]; rfl, fun k hk => by rw [hgl k hk]; exact .nil⟩
  · rintro j tj m₁ news₁ h₁ tk₁ Ia oI hj hoI ⟨hm, vs, bl, bc, gl, gc, al, cA, q, S2, hale, hq, I1⟩ hoff FT NT
    rw [Int.zero_add] at FT
    obtain ⟨u2, F3⟩ := fr_kst ((Str.ofString "k", Value.int (j : Int) tj) :: [(Str.ofString "targets", Value.ref σ.aT), (Str.ofString "sources", Value.ref σ.aS), (Str.ofString "froms", Value.ref σ.aF), (Str.ofString "answers", Value.ref σ.aA)]) FT (by
      intro p hp; rcases List.mem_cons.mp hp with rfl | hp
      · exact if_pos rfl
      · have := hm p hp
        simp only [List.mem_cons, List.not_mem_nil, or_false] at hp; rcases hp with rfl | rfl | rfl | rfl <;> exact this)
    have hS := I1.S
    have hT := I1.T
    have hF := I1.F
    have hA := I1.A
    have hXj := I1.X hj
    have hDj := I1.D hj
    dsimp only at hS hT hF hA hXj hDj
    have hxj : (arr σ.n fun i => Value.ref (σ.xs i))[((j : Nat) : Int).toNat]? = some (Value.ref (σ.xs j)) := by rw [Int.toNat_natCast, arr_get hj]
    have hlen : al.length = q := by rw [hale, List.length_replicate]
    clear FT F2 N2 R K2 hm
    cases e : σ.nx j with
    | none =>
      have htj : (arr σ.n (tvOf σ.nx σ.kt))[((j : Nat) : Int).toNat]? = some Value.none := by rw [Int.toNat_natCast, arr_get hj]; unfold tvOf; rw [e]
      have nSDj : @Ne Nat σ.aS (σ.ds j) := I1.ne .S (.D j) trivial hj (by simp)
      have nSA : @Ne Nat σ.aS σ.aA := I1.ne .S .A trivial trivial (by simp)
      have nTDj : @Ne Nat σ.aT (σ.ds j) := I1.ne .T (.D j) trivial hj (by simp)
      have nTA : @Ne Nat σ.aT σ.aA := I1.ne .T .A trivial trivial (by simp)
      have nXjDj : @Ne Nat (σ.xs j) (σ.ds j) := I1.ne (.X j) (.D j) hj hj (by simp)
      have nXjA : @Ne Nat (σ.xs j) σ.aA := I1.ne (.X j) .A hj trivial (by simp)
      have nDjA : @Ne Nat (σ.ds j) σ.aA := I1.ne (.D j) .A hj trivial (by simp)
      have nIDj : @Ne Nat Ia (σ.ds j) := fun e => hoff ((σ.ds j), _) hDj e.symm
      have nIA : @Ne Nat Ia σ.aA := fun e => hoff (σ.aA, _) hA e.symm
      k_steps
      all_goals (
        rename Fr _ _ _ _ => FE
        rename News _ _ _ _ => NE
        have J1 := I1.turn2n (k := j) (v := ⟨(vs j).sys, (vs j).pub, Value.none, (vs j).byt, Value.none⟩) (final := off Ia (ledOf NE)) hj (mem_off (by k_mem) (Ne.symm nIDj)) (mem_off (by k_mem) (Ne.symm nIA))
          (fun p hp h1 h2 => mem_offp (by repeat (first | exact hp | refine mem_updp ?_ (by assumption) | refine List.mem_cons_of_mem _ ?_)) (hoff p hp))
        dsimp only at J1
        refine ⟨_, _, _, _, rfl, FE, NE, ?_, by intro p hp; simp only [List.mem_cons, List.not_mem_nil, or_false] at hp; rcases hp with rfl | rfl | rfl | rfl <;> with_unfolding_all rfl, _, _, _, _, _, _, _, q + 2, S2.none hj e rfl, ?_, by omega, J1⟩
        · intro p hp; rw [List.mem_singleton.mp hp]; k_mem
        · rw [hale, show ([Value.none, Value.none] : List Value) = List.replicate 2 Value.none from rfl, rep_more])
    | some t =>
      have ht := hnx j hj t e
      have htb : t < σ.nb := by omega
      have htj : (arr σ.n (tvOf σ.nx σ.kt))[((j : Nat) : Int).toNat]? = some (Value.int (t : Int) (σ.kt j)) := by rw [Int.toNat_natCast, arr_get hj]; unfold tvOf; rw [e]
      have hxt : (arr σ.n fun i => Value.ref (σ.xs i))[((t : Nat) : Int).toNat]? = some (Value.ref (σ.xs t)) := by rw [Int.toNat_natCast, arr_get ht]
      have hgt : (arr σ.n fun i => Value.ref (σ.gs i))[((t : Nat) : Int).toNat]? = some (Value.ref (σ.gs t)) := by rw [Int.toNat_natCast, arr_get ht]
      have hXt := I1.X ht
      have hDt0 := I1.D ht
      have hBt := I1.B htb
      have hGt := I1.G ht
      dsimp only at hXt hDt0 hBt hGt
      obtain ⟨tp, hpub⟩ := S2.pub t ht
      have hbyt := S2.byt t ht
      have hsrc : (srcs σ.nx j t).length ≤ 40 := by
        have := List.length_filter_le (fun q => decide (σ.nx q = some t)) (List.range j)
        rw [List.length_range] at this
        unfold srcs; omega
      have hbll : (bl t).length ≤ 40 := by rw [S2.bl t ht, List.length_map]; exact hsrc
      have hgll : (gl t).length ≤ 40 := by rw [(S2.gl t ht).length, List.length_map]; exact hsrc
      by_cases hjt : t = j
      · subst hjt
        have hD' : (σ.ds t, dictOf (ents w.params (σ.ts t) ⟨(vs t).sys, .int ((srcs σ.nx t t).length : Int) tp, (vs t).enc, .ref (σ.bs t), (vs t).chr⟩) 5) ∈ news₁ := by
          rw [← Things.withs hpub hbyt]; exact hDt0
        clear hDj
        have nSDt : @Ne Nat σ.aS (σ.ds t) := I1.ne .S (.D t) trivial ht (by simp)
        have nSA : @Ne Nat σ.aS σ.aA := I1.ne .S .A trivial trivial (by simp)
        have nSBt : @Ne Nat σ.aS (σ.bs t) := I1.ne .S (.B t) trivial htb (by simp)
        have nSGt : @Ne Nat σ.aS (σ.gs t) := I1.ne .S (.G t) trivial ht (by simp)
        have nTDt : @Ne Nat σ.aT (σ.ds t) := I1.ne .T (.D t) trivial ht (by simp)
        have nTA : @Ne Nat σ.aT σ.aA := I1.ne .T .A trivial trivial (by simp)
        have nTBt : @Ne Nat σ.aT (σ.bs t) := I1.ne .T (.B t) trivial htb (by simp)
        have nTGt : @Ne Nat σ.aT (σ.gs t) := I1.ne .T (.G t) trivial ht (by simp)
        have nFDt : @Ne Nat σ.aF (σ.ds t) := I1.ne .F (.D t) trivial ht (by simp)
        have nFA : @Ne Nat σ.aF σ.aA := I1.ne .F .A trivial trivial (by simp)
        have nFBt : @Ne Nat σ.aF (σ.bs t) := I1.ne .F (.B t) trivial htb (by simp)
        have nFGt : @Ne Nat σ.aF (σ.gs t) := I1.ne .F (.G t) trivial ht (by simp)
        have nXtDt : @Ne Nat (σ.xs t) (σ.ds t) := I1.ne (.X t) (.D t) ht ht (by simp)
        have nXtA : @Ne Nat (σ.xs t) σ.aA := I1.ne (.X t) .A ht trivial (by simp)
        have nXtBt : @Ne Nat (σ.xs t) (σ.bs t) := I1.ne (.X t) (.B t) ht htb (by simp)
        have nXtGt : @Ne Nat (σ.xs t) (σ.gs t) := I1.ne (.X t) (.G t) ht ht (by simp)
        have nDtA : @Ne Nat (σ.ds t) σ.aA := I1.ne (.D t) .A ht trivial (by simp)
        have nDtBt : @Ne Nat (σ.ds t) (σ.bs t) := I1.ne (.D t) (.B t) ht htb (by simp)
        have nDtGt : @Ne Nat (σ.ds t) (σ.gs t) := I1.ne (.D t) (.G t) ht ht (by simp)
        have nABt : @Ne Nat σ.aA (σ.bs t) := I1.ne .A (.B t) trivial htb (by simp)
        have nAGt : @Ne Nat σ.aA (σ.gs t) := I1.ne .A (.G t) trivial ht (by simp)
        have nBtGt : @Ne Nat (σ.bs t) (σ.gs t) := I1.ne (.B t) (.G t) htb ht (by simp)
        have nIDt : @Ne Nat Ia (σ.ds t) := fun e => hoff ((σ.ds t), _) hDt0 e.symm
        have nIA : @Ne Nat Ia σ.aA := fun e => hoff (σ.aA, _) hA e.symm
        have nIBt : @Ne Nat Ia (σ.bs t) := fun e => hoff ((σ.bs t), _) hBt e.symm
        have nIGt : @Ne Nat Ia (σ.gs t) := fun e => hoff ((σ.gs t), _) hGt e.symm
        clear hDt0
        k_steps
        all_goals (
          rename Fr _ _ _ _ => FE
          rename News _ _ _ _ => NE
          try simp only [List.push_toArray] at NE
          have J1 := I1.turn2s (k := t) (j := t) (v := ⟨(vs t).sys, (vs t).pub, Value.int (t : Int) (σ.kt t), (vs t).byt, Value.ref (σ.xs t)⟩) (u := ⟨(vs t).sys, Value.int ((srcs σ.nx t t).length + 1 : Int) _, Value.int (t : Int) (σ.kt t), Value.ref (σ.bs t), Value.ref (σ.xs t)⟩) (final := off Ia (ledOf NE)) hj hj htb
            (by rw [put_at]; exact mem_off (by k_mem) (Ne.symm nIDt)) (mem_off (by k_mem) (Ne.symm nIDt)) (mem_off (by k_mem) (Ne.symm nIA)) (mem_off (by k_mem) (Ne.symm nIBt)) (mem_off (by k_mem) (Ne.symm nIGt))
            (fun p hp h1 h2 h3 h4 h5 => mem_offp (by repeat (first | exact hp | refine mem_updp ?_ (by assumption) | refine List.mem_cons_of_mem _ ?_)) (hoff p hp))
          dsimp only at J1
          refine ⟨_, _, _, _, rfl, FE, NE, ?_, by intro p hp; simp only [List.mem_cons, List.not_mem_nil, or_false] at hp; rcases hp with rfl | rfl | rfl | rfl <;> with_unfolding_all rfl, _, _, _, _, _, _, _, q + 3, S2.some hj hj e rfl rfl (by rw [put_at, hbyt]), ?_, by omega, J1⟩
          · intro p hp; rw [List.mem_singleton.mp hp]; k_mem
          · rw [hale, show ([Value.none, Value.none] : List Value) = List.replicate 2 Value.none from rfl, show ([Value.none] : List Value) = List.replicate 1 Value.none from rfl, rep_more, rep_more])
      · have hDt : (σ.ds t, dictOf (ents w.params (σ.ts t) ⟨(vs t).sys, .int ((srcs σ.nx j t).length : Int) tp, (vs t).enc, .ref (σ.bs t), (vs t).chr⟩) 5) ∈ news₁ := by
          rw [← Things.withs hpub hbyt]; exact hDt0
        have nSDj : @Ne Nat σ.aS (σ.ds j) := I1.ne .S (.D j) trivial hj (by simp)
        have nSDt : @Ne Nat σ.aS (σ.ds t) := I1.ne .S (.D t) trivial ht (by simp)
        have nSA : @Ne Nat σ.aS σ.aA := I1.ne .S .A trivial trivial (by simp)
        have nSBt : @Ne Nat σ.aS (σ.bs t) := I1.ne .S (.B t) trivial htb (by simp)
        have nSGt : @Ne Nat σ.aS (σ.gs t) := I1.ne .S (.G t) trivial ht (by simp)
        have nTDj : @Ne Nat σ.aT (σ.ds j) := I1.ne .T (.D j) trivial hj (by simp)
        have nTDt : @Ne Nat σ.aT (σ.ds t) := I1.ne .T (.D t) trivial ht (by simp)
        have nTA : @Ne Nat σ.aT σ.aA := I1.ne .T .A trivial trivial (by simp)
        have nTBt : @Ne Nat σ.aT (σ.bs t) := I1.ne .T (.B t) trivial htb (by simp)
        have nTGt : @Ne Nat σ.aT (σ.gs t) := I1.ne .T (.G t) trivial ht (by simp)
        have nFDj : @Ne Nat σ.aF (σ.ds j) := I1.ne .F (.D j) trivial hj (by simp)
        have nFDt : @Ne Nat σ.aF (σ.ds t) := I1.ne .F (.D t) trivial ht (by simp)
        have nFA : @Ne Nat σ.aF σ.aA := I1.ne .F .A trivial trivial (by simp)
        have nFBt : @Ne Nat σ.aF (σ.bs t) := I1.ne .F (.B t) trivial htb (by simp)
        have nFGt : @Ne Nat σ.aF (σ.gs t) := I1.ne .F (.G t) trivial ht (by simp)
        have nXjDj : @Ne Nat (σ.xs j) (σ.ds j) := I1.ne (.X j) (.D j) hj hj (by simp)
        have nXjDt : @Ne Nat (σ.xs j) (σ.ds t) := I1.ne (.X j) (.D t) hj ht (by simp)
        have nXjA : @Ne Nat (σ.xs j) σ.aA := I1.ne (.X j) .A hj trivial (by simp)
        have nXjBt : @Ne Nat (σ.xs j) (σ.bs t) := I1.ne (.X j) (.B t) hj htb (by simp)
        have nXjGt : @Ne Nat (σ.xs j) (σ.gs t) := I1.ne (.X j) (.G t) hj ht (by simp)
        have nXtDj : @Ne Nat (σ.xs t) (σ.ds j) := I1.ne (.X t) (.D j) ht hj (by simp)
        have nXtDt : @Ne Nat (σ.xs t) (σ.ds t) := I1.ne (.X t) (.D t) ht ht (by simp)
        have nXtA : @Ne Nat (σ.xs t) σ.aA := I1.ne (.X t) .A ht trivial (by simp)
        have nXtBt : @Ne Nat (σ.xs t) (σ.bs t) := I1.ne (.X t) (.B t) ht htb (by simp)
        have nXtGt : @Ne Nat (σ.xs t) (σ.gs t) := I1.ne (.X t) (.G t) ht ht (by simp)
        have nDjDt : @Ne Nat (σ.ds j) (σ.ds t) := I1.ne (.D j) (.D t) hj ht (by intro h; exact hjt (Slot.D.inj h).symm)
        have nDjA : @Ne Nat (σ.ds j) σ.aA := I1.ne (.D j) .A hj trivial (by simp)
        have nDjBt : @Ne Nat (σ.ds j) (σ.bs t) := I1.ne (.D j) (.B t) hj htb (by simp)
        have nDjGt : @Ne Nat (σ.ds j) (σ.gs t) := I1.ne (.D j) (.G t) hj ht (by simp)
        have nDtA : @Ne Nat (σ.ds t) σ.aA := I1.ne (.D t) .A ht trivial (by simp)
        have nDtBt : @Ne Nat (σ.ds t) (σ.bs t) := I1.ne (.D t) (.B t) ht htb (by simp)
        have nDtGt : @Ne Nat (σ.ds t) (σ.gs t) := I1.ne (.D t) (.G t) ht ht (by simp)
        have nABt : @Ne Nat σ.aA (σ.bs t) := I1.ne .A (.B t) trivial htb (by simp)
        have nAGt : @Ne Nat σ.aA (σ.gs t) := I1.ne .A (.G t) trivial ht (by simp)
        have nBtGt : @Ne Nat (σ.bs t) (σ.gs t) := I1.ne (.B t) (.G t) htb ht (by simp)
        have nIDj : @Ne Nat Ia (σ.ds j) := fun e => hoff ((σ.ds j), _) hDj e.symm
        have nIDt : @Ne Nat Ia (σ.ds t) := fun e => hoff ((σ.ds t), _) hDt0 e.symm
        have nIA : @Ne Nat Ia σ.aA := fun e => hoff (σ.aA, _) hA e.symm
        have nIBt : @Ne Nat Ia (σ.bs t) := fun e => hoff ((σ.bs t), _) hBt e.symm
        have nIGt : @Ne Nat Ia (σ.gs t) := fun e => hoff ((σ.gs t), _) hGt e.symm
        clear hDt0
        k_steps
        all_goals (
          rename Fr _ _ _ _ => FE
          rename News _ _ _ _ => NE
          try simp only [List.push_toArray] at NE
          have J1 := I1.turn2s (k := j) (j := t) (v := ⟨(vs j).sys, (vs j).pub, Value.int (t : Int) (σ.kt j), (vs j).byt, Value.ref (σ.xs t)⟩) (u := ⟨(vs t).sys, Value.int ((srcs σ.nx j t).length + 1 : Int) _, (vs t).enc, Value.ref (σ.bs t), (vs t).chr⟩) (final := off Ia (ledOf NE)) hj ht htb
            (by rw [put_ne (fun e' => hjt e'.symm), put_at]; exact mem_off (by k_mem) (Ne.symm nIDj)) (mem_off (by k_mem) (Ne.symm nIDt)) (mem_off (by k_mem) (Ne.symm nIA)) (mem_off (by k_mem) (Ne.symm nIBt)) (mem_off (by k_mem) (Ne.symm nIGt))
            (fun p hp h1 h2 h3 h4 h5 => mem_offp (by repeat (first | exact hp | refine mem_updp ?_ (by assumption) | refine List.mem_cons_of_mem _ ?_)) (hoff p hp))
          dsimp only at J1
          refine ⟨_, _, _, _, rfl, FE, NE, ?_, by intro p hp; simp only [List.mem_cons, List.not_mem_nil, or_false] at hp; rcases hp with rfl | rfl | rfl | rfl <;> with_unfolding_all rfl, _, _, _, _, _, _, _, q + 3, S2.some hj ht e rfl rfl (by rw [put_ne hjt, hbyt]), ?_, by omega, J1⟩
          · intro p hp; rw [List.mem_singleton.mp hp]; k_mem
          · rw [hale, show ([Value.none, Value.none] : List Value) = List.replicate 2 Value.none from rfl, show ([Value.none] : List Value) = List.replicate 1 Value.none from rfl, rep_more, rep_more])
  · rintro m₁ news₁ h₁ tk₁ HJ FT NT
    exact ⟨rfl, _, _, _, _, rfl, FT, NT, HJ⟩
end

end
end
section
-- MACROSK
local macro_rules | `(tactic| k_mem) => `(tactic| (refine sub_mem (by with_reducible assumption) ?_; k_mem))
-- END MACROSK
local macro_rules | `(tactic| walk_at "call ref") => `(tactic| refine Hold.use ?_)
local macro_rules | `(tactic| walk_at "call builtin:list.extend") => `(tactic| refine Hold.use ?_)
section
variable {w : World} {mg mb : Str → Option Value} {mean : ExcName → Option Value} {h₀ : Heap} {L fa : Addr} {cdv : Value} {m : Str → Option Value} {news : List (Addr × Obj)} {s : Shared} {σ : St}
theorem loop3 (B : Below callerA h₀ [] h₀) (X : (Mine.hd.heap_39 w.params).In h₀) (T : Top Mine.hd.view_39 (looseW Mine.hd.view_39 []) mean mg mb h₀) (F : Fr h₀ L s.heap m) (N : News h₀ L s.heap news) (I : σ.In w.params news) (hn : 3 ≤ σ.n ∧ σ.n ≤ 40) (hok : ∀ k, k < σ.n → (σ.vs k).Ok) {q₀ : Nat} (hal : σ.al = List.replicate q₀ Value.none) (hq₀ : q₀ ≤ 8 * σ.n)
    {tn : Nat} (hN : σ.oN.data = .cell (some (.int (σ.n : Int) tn))) (haN : σ.aN = L + 1 + 1) (hm : ∀ p ∈ [(Str.ofString "targets", Value.ref σ.aT), (Str.ofString "sources", Value.ref σ.aS), (Str.ofString "froms", Value.ref σ.aF), (Str.ofString "answers", Value.ref σ.aA)], m p.1 = some p.2) :
    wpAny (model PySem.Challenge.rw_kn0107_01.row.prog w) (callerA.deeper (lawEnv L fa cdv)) (exec (lawStmt 10) (lawEnv L fa cdv))
      (Next h₀ L s fun m' news' => (∀ p ∈ [(Str.ofString "targets", Value.ref σ.aT), (Str.ofString "sources", Value.ref σ.aS), (Str.ofString "froms", Value.ref σ.aF), (Str.ofString "answers", Value.ref σ.aA)], m' p.1 = some p.2) ∧ ∃ (al : List Value) (cA q : Nat), al = List.replicate q Value.none ∧ q ≤ 8 * σ.n + 50 ∧ St.In w.params { σ with al := al, cA := cA } news') (fun _ _ => False) s := by
  unfold lawEnv
  conv in lawStmt _ => whnf
  conv in (occs := *) lawScope => all_goals whnf
  revert X; k_fill; intro X

  obtain ⟨u1, F1⟩ := fr_kst _ F hm
  have hNm : (L + 1 + 1, σ.oN) ∈ news := haN ▸ I.N
  k_steps
  rename_i R F2 N2 K2
  have e : (if (10 : Int) < (σ.n : Int) then (10 : Int) else (σ.n : Int)) = ((min σ.n 10 : Nat) : Int) := min10
  rw [e] at R
  refine ⟨iter_rangeJ (fun i m₁ news₁ => (∀ p ∈ [(Str.ofString "targets", Value.ref σ.aT), (Str.ofString "sources", Value.ref σ.aS), (Str.ofString "froms", Value.ref σ.aF), (Str.ofString "answers", Value.ref σ.aA)], m₁ p.1 = some p.2) ∧ ∃ (al : List Value) (cA q : Nat), al = List.replicate q Value.none ∧ q ≤ 8 * σ.n + 5 * i ∧ St.In w.params { σ with al := al, cA := cA } news₁) (n := min σ.n 10) rfl R (range_small (Nat.le_trans (Nat.min_le_left _ _) hn.2)) range_size F2 N2 ?_ ?_ ?_⟩
  · exact ⟨by intro p hp; simp only [List.mem_cons, List.not_mem_nil, or_false] at hp; rcases hp with rfl | rfl | rfl | rfl <;> with_unfolding_all rfl, σ.al, σ.cA, q₀, hal, by omega, I⟩
  · rintro j tj m₁ news₁ h₁ tk₁ Ia oI hj' hoI ⟨hm, al, cA, q, hale, hq, I1⟩ hoff FT NT
    rw [Int.zero_add] at FT
    have hj : j < σ.n := Nat.lt_of_lt_of_le hj' (Nat.min_le_left _ _)
    obtain ⟨u2, F3⟩ := fr_kst ((Str.ofString "k", Value.int (j : Int) tj) :: [(Str.ofString "targets", Value.ref σ.aT), (Str.ofString "sources", Value.ref σ.aS), (Str.ofString "froms", Value.ref σ.aF), (Str.ofString "answers", Value.ref σ.aA)]) FT (by
      intro p hp; rcases List.mem_cons.mp hp with rfl | hp
      · exact if_pos rfl
      · have := hm p hp
        simp only [List.mem_cons, List.not_mem_nil, or_false] at hp; rcases hp with rfl | rfl | rfl | rfl <;> exact this)
    have hS := I1.S
    have hA := I1.A
    have hXj := I1.X hj
    have hDj := I1.D hj
    dsimp only at hS hA hXj hDj
    have hv := hok j hj
    have nXD : @Ne Nat (σ.xs j) (σ.ds j) := I1.ne (.X j) (.D j) hj hj (by simp)
    have nIA : @Ne Nat Ia σ.aA := fun e => hoff (σ.aA, _) hA e.symm
    have hxj : (arr σ.n fun i => Value.ref (σ.xs i))[((j : Nat) : Int).toNat]? = some (Value.ref (σ.xs j)) := by rw [Int.toNat_natCast, arr_get hj]
    have hlen : al.length = q := by rw [hale, List.length_replicate]
    clear FT F2 N2 R K2 hm
    k_steps
    refine ⟨?_⟩
    k_here
    k_dflt (refine' again ?B ?F ?X ?N ?T ?hk ?hx ?hd ?hdp ?hun ?hv ?hxd ?hi ?_; (case hk => exact rfl); (case B => k_asm); (case F => k_asm); (case X => k_asm); (case N => k_asm); (case T => k_asm); (case hx => k_mem); (case hd => k_mem); (case hdp => ((try simp only [depth_under_make, depth_under_kw, depth_in1, depth_deeper, depth_caller]); (try dsimp only [ktrTop]); (try simp only [recursionLimit]); first | omega | decide)); (case hun => ((try simp only [units_in1, units_deeper, Around.mark_units, units_caller]); (try dsimp only [ktrTop]); (have hcL9 := cLine_is); omega)); (case hv => assumption); (case hxd => assumption); (case hi => exact ⟨Int.natCast_nonneg _, Int.ofNat_lt.mpr (Nat.lt_of_lt_of_le hj' (Nat.min_le_right _ _))⟩); k_whole; intro _ _ _ _ _ _ _ _ _ _ _ _; (try k_sweep))
    k_steps
    refine ⟨?_⟩
    k_here
    with_reducible show wpAny _ _ (call (Value.builtin _) [Value.ref _, Value.ref _]) _ _ _
    k_dflt (refine' extend_rep ?q1 ?q2 ?q3 ?q4 ?q5 ?q6 ?q7 ?q8 ?_; (case q1 => k_asm); (case q2 => k_asm); (case q3 => k_mem); (case q4 => assumption); (case q5 => assumption); (case q6 => k_mem); (case q7 => assumption); (case q8 => omega); k_whole)
    intro _ _ _
    try k_sweep
    k_steps
    all_goals (
      rename Fr _ _ _ _ => FE
      rename News _ _ _ _ => NE
      rename_i hs' _ _ _ _
      have J1 := I1.turnA (al := al ++ List.replicate 5 Value.none) (cA := cA + 1) (final := off Ia (ledOf NE)) (mem_off mem_upd_self (Ne.symm nIA)) (fun p hp h => mem_offp (mem_updp (hs' p (.tail _ hp)) h) (hoff p hp))
      dsimp only at J1
      refine ⟨_, _, _, _, rfl, FE, NE, ?_, by intro p hp; simp only [List.mem_cons, List.not_mem_nil, or_false] at hp; rcases hp with rfl | rfl | rfl | rfl <;> with_unfolding_all rfl, _, _, q + 5, ?_, by omega, J1⟩
      · intro p hp; rw [List.mem_singleton.mp hp]; exact mem_upd (hs' _ (.head _)) nIA
      · rw [hale, rep_more])
  · rintro m₁ news₁ h₁ tk₁ ⟨hm, al, cA, q, hale, hq, I1⟩ FT NT
    exact ⟨rfl, _, _, _, _, rfl, FT, NT, hm, al, cA, q, hale, Nat.le_trans hq (Nat.add_le_add_left (Nat.mul_le_mul_left 5 (Nat.min_le_right _ _)) _), I1⟩
end

end
section
local macro_rules | `(tactic| walk_at "exec For Name BinOp cons nil") => `(tactic| walk_at "for9")
section
local macro_rules | `(tactic| walk_at "CompSrc") => `(tactic| refine Hold.use ?_)
local macro_rules | `(tactic| walk_at "compareOp NotEq ref ref") => `(tactic| (k_here; k_dflt (refine' ne_ints_led ?N ?a ?b ?i ?j ?u ?_; (case N => k_asm); (case a | b => k_mem); (case i | j => assumption); (case u => units_room); k_whole)))
local macro_rules | `(tactic| walk_at "compareOp IsNot ref ref") => `(tactic| (k_here; refine isnot_ref_same ?_))
local macro_rules | `(tactic| walk_at "compareOp IsNot none none") => `(tactic| (k_here; refine wpAny_isNot_self (by rfl) ?_))
section
variable {w : World} {mg mb : Str → Option Value} {mean : ExcName → Option Value} {h₀ : Heap} {L fa : Addr} {cdv : Value} {m : Str → Option Value} {news : List (Addr × Obj)} {s : Shared} {σ : St}
theorem loop4 (B : Below callerA h₀ [] h₀) (X : (Mine.hd.heap_39 w.params).In h₀) (T : Top Mine.hd.view_39 (looseW Mine.hd.view_39 []) mean mg mb h₀) (F : Fr h₀ L s.heap m) (N : News h₀ L s.heap news) (I : σ.In w.params news) (hn : 3 ≤ σ.n ∧ σ.n ≤ 40) (hnb : σ.nb = σ.n) (hnx : ∀ i, i < σ.n → ∀ j, σ.nx i = some j → j < σ.n) (hsec : Second σ σ.n σ.vs σ.bl σ.gl)
    {tn : Nat} (hN : σ.oN.data = .cell (some (.int (σ.n : Int) tn))) (haN : σ.aN = L + 1 + 1) (hm : ∀ p ∈ [(Str.ofString "targets", Value.ref σ.aT), (Str.ofString "sources", Value.ref σ.aS), (Str.ofString "froms", Value.ref σ.aF), (Str.ofString "answers", Value.ref σ.aA)], m p.1 = some p.2) :
    wpAny (model PySem.Challenge.rw_kn0107_01.row.prog w) (callerA.deeper (lawEnv L fa cdv)) (exec (lawStmt 11) (lawEnv L fa cdv))
      (Next h₀ L s fun m' news' => (∀ p ∈ [(Str.ofString "targets", Value.ref σ.aT), (Str.ofString "sources", Value.ref σ.aS), (Str.ofString "froms", Value.ref σ.aF), (Str.ofString "answers", Value.ref σ.aA)], m' p.1 = some p.2) ∧ σ.In w.params news') (fun _ _ => False) s := by
  unfold lawEnv
  conv in lawStmt _ => whnf
  conv in (occs := *) lawScope => all_goals whnf
  revert X; k_fill; intro X

  obtain ⟨u1, F1⟩ := fr_kst _ F hm
  have hNm : (L + 1 + 1, σ.oN) ∈ news := haN ▸ I.N
  clear F hm
  k_steps
  rename_i D ws _ F2 N2 hws _
  refine ⟨iter_listJ (fun i m₁ news₁ => (∀ p ∈ [(Str.ofString "targets", Value.ref σ.aT), (Str.ofString "sources", Value.ref σ.aS), (Str.ofString "froms", Value.ref σ.aF), (Str.ofString "answers", Value.ref σ.aA)], m₁ p.1 = some p.2) ∧ σ.In w.params news₁) (ax := D) (its := ws.toArray) (cap := 0) rfl List.mem_cons_self F2 N2 ?_ ?_ ?_⟩
  · exact ⟨by intro p hp; simp only [List.mem_cons, List.not_mem_nil, or_false] at hp; rcases hp with rfl | rfl | rfl | rfl <;> with_unfolding_all rfl, I.mono fun p hp => .tail _ (.tail _ (.tail _ hp))⟩
  · rintro i v m₁ news₁ h₁ tk₁ Ia oI hv hoI ⟨hm, I1⟩ hoff FT NT
    obtain ⟨z, tj, rfl, hz⟩ := IntsAre.at hws i v (by simpa using hv)
    have hz2 : 0 ≤ z ∧ z < (σ.n : Int) := by
      rcases List.mem_append.mp (List.mem_of_getElem? hz) with h | h
      · simp only [List.mem_cons, List.not_mem_nil, or_false] at h
        omega
      · have := mem_rangeKs h
        omega
    obtain ⟨j, rfl⟩ : ∃ j : Nat, z = (j : Int) := ⟨z.toNat, by omega⟩
    have hj : j < σ.n := by omega
    obtain ⟨u2, F3⟩ := fr_kst ((Str.ofString "k", Value.int (j : Int) tj) :: [(Str.ofString "targets", Value.ref σ.aT), (Str.ofString "sources", Value.ref σ.aS), (Str.ofString "froms", Value.ref σ.aF), (Str.ofString "answers", Value.ref σ.aA)]) FT (by
      intro p hp; rcases List.mem_cons.mp hp with rfl | hp
      · exact if_pos rfl
      · have := hm p hp
        simp only [List.mem_cons, List.not_mem_nil, or_false] at hp; rcases hp with rfl | rfl | rfl | rfl <;> exact this)
    have hS := I1.S
    have hT := I1.T
    have hF := I1.F
    have hXj := I1.X hj
    have hDj := I1.D hj
    have hBj := I1.B (i := j) (by omega)
    have hGj := I1.G hj
    have hxj : (arr σ.n fun i => Value.ref (σ.xs i))[((j : Nat) : Int).toNat]? = some (Value.ref (σ.xs j)) := by rw [Int.toNat_natCast, arr_get hj]
    have hgj : (arr σ.n fun i => Value.ref (σ.gs i))[((j : Nat) : Int).toNat]? = some (Value.ref (σ.gs j)) := by rw [Int.toNat_natCast, arr_get hj]
    obtain ⟨t1, e1⟩ := hsec.sys j hj
    obtain ⟨t2, e2⟩ := hsec.pub j hj
    have e3 := hsec.enc j hj hj
    have e4 := hsec.byt j hj
    have e5 := hsec.chr j hj hj
    have hgi := hsec.gl j hj
    have hgl : (σ.gl j).toArray.size = (srcs σ.nx σ.n j).length := by rw [List.size_toArray, hgi.length, List.length_map]
    have hsrc : (srcs σ.nx σ.n j).length ≤ 40 := by
      have := List.length_filter_le (fun q => decide (σ.nx q = some j)) (List.range σ.n)
      rw [List.length_range] at this
      unfold srcs; omega
    rw [← hgl] at e2
    have hglb : (σ.gl j).length ≤ 40 := by rw [← List.size_toArray, hgl]; exact hsrc
    clear FT F2 N2 hm
    cases e : σ.nx j with
    | none =>
      have e3' : (σ.vs j).enc = Value.none := by rw [e3]; unfold tvOf; rw [e]
      have e5' : (σ.vs j).chr = Value.none := by rw [e5, e]; rfl
      have hD : (σ.ds j, dictOf (ents w.params (σ.ts j) ⟨.int (j : Int) t1, .int ((σ.gl j).toArray.size : Int) t2, .none, .ref (σ.bs j), .none⟩) 5) ∈ news₁ := by
        rw [← Things.five e1 e2 e3' e4 e5']; exact hDj
      have htj : (arr σ.n (tvOf σ.nx σ.kt))[((j : Nat) : Int).toNat]? = some Value.none := by rw [Int.toNat_natCast, arr_get hj]; unfold tvOf; rw [e]
      clear hDj e1 e2 e3 e4 e5 e3' e5'
      k_steps
      rename_i lt _ _ _ _ _ _ _ _ _ _ FC NC _
      have hlC : (lt, W.listOf #[Value.int (j : Int) t1, Value.int ((σ.gl j).toArray.size : Int) t2, Value.none, Value.ref (σ.bs j), Value.none] 0) ∈ ledOf NC := by k_mem
      have hB2 : (σ.bs j, W.listOf (σ.bl j).toArray (σ.bc j)) ∈ ledOf NC := by k_mem
      have hsubC : ∀ p ∈ news₁, p ∈ ledOf NC := fun p hp => by repeat (first | exact hp | refine List.mem_cons_of_mem _ ?_)
      have hIC : (Ia, oI) ∈ ledOf NC := by k_mem
      have hDC : (D, W.listOf ws.toArray 0) ∈ ledOf NC := by k_mem
      have hbl := hsec.bl j hj
      have hbsz : (σ.bl j).toArray.size = (srcs σ.nx σ.n j).length := by rw [List.size_toArray, hbl, List.length_map]
      refine ⟨LCg.CompSrc.ledger rfl FC NC hB2 (by rw [hbsz, PySem.sizeLine_eq]; omega) ?_⟩
      intro gg
      refine comp_rest (n := (σ.bl j).toArray.size) (fun i ys nw => (∀ p ∈ ledOf NC, p ∈ nw) ∧ IntsAre ys (((srcs σ.nx σ.n j).take i).map fun q : Nat => (q : Int))) ?_ ?_ _ 0 [] _ (by omega) ⟨fun _ h => h, .nil⟩
      · rintro ic ys nw vv Ic oIc C oC D2 mm hh tkk E' hic ⟨hsub, hys⟩ hvv hC hxx FF NN off3 neC
        have hq : ∃ q, (srcs σ.nx σ.n j)[ic]? = some q ∧ vv = .ref (σ.xs q) := by
          have h1 : (σ.bl j)[ic]? = some vv := by simpa using hvv
          rw [hbl, List.getElem?_map] at h1
          cases hh : (srcs σ.nx σ.n j)[ic]? with
          | none => rw [hh] at h1; cases h1
          | some q => rw [hh] at h1; exact ⟨q, rfl, (Option.some.inj h1).symm⟩
        obtain ⟨q, hq1, rfl⟩ := hq
        have hqn : q < σ.n := List.mem_range.mp (List.mem_filter.mp (List.mem_of_getElem? hq1)).1
        have hXq := hsub _ (hsubC _ (I1.X hqn))
        obtain ⟨tq, eq1⟩ := hsec.sys q hqn
        have hDq0 := hsub _ (hsubC _ (I1.D hqn))
        have hDq : (σ.ds q, dictOf (ents w.params (σ.ts q) ⟨.int (q : Int) tq, (σ.vs q).pub, (σ.vs q).enc, (σ.vs q).byt, (σ.vs q).chr⟩) 5) ∈ nw := by
          rw [← Things.five eq1 rfl rfl rfl rfl]; exact hDq0
        clear hDq0 FC hgj hxj
        k_steps
        all_goals (
          rename Fr _ _ _ _ => FE
          rename News _ _ _ _ => NE
          refine LCg.CompEnd.intro FE NE nw (fun _ h => h) off3 (Or.inr ⟨_, hsub _ hB2, rfl, _, rfl⟩) ⟨hsub, ?_⟩
          rw [List.take_add_one, hq1, List.map_append]
          exact hys.append (.cons _ _ .nil))
      · rintro ys nw ⟨hsub, hys⟩
        rw [hbsz, List.take_length] at hys
        unfold LCg.FinE
        intro D3 h3 tk3 F4 N4 o1
        have hIN := hsub _ hIC
        have hDN := hsub _ hDC
        have hgN := hsub _ (hsubC _ hGj)
        have hSN := hsub _ (hsubC _ hS)
        have hTN := hsub _ (hsubC _ hT)
        have hFN := hsub _ (hsubC _ hF)
        have hlN := hsub _ hlC
        have h4 : (#[Value.int (j : Int) t1, Value.int ((σ.gl j).toArray.size : Int) t2, Value.none, Value.ref (σ.bs j), Value.none] : Array Value)[(4 : Int).toNat]? = some (Value.none) := rfl
        clear FC
        k_steps
        rename Fr _ _ _ _ => FE
        rename News _ _ _ _ => NE
        refine ⟨_, _, _, _, rfl, FE, NE, ?_, by intro p hp; simp only [List.mem_cons, List.not_mem_nil, or_false] at hp; rcases hp with rfl | rfl | rfl | rfl <;> with_unfolding_all rfl, I1.mono fun p hp => mem_offp (by repeat (first | exact hsub _ (hsubC _ hp) | refine List.mem_cons_of_mem _ ?_)) (hoff p hp)⟩
        intro p hp
        rcases List.mem_cons.mp hp with rfl | hp
        · repeat (first | exact hIN | refine List.mem_cons_of_mem _ ?_)
        · rw [List.mem_singleton.mp hp]
          repeat (first | exact hDN | refine List.mem_cons_of_mem _ ?_)
    | some t =>
      have ht := hnx j hj t e
      have e3' : (σ.vs j).enc = Value.int (t : Int) (σ.kt j) := by rw [e3]; unfold tvOf; rw [e]
      have e5' : (σ.vs j).chr = Value.ref (σ.xs t) := by rw [e5, e]; rfl
      have hD : (σ.ds j, dictOf (ents w.params (σ.ts j) ⟨.int (j : Int) t1, .int ((σ.gl j).toArray.size : Int) t2, .int (t : Int) (σ.kt j), .ref (σ.bs j), .ref (σ.xs t)⟩) 5) ∈ news₁ := by
        rw [← Things.five e1 e2 e3' e4 e5']; exact hDj
      have htj : (arr σ.n (tvOf σ.nx σ.kt))[((j : Nat) : Int).toNat]? = some (Value.int (t : Int) (σ.kt j)) := by rw [Int.toNat_natCast, arr_get hj]; unfold tvOf; rw [e]
      have hxt : (arr σ.n fun i => Value.ref (σ.xs i))[((t : Nat) : Int).toNat]? = some (Value.ref (σ.xs t)) := by rw [Int.toNat_natCast, arr_get ht]
      clear hDj e1 e2 e3 e4 e5 e3' e5'
      k_steps
      rename_i lt _ _ _ _ _ _ _ _ _ _ FC NC _
      have hlC : (lt, W.listOf #[Value.int (j : Int) t1, Value.int ((σ.gl j).toArray.size : Int) t2, Value.int (t : Int) (σ.kt j), Value.ref (σ.bs j), Value.ref (σ.xs t)] 0) ∈ ledOf NC := by k_mem
      have hB2 : (σ.bs j, W.listOf (σ.bl j).toArray (σ.bc j)) ∈ ledOf NC := by k_mem
      have hsubC : ∀ p ∈ news₁, p ∈ ledOf NC := fun p hp => by repeat (first | exact hp | refine List.mem_cons_of_mem _ ?_)
      have hIC : (Ia, oI) ∈ ledOf NC := by k_mem
      have hDC : (D, W.listOf ws.toArray 0) ∈ ledOf NC := by k_mem
      have hbl := hsec.bl j hj
      have hbsz : (σ.bl j).toArray.size = (srcs σ.nx σ.n j).length := by rw [List.size_toArray, hbl, List.length_map]
      refine ⟨LCg.CompSrc.ledger rfl FC NC hB2 (by rw [hbsz, PySem.sizeLine_eq]; omega) ?_⟩
      intro gg
      refine comp_rest (n := (σ.bl j).toArray.size) (fun i ys nw => (∀ p ∈ ledOf NC, p ∈ nw) ∧ IntsAre ys (((srcs σ.nx σ.n j).take i).map fun q : Nat => (q : Int))) ?_ ?_ _ 0 [] _ (by omega) ⟨fun _ h => h, .nil⟩
      · rintro ic ys nw vv Ic oIc C oC D2 mm hh tkk E' hic ⟨hsub, hys⟩ hvv hC hxx FF NN off3 neC
        have hq : ∃ q, (srcs σ.nx σ.n j)[ic]? = some q ∧ vv = .ref (σ.xs q) := by
          have h1 : (σ.bl j)[ic]? = some vv := by simpa using hvv
          rw [hbl, List.getElem?_map] at h1
          cases hh : (srcs σ.nx σ.n j)[ic]? with
          | none => rw [hh] at h1; cases h1
          | some q => rw [hh] at h1; exact ⟨q, rfl, (Option.some.inj h1).symm⟩
        obtain ⟨q, hq1, rfl⟩ := hq
        have hqn : q < σ.n := List.mem_range.mp (List.mem_filter.mp (List.mem_of_getElem? hq1)).1
        have hXq := hsub _ (hsubC _ (I1.X hqn))
        obtain ⟨tq, eq1⟩ := hsec.sys q hqn
        have hDq0 := hsub _ (hsubC _ (I1.D hqn))
        have hDq : (σ.ds q, dictOf (ents w.params (σ.ts q) ⟨.int (q : Int) tq, (σ.vs q).pub, (σ.vs q).enc, (σ.vs q).byt, (σ.vs q).chr⟩) 5) ∈ nw := by
          rw [← Things.five eq1 rfl rfl rfl rfl]; exact hDq0
        clear hDq0 FC hgj hxj
        k_steps
        all_goals (
          rename Fr _ _ _ _ => FE
          rename News _ _ _ _ => NE
          refine LCg.CompEnd.intro FE NE nw (fun _ h => h) off3 (Or.inr ⟨_, hsub _ hB2, rfl, _, rfl⟩) ⟨hsub, ?_⟩
          rw [List.take_add_one, hq1, List.map_append]
          exact hys.append (.cons _ _ .nil))
      · rintro ys nw ⟨hsub, hys⟩
        rw [hbsz, List.take_length] at hys
        unfold LCg.FinE
        intro D3 h3 tk3 F4 N4 o1
        have hIN := hsub _ hIC
        have hDN := hsub _ hDC
        have hgN := hsub _ (hsubC _ hGj)
        have hSN := hsub _ (hsubC _ hS)
        have hTN := hsub _ (hsubC _ hT)
        have hFN := hsub _ (hsubC _ hF)
        have hlN := hsub _ hlC
        have h4 : (#[Value.int (j : Int) t1, Value.int ((σ.gl j).toArray.size : Int) t2, Value.int (t : Int) (σ.kt j), Value.ref (σ.bs j), Value.ref (σ.xs t)] : Array Value)[(4 : Int).toNat]? = some (Value.ref (σ.xs t)) := rfl
        clear FC
        k_steps
        rename Fr _ _ _ _ => FE
        rename News _ _ _ _ => NE
        refine ⟨_, _, _, _, rfl, FE, NE, ?_, by intro p hp; simp only [List.mem_cons, List.not_mem_nil, or_false] at hp; rcases hp with rfl | rfl | rfl | rfl <;> with_unfolding_all rfl, I1.mono fun p hp => mem_offp (by repeat (first | exact hsub _ (hsubC _ hp) | refine List.mem_cons_of_mem _ ?_)) (hoff p hp)⟩
        intro p hp
        rcases List.mem_cons.mp hp with rfl | hp
        · repeat (first | exact hIN | refine List.mem_cons_of_mem _ ?_)
        · rw [List.mem_singleton.mp hp]
          repeat (first | exact hDN | refine List.mem_cons_of_mem _ ?_)
  · rintro m₁ news₁ h₁ tk₁ HJ FT NT
    exact ⟨rfl, _, _, _, _, rfl, FT, NT, HJ⟩
end

end
end
end
section
local macro_rules | `(tactic| k_mem) => `(tactic| (refine sub_mem (by with_reducible assumption) ?_; k_mem))
local macro_rules | `(tactic| walk_at "call ref") => `(tactic| refine Hold.use ?_)
local macro_rules | `(tactic| walk_at "compareOp NotEq ref ref") => `(tactic| refine Hold.use ?_)
section
variable {w : World} {mg mb : Str → Option Value} {mean : ExcName → Option Value} {h₀ : Heap} {L fa : Addr} {cdv : Value} {m : Str → Option Value} {news : List (Addr × Obj)} {s : Shared} {σ : St}
theorem ringIf (B : Below callerA h₀ [] h₀) (X : (Mine.hd.heap_39 w.params).In h₀) (T : Top Mine.hd.view_39 (looseW Mine.hd.view_39 []) mean mg mb h₀) (F : Fr h₀ L s.heap m) (N : News h₀ L s.heap news) (I : σ.In w.params news) (hn : 3 ≤ σ.n ∧ σ.n ≤ 40) (hnx : ∀ i, i < σ.n → ∀ j, σ.nx i = some j → j < σ.n) (hch : ∀ i, i < σ.n → (σ.vs i).chr = chrOf σ.xs (σ.nx i)) (hm : ∀ p ∈ [(Str.ofString "targets", Value.ref σ.aT), (Str.ofString "sources", Value.ref σ.aS), (Str.ofString "froms", Value.ref σ.aF), (Str.ofString "answers", Value.ref σ.aA)], m p.1 = some p.2) :
    wpAny (model PySem.Challenge.rw_kn0107_01.row.prog w) (callerA.deeper (lawEnv L fa cdv)) (exec (lawStmt 9) (lawEnv L fa cdv))
      (Next h₀ L s fun m' news' => (∀ p ∈ [(Str.ofString "targets", Value.ref σ.aT), (Str.ofString "sources", Value.ref σ.aS), (Str.ofString "froms", Value.ref σ.aF), (Str.ofString "answers", Value.ref σ.aA)], m' p.1 = some p.2) ∧ σ.In w.params news') (fun _ _ => False) s := by
  unfold lawEnv
  conv in lawStmt _ => whnf
  conv in (occs := *) lawScope => all_goals whnf
  revert X; k_fill; intro X

  obtain ⟨u1, F1⟩ := fr_kst _ F hm
  have hS := I.S
  have hT := I.T
  have hX : ∀ i, i < σ.n → (σ.xs i, instObj 102 (σ.ds i)) ∈ news := fun i hi => I.X hi
  have hD : ∀ i, i < σ.n → (σ.ds i, dictOf (ents w.params (σ.ts i) (σ.vs i)) 5) ∈ news := fun i hi => I.D hi
  have hinj : ∀ i, i < σ.n → ∀ j, j < σ.n → σ.xs i = σ.xs j → i = j := fun i hi j hj e => Slot.X.inj (I.inj (.X i) (.X j) hi hj e)
  have hlast : ((List.range σ.n).map fun i => Value.ref (σ.xs i)).getLast? = some (Value.ref (σ.xs (σ.n - 1))) := by
    rw [List.getLast?_map, List.getLast?_range, if_neg (by omega)]; rfl
  clear F hm
  k_steps
  refine ⟨?_⟩
  k_here
  k_dflt (first
    | (refine' ring ?B ?F ?X ?N ?T ?hk ?hx ?hd ?hch ?hnx ?hinj ?hk0 ?hn ?hdp ?hun ?_; (case hk => exact rfl); (case B => k_asm); (case F => k_asm); (case X => k_asm); (case N => k_asm); (case T => k_asm); (case hx => assumption); (case hd => assumption); (case hch => assumption); (case hnx => assumption); (case hinj => assumption); (case hk0 => omega); (case hn => omega); (case hdp => ((try simp only [depth_under_make, depth_under_kw, depth_in1, depth_deeper, depth_caller]); (try dsimp only [ktrTop]); (try simp only [recursionLimit]); first | omega | decide)); (case hun => ((try simp only [units_in1, units_deeper, Around.mark_units, units_caller]); (try dsimp only [ktrTop]); (have hcL9 := cLine_is); omega)); k_whole; intro _ _ _ _ _ _ _ _ _ _ _ _ _ _; (try k_sweep))
    | (refine' path ?B ?F ?X ?N ?T ?hk ?hT ?hnx ?hn0 ?hn ?hdp ?hun ?_; (case hk => exact rfl); (case B => k_asm); (case F => k_asm); (case X => k_asm); (case N => k_asm); (case T => k_asm); (case hT => k_mem); (case hnx => assumption); (case hn0 => omega); (case hn => omega); (case hdp => ((try simp only [depth_under_make, depth_under_kw, depth_in1, depth_deeper, depth_caller]); (try dsimp only [ktrTop]); (try simp only [recursionLimit]); first | omega | decide)); (case hun => ((try simp only [units_in1, units_deeper, Around.mark_units, units_caller]); (try dsimp only [ktrTop]); (have hcL9 := cLine_is); omega)); k_whole; intro _ _ _ _ _ _ _ _ _ _ _ _ _ _; (try k_sweep)))
  k_steps
  refine ⟨?_⟩
  k_here
  k_dflt (first
    | (refine' ring ?B ?F ?X ?N ?T ?hk ?hx ?hd ?hch ?hnx ?hinj ?hk0 ?hn ?hdp ?hun ?_; (case hk => exact rfl); (case B => k_asm); (case F => k_asm); (case X => k_asm); (case N => k_asm); (case T => k_asm); (case hx => assumption); (case hd => assumption); (case hch => assumption); (case hnx => assumption); (case hinj => assumption); (case hk0 => omega); (case hn => omega); (case hdp => ((try simp only [depth_under_make, depth_under_kw, depth_in1, depth_deeper, depth_caller]); (try dsimp only [ktrTop]); (try simp only [recursionLimit]); first | omega | decide)); (case hun => ((try simp only [units_in1, units_deeper, Around.mark_units, units_caller]); (try dsimp only [ktrTop]); (have hcL9 := cLine_is); omega)); k_whole; intro _ _ _ _ _ _ _ _ _ _ _ _ _ _; (try k_sweep))
    | (refine' path ?B ?F ?X ?N ?T ?hk ?hT ?hnx ?hn0 ?hn ?hdp ?hun ?_; (case hk => exact rfl); (case B => k_asm); (case F => k_asm); (case X => k_asm); (case N => k_asm); (case T => k_asm); (case hT => k_mem); (case hnx => assumption); (case hn0 => omega); (case hn => omega); (case hdp => ((try simp only [depth_under_make, depth_under_kw, depth_in1, depth_deeper, depth_caller]); (try dsimp only [ktrTop]); (try simp only [recursionLimit]); first | omega | decide)); (case hun => ((try simp only [units_in1, units_deeper, Around.mark_units, units_caller]); (try dsimp only [ktrTop]); (have hcL9 := cLine_is); omega)); k_whole; intro _ _ _ _ _ _ _ _ _ _ _ _ _ _; (try k_sweep)))
  k_steps
  rename_i n1 _ _ l1 P1 Z1 tp1 tq1 s1 m1 a1 w1 n2 hh _ l2 P2 Z2 tp2 tq2 FE NE s2 m2 a2 w2
  obtain ⟨p1, q1, rfl, rfl, W1⟩ := w1
  obtain ⟨p2, q2, rfl, rfl, W2⟩ := w2
  obtain ⟨rfl, rfl⟩ := way_unique W1 W2
  have m1' := s2 _ m1
  refine ⟨ne_dataH (reads_tuple_at (News.get NE m1') rfl rfl (.cons (.int _ _) (.cons (.int _ _) .nil))) (reads_tuple_at (News.get NE m2) rfl rfl (.cons (.int _ _) (.cons (.int _ _) .nil))) rfl rfl (by ((try simp only [units_in1, units_deeper, Around.mark_units, units_caller]); (try dsimp only [ktrTop]); (have hcL9 := cLine_is); omega)) ?_⟩
  simp only [PyData.eqv, PyData.eqvAll, beq_self_eq_true, Bool.and_true, Bool.not_true]
  k_steps
  all_goals (
    exact ⟨rfl, _, _, _, _, rfl, FE, NE, by intro p hp; simp only [List.mem_cons, List.not_mem_nil, or_false] at hp; rcases hp with rfl | rfl | rfl | rfl <;> with_unfolding_all rfl, I.mono fun p hp => s2 p (s1 p hp)⟩)
end

end
section
local macro_rules | `(tactic| walk_at "binaryOp Mult ref int") => `(tactic| (k_here; k_dflt (refine' mul_none ?F ?N ?m ?a ?b ?_; (case F | N => k_asm); (case m => k_mem); (case a | b => omega); k_whole); intro D' h' F' N' l1; (try k_sweep)))
local macro_rules | `(tactic| walk_at "compareOp Eq ref ref") => `(tactic| (k_here; k_dflt (refine' eq_nones ?N ?a ?b ?u ?_; (case N => k_asm); (case a | b => k_mem); (case u => units_room); k_whole)))
section
variable {w : World} {mg mb : Str → Option Value} {mean : ExcName → Option Value} {h₀ : Heap} {L fa : Addr} {cdv : Value} {m : Str → Option Value} {news : List (Addr × Obj)} {s : Shared} {σ : St}
theorem lawRet (B : Below callerA h₀ [] h₀) (X : (Mine.hd.heap_39 w.params).In h₀) (T : Top Mine.hd.view_39 (looseW Mine.hd.view_39 []) mean mg mb h₀) (F : Fr h₀ L s.heap m) (N : News h₀ L s.heap news) (I : σ.In w.params news) {q : Nat} (hal : σ.al = List.replicate q Value.none) (hq : q ≤ 400) (hm : ∀ p ∈ [(Str.ofString "targets", Value.ref σ.aT), (Str.ofString "sources", Value.ref σ.aS), (Str.ofString "froms", Value.ref σ.aF), (Str.ofString "answers", Value.ref σ.aA)], m p.1 = some p.2) :
    wpAny (model PySem.Challenge.rw_kn0107_01.row.prog w) (callerA.deeper (lawEnv L fa cdv)) (exec (lawStmt 12) (lawEnv L fa cdv)) (Done h₀ L s) (fun _ _ => False) s := by
  unfold lawEnv
  conv in lawStmt _ => whnf
  conv in (occs := *) lawScope => all_goals whnf
  revert X; k_fill; intro X

  obtain ⟨u1, F1⟩ := fr_kst _ F hm
  have hA := I.A
  rw [hal] at hA
  have hlen : (List.replicate q Value.none).toArray.size = q := by simp
  clear F hm
  k_steps
  all_goals exact ⟨rfl, _, _, _, rfl, by assumption⟩
end

end
section
section
variable {w : World} {mg mb : Str → Option Value} {mean : ExcName → Option Value} {h₀ : Heap} {L fa : Addr} {cdv : Value} {m : Str → Option Value} {news : List (Addr × Obj)} {s : Shared} {σ : St}
theorem st0 (B : Below callerA h₀ [] h₀) (X : (Mine.hd.heap_39 w.params).In h₀) (T : Top Mine.hd.view_39 (looseW Mine.hd.view_39 []) mean mg mb h₀) (F : Fr h₀ L s.heap m)  {o1 o2 : Obj} (N : News h₀ L s.heap [(L + 1 + 1, o2), (L + 1, o1)]) {c1 c2 : Option Value} (d1 : o1.data = .cell c1) (d2 : o2.data = .cell c2) {ls : Addr} {vsc : List Value} {ns : List Int} (hm : m (Str.ofString "script") = some (.ref ls)) (hl : h₀.IsList ls vsc.toArray) (hi : IntsAre vsc ns) (hlen : ns.length ≤ 63) :
    wpAny (model PySem.Challenge.rw_kn0107_01.row.prog w) (callerA.deeper (lawEnv L fa cdv)) (exec (lawStmt 0) (lawEnv L fa cdv))
      (Next h₀ L s fun m' news' => ∃ (oM : Obj) (D : Nat) (ws : List Value), oM.data = .cell (some (.ref D)) ∧ IntsAre ws ([1, 2, 0] ++ ns) ∧ D ≠ L + 1 + 1 ∧ D ≠ L + 1 ∧ (∀ p ∈ [(D, W.listOf ws.toArray 0), (L + 1 + 1, o2), (L + 1, oM)], p ∈ news')) (fun _ _ => False) s := by
  unfold lawEnv
  conv in lawStmt _ => whnf
  conv in (occs := *) lawScope => all_goals whnf
  revert X; k_fill; intro X

  obtain ⟨u1, F1⟩ := fr_kst [(Str.ofString "script", Value.ref ls)] F (by intro p hp; rw [List.mem_singleton.mp hp]; exact hm)
  clear F hm
  k_steps
  rename_i l _ q1 D ws _ hI q2 hh oM FE NE dM
  exact ⟨rfl, _, _, _, _, rfl, FE, NE, oM, D, ws, dM, hI, by omega, by omega, fun p hp => by simp only [List.mem_cons, List.not_mem_nil, or_false] at hp; rcases hp with rfl | rfl | rfl <;> k_mem⟩
theorem st1 (B : Below callerA h₀ [] h₀) (X : (Mine.hd.heap_39 w.params).In h₀) (T : Top Mine.hd.view_39 (looseW Mine.hd.view_39 []) mean mg mb h₀) (F : Fr h₀ L s.heap m)  {oM o2 : Obj} {D : Addr} {ws : List Value} (N : News h₀ L s.heap [(D, W.listOf ws.toArray 0), (L + 1 + 1, o2), (L + 1, oM)]) (hD2 : @Ne Nat D (L + 1 + 1)) (hD1 : @Ne Nat D (L + 1)) {c2 : Option Value} (d1 : oM.data = .cell (some (.ref D))) (d2 : o2.data = .cell c2) {ns : List Int} (hi : IntsAre ws ([1, 2, 0] ++ ns)) (hlen : ns.length ≤ 63) :
    wpAny (model PySem.Challenge.rw_kn0107_01.row.prog w) (callerA.deeper (lawEnv L fa cdv)) (exec (lawStmt 1) (lawEnv L fa cdv))
      (Next h₀ L s fun m' news' => ∃ (oN : Obj) (n tn : Nat), oN.data = .cell (some (.int (n : Int) tn)) ∧ 3 ≤ n ∧ n ≤ 40 ∧ n ≤ ws.length ∧ (∀ p ∈ [(D, W.listOf ws.toArray 0), (L + 1 + 1, oN), (L + 1, oM)], p ∈ news')) (fun _ _ => False) s := by
  unfold lawEnv
  conv in lawStmt _ => whnf
  conv in (occs := *) lawScope => all_goals whnf
  revert X; k_fill; intro X

  have hws := hi.length
  k_steps
  rename_i _ _ hh oN FE NE dN
  have e : (if (40 : Int) < ((1 + 1 + 1 + ns.length : Nat) : Int) then (40 : Int) else ((1 + 1 + 1 + ns.length : Nat) : Int)) = ((min (ns.length + 3) 40 : Nat) : Int) := by split <;> omega
  rw [e] at dN
  have hw3 : ws.length = ns.length + 3 := by rw [hws]; simp
  exact ⟨rfl, _, _, _, _, rfl, FE, NE, oN, min (ns.length + 3) 40, _, dN, by omega, by omega, by omega, fun p hp => by simp only [List.mem_cons, List.not_mem_nil, or_false] at hp; rcases hp with rfl | rfl | rfl <;> k_mem⟩
end

end
section
local macro_rules | `(tactic| walk_at "CompSrc") => `(tactic| refine Hold.use ?_)
local macro_rules | `(tactic| walk_at "SrcS") => `(tactic| refine Hold.use ?_)
local macro_rules | `(tactic| walk_at "eval ListComp") => `(tactic| (k_here; k_dflt (refine' ListComp_S (F₀ := ?F) ?a2 ?a4 ?a5 ?a6 ?a7 ?_ ?a8; (case F => k_asm); (case a4 => decide); (case a5 => rfl); (case a6 => decide); (case a7 => rfl); (case a2 => with_unfolding_all rfl); (case a8 => intro _; with_unfolding_all rfl); k_whole)))
local macro_rules | `(tactic| walk_at "exec Assign cons ListComp") => `(tactic| walk_at "asg9")
section
variable {w : World} {mg mb : Str → Option Value} {mean : ExcName → Option Value} {h₀ : Heap} {L fa : Addr} {cdv : Value} {m : Str → Option Value} {news : List (Addr × Obj)} {s : Shared} {σ : St}
theorem st2 (B : Below callerA h₀ [] h₀) (X : (Mine.hd.heap_39 w.params).In h₀) (T : Top Mine.hd.view_39 (looseW Mine.hd.view_39 []) mean mg mb h₀) (F : Fr h₀ L s.heap m) (N : News h₀ L s.heap news) {oM oN : Obj} {D n tn : Nat} {ws : List Value} {ns : List Int} (hD : (D, W.listOf ws.toArray 0) ∈ news) (hNm : (L + 1 + 1, oN) ∈ news) (hMm : (L + 1, oM) ∈ news) (d1 : oM.data = .cell (some (.ref D))) (d2 : oN.data = .cell (some (.int (n : Int) tn))) (hi : IntsAre ws ns) (hlen : ns.length ≤ 66) (hn : 3 ≤ n ∧ n ≤ 40) :
    wpAny (model PySem.Challenge.rw_kn0107_01.row.prog w) (callerA.deeper (lawEnv L fa cdv)) (exec (lawStmt 2) (lawEnv L fa cdv))
      (Next h₀ L s fun m' news' => ∃ (P : Nat) (vps : List Value) (ps : List Int), m' (Str.ofString "places") = some (.ref P) ∧ (P, LCg.lst vps) ∈ news' ∧ IntsAre vps ps ∧ ps.length = n ∧ (∀ p ∈ ps, 0 ≤ p ∧ p ≤ (n : Int)) ∧ ∀ p ∈ news, p ∈ news') (fun _ _ => False) s := by
  unfold lawEnv
  conv in lawStmt _ => whnf
  conv in (occs := *) lawScope => all_goals whnf
  revert X; k_fill; intro X

  have hws := hi.length
  k_steps
  rename_i FC NC _
  have hsubC : ∀ p ∈ news, p ∈ ledOf NC := fun p hp => by repeat (first | exact hp | refine List.mem_cons_of_mem _ ?_)
  refine ⟨LCg.CompSrc.range rfl FC NC (by assumption) (range_small (by omega)) range_size (by rw [PySem.sizeLine_eq]; omega) ?_⟩
  intro gg
  refine comp_rest (n := n) (fun i ys nw => (∀ p ∈ ledOf NC, p ∈ nw) ∧ ∃ ps, IntsAre ys ps ∧ ps.length = i ∧ (∀ p ∈ ps, 0 ≤ p ∧ p ≤ (n : Int))) ?_ ?_ _ 0 [] _ (by omega) ⟨fun _ h => h, [], .nil, rfl, fun _ h => nomatch h⟩
  · rintro ic ys nw vv Ic oIc C oC D2 mm hh tkk E' hic ⟨hsub, ps, hys, hlen, hps⟩ hvv hC hxx FF NN off3 neC
    obtain ⟨tk, rfl⟩ := hvv
    have hDn := hsub _ (hsubC _ hD)
    have hNn := hsub _ (hsubC _ hNm)
    have hMn := hsub _ (hsubC _ hMm)
    clear FC
    k_steps
    rename_i FI NI _
    obtain ⟨n2, hrs, hle⟩ := srs_size (a := 0 + (ic : Int)) (b := ((ws.toArray.size : Nat) : Int)) (c := (n : Int))
    have hwsz : ws.toArray.size = ns.length := by rw [List.size_toArray, hws]
    refine ⟨SrcS.intro rfl FI NI (by assumption) (srs_small (by omega) (by omega) (by omega) (by omega) (by omega) (by omega)) hrs (by rw [PySem.sizeLine_eq]; omega) ?_⟩
    intro g2
    have hsubI : ∀ p ∈ nw, p ∈ ledOf NI := fun p hp => by repeat (first | exact hp | refine List.mem_cons_of_mem _ ?_)
    refine comp_rest (n := n2) (fun i ys nw => (∀ p ∈ ledOf NI, p ∈ nw) ∧ ∃ zs, IntsAre ys zs) ?_ ?_ _ 0 [] _ (by omega) ⟨fun _ h => h, [], .nil⟩
    · rintro jc ys3 nw3 vv3 Ic3 oIc3 C3 oC3 D3 mm3 hh3 tkk3 E3 hjc ⟨hsub3, zs, hys3⟩ hvv3 hC3 hxx3 FF3 NN3 off33 neC3
      obtain ⟨tk3, rfl⟩ := hvv3
      have hb := srs_in (by omega) hrs hjc
      have hb0 : (0 : Int) ≤ (jc : Int) * (n : Int) := Int.mul_nonneg (by omega) (by omega)
      obtain ⟨q, hq⟩ : ∃ q : Nat, 0 + (ic : Int) + (jc : Int) * (n : Int) = (q : Int) := ⟨(0 + (ic : Int) + (jc : Int) * (n : Int)).toNat, by omega⟩
      rw [hq] at hxx3 hb
      have hq1 : q < ws.length := by omega
      obtain ⟨z, tz, ez, _⟩ := IntsAre.at hi q ws[q] (List.getElem?_eq_getElem hq1)
      have hx3 : ws.toArray[((q : Nat) : Int).toNat]? = some (Value.int z tz) := by
        rw [Int.toNat_natCast, ← ez]; simp
      have hDn3 := hsub3 _ (hsubI _ hDn)
      have hMn3 := hsub3 _ (hsubI _ hMn)
      have hqs : q < ws.toArray.size := by rw [List.size_toArray]; exact hq1
      clear FI
      k_steps
      rename Fr _ _ _ _ => FE
      rename News _ _ _ _ => NE
      refine LCg.CompEnd.intro FE NE nw3 (fun _ h => h) off33 trivial ⟨hsub3, _, hys3.append (.cons _ _ .nil)⟩
    · rintro ys3 nw3 ⟨hsub3, zs, hys3⟩
      unfold LCg.FinE
      intro D4 h4 tk4 F4 N4 o4
      have hNn4 := hsub3 _ (hsubI _ hNn)
      clear FI
      k_steps
      rename Fr _ _ _ _ => FE
      rename News _ _ _ _ => NE
      have b1 := Int.fmod_nonneg_of_pos zs.sum (show (0 : Int) < (n : Int) + 1 by omega)
      have b2 := Int.fmod_lt_of_pos zs.sum (show (0 : Int) < (n : Int) + 1 by omega)
      refine LCg.CompEnd.intro FE NE nw (fun p hp => .tail _ (hsub3 p hp)) off3 trivial ⟨hsub, _, hys.append (.cons _ _ .nil), by rw [List.length_append, hlen]; rfl, fun p hp => ?_⟩
      rcases List.mem_append.mp hp with hp | hp
      · exact hps p hp
      · rw [List.mem_singleton.mp hp]; omega
  · rintro ys nw ⟨hsub, ps, hys, hlen, hps⟩
    unfold LCg.FinA
    intro D3 h3 tk3 F4 N4 o1
    exact ⟨rfl, _, _, _, _, rfl, F4, N4, D3, ys, ps, if_pos rfl, List.mem_cons_self, hys, hlen, hps, fun p hp => .tail _ (hsub _ (hsubC _ hp))⟩
end

end
section
local macro_rules | `(tactic| walk_at "ite") => `(tactic| walk_at "ite9")
section
local macro_rules | `(tactic| walk_at "ite") => `(tactic| walk_at "ite9")
local macro_rules | `(tactic| walk_at "CompSrc") => `(tactic| refine Hold.use ?_)
local macro_rules | `(tactic| walk_at "exec Assign cons ListComp") => `(tactic| walk_at "asg9")

def nxOf (ys : List Value) (q : Nat) : Option Nat := match ys[q]? with
  | some (.int j _) => some j.toNat
  | _ => none
def ktOf (ys : List Value) (q : Nat) : Nat := match ys[q]? with
  | some (.int _ t) => t
  | _ => 0
theorem tvOf_of {ys : List Value} {n : Nat} (hl : ys.length = n) (h : ∀ (q : Nat) v, ys[q]? = some v → v = Value.none ∨ ∃ j t : Nat, j < n ∧ v = .int (j : Int) t) : ys.toArray = arr n (tvOf (nxOf ys) (ktOf ys)) := by
  apply Array.ext_getElem?
  intro i
  by_cases hi : i < n
  · rw [arr_get hi, List.getElem?_toArray]
    have e : ys[i]? = some ys[i] := List.getElem?_eq_getElem (by omega)
    rcases h i _ e with e2 | ⟨j, t, hj, e2⟩
    · rw [e2] at e
      rw [e]; unfold tvOf nxOf; rw [e]
    · rw [e2] at e
      rw [e]; unfold tvOf nxOf ktOf; rw [e]; rfl
  · rw [Array.getElem?_eq_none (by rw [List.size_toArray]; omega), Array.getElem?_eq_none (by rw [arr_size]; omega)]
theorem nxOf_lt {ys : List Value} {n : Nat} (h : ∀ (q : Nat) v, ys[q]? = some v → v = Value.none ∨ ∃ j t : Nat, j < n ∧ v = .int (j : Int) t) (i j : Nat) (e : nxOf ys i = some j) : j < n := by
  unfold nxOf at e
  cases hy : ys[i]? with
  | none => rw [hy] at e; cases e
  | some v =>
    rw [hy] at e
    rcases h i v hy with rfl | ⟨k, t, hk, rfl⟩
    · cases e
    · have := Option.some.inj e
      rw [Int.toNat_natCast] at this
      omega
section
variable {w : World} {mg mb : Str → Option Value} {mean : ExcName → Option Value} {h₀ : Heap} {L fa : Addr} {cdv : Value} {m : Str → Option Value} {news : List (Addr × Obj)} {s : Shared} {σ : St}
theorem st3 (B : Below callerA h₀ [] h₀) (X : (Mine.hd.heap_39 w.params).In h₀) (T : Top Mine.hd.view_39 (looseW Mine.hd.view_39 []) mean mg mb h₀) (F : Fr h₀ L s.heap m) (N : News h₀ L s.heap news) {oN : Obj} {P n tn : Nat} {vps : List Value} {ps : List Int} (hm : m (Str.ofString "places") = some (.ref P)) (hP : (P, LCg.lst vps) ∈ news) (hNm : (L + 1 + 1, oN) ∈ news) (d2 : oN.data = .cell (some (.int (n : Int) tn))) (hi : IntsAre vps ps) (hlen : ps.length = n) (hps : ∀ p ∈ ps, 0 ≤ p ∧ p ≤ (n : Int)) (hn : 3 ≤ n ∧ n ≤ 40) :
    wpAny (model PySem.Challenge.rw_kn0107_01.row.prog w) (callerA.deeper (lawEnv L fa cdv)) (exec (lawStmt 3) (lawEnv L fa cdv))
      (Next h₀ L s fun m' news' => ∃ (T : Nat) (nx : Nat → Option Nat) (kt : Nat → Nat) (c : Nat), m' (Str.ofString "targets") = some (.ref T) ∧ (T, W.listOf (arr n (tvOf nx kt)) c) ∈ news' ∧ (∀ i, i < n → ∀ j, nx i = some j → j < n) ∧ (∀ p ∈ news, @Ne Nat p.1 T) ∧ ∀ p ∈ news, p ∈ news') (fun _ _ => False) s := by
  unfold lawEnv
  conv in lawStmt _ => whnf
  conv in (occs := *) lawScope => all_goals whnf
  revert X; k_fill; intro X

  have hws := hi.length
  obtain ⟨u1, F1⟩ := fr_kst [(Str.ofString "places", Value.ref P)] F (by intro p hp; rw [List.mem_singleton.mp hp]; exact hm)
  clear F hm
  k_steps
  have hsz : vps.toArray.size = n := by rw [List.size_toArray, hws, hlen]
  refine ⟨LCg.CompSrc.ledger rfl F1 N hP (by rw [PySem.sizeLine_eq]; omega) ?_⟩
  intro gg
  refine comp_rest (n := vps.toArray.size) (fun i ys nw => (∀ p ∈ news, p ∈ nw) ∧ ys.length = i ∧ (∀ (q : Nat) v, ys[q]? = some v → v = Value.none ∨ ∃ j t : Nat, j < n ∧ v = .int (j : Int) t)) ?_ ?_ _ 0 [] _ (by omega) ⟨fun _ h => h, rfl, fun q v h => by simp at h⟩
  · rintro ic ys nw vv Ic oIc C oC D2 mm hh tkk E' hic ⟨hsub, hys, hvs⟩ hvv hC hxx FF NN off3 neC
    obtain ⟨z, tz, rfl, hz⟩ := IntsAre.at hi ic vv (by simpa using hvv)
    have hz2 := hps z (List.mem_of_getElem? hz)
    obtain ⟨j, rfl⟩ : ∃ j : Nat, z = (j : Int) := ⟨z.toNat, by omega⟩
    have hNn := hsub _ hNm
    have hPn := hsub _ hP
    clear F1 N
    have fin : ∀ y : Value, (y = Value.none ∨ ∃ k t : Nat, k < n ∧ y = .int (k : Int) t) → (ys ++ [y]).length = ic + 1 ∧ (∀ (q : Nat) v, (ys ++ [y])[q]? = some v → v = Value.none ∨ ∃ j t : Nat, j < n ∧ v = .int (j : Int) t) := fun y hy => by
      refine ⟨by rw [List.length_append, hys]; rfl, fun q v hq => ?_⟩
      by_cases h : q < ys.length
      · rw [List.getElem?_append_left h] at hq; exact hvs q v hq
      · rw [List.getElem?_append_right (by omega)] at hq
        have := List.mem_of_getElem? hq
        rw [List.mem_singleton.mp this]; exact hy
    by_cases hpn : (j : Int) < (n : Int)
    · k_steps
      rename Fr _ _ _ _ => FE
      rename News _ _ _ _ => NE
      exact LCg.CompEnd.intro FE NE nw (fun _ h => h) off3 (Or.inr ⟨_, hPn, rfl, _, rfl⟩) ⟨hsub, fin _ (.inr ⟨j, _, by omega, rfl⟩)⟩
    · k_steps
      rename Fr _ _ _ _ => FE
      rename News _ _ _ _ => NE
      exact LCg.CompEnd.intro FE NE nw (fun _ h => h) off3 (Or.inr ⟨_, hPn, rfl, _, rfl⟩) ⟨hsub, fin _ (.inl rfl)⟩
  · rintro ys nw ⟨hsub, hys, hvs⟩
    unfold LCg.FinA
    intro D3 h3 tk3 F4 N4 o1
    have hr : (D3, W.listOf (arr n (tvOf (nxOf ys) (ktOf ys))) n) ∈ (D3, LCg.lst ys) :: nw := by
      rw [← tvOf_of (hys.trans hsz) hvs, ← hys.trans hsz]; exact List.mem_cons_self
    exact ⟨rfl, _, _, _, _, rfl, F4, N4, D3, nxOf ys, ktOf ys, n, if_pos rfl, hr, fun i _ j e => nxOf_lt hvs i j e, fun p hp => off1_mem o1 p (hsub p hp), fun p hp => .tail _ (hsub _ hp)⟩
end

end
section
local macro_rules | `(tactic| walk_at "ite") => `(tactic| walk_at "ite9")
local macro_rules | `(tactic| walk_at "call ref") => `(tactic| (k_here; k_dflt (first | walk_at "told" | (refine' washed ?B ?F ?X ?N ?T ?hk ?hx ?hd ?hdp ?hun ?hv ?hxd ?_; (case hk => exact rfl); (case B | F | X | N | T => k_asm); (case hx | hd => k_mem); (case hdp => walk_at "room2"); (case hun => units_room); (case hv => first | assumption | (constructor <;> first | assumption | rfl)); (case hxd => assumption); k_whole; intro news' h' tk' F' N' K' D'; (try k_sweep)))))
local macro_rules | `(tactic| walk_at "binaryOp Mult ref int") => `(tactic| (k_here; k_dflt (refine' mul_none ?F ?N ?m ?a ?b ?_; (case F | N => k_asm); (case m => k_mem); (case a | b => decide); k_whole); intro D' h' F' N' l1; (try k_sweep)))
local macro_rules | `(tactic| walk_at "binaryOp Add ref ref") => `(tactic| (k_here; k_dflt (refine' add_zn ?F ?N ?a ?b ?_; (case F | N => k_asm); (case a | b => k_mem); k_whole); intro D' h' F' N' l1; (try k_sweep)))
local macro_rules | `(tactic| walk_at "compareOp NotEq ref ref") => `(tactic| (k_here; k_dflt (refine' ne_nest ?N ?p ?q ?a ?b ?c ?d ?u ?_; (case N => k_asm); (case p | q | a | b | c | d => k_mem); (case u => units_room); k_whole)))
section
variable {w : World} {mg mb : Str → Option Value} {mean : ExcName → Option Value} {h₀ : Heap} {L fa : Addr} {cdv : Value} {m : Str → Option Value} {news : List (Addr × Obj)} {s : Shared} {σ : St}
theorem st6 (B : Below callerA h₀ [] h₀) (X : (Mine.hd.heap_39 w.params).In h₀) (T : Top Mine.hd.view_39 (looseW Mine.hd.view_39 []) mean mg mb h₀) (F : Fr h₀ L s.heap m) (N : News h₀ L s.heap news) (I : σ.In w.params news) (hn : 3 ≤ σ.n ∧ σ.n ≤ 40) {t0 : Nat} (h0 : σ.vs 0 = ⟨.int 0 t0, .none, .none, .none, .none⟩) (h1 : σ.vs 1 = ⟨.none, .none, .none, .none, .none⟩)
    (hm : ∀ p ∈ [(Str.ofString "targets", Value.ref σ.aT), (Str.ofString "sources", Value.ref σ.aS), (Str.ofString "froms", Value.ref σ.aF), (Str.ofString "answers", Value.ref σ.aA)], m p.1 = some p.2) :
    wpAny (model PySem.Challenge.rw_kn0107_01.row.prog w) (callerA.deeper (lawEnv L fa cdv)) (exec (lawStmt 6) (lawEnv L fa cdv))
      (Next h₀ L s fun m' news' => (∀ p ∈ [(Str.ofString "targets", Value.ref σ.aT), (Str.ofString "sources", Value.ref σ.aS), (Str.ofString "froms", Value.ref σ.aF), (Str.ofString "answers", Value.ref σ.aA)], m' p.1 = some p.2) ∧ St.In w.params { σ with vs := put σ.vs 1 nones } news') (fun _ _ => False) s := by
  unfold lawEnv
  conv in lawStmt _ => whnf
  conv in (occs := *) lawScope => all_goals whnf
  revert X; k_fill; intro X

  obtain ⟨u1, F1⟩ := fr_kst _ F hm
  have hS := I.S
  have hX0 := I.X (i := 0) (by omega)
  have hX1 := I.X (i := 1) (by omega)
  have hD0 : (σ.ds 0, dictOf (ents w.params (σ.ts 0) ⟨.int 0 t0, .none, .none, .none, .none⟩) 5) ∈ news := by rw [← h0]; exact I.D (i := 0) (by omega)
  have hD1 : (σ.ds 1, dictOf (ents w.params (σ.ts 1) ⟨.none, .none, .none, .none, .none⟩) 5) ∈ news := by rw [← h1]; exact I.D (i := 1) (by omega)
  have hx0 : (arr σ.n fun i => Value.ref (σ.xs i))[(0 : Int).toNat]? = some (Value.ref (σ.xs 0)) := arr_get (by omega)
  have hx1 : (arr σ.n fun i => Value.ref (σ.xs i))[(1 : Int).toNat]? = some (Value.ref (σ.xs 1)) := arr_get (by omega)
  have hxd : @Ne Nat (σ.xs 1) (σ.ds 1) := I.ne (.X 1) (.D 1) (show 1 < σ.n by omega) (show 1 < σ.n by omega) (by simp)
  clear F hm
  k_steps
  rename_i K' D'
  rename Fr _ _ _ _ => FE
  rename News _ _ _ _ => NE
  refine ⟨rfl, _, _, _, _, rfl, FE, NE, (by intro p hp; simp only [List.mem_cons, List.not_mem_nil, or_false] at hp; rcases hp with rfl | rfl | rfl | rfl <;> with_unfolding_all rfl), (I.setV (k := 1) (by omega) nones).mono fun p hp => ?_⟩
  rcases List.mem_cons.mp hp with rfl | hp
  · exact D'
  · have hf := List.mem_filter.mp hp
    have hne : p.1 ≠ σ.ds 1 := by simpa using hf.2
    refine K' p ?_ hne
    have hp1 := hf.1
    repeat (first | exact hp1 | refine List.mem_cons_of_mem _ ?_)
end

end
end
end
section
local macro_rules | `(tactic| walk_at "ite") => `(tactic| walk_at "ite9")
local macro_rules | `(tactic| walk_at "CompSrc") => `(tactic| refine Hold.use ?_)
local macro_rules | `(tactic| walk_at "exec Assign cons ListComp") => `(tactic| walk_at "asg9")

theorem mem_turn {α : Type} {a b c x d p : α} {r : List α} (h : p ∈ a :: b :: c :: x :: d :: r) : p ∈ x :: d :: a :: b :: c :: r := by
  simp only [List.mem_cons] at *
  rcases h with h | h | h | h | h | h <;> simp [h]
/-- the sources made so far -/
structure Made (P : Params) (i : Nat) (xs ds : Nat → Addr) (ts : Nat → Nat → Nat) (vs : Nat → Things) (ys : List Value) (nw : List (Addr × Obj)) : Prop where
  len : ys.length = i
  at' : ∀ q, q < i → ys[q]? = some (.ref (xs q))
  x : ∀ q, q < i → (xs q, instObj 102 (ds q)) ∈ nw
  d : ∀ q, q < i → (ds q, dictOf (ents P (ts q) (vs q)) 5) ∈ nw
  ix : ∀ q r, q < i → r < i → @Eq Nat (xs q) (xs r) → q = r
  id' : ∀ q r, q < i → r < i → @Eq Nat (ds q) (ds r) → q = r
  ok : ∀ q, q < i → (vs q).Ok
  v0 : 0 < i → ∃ t, vs 0 = ⟨.int 0 t, .none, .none, .none, .none⟩
  v1 : 1 < i → vs 1 = ⟨.none, .none, .none, .none, .none⟩
theorem Made.zero {P : Params} {nw : List (Addr × Obj)} : Made P 0 (fun _ => 0) (fun _ => 0) (fun _ _ => 0) (fun _ => ⟨.none, .none, .none, .none, .none⟩) [] nw :=
  ⟨rfl, fun _ h => absurd h (Nat.not_lt_zero _), fun _ h => absurd h (Nat.not_lt_zero _), fun _ h => absurd h (Nat.not_lt_zero _), fun _ _ h => absurd h (Nat.not_lt_zero _), fun _ _ h => absurd h (Nat.not_lt_zero _), fun _ h => absurd h (Nat.not_lt_zero _), fun h => absurd h (Nat.not_lt_zero _), fun h => absurd h (Nat.not_lt_zero _)⟩
theorem Made.succ {P : Params} {i : Nat} {xs ds : Nat → Addr} {ts : Nat → Nat → Nat} {vs : Nat → Things} {ys : List Value} {nw : List (Addr × Obj)} (M : Made P i xs ds ts vs ys nw) {x d : Addr} {a b c e f : Nat} (v : Things)
    (l1 : ∀ p ∈ nw, @LT.lt Nat _ p.1 d) (l2 : @LT.lt Nat _ d x) (hv : v.Ok) (h0 : i = 0 → ∃ t, v = ⟨.int 0 t, .none, .none, .none, .none⟩) (h1 : i = 1 → v = ⟨.none, .none, .none, .none, .none⟩) :
    Made P (i + 1) (put xs i x) (put ds i d) (put ts i fun k => [a, b, c, e, f].getD k 0) (put vs i v) (ys ++ [.ref x]) ((x, instObj 102 d) :: (d, dictOf [En P (Str.ofString "_InputSource__system_id") a v.sys, En P (Str.ofString "_InputSource__public_id") b v.pub, En P (Str.ofString "_InputSource__encoding") c v.enc, En P (Str.ofString "_InputSource__bytefile") e v.byt, En P (Str.ofString "_InputSource__charfile") f v.chr] 5) :: nw) := by
  have lx : ∀ q, q < i → @LT.lt Nat _ (xs q) d := fun q hq => l1 _ (M.x q hq)
  have ld : ∀ q, q < i → @LT.lt Nat _ (ds q) d := fun q hq => l1 _ (M.d q hq)
  refine ⟨by rw [List.length_append, M.len]; rfl, fun q hq => ?_, fun q hq => ?_, fun q hq => ?_, fun q r hq hr e' => ?_, fun q r hq hr e' => ?_, fun q hq => ?_, fun h => ?_, fun h => ?_⟩
  · by_cases h : q = i
    · subst h
      rw [put_at, List.getElem?_append_right (by rw [M.len]; exact Nat.le_refl _), M.len, Nat.sub_self]; rfl
    · rw [put_ne h, List.getElem?_append_left (by rw [M.len]; omega)]; exact M.at' q (by omega)
  · by_cases h : q = i
    · subst h; rw [put_at, put_at]; exact .head _
    · rw [put_ne h, put_ne h]; exact .tail _ (.tail _ (M.x q (by omega)))
  · by_cases h : q = i
    · subst h; rw [put_at, put_at, put_at]; exact .tail _ (.head _)
    · rw [put_ne h, put_ne h, put_ne h]; exact .tail _ (.tail _ (M.d q (by omega)))
  · by_cases h : q = i
    · by_cases h' : r = i
      · omega
      · subst h; rw [put_at, put_ne h'] at e'; have := lx r (by omega); omega
    · by_cases h' : r = i
      · subst h'; rw [put_at, put_ne h] at e'; have := lx q (by omega); omega
      · rw [put_ne h, put_ne h'] at e'; exact M.ix q r (by omega) (by omega) e'
  · by_cases h : q = i
    · by_cases h' : r = i
      · omega
      · subst h; rw [put_at, put_ne h'] at e'; have := ld r (by omega); omega
    · by_cases h' : r = i
      · subst h'; rw [put_at, put_ne h] at e'; have := ld q (by omega); omega
      · rw [put_ne h, put_ne h'] at e'; exact M.id' q r (by omega) (by omega) e'
  · by_cases h : q = i
    · subst h; rw [put_at]; exact hv
    · rw [put_ne h]; exact M.ok q (by omega)
  · by_cases h' : 0 = i
    · rw [← h', put_at]; exact h0 h'.symm
    · rw [put_ne h']; exact M.v0 (by omega)
  · by_cases h' : 1 = i
    · rw [← h', put_at]; exact h1 h'.symm
    · rw [put_ne h']; exact M.v1 (by omega)
theorem Made.arr {P : Params} {i : Nat} {xs ds : Nat → Addr} {ts : Nat → Nat → Nat} {vs : Nat → Things} {ys : List Value} {nw : List (Addr × Obj)} (M : Made P i xs ds ts vs ys nw) : ys.toArray = Mine.arr i fun q => .ref (xs q) := by
  apply Array.ext_getElem?
  intro q
  by_cases h : q < i
  · rw [arr_get h, List.getElem?_toArray, M.at' q h]
  · rw [Array.getElem?_eq_none (by rw [List.size_toArray, M.len]; omega), Array.getElem?_eq_none (by rw [arr_size]; omega)]
section
variable {w : World} {mg mb : Str → Option Value} {mean : ExcName → Option Value} {h₀ : Heap} {L fa : Addr} {cdv : Value} {m : Str → Option Value} {news : List (Addr × Obj)} {s : Shared} {σ : St}
theorem st4 (B : Below callerA h₀ [] h₀) (X : (Mine.hd.heap_39 w.params).In h₀) (T : Top Mine.hd.view_39 (looseW Mine.hd.view_39 []) mean mg mb h₀) (F : Fr h₀ L s.heap m) (N : News h₀ L s.heap news) {oN : Obj} {n tn : Nat} (hNm : (L + 1 + 1, oN) ∈ news) (d2 : oN.data = .cell (some (.int (n : Int) tn))) (hn : 3 ≤ n ∧ n ≤ 40) :
    wpAny (model PySem.Challenge.rw_kn0107_01.row.prog w) (callerA.deeper (lawEnv L fa cdv)) (exec (lawStmt 4) (lawEnv L fa cdv))
      (Next h₀ L s fun m' news' => ∃ (S : Nat) (c : Nat) (xs ds : Nat → Addr) (ts : Nat → Nat → Nat) (vs : Nat → Things) (ys : List Value) (nw : List (Addr × Obj)), (∀ z, z ≠ Str.ofString "sources" → m' z = m z) ∧ m' (Str.ofString "sources") = some (.ref S) ∧ (S, W.listOf (arr n fun q => .ref (xs q)) c) ∈ news' ∧ Made w.params n xs ds ts vs ys nw ∧ (∀ p ∈ nw, p ∈ news') ∧ (∀ p ∈ nw, @Ne Nat p.1 S) ∧ (∀ p ∈ news, p ∈ nw)) (fun _ _ => False) s := by
  unfold lawEnv
  conv in lawStmt _ => whnf
  conv in (occs := *) lawScope => all_goals whnf
  revert X; k_fill; intro X

  k_steps
  rename_i FC NC _
  have hsubC : ∀ p ∈ news, p ∈ ledOf NC := fun p hp => by repeat (first | exact hp | refine List.mem_cons_of_mem _ ?_)
  refine ⟨LCg.CompSrc.range rfl FC NC (by assumption) (range_small (by omega)) range_size (by rw [PySem.sizeLine_eq]; omega) ?_⟩
  intro gg
  refine comp_rest (n := n) (fun i ys nw => (∀ p ∈ ledOf NC, p ∈ nw) ∧ ∃ xs ds ts vs, Made w.params i xs ds ts vs ys nw) ?_ ?_ _ 0 [] _ (by omega) ⟨fun _ h => h, _, _, _, _, Made.zero⟩
  · rintro ic ys nw vv Ic oIc C oC D2 mm hh tkk E' hic ⟨hsub, xs, ds, ts, vs, M⟩ hvv hC hxx FF NN off3 neC
    obtain ⟨tk, rfl⟩ := hvv
    clear FC
    by_cases hpn : Int.fmod (0 + (ic : Int)) 2 = 0
    · k_steps
      rename Fr _ _ _ _ => FE
      rename News _ _ _ _ => NE
      rename _ ∧ _ ∧ _ ∧ AllLt _ _ => l1
      rename _ < _ => l2
      exact LCg.CompEnd.intro FE NE _ (fun p hp => mem_turn hp) ⟨⟨neN (by omega), neN (by omega), neN (by omega)⟩, ⟨neN (by omega), neN (by omega), neN (by omega)⟩, off3⟩ trivial ⟨fun p hp => .tail _ (.tail _ (hsub p hp)), _, _, _, _, M.succ ⟨.int 0 _, .none, .none, .none, .none⟩ (allLt_mem l1.2.2.2) l2 ⟨rfl, rfl, rfl, rfl, rfl⟩ (fun _ => ⟨_, rfl⟩) (fun h => by subst h; exact absurd hpn (by decide))⟩
    · k_steps
      rename Fr _ _ _ _ => FE
      rename News _ _ _ _ => NE
      rename _ ∧ _ ∧ _ ∧ AllLt _ _ => l1
      rename _ < _ => l2
      exact LCg.CompEnd.intro FE NE _ (fun p hp => mem_turn hp) ⟨⟨neN (by omega), neN (by omega), neN (by omega)⟩, ⟨neN (by omega), neN (by omega), neN (by omega)⟩, off3⟩ trivial ⟨fun p hp => .tail _ (.tail _ (hsub p hp)), _, _, _, _, M.succ ⟨.none, .none, .none, .none, .none⟩ (allLt_mem l1.2.2.2) l2 ⟨rfl, rfl, rfl, rfl, rfl⟩ (fun h => by subst h; exact absurd rfl hpn) (fun _ => rfl)⟩
  · rintro ys nw ⟨hsub, xs, ds, ts, vs, M⟩
    unfold LCg.FinA
    intro D3 h3 tk3 F4 N4 o1
    have hr : (D3, W.listOf (arr n fun q => .ref (xs q)) n) ∈ (D3, LCg.lst ys) :: nw := by
      rw [← M.arr, ← M.len]; exact List.mem_cons_self
    exact ⟨rfl, _, _, _, _, rfl, F4, N4, D3, n, xs, ds, ts, vs, ys, nw, fun z hz => if_neg hz, if_pos rfl, hr, M, fun p hp => .tail _ hp, off1_mem o1, fun p hp => hsub _ (hsubC _ hp)⟩
end

end
section
local macro_rules | `(tactic| walk_at "CompSrc") => `(tactic| refine Hold.use ?_)
local macro_rules | `(tactic| walk_at "eval ListComp") => `(tactic| (k_here; k_dflt (refine' LCg.ListComp_U (F₀ := ?F) ?a2 ?a4 ?a5 ?a6 ?a7 ?_ ?a8; (case F => k_asm); (case a4 => decide); (case a5 => rfl); (case a6 => decide); (case a7 => rfl); (case a2 => with_unfolding_all rfl); (case a8 => intro _; with_unfolding_all rfl); k_whole)))

theorem mem_turn1 {α : Type} {a b c x p : α} {r : List α} (h : p ∈ a :: b :: c :: x :: r) : p ∈ x :: a :: b :: c :: r := by
  simp only [List.mem_cons] at *
  rcases h with h | h | h | h | h <;> simp [h]
/-- the lists made so far -/
structure GMade (i : Nat) (gs : Nat → Addr) (ys : List Value) (base nw : List (Addr × Obj)) : Prop where
  len : ys.length = i
  at' : ∀ q, q < i → ys[q]? = some (.ref (gs q))
  g : ∀ q, q < i → (gs q, W.listOf #[] 0) ∈ nw
  ig : ∀ q r, q < i → r < i → @Eq Nat (gs q) (gs r) → q = r
  off : ∀ q, q < i → ∀ p ∈ base, @Ne Nat p.1 (gs q)
theorem GMade.zero {base nw : List (Addr × Obj)} : GMade 0 (fun _ => 0) [] base nw :=
  ⟨rfl, fun _ h => absurd h (Nat.not_lt_zero _), fun _ h => absurd h (Nat.not_lt_zero _), fun _ _ h => absurd h (Nat.not_lt_zero _), fun _ h => absurd h (Nat.not_lt_zero _)⟩
theorem GMade.succ {i : Nat} {gs : Nat → Addr} {ys : List Value} {base nw : List (Addr × Obj)} (M : GMade i gs ys base nw) {x : Addr} (l1 : ∀ p ∈ nw, @LT.lt Nat _ p.1 x) (sub : ∀ p ∈ base, p ∈ nw) :
    GMade (i + 1) (put gs i x) (ys ++ [.ref x]) base ((x, W.listOf #[] 0) :: nw) := by
  have lx : ∀ q, q < i → @LT.lt Nat _ (gs q) x := fun q hq => l1 _ (M.g q hq)
  refine ⟨by rw [List.length_append, M.len]; rfl, fun q hq => ?_, fun q hq => ?_, fun q r hq hr e' => ?_, fun q hq => ?_⟩
  · by_cases h : q = i
    · subst h
      rw [put_at, List.getElem?_append_right (by rw [M.len]; exact Nat.le_refl _), M.len, Nat.sub_self]; rfl
    · rw [put_ne h, List.getElem?_append_left (by rw [M.len]; omega)]; exact M.at' q (by omega)
  · by_cases h : q = i
    · subst h; rw [put_at]; exact .head _
    · rw [put_ne h]; exact .tail _ (M.g q (by omega))
  · by_cases h : q = i
    · by_cases h' : r = i
      · omega
      · subst h; rw [put_at, put_ne h'] at e'; have := lx r (by omega); omega
    · by_cases h' : r = i
      · subst h'; rw [put_at, put_ne h] at e'; have := lx q (by omega); omega
      · rw [put_ne h, put_ne h'] at e'; exact M.ig q r (by omega) (by omega) e'
  · by_cases h : q = i
    · subst h; rw [put_at]; intro p hp; have := l1 p (sub p hp); exact Nat.ne_of_lt this
    · rw [put_ne h]; exact M.off q (by omega)
theorem GMade.arr {i : Nat} {gs : Nat → Addr} {ys : List Value} {base nw : List (Addr × Obj)} (M : GMade i gs ys base nw) : ys.toArray = Mine.arr i fun q => .ref (gs q) := by
  apply Array.ext_getElem?
  intro q
  by_cases h : q < i
  · rw [arr_get h, List.getElem?_toArray, M.at' q h]
  · rw [Array.getElem?_eq_none (by rw [List.size_toArray, M.len]; omega), Array.getElem?_eq_none (by rw [arr_size]; omega)]
section
variable {w : World} {mg mb : Str → Option Value} {mean : ExcName → Option Value} {h₀ : Heap} {L fa : Addr} {cdv : Value} {m : Str → Option Value} {news : List (Addr × Obj)} {s : Shared} {σ : St}
theorem st5 (B : Below callerA h₀ [] h₀) (X : (Mine.hd.heap_39 w.params).In h₀) (T : Top Mine.hd.view_39 (looseW Mine.hd.view_39 []) mean mg mb h₀) (F : Fr h₀ L s.heap m) (N : News h₀ L s.heap news) {oN : Obj} {n tn aT aS : Nat} (hm : ∀ p ∈ [(Str.ofString "targets", Value.ref aT), (Str.ofString "sources", Value.ref aS)], m p.1 = some p.2) (hNm : (L + 1 + 1, oN) ∈ news) (d2 : oN.data = .cell (some (.int (n : Int) tn))) (hn : 3 ≤ n ∧ n ≤ 40) :
    wpAny (model PySem.Challenge.rw_kn0107_01.row.prog w) (callerA.deeper (lawEnv L fa cdv)) (exec (lawStmt 5) (lawEnv L fa cdv))
      (Next h₀ L s fun m' news' => ∃ (aF aA c : Nat) (gs : Nat → Addr) (ys : List Value) (nw : List (Addr × Obj)), (∀ p ∈ [(Str.ofString "targets", Value.ref aT), (Str.ofString "sources", Value.ref aS), (Str.ofString "froms", Value.ref aF), (Str.ofString "answers", Value.ref aA)], m' p.1 = some p.2) ∧ (aF, W.listOf (arr n fun q => .ref (gs q)) c) ∈ news' ∧ (aA, W.listOf #[] 0) ∈ news' ∧ GMade n gs ys news nw ∧ (∀ p ∈ nw, p ∈ news') ∧ (∀ p ∈ nw, @Ne Nat p.1 aF) ∧ (∀ p ∈ nw, @Ne Nat p.1 aA) ∧ @Ne Nat aF aA ∧ (∀ p ∈ news, p ∈ nw)) (fun _ _ => False) s := by
  unfold lawEnv
  conv in lawStmt _ => whnf
  conv in (occs := *) lawScope => all_goals whnf
  revert X; k_fill; intro X

  obtain ⟨u1, F1⟩ := fr_kst _ F hm
  clear F hm
  k_steps
  rename_i FC NC _
  have hsubC : ∀ p ∈ news, p ∈ ledOf NC := fun p hp => by repeat (first | exact hp | refine List.mem_cons_of_mem _ ?_)
  refine ⟨LCg.CompSrc.range rfl FC NC (by assumption) (range_small (by omega)) range_size (by rw [PySem.sizeLine_eq]; omega) ?_⟩
  intro gg
  refine comp_rest (n := n) (fun i ys nw => (∀ p ∈ ledOf NC, p ∈ nw) ∧ ∃ gs, GMade i gs ys news nw) ?_ ?_ _ 0 [] _ (by omega) ⟨fun _ h => h, _, GMade.zero⟩
  · rintro ic ys nw vv Ic oIc C oC D2 mm hh tkk E' hic ⟨hsub, gs, M⟩ hvv hC hxx FF NN off3 neC
    obtain ⟨tk, rfl⟩ := hvv
    clear FC
    k_steps
    rename Fr _ _ _ _ => FE
    rename News _ _ _ _ => NE
    rename _ ∧ _ ∧ _ ∧ AllLt _ _ => l1
    exact LCg.CompEnd.intro FE NE _ (fun p hp => mem_turn1 hp) ⟨⟨neN (by omega), neN (by omega), neN (by omega)⟩, off3⟩ trivial ⟨fun p hp => .tail _ (hsub p hp), _, M.succ (allLt_mem l1.2.2.2) (fun p hp => hsub _ (hsubC _ hp))⟩
  · rintro ys nw ⟨hsub, gs, M⟩
    unfold LCg.FinE
    intro D3 h3 tk3 F4 N4 o1
    have hr : (D3, W.listOf (arr n fun q => .ref (gs q)) n) ∈ (D3, LCg.lst ys) :: nw := by
      rw [← M.arr, ← M.len]; exact List.mem_cons_self
    clear FC
    k_steps
    rename Fr _ _ _ _ => FE
    rename News _ _ _ _ => NE
    rename _ ∧ AllLt _ nw => l1
    rename_i lA _ _ _ _ _ _ _
    exact ⟨rfl, _, _, _, _, rfl, FE, NE, D3, lA, n, gs, ys, nw, (by intro p hp; simp only [List.mem_cons, List.not_mem_nil, or_false] at hp; rcases hp with rfl | rfl | rfl | rfl <;> with_unfolding_all rfl), .tail _ (.tail _ hr), .tail _ (.head _), M, fun p hp => .tail _ (.tail _ (.tail _ hp)), off1_mem o1, fun p hp => Nat.ne_of_lt (allLt_mem l1.2 p hp), neN (by omega), fun p hp => hsub _ (hsubC _ hp)⟩
end

def kdOf (o : Obj) : Nat := match o.data with
  | .seq _ _ => 1
  | .dict _ _ => 2
  | .cell _ => 3
  | _ => 0
def Slot.kd : Slot → Nat
  | .S => 1 | .T => 1 | .F => 1 | .A => 1 | .N => 3
  | .X _ => 0 | .D _ => 2 | .B _ => 1 | .G _ => 1
theorem St.kd {P : Params} {σ : St} {c : Option Value} (hc : σ.oN.data = .cell c) (q : Slot) : kdOf (σ.ob P q) = q.kd := by
  cases q with
  | N => show kdOf σ.oN = 3; unfold kdOf; rw [hc]
  | _ => rfl
theorem St.In.make {P : Params} {σ : St} {news : List (Addr × Obj)} {h₀ h : Heap} {L : Addr} {c : Option Value} (N : News h₀ L h news) (own : ∀ q, σ.ok q → (σ.ad q, σ.ob P q) ∈ news) (hc : σ.oN.data = .cell c) (nb0 : σ.nb = 0)
    (ix : ∀ q r, q < σ.n → r < σ.n → @Eq Nat (σ.xs q) (σ.xs r) → q = r) (id' : ∀ q r, q < σ.n → r < σ.n → @Eq Nat (σ.ds q) (σ.ds r) → q = r) (ig : ∀ q r, q < σ.n → r < σ.n → @Eq Nat (σ.gs q) (σ.gs r) → q = r)
    (ST : @Ne Nat σ.aS σ.aT) (SF : @Ne Nat σ.aS σ.aF) (SA : @Ne Nat σ.aS σ.aA) (TF : @Ne Nat σ.aT σ.aF) (TA : @Ne Nat σ.aT σ.aA) (FA : @Ne Nat σ.aF σ.aA)
    (SG : ∀ i, i < σ.n → @Ne Nat σ.aS (σ.gs i)) (TG : ∀ i, i < σ.n → @Ne Nat σ.aT (σ.gs i)) (FG : ∀ i, i < σ.n → @Ne Nat σ.aF (σ.gs i)) (AG : ∀ i, i < σ.n → @Ne Nat σ.aA (σ.gs i)) : σ.In P news := by
  refine ⟨own, fun q r hq hr e => ?_⟩
  have hk : q.kd = r.kd := by
    rw [← St.kd (P := P) hc q, ← St.kd (P := P) hc r]
    have h1 := (N _ (own q hq)).1
    have h2 := (N _ (own r hr)).1
    have h3 : h.get? (σ.ad r) = some (σ.ob P q) := by rw [← e]; exact h1
    rw [h3] at h2
    rw [Option.some.inj h2]
  cases q <;> cases r <;> first
    | rfl
    | (exfalso; revert hk; simp [Slot.kd]; done)
    | exact absurd e ST | exact absurd e SF | exact absurd e SA | exact absurd e TF | exact absurd e TA | exact absurd e FA
    | exact absurd e ST.symm | exact absurd e SF.symm | exact absurd e SA.symm | exact absurd e TF.symm | exact absurd e TA.symm | exact absurd e FA.symm
    | exact absurd e (SG _ hr) | exact absurd e (TG _ hr) | exact absurd e (FG _ hr) | exact absurd e (AG _ hr)
    | exact absurd e (SG _ hq).symm | exact absurd e (TG _ hq).symm | exact absurd e (FG _ hq).symm | exact absurd e (AG _ hq).symm
    | (have hb : _ < σ.nb := hq; omega)
    | (have hb : _ < σ.nb := hr; omega)
    | rw [ix _ _ hq hr e]
    | rw [id' _ _ hq hr e]
    | rw [ig _ _ hq hr e]

end
section

theorem Done.of {h₀ h : Heap} {L : Addr} {s s' : Shared} {tk : Nat} {f : Flow} (d : Done h₀ L { s with heap := h, toks := tk } f s') : Done h₀ L s f s' := d
theorem seq_next {prog : Program} {w : World} {A : Around} {h₀ : Heap} {L : Addr} {s : Shared} {st : Stmt} {r : List Stmt} {env : Env} {J : (Str → Option Value) → List (Addr × Obj) → Prop}
    (h : wpAny (model prog w) A (exec st env) (Next h₀ L s J) (fun _ _ => False) s)
    (k : ∀ h' tk' m' news', Fr h₀ L h' m' → News h₀ L h' news' → J m' news' → wpAny (model prog w) A (execs r env) (Done h₀ L { s with heap := h', toks := tk' }) (fun _ _ => False) { s with heap := h', toks := tk' }) :
    wpAny (model prog w) A (execs (st :: r) env) (Done h₀ L s) (fun _ _ => False) s :=
  wpAny_execs_cons (wpAny_mono h (fun f s' hq => by
    obtain ⟨rfl, h', tk', m', news', rfl, F, N, hJ⟩ := hq
    exact wpAny_mono (k h' tk' m' news' F N hJ) (fun _ _ d => Done.of d) fun _ _ e => e) fun _ _ e => e)
theorem seq_last {prog : Program} {w : World} {A : Around} {h₀ : Heap} {L : Addr} {s : Shared} {st : Stmt} {env : Env} (h : wpAny (model prog w) A (exec st env) (Done h₀ L s) (fun _ _ => False) s) :
    wpAny (model prog w) A (execs [st] env) (Done h₀ L s) (fun _ _ => False) s :=
  wpAny_execs_cons (wpAny_mono h (fun f s' hq => by
    obtain ⟨rfl, hr⟩ := hq
    exact ⟨rfl, hr⟩) fun _ _ e => e)
section
variable {w : World} {mg mb : Str → Option Value} {mean : ExcName → Option Value} {h₀ : Heap} {L fa : Addr} {cdv : Value} {m : Str → Option Value} {news : List (Addr × Obj)} {s : Shared} {σ : St}
theorem law_tail (B : Below callerA h₀ [] h₀) (X : (Mine.hd.heap_39 w.params).In h₀) (T : Top Mine.hd.view_39 (looseW Mine.hd.view_39 []) mean mg mb h₀) (F : Fr h₀ L s.heap m) (N : News h₀ L s.heap news) (I : σ.In w.params news) (hn : 3 ≤ σ.n ∧ σ.n ≤ 40) (hnb : σ.nb = 0) (hbl : σ.bl = fun _ => []) (hgl : ∀ k, k < σ.n → σ.gl k = []) (hal : σ.al = []) (hok : ∀ k, k < σ.n → (σ.vs k).Ok) {t0 tn : Nat} (h0 : σ.vs 0 = ⟨.int 0 t0, .none, .none, .none, .none⟩) (h1 : σ.vs 1 = ⟨.none, .none, .none, .none, .none⟩)
    (hN : σ.oN.data = .cell (some (.int (σ.n : Int) tn))) (haN : σ.aN = L + 1 + 1) (hnx : ∀ i, i < σ.n → ∀ j, σ.nx i = some j → j < σ.n) (hm : ∀ p ∈ [(Str.ofString "targets", Value.ref σ.aT), (Str.ofString "sources", Value.ref σ.aS), (Str.ofString "froms", Value.ref σ.aF), (Str.ofString "answers", Value.ref σ.aA)], m p.1 = some p.2) :
    wpAny (model PySem.Challenge.rw_kn0107_01.row.prog w) (callerA.deeper (lawEnv L fa cdv)) (execs [lawStmt 6, lawStmt 7, lawStmt 8, lawStmt 9, lawStmt 10, lawStmt 11, lawStmt 12] (lawEnv L fa cdv)) (Done h₀ L s) (fun _ _ => False) s := by
  refine seq_next (st6 (σ := σ) B X T F N I hn h0 h1 hm) ?_
  rintro h7 tk7 m7 n7 F7 N7 ⟨hm7, I7⟩
  have hok7 : ∀ k, k < σ.n → (put σ.vs 1 nones k).Ok := fun k hk => by
    by_cases e : k = 1
    · rw [e, put_at]; exact ⟨rfl, rfl, rfl, rfl, rfl⟩
    · rw [put_ne e]; exact hok k hk
  refine seq_next (loop1 (σ := { σ with vs := put σ.vs 1 nones }) B X T F7 N7 I7 hn hnb hbl hal hok7 hN haN hm7) ?_
  rintro h8 tk8 m8 n8 F8 N8 ⟨hm8, bs, bc, vs8, al8, cA8, hfst, hok8, hal8, I8⟩
  refine seq_next (loop2 (σ := { σ with nb := σ.n, bs := bs, bl := fun _ => [], bc := bc, vs := vs8, al := al8, cA := cA8 }) B X T F8 N8 I8 hn rfl hnx (fun k hk => ⟨(hfst k hk).sys, (hfst k hk).pub, (hfst k hk).enc, (hfst k hk).byt, (hfst k hk).chr⟩) hok8 rfl hgl hal8 hN haN hm8) ?_
  rintro h9 tk9 m9 n9 F9 N9 ⟨hm9, vs9, bl9, bc9, gl9, gc9, al9, cA9, q9, S9, hal9, hq9, I9⟩
  refine seq_next (ringIf (σ := { σ with nb := σ.n, bs := bs, bl := bl9, bc := bc9, vs := vs9, gl := gl9, gc := gc9, al := al9, cA := cA9 }) B X T F9 N9 I9 hn hnx (fun i hi => S9.chr i hi hi) hm9) ?_
  rintro h10 tk10 m10 n10 F10 N10 ⟨hm10, I10⟩
  have hq9' : q9 ≤ 8 * σ.n := by
    have e : q9 ≤ 5 * σ.n + 3 * σ.n := hq9
    omega
  refine seq_next (loop3 (σ := { σ with nb := σ.n, bs := bs, bl := bl9, bc := bc9, vs := vs9, gl := gl9, gc := gc9, al := al9, cA := cA9 }) B X T F10 N10 I10 hn S9.ok hal9 hq9' hN haN hm10) ?_
  rintro h11 tk11 m11 n11 F11 N11 ⟨hm11, al11, cA11, q11, hal11, hq11, I11⟩
  refine seq_next (loop4 (σ := { σ with nb := σ.n, bs := bs, bl := bl9, bc := bc9, vs := vs9, gl := gl9, gc := gc9, al := al11, cA := cA11 }) B X T F11 N11 I11 hn rfl hnx ⟨S9.sys, S9.pub, S9.byt, S9.chr, S9.enc, S9.ok, S9.bl, S9.gl⟩ hN haN hm11) ?_
  rintro h12 tk12 m12 n12 F12 N12 ⟨hm12, I12⟩
  have hq11' : q11 ≤ 400 := by
    have e : q11 ≤ 8 * σ.n + 50 := hq11
    omega
  exact seq_last (lawRet B X T F12 N12 I12 hal11 hq11' hm12)
theorem law_done (B : Below callerA h₀ [] h₀) (X : (Mine.hd.heap_39 w.params).In h₀) (T : Top Mine.hd.view_39 (looseW Mine.hd.view_39 []) mean mg mb h₀) (F : Fr h₀ L s.heap m)  {o1 o2 : Obj} (N : News h₀ L s.heap [(L + 1 + 1, o2), (L + 1, o1)]) {c1 c2 : Option Value} (d1 : o1.data = .cell c1) (d2 : o2.data = .cell c2) {ls : Addr} {vsc : List Value} {ns : List Int} (hm : m (Str.ofString "script") = some (.ref ls)) (hl : h₀.IsList ls vsc.toArray) (hi : IntsAre vsc ns) (hlen : ns.length ≤ 63) :
    wpAny (model PySem.Challenge.rw_kn0107_01.row.prog w) (callerA.deeper (lawEnv L fa cdv)) (execs lawBody (lawEnv L fa cdv)) (Done h₀ L s) (fun _ _ => False) s := by
  have eb : lawBody = [lawStmt 0, lawStmt 1, lawStmt 2, lawStmt 3, lawStmt 4, lawStmt 5, lawStmt 6, lawStmt 7, lawStmt 8, lawStmt 9, lawStmt 10, lawStmt 11, lawStmt 12] := by rfl
  rw [eb]
  refine seq_next (st0 B X T F N d1 d2 hm hl hi hlen) ?_
  rintro h1 tk1 m1 n1 F1 N1 ⟨oM, D, ws, dM, hiw, hD2, hD1, hs⟩
  refine seq_next (st1 B X T F1 (news_sub N1 hs) hD2 hD1 dM d2 hiw hlen) ?_
  rintro h2 tk2 m2 n2 F2 N2 ⟨oN, n, tn, dN, hn3, hn40, hnw, hs2⟩
  have hD := hs2 _ (.head _)
  have hNm := hs2 _ (.tail _ (.head _))
  have hMm := hs2 _ (.tail _ (.tail _ (.head _)))
  refine seq_next (st2 B X T F2 N2 hD hNm hMm dM dN hiw (by simp; omega) ⟨hn3, hn40⟩) ?_
  rintro h3 tk3 m3 n3 F3 N3 ⟨P, vps, ps, hmP, hP, hip, hpl, hps, hs3⟩
  refine seq_next (st3 B X T F3 N3 hmP hP (hs3 _ hNm) dN hip hpl hps ⟨hn3, hn40⟩) ?_
  rintro h4 tk4 m4 n4 F4 N4 ⟨aT, nx, kt, cT, hmT, hT, hnx, hTne, hs4⟩
  have hN4 := hs4 _ (hs3 _ hNm)
  refine seq_next (st4 B X T F4 N4 hN4 dN ⟨hn3, hn40⟩) ?_
  rintro h5 tk5 m5 n5 F5 N5 ⟨aS, cS, xs, ds, ts, vs, ys, nw, hmk, hmS, hS, M, hnwn, hSne, hs5⟩
  have hT5 := hs5 _ hT
  refine seq_next (st5 (aT := aT) (aS := aS) B X T F5 N5 (fun p hp => by
    simp only [List.mem_cons, List.not_mem_nil, or_false] at hp
    rcases hp with rfl | rfl
    · exact (hmk (Str.ofString "targets") (by decide)).trans hmT
    · exact hmS) (hnwn _ (hs5 _ hN4)) dN ⟨hn3, hn40⟩) ?_
  rintro h6 tk6 m6 n6 F6 N6 ⟨aF, aA, cF, gs, zs, nv, hm6, hF, hA, G, hnvn, hFne, hAne, hFA, hs6⟩
  obtain ⟨t0, ht0⟩ := M.v0 (by omega)
  have I : St.In w.params { n := n, nb := 0, nx := nx, kt := kt, aS := aS, aT := aT, aF := aF, aA := aA, aN := L + 1 + 1, cS := cS, cT := cT, cF := cF, cA := 0, xs := xs, ds := ds, bs := fun _ => 0, gs := gs, oN := oN, ts := ts, vs := vs, bl := fun _ => [], bc := fun _ => 0, gl := fun _ => [], gc := fun _ => 0, al := [] } n6 := by
    refine St.In.make N6 (fun q hq => ?_) dN rfl M.ix M.id' G.ig (hSne _ hT5).symm (hFne _ (hs6 _ hS)) (hAne _ (hs6 _ hS)) (hFne _ (hs6 _ (hnwn _ hT5))) (hAne _ (hs6 _ (hnwn _ hT5))) hFA (fun i hi => G.off i hi _ hS) (fun i hi => G.off i hi _ (hnwn _ hT5)) (fun i hi => (hFne _ (G.g i hi)).symm) (fun i hi => (hAne _ (G.g i hi)).symm)
    cases q with
    | S => exact hnvn _ (hs6 _ hS)
    | T => exact hnvn _ (hs6 _ (hnwn _ hT5))
    | F => exact hF
    | A => exact hA
    | N => exact hnvn _ (hs6 _ (hnwn _ (hs5 _ hN4)))
    | X i => exact hnvn _ (hs6 _ (hnwn _ (M.x i hq)))
    | D i => exact hnvn _ (hs6 _ (hnwn _ (M.d i hq)))
    | B i => exact absurd hq (Nat.not_lt_zero _)
    | G i => exact hnvn _ (G.g i hq)
  exact law_tail B X T F6 N6 I ⟨hn3, hn40⟩ rfl rfl (fun _ _ => rfl) rfl M.ok ht0 (M.v1 (by omega)) dN rfl hnx hm6
end

end
end Mine
theorem PySem.Challenge.cw_kn0107_01_holds : PySem.Challenge.rw_kn0107_01.Holds := by
  refine Mine.hd ?_
  k_go0
  rename Below callerA _ [] _ => K0
  rename Frag.In _ _ => KX
  rename Top _ _ _ _ _ _ => T
  rename Fr _ _ _ _ => F
  rename News _ _ _ _ => N0
  rename Heap.IsList _ _ _ => hL
  rename IntsAre _ _ => hI
  rename ¬ _ => hc
  rename_i hl1 hl2 hX0
  refine wpAny_mono (Mine.law_done K0 KX T F N0 hl2 hl1 ?a3 hL hI ?a4) (fun f s' hd => ?_) (fun _ _ e => e.elim)
  case a4 => omega
  case a3 => with_unfolding_all rfl
  obtain ⟨rfl, h', tk', m', rfl, F'⟩ := hd
  kc_close
