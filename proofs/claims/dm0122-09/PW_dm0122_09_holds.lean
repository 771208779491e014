import PyProof.Rows.All
import Wide.All
import OpenK.AllK
import Wide.FinOn
import PySem.Challenge.RW_dm0122_09

set_option Elab.async false
set_option maxRecDepth 100000
set_option maxHeartbeats 4000000
set_option rowWalk.seconds 0
set_option linter.unusedVariables false

section
open PySem PySem.W PyProof.Rows
namespace Mine

/-- a text by its signs' numbers -/
def S (l : List Nat) : Str := ⟨l.toArray⟩
theorem S_inj {a b : List Nat} : S a = S b ↔ a = b := by
  constructor
  · intro h
    have h1 : (S a).cps = (S b).cps := by rw [h]
    have h2 : (S a).cps.toList = (S b).cps.toList := by rw [h1]
    simpa [S] using h2
  · rintro rfl; rfl
theorem S_eta (x : Str) : S x.cps.toList = x := by
  cases x; rfl
theorem S_len (l : List Nat) : (S l).length = l.length := by
  simp [S, Str.length]
theorem S_cps (l : List Nat) : (S l).cps.toList = l := by simp [S]
theorem S_app (a b : List Nat) : S a ++ S b = S (a ++ b) := by
  show Str.mk (a.toArray ++ b.toArray) = Str.mk (a ++ b).toArray
  simp

/-- y stands in p at i -/
def At (p y : List Nat) (i : Nat) : Prop := i + y.length ≤ p.length ∧ (p.drop i).take y.length = y
/-- the last place of y in p, or -1 -/
def rf (p y : List Nat) : Int := Txt.rfind (S p) (S y)
theorem at_iff (p y : List Nat) (i : Nat) : StrLaws.At (S p) (S y) (S p).length i ↔ At p y i := by
  unfold StrLaws.At At
  rw [StrLaws.subAt_eq, S_cps, S_cps, S_len, S_len, beq_iff_eq]
theorem rf_spec (p y : List Nat) : (rf p y = -1 ∧ ∀ i, ¬ At p y i) ∨ ∃ i : Nat, rf p y = (i : Int) ∧ At p y i ∧ ∀ k, i < k → ¬ At p y k := by
  have h := rfind_whole (S p) (S y)
  simp only [at_iff] at h
  exact h
theorem rf_ge (p y : List Nat) : -1 ≤ rf p y := by
  rcases rf_spec p y with ⟨h, _⟩ | ⟨i, h, _⟩ <;> omega
theorem rf_le (p y : List Nat) : rf p y + y.length ≤ p.length ∨ rf p y = -1 := by
  rcases rf_spec p y with ⟨h, _⟩ | ⟨i, h, h1, _⟩
  · exact .inr h
  · have := h1.1; omega

theorem rangeGet (l : List Nat) (a : Nat) : ∀ n, a + n ≤ l.length → (List.map (fun k : Nat => ((a : Int) + 1 * (k : Int)).toNat) (List.range n)).filterMap (fun i => l.toArray[i]?) = (l.drop a).take n := by
  intro n
  induction n with
  | zero => intro _; simp
  | succ n ih =>
    intro h
    rw [List.range_succ, List.map_append, List.filterMap_append, ih (by omega), List.take_add_one]
    congr 1
    have e : ((a : Int) + 1 * (n : Int)).toNat = a + n := by omega
    simp only [List.map_cons, List.map_nil, e]
    have h2 : a + n < l.length := by omega
    simp [h2]
theorem sliceGet (l : List Nat) (a b : Nat) (hb : b ≤ l.length) : ((sliceRange (a : Int) (b : Int) 1).filterMap (fun i => l.toArray[i]?)) = (l.take b).drop a := by
  unfold sliceRange
  dsimp only
  rw [if_pos (by decide)]
  by_cases h : (a : Int) < (b : Int)
  · rw [if_pos h]
    have e : (((b : Int) - (a : Int) + 1 - 1) / 1).toNat = b - a := by omega
    rw [e, rangeGet l a (b - a) (by omega), List.take_drop]
    congr 2
    omega
  · rw [if_neg h]
    have : (l.take b).drop a = [] := List.drop_eq_nil_of_le (by rw [List.length_take]; omega)
    rw [this]; simp
theorem sliceLen (a b : Nat) : (sliceRange (a : Int) (b : Int) 1).length = b - a := by
  unfold sliceRange
  dsimp only
  rw [if_pos (by decide), List.length_map, List.length_range]
  by_cases h : (a : Int) < (b : Int)
  · rw [if_pos h]; omega
  · rw [if_neg h]; omega
theorem slice_gen (l : List Nat) (lo hi : Option Int) (a b : Nat) (hb : b ≤ l.length) (e : Builtin.Str.strSliceIndices lo hi 1 l.length = sliceRange (a : Int) (b : Int) 1) : Txt.slice (S l) lo hi = S ((l.take b).drop a) := by
  unfold Txt.slice
  rw [S_len, e]
  split
  · rename_i h
    rw [sliceLen] at h
    have h' : b - a = l.length := by simpa using h
    have hb' : b = l.length := by omega
    by_cases ha : a = 0
    · subst ha; rw [hb']; simp
    · have : l.length = 0 := by omega
      have : l = [] := List.length_eq_zero_iff.mp this
      subst this; simp
  · show Str.mk ((List.filterMap (fun i => l.toArray[i]?) (sliceRange (a : Int) (b : Int) 1)).toArray) = _
    rw [sliceGet l a b hb]; rfl
theorem take_min {α : Type} (l : List α) (n : Nat) : l.take (min n l.length) = l.take n := by
  by_cases h : n ≤ l.length
  · rw [Nat.min_eq_left h]
  · rw [Nat.min_eq_right (by omega), List.take_length, List.take_of_length_le (by omega)]
theorem slice_to (l : List Nat) {d : Int} (h : 0 ≤ d) : Txt.slice (S l) none (some d) = S (l.take d.toNat) := by
  rw [slice_gen l none (some d) 0 (min d.toNat l.length) (Nat.min_le_right _ _)]
  · rw [List.drop_zero, take_min]
  · unfold Builtin.Str.strSliceIndices
    dsimp only
    rw [if_pos (show (1 : Int) > 0 by decide), if_pos (show (1 : Int) > 0 by decide), if_neg (by omega)]
    congr 1; omega
theorem slice_from (l : List Nat) {d : Int} (h : 0 ≤ d) : Txt.slice (S l) (some d) none = S (l.drop d.toNat) := by
  rw [slice_gen l (some d) none (min d.toNat l.length) l.length (Nat.le_refl _)]
  · congr 1
    rw [List.take_length]
    by_cases hd : d.toNat ≤ l.length
    · rw [Nat.min_eq_left hd]
    · rw [Nat.min_eq_right (by omega), List.drop_length, List.drop_eq_nil_of_le (by omega)]
  · unfold Builtin.Str.strSliceIndices
    dsimp only
    rw [if_pos (show (1 : Int) > 0 by decide), if_pos (show (1 : Int) > 0 by decide), if_neg (by omega)]
    congr 1; omega
theorem slice_mid (l : List Nat) {a b : Int} (h : 0 ≤ a) (h' : 0 ≤ b) : Txt.slice (S l) (some a) (some b) = S ((l.take b.toNat).drop a.toNat) := by
  rw [slice_gen l (some a) (some b) (min a.toNat l.length) (min b.toNat l.length) (Nat.min_le_right _ _)]
  · congr 1
    rw [take_min]
    by_cases hd : a.toNat ≤ l.length
    · rw [Nat.min_eq_left hd]
    · rw [Nat.min_eq_right (by omega), List.drop_eq_nil_of_le (by rw [List.length_take]; omega), List.drop_eq_nil_of_le (by rw [List.length_take]; omega)]
  · unfold Builtin.Str.strSliceIndices
    dsimp only
    rw [if_pos (show (1 : Int) > 0 by decide), if_pos (show (1 : Int) > 0 by decide), if_neg (by omega), if_neg (by omega)]
    congr 1 <;> omega
theorem fm_map {α β : Type} (f : α → Option β) (g : α → β) : ∀ l : List α, (∀ x ∈ l, f x = some (g x)) → l.filterMap f = l.map g
  | [], _ => rfl
  | a :: l, h => by
    rw [List.filterMap_cons, h a (.head _), List.map_cons, fm_map f g l fun x hx => h x (.tail _ hx)]
theorem rev_get (l : List Nat) : ∀ n, n ≤ l.length → ((List.range n).map (fun k : Nat => (((n : Int) - 1) + -1 * (k : Int)).toNat)).filterMap (fun i => l.toArray[i]?) = (l.take n).reverse := by
  intro n hn
  apply List.ext_getElem?
  intro i
  have h1 : ((List.range n).map (fun k : Nat => (((n : Int) - 1) + -1 * (k : Int)).toNat)).filterMap (fun i => l.toArray[i]?) = (List.range n).map (fun k : Nat => l.getD (n - 1 - k) 0) := by
    rw [List.filterMap_map]
    apply fm_map
    intro k hk
    have hk : k < n := List.mem_range.mp hk
    have e : (((n : Int) - 1) + -1 * (k : Int)).toNat = n - 1 - k := by omega
    simp only [Function.comp, e]
    have h2 : n - 1 - k < l.length := by omega
    simp [h2]
  rw [h1]
  by_cases hi : i < n
  · rw [List.getElem?_map, List.getElem?_range hi, List.getElem?_reverse (by rw [List.length_take]; omega)]
    have h2 : n - 1 - i < l.length := by omega
    have h3 : min n l.length - 1 - i = n - 1 - i := by omega
    rw [List.length_take, h3, List.getElem?_take_of_lt (by omega)]
    simp [h2]
  · rw [List.getElem?_eq_none (by simp; omega), List.getElem?_eq_none (by simp; omega)]
theorem sliceBy_rev (l : List Nat) (t : Tok) : Txt.sliceBy (S l) none none (-1, t) = S l.reverse := by
  unfold Txt.sliceBy
  rw [if_neg (by simp)]
  show Str.mk ((Builtin.Str.strSliceIndices none none (-1) (S l).length).filterMap (fun i => l.toArray[i]?)).toArray = _
  rw [S_len]
  have e : Builtin.Str.strSliceIndices none none (-1) l.length = (List.range l.length).map (fun k : Nat => (((l.length : Int) - 1) + -1 * (k : Int)).toNat) := by
    unfold Builtin.Str.strSliceIndices sliceRange
    dsimp only
    simp only [show ¬ ((-1 : Int) > 0) by decide, if_false]
    congr 2
    by_cases h : ((l.length : Int) - 1) > -1
    · rw [if_pos h, show (- -1 : Int) = 1 from rfl]; omega
    · rw [if_neg h]; omega
  rw [e, rev_get l l.length (Nat.le_refl _), List.take_length]
  rfl
end Mine
end

section
open PySem PySem.W PyProof.Rows
namespace Mine
/-- altsep: None or a text -/
def AltV (v : Value) (alt : List Nat) : Prop := (v = .none ∧ alt = []) ∨ ∃ t, v = .str (S alt) t

section
variable {prog : Program} {w : World} {M : Model} {A : Around} {E : Value → Shared → Prop} {s : Shared}
theorem truthy_alt {Q : Bool → Shared → Prop} {v : Value} {alt : List Nat} (h : AltV v alt) (hl : alt.length ≤ 1000000) (hq : ∀ k, Q (decide (alt ≠ [])) { s with toks := k }) : wpAny (model prog w) A (truthy v) Q E s := by
  rcases h with ⟨rfl, rfl⟩ | ⟨t, rfl⟩
  · exact wpAny_pure (hq s.toks)
  · refine KXt.truthy (b := decide (alt ≠ [])) ?_ (by rw [S_len]; omega) hq
    rw [S_len]
    cases alt <;> simp
    omega
theorem ite_join {α : Type} {c : Prop} [Decidable c] {t1 t2 : Sem α} {Q Q' : α → Shared → Prop} (h1 : c → wpAny M A t1 Q' E s) (h2 : ¬ c → wpAny M A t2 Q' E s) (h : ∀ f s', Q' f s' → Q f s') :
    if c then wpAny M A t1 Q E s else wpAny M A t2 Q E s := by
  split
  · exact wpAny_mono (h1 ‹_›) h fun _ _ e => e
  · exact wpAny_mono (h2 ‹_›) h fun _ _ e => e
end
/-- what a stretch of code leaves behind: the frame's names ps, the ledger -/
def Left (h₀ : Heap) (L : Addr) (s : Shared) (news : List (Addr × Obj)) (R : (Str → Option Value) → Prop) (s' : Shared) : Prop :=
  ∃ h tk m, s' = { s with heap := h, toks := tk } ∧ Fr h₀ L h m ∧ News h₀ L h news ∧ R m
theorem fr_show {h₀ h : Heap} {L : Addr} {m : Str → Option Value} (ps : List (Str × Value)) (F : Fr h₀ L h m) (hps : ∀ p ∈ ps, m p.1 = some p.2) : Fr h₀ L h (kstB m ps) := by
  have e : kstB m ps = m := funext fun z => kstB_eq hps fun _ => rfl
  rw [e]; exact F
theorem Left.intro {h₀ : Heap} {L : Addr} {s : Shared} {news : List (Addr × Obj)} {R : (Str → Option Value) → Prop} {h : Heap} {tk : Nat} {m : Str → Option Value} (F : Fr h₀ L h m) (N : News h₀ L h news) (r : R m) : Left h₀ L s news R { s with heap := h, toks := tk } := ⟨h, tk, m, rfl, F, N, r⟩
end Mine
end

section
open PySem PySem.W PyProof.Rows PySem.Calls
namespace Mine
/-- a part of a ledger -/
abbrev Sub (a b : List (Addr × Obj)) : Prop := ∀ p ∈ a, p ∈ b
theorem news_sub {h₀ h : Heap} {L : Addr} {a b : List (Addr × Obj)} (N : News h₀ L h b) (hs : Sub a b) : News h₀ L h a := fun p hp => N p (hs p hp)
/-- the ledger with the object at d changed -/
def upd (d : Addr) (o : Obj) (l : List (Addr × Obj)) : List (Addr × Obj) := l.map fun p => if p.1 = d then (d, o) else p
theorem upd_ok {h₀ h h' : Heap} {L d : Addr} {m : Str → Option Value} {all : List (Addr × Obj)} {o o' : Obj} (F : Fr h₀ L h m) (N : News h₀ L h all) (hm : (d, o) ∈ all) (hs : Heap.SameBut d h h') (hd : h'.get? d = some o') :
    Fr h₀ L h' m ∧ News h₀ L h' (upd d o' all) := ⟨F.change hs (N _ hm).2.1 (N _ hm).2.2, N.update hm hs hd⟩
theorem mem_upd_self {d : Addr} {o o' : Obj} {all : List (Addr × Obj)} (hm : (d, o) ∈ all) : (d, o') ∈ upd d o' all :=
  List.mem_map.mpr ⟨(d, o), hm, by simp⟩
theorem mem_upd_ne {d : Addr} {o' : Obj} {p : Addr × Obj} {all : List (Addr × Obj)} (hm : p ∈ all) (hne : p.1 ≠ d) : p ∈ upd d o' all :=
  List.mem_map.mpr ⟨p, hm, by simp [hne]⟩
theorem sub_upd {d : Addr} {o o' : Obj} {all led led' : List (Addr × Obj)} (hm : (d, o) ∈ all) (hs : Sub led all) (h : ∀ p ∈ led', p = (d, o') ∨ (p ∈ led ∧ p.1 ≠ d)) : Sub led' (upd d o' all) := by
  intro p hp
  rcases h p hp with rfl | ⟨h1, h2⟩
  · exact mem_upd_self hm
  · exact mem_upd_ne (hs p h1) h2

section texts
/-- a joined text -/
def jn (sep : List Nat) : List (List Nat) → List Nat
  | [] => []
  | [x] => x
  | x :: y :: r => x ++ sep ++ jn sep (y :: r)
theorem join_S (sep : List Nat) : ∀ ws : List (List Nat), Txt.join (S sep) (ws.map S) = S (jn sep ws) := by
  have h : ∀ ws : List (List Nat), Str.join (S sep) (ws.map S) = S (jn sep ws) := by
    intro ws
    induction ws with
    | nil => rfl
    | cons x r ih =>
      cases r with
      | nil => rfl
      | cons y r =>
        show S x ++ S sep ++ Str.join (S sep) ((y :: r).map S) = S (x ++ sep ++ jn sep (y :: r))
        rw [ih, S_app, S_app]
  intro ws
  rw [← h]
  exact StrLaws.glued_eq_join _ _

theorem jn_sum (sep : List Nat) : ∀ ws : List (List Nat), (ws.map List.length).sum ≤ (jn sep ws).length
  | [] => by simp [jn]
  | [x] => by simp [jn]
  | x :: y :: r => by
    have := jn_sum sep (y :: r)
    simp only [List.map_cons, List.sum_cons, jn, List.length_append] at *
    omega
theorem jn_count (c : Nat) : ∀ ws : List (List Nat), ws.length ≤ (jn [c] ws).length + 1
  | [] => by simp [jn]
  | [x] => by simp [jn]
  | x :: y :: r => by
    have := jn_count c (y :: r)
    simp only [jn, List.length_append, List.length_cons, List.length_nil] at *
    omega
theorem jn_nil : ∀ ws : List (List Nat), jn [] ws = ws.flatten
  | [] => rfl
  | [x] => by simp [jn]
  | x :: y :: r => by
    rw [jn, jn_nil (y :: r)]; simp
theorem lensS (ws : List (List Nat)) : ((ws.map S).map Str.length) = ws.map List.length := by
  rw [List.map_map]
  exact List.map_congr_left fun w _ => S_len w
theorem join_L {prog : Program} {w : World} {A : Around} {E : Value → Shared → Prop} {s : Shared} {h₀ : Heap} {L D : Addr} {all : List (Addr × Obj)} {vs : List Value} {ws : List (List Nat)} {n : Nat} {sep : List Nat} {t : Tok} {Q : Value → Shared → Prop} (N : News h₀ L s.heap all) (hm : (D, W.listOf vs.toArray n) ∈ all) (hv : StrsAre vs (ws.map S)) (hsep : sep.length ≤ 16) (hw : (ws.map List.length).sum + ws.length ≤ 1048576)
    (h : ∀ t' k, Q (.str (S (jn sep ws)) t') { s with toks := k }) : wpAny (model prog w) A (call (.builtin "str.join") [.str (S sep) t, .ref D]) Q E s := by
  refine join_listW (items := vs.toArray) (ys := ws.map S) ⟨_, (N _ hm).1, rfl, n, rfl⟩ (by simpa using hv) (by rw [S_len]; exact hsep) ?_ ?_
  · have e : ((ws.map S).map (·.length)) = ws.map List.length := lensS ws
    rw [e, List.length_map]; exact hw
  · intro t' k
    rw [join_S]; exact h t' k
theorem strs_get : ∀ {vs : List Value} {ys : List Str}, StrsAre vs ys → ∀ (i : Nat) (y : Str), ys[i]? = some y → ∃ t, vs[i]? = some (Value.str y t)
  | _, _, .nil, i, y, h => by simp at h
  | _, _, .cons z t r, 0, y, h => ⟨t, by simp at h; subst h; rfl⟩
  | _, _, .cons z t r, i + 1, y, h => by
    obtain ⟨t', e⟩ := strs_get r i y (by simpa using h)
    exact ⟨t', by simpa using e⟩
theorem strs_snoc : ∀ {vs : List Value} {ys : List Str} {y : Str}, StrsAre vs (ys ++ [y]) → ∃ us t, vs = us ++ [Value.str y t] ∧ StrsAre us ys
  | _, [], y, h => by
    cases h with
    | cons z t r => cases r; exact ⟨[], t, rfl, .nil⟩
  | _, z :: ys, y, h => by
    cases h with
    | cons z t r =>
      obtain ⟨us, t', e, h'⟩ := strs_snoc r
      exact ⟨Value.str z t :: us, t', by rw [e]; rfl, .cons z t h'⟩
theorem strs_of : ∀ {vs : List Value} {ys : List Str}, vs.length = ys.length → (∀ (i : Nat) (y : Str), ys[i]? = some y → ∃ t, vs[i]? = some (Value.str y t)) → StrsAre vs ys
  | [], [], _, _ => .nil
  | [], _ :: _, h, _ => by simp at h
  | _ :: _, [], h, _ => by simp at h
  | v :: vs, y :: ys, h, k => by
    obtain ⟨t, e⟩ := k 0 y rfl
    have : v = Value.str y t := by simpa using e
    subst this
    exact .cons y t (strs_of (by simpa using h) fun i z hz => by
      obtain ⟨t', e'⟩ := k (i + 1) z (by simpa using hz)
      exact ⟨t', by simpa using e'⟩)
theorem gs_strs : ∀ {gs : List (Option Value)} {tl : List (List Nat)}, gs.length = tl.length → (∀ (j : Nat) (g : Option Value), gs[j]? = some g → ∃ (v : List Nat) (t : Tok), tl[j]? = some v ∧ g = some (Value.str (S v) t)) → StrsAre (gs.filterMap id) (tl.map S)
  | [], [], _, _ => .nil
  | [], _ :: _, h, _ => by simp at h
  | _ :: _, [], h, _ => by simp at h
  | g :: gs, v :: tl, h, k => by
    obtain ⟨v', t, e1, e2⟩ := k 0 g rfl
    have : v = v' := by simpa using e1
    subst this
    subst e2
    have ih := gs_strs (gs := gs) (tl := tl) (by simpa using h) fun j g hj => by
      obtain ⟨v', t', a, b⟩ := k (j + 1) g (by simpa using hj)
      exact ⟨v', t', by simpa using a, b⟩
    exact .cons _ t ih
end texts
section lists
variable {prog : Program} {w : World} {A : Around} {E : Value → Shared → Prop} {s : Shared} {h₀ : Heap} {L D : Addr} {m : Str → Option Value} {all : List (Addr × Obj)} {its : Array Value} {n : Nat}
theorem append_U {x : Value} {Q : Value → Shared → Prop} (F : Fr h₀ L s.heap m) (N : News h₀ L s.heap all) (hm : (D, W.listOf its n) ∈ all) (hsz : its.size ≤ 1000000)
    (h : ∀ h', Fr h₀ L h' m → News h₀ L h' (upd D (W.listOf (its.push x) (n + 1)) all) → Q .none { s with heap := h' }) :
    wpAny (model prog w) A (call (.builtin "list.append") [.ref D, x]) Q E s :=
  append_at (N _ hm).1 (fun h' hs hd => by
    obtain ⟨F', N'⟩ := upd_ok F N hm hs hd
    exact h h' F' N') (by rw [PySem.sizeLine_eq]; omega)
theorem item_U {value slice : Expr} {k : Int} {u : Tok} {v : Value} {Q : Value → Shared → Prop} (N : News h₀ L s.heap all) (hm : (D, W.listOf its n) ∈ all) (h0 : 0 ≤ k) (hfit : k < 2 ^ 62) (hx : its[k.toNat]? = some v) (h : Q v s)
    (hs : subscripted slice false (.ref D) (.int k u) = operate [.ref D, .int k u] (getItem (.ref D) (.int k u)) := by with_unfolding_all rfl) :
    wpAny (model prog w) A (subscriptTail value slice (.ref D) (.int k u)) Q E s := by
  have hl : s.heap.IsList D its := ⟨_, (N _ hm).1, rfl, n, rfl⟩
  exact tail_any hl.typeIs slot_list_getitem.lookup (wpAny_getItem_list hl h0 (by omega) hx h) hs
theorem item_last {value slice : Expr} {xs : List Value} {u : Tok} {v : Value} {Q : Value → Shared → Prop} (N : News h₀ L s.heap all) (hm : (D, W.listOf (xs ++ [v]).toArray n) ∈ all) (h : Q v s)
    (hs : subscripted slice false (.ref D) (.int (-1) u) = operate [.ref D, .int (-1) u] (getItem (.ref D) (.int (-1) u)) := by with_unfolding_all rfl) :
    wpAny (model prog w) A (subscriptTail value slice (.ref D) (.int (-1) u)) Q E s := by
  have hl : s.heap.IsList D (xs ++ [v]).toArray := ⟨_, (N _ hm).1, rfl, n, rfl⟩
  refine tail_any hl.typeIs slot_list_getitem.lookup (wpAny_getItem_list_neg hl (by decide) ?_ (by decide) ?_ h) hs
  · simp; omega
  · have e : (-1 + ((xs ++ [v]).toArray.size : Int)).toNat = xs.length := by simp; omega
    rw [e]; simp
theorem getItem_last {xs : List Value} {u : Tok} {v : Value} {Q : Value → Shared → Prop} (N : News h₀ L s.heap all) (hm : (D, W.listOf (xs ++ [v]).toArray n) ∈ all) (h : Q v s) :
    wpAny (model prog w) A (getItem (.ref D) (.int (-1) u)) Q E s := by
  have hl : s.heap.IsList D (xs ++ [v]).toArray := ⟨_, (N _ hm).1, rfl, n, rfl⟩
  refine wpAny_getItem_list_neg hl (by decide) ?_ (by decide) ?_ h
  · simp; omega
  · have e : (-1 + ((xs ++ [v]).toArray.size : Int)).toNat = xs.length := by simp; omega
    rw [e]; simp
theorem map_U {its' : Array Value} {n' : Nat} (f : Array Value → Array Value) (F : Fr h₀ L s.heap m) (N : News h₀ L s.heap all) (hm : (D, W.listOf its n) ∈ all) (he : f its = its') (hn : (if its'.size == its.size then n else n + 1) = n') :
    Fr h₀ L (s.heap.update D (Obj.mapSeq f)) m ∧ News h₀ L (s.heap.update D (Obj.mapSeq f)) (upd D (W.listOf its' n') all) := by
  have q := PySem.IsL.update (N _ hm).1 f
  rw [he, hn] at q
  exact upd_ok F N hm (Heap.SameBut.update ..) q
theorem setItem_last {xs : List Value} {u : Tok} {v v' : Value} {Q : Unit → Shared → Prop} (F : Fr h₀ L s.heap m) (N : News h₀ L s.heap all) (hm : (D, W.listOf (xs ++ [v]).toArray n) ∈ all)
    (h : ∀ h', Fr h₀ L h' m → News h₀ L h' (upd D (W.listOf (xs ++ [v']).toArray n) all) → Q () { s with heap := h' }) :
    wpAny (model prog w) A (setItem (.ref D) (.int (-1) u) v') Q E s := by
  have e : (-1 + ((xs ++ [v]).toArray.size : Int)).toNat = xs.length := by simp; omega
  refine ki_setBack (N _ hm).1 (by decide) (by simp; omega) (by decide) ?_
  rw [e]
  obtain ⟨F', N'⟩ := map_U (its' := (xs ++ [v']).toArray) (n' := n) (·.setIfInBounds xs.length v') F N hm (by apply Array.toList_inj.mp; simp) (by simp)
  exact h _ F' N'
theorem setItem_U {xs : List Value} {k : Int} {u : Tok} {v' : Value} {Q : Unit → Shared → Prop} (F : Fr h₀ L s.heap m) (N : News h₀ L s.heap all) (hm : (D, W.listOf xs.toArray n) ∈ all) (h0 : 0 ≤ k) (h1 : k < xs.length) (hfit : k < 2 ^ 62)
    (h : ∀ h', Fr h₀ L h' m → News h₀ L h' (upd D (W.listOf (xs.set k.toNat v').toArray n) all) → Q () { s with heap := h' }) :
    wpAny (model prog w) A (setItem (.ref D) (.int k u) v') Q E s := by
  refine ki_setAt (N _ hm).1 h0 (by omega) (by rw [List.size_toArray]; exact h1) ?_
  obtain ⟨F', N'⟩ := map_U (its' := (xs.set k.toNat v').toArray) (n' := n) (·.setIfInBounds k.toNat v') F N hm (by apply Array.toList_inj.mp; simp) (by simp)
  exact h _ F' N'
theorem pop_U {xs : List Value} {v : Value} {Q : Value → Shared → Prop} (F : Fr h₀ L s.heap m) (N : News h₀ L s.heap all) (hm : (D, W.listOf (xs ++ [v]).toArray n) ∈ all) (hsz : xs.length ≤ 1000000)
    (h : ∀ h', Fr h₀ L h' m → News h₀ L h' (upd D (W.listOf xs.toArray (n + 1)) all) → Q v { s with heap := h' }) :
    wpAny (model prog w) A (call (.builtin "list.pop") [.ref D]) Q E s := by
  obtain ⟨F', N'⟩ := map_U (its' := xs.toArray) (n' := n + 1) (fun ys => ys.eraseIdxIfInBounds ((xs ++ [v]).toArray.size - 1)) F N hm (by apply Array.toList_inj.mp; simp [Array.eraseIdxIfInBounds]; exact (kl_eraseL xs [] v).trans (List.append_nil _)) (by simp)
  exact call_meets PySem.F.slot_list_pop ⟨_, (N _ hm).1, rfl⟩ PySem.F.entry_list_pop (PySem.F.args_list_pop_1 _) (PySem.MeetsSeq.list_pop_last D _ n v (by simp) (by simp [PySem.sizeLine_eq]; omega)) ⟨(N _ hm).1, h _ F' N'⟩
theorem pop0_U {xs : List Value} {v : Value} {u : Tok} {Q : Value → Shared → Prop} (F : Fr h₀ L s.heap m) (N : News h₀ L s.heap all) (hm : (D, W.listOf (v :: xs).toArray n) ∈ all) (hsz : xs.length ≤ 1000000)
    (h : ∀ h', Fr h₀ L h' m → News h₀ L h' (upd D (W.listOf xs.toArray (n + 1)) all) → Q v { s with heap := h' }) :
    wpAny (model prog w) A (call (.builtin "list.pop") [.ref D, .int 0 u]) Q E s := by
  obtain ⟨F', N'⟩ := map_U (its' := xs.toArray) (n' := n + 1) (fun ys => ys.eraseIdxIfInBounds 0) F N hm (by apply Array.toList_inj.mp; simp [Array.eraseIdxIfInBounds]) (by simp)
  exact call_meets PySem.F.slot_list_pop ⟨_, (N _ hm).1, rfl⟩ PySem.F.entry_list_pop (PySem.F.args_list_pop_2 _ _) (PySem.MeetsSeq.list_pop_at D _ n 0 u 0 v (by decide) (by simp [seqIndex?]) (by simp) (by simp [PySem.sizeLine_eq]; omega)) ⟨(N _ hm).1, h _ F' N'⟩
end lists
section setting
variable {prog : Program} {w : World} {A : Around} {E : Value → Shared → Prop} {s : Shared} {h₀ : Heap} {L D : Addr} {m : Str → Option Value} {all : List (Addr × Obj)} {n : Nat}
theorem in_sep (seps : List Nat) (c : Nat) : (Builtin.Str.occurrences (S seps) (S [c]) 0 (S seps).length 1).isEmpty = !decide (c ∈ seps) := by
  have h := StrLaws.found_one (S seps) c
  rw [S_cps] at h
  have e : (S [c] : Str) = ⟨#[c]⟩ := rfl
  rw [e, ← h, Bool.not_not]
end setting
/-- a turn's frame, its names shown -/
theorem fr_turn {h₀ h : Heap} {L : Addr} {m : Str → Option Value} {x : Str} {v : Value} (ps : List (Str × Value)) (F : Fr h₀ L h (fun y => if y = x then some v else m y)) (hps : ∀ p ∈ ps, m p.1 = some p.2) : Fr h₀ L h (fun y => if y = x then some v else kstB m ps y) := by
  have e : kstB m ps = m := funext fun z => kstB_eq hps fun _ => rfl
  rw [e]; exact F
section loops
variable {prog : Program} {w : World} {A : Around} {E : Value → Shared → Prop} {s : Shared} {env : Env} {h₀ : Heap} {x : Str} {body : List Stmt} {Q : Flow → Shared → Prop}
/-- a turn's end: the frame, the ledger's part that the loop speaks of -/
def GEnd (h₀ : Heap) (L I : Addr) (J : (Str → Option Value) → List (Addr × Obj) → Prop) (own : List (Addr × Obj)) (s s₂ : Shared) : Prop :=
  ∃ h' tk m' all nx, s₂ = { s with heap := h', toks := tk } ∧ Fr h₀ L h' m' ∧ News h₀ L h' all ∧ Sub own all ∧ Sub nx all ∧ (∀ p ∈ nx, p.1 ≠ I) ∧ J m' nx
def GPost (h₀ : Heap) (L I : Addr) (J : (Str → Option Value) → List (Addr × Obj) → Prop) (own : List (Addr × Obj)) (s : Shared) (Q : Flow → Shared → Prop) (f : Flow) (s₂ : Shared) : Prop :=
  match f with
  | .ret v => Q (.ret v) s₂
  | .brk => Q .next s₂
  | _ => GEnd h₀ L I J own s s₂
theorem GEnd.intro {L I : Addr} {J : (Str → Option Value) → List (Addr × Obj) → Prop} {own all : List (Addr × Obj)} {h' : Heap} {tk : Nat} {m' : Str → Option Value} (nx : List (Addr × Obj)) (F : Fr h₀ L h' m') (N : News h₀ L h' all) (ho : Sub own all) (hn : Sub nx all) (hI : ∀ p ∈ nx, p.1 ≠ I) (hj : J m' nx) :
    GEnd h₀ L I J own s { s with heap := h', toks := tk } := ⟨h', tk, m', all, nx, rfl, F, N, ho, hn, hI, hj⟩

theorem loopG {I : Addr} {fp : List Addr} {n : Nat} {P : Nat → Value → Prop} {St : Nat → Heap → Prop} {m₀ : Str → Option Value} {news : List (Addr × Obj)} (J : Nat → (Str → Option Value) → List (Addr × Obj) → Prop)
    (W : Walks prog w A I fp [I] n P St) (hIo : ∀ i h, St i h → ∃ o, h.get? I = some o) (hLf : env.locals ∉ fp) (hI₀ : h₀.get? I = none) (hnI : ∀ p ∈ news, p.1 ≠ I) (hst : St 0 s.heap) (F : Fr h₀ env.locals s.heap m₀) (N : News h₀ env.locals s.heap news) (hj : J 0 m₀ news)
    (turn : ∀ i v m₁ nx h tk own, i < n → P i v → J i m₁ nx → (∃ o, (I, o) ∈ own) → (∀ p ∈ own, p.1 ∈ fp) → (∀ p ∈ nx, p.1 ≠ I) → Fr h₀ env.locals h (fun y => if y = x then some v else m₁ y) → News h₀ env.locals h (own ++ nx) →
      wpAny (model prog w) A (execs body env) (GPost h₀ env.locals I (J (i + 1)) own s Q) E { s with heap := h, toks := tk })
    (done : ∀ m₁ nx h tk, J n m₁ nx → Fr h₀ env.locals h m₁ → News h₀ env.locals h nx → Q .next { s with heap := h, toks := tk }) :
    LoopAtV prog w A h₀ env x body Q E (.ref I) s := by
  have hIf : I ∈ fp := W.sub I (List.mem_singleton.mpr rfl)
  refine ⟨I, fp, [I], n, P, St, m₀, news, J, rfl, W, hLf, (fun b hb => by rw [List.mem_singleton.mp hb]; exact hI₀), (fun p hp hq => hnI p hp (List.mem_singleton.mp hq)), hst, F, N, hj, ?_, ?_⟩
  · rintro i v m₁ nx s₁ own ⟨h1, tk1, rfl⟩ hin hP hJ hoff hof _ hfp hst' F₁ N₁
    obtain ⟨oI, hoI⟩ := hIo _ _ hst'
    have hIown : (I, oI) ∈ own := hfp I hIf hI₀ _ hoI
    refine wpAny_mono (turn i v m₁ nx h1 tk1 own hin hP hJ ⟨oI, hIown⟩ hof (fun p hp hq => hoff p hp (List.mem_singleton.mpr hq)) F₁ N₁) (fun f s₂ p => ?_) fun _ _ e => e
    have fin : GEnd h₀ env.locals I (J (i + 1)) own s s₂ → LoopStepU h₀ env.locals [I] own (J (i + 1)) { s with heap := h1, toks := tk1 } .next s₂ := by
      rintro ⟨h', tk, m', all, nx', e, F', N', ho, hn, hI, hm⟩
      exact ⟨rfl, h', tk, m', nx', e, F', fun p hp => N' p ((List.mem_append.mp hp).elim (ho p) (hn p)), fun p hp hq => hI p hp (List.mem_singleton.mp hq), hm⟩
    cases f with
    | ret v => exact .ret p
    | brk => exact .brk p
    | next => exact .next (fin p)
    | cont => exact .cont (fin p)
  · rintro h' tk m' news' F' N' _ hJ
    exact done m' news' h' tk hJ F' N'

theorem forStr {p : List Nat} {tx : Tok} {m₀ : Str → Option Value} {news : List (Addr × Obj)} (J : Nat → (Str → Option Value) → List (Addr × Obj) → Prop)
    (hh : A.handled = none) (F : Fr h₀ env.locals s.heap m₀) (N : News h₀ env.locals s.heap news) (hj : J 0 m₀ news)
    (turn : ∀ i c t m₁ nx h tk own I, p[i]? = some c → J i m₁ nx → (∃ o, (I, o) ∈ own) → (∀ q ∈ own, q.1 = I) → (∀ q ∈ nx, q.1 ≠ I) → Fr h₀ env.locals h (fun y => if y = x then some (.str (S [c]) t) else m₁ y) → News h₀ env.locals h (own ++ nx) →
      wpAny (model prog w) A (execs body env) (GPost h₀ env.locals I (J (i + 1)) own s Q) E { s with heap := h, toks := tk })
    (done : ∀ m₁ nx h tk, J p.length m₁ nx → Fr h₀ env.locals h m₁ → News h₀ env.locals h nx → Q .next { s with heap := h, toks := tk }) :
    wpAny (model prog w) A (pyIter (.str (S p) tx)) (fun it s₂ => LoopAtV prog w A h₀ env x body Q E it s₂) E s := by
  have hsz : (S p).cps.size = p.length := by simp [S]
  have key : ∀ (o : Obj) (St : Nat → Heap → Prop), Walks prog w A s.heap.objs.size [s.heap.objs.size] [s.heap.objs.size] (S p).cps.size (SignAt (S p)) St → St 0 (s.heap.push o) → (∀ i h, St i h → ∃ o, h.get? s.heap.objs.size = some o) →
      LoopAtV prog w A h₀ env x body Q E (.ref s.heap.objs.size) { s with heap := s.heap.push o } := by
    intro o St W hst hst0
    rw [hsz] at W
    refine loopG J W hst0 ?_ (next_is_new F) (fun p hp => Nat.ne_of_lt (Heap.lt_size (N p hp).1)) hst (F.push _) (N.grown fun _ _ e => Heap.get?_push_of_some _ e) hj ?_ ?_
    · intro hm; exact absurd F.ns.lt ((List.mem_singleton.mp hm) ▸ Nat.lt_irrefl _)
    · rintro i v m₁ nx h tk own hi ⟨c, u, hc, rfl⟩ hJ hI hof hnI F₁ N₁
      exact turn i c u m₁ nx h tk own _ (by simpa [S] using hc) hJ hI (fun q hq => List.mem_singleton.mp (hof q hq)) hnI F₁ N₁
    · intro m₁ nx h tk hJ F₁ N₁
      exact done m₁ nx h tk hJ F₁ N₁
  cases ha : (S p).cps.all (· < 128)
  · exact wpAny_pyIter_wide ha (key _ _ (Walks.strWide hh _ (S p) tx) ⟨_, Heap.get?_push_size _ rfl, rfl, rfl⟩ (fun i h st => by obtain ⟨o, e, _⟩ := st; exact ⟨o, e⟩))
  · exact wpAny_pyIter_ascii ha (key _ _ (Walks.strAscii hh _ (S p) tx) ⟨_, Heap.get?_push_size _ rfl, rfl, rfl⟩ (fun i h st => by obtain ⟨o, e, _⟩ := st; exact ⟨o, e⟩))

theorem forRange {r : Addr} {n : Nat} {t₀ u₀ v₀ : Tok} {m₀ : Str → Option Value} {news : List (Addr × Obj)} (a : Int) (b : Int) (J : Nat → (Str → Option Value) → List (Addr × Obj) → Prop)
    (hh : A.handled = none) (hr : IsRange s.heap r a b 1 t₀ u₀ v₀) (hsmall : Builtin.Range.small a b 1 = true) (hn : Builtin.Range.rangeSize a b 1 = (n : Int)) (F : Fr h₀ env.locals s.heap m₀) (N : News h₀ env.locals s.heap news) (hj : J 0 m₀ news)
    (turn : ∀ i t m₁ nx h tk own I, i < n → J i m₁ nx → (∃ o, (I, o) ∈ own) → (∀ q ∈ own, q.1 = I) → (∀ q ∈ nx, q.1 ≠ I) → Fr h₀ env.locals h (fun y => if y = x then some (.int (a + (i : Int)) t) else m₁ y) → News h₀ env.locals h (own ++ nx) →
      wpAny (model prog w) A (execs body env) (GPost h₀ env.locals I (J (i + 1)) own s Q) E { s with heap := h, toks := tk })
    (done : ∀ m₁ nx h tk, J n m₁ nx → Fr h₀ env.locals h m₁ → News h₀ env.locals h nx → Q .next { s with heap := h, toks := tk }) :
    wpAny (model prog w) A (pyIter (.ref r)) (fun it s₂ => LoopAtV prog w A h₀ env x body Q E it s₂) E s := by
  refine wpAny_pyIter_range hr hsmall ?_
  have W : Walks prog w A s.heap.objs.size [s.heap.objs.size] [s.heap.objs.size] n (fun i v => i < n ∧ ∃ t, v = .int (a + i * 1) t)
      (fun i h => IsRangeIter h s.heap.objs.size (a + (i : Nat) * 1) ((n : Int) - (i : Nat)) 1) := (Walks.range hh _ a 1 n).bound
  refine loopG J W (fun i h st => ⟨_, st⟩) ?_ (next_is_new F) (fun p hp => Nat.ne_of_lt (Heap.lt_size (N p hp).1)) (by show IsRangeIter _ _ _ _ _; rw [hn]; simpa using Heap.get?_push_size _ rfl) (F.push _) (N.grown fun _ _ e => Heap.get?_push_of_some _ e) hj ?_ ?_
  · intro hm; exact absurd F.ns.lt ((List.mem_singleton.mp hm) ▸ Nat.lt_irrefl _)
  · rintro i v m₁ nx h tk own hi ⟨_, t, rfl⟩ hJ hI hof hnI F₁ N₁
    rw [Int.mul_one] at F₁
    exact turn i t m₁ nx h tk own _ hi hJ hI (fun q hq => List.mem_singleton.mp (hof q hq)) hnI F₁ N₁
  · intro m₁ nx h tk hJ F₁ N₁
    exact done m₁ nx h tk hJ F₁ N₁

/-- a loop over a list of the ledger, which stays as it is -/
theorem forList {l : Addr} {its : List Value} {c : Nat} {m₀ : Str → Option Value} {news : List (Addr × Obj)} (J : Nat → (Str → Option Value) → List (Addr × Obj) → Prop)
    (hh : A.handled = none) (F : Fr h₀ env.locals s.heap m₀) (N : News h₀ env.locals s.heap news) (hl : (l, W.listOf its.toArray c) ∈ news) (led : List (Addr × Obj)) (hled : Sub led news) (hj : J 0 m₀ led)
    (turn : ∀ i v m₁ nx h tk own I, its[i]? = some v → J i m₁ nx → (∃ o, (I, o) ∈ own) → (∀ q ∈ own, q.1 = I ∨ q.1 = l) → (∀ q ∈ nx, q.1 ≠ I) → Fr h₀ env.locals h (fun y => if y = x then some v else m₁ y) → News h₀ env.locals h (own ++ nx) →
      wpAny (model prog w) A (execs body env) (GPost h₀ env.locals I (J (i + 1)) own s Q) E { s with heap := h, toks := tk })
    (done : ∀ m₁ nx h tk, J its.length m₁ nx → Fr h₀ env.locals h m₁ → News h₀ env.locals h nx → Q .next { s with heap := h, toks := tk }) :
    wpAny (model prog w) A (pyIter (.ref l)) (fun it s₂ => LoopAtV prog w A h₀ env x body Q E it s₂) E s := by
  have hls : s.heap.IsList l its.toArray := ⟨_, (N _ hl).1, rfl, c, rfl⟩
  have hlt : l < s.heap.objs.size := Heap.lt_size (N _ hl).1
  refine wpAny_pyIter_list hls ?_
  have W := Walks.list (prog := prog) (w := w) hh s.heap.objs.size l (Nat.ne_of_lt hlt) its.toArray
  have hsz : its.toArray.size = its.length := by simp
  rw [hsz] at W
  have hnw : ∀ p ∈ led, p.1 ≠ s.heap.objs.size := fun p hp => Nat.ne_of_lt (Heap.lt_size (N p (hled p hp)).1)
  refine loopG J W (fun i h st => by obtain ⟨o, e, _⟩ := st.1; exact ⟨o, e⟩) ?_ (next_is_new F) hnw ⟨⟨_, Heap.get?_push_size _ rfl, rfl, rfl⟩, hls.push _⟩ (F.push _) ((news_sub N hled).grown fun _ _ e => Heap.get?_push_of_some _ e) hj ?_ ?_
  · intro hm
    rcases List.mem_cons.mp hm with e | hm
    · exact absurd F.ns.lt (e ▸ Nat.lt_irrefl _)
    · exact (N _ hl).2.1 (List.mem_singleton.mp hm).symm
  · rintro i v m₁ nx h tk own hi hP hJ hI hof hnI F₁ N₁
    exact turn i v m₁ nx h tk own _ (by simpa using hP) hJ hI (fun q hq => by simpa using hof q hq) hnI F₁ N₁
  · intro m₁ nx h tk hJ F₁ N₁
    exact done m₁ nx h tk hJ F₁ N₁
/-- a loop over a list that stood ahead of the call -/
theorem forBase {l : Addr} {its : List Value} {m₀ : Str → Option Value} {news : List (Addr × Obj)} (J : Nat → (Str → Option Value) → List (Addr × Obj) → Prop)
    (hh : A.handled = none) (F : Fr h₀ env.locals s.heap m₀) (N : News h₀ env.locals s.heap news) (hl : h₀.IsList l its.toArray) (hj : J 0 m₀ news)
    (turn : ∀ i v m₁ nx h tk own I, its[i]? = some v → J i m₁ nx → (∃ o, (I, o) ∈ own) → (∀ q ∈ own, q.1 = I ∨ q.1 = l) → (∀ q ∈ nx, q.1 ≠ I) → Fr h₀ env.locals h (fun y => if y = x then some v else m₁ y) → News h₀ env.locals h (own ++ nx) →
      wpAny (model prog w) A (execs body env) (GPost h₀ env.locals I (J (i + 1)) own s Q) E { s with heap := h, toks := tk })
    (done : ∀ m₁ nx h tk, J its.length m₁ nx → Fr h₀ env.locals h m₁ → News h₀ env.locals h nx → Q .next { s with heap := h, toks := tk }) :
    wpAny (model prog w) A (pyIter (.ref l)) (fun it s₂ => LoopAtV prog w A h₀ env x body Q E it s₂) E s := by
  have hls : s.heap.IsList l its.toArray := hl.at fun o e => F.keep l o e
  obtain ⟨ol, hol, _⟩ := id hl
  have hlt : l < h₀.objs.size := Heap.lt_size hol
  have hne : l ≠ s.heap.objs.size := Nat.ne_of_lt (Nat.lt_trans (Nat.lt_of_lt_of_le hlt F.above) F.ns.lt)
  refine wpAny_pyIter_list hls ?_
  have W := Walks.list (prog := prog) (w := w) hh s.heap.objs.size l hne its.toArray
  have hsz : its.toArray.size = its.length := by simp
  rw [hsz] at W
  refine loopG J W (fun i h st => by obtain ⟨o, e, _⟩ := st.1; exact ⟨o, e⟩) ?_ (next_is_new F) (fun p hp => Nat.ne_of_lt (Heap.lt_size (N p hp).1)) ⟨⟨_, Heap.get?_push_size _ rfl, rfl, rfl⟩, hls.push _⟩ (F.push _) (N.grown fun _ _ e => Heap.get?_push_of_some _ e) hj ?_ ?_
  · intro hm
    rcases List.mem_cons.mp hm with e | hm
    · exact absurd F.ns.lt (e ▸ Nat.lt_irrefl _)
    · exact absurd (Nat.lt_of_lt_of_le hlt F.above) ((List.mem_singleton.mp hm) ▸ Nat.lt_irrefl _)
  · rintro i v m₁ nx h tk own hi hP hJ hI hof hnI F₁ N₁
    exact turn i v m₁ nx h tk own _ (by simpa using hP) hJ hI (fun q hq => by simpa using hof q hq) hnI F₁ N₁
  · intro m₁ nx h tk hJ F₁ N₁
    exact done m₁ nx h tk hJ F₁ N₁
end loops
end Mine
end

section
open PySem PySem.W PyProof.Rows PySem.Calls
namespace Mine
open PyProof.Rows.LCg
section comp
variable {prog : Program} {w : World} {A : Around} {E : Value → Shared → Prop} {s : Shared} {env : Env} {h₀ : Heap} {L : Addr} {m : Str → Option Value}

abbrev testsOf (ifs : List Expr) (env : Env) : Sem Bool := forIn ifs true fun c r => if r = true then do let ok ← isTrue c env (eval c env); pure (ForInStep.yield ok) else pure (ForInStep.yield r)

theorem compLoop_all {elt target iter : Expr} {ifs : List Expr} {scope : Scope} {pos : Pos} {it acc : Value} {env : Env} {R : Result → Shared → Prop} (I : Nat → Shared → Prop)
    (turn : ∀ n s, I n s → wpAny (model prog w) A (pyNext it) (fun r s₁ => match r with
      | none => R (.ok .next) s₁
      | some v => wpAny (model prog w) A (letOwnedTupleGo target it v) (fun _ s₁' => wpAny (model prog w) A (assign target env v) (fun _ s₂ =>
          wpAny (model prog w) A (testsOf ifs env) (fun ok s₃ =>
            if ok = true then wpAny (model prog w) A (eval elt env) (fun x s₄ =>
              wpAny (model prog w) A (call (.builtin "list.append") [acc, x]) (fun _ s₅ => ∃ m, m < n ∧ I m s₅) (notedBy (model prog w) A env fun e s' => R (.error e) s') s₄) (notedBy (model prog w) A env fun e s' => R (.error e) s') s₃
            else ∃ m, m < n ∧ I m s₃) (notedBy (model prog w) A env fun e s' => R (.error e) s') s₂) (notedBy (model prog w) A env fun e s' => R (.error e) s') s₁') (notedBy (model prog w) A env fun e s' => R (.error e) s') s₁) (notedBy (model prog w) A env fun e s' => R (.error e) s') s)
    (n : Nat) (h : I n s) : codeAny (model prog w) A (.compLoop (.ListComp elt [⟨target, iter, ifs, 0⟩] scope pos) 0 it acc env) R s := by
  refine codeAny_loop rfl I (fun n s hI => ?_) n h
  show wpAny _ A ((compTurn (.ListComp elt [⟨target, iter, ifs, 0⟩] scope pos) 0 it acc env).onRaise (fun x => do noteFrame x env; theTreesLotGoes x)) _ _ s
  refine wpAny_noted ?_
  rw [compTurn_list]
  refine wpAny_bind (wpAny_standAt (wpAny_bind (wpAny_mono (turn n s hI) (fun r s₁ h₁ => ?_) fun _ _ h' => h')))
  cases r with
  | none => exact wpAny_pure h₁
  | some v =>
    refine wpAny_bind (wpAny_mono h₁ (fun _ s₁' h₁' => ?_) fun _ _ h' => h')
    refine wpAny_bind (wpAny_mono h₁' (fun _ s₂ h₂ => wpAny_bind (wpAny_mono h₂ (fun ok s₃ h₃ => ?_) fun _ _ h' => h')) fun _ _ h' => h')
    cases ok with
    | false => exact wpAny_pure ⟨rfl, h₃⟩
    | true =>
      exact wpAny_bind (wpAny_bind (wpAny_mono h₃ (fun x s₄ h₄ => wpAny_bind (wpAny_mono h₄ (fun _ s₅ h₅ => wpAny_pure (wpAny_pure ⟨rfl, h₅⟩)) fun _ _ h' => h')) fun _ _ h' => h'))

/-- an element's end: all that stood stands -/
def CEnd (h₀ : Heap) (L : Addr) (m : Str → Option Value) (s : Shared) (led : List (Addr × Obj)) (G : Option Value → Prop) (y : Option Value) (s₂ : Shared) : Prop :=
  ∃ h' tk, s₂ = { s with heap := h', toks := tk } ∧ Fr h₀ L h' m ∧ News h₀ L h' led ∧ G y
theorem CEnd.intro {led all : List (Addr × Obj)} {G : Option Value → Prop} {y : Option Value} {h' : Heap} {tk : Nat} (F : Fr h₀ L h' m) (N : News h₀ L h' all) (hs : Sub led all) (g : G y) : CEnd h₀ L m s led G y { s with heap := h', toks := tk } := ⟨h', tk, rfl, F, news_sub N hs, g⟩

/-- one turn of a comprehension behind its target's binding -/
def CTurn (prog : Program) (w : World) (A : Around) (h₀ : Heap) (L : Addr) (m : Str → Option Value) (env : Env) (elt : Expr) (ifs : List Expr) (scope : Scope) (cl : List (Str × Addr)) (s : Shared) (news : List (Addr × Obj)) (B : (Str → Option Value) → Prop) (G : Option Value → Prop) : Prop :=
  ∀ I oI C oC D oD m₃ h tk (E' : Value → Shared → Prop), B m₃ → NsObj oC m₃ → Fr h₀ L h m → News h₀ L h ((I, oI) :: (C, oC) :: (D, oD) :: news) → (∀ p ∈ news, p.1 ≠ C) →
    wpAny (model prog w) A (testsOf ifs (compEnvC scope cl C env)) (fun ok s₄ => if ok = true then wpAny (model prog w) A (eval elt (compEnvC scope cl C env)) (fun y => CEnd h₀ L m s ((I, oI) :: (C, oC) :: (D, oD) :: news) G (some y)) E' s₄ else CEnd h₀ L m s ((I, oI) :: (C, oC) :: (D, oD) :: news) G none s₄) E' { s with heap := h, toks := tk }

theorem comp_block {elt iter target : Expr} {ifs : List Expr} {scope : Scope} {cl : List (Str × Addr)} {pos : Pos} {s₂ : Shared} {I : Addr} {fp : List Addr} {n : Nat} {P : Nat → Value → Prop} {St : Nat → Heap → Prop} {news : List (Addr × Obj)}
    (Bd : Nat → (Str → Option Value) → Prop) (G : Nat → Option Value → Prop) {RR : Value → Addr → Result → Shared → Prop}
    (W : Walks prog w A I fp [I] n P St) (hsz : n ≤ sizeLine) (hIo : ∀ i h, St i h → ∃ o, h.get? I = some o)
    (hSt : ∀ i h h' o, St i h → h.get? I = some o → h'.get? I = some o → (∀ b o, h₀.get? b = some o → h'.get? b = some o) → News h₀ L h' news → St i h')
    (ht : ∀ i v s' (Q : Unit → Shared → Prop) (E' : Value → Shared → Prop), P i v → St (i + 1) s'.heap → Q () s' → wpAny (model prog w) A (letOwnedTupleGo target (.ref I) v) Q E' s')
    (hcell : ∀ y ∈ scope.names, y.2 ≠ .cell) (hkind : scope.kind = .function) (hst : St 0 s₂.heap) (hfp : ∀ b ∈ fp, b < s₂.heap.objs.size)
    (F : Fr h₀ L s₂.heap m) (N : News h₀ L s₂.heap news) (hIL : L ≠ I) (hI₀ : h₀.get? I = none) (off : ∀ p ∈ news, p.1 ≠ I)
    (hass : ∀ i v C h tk m' (E' : Value → Shared → Prop), P i v → h.Ns C m' → Fr h₀ L h m → News h₀ L h news → C ≠ L → h₀.get? C = none → (∀ p ∈ news, p.1 ≠ C) →
      wpAny (model prog w) A (assign target (compEnvC scope cl C env) v) (fun _ s₃ => ∃ h₃ tk₃ m₃, s₃ = { s₂ with heap := h₃, toks := tk₃ } ∧ h₃.Ns C m₃ ∧ (∀ b o, b ≠ C → h.get? b = some o → h₃.get? b = some o) ∧ Bd i m₃) E' { s₂ with heap := h, toks := tk })
    (turn : ∀ i, i < n → CTurn prog w A h₀ L m env elt ifs scope cl s₂ news (Bd i) (G i))
    (hRR : ∀ D C h tk m' (gs : List (Option Value)), Fr h₀ L h m → News h₀ L h ((D, lst (gs.filterMap id)) :: news) → h.Ns C m' → h₀.get? C = none → h₀.get? D = none → C ≠ L → D ≠ L → C ≠ D → (∀ p ∈ news, p.1 ≠ C) → (∀ p ∈ news, p.1 < D) → gs.length = n → (∀ j g, gs[j]? = some g → G j g) → RR (.ref D) C (.ok .next) { s₂ with heap := h, toks := tk }) :
    wpAny (model prog w) A (newList []) (fun acc s₃ => wpAny (model prog w) A (newFunctionEnv scope env.globals cl [] env.qual none .none (some env)) (fun cenv s₄ =>
      codeAny (model prog w) A (.compStart (.ListComp elt [⟨target, iter, ifs, 0⟩] scope pos) 0 (.ref I) acc { cenv with scope := relabel scope env }) (RR acc cenv.locals) s₄) E s₃) E s₂ := by
  refine wpAny_newObj_type (wpAny_newFunctionEnv hcell (by intro y hy; simp at hy) (fun h₁ hns₁ hsb₁ => ?_) hkind)
  dsimp only at hns₁ hsb₁ ⊢
  generalize hH2 : s₂.heap.push { cls := .type "list", dict := none, data := .seq ([] : List Value).toArray } = H2 at hns₁ hsb₁ ⊢
  have hC : H2.objs.size = s₂.heap.objs.size + 1 := by rw [← hH2, Heap.size_push]
  generalize hCe : H2.objs.size = C at hns₁ hsb₁ hC ⊢
  generalize hDe : s₂.heap.objs.size = D at hC hfp ⊢
  have hC : @Eq Nat C (D + 1) := hC
  have hDC : @Ne Nat D C := by omega
  have hIlt : @LT.lt Nat _ I D := hfp I (W.sub I (List.mem_singleton.mpr rfl))
  have hDf : D ∉ fp := fun hm => Nat.lt_irrefl _ (hfp _ hm)
  have hCf : C ∉ fp := fun hm => by have : @LT.lt Nat _ C D := hfp _ hm; omega
  have old : ∀ b o, s₂.heap.get? b = some o → h₁.get? b = some o := fun b o e => hsb₁.extBut b o (by have : @LT.lt Nat _ b s₂.heap.objs.size := Heap.lt_size e; show @Ne Nat b C; omega) (Heap.get?_push_of_some _ (hH2 ▸ Heap.get?_push_of_some _ e))
  have hacc : h₁.get? D = some (lst []) := hsb₁.extBut _ _ hDC (Heap.get?_push_of_some _ (hH2 ▸ hDe ▸ Heap.get?_push_size _ rfl))
  have hst₁ : St 0 h₁ := W.frame _ _ _ hst fun b _ o e => old b o e
  have fresh₀ : ∀ a, D ≤ a → h₀.get? a = none := fun a ha => by
    cases e : h₀.get? a with
    | none => rfl
    | some o' => have : @LT.lt Nat _ a s₂.heap.objs.size := Heap.lt_size (F.keep a o' e); have : @LE.le Nat _ D a := ha; omega
  have hD₀ : h₀.get? D = none := fresh₀ _ (Nat.le_refl _)
  have hC₀ : h₀.get? C = none := fresh₀ _ (by show @LE.le Nat _ D C; omega)
  have hLlt : @LT.lt Nat _ L D := by have : @LT.lt Nat _ L s₂.heap.objs.size := F.ns.lt; omega
  have hDL : @Ne Nat D L := by omega
  have hCL : @Ne Nat C L := by omega
  have hCI : @Ne Nat C I := by omega
  have hDI : @Ne Nat D I := by omega
  have hlt : ∀ p ∈ news, p.1 < D := fun p hp => by have : @LT.lt Nat _ p.1 s₂.heap.objs.size := Heap.lt_size (N p hp).1; show @LT.lt Nat _ p.1 D; omega
  have offC : ∀ p ∈ news, p.1 ≠ C := fun p hp => by have : @LT.lt Nat _ p.1 D := hlt p hp; show @Ne Nat p.1 C; omega
  have offD : ∀ p ∈ news, p.1 ≠ D := fun p hp => by have : @LT.lt Nat _ p.1 D := hlt p hp; show @Ne Nat p.1 D; omega
  have loop : ∀ s₃ : Shared, s₃ = { s₂ with heap := h₁, toks := s₂.toks + ([] : List (Str × Value)).length } →
      codeAny (model prog w) A (.compLoop (.ListComp elt [⟨target, iter, ifs, 0⟩] scope pos) 0 (.ref I) (.ref D) (compEnvC scope cl C env)) (RR (.ref D) C) s₃ := by
    rintro s₃ rfl
    refine compLoop_all
      (fun k s' => ∃ h' tk gs m', s' = { s₂ with heap := h', toks := tk } ∧ gs.length ≤ n ∧ k = n + 1 - gs.length ∧ St gs.length h' ∧ Fr h₀ L h' m ∧ h'.Ns C m' ∧ News h₀ L h' ((D, lst (gs.filterMap id)) :: news) ∧ (∀ j g, gs[j]? = some g → G j g)) ?_ (n + 1)
      ⟨h₁, _, [], _, rfl, Nat.zero_le _, rfl, hst₁, F.keeps old, hns₁, fun p hp => ?_, by simp⟩
    · rintro k s' ⟨h', tk, gs, m', rfl, hi, rfl, hst', F', hn', N', hG⟩
      by_cases hlt' : gs.length < n
      · refine W.item gs.length _ _ _ hlt' hst' fun v h₂ tk₂ hPv hst₂ hk₂ => ?_
        have kI : ∀ b o, b ≠ I → h'.get? b = some o → h₂.get? b = some o := fun b o hb e => hk₂ b o (by simpa using hb) e
        have F₂ : Fr h₀ L h₂ m := fr_but F' hk₂ hIL hI₀
        have N₂ : News h₀ L h₂ ((D, lst (gs.filterMap id)) :: news) := news_but N' hk₂ fun p hp => by
          rcases List.mem_cons.mp hp with rfl | hp
          · exact hDI
          · exact off p hp
        refine ht gs.length v _ _ _ hPv hst₂ ?_
        refine wpAny_mono (hass gs.length v C h₂ tk₂ _ _ hPv (hn'.at' fun o e => kI _ o hCI e) F₂ (fun p hp => N₂ p (.tail _ hp)) hCL hC₀ offC) (fun _ s₃ h₃ => ?_) fun _ _ e => e
        obtain ⟨h₃, tk₃, m₃, rfl, hn₃, hk₃, hB⟩ := h₃
        have hst₃ : St (gs.length + 1) h₃ := W.frame _ _ _ hst₂ fun b hb o e => hk₃ b o (fun q => hCf (q ▸ hb)) e
        obtain ⟨oI, heI⟩ := hIo _ _ hst₃
        obtain ⟨oC, heC, hoC⟩ := ns_obj hn₃
        have F₃ : Fr h₀ L h₃ m := ⟨F₂.ns.at' fun o e => hk₃ L o (Ne.symm hCL) e, fun b o e => hk₃ b o (fun q => by rw [q, hC₀] at e; cases e) (F₂.keep b o e), F₂.above⟩
        have N₃ : News h₀ L h₃ ((I, oI) :: (C, oC) :: (D, lst (gs.filterMap id)) :: news) := fun p hp => by
          rcases List.mem_cons.mp hp with rfl | hp
          · exact ⟨heI, Ne.symm hIL, hI₀⟩
          · rcases List.mem_cons.mp hp with rfl | hp
            · exact ⟨heC, hCL, hC₀⟩
            · refine ⟨hk₃ _ _ ?_ (N₂ p hp).1, (N₂ p hp).2⟩
              rcases List.mem_cons.mp hp with rfl | hp
              · exact hDC
              · exact offC p hp
        refine wpAny_mono (turn gs.length hlt' I oI C oC D _ m₃ h₃ tk₃ _ hB hoC F₃ N₃ offC) (fun ok s₄ h₄ => ?_) fun _ _ e => e
        have back : ∀ {y : Option Value} {s₅ : Shared}, CEnd h₀ L m s₂ ((I, oI) :: (C, oC) :: (D, lst (gs.filterMap id)) :: news) (G gs.length) y s₅ → ∃ h₅ tk₅, s₅ = { s₂ with heap := h₅, toks := tk₅ } ∧ Fr h₀ L h₅ m ∧ St (gs.length + 1) h₅ ∧ h₅.Ns C m₃ ∧ h₅.get? D = some (lst (gs.filterMap id)) ∧ News h₀ L h₅ news ∧ (∀ j g, (gs ++ [y])[j]? = some g → G j g) := by
          rintro y s₅ ⟨h₅, tk₅, rfl, F₅, N₅, g₅⟩
          refine ⟨h₅, tk₅, rfl, F₅, hSt _ _ _ _ hst₃ heI (N₅ _ (.head _)).1 F₅.keep (fun p hp => N₅ p (.tail _ (.tail _ (.tail _ hp)))), hoC.ns (N₅ _ (.tail _ (.head _))).1, (N₅ _ (.tail _ (.tail _ (.head _)))).1, fun p hp => N₅ p (.tail _ (.tail _ (.tail _ hp))), ?_⟩
          intro j g hj
          rcases Nat.lt_trichotomy j gs.length with h | h | h
          · exact hG j g (by rwa [List.getElem?_append_left h] at hj)
          · subst h; simp at hj; subst hj; exact g₅
          · have hnone : (gs ++ [y])[j]? = none := List.getElem?_eq_none (by rw [List.length_append, List.length_singleton]; omega)
            rw [hnone] at hj; cases hj
        cases ok with
        | false =>
          simp only [Bool.false_eq_true, if_false] at h₄ ⊢
          obtain ⟨h₅, tk₅, rfl, F₅, hst₅, hn₅, hD₅, N₅, hG₅⟩ := back h₄
          refine ⟨n + 1 - (gs.length + 1), by omega, h₅, tk₅, gs ++ [none], m₃, rfl, by simp; omega, by simp, by simpa using hst₅, F₅, hn₅, ?_, hG₅⟩
          intro p hp
          rcases List.mem_cons.mp hp with rfl | hp
          · exact ⟨by simpa using hD₅, hDL, hD₀⟩
          · exact N₅ p hp
        | true =>
          simp only [if_true] at h₄ ⊢
          refine wpAny_mono h₄ (fun y s₅ h₅' => ?_) fun _ _ e => e
          obtain ⟨h₅, tk₅, rfl, F₅, hst₅, hn₅, hD₅, N₅, hG₅⟩ := back h₅'
          have hlen : (gs.filterMap id).length ≤ n := Nat.le_trans (List.length_filterMap_le _ _) hi
          refine append_at (hsz := by show (gs.filterMap id).toArray.size ≤ sizeLine; rw [List.size_toArray]; exact Nat.le_trans hlen hsz) hD₅ fun h₆ hs₆ hD₆ => ?_
          refine ⟨n + 1 - (gs.length + 1), by omega, h₆, tk₅, gs ++ [some y], m₃, rfl, by simp; omega, by simp, ?_, F₅.change hs₆ hDL hD₀, hn₅.sameBut hs₆ (Ne.symm hDC), ?_, hG₅⟩
          · rw [List.length_append, List.length_singleton]
            exact W.frame _ _ _ hst₅ fun b hb o e => hs₆.extBut b o (fun q => hDf (q ▸ hb)) e
          · intro p hp
            rcases List.mem_cons.mp hp with rfl | hp
            · refine ⟨?_, hDL, hD₀⟩
              rw [List.filterMap_append]
              exact hD₆.trans (congrArg some (lst_snoc (gs.filterMap id) y))
            · exact ⟨hs₆.extBut _ _ (offD p hp) (N₅ p hp).1, (N₅ p hp).2⟩
      · obtain hin : gs.length = n := by omega
        rw [hin] at hst'
        refine W.done _ _ _ hst' fun h₂ tk₂ hk₂ => ?_
        have kI : ∀ b o, b ≠ I → h'.get? b = some o → h₂.get? b = some o := fun b o hb e => hk₂ b o (by simpa using hb) e
        exact hRR _ _ h₂ tk₂ _ gs (fr_but F' hk₂ hIL hI₀) (news_but N' hk₂ fun p hp => by
          rcases List.mem_cons.mp hp with rfl | hp
          · exact hDI
          · exact off p hp) (hn'.at' fun o e => kI _ o hCI e) hC₀ hD₀ hCL hDL (Ne.symm hDC) offC hlt hin hG
    · rcases List.mem_cons.mp hp with rfl | hp
      · exact ⟨hacc, hDL, hD₀⟩
      · exact ⟨old _ _ (N p hp).1, (N p hp).2⟩
  exact codeAny_compStart_list (loop _ rfl) (W.self 0 _ _ _ hst₁ (loop _ rfl))

/-- the comprehension's block behind its source's iterator -/
abbrev CBlock (prog : Program) (w : World) (A : Around) (E : Value → Shared → Prop) (env : Env) (elt target iter : Expr) (ifs : List Expr) (scope : Scope) (cl : List (Str × Addr)) (pos : Pos) (RR : Value → Addr → Result → Shared → Prop) (it : Value) (s₂ : Shared) : Prop :=
  wpAny (model prog w) A (newList []) (fun acc s₃ => wpAny (model prog w) A (newFunctionEnv scope env.globals cl [] env.qual none .none (some env)) (fun cenv s₄ =>
      codeAny (model prog w) A (.compStart (.ListComp elt [⟨target, iter, ifs, 0⟩] scope pos) 0 it acc { cenv with scope := relabel scope env }) (RR acc cenv.locals) s₄) E s₃) E s₂
def CFin (h₀ : Heap) (L : Addr) (m : Str → Option Value) (s₁ : Shared) (n : Nat) (G : Nat → Option Value → Prop) (news : List (Addr × Obj)) (RR : Value → Addr → Result → Shared → Prop) : Prop :=
  ∀ D C h tk m' (gs : List (Option Value)), Fr h₀ L h m → News h₀ L h ((D, lst (gs.filterMap id)) :: news) → h.Ns C m' → h₀.get? C = none → h₀.get? D = none → C ≠ L → D ≠ L → C ≠ D → (∀ p ∈ news, p.1 ≠ C) → (∀ p ∈ news, p.1 < D) → gs.length = n → (∀ j g, gs[j]? = some g → G j g) → RR (.ref D) C (.ok .next) { s₁ with heap := h, toks := tk }

theorem cfin_expr {n : Nat} {G : Nat → Option Value → Prop} {news : List (Addr × Obj)} {Q : Value → Shared → Prop}
    (fin : ∀ D h tk (gs : List (Option Value)), Fr h₀ L h m → News h₀ L h ((D, lst (gs.filterMap id)) :: news) → (∀ p ∈ news, p.1 < D) → gs.length = n → (∀ j g, gs[j]? = some g → G j g) → Q (.ref D) { s with heap := h, toks := tk }) :
    CFin h₀ L m s n G news (fun acc C => compPost (model prog w) A E none Q acc C) := by
  intro D C h tk m' gs F' N' hn hC₀ hD₀ hCL hDL hCD offC hlt hl hG
  refine ⟨m', hn, fun h'' hs'' => fin D h'' tk gs (F'.change hs'' hCL hC₀) (fun p hp => ?_) hlt hl hG⟩
  refine ⟨hs''.extBut _ _ ?_ (N' p hp).1, (N' p hp).2⟩
  rcases List.mem_cons.mp hp with rfl | hp
  · exact Ne.symm hCD
  · exact offC p hp
theorem cfin_assign {y : Str} {py : Pos} {n : Nat} {G : Nat → Option Value → Prop} {news : List (Addr × Obj)} {Q : Flow → Shared → Prop} (hy : env.kindOf y = some .local) (hp : (env.scope.kind == .class || (env.scope.kind == .module && env.locals != env.globals)) = false)
    (fin : ∀ D h tk (gs : List (Option Value)), Fr h₀ env.locals h (fun z => if z = y then some (.ref D) else m z) → News h₀ env.locals h ((D, lst (gs.filterMap id)) :: news) → (∀ p ∈ news, p.1 < D) → gs.length = n → (∀ j g, gs[j]? = some g → G j g) → Q .next { s with heap := h, toks := tk }) :
    CFin h₀ env.locals m s n G news (fun acc C => compPost (model prog w) A E (some (assign (.Name y py) env)) (fun _ s' => Q .next s') acc C) := by
  intro D C h tk m' gs F' N' hn hC₀ hD₀ hCL hDL hCD offC hlt hl hG
  show wpAny _ A (assign (.Name y py) env (.ref D)) _ _ _
  refine wpAny_assign_Name (wpAny_storeName_local hy F'.ns (fun h₂ hn₂ hs₂ => ?_) hp)
  have hL₀ : h₀.get? env.locals = none := Heap.get?_none_of_le F'.above
  have F₂ : Fr h₀ env.locals h₂ (fun z => if z = y then some (.ref D) else m z) := ⟨hn₂, fun b o e => hs₂.extBut b o (fun q => by rw [q, hL₀] at e; cases e) (F'.keep b o e), F'.above⟩
  refine ⟨m', hn.sameBut hs₂ hCL, fun h'' hs'' => fin D h'' _ gs (F₂.change hs'' hCL hC₀) (fun p hp => ?_) hlt hl hG⟩
  have z : h₂.get? p.1 = some p.2 := hs₂.extBut _ _ (N' p hp).2.1 (N' p hp).1
  refine ⟨hs''.extBut _ _ ?_ z, (N' p hp).2⟩
  rcases List.mem_cons.mp hp with rfl | hp
  · exact Ne.symm hCD
  · exact offC p hp

theorem ListComp_E {elt target iter : Expr} {ifs : List Expr} {scope : Scope} {cl : List (Str × Addr)} {pos : Pos} {Q : Value → Shared → Prop}
    (hclos : closureFor scope env = pure cl) (hkind : scope.kind = .function) (hnames : ∀ y ∈ scope.names, y.2 = .local → scope.names.lookup y.1 = some .local)
    (h : wpAny (model prog w) A (eval iter env) (fun xv s₁ => wpAny (model prog w) A (pyIter xv) (fun it s₂ => CBlock prog w A E env elt target iter ifs scope cl pos (fun acc C => compPost (model prog w) A E none Q acc C) it s₂) E s₁) E s)
    (hs : ∀ x, foldedSetIterable iter env x = pure x := by intro _; rfl) :
    wpAny (model prog w) A (eval (.ListComp elt [⟨target, iter, ifs, 0⟩] scope pos) env) Q E s := by
  rw [eval_ListComp]
  exact wpAny_comprehension_free (use := none) rfl hs hclos hkind hnames h
theorem ListComp_A {elt target iter : Expr} {ifs : List Expr} {y : Str} {py : Pos} {scope : Scope} {cl : List (Str × Addr)} {pos spos : Pos} {Q : Flow → Shared → Prop}
    (hsw : swapsWith (.ListComp elt [⟨target, iter, ifs, 0⟩] scope pos) (some (.Name y py)) spos.line env = pure true)
    (hclos : closureFor scope env = pure cl) (hkind : scope.kind = .function) (hnames : ∀ y ∈ scope.names, y.2 = .local → scope.names.lookup y.1 = some .local)
    (h : wpAny (model prog w) A (eval iter env) (fun xv s₁ => wpAny (model prog w) A (pyIter xv) (fun it s₂ => CBlock prog w A E env elt target iter ifs scope cl pos (fun acc C => compPost (model prog w) A E (some (assign (.Name y py) env)) (fun _ s' => Q .next s') acc C) it s₂) E s₁) E s)
    (hs : ∀ x, foldedSetIterable iter env x = pure x := by intro _; rfl) :
    wpAny (model prog w) A (exec (.Assign [.Name y py] (.ListComp elt [⟨target, iter, ifs, 0⟩] scope pos) spos) env) Q E s := by
  rw [exec_Assign_Name_used _ _ _ _ hsw]
  refine wpAny_bind (wpAny_standAt (wpAny_bind ?_))
  show wpAny _ A (do let _ ← comprehension (.ListComp elt [⟨target, iter, ifs, 0⟩] scope pos) scope env _ (newList []) false (eval iter env) (some (assign (.Name y py) env))) _ _ s
  exact wpAny_bind (wpAny_mono (wpAny_comprehension_free (use := some (assign (.Name y py) env)) (Q := fun _ s' => Q .next s') rfl hs hclos hkind hnames h) (fun _ s' hq => wpAny_pure (wpAny_pure hq)) fun _ _ e => e)

/-- the target's binding: a name -/
theorem bind_name {scope : Scope} {cl : List (Str × Addr)} {x : Str} {px : Pos} {P : Nat → Value → Prop} {s₂ : Shared} {news : List (Addr × Obj)} (hkind : scope.kind = .function) (hx : scope.names.lookup x = some .local) :
    ∀ i v C h tk m' (E' : Value → Shared → Prop), P i v → h.Ns C m' → Fr h₀ L h m → News h₀ L h news → C ≠ L → h₀.get? C = none → (∀ p ∈ news, p.1 ≠ C) →
      wpAny (model prog w) A (assign (.Name x px) (compEnvC scope cl C env) v) (fun _ s₃ => ∃ h₃ tk₃ m₃, s₃ = { s₂ with heap := h₃, toks := tk₃ } ∧ h₃.Ns C m₃ ∧ (∀ b o, b ≠ C → h.get? b = some o → h₃.get? b = some o) ∧ ∃ v, P i v ∧ m₃ x = some v) E' { s₂ with heap := h, toks := tk } := by
  intro i v C h tk m' E' hP hn _ _ _ _ _
  refine wpAny_assign_Name (wpAny_storeName_local (lookup_relabel_local hx) hn (fun h₃ hn₃ hs₃ => ?_) (by simp [compEnvC, relabel, hkind]))
  exact ⟨h₃, _, _, rfl, hn₃, fun b o hb e => hs₃.extBut b o hb e, v, hP, by simp⟩
/-- a pair of names, out of a list of two -/
theorem bind_pair {scope : Scope} {cl : List (Str × Addr)} {x x₂ : Str} {px px₂ tp : Pos} {kk : Nat} {P : Nat → Value → Prop} {s₂ : Shared} {news : List (Addr × Obj)} (hh : A.handled = none) (hkind : scope.kind = .function) (hx : scope.names.lookup x = some .local) (hx₂ : scope.names.lookup x₂ = some .local) (hxx : x ≠ x₂) (B2 : Nat → Value → Value → Prop)
    (hP : ∀ i v, P i v → ∃ t v₁ v₂ n, v = .ref t ∧ (t, W.listOf #[v₁, v₂] n) ∈ news ∧ B2 i v₁ v₂) :
    ∀ i v C h tk m' (E' : Value → Shared → Prop), P i v → h.Ns C m' → Fr h₀ L h m → News h₀ L h news → C ≠ L → h₀.get? C = none → (∀ p ∈ news, p.1 ≠ C) →
      wpAny (model prog w) A (assign (.Tuple [.Name x px, .Name x₂ px₂] kk tp) (compEnvC scope cl C env) v) (fun _ s₃ => ∃ h₃ tk₃ m₃, s₃ = { s₂ with heap := h₃, toks := tk₃ } ∧ h₃.Ns C m₃ ∧ (∀ b o, b ≠ C → h.get? b = some o → h₃.get? b = some o) ∧
        ∃ v₁ v₂, B2 i v₁ v₂ ∧ m₃ x = some v₁ ∧ m₃ x₂ = some v₂) E' { s₂ with heap := h, toks := tk } := by
  intro i v C h tk m' E' hPv hn F N hCL hC₀ hoff
  obtain ⟨t, v₁, v₂, n, rfl, hm, hb2⟩ := hP i v hPv
  have hl : h.IsList t #[v₁, v₂] := ⟨_, (N _ hm).1, rfl, n, rfl⟩
  rw [arm_assign_Tuple]
  refine wpAny_bind (wpAny_standAt ?_)
  unfold unpack
  refine wpAny_bind (wpAny_holding (kun_itemsOf (s := { s₂ with heap := h, toks := tk }) (items := #[v₁, v₂]) hh hl fun h' he => ?_))
  have hn' : h'.Ns C m' := by
    refine hn.at' fun o e => he C o (Nat.ne_of_lt (Heap.lt_size e)) e
  have hk' : ∀ b o, h.get? b = some o → h'.get? b = some o := fun b o e => he b o (Nat.ne_of_lt (Heap.lt_size e)) e
  show wpAny _ _ (holding [v₂] (assign (.Name x px) (compEnvC scope cl C env) v₁) >>= fun _ => (holding [] (assign (.Name x₂ px₂) (compEnvC scope cl C env) v₂) >>= fun _ => pure ())) _ _ _
  have hp : ((compEnvC scope cl C env).scope.kind == .class || ((compEnvC scope cl C env).scope.kind == .module && (compEnvC scope cl C env).locals != (compEnvC scope cl C env).globals)) = false := by simp [compEnvC, relabel, hkind]
  refine wpAny_bind (wpAny_holding (wpAny_assign_Name (wpAny_storeName_local (lookup_relabel_local hx) hn' (fun h₃ hn₃ hs₃ => ?_) hp)))
  refine wpAny_bind (wpAny_holding (wpAny_assign_Name (wpAny_storeName_local (lookup_relabel_local hx₂) hn₃ (fun h₄ hn₄ hs₄ => wpAny_pure ?_) hp)))
  exact ⟨h₄, _, _, rfl, hn₄, fun b o hb e => hs₄.extBut b o hb (hs₃.extBut b o hb (hk' b o e)), v₁, v₂, hb2, by simp [hxx], by simp⟩

theorem csrc_list {elt target iter : Expr} {ifs : List Expr} {scope : Scope} {cl : List (Str × Addr)} {pos : Pos} {RR : Value → Addr → Result → Shared → Prop} {news : List (Addr × Obj)} {ax : Addr} {its : List Value} {c : Nat} (Bd : Nat → (Str → Option Value) → Prop) (G : Nat → Option Value → Prop)
    (hh : A.handled = none) (hcell : ∀ y ∈ scope.names, y.2 ≠ .cell) (hkind : scope.kind = .function) (F : Fr h₀ L s.heap m) (N : News h₀ L s.heap news) (hm : (ax, W.listOf its.toArray c) ∈ news) (hsz : its.length ≤ sizeLine)
    (ht : ∀ I i v s' (Q : Unit → Shared → Prop) (E' : Value → Shared → Prop), its[i]? = some v → s'.heap.IsListIter I ax (i + 1) → Q () s' → wpAny (model prog w) A (letOwnedTupleGo target (.ref I) v) Q E' s')
    (hass : ∀ i v C h tk m' (E' : Value → Shared → Prop), its[i]? = some v → h.Ns C m' → Fr h₀ L h m → News h₀ L h news → C ≠ L → h₀.get? C = none → (∀ p ∈ news, p.1 ≠ C) →
      wpAny (model prog w) A (assign target (compEnvC scope cl C env) v) (fun _ s₃ => ∃ h₃ tk₃ m₃, s₃ = { s with heap := h₃, toks := tk₃ } ∧ h₃.Ns C m₃ ∧ (∀ b o, b ≠ C → h.get? b = some o → h₃.get? b = some o) ∧ Bd i m₃) E' { s with heap := h, toks := tk })
    (turn : ∀ i, i < its.length → CTurn prog w A h₀ L m env elt ifs scope cl s news (Bd i) (G i))
    (fin : CFin h₀ L m s its.length G news RR) :
    wpAny (model prog w) A (pyIter (.ref ax)) (fun it s₂ => CBlock prog w A E env elt target iter ifs scope cl pos RR it s₂) E s := by
  have hl : s.heap.IsList ax its.toArray := ⟨_, (N _ hm).1, rfl, c, rfl⟩
  have hlt : ax < s.heap.objs.size := Heap.lt_size (N _ hm).1
  refine wpAny_pyIter_list hl ?_
  have up : ∀ b o, s.heap.get? b = some o → (s.heap.push { cls := .type "list_iterator", data := .fields #[.ref ax, .int 0 0] }).get? b = some o := fun b o e => Heap.get?_push_of_some _ e
  have W := Walks.list (prog := prog) (w := w) hh s.heap.objs.size ax (Nat.ne_of_lt hlt) its.toArray
  have hs1 : its.toArray.size = its.length := by simp
  rw [hs1] at W
  refine comp_block Bd G W hsz (fun i h st => by obtain ⟨o, e, _⟩ := st.1; exact ⟨o, e⟩) ?_ ?_ hcell hkind ⟨⟨_, Heap.get?_push_size _ rfl, rfl, rfl⟩, hl.push _⟩ (fun b hb => ?_)
    (F.keeps up) (N.grown up) (Nat.ne_of_lt F.ns.lt) (next_is_new F) (fun p hp => Nat.ne_of_lt (Heap.lt_size (N p hp).1)) ?_ turn fin
  · intro i h h' o st e e' _ N'
    refine ⟨?_, _, (N' _ hm).1, rfl, c, rfl⟩
    obtain ⟨o', q, r⟩ := st.1
    rw [e] at q; cases q
    exact ⟨o, e', r⟩
  · intro i v s' Q E' hP hst hQ
    exact ht _ i v s' Q E' (by simpa using hP) hst.1 hQ
  · show b < (s.heap.push _).objs.size
    rw [Heap.size_push]
    rcases List.mem_cons.mp hb with rfl | hb
    · exact Nat.lt_succ_self _
    · rw [List.mem_singleton.mp hb]; exact Nat.lt_succ_of_lt hlt
  · intro i v C h tk m' E' hP
    exact hass i v C h tk m' E' (by simpa using hP)
theorem csrc_base {elt target iter : Expr} {ifs : List Expr} {scope : Scope} {cl : List (Str × Addr)} {pos : Pos} {RR : Value → Addr → Result → Shared → Prop} {news : List (Addr × Obj)} {ax : Addr} {its : List Value} (Bd : Nat → (Str → Option Value) → Prop) (G : Nat → Option Value → Prop)
    (hh : A.handled = none) (hcell : ∀ y ∈ scope.names, y.2 ≠ .cell) (hkind : scope.kind = .function) (F : Fr h₀ L s.heap m) (N : News h₀ L s.heap news) (hb : h₀.IsList ax its.toArray) (hsz : its.length ≤ sizeLine)
    (ht : ∀ I i v s' (Q : Unit → Shared → Prop) (E' : Value → Shared → Prop), its[i]? = some v → s'.heap.IsListIter I ax (i + 1) → Q () s' → wpAny (model prog w) A (letOwnedTupleGo target (.ref I) v) Q E' s')
    (hass : ∀ i v C h tk m' (E' : Value → Shared → Prop), its[i]? = some v → h.Ns C m' → Fr h₀ L h m → News h₀ L h news → C ≠ L → h₀.get? C = none → (∀ p ∈ news, p.1 ≠ C) →
      wpAny (model prog w) A (assign target (compEnvC scope cl C env) v) (fun _ s₃ => ∃ h₃ tk₃ m₃, s₃ = { s with heap := h₃, toks := tk₃ } ∧ h₃.Ns C m₃ ∧ (∀ b o, b ≠ C → h.get? b = some o → h₃.get? b = some o) ∧ Bd i m₃) E' { s with heap := h, toks := tk })
    (turn : ∀ i, i < its.length → CTurn prog w A h₀ L m env elt ifs scope cl s news (Bd i) (G i))
    (fin : CFin h₀ L m s its.length G news RR) :
    wpAny (model prog w) A (pyIter (.ref ax)) (fun it s₂ => CBlock prog w A E env elt target iter ifs scope cl pos RR it s₂) E s := by
  have hl : s.heap.IsList ax its.toArray := hb.at fun o e => F.keep ax o e
  have hlt : ax < s.heap.objs.size := by obtain ⟨_, e, _⟩ := hl; exact Heap.lt_size e
  refine wpAny_pyIter_list hl ?_
  have up : ∀ b o, s.heap.get? b = some o → (s.heap.push { cls := .type "list_iterator", data := .fields #[.ref ax, .int 0 0] }).get? b = some o := fun b o e => Heap.get?_push_of_some _ e
  have W := Walks.list (prog := prog) (w := w) hh s.heap.objs.size ax (Nat.ne_of_lt hlt) its.toArray
  have hs1 : its.toArray.size = its.length := by simp
  rw [hs1] at W
  refine comp_block Bd G W hsz (fun i h st => by obtain ⟨o, e, _⟩ := st.1; exact ⟨o, e⟩) ?_ ?_ hcell hkind ⟨⟨_, Heap.get?_push_size _ rfl, rfl, rfl⟩, hl.push _⟩ (fun b hb => ?_)
    (F.keeps up) (N.grown up) (Nat.ne_of_lt F.ns.lt) (next_is_new F) (fun p hp => Nat.ne_of_lt (Heap.lt_size (N p hp).1)) ?_ turn fin
  · intro i h h' o st e e' k N'
    refine ⟨?_, hb.at fun o e => k _ _ e⟩
    obtain ⟨o', q, r⟩ := st.1
    rw [e] at q; cases q
    exact ⟨o, e', r⟩
  · intro i v s' Q E' hP hst hQ
    exact ht _ i v s' Q E' (by simpa using hP) hst.1 hQ
  · show b < (s.heap.push _).objs.size
    rw [Heap.size_push]
    rcases List.mem_cons.mp hb with rfl | hb
    · exact Nat.lt_succ_self _
    · rw [List.mem_singleton.mp hb]; exact Nat.lt_succ_of_lt hlt
  · intro i v C h tk m' E' hP
    exact hass i v C h tk m' E' (by simpa using hP)
theorem csrc_range {elt iter : Expr} {ifs : List Expr} {x : Str} {px : Pos} {scope : Scope} {cl : List (Str × Addr)} {pos : Pos} {RR : Value → Addr → Result → Shared → Prop} {news : List (Addr × Obj)} {r : Addr} {t₀ u₀ v₀ : Tok} {n : Nat} (a b : Int) (G : Nat → Option Value → Prop)
    (hh : A.handled = none) (hcell : ∀ y ∈ scope.names, y.2 ≠ .cell) (hkind : scope.kind = .function) (hx : scope.names.lookup x = some .local) (F : Fr h₀ L s.heap m) (N : News h₀ L s.heap news) (hr : IsRange s.heap r a b 1 t₀ u₀ v₀) (hsmall : Builtin.Range.small a b 1 = true) (hn : Builtin.Range.rangeSize a b 1 = (n : Int)) (hsz : n ≤ sizeLine)
    (turn : ∀ i, i < n → CTurn prog w A h₀ L m env elt ifs scope cl s news (fun m₃ => ∃ t, m₃ x = some (.int (a + (i : Int)) t)) (G i))
    (fin : CFin h₀ L m s n G news RR) :
    wpAny (model prog w) A (pyIter (.ref r)) (fun it s₂ => CBlock prog w A E env elt (.Name x px) iter ifs scope cl pos RR it s₂) E s := by
  refine wpAny_pyIter_range hr hsmall ?_
  have hb := bind_name (prog := prog) (w := w) (A := A) (env := env) (h₀ := h₀) (L := L) (m := m) (cl := cl) (px := px) (P := fun (i : Nat) (v : Value) => ∃ t, v = .int (a + (i : Int)) t) (s₂ := s) (news := news) hkind hx
  refine comp_block (fun i m₃ => ∃ t, m₃ x = some (.int (a + (i : Int)) t)) G (range_walks hh a n) hsz (fun i h st => ⟨_, st⟩) ?_ ?_ hcell hkind (by show IsRangeIter _ _ _ _ _; rw [hn]; simpa using Heap.get?_push_size _ rfl) (fun b hb => ?_)
    (F.keeps fun _ _ e => Heap.get?_push_of_some _ e) (N.grown fun _ _ e => Heap.get?_push_of_some _ e) (Nat.ne_of_lt F.ns.lt) (next_is_new F) (fun p hp => Nat.ne_of_lt (Heap.lt_size (N p hp).1)) ?_ turn fin
  · intro i h h' o st e e' _ _
    have st' : h.get? _ = some _ := st
    show h'.get? _ = some _
    rw [e', ← e]; exact st'
  · intro i v s' Q E' _ _ hQ
    exact wpAny_pure hQ
  · rw [List.mem_singleton.mp hb]
    show s.heap.objs.size < (s.heap.push _).objs.size
    rw [Heap.size_push]; exact Nat.lt_succ_self _
  · intro i v C h tk m' E' hP h1 h2 h3 h4 h5 h6
    refine wpAny_mono (hb i v C h tk m' E' hP h1 h2 h3 h4 h5 h6) ?_ fun _ _ e => e
    rintro _ s₃ ⟨h₃, tk₃, m₃, e, hn₃, hk₃, v', ⟨t, rfl⟩, hv⟩
    exact ⟨h₃, tk₃, m₃, e, hn₃, hk₃, t, hv⟩
theorem csrc_str {elt iter : Expr} {ifs : List Expr} {x : Str} {px : Pos} {scope : Scope} {cl : List (Str × Addr)} {pos : Pos} {RR : Value → Addr → Result → Shared → Prop} {news : List (Addr × Obj)} {p : List Nat} {tx : Tok} (G : Nat → Option Value → Prop)
    (hh : A.handled = none) (hcell : ∀ y ∈ scope.names, y.2 ≠ .cell) (hkind : scope.kind = .function) (hx : scope.names.lookup x = some .local) (F : Fr h₀ L s.heap m) (N : News h₀ L s.heap news) (hsz : p.length ≤ sizeLine)
    (turn : ∀ i, i < p.length → CTurn prog w A h₀ L m env elt ifs scope cl s news (fun m₃ => ∃ c t, p[i]? = some c ∧ m₃ x = some (.str (S [c]) t)) (G i))
    (fin : CFin h₀ L m s p.length G news RR) :
    wpAny (model prog w) A (pyIter (.str (S p) tx)) (fun it s₂ => CBlock prog w A E env elt (.Name x px) iter ifs scope cl pos RR it s₂) E s := by
  have hs1 : (S p).cps.size = p.length := by simp [S]
  have hb := bind_name (prog := prog) (w := w) (A := A) (env := env) (h₀ := h₀) (L := L) (m := m) (cl := cl) (px := px) (P := SignAt (S p)) (s₂ := s) (news := news) hkind hx
  have key : ∀ (o : Obj) (St : Nat → Heap → Prop), Walks prog w A s.heap.objs.size [s.heap.objs.size] [s.heap.objs.size] (S p).cps.size (SignAt (S p)) St → St 0 (s.heap.push o) → (∀ i h, St i h → ∃ o, h.get? s.heap.objs.size = some o) →
      CBlock prog w A E env elt (.Name x px) iter ifs scope cl pos RR (.ref s.heap.objs.size) { s with heap := s.heap.push o } := by
    intro o St W hst hst0
    rw [hs1] at W
    refine comp_block (fun i m₃ => ∃ c t, p[i]? = some c ∧ m₃ x = some (.str (S [c]) t)) G W hsz hst0 ?_ ?_ hcell hkind hst (fun b hb => ?_)
      (F.keeps fun _ _ e => Heap.get?_push_of_some _ e) (N.grown fun _ _ e => Heap.get?_push_of_some _ e) (Nat.ne_of_lt F.ns.lt) (next_is_new F) (fun p hp => Nat.ne_of_lt (Heap.lt_size (N p hp).1)) ?_ turn fin
    · intro i h h' o st e e' _ _
      refine W.frame i h h' st fun b hb o' ho' => ?_
      rw [List.mem_singleton.mp hb] at ho' ⊢
      rw [e] at ho'; cases ho'; exact e'
    · intro i v s' Q E' _ _ hQ
      exact wpAny_pure hQ
    · rw [List.mem_singleton.mp hb]
      show s.heap.objs.size < (s.heap.push _).objs.size
      rw [Heap.size_push]; exact Nat.lt_succ_self _
    · intro i v C h tk m' E' hP h1 h2 h3 h4 h5 h6
      refine wpAny_mono (hb i v C h tk m' E' hP h1 h2 h3 h4 h5 h6) ?_ fun _ _ e => e
      rintro _ s₃ ⟨h₃, tk₃, m₃, e, hn₃, hk₃, v', ⟨c, u, hc, rfl⟩, hv⟩
      exact ⟨h₃, tk₃, m₃, e, hn₃, hk₃, c, u, by simpa [S] using hc, hv⟩
  cases ha : (S p).cps.all (· < 128)
  · exact wpAny_pyIter_wide ha (key _ _ (Walks.strWide hh _ (S p) tx) ⟨_, Heap.get?_push_size _ rfl, rfl, rfl⟩ (fun i h st => by obtain ⟨o, e, _⟩ := st; exact ⟨o, e⟩))
  · exact wpAny_pyIter_ascii ha (key _ _ (Walks.strAscii hh _ (S p) tx) ⟨_, Heap.get?_push_size _ rfl, rfl, rfl⟩ (fun i h st => by obtain ⟨o, e, _⟩ := st; exact ⟨o, e⟩))
/-- over ints of a list of the ledger -/
theorem csrc_ints {elt iter : Expr} {ifs : List Expr} {x : Str} {px : Pos} {scope : Scope} {cl : List (Str × Addr)} {pos : Pos} {RR : Value → Addr → Result → Shared → Prop} {news : List (Addr × Obj)} {ax : Addr} {vs : List Value} {ns : List Int} {c : Nat} (G : Nat → Option Value → Prop)
    (hh : A.handled = none) (hcell : ∀ y ∈ scope.names, y.2 ≠ .cell) (hkind : scope.kind = .function) (hx : scope.names.lookup x = some .local) (F : Fr h₀ L s.heap m) (N : News h₀ L s.heap news) (hm : (ax, W.listOf vs.toArray c) ∈ news) (hi : IntsAre vs ns) (hsz : ns.length ≤ sizeLine)
    (turn : ∀ i k, ns[i]? = some k → CTurn prog w A h₀ L m env elt ifs scope cl s news (fun m₃ => ∃ t, m₃ x = some (.int k t)) (G i))
    (fin : CFin h₀ L m s ns.length G news RR) :
    wpAny (model prog w) A (pyIter (.ref ax)) (fun it s₂ => CBlock prog w A E env elt (.Name x px) iter ifs scope cl pos RR it s₂) E s := by
  have hl : vs.length = ns.length := hi.length
  rw [← hl] at fin hsz
  refine csrc_list (fun i m₃ => ∃ k t, ns[i]? = some k ∧ m₃ x = some (.int k t)) G hh hcell hkind F N hm hsz ?_ ?_ ?_ fin
  · intro I i v s' Q E' _ _ hq
    exact wpAny_pure hq
  · intro i v C h tk m' E' hP h1 h2 h3 h4 h5 h6
    refine wpAny_mono (bind_name (P := fun i v => vs[i]? = some v) hkind hx i v C h tk m' E' hP h1 h2 h3 h4 h5 h6) ?_ fun _ _ e => e
    rintro _ s₃ ⟨h₃, tk₃, m₃, e, hn₃, hk₃, v', hv', hv⟩
    have hlt : i < ns.length := by rw [← hl]; exact (List.getElem?_eq_some_iff.mp hv').1
    obtain ⟨t, ht⟩ := hi.get i ns[i] (by simp [hlt])
    rw [hv'] at ht
    cases ht
    exact ⟨h₃, tk₃, m₃, e, hn₃, hk₃, ns[i], t, by simp [hlt], hv⟩
  · intro i hi' I oI C oC D oD m₃ h tk E' hB
    obtain ⟨k, t, hk, hv⟩ := hB
    exact turn i k hk I oI C oC D oD m₃ h tk E' ⟨t, hv⟩
end comp
theorem gs_texts : ∀ {gs : List (Option Value)}, (∀ (j : Nat) (g : Option Value), gs[j]? = some g → ∃ (c : Nat) (t : Tok), g = some (Value.str (S [c]) t)) → ∃ cs : List Nat, cs.length = gs.length ∧ StrsAre (gs.filterMap id) ((cs.map fun c => [c]).map S)
  | [], _ => ⟨[], rfl, .nil⟩
  | g :: gs, k => by
    obtain ⟨c, t, e⟩ := k 0 g rfl
    subst e
    obtain ⟨cs, e1, e2⟩ := gs_texts (gs := gs) fun j g hj => k (j + 1) g (by simpa using hj)
    exact ⟨c :: cs, by simp [e1], .cons _ t e2⟩
theorem flat_ones (cs : List Nat) : (cs.map fun c => [c]).flatten = cs := by
  induction cs with
  | nil => rfl
  | cons c cs ih => simp [ih]
end Mine
end

section
open PySem PySem.W PyProof.Rows
namespace Mine
def sepIx (p sep alt : List Nat) : Int := if alt = [] then rf p sep else if rf p alt > rf p sep then rf p alt else rf p sep
/-- a place from lo on ahead of hi holds a sign that isn't ext -/
def Seen (p ext : List Nat) (lo hi : Int) : Prop := ∃ k : Nat, lo ≤ k ∧ (k : Int) < hi ∧ (p.drop k).take 1 ≠ ext
open Classical in
noncomputable def spl (p sep alt ext : List Nat) : List Nat × List Nat :=
  if sepIx p sep alt < rf p ext ∧ Seen p ext (sepIx p sep alt + 1) (rf p ext) then (p.take (rf p ext).toNat, p.drop (rf p ext).toNat) else (p, [])

theorem at_one (p : List Nat) (c i : Nat) : At p [c] i ↔ p[i]? = some c := by
  unfold At
  constructor
  · rintro ⟨h1, h2⟩
    have hi : i < p.length := by simp at h1; omega
    rw [List.drop_eq_getElem_cons hi, List.length_singleton, List.take_succ_cons] at h2
    have h3 : p[i] = c := (List.cons.inj h2).1
    rw [List.getElem?_eq_getElem hi, h3]
  · intro h
    obtain ⟨hi, e⟩ := List.getElem?_eq_some_iff.mp h
    refine ⟨by simp; omega, ?_⟩
    rw [List.drop_eq_getElem_cons hi]
    simp [e]
theorem rf_one (p : List Nat) (c : Nat) : (rf p [c] = -1 ∧ ∀ i : Nat, p[i]? ≠ some c) ∨ ∃ i : Nat, rf p [c] = (i : Int) ∧ p[i]? = some c ∧ ∀ k : Nat, i < k → p[k]? ≠ some c := by
  have h := rf_spec p [c]
  simp only [at_one] at h
  exact h
/-- one sign or none as altsep -/
def OneAlt (alt : List Nat) : Prop := alt = [] ∨ ∃ b, alt = [b]
theorem sepIx_spec {p alt : List Nat} {a : Nat} (ha : OneAlt alt) : (sepIx p [a] alt = -1 ∧ ∀ (i c : Nat), p[i]? = some c → c ∉ a :: alt) ∨
    ∃ i : Nat, sepIx p [a] alt = (i : Int) ∧ (∃ c ∈ a :: alt, p[i]? = some c) ∧ ∀ (k c : Nat), i < k → p[k]? = some c → c ∉ a :: alt := by
  rcases ha with rfl | ⟨b, rfl⟩
  · have e : sepIx p [a] [] = rf p [a] := by simp [sepIx]
    rw [e]
    rcases rf_one p a with ⟨h1, h2⟩ | ⟨i, h1, h2, h3⟩
    · exact .inl ⟨h1, fun i c hc hm => by have : c = a := by simpa using hm
                                          subst this; exact h2 i hc⟩
    · exact .inr ⟨i, h1, ⟨a, by simp, h2⟩, fun k c hk hc hm => by have : c = a := by simpa using hm
                                                                  subst this; exact h3 k hk hc⟩
  · have e : sepIx p [a] [b] = if rf p [b] > rf p [a] then rf p [b] else rf p [a] := by simp [sepIx]
    rw [e]
    rcases rf_one p a with ⟨h1, h2⟩ | ⟨i, h1, h2, h3⟩ <;> rcases rf_one p b with ⟨g1, g2⟩ | ⟨j, g1, g2, g3⟩
    · left
      refine ⟨by rw [h1, g1]; simp, fun i c hc hm => ?_⟩
      have : c = a ∨ c = b := by simpa using hm
      rcases this with rfl | rfl
      · exact h2 i hc
      · exact g2 i hc
    · right
      refine ⟨j, by rw [h1, g1, if_pos (by omega)], ⟨b, by simp, g2⟩, fun k c hk hc hm => ?_⟩
      have : c = a ∨ c = b := by simpa using hm
      rcases this with rfl | rfl
      · exact h2 k hc
      · exact g3 k hk hc
    · right
      refine ⟨i, by rw [h1, g1, if_neg (by omega)], ⟨a, by simp, h2⟩, fun k c hk hc hm => ?_⟩
      have : c = a ∨ c = b := by simpa using hm
      rcases this with rfl | rfl
      · exact h3 k hk hc
      · exact g2 k hc
    · right
      by_cases hij : (j : Int) > (i : Int)
      · refine ⟨j, by rw [h1, g1, if_pos hij], ⟨b, by simp, g2⟩, fun k c hk hc hm => ?_⟩
        have : c = a ∨ c = b := by simpa using hm
        rcases this with rfl | rfl
        · exact h3 k (by omega) hc
        · exact g3 k hk hc
      · refine ⟨i, by rw [h1, g1, if_neg hij], ⟨a, by simp, h2⟩, fun k c hk hc hm => ?_⟩
        have : c = a ∨ c = b := by simpa using hm
        rcases this with rfl | rfl
        · exact h3 k hk hc
        · exact g3 k (by omega) hc
/-- a text that ends with a separator, or is empty -/
def EndsSep (seps pre : List Nat) : Prop := pre = [] ∨ ∃ p c, pre = p ++ [c] ∧ c ∈ seps
theorem sepIx_at {pre q alt : List Nat} {a : Nat} (ha : OneAlt alt) (hpre : EndsSep (a :: alt) pre) (hq : ∀ c ∈ q, c ∉ a :: alt) : sepIx (pre ++ q) [a] alt + 1 = pre.length := by
  rcases sepIx_spec (p := pre ++ q) (a := a) ha with ⟨h1, h2⟩ | ⟨i, h1, ⟨c, hc, hi⟩, h3⟩
  · rcases hpre with rfl | ⟨p, c, rfl, hc⟩
    · rw [h1]; simp
    · exact absurd hc (h2 p.length c (by simp))
  · rw [h1]
    have hlt : i < pre.length := by
      rcases Nat.lt_or_ge i pre.length with h | h
      · exact h
      · rw [List.getElem?_append_right h] at hi
        exact absurd hc (hq c (List.mem_of_getElem? hi))
    rcases hpre with rfl | ⟨p, c', rfl, hc'⟩
    · simp at hlt
    · simp at hlt
      rcases Nat.lt_or_ge i p.length with h | h
      · exact absurd hc' (h3 p.length c' h (by simp))
      · have : i = p.length := by omega
        simp [this]
/-- the ending comes off -/
theorem spl_cut {pre q v alt : List Nat} {a e : Nat} (ha : OneAlt alt) (he : e ∉ a :: alt) (hpre : EndsSep (a :: alt) pre) (hq : ∀ c ∈ q, c ∉ a :: alt) (hv : ∀ c ∈ v, c ∉ a :: alt) (hve : e ∉ v) (hs : ∃ c ∈ q, c ≠ e) :
    spl (pre ++ (q ++ e :: v)) [a] alt [e] = (pre ++ q, e :: v) := by
  have hI := sepIx_at (pre := pre) (q := q ++ e :: v) ha hpre (by
    intro c hc
    rcases List.mem_append.mp hc with hc | hc
    · exact hq c hc
    · rcases List.mem_cons.mp hc with rfl | hc
      · exact he
      · exact hv c hc)
  have hD : rf (pre ++ (q ++ e :: v)) [e] = ((pre ++ q).length : Int) := by
    rcases rf_one (pre ++ (q ++ e :: v)) e with ⟨h1, h2⟩ | ⟨i, h1, h2, h3⟩
    · exact absurd (by rw [← List.append_assoc]; simp) (h2 (pre ++ q).length)
    · rw [h1]
      rcases Nat.lt_trichotomy i (pre ++ q).length with h | h | h
      · exact absurd (by rw [← List.append_assoc]; simp) (h3 (pre ++ q).length h)
      · rw [h]
      · exfalso
        rw [← List.append_assoc, List.getElem?_append_right (Nat.le_of_lt h)] at h2
        obtain ⟨j, hj⟩ : ∃ j, i - (pre ++ q).length = j + 1 := ⟨i - (pre ++ q).length - 1, by omega⟩
        rw [hj, List.getElem?_cons_succ] at h2
        exact hve (List.mem_of_getElem? h2)
  obtain ⟨c, hc, hce⟩ := hs
  obtain ⟨j, hj⟩ := List.mem_iff_getElem?.mp hc
  have hjl : j < q.length := (List.getElem?_eq_some_iff.mp hj).1
  unfold spl
  rw [if_pos]
  · rw [hD, Int.toNat_natCast, ← List.append_assoc, List.take_left, List.drop_left]
  · refine ⟨by rw [hD]; simp only [List.length_append] at *; omega, pre.length + j, by omega, by rw [hD]; simp; omega, ?_⟩
    have e1 : (pre ++ (q ++ e :: v)).drop (pre.length + j) = (q ++ e :: v).drop j := by
      rw [List.drop_append]; simp
    rw [e1, List.drop_append_of_le_length (by omega), List.drop_eq_getElem_cons hjl]
    have e2 : q[j] = c := by
      have := List.getElem?_eq_getElem hjl
      rw [this] at hj; simpa using hj
    simp [e2, hce]
/-- nothing but full stops ahead of the last one -/
theorem spl_stuck {pre q v alt : List Nat} {a e : Nat} (ha : OneAlt alt) (he : e ∉ a :: alt) (hpre : EndsSep (a :: alt) pre) (hv : ∀ c ∈ v, c ∉ a :: alt) (hve : e ∉ v) (hs : ∀ c ∈ q, c = e) :
    spl (pre ++ (q ++ e :: v)) [a] alt [e] = (pre ++ (q ++ e :: v), []) := by
  have hI := sepIx_at (pre := pre) (q := q ++ e :: v) ha hpre (by
    intro c hc
    rcases List.mem_append.mp hc with hc | hc
    · rw [hs c hc]; exact he
    · rcases List.mem_cons.mp hc with rfl | hc
      · exact he
      · exact hv c hc)
  unfold spl
  rw [if_neg]
  rintro ⟨_, k, hk1, hk2, hk3⟩
  have hD : rf (pre ++ (q ++ e :: v)) [e] ≤ ((pre ++ q).length : Int) := by
    rcases rf_one (pre ++ (q ++ e :: v)) e with ⟨h1, h2⟩ | ⟨i, h1, h2, h3⟩
    · rw [h1]; omega
    · rw [h1]
      rcases Nat.lt_or_ge (pre ++ q).length i with h | h
      · exfalso
        rw [← List.append_assoc, List.getElem?_append_right (Nat.le_of_lt h)] at h2
        obtain ⟨j, hj⟩ : ∃ j, i - (pre ++ q).length = j + 1 := ⟨i - (pre ++ q).length - 1, by omega⟩
        rw [hj, List.getElem?_cons_succ] at h2
        exact hve (List.mem_of_getElem? h2)
      · omega
  have hkl : k < (pre ++ q).length := by omega
  have hkp : pre.length ≤ k := by omega
  refine hk3 ?_
  obtain ⟨j, rfl⟩ : ∃ j, k = pre.length + j := ⟨k - pre.length, by omega⟩
  have hjl : j < q.length := by rw [List.length_append] at hkl; omega
  have e1 : (pre ++ (q ++ e :: v)).drop (pre.length + j) = (q ++ e :: v).drop j := by
    rw [List.drop_append]; simp
  rw [e1, List.drop_append_of_le_length (by omega), List.drop_eq_getElem_cons hjl]
  simp [hs q[j] (List.getElem_mem hjl)]
/-- no full stop in the last name -/
theorem spl_none {pre v alt : List Nat} {a e : Nat} (ha : OneAlt alt) (hpre : EndsSep (a :: alt) pre) (hv : ∀ c ∈ v, c ∉ a :: alt) (hve : e ∉ v) :
    spl (pre ++ v) [a] alt [e] = (pre ++ v, []) := by
  have hI := sepIx_at (pre := pre) (q := v) ha hpre hv
  unfold spl
  rw [if_neg]
  rintro ⟨h, _⟩
  rcases rf_one (pre ++ v) e with ⟨h1, h2⟩ | ⟨i, h1, h2, h3⟩
  · omega
  · have hi : pre.length ≤ i := by omega
    rw [List.getElem?_append_right hi] at h2
    exact hve (List.mem_of_getElem? h2)
end Mine
end

section
open PySem PySem.W PyProof.Rows
namespace Mine
section
variable {prog : Program} {w : World} {A : Around} {E : Value → Shared → Prop} {s : Shared} {h₀ : Heap} {L : Addr} {all : List (Addr × Obj)} {Q : Value → Shared → Prop}
/-- a tuple of two texts -/
abbrev tup2 (a b : List Nat) (t u : Tok) : Obj := { cls := .type "tuple", data := .seq #[.str (S a) t, .str (S b) u] }
theorem tup_items {a : Addr} {x y : List Nat} {t u : Tok} (N : News h₀ L s.heap all) (ha : (a, tup2 x y t u) ∈ all) : s.heap.IsTuple a #[.str (S x) t, .str (S y) u] := ⟨_, (N _ ha).1, rfl, _, rfl⟩
theorem tup_each {x y x' y' : List Nat} {t u t' u' : Tok} : ∀ (j : Nat) (h1 : j < (#[.str (S x) t, .str (S y) u] : Array Value).size) (h2 : j < (#[.str (S x') t', .str (S y') u'] : Array Value).size),
    SeqAt.EqAt A s ((#[.str (S x) t, .str (S y) u] : Array Value)[j]) ((#[.str (S x') t', .str (S y') u'] : Array Value)[j]) (if j = 0 then decide (x = x') else decide (y = y'))
  | 0, _, _ => by
    have h := (SeqRoads2.EqGives.str (S x) (S x') t t').at A s
    rw [S_cps, S_cps] at h
    have e : (x == x') = decide (x = x') := by by_cases h : x = x' <;> simp [h]
    rw [e] at h
    exact h
  | 1, _, _ => by
    have h := (SeqRoads2.EqGives.str (S y) (S y') u u').at A s
    rw [S_cps, S_cps] at h
    have e : (y == y') = decide (y = y') := by by_cases h : y = y' <;> simp [h]
    rw [e] at h
    exact h
  | n + 2, h, _ => absurd h (by simp)
theorem tup_all {x y x' y' : List Nat} {t u t' u' : Tok} : ((List.range (min (#[.str (S x) t, .str (S y) u] : Array Value).size (#[.str (S x') t', .str (S y') u'] : Array Value).size)).all (fun j => if j = 0 then decide (x = x') else decide (y = y')) && (#[.str (S x) t, .str (S y) u] : Array Value).size == (#[.str (S x') t', .str (S y') u'] : Array Value).size) = decide (x = x' ∧ y = y') := by
  show ((List.range 2).all _ && true) = _
  rw [show List.range 2 = [0, 1] from rfl]
  by_cases h1 : x = x' <;> by_cases h2 : y = y' <;> simp [h1, h2]
theorem ne_tup2 {a b : Addr} {x y x' y' : List Nat} {t u t' u' : Tok} (N : News h₀ L s.heap all) (ha : (a, tup2 x y t u) ∈ all) (hb : (b, tup2 x' y' t' u') ∈ all) (hu : A.units < cLine)
    (h : Q (.bool (!decide (x = x' ∧ y = y'))) s) : wpAny (model prog w) A (compareOp .NotEq (.ref a) (.ref b)) Q E s := by
  refine cmp_ofNotEq (SeqAt.RcNeAt.tuples (tup_items N ha) (tup_items N hb) hu tup_each prog w E Q ?_)
  rw [tup_all]; exact h
theorem eq_tup2 {a b : Addr} {x y x' y' : List Nat} {t u t' u' : Tok} (N : News h₀ L s.heap all) (ha : (a, tup2 x y t u) ∈ all) (hb : (b, tup2 x' y' t' u') ∈ all) (hu : A.units < cLine)
    (h : Q (.bool (decide (x = x' ∧ y = y'))) s) : wpAny (model prog w) A (compareOp .Eq (.ref a) (.ref b)) Q E s := by
  refine cmp_ofEq (SeqAt.RcAt.tuples (tup_items N ha) (tup_items N hb) hu tup_each prog w E Q ?_)
  rw [tup_all]; exact h
end
end Mine
end

section
open PySem PySem.W PyProof.Rows PySem.Calls
namespace Mine
open Builtin
theorem slot_bytes_rfind : Slot "bytes" "rfind" "bytes.rfind" :=
  .of (owner := "bytes") (n := "rfind") (by rw [typeLookup_type, builtinLookup_eq_fast]; kernel_rfl) (by decide +kernel) (by decide +kernel) (by decide +kernel)
    (by first | exact .inl (by decide +kernel) | exact .inr (by decide +kernel)) (by rw [isSubtype_type]; kernel_rfl)
theorem type_bytes_rfind : typeOf (.builtin "bytes.rfind") = pure (.type "method_descriptor") := by show builtinType _ = _; rw [builtinType_eq_fast]; kernel_rfl
theorem entry_bytes_rfind : entryFor table "bytes.rfind" = some Builtin.«bytes.rfind» := entryFor_of_tree (by kernel_rfl)
theorem args_bytes_rfind_2 (a b : Value) : argsOk "bytes.rfind" ⟨[a, b], []⟩ := by
  unfold argsOk; rw [signature?_of (id := "bytes.rfind") (n := ['d', 'n', 'i', 'f', 'r']) (o := ['s', 'e', 't', 'y', 'b']) (by kernel_rfl) FB.owner_bytes]; kernel_rfl
/-- the last place of the octets, or -1 -/
def rfB (b y : Array UInt8) : Int := match (if (b.size : Int) - 0 < y.size then none else some (0, b.size) : Option (Nat × Nat)).bind fun p => Bytes.rfind? b y p.1 p.2 with
  | some i => i
  | none => -1
theorem args_wp {prog : Program} {w : World} {A : Around} {E : Value → Shared → Prop} {s : Shared} {b y : Array UInt8} {t u : Tok} {Q : Array UInt8 × Array UInt8 × Option (Nat × Nat) → Shared → Prop} (h : Q (b, y, if (b.size : Int) - 0 < y.size then none else some (0, b.size)) s) :
    wpAny (model prog w) A (Bytes.searchArgs .bytes "rfind" ⟨[.bytes b t, .bytes y u], []⟩) Q E s := by
  unfold Bytes.searchArgs
  refine wpAny_bind (wpAny_of_eq (show selfAndSome _ _ 1 3 _ = pure (Value.bytes b t, [Value.bytes y u]) from by kernel_rfl) ?_)
  refine wpAny_bind (wpAny_of_eq (show Bytes.bound? _ = pure none from rfl) ?_)
  refine wpAny_bind (wpAny_of_eq (show Bytes.bound? _ = pure none from rfl) ?_)
  dsimp only
  refine wpAny_bind (wpAny_of_eq KBy.buffer_eq ?_)
  dsimp only
  refine wpAny_bind (wpAny_pure ?_)
  refine wpAny_bind (wpAny_of_eq (show Bytes.payload _ = pure b from rfl) ?_)
  refine wpAny_pure ?_
  have e : Bytes.window b.size none none = (0, (b.size : Int)) := by
    simp [Bytes.window]; omega
  rw [e]
  simpa using h
theorem meets_rfind {b y : Array UInt8} {t u : Tok} : Meets («bytes.rfind» ⟨[.bytes b t, .bytes y u], []⟩) (fun _ R s => ∀ t' k, R (.ok (.ret (.int (rfB b y) t'))) { s with toks := k }) := by
  refine .of_wp fun prog w A R s h => ?_
  show wpAny _ _ (Bytes.searchM .bytes "rfind" true false _) _ _ s
  unfold Bytes.searchM
  refine wpAny_bind (args_wp ?_)
  dsimp only
  unfold rfB at h
  generalize (if (b.size : Int) - 0 < y.size then none else some (0, b.size) : Option (Nat × Nat)) = o at h ⊢
  cases hc : o.bind (fun p => Bytes.rfind? b y p.1 p.2) with
  | some i =>
    rw [hc] at h
    have hc' : (o.bind fun x => if true = true then Bytes.rfind? b y x.1 x.2 else Bytes.find? b y x.1 x.2) = some i := by simpa using hc
    rw [hc']
    exact wpAny_bind (wpAny_mkInt (wpAny_pure ⟨_, rfl, h _ _⟩))
  | none =>
    rw [hc] at h
    have hc' : (o.bind fun x => if true = true then Bytes.rfind? b y x.1 x.2 else Bytes.find? b y x.1 x.2) = none := by simpa using hc
    rw [hc']
    refine wpAny_bind (wpAny_rule ?_)
    rw [if_neg (by decide)]
    exact wpAny_bind (wpAny_mkInt (wpAny_pure ⟨_, rfl, h _ _⟩))
theorem rfind_B {prog : Program} {w : World} {A : Around} {E : Value → Shared → Prop} {s : Shared} {b y : Array UInt8} {t u : Tok} {Q : Value → Shared → Prop} (h : ∀ t' k, Q (.int (rfB b y) t') { s with toks := k }) :
    wpAny (model prog w) A (call (.builtin "bytes.rfind") [.bytes b t, .bytes y u]) Q E s :=
  call_meets slot_bytes_rfind (typeIs_bytes _ _ _) entry_bytes_rfind (args_bytes_rfind_2 _ _) meets_rfind h
theorem method_rfind {M : Model} {A : Around} {E : Value → Shared → Prop} {s : Shared} {b : Array UInt8} {t : Tok} {pl : Sem Bool} {Q : Value × List Value → Shared → Prop} (h : Q (.builtin "bytes.rfind", [.bytes b t]) s) : wpAny M A (getMethod (.bytes b t) "rfind" pl) Q E s := by
  with_reducible exact KBd.method_of (.bytes b t) (typeIs_bytes _ _ _) slot_bytes_rfind type_bytes_rfind KBd.noRef h
/-- octets by their numbers -/
def O (l : List Nat) : Array UInt8 := (l.map UInt8.ofNat).toArray
def Small (l : List Nat) : Prop := ∀ c ∈ l, c < 256
theorem Small.take {l : List Nat} (h : Small l) (n : Nat) : Small (l.take n) := fun c hc => h c (List.mem_of_mem_take hc)
theorem Small.drop {l : List Nat} (h : Small l) (n : Nat) : Small (l.drop n) := fun c hc => h c (List.mem_of_mem_drop hc)
theorem O_size (l : List Nat) : (O l).size = l.length := by simp [O]
theorem u8_inj {a b : Nat} (ha : a < 256) (hb : b < 256) (h : UInt8.ofNat a = UInt8.ofNat b) : a = b := by
  have h1 := congrArg UInt8.toNat h
  simp at h1
  omega
theorem O_inj {a b : List Nat} (ha : Small a) (hb : Small b) : O a = O b ↔ a = b := by
  constructor
  · intro h
    have h1 : a.map UInt8.ofNat = b.map UInt8.ofNat := by simpa [O] using congrArg Array.toList h
    clear h
    induction a generalizing b with
    | nil => cases b with
      | nil => rfl
      | cons => cases h1
    | cons x a ih => cases b with
      | nil => cases h1
      | cons y b =>
        simp only [List.map_cons, List.cons.injEq] at h1
        rw [u8_inj (ha x (by simp)) (hb y (by simp)) h1.1, ih (fun c hc => ha c (by simp [hc])) (fun c hc => hb c (by simp [hc])) h1.2]
  · rintro rfl; rfl
theorem O_extract (p : List Nat) (i n : Nat) : (O p).extract i (i + n) = O ((p.drop i).take n) := by
  apply Array.toList_inj.mp
  simp [O, List.map_take, List.map_drop]
theorem rfB_O {p y : List Nat} (hp : Small p) (hy : Small y) : rfB (O p) (O y) = rf p y := by
  unfold rfB
  rw [O_size, O_size]
  have hat : ∀ i, ((O p).extract i (i + (O y).size) == O y) = true ↔ (p.drop i).take y.length = y := by
    intro i
    rw [beq_iff_eq, O_size, O_extract, O_inj ((hp.drop i).take _) hy]
  by_cases hs : ((p.length : Int) - 0 < y.length)
  · rw [if_pos hs]
    show (-1 : Int) = _
    rcases rf_spec p y with ⟨h, _⟩ | ⟨i, h, h1, _⟩
    · exact h.symm
    · have := h1.1; omega
  · rw [if_neg hs]
    show (match Bytes.rfind? (O p) (O y) 0 p.length with | some i => (i : Int) | none => -1) = _
    cases hf : Bytes.rfind? (O p) (O y) 0 p.length with
    | none =>
      unfold Bytes.rfind? at hf
      rw [List.find?_eq_none] at hf
      rcases rf_spec p y with ⟨h, _⟩ | ⟨i, h, h1, _⟩
      · exact h.symm
      · refine absurd ((hat i).mpr h1.2) (hf i ?_)
        have := h1.1
        simp [O_size]; omega
    | some i =>
      unfold Bytes.rfind? at hf
      have h1 := List.find?_some hf
      have h2 := List.mem_of_find?_eq_some hf
      have hi : i + y.length ≤ p.length := by
        simp [O_size] at h2; omega
      have hA : At p y i := ⟨hi, (hat i).mp h1⟩
      rcases rf_spec p y with ⟨_, h⟩ | ⟨j, h, h3, h4⟩
      · exact absurd hA (h i)
      · rw [h]
        rcases Nat.lt_trichotomy i j with hij | hij | hij
        · exfalso
          rw [List.find?_eq_some_iff_append] at hf
          obtain ⟨_, as, bs, e, hn⟩ := hf
          have hm : j ∈ as ++ i :: bs := by
            rw [← e]
            have := h3.1
            simp [O_size]; omega
          have hpw : (as ++ i :: bs).Pairwise (fun a b => b < a) := by
            rw [← e, List.pairwise_reverse]
            simp [List.pairwise_lt_range]
          rcases List.mem_append.mp hm with hm | hm
          · have := hn j hm
            rw [(hat j).mpr h3.2] at this
            cases this
          · rcases List.mem_cons.mp hm with rfl | hm
            · omega
            · have h5 := (List.pairwise_append.mp hpw).2.1
              have := (List.pairwise_cons.mp h5).1 j hm
              omega
        · show (i : Int) = j; rw [hij]
        · exact absurd hA (h4 i hij)
end Mine
end

section
open PySem PySem.W PyProof.Rows PySem.Calls
namespace Mine
theorem bInts_O {p : List Nat} (hp : Small p) : KBw.bInts (O p) = p.map fun (c : Nat) => (c : Int) := by
  unfold KBw.bInts O
  rw [List.map_map]
  apply List.map_congr_left
  intro c hc
  have := hp c hc
  simp; omega
theorem bInts_inj {b c : Array UInt8} (h : KBw.bInts b = KBw.bInts c) : b = c := by
  apply Array.toList_inj.mp
  unfold KBw.bInts at h
  generalize b.toList = l at h
  generalize c.toList = l' at h
  induction l generalizing l' with
  | nil => cases l' with
    | nil => rfl
    | cons => cases h
  | cons x l ih => cases l' with
    | nil => cases h
    | cons y l' =>
      simp only [List.map_cons, List.cons.injEq] at h
      have h1 : x.toNat = y.toNat := by exact_mod_cast h.1
      rw [UInt8.toNat_inj.mp h1, ih l' h.2]
section
variable {prog : Program} {w : World} {A : Around} {E : Value → Shared → Prop} {s : Shared} {p y : List Nat} {t u : Tok}
theorem len_O {Q : Value → Shared → Prop} (hp : p.length ≤ 1000000) (h : ∀ t' k, Q (.int p.length t') { s with toks := k }) : wpAny (model prog w) A (call (.builtin "len") [.bytes (O p) t]) Q E s := by
  refine len_bytes (by rw [O_size]; omega) ?_
  rw [O_size]; exact h _ _
theorem truthy_O {Q : Bool → Shared → Prop} (hp : p.length ≤ 1000000) (h : ∀ k, Q (decide (p ≠ [])) { s with toks := k }) : wpAny (model prog w) A (truthy (.bytes (O p) t)) Q E s := by
  refine truthy_bytes (by rw [O_size]; omega) ?_
  rw [O_size]
  have e : ((p.length : Int) != 0) = decide (p ≠ []) := by cases p <;> simp; omega
  rw [e]; exact h _
theorem eq_O {Q : Value → Shared → Prop} (hp : Small p) (hy : Small y) (h : Q (.bool (decide (p = y))) s) : wpAny (model prog w) A (compareOp .Eq (.bytes (O p) t) (.bytes (O y) u)) Q E s := by
  refine eq_bytes ?_
  have e : ((O p).toList == (O y).toList) = decide (p = y) := by
    rw [Bool.eq_iff_iff, beq_iff_eq, decide_eq_true_eq, Array.toList_inj, O_inj hp hy]
  rw [e]; exact h
theorem ne_O {Q : Value → Shared → Prop} (hp : Small p) (hy : Small y) (h : Q (.bool (!decide (p = y))) s) : wpAny (model prog w) A (compareOp .NotEq (.bytes (O p) t) (.bytes (O y) u)) Q E s := by
  refine ne_bytes ?_
  have e : ((O p).toList != (O y).toList) = !decide (p = y) := by
    rw [bne, Bool.eq_iff_iff]; simp [Array.toList_inj, O_inj hp hy]
  rw [e]; exact h
theorem rfind_O {Q : Value → Shared → Prop} (hp : Small p) (hy : Small y) (h : ∀ t' k, Q (.int (rf p y) t') { s with toks := k }) : wpAny (model prog w) A (call (.builtin "bytes.rfind") [.bytes (O p) t, .bytes (O y) u]) Q E s :=
  rfind_B fun t' k => by rw [rfB_O hp hy]; exact h t' k
/-- a slice of octets -/
theorem slice_O {value slice : Expr} {h₀ : Heap} {L : Addr} {m : Str → Option Value} {news : List (Addr × Obj)} {l v : Value} {lo hi : Option Int} {Q : Value → Shared → Prop} (hF : Fr h₀ L s.heap m) (hN : News h₀ L s.heap news) (hp : Small p) (hl : IsPart l lo) (hv : IsPart v hi) (hz : p.length ≤ 1000000)
    (h : ∀ h' t' k, Fr h₀ L h' m → News h₀ L h' news → Q (.bytes (O ((p.drop (lo.elim 0 (clipAt p.length))).take (hi.elim p.length (clipAt p.length) - lo.elim 0 (clipAt p.length)))) t') { s with heap := h', toks := k })
    (hs : subscripted slice false (.bytes (O p) t) (.ref s.heap.objs.size) = operate [.ref s.heap.objs.size, .bytes (O p) t] (getItem (.bytes (O p) t) (.ref s.heap.objs.size)))
    (ht : ∀ r, letTemporaryGo value (.bytes (O p) t) r = pure ()) :
    wpAny (model prog w) A (subscriptTail value slice (.bytes (O p) t) (.ref s.heap.objs.size)) Q E { s with heap := s.heap.push { cls := .type "slice", data := .fields #[l, v, .none] } } := by
  refine KBc.slice_K hF hN (bInts_O hp) hl hv (by rw [List.length_map]; omega) ?_ hs ht
  intro h' t' k F' N' e
  rw [List.length_map] at e
  have e2 : KBy.picked (O p) lo hi = O ((p.drop (lo.elim 0 (clipAt p.length))).take (hi.elim p.length (clipAt p.length) - lo.elim 0 (clipAt p.length))) := by
    apply bInts_inj
    rw [e, bInts_O ((hp.drop _).take _), List.map_take, List.map_drop]
  rw [e2]
  exact h h' t' k F' N'
theorem make_O {h₀ : Heap} {L D : Addr} {m : Str → Option Value} {news : List (Addr × Obj)} {vs : List Value} {n : Nat} {Q : Value → Shared → Prop} (F : Fr h₀ L s.heap m) (N : News h₀ L s.heap news) (hh : A.handled = none) (hm : (D, W.listOf vs.toArray n) ∈ news) (hi : IntsAre vs (p.map fun (c : Nat) => (c : Int))) (hp : Small p) (hz : p.length ≤ 1000000)
    (h : ∀ h' t' k, Fr h₀ L h' m → News h₀ L h' news → Q (.bytes (O p) t') { s with heap := h', toks := k }) : wpAny (model prog w) A (call (.type "bytes") [.ref D]) Q E s := by
  refine KBa.make_K F N hh ⟨_, (N _ hm).1, rfl, n, rfl⟩ hi ?_ (by rw [List.length_map]; omega) ?_
  · intro c hc
    obtain ⟨a, ha, rfl⟩ := List.mem_map.mp hc
    have := hp a ha; omega
  · intro h' t' k F' N' _
    have e : byteArr (p.map fun (c : Nat) => (c : Int)) = O p := by
      unfold byteArr O
      rw [List.map_map]; rfl
    rw [e]; exact h h' t' k F' N'
end
end Mine
end

section
open PySem PySem.W PyProof.Rows PySem.Calls
namespace Mine
theorem clip_nn (n : Nat) {a : Int} (ha : 0 ≤ a) : clipAt n a = min a.toNat n := by
  unfold clipAt; rw [if_neg (by omega)]; omega
theorem cut_to (p : List Nat) {b : Int} (hb : 0 ≤ b) : (p.drop ((none : Option Int).elim 0 (clipAt p.length))).take ((some b).elim p.length (clipAt p.length) - (none : Option Int).elim 0 (clipAt p.length)) = p.take b.toNat := by
  simp only [Option.elim, List.drop_zero, Nat.sub_zero, clip_nn _ hb]
  rw [List.take_eq_take_min]; simp [Nat.min_assoc]
theorem cut_from (p : List Nat) {a : Int} (ha : 0 ≤ a) : (p.drop ((some a).elim 0 (clipAt p.length))).take ((none : Option Int).elim p.length (clipAt p.length) - (some a).elim 0 (clipAt p.length)) = p.drop a.toNat := by
  simp only [Option.elim, clip_nn _ ha]
  rw [List.take_of_length_le (by rw [List.length_drop]; omega)]
  by_cases h : a.toNat ≤ p.length
  · rw [Nat.min_eq_left h]
  · rw [Nat.min_eq_right (by omega), List.drop_length, List.drop_eq_nil_of_le (by omega)]
theorem cut_mid (p : List Nat) {a b : Int} (ha : 0 ≤ a) (hb : 0 ≤ b) : (p.drop ((some a).elim 0 (clipAt p.length))).take ((some b).elim p.length (clipAt p.length) - (some a).elim 0 (clipAt p.length)) = (p.take b.toNat).drop a.toNat := by
  simp only [Option.elim, clip_nn _ ha, clip_nn _ hb]
  rw [List.drop_take]
  by_cases h : a.toNat ≤ p.length
  · rw [Nat.min_eq_left h, List.take_eq_take_min]
    conv => rhs; rw [List.take_eq_take_min]
    congr 1
    simp only [List.length_drop]; omega
  · rw [Nat.min_eq_right (by omega : p.length ≤ a.toNat), List.drop_length, List.drop_eq_nil_of_le (by omega)]
    simp
/-- altsep as octets -/
def AltO (v : Value) (alt : List Nat) : Prop := (v = .none ∧ alt = []) ∨ ∃ t, v = .bytes (O alt) t
theorem truthy_altO {prog : Program} {w : World} {A : Around} {E : Value → Shared → Prop} {s : Shared} {Q : Bool → Shared → Prop} {v : Value} {alt : List Nat} (h : AltO v alt) (hl : alt.length ≤ 1000000) (hq : ∀ k, Q (decide (alt ≠ [])) { s with toks := k }) : wpAny (model prog w) A (truthy v) Q E s := by
  rcases h with ⟨rfl, rfl⟩ | ⟨t, rfl⟩
  · exact wpAny_pure (hq s.toks)
  · exact truthy_O hl hq
end Mine
end

section
open PySem PySem.W PyProof.Rows
namespace Mine
section
variable {prog : Program} {w : World} {A : Around} {E : Value → Shared → Prop} {s : Shared} {h₀ : Heap} {L : Addr} {all : List (Addr × Obj)} {Q : Value → Shared → Prop}
theorem ne_nil_L {D D' : Addr} {vs : List Value} {n n' : Nat} (N : News h₀ L s.heap all) (h1 : (D, W.listOf vs.toArray n) ∈ all) (h2 : (D', W.listOf #[] n') ∈ all) (hu : A.units < cLine) (h : Q (.bool (decide (vs ≠ []))) s) :
    wpAny (model prog w) A (compareOp .NotEq (.ref D) (.ref D')) Q E s := by
  have l1 : s.heap.IsList D vs.toArray := ⟨_, (N _ h1).1, rfl, n, rfl⟩
  have l2 : s.heap.IsList D' #[] := ⟨_, (N _ h2).1, rfl, n', rfl⟩
  cases vs with
  | nil =>
    refine cmp_ofNotEq (SeqAt.RcNeAt.lists (e := fun _ => true) l1 l2 rfl hu (fun j h => absurd h (by simp)) prog w E Q ?_)
    simpa using h
  | cons v vs =>
    refine cmp_ofNotEq (SeqAt.RcNeAt.lists_lengths l1 l2 (by simp) hu prog w E Q ?_)
    simpa using h
theorem eq_nil_L {D D' : Addr} {vs : List Value} {n n' : Nat} (N : News h₀ L s.heap all) (h1 : (D, W.listOf vs.toArray n) ∈ all) (h2 : (D', W.listOf #[] n') ∈ all) (hu : A.units < cLine) (h : Q (.bool (decide (vs = []))) s) :
    wpAny (model prog w) A (compareOp .Eq (.ref D) (.ref D')) Q E s := by
  have l1 : s.heap.IsList D vs.toArray := ⟨_, (N _ h1).1, rfl, n, rfl⟩
  have l2 : s.heap.IsList D' #[] := ⟨_, (N _ h2).1, rfl, n', rfl⟩
  cases vs with
  | nil =>
    refine cmp_ofEq (SeqAt.RcAt.lists (e := fun _ => true) l1 l2 rfl hu (fun j h => absurd h (by simp)) prog w E Q ?_)
    simpa using h
  | cons v vs =>
    refine cmp_ofEq (SeqAt.RcAt.lists_lengths l1 l2 (by simp) hu prog w E Q ?_)
    simpa using h
/-- a tuple of two octets -/
abbrev tupO (a b : List Nat) (t u : Tok) : Obj := { cls := .type "tuple", data := .seq #[.bytes (O a) t, .bytes (O b) u] }
theorem tupO_items {a : Addr} {x y : List Nat} {t u : Tok} (N : News h₀ L s.heap all) (ha : (a, tupO x y t u) ∈ all) : s.heap.IsTuple a #[.bytes (O x) t, .bytes (O y) u] := ⟨_, (N _ ha).1, rfl, _, rfl⟩
theorem eqAt_O {x y : List Nat} (hx : Small x) (hy : Small y) (t u : Tok) : SeqAt.EqAt A s (.bytes (O x) t) (.bytes (O y) u) (decide (x = y)) := fun prog w E Q h => by
  unfold eqBool
  refine wpAny_holding ?_
  refine wpAny_ite_split (fun hab => ?_) (fun _ => ?_)
  · have e : O x = O y := by have := eq_of_beq hab; injection this
    have e' : x = y := (O_inj hx hy).mp e
    rw [decide_eq_true e'] at h
    exact wpAny_bind (wpAny_rule (wpAny_pure h))
  · have k := eq_O (prog := prog) (w := w) (A := A) (E := E) (s := s) (t := t) (u := u) (Q := fun v s' => wpAny (model prog w) A (truthOfDropped v) Q E s') hx hy (wpAny_truthy_bool h)
    exact wpAny_bind k
theorem tupO_each {x y x' y' : List Nat} {t u t' u' : Tok} (hx : Small x) (hy : Small y) (hx' : Small x') (hy' : Small y') : ∀ (j : Nat) (h1 : j < (#[.bytes (O x) t, .bytes (O y) u] : Array Value).size) (h2 : j < (#[.bytes (O x') t', .bytes (O y') u'] : Array Value).size),
    SeqAt.EqAt A s ((#[.bytes (O x) t, .bytes (O y) u] : Array Value)[j]) ((#[.bytes (O x') t', .bytes (O y') u'] : Array Value)[j]) (if j = 0 then decide (x = x') else decide (y = y'))
  | 0, _, _ => eqAt_O hx hx' t t'
  | 1, _, _ => eqAt_O hy hy' u u'
  | n + 2, h, _ => absurd h (by simp)
theorem tupO_all {x y x' y' : List Nat} {t u t' u' : Tok} : ((List.range (min (#[.bytes (O x) t, .bytes (O y) u] : Array Value).size (#[.bytes (O x') t', .bytes (O y') u'] : Array Value).size)).all (fun j => if j = 0 then decide (x = x') else decide (y = y')) && (#[.bytes (O x) t, .bytes (O y) u] : Array Value).size == (#[.bytes (O x') t', .bytes (O y') u'] : Array Value).size) = decide (x = x' ∧ y = y') := by
  show ((List.range 2).all _ && true) = _
  rw [show List.range 2 = [0, 1] from rfl]
  by_cases h1 : x = x' <;> by_cases h2 : y = y' <;> simp [h1, h2]
theorem ne_tupO {a b : Addr} {x y x' y' : List Nat} {t u t' u' : Tok} (hx : Small x) (hy : Small y) (hx' : Small x') (hy' : Small y') (N : News h₀ L s.heap all) (ha : (a, tupO x y t u) ∈ all) (hb : (b, tupO x' y' t' u') ∈ all) (hu : A.units < cLine)
    (h : Q (.bool (!decide (x = x' ∧ y = y'))) s) : wpAny (model prog w) A (compareOp .NotEq (.ref a) (.ref b)) Q E s := by
  refine cmp_ofNotEq (SeqAt.RcNeAt.tuples (tupO_items N ha) (tupO_items N hb) hu (tupO_each hx hy hx' hy') prog w E Q ?_)
  rw [tupO_all]; exact h
end
end Mine
end

section
open PySem PySem.W PyProof.Rows PySem.Calls
namespace Mine
open PyProof.Rows.LCg
section
variable {prog : Program} {w : World} {A : Around} {E : Value → Shared → Prop} {s : Shared} {env : Env} {h₀ : Heap} {x : Str} {body : List Stmt} {Q : Flow → Shared → Prop}
/-- a turn's end where the target is a cell and the ledger stays -/
def CStep (h₀ : Heap) (L : Addr) (led : List (Addr × Obj)) (J : (Str → Option Value) → Prop) (s s₂ : Shared) : Prop :=
  ∃ h' tk m', s₂ = { s with heap := h', toks := tk } ∧ Fr h₀ L h' m' ∧ News h₀ L h' led ∧ J m'
theorem CStep.intro {L : Addr} {led all : List (Addr × Obj)} {J : (Str → Option Value) → Prop} {h' : Heap} {tk : Nat} {m' : Str → Option Value} (F : Fr h₀ L h' m') (N : News h₀ L h' all) (hs : Sub led all) (hj : J m') : CStep h₀ L led J s { s with heap := h', toks := tk } := ⟨h', tk, m', rfl, F, news_sub N hs, hj⟩
def CPost (h₀ : Heap) (L : Addr) (led : List (Addr × Obj)) (J : (Str → Option Value) → Prop) (s : Shared) (Q : Flow → Shared → Prop) (f : Flow) (s₂ : Shared) : Prop :=
  match f with
  | .ret v => Q (.ret v) s₂
  | .brk => Q .next s₂
  | _ => CStep h₀ L led J s s₂
theorem loopC {px : Pos} {I c : Addr} {oc₀ : Obj} {v₀ : Option Value} {n : Nat} {P : Nat → Value → Prop} {St : Nat → Heap → Prop} {m₀ : Str → Option Value} {news : List (Addr × Obj)} (J : Nat → (Str → Option Value) → Prop)
    (W : Walks prog w A I [I] [I] n P St) (hIo : ∀ i h, St i h → ∃ o, h.get? I = some o) (hk : env.scope.kind = .function) (hx : env.kindOf x = some .cell) (hc : env.cells.lookup x = some c) (hE : PassesOwn (model prog w) A env E)
    (hIL : env.locals ≠ I) (hI₀ : h₀.get? I = none) (hcI : c ≠ I) (hnI : ∀ p ∈ news, p.1 ≠ I) (hnc : ∀ p ∈ news, p.1 ≠ c) (hst : St 0 s.heap) (F : Fr h₀ env.locals s.heap m₀) (N : News h₀ env.locals s.heap ((c, oc₀) :: news)) (hd : oc₀.data = .cell v₀) (hj : J 0 m₀)
    (turn : ∀ i v m₁ h tk oI oc, i < n → P i v → J i m₁ → oc.data = .cell (some v) → Fr h₀ env.locals h m₁ → News h₀ env.locals h ((I, oI) :: (c, oc) :: news) →
      wpAny (model prog w) A (execs body env) (CPost h₀ env.locals ((I, oI) :: (c, oc) :: news) (J (i + 1)) s Q) E { s with heap := h, toks := tk })
    (done : ∀ m₁ h tk oc, J n m₁ → Fr h₀ env.locals h m₁ → News h₀ env.locals h ((c, oc) :: news) → Q .next { s with heap := h, toks := tk }) :
    codeAny (model prog w) A (.forLoop (.Name x px) (.ref I) body [] env) (fun r s' => match r with | .ok f => Q f s' | .error e => cameBackBy (model prog w) A env E e s') s := by
  refine codeAny_forLoop
    (fun k s' => ∃ h' tk m' oc u i, s' = { s with heap := h', toks := tk } ∧ St i h' ∧ Fr h₀ env.locals h' m' ∧ News h₀ env.locals h' ((c, oc) :: news) ∧ oc.data = .cell u ∧ J i m' ∧ i ≤ n ∧ k = n + 1 - i) ?_ (n + 1)
    ⟨s.heap, s.toks, m₀, oc₀, v₀, 0, rfl, hst, F, N, hd, hj, Nat.zero_le _, rfl⟩
  rintro k s' ⟨h', tk, m', oc, u, i, rfl, hst', F', N', hd', hJ, hi, rfl⟩
  have hNI : ∀ p ∈ (c, oc) :: news, p.1 ≠ I := fun p hp => by
    rcases List.mem_cons.mp hp with rfl | hp
    · exact hcI
    · exact hnI p hp
  by_cases hlt : i < n
  · refine W.item i _ _ _ hlt hst' fun v h₁ tk₁ hP hst₁ hk₁ => ?_
    have F₁ : Fr h₀ env.locals h₁ m' := fr_but F' hk₁ hIL hI₀
    have N₁ : News h₀ env.locals h₁ ((c, oc) :: news) := news_but N' hk₁ hNI
    have hm := N₁ _ (.head _)
    refine wpAny_assign_Name (wpAny_storeName_cell hk hx hc ⟨oc, hm.1, hd'⟩ fun h₂ hv hs => ?_)
    obtain ⟨oc', ho', hd2⟩ := hv
    have F₂ : Fr h₀ env.locals h₂ m' := ⟨F₁.ns.sameBut hs (Ne.symm hm.2.1), fun b ob e => (hs.2 b (fun q => by rw [q, hm.2.2] at e; cases e)).trans (F₁.keep b ob e), F₁.above⟩
    obtain ⟨oI, hoI⟩ := hIo _ _ hst₁
    have hoI2 : h₂.get? I = some oI := (hs.2 I (Ne.symm hcI)).trans hoI
    have N₂ : News h₀ env.locals h₂ ((I, oI) :: (c, oc') :: news) := fun p hp => by
      rcases List.mem_cons.mp hp with rfl | hp
      · exact ⟨hoI2, Ne.symm hIL, hI₀⟩
      · rcases List.mem_cons.mp hp with rfl | hp
        · exact ⟨ho', hm.2⟩
        · have := N₁ p (.tail _ hp)
          exact ⟨(hs.2 p.1 (hnc p hp)).trans this.1, this.2⟩
    have fin : ∀ s₃, CStep h₀ env.locals ((I, oI) :: (c, oc') :: news) (J (i + 1)) s s₃ → ∃ m, m < n + 1 - i ∧ ∃ h' tk m' oc u i, s₃ = { s with heap := h', toks := tk } ∧ St i h' ∧ Fr h₀ env.locals h' m' ∧ News h₀ env.locals h' ((c, oc) :: news) ∧ oc.data = .cell u ∧ J i m' ∧ i ≤ n ∧ m = n + 1 - i := by
      rintro s₃ ⟨h₃, tk₃, m₃, rfl, F₃, N₃, hJ₃⟩
      refine ⟨n + 1 - (i + 1), by omega, h₃, tk₃, m₃, oc', _, i + 1, rfl, ?_, F₃, fun p hp => N₃ p (.tail _ hp), hd2, hJ₃, hlt, rfl⟩
      refine W.frame _ _ _ hst₁ fun b hb o e => ?_
      rw [List.mem_singleton.mp hb] at e ⊢
      rw [hoI] at e; cases e
      exact (N₃ _ (.head _)).1
    refine wpAny_mono (wpAny_passesOwn hE (turn i v m' h₂ tk₁ oI oc' hlt hP hJ hd2 F₂ N₂)) (fun f s₃ h₃ => ?_) fun _ _ e => e
    cases f with
    | ret v => exact h₃
    | brk => exact h₃
    | cont => exact fin s₃ h₃
    | next => exact fin s₃ h₃
  · obtain rfl : i = n := by omega
    refine W.done _ _ _ hst' fun h₁ tk₁ hk₁ => ?_
    exact wpAny_execs_nil (done m' h₁ tk₁ oc hJ (fr_but F' hk₁ hIL hI₀) (news_but N' hk₁ hNI))
/-- a for over a range, the target a cell -/
theorem forCell {px pos : Pos} {iter : Expr} {c : Addr} {oc₀ : Obj} {v₀ : Option Value} {n : Nat} {a b : Int} {m₀ : Str → Option Value} {news : List (Addr × Obj)} (J : Nat → (Str → Option Value) → Prop) (_F : Fr h₀ env.locals s.heap m₀)
    (hh : A.handled = none) (hk : env.scope.kind = .function) (hx : env.kindOf x = some .cell) (hc : env.cells.lookup x = some c) (hE : PassesOwn (model prog w) A env E)
    (hsmall : Builtin.Range.small a b 1 = true) (hn : Builtin.Range.rangeSize a b 1 = (n : Int)) (hnc : ∀ p ∈ news, p.1 ≠ c) (hd : oc₀.data = .cell v₀) (hj : J 0 m₀)
    (iterIs : wpAny (model prog w) A (eval iter env) (fun xv s₁ => ∃ r t₀ u₀ v₁ h tk, xv = .ref r ∧ s₁ = { s with heap := h, toks := tk } ∧ IsRange h r a b 1 t₀ u₀ v₁ ∧ Fr h₀ env.locals h m₀ ∧ News h₀ env.locals h ((c, oc₀) :: news)) E s)
    (turn : ∀ (i : Nat) t m₁ h tk I oI oc, i < n → J i m₁ → oc.data = .cell (some (.int (a + (i : Int)) t)) → Fr h₀ env.locals h m₁ → News h₀ env.locals h ((I, oI) :: (c, oc) :: news) →
      wpAny (model prog w) A (execs body env) (CPost h₀ env.locals ((I, oI) :: (c, oc) :: news) (J (i + 1)) s Q) E { s with heap := h, toks := tk })
    (done : ∀ m₁ h tk oc, J n m₁ → Fr h₀ env.locals h m₁ → News h₀ env.locals h ((c, oc) :: news) → Q .next { s with heap := h, toks := tk })
    (hs : ∀ x, foldedSetIterable iter env x = pure x := by intro _; rfl) :
    wpAny (model prog w) A (exec (.For (.Name x px) iter body [] pos) env) Q E s := by
  refine wpAny_For (wpAny_mono iterIs ?_ fun _ _ e => e) hs
  rintro xv s₁ ⟨r, t₀, u₀, v₁, h, tk, rfl, rfl, hr, F, N⟩
  refine wpAny_pyIter_range hr hsmall ?_
  have W : Walks prog w A h.objs.size [h.objs.size] [h.objs.size] n (fun i v => i < n ∧ ∃ t, v = .int (a + i * 1) t)
      (fun i h' => IsRangeIter h' h.objs.size (a + (i : Nat) * 1) ((n : Int) - (i : Nat)) 1) := (Walks.range hh _ a 1 n).bound
  have F1 := F
  refine loopC J W (fun i h st => ⟨_, st⟩) hk hx hc hE (Nat.ne_of_lt F.ns.lt) (next_is_new F1) (Nat.ne_of_lt (Heap.lt_size (N _ (.head _)).1)) (fun p hp => Nat.ne_of_lt (Heap.lt_size (N p (.tail _ hp)).1)) hnc (by show IsRangeIter _ _ _ _ _; rw [hn]; simpa using Heap.get?_push_size _ rfl) (F.push _) (N.grown fun _ _ e => Heap.get?_push_of_some _ e) hd hj ?_ ?_
  · rintro i v m₁ h1 tk1 oI oc hi ⟨_, t, rfl⟩ hJ hd2 F₁ N₁
    rw [Int.mul_one] at hd2
    exact turn i t m₁ h1 tk1 _ oI oc hi hJ hd2 F₁ N₁
  · intro m₁ h1 tk1 oc hJ F₁ N₁
    exact done m₁ h1 tk1 oc hJ F₁ N₁
end
end Mine
end

section
open PySem PySem.W PyProof.Rows PySem.Calls
set_option linter.unusedVariables false
namespace Mine
open PyProof.Rows.LCg
section
variable {prog : Program} {w : World} {A : Around} {E : Value → Shared → Prop} {s : Shared} {env : Env} {h₀ : Heap} {x : Str} {body : List Stmt} {Q : Flow → Shared → Prop}
theorem store_U {c : Addr} {oc : Obj} {v₀ : Option Value} {v : Value} {m : Str → Option Value} {all : List (Addr × Obj)} {Q : Unit → Shared → Prop} {L : Addr} (hL : env.locals = L) (hk : env.scope.kind = .function) (hx : env.kindOf x = some .cell) (hc : env.cells.lookup x = some c) (F : Fr h₀ L s.heap m) (N : News h₀ L s.heap all) (hm : (c, oc) ∈ all) (hd : oc.data = .cell v₀)
    (h : ∀ h' oc', oc'.data = .cell (some v) → Fr h₀ L h' m → News h₀ L h' (upd c oc' all) → Q () { s with heap := h' }) : wpAny (model prog w) A (storeName env x v) Q E s := by
  refine wpAny_storeName_cell hk hx hc ⟨oc, (N _ hm).1, hd⟩ fun h₂ hv hs => ?_
  obtain ⟨oc', ho', hd2⟩ := hv
  obtain ⟨F', N'⟩ := upd_ok F N hm hs ho'
  exact h h₂ oc' hd2 F' N'
/-- a turn's end where the target is a cell and the ledger changes -/
def DStep (h₀ : Heap) (L I c : Addr) (oI oc : Obj) (J : (Str → Option Value) → List (Addr × Obj) → Prop) (s s₂ : Shared) : Prop :=
  ∃ h' tk m' all nx, s₂ = { s with heap := h', toks := tk } ∧ Fr h₀ L h' m' ∧ News h₀ L h' all ∧ (I, oI) ∈ all ∧ (c, oc) ∈ all ∧ Sub nx all ∧ (∀ p ∈ nx, p.1 ≠ I ∧ p.1 ≠ c) ∧ J m' nx
theorem DStep.intro {L I c : Addr} {oI oc : Obj} {all : List (Addr × Obj)} {J : (Str → Option Value) → List (Addr × Obj) → Prop} {h' : Heap} {tk : Nat} {m' : Str → Option Value} (nx : List (Addr × Obj)) (F : Fr h₀ L h' m') (N : News h₀ L h' all) (hI : (I, oI) ∈ all) (hc : (c, oc) ∈ all) (hs : Sub nx all) (hn : ∀ p ∈ nx, p.1 ≠ I ∧ p.1 ≠ c) (hj : J m' nx) : DStep h₀ L I c oI oc J s { s with heap := h', toks := tk } := ⟨h', tk, m', all, nx, rfl, F, N, hI, hc, hs, hn, hj⟩
def DPost (h₀ : Heap) (L I c : Addr) (oI oc : Obj) (J : (Str → Option Value) → List (Addr × Obj) → Prop) (s : Shared) (Q : Flow → Shared → Prop) (f : Flow) (s₂ : Shared) : Prop :=
  match f with
  | .ret v => Q (.ret v) s₂
  | .brk => Q .next s₂
  | _ => DStep h₀ L I c oI oc J s s₂
theorem loopD {px : Pos} {I c : Addr} {oc₀ : Obj} {v₀ : Option Value} {n : Nat} {P : Nat → Value → Prop} {St : Nat → Heap → Prop} {m₀ : Str → Option Value} {news : List (Addr × Obj)} (J : Nat → (Str → Option Value) → List (Addr × Obj) → Prop)
    (W : Walks prog w A I [I] [I] n P St) (hIo : ∀ i h, St i h → ∃ o, h.get? I = some o) (hk : env.scope.kind = .function) (hx : env.kindOf x = some .cell) (hc : env.cells.lookup x = some c) (hE : PassesOwn (model prog w) A env E)
    (hIL : env.locals ≠ I) (hI₀ : h₀.get? I = none) (hcI : c ≠ I) (hn : ∀ p ∈ news, p.1 ≠ I ∧ p.1 ≠ c) (hst : St 0 s.heap) (F : Fr h₀ env.locals s.heap m₀) (N : News h₀ env.locals s.heap ((c, oc₀) :: news)) (hd : oc₀.data = .cell v₀) (hj : J 0 m₀ news)
    (turn : ∀ i v m₁ nx h tk oI oc, i < n → P i v → J i m₁ nx → (∀ p ∈ nx, p.1 ≠ I ∧ p.1 ≠ c) → oc.data = .cell (some v) → Fr h₀ env.locals h m₁ → News h₀ env.locals h ((I, oI) :: (c, oc) :: nx) →
      wpAny (model prog w) A (execs body env) (DPost h₀ env.locals I c oI oc (J (i + 1)) s Q) E { s with heap := h, toks := tk })
    (done : ∀ m₁ nx h tk oc u, J n m₁ nx → (∀ p ∈ nx, p.1 ≠ c) → oc.data = .cell u → Fr h₀ env.locals h m₁ → News h₀ env.locals h ((c, oc) :: nx) → Q .next { s with heap := h, toks := tk }) :
    codeAny (model prog w) A (.forLoop (.Name x px) (.ref I) body [] env) (fun r s' => match r with | .ok f => Q f s' | .error e => cameBackBy (model prog w) A env E e s') s := by
  refine codeAny_forLoop
    (fun k s' => ∃ h' tk m' nx oc u i, s' = { s with heap := h', toks := tk } ∧ St i h' ∧ Fr h₀ env.locals h' m' ∧ News h₀ env.locals h' ((c, oc) :: nx) ∧ (∀ p ∈ nx, p.1 ≠ I ∧ p.1 ≠ c) ∧ oc.data = .cell u ∧ J i m' nx ∧ i ≤ n ∧ k = n + 1 - i) ?_ (n + 1)
    ⟨s.heap, s.toks, m₀, news, oc₀, v₀, 0, rfl, hst, F, N, hn, hd, hj, Nat.zero_le _, rfl⟩
  rintro k s' ⟨h', tk, m', nx, oc, u, i, rfl, hst', F', N', hn', hd', hJ, hi, rfl⟩
  have hNI : ∀ p ∈ (c, oc) :: nx, p.1 ≠ I := fun p hp => by
    rcases List.mem_cons.mp hp with rfl | hp
    · exact hcI
    · exact (hn' p hp).1
  by_cases hlt : i < n
  · refine W.item i _ _ _ hlt hst' fun v h₁ tk₁ hP hst₁ hk₁ => ?_
    have F₁ : Fr h₀ env.locals h₁ m' := fr_but F' hk₁ hIL hI₀
    have N₁ : News h₀ env.locals h₁ ((c, oc) :: nx) := news_but N' hk₁ hNI
    have hm := N₁ _ (.head _)
    refine wpAny_assign_Name (wpAny_storeName_cell hk hx hc ⟨oc, hm.1, hd'⟩ fun h₂ hv hs => ?_)
    obtain ⟨oc', ho', hd2⟩ := hv
    have F₂ : Fr h₀ env.locals h₂ m' := ⟨F₁.ns.sameBut hs (Ne.symm hm.2.1), fun b ob e => (hs.2 b (fun q => by rw [q, hm.2.2] at e; cases e)).trans (F₁.keep b ob e), F₁.above⟩
    obtain ⟨oI, hoI⟩ := hIo _ _ hst₁
    have hoI2 : h₂.get? I = some oI := (hs.2 I (Ne.symm hcI)).trans hoI
    have N₂ : News h₀ env.locals h₂ ((I, oI) :: (c, oc') :: nx) := fun p hp => by
      rcases List.mem_cons.mp hp with rfl | hp
      · exact ⟨hoI2, Ne.symm hIL, hI₀⟩
      · rcases List.mem_cons.mp hp with rfl | hp
        · exact ⟨ho', hm.2⟩
        · have := N₁ p (.tail _ hp)
          exact ⟨(hs.2 p.1 (hn' p hp).2).trans this.1, this.2⟩
    have fin : ∀ s₃, DStep h₀ env.locals I c oI oc' (J (i + 1)) s s₃ → ∃ m, m < n + 1 - i ∧ ∃ h' tk m' nx oc u i, s₃ = { s with heap := h', toks := tk } ∧ St i h' ∧ Fr h₀ env.locals h' m' ∧ News h₀ env.locals h' ((c, oc) :: nx) ∧ (∀ p ∈ nx, p.1 ≠ I ∧ p.1 ≠ c) ∧ oc.data = .cell u ∧ J i m' nx ∧ i ≤ n ∧ m = n + 1 - i := by
      rintro s₃ ⟨h₃, tk₃, m₃, all₃, nx₃, rfl, F₃, N₃, hI₃, hc₃, hs₃, hn₃, hJ₃⟩
      refine ⟨n + 1 - (i + 1), by omega, h₃, tk₃, m₃, nx₃, oc', _, i + 1, rfl, ?_, F₃, fun p hp => ?_, hn₃, hd2, hJ₃, hlt, rfl⟩
      · refine W.frame _ _ _ hst₁ fun b hb o e => ?_
        rw [List.mem_singleton.mp hb] at e ⊢
        rw [hoI] at e; cases e
        exact (N₃ _ hI₃).1
      · rcases List.mem_cons.mp hp with rfl | hp
        · exact N₃ _ hc₃
        · exact N₃ p (hs₃ p hp)
    refine wpAny_mono (wpAny_passesOwn hE (turn i v m' nx h₂ tk₁ oI oc' hlt hP hJ hn' hd2 F₂ N₂)) (fun f s₃ h₃ => ?_) fun _ _ e => e
    cases f with
    | ret v => exact h₃
    | brk => exact h₃
    | cont => exact fin s₃ h₃
    | next => exact fin s₃ h₃
  · obtain rfl : i = n := by omega
    refine W.done _ _ _ hst' fun h₁ tk₁ hk₁ => ?_
    exact wpAny_execs_nil (done m' nx h₁ tk₁ oc u hJ (fun p hp => (hn' p hp).2) hd' (fr_but F' hk₁ hIL hI₀) (news_but N' hk₁ hNI))
/-- a for over a text, the target a cell -/
theorem forStrD {px pos : Pos} {iter : Expr} {c : Addr} {oc₀ : Obj} {v₀ : Option Value} {p : List Nat} {tx : Tok} {m₀ : Str → Option Value} {news : List (Addr × Obj)} {L : Addr} (hL : env.locals = L) (J : Nat → (Str → Option Value) → List (Addr × Obj) → Prop)
    (hh : A.handled = none) (hk : env.scope.kind = .function) (hx : env.kindOf x = some .cell) (hc : env.cells.lookup x = some c) (hE : PassesOwn (model prog w) A env E)
    (hn : ∀ q ∈ news, q.1 ≠ c) (hd : oc₀.data = .cell v₀) (hj : J 0 m₀ news)
    (iterIs : wpAny (model prog w) A (eval iter env) (fun xv s₁ => ∃ h tk, xv = .str (S p) tx ∧ s₁ = { s with heap := h, toks := tk } ∧ Fr h₀ L h m₀ ∧ News h₀ L h ((c, oc₀) :: news)) E s)
    (turn : ∀ i d t m₁ nx h tk I oI oc, p[i]? = some d → J i m₁ nx → (∀ q ∈ nx, q.1 ≠ I ∧ q.1 ≠ c) → oc.data = .cell (some (.str (S [d]) t)) → Fr h₀ L h m₁ → News h₀ L h ((I, oI) :: (c, oc) :: nx) →
      wpAny (model prog w) A (execs body env) (DPost h₀ L I c oI oc (J (i + 1)) s Q) E { s with heap := h, toks := tk })
    (done : ∀ m₁ nx h tk oc u, J p.length m₁ nx → (∀ q ∈ nx, q.1 ≠ c) → oc.data = .cell u → Fr h₀ L h m₁ → News h₀ L h ((c, oc) :: nx) → Q .next { s with heap := h, toks := tk })
    (hs : ∀ x, foldedSetIterable iter env x = pure x := by intro _; rfl) :
    wpAny (model prog w) A (exec (.For (.Name x px) iter body [] pos) env) Q E s := by
  subst hL
  refine wpAny_For (wpAny_mono iterIs ?_ fun _ _ e => e) hs
  rintro xv s₁ ⟨h, tk, rfl, rfl, F, N⟩
  have hsz : (S p).cps.size = p.length := by simp [S]
  have key : ∀ (o : Obj) (St : Nat → Heap → Prop), Walks prog w A h.objs.size [h.objs.size] [h.objs.size] (S p).cps.size (SignAt (S p)) St → St 0 (h.push o) → (∀ i h', St i h' → ∃ o, h'.get? h.objs.size = some o) →
      codeAny (model prog w) A (.forLoop (.Name x px) (.ref h.objs.size) body [] env) (fun r s' => match r with | .ok f => Q f s' | .error e => cameBackBy (model prog w) A env E e s') { s with heap := h.push o, toks := tk } := by
    intro o St W hst hst0
    rw [hsz] at W
    refine loopD (v₀ := v₀) J W hst0 hk hx hc hE (Nat.ne_of_lt F.ns.lt) (next_is_new F) (Nat.ne_of_lt (Heap.lt_size (N _ (.head _)).1)) (fun q hq => ⟨Nat.ne_of_lt (Heap.lt_size (N q (.tail _ hq)).1), hn q hq⟩) hst (F.push _) (N.grown fun _ _ e => Heap.get?_push_of_some _ e) hd hj ?_ ?_
    · rintro i v m₁ nx h1 tk1 oI oc hi ⟨d, u, hd1, rfl⟩ hJ hnx hd2 F₁ N₁
      exact turn i d u m₁ nx h1 tk1 _ oI oc (by simpa [S] using hd1) hJ hnx hd2 F₁ N₁
    · intro m₁ nx h1 tk1 oc u hJ hnx hd2 F₁ N₁
      exact done m₁ nx h1 tk1 oc u hJ hnx hd2 F₁ N₁
  cases ha : (S p).cps.all (· < 128)
  · exact wpAny_pyIter_wide ha (key _ _ (Walks.strWide hh _ (S p) tx) ⟨_, Heap.get?_push_size _ rfl, rfl, rfl⟩ (fun i h st => by obtain ⟨o, e, _⟩ := st; exact ⟨o, e⟩))
  · exact wpAny_pyIter_ascii ha (key _ _ (Walks.strAscii hh _ (S p) tx) ⟨_, Heap.get?_push_size _ rfl, rfl, rfl⟩ (fun i h st => by obtain ⟨o, e, _⟩ := st; exact ⟨o, e⟩))
end
end Mine
end

section
open PySem PySem.W PyProof.Rows
set_option linter.unusedVariables false
namespace Mine
/-- one sign more -/
def stepT (M : List Nat) (T : List (List Nat)) (c : Nat) : List (List Nat) := if c ∈ M then T ++ [[c]] else T.dropLast ++ [T.getLastD [] ++ [c]]
def tksOf (M cs : List Nat) : List (List Nat) := cs.foldl (stepT M) [[]]
def Tok1 (M t : List Nat) : Prop := ∃ c v, t = c :: v ∧ c ∈ M ∧ ∀ d ∈ v, d ∉ M
def WFT (M : List Nat) (T : List (List Nat)) : Prop := ∃ t0 r, T = t0 :: r ∧ (∀ c ∈ t0, c ∉ M) ∧ ∀ t ∈ r, Tok1 M t
theorem stepT_in {M : List Nat} {T : List (List Nat)} {c : Nat} (h : c ∈ M) : stepT M T c = T ++ [[c]] := by simp [stepT, h]
theorem stepT_out {M : List Nat} {l : List (List Nat)} {t : List Nat} {c : Nat} (h : c ∉ M) : stepT M (l ++ [t]) c = l ++ [t ++ [c]] := by simp [stepT, h]
theorem wft_step {M : List Nat} {T : List (List Nat)} (h : WFT M T) (c : Nat) : WFT M (stepT M T c) := by
  obtain ⟨t0, r, rfl, h0, hr⟩ := h
  by_cases hc : c ∈ M
  · rw [stepT_in hc]
    refine ⟨t0, r ++ [[c]], by simp, h0, ?_⟩
    intro t ht
    rcases List.mem_append.mp ht with ht | ht
    · exact hr t ht
    · rw [List.mem_singleton.mp ht]; exact ⟨c, [], rfl, hc, by simp⟩
  · rcases List.eq_nil_or_concat r with rfl | ⟨r', t, rfl⟩
    · have e : stepT M [t0] c = [t0 ++ [c]] := stepT_out (l := []) hc
      rw [e]
      refine ⟨t0 ++ [c], [], rfl, ?_, by simp⟩
      intro d hd
      rcases List.mem_append.mp hd with hd | hd
      · exact h0 d hd
      · rw [List.mem_singleton.mp hd]; exact hc
    · rw [List.concat_eq_append] at hr ⊢
      have e : stepT M (t0 :: (r' ++ [t])) c = t0 :: (r' ++ [t ++ [c]]) := stepT_out (l := t0 :: r') hc
      rw [e]
      refine ⟨t0, _, rfl, h0, ?_⟩
      intro t' ht'
      rcases List.mem_append.mp ht' with ht' | ht'
      · exact hr t' (by simp [ht'])
      · rw [List.mem_singleton.mp ht']
        obtain ⟨a, v, rfl, ha, hv⟩ := hr t (by simp)
        refine ⟨a, v ++ [c], rfl, ha, ?_⟩
        intro d hd
        rcases List.mem_append.mp hd with hd | hd
        · exact hv d hd
        · rw [List.mem_singleton.mp hd]; exact hc
theorem flat_step {M : List Nat} {T : List (List Nat)} (h : T ≠ []) (c : Nat) : (stepT M T c).flatten = T.flatten ++ [c] := by
  by_cases hc : c ∈ M
  · rw [stepT_in hc]; simp
  · obtain ⟨l, t, rfl⟩ : ∃ l t, T = l ++ [t] := by
      rcases List.eq_nil_or_concat T with e | ⟨l, t, e⟩
      · exact absurd e h
      · exact ⟨l, t, by rw [e, List.concat_eq_append]⟩
    rw [stepT_out hc]; simp
theorem WFT.ne {M : List Nat} {T : List (List Nat)} (h : WFT M T) : T ≠ [] := by obtain ⟨_, _, rfl, _⟩ := h; simp
theorem tks_snoc (M cs : List Nat) (c : Nat) : tksOf M (cs ++ [c]) = stepT M (tksOf M cs) c := by simp [tksOf]
theorem tks_ok (M : List Nat) : ∀ cs : List Nat, WFT M (tksOf M cs) ∧ (tksOf M cs).flatten = cs := by
  have h : ∀ (cs : List Nat) (T : List (List Nat)), WFT M T → WFT M (cs.foldl (stepT M) T) ∧ (cs.foldl (stepT M) T).flatten = T.flatten ++ cs := by
    intro cs
    induction cs with
    | nil => intro T hT; exact ⟨hT, by simp⟩
    | cons c cs ih =>
      intro T hT
      obtain ⟨a, b⟩ := ih _ (wft_step hT c)
      refine ⟨a, ?_⟩
      rw [List.foldl_cons, b, flat_step hT.ne]; simp
  intro cs
  obtain ⟨a, b⟩ := h cs [[]] ⟨[], [], rfl, by simp, by simp⟩
  exact ⟨a, by rw [tksOf, b]; simp⟩
theorem tks_len (M : List Nat) (cs : List Nat) : (tksOf M cs).length ≤ cs.length + 1 := by
  have h : ∀ (cs : List Nat) (T : List (List Nat)), T ≠ [] → (cs.foldl (stepT M) T).length ≤ T.length + cs.length := by
    intro cs
    induction cs with
    | nil => intro T _; simp
    | cons c cs ih =>
      intro T hT
      have h1 : stepT M T c ≠ [] := by
        unfold stepT; split <;> simp
      have h2 : (stepT M T c).length ≤ T.length + 1 := by
        unfold stepT; split
        · simp
        · have : T.length ≠ 0 := fun e => hT (List.eq_nil_of_length_eq_zero e)
          rw [List.length_append, List.length_dropLast, List.length_singleton]; omega
      have := ih _ h1
      simp only [List.foldl_cons, List.length_cons]; omega
  have := h cs [[]] (by simp)
  have e : ([[]] : List (List Nat)).length = 1 := rfl
  rw [e] at this
  unfold tksOf; omega
/-- the signs seen ahead of the k-th token since the last other mark -/
def seenAt (T : List (List Nat)) : Nat → Nat
  | 0 => (T.getD 0 []).length
  | 1 => (T.getD 0 []).length
  | k + 2 => if (T.getD (k + 2) []).head? = (T.getD (k + 1) []).head? then ((T.getD (k + 1) []).length - 1) + seenAt T (k + 1) else (T.getD (k + 1) []).length - 1
def stuckAt (T : List (List Nat)) : Nat → Nat
  | 0 => 0
  | k + 1 => if seenAt T (k + 1) = 0 then k + 1 else stuckAt T k
theorem stuckAt_le (T : List (List Nat)) : ∀ k, stuckAt T k ≤ k
  | 0 => Nat.le_refl _
  | k + 1 => by
    unfold stuckAt; split
    · exact Nat.le_refl _
    · exact Nat.le_succ_of_le (stuckAt_le T k)
theorem stuckAt_down (T : List (List Nat)) {j : Nat} : ∀ d, (∀ k, j < k → k ≤ j + d → seenAt T k ≠ 0) → stuckAt T (j + d) = stuckAt T j
  | 0, _ => rfl
  | d + 1, h => by
    show stuckAt T (j + d + 1) = _
    rw [stuckAt, if_neg (h (j + d + 1) (by omega) (by omega))]
    exact stuckAt_down T d fun k h1 h2 => h k h1 (by omega)
theorem stuckAt_here {T : List (List Nat)} {j : Nat} (h : j = 0 ∨ seenAt T j = 0) : stuckAt T j = j := by
  cases j with
  | zero => rfl
  | succ j =>
    rw [stuckAt, if_pos]
    rcases h with h | h
    · omega
    · exact h
/-- e parts the marks from the others -/
def Parts (M : List Nat) (a e : Nat) (alt : List Nat) : Prop := OneAlt alt ∧ e ∉ a :: alt ∧ ∀ c, c ∈ M ↔ c = e ∨ c ∈ a :: alt
theorem take_flat {T : List (List Nat)} {j : Nat} {t : List Nat} (h : T[j]? = some t) : (T.take (j + 1)).flatten = (T.take j).flatten ++ t := by
  rw [List.take_add_one, h]; simp
theorem wft_get {M : List Nat} {T : List (List Nat)} (h : WFT M T) {j : Nat} {t : List Nat} (hj : T[j + 1]? = some t) : Tok1 M t := by
  obtain ⟨t0, r, rfl, _, hr⟩ := h
  exact hr t (List.mem_of_getElem? (by simpa using hj))
theorem wft_zero {M : List Nat} {T : List (List Nat)} (h : WFT M T) {t : List Nat} (hj : T[0]? = some t) : ∀ c ∈ t, c ∉ M := by
  obtain ⟨t0, r, rfl, h0, _⟩ := h
  have : t0 = t := by simpa using hj
  subst this; exact h0
/-- the text ahead of the j-th token, by e's others -/
theorem ahead {M : List Nat} {T : List (List Nat)} (hT : WFT M T) {a e : Nat} {alt : List Nat} (hP : Parts M a e alt) : ∀ (j : Nat) (v : List Nat), T[j + 1]? = some (e :: v) →
    ∃ pre q, (T.take (j + 1)).flatten = pre ++ q ∧ EndsSep (a :: alt) pre ∧ (∀ c ∈ q, c ∉ a :: alt) ∧ ((∃ c ∈ q, c ≠ e) ↔ seenAt T (j + 1) ≠ 0)
  | 0, v, h => by
    obtain ⟨t0, r, rfl, h0, hr⟩ := id hT
    refine ⟨[], t0, by simp, .inl rfl, fun c hc hm => h0 c hc ((hP.2.2 c).mpr (.inr hm)), ?_⟩
    show _ ↔ t0.length ≠ 0
    constructor
    · rintro ⟨c, hc, _⟩ h; rw [List.eq_nil_of_length_eq_zero h] at hc; cases hc
    · intro h
      cases t0 with
      | nil => exact absurd rfl h
      | cons c t => exact ⟨c, .head _, fun e' => h0 c (.head _) ((hP.2.2 c).mpr (.inl e'))⟩
  | j + 1, v, h => by
    have hlt : j + 1 < T.length := by have := (List.getElem?_eq_some_iff.mp h).1; omega
    obtain ⟨t, ht⟩ : ∃ t, T[j + 1]? = some t := ⟨_, List.getElem?_eq_getElem hlt⟩
    obtain ⟨c, u, rfl, hc, hu⟩ := wft_get hT ht
    rw [take_flat ht]
    have hg1 : T.getD (j + 1 + 1) [] = e :: v := by rw [List.getD_eq_getElem?_getD, h]; rfl
    have hg2 : T.getD (j + 1) [] = c :: u := by rw [List.getD_eq_getElem?_getD, ht]; rfl
    have hs : seenAt T (j + 2) = if e = c then u.length + seenAt T (j + 1) else u.length := by
      show (if (T.getD (j + 2) []).head? = (T.getD (j + 1) []).head? then ((T.getD (j + 1) []).length - 1) + seenAt T (j + 1) else (T.getD (j + 1) []).length - 1) = _
      rw [hg1, hg2]; simp
    have hun : ∀ d ∈ u, d ∉ a :: alt := fun d hd hm => hu d hd ((hP.2.2 d).mpr (.inr hm))
    have hue : ∀ d ∈ u, d ≠ e := fun d hd he => hu d hd ((hP.2.2 d).mpr (.inl he))
    by_cases hce : c = e
    · subst hce
      obtain ⟨pre, q, e1, e2, e3, e4⟩ := ahead hT hP j u ht
      refine ⟨pre, q ++ c :: u, by rw [e1]; simp, e2, ?_, ?_⟩
      · intro d hd
        rcases List.mem_append.mp hd with hd | hd
        · exact e3 d hd
        · rcases List.mem_cons.mp hd with rfl | hd
          · exact hP.2.1
          · exact hun d hd
      · rw [show j + 1 + 1 = j + 2 from rfl, hs, if_pos rfl]
        constructor
        · rintro ⟨d, hd, hde⟩
          rcases List.mem_append.mp hd with hd | hd
          · have := e4.mp ⟨d, hd, hde⟩; omega
          · rcases List.mem_cons.mp hd with rfl | hd
            · exact absurd rfl hde
            · have : u.length ≠ 0 := fun h0 => by rw [List.eq_nil_of_length_eq_zero h0] at hd; cases hd
              omega
        · intro h0
          cases u with
          | nil =>
            have : seenAt T (j + 1) ≠ 0 := by simpa using h0
            obtain ⟨d, hd, hde⟩ := e4.mpr this
            exact ⟨d, List.mem_append_left _ hd, hde⟩
          | cons d u => exact ⟨d, List.mem_append_right _ (.tail _ (.head _)), hue d (.head _)⟩
    · refine ⟨(T.take (j + 1)).flatten ++ [c], u, by simp, .inr ⟨_, c, rfl, ?_⟩, hun, ?_⟩
      · rcases (hP.2.2 c).mp hc with h | h
        · exact absurd h hce
        · exact h
      · rw [show j + 1 + 1 = j + 2 from rfl, hs, if_neg (fun h => hce h.symm)]
        constructor
        · rintro ⟨d, hd, _⟩ h0; rw [List.eq_nil_of_length_eq_zero h0] at hd; cases hd
        · intro h0
          cases u with
          | nil => exact absurd rfl h0
          | cons d u => exact ⟨d, .head _, hue d (.head _)⟩
/-- what a call gives -/
theorem peel_zero {M : List Nat} {T : List (List Nat)} (hT : WFT M T) {a e : Nat} {alt : List Nat} (hP : Parts M a e alt) : spl (T.take 1).flatten [a] alt [e] = ((T.take 1).flatten, []) := by
  obtain ⟨t0, r, rfl, h0, hr⟩ := id hT
  have := spl_none (pre := []) (v := t0) (a := a) (e := e) hP.1 (.inl rfl) (fun c hc hm => h0 c hc ((hP.2.2 c).mpr (.inr hm))) (fun he => h0 e he ((hP.2.2 e).mpr (.inl rfl)))
  simpa using this
theorem peel_other {M : List Nat} {T : List (List Nat)} (hT : WFT M T) {a e : Nat} {alt : List Nat} (hP : Parts M a e alt) {j c : Nat} {v : List Nat} (h : T[j + 1]? = some (c :: v)) (hc : c ≠ e) : spl (T.take (j + 2)).flatten [a] alt [e] = ((T.take (j + 2)).flatten, []) := by
  obtain ⟨c', v', e1, hcM, hv⟩ := wft_get hT h
  cases e1
  rw [take_flat h]
  have hs : c ∈ a :: alt := ((hP.2.2 c).mp hcM).resolve_left hc
  have := spl_none (pre := (T.take (j + 1)).flatten ++ [c]) (v := v) (a := a) (e := e) hP.1 (.inr ⟨_, c, rfl, hs⟩) (fun d hd hm => hv d hd ((hP.2.2 d).mpr (.inr hm))) (fun he => hv e he ((hP.2.2 e).mpr (.inl rfl)))
  simpa using this
theorem peel_own {M : List Nat} {T : List (List Nat)} (hT : WFT M T) {a e : Nat} {alt : List Nat} (hP : Parts M a e alt) {j : Nat} {v : List Nat} (h : T[j + 1]? = some (e :: v)) :
    spl (T.take (j + 2)).flatten [a] alt [e] = if seenAt T (j + 1) ≠ 0 then ((T.take (j + 1)).flatten, e :: v) else ((T.take (j + 2)).flatten, []) := by
  obtain ⟨c', v', e1, hcM, hv⟩ := wft_get hT h
  cases e1
  rw [take_flat h]
  obtain ⟨pre, q, e1, e2, e3, e4⟩ := ahead hT hP j v h
  have hvs : ∀ d ∈ v, d ∉ a :: alt := fun d hd hm => hv d hd ((hP.2.2 d).mpr (.inr hm))
  have hve : e ∉ v := fun he => hv e he ((hP.2.2 e).mpr (.inl rfl))
  rw [e1]
  split
  · rename_i h0
    have := spl_cut (pre := pre) (q := q) (v := v) hP.1 hP.2.1 e2 e3 hvs hve (e4.mpr h0)
    simpa using this
  · rename_i h0
    have := spl_stuck (pre := pre) (q := q) (v := v) hP.1 hP.2.1 e2 hvs hve (fun c hc => Classical.byContradiction fun hne => h0 (e4.mp ⟨c, hc, hne⟩))
    simpa using this
end Mine
end

section
namespace Mine
open PySem PySem.W PyProof.Rows
open_top hd09 for PySem.Challenge.rw_dm0122_09
end Mine
end

section
open PySem PySem.W PyProof.Rows
namespace Mine
local macro_rules | `(tactic| size_fits) => `(tactic| ((simp only [S_len, PySem.sizeLine_eq]); omega))
local macro_rules | `(tactic| walk_at "stop") => `(tactic| first
  | (with_reducible show wpAny _ _ (exec (Stmt.For _ _ _ _ _) _) _ _ _)
  | (with_reducible show wpAny _ _ (exec (Stmt.While _ _ _ _) _) _ _ _)
  | (with_reducible show LeaveK _ _ _ _ _ _ _))
local macro_rules | `(tactic| walk_at "ws") => `(tactic| repeat' (first | (k_unfold; (try dsimp only)) | ((fail_if_success (walk_at "stop")); walk1) | ((fail_if_success (walk_at "stop")); dsimp only; walk1) | (leave1; walk_say "STEP leave1"; try dsimp only)))

theorem splitext_str {w : World} {mean : ExcName → Option Value} {mg mb : Str → Option Value} (dp un : Nat) (gd : Option (List Code)) (cn : Str) (cs : Scope) (a : Addr) (ccd : Value) (cl : List (Str × Addr)) (outer : List Env) (A₀ : Around) (base h₀ : Heap) (L : Addr) (m : Str → Option Value) (news : List (Addr × Obj)) (s : Shared)
    (Q E : Value → Shared → Prop) (p sep ext alt : List Nat) (av : Value) (tp ts te : Tok) (hav : AltV av alt) (hp : p.length ≤ 10000) (hal : alt.length ≤ 10000)
    (B : Below A₀ base outer h₀) (F : Fr h₀ L s.heap m) (X : (hd09.heap_39 w.params).In h₀) (N : News h₀ L s.heap news) (T : Top hd09.view_39 (looseW hd09.view_39 []) mean mg mb h₀) (hk : cs.kind = .function)
    (hd : dp + 1 < recursionLimit) (hu : un + 8 < cLine)
    (ret : ∀ r t1 t2 h' tk', Fr h₀ L h' m → News h₀ L h' ((r, ({ cls := .type "tuple", data := .seq #[.str (S (spl p sep alt ext).1) t1, .str (S (spl p sep alt ext).2) t2] } : Obj)) :: news) → (∀ q ∈ news, q.1 < r) → Q (.ref r) { s with heap := h', toks := tk' }) :
    wpAny (model PySem.Challenge.rw_dm0122_09.row.prog w) (ktrTop dp un gd cn cs L a ccd cl outer) (call (.ref 21) [.str (S p) tp, .str (S sep) ts, av, .str (S ext) te]) Q E s := by
  revert T; revert X; k_fill; intro X T
  refine wpAny_call ?_
  k_dflt ktr_enter
  rename_i g1 L1 h1 FG1 F1 N1 B1 X1 T1
  walk_at "ws"
  refine truthy_alt hav (by omega) ?_
  intro k1
  rename Fr g1 L1 _ _ => F1
  rename News g1 L1 _ _ => N1
  refine ite_join (Q' := fun f s' => f = .next ∧ Left g1 L1 s news (fun m => (∃ t, m (Str.ofString "sepIndex") = some (.int (sepIx p sep alt) t)) ∧ m (Str.ofString "p") = some (.str (S p) tp) ∧ m (Str.ofString "extsep") = some (.str (S ext) te)) s') ?_ ?_ ?_
  · intro hne
    have hne : alt ≠ [] := by simpa using hne
    rcases hav with ⟨_, h0⟩ | ⟨ta, rfl⟩
    · exact absurd h0 hne
    walk_at "ws"
    · rename Fr g1 L1 _ _ => F2
      rename News g1 L1 _ _ => N2
      have e : sepIx p sep alt = if rf p alt > rf p sep then rf p alt else rf p sep := by rw [sepIx, if_neg hne]
      exact Left.intro F2 N2 ⟨⟨_, by rw [e]; rfl⟩, rfl, rfl⟩
  · intro hne
    have hne : alt = [] := by simpa using hne
    have e : sepIx p sep alt = rf p sep := by rw [sepIx, if_pos hne]
    refine wpAny_execs_nil ⟨rfl, Left.intro F1 N1 ⟨⟨_, by rw [e]; rfl⟩, rfl, rfl⟩⟩
  · rintro f s' ⟨rfl, h2, tk2, m2, rfl, F2, N2, ⟨t2, e1⟩, e2, e3⟩
    have F3 := fr_show [(Str.ofString "sepIndex", .int (sepIx p sep alt) t2), (Str.ofString "p", .str (S p) tp), (Str.ofString "extsep", .str (S ext) te)] F2 (by simp [e1, e2, e3])
    clear F2 F1 N1
    have hlo : -1 ≤ sepIx p sep alt := by
      have := rf_ge p sep; have := rf_ge p alt
      unfold sepIx; split; omega; split <;> omega
    walk_at "ws"
    · rename Fr g1 L1 _ _ => F4
      rename News g1 L1 _ _ => N4
      rename _ < _ => hlt
      have hlt' : sepIx p sep alt < rf p ext := hlt
      refine ksw_while (σ := Int × Tok) (fun _ => news) (fun c => [(Str.ofString "filenameIndex", .int c.1 c.2)]) (fun _ => True) []
        (fun c => sepIx p sep alt + 1 ≤ c.1 ∧ c.1 ≤ rf p ext ∧ ∀ k : Nat, sepIx p sep alt + 1 ≤ k → (k : Int) < c.1 → (p.drop k).take 1 = ext) (fun c => (rf p ext - c.1).toNat) (sepIx p sep alt + 1, ?t0) F4 N4 trivial ?hk ?_ ?_
      case hk => (intro q hq; rw [List.mem_singleton.mp hq]; rfl)
      · refine ⟨by omega, by omega, fun k h1 h2 => by omega⟩
      · rintro ⟨f, tf⟩ u h5 tk5 - ⟨hf1, hf2, hf3⟩ F5 N5
        dsimp only at F5 N5 hf1 hf2 hf3
        clear F4 N4
        have hf0 : 0 ≤ f := by omega
        have hd0 : 0 ≤ rf p ext := by omega
        have hone : (p.take (f + 1).toNat).drop f.toNat = (p.drop f.toNat).take 1 := by
          rw [List.take_drop]; congr 1; congr 1; omega
        have hsl := slice_mid p hf0 (show 0 ≤ f + 1 by omega)
        rw [hone] at hsl
        walk_at "ws"
        · rename Fr g1 L1 _ _ => F6
          rename News g1 L1 _ _ => N6
          rename ∀ p ∈ news, _ => hl6
          rename (_ != _) = true => hne6
          have hfd : f < rf p ext := by assumption
          have hx : (p.drop f.toNat).take 1 ≠ ext := by
            rw [hsl] at hne6
            intro h; rw [h] at hne6; simp at hne6
          have e0 : spl p sep alt ext = (p.take (rf p ext).toNat, p.drop (rf p ext).toNat) := by
            unfold spl; rw [if_pos]; exact ⟨hlt', f.toNat, by omega, by omega, hx⟩
          have ret' := ret
          rw [e0] at ret'
          refine leaveK_ F6 N6 fun Fb Nb => ?_
          rw [show Txt.rfind (S p) (S ext) = rf p ext from rfl, slice_to p hd0, slice_from p hd0] at Nb
          exact ret' _ _ _ _ _ Fb Nb hl6
        · rename Fr g1 L1 _ _ => F6
          rename News g1 L1 _ _ => N6
          rename (_ != _) = false => hne6
          have hfd : f < rf p ext := by assumption
          have hx : (p.drop f.toNat).take 1 = ext := by
            rw [hsl] at hne6
            have := bne_eq_false_iff_eq.mp hne6
            exact S_inj.mp this
          refine ksw_end (f + 1, ?t1) F6 N6 (fun _ h => h) trivial ?hk1 ?hr1 ⟨?_, ?_, ?_⟩ ?_
          case hk1 => (intro q hq; rw [List.mem_singleton.mp hq]; rfl)
          case hr1 =>
            intro z h2 h3
            have h2' : z ≠ Str.ofString "filenameIndex" := h2 _ (List.mem_singleton.mpr rfl)
            simp [kstB, h2']
          · show sepIx p sep alt + 1 ≤ f + 1; omega
          · show f + 1 ≤ rf p ext; omega
          · intro k h1 h2
            have h2' : (k : Int) < f + 1 := h2
            by_cases hkf : (k : Int) < f
            · exact hf3 k h1 hkf
            · have : k = f.toNat := by omega
              rw [this]; exact hx
          · show (rf p ext - (f + 1)).toNat < (rf p ext - f).toNat; omega
        · rename Fr g1 L1 _ _ => F6
          rename News g1 L1 _ _ => N6
          rename ∀ p ∈ news, _ => hl6
          rename ¬ _ => hnlt
          have hnlt' : ¬ f < rf p ext := hnlt
          have e0 : spl p sep alt ext = (p, []) := by
            unfold spl; rw [if_neg]; rintro ⟨-, k, hk1, hk2, hk3⟩; exact hk3 (hf3 k hk1 (by omega))
          have ret' := ret
          rw [e0] at ret'
          refine leaveK_ F6 N6 fun Fb Nb => ?_
          rw [slice_to p (Int.le_refl 0)] at Nb
          exact ret' _ _ _ _ _ Fb Nb hl6
    · rename Fr g1 L1 _ _ => F4
      rename News g1 L1 _ _ => N4
      rename ∀ p ∈ news, _ => hl4
      rename ¬ _ => hnlt
      have e0 : spl p sep alt ext = (p, []) := by
        unfold spl; rw [if_neg]; rintro ⟨h1, -⟩; exact hnlt h1
      have ret' := ret
      rw [e0] at ret'
      refine leaveK_ F4 N4 fun Fb Nb => ?_
      rw [slice_to p (Int.le_refl 0)] at Nb
      exact ret' _ _ _ _ _ Fb Nb hl4
end Mine
end

section
open PySem PySem.W PyProof.Rows
set_option linter.unusedVariables false
namespace Mine
local macro_rules | `(tactic| size_fits) => `(tactic| ((simp only [PySem.Str.length_append, S_len, PySem.sizeLine_eq, List.length_cons, List.length_nil]); omega))
local macro_rules | `(tactic| walk_at "stop") => `(tactic| first
  | (with_reducible show wpAny _ _ (exec (Stmt.For _ _ _ _ _) _) _ _ _)
  | (with_reducible show wpAny _ _ (exec (Stmt.While _ _ _ _) _) _ _ _)
  | (with_reducible show wpAny _ _ (eval (Expr.ListComp _ _ _ _) _) _ _ _)
  | (with_reducible show wpAny _ _ (pyIter _) _ _ _)
  | (with_reducible show CTurn _ _ _ _ _ _ _ _ _ _ _ _ _ _ _)
  | (with_reducible show CEnd _ _ _ _ _ _ _ _)
  | (with_reducible show GEnd _ _ _ _ _ _ _)
  | (with_reducible show wpAny _ _ (call (Value.builtin "list.append") _) _ _ _)
  | (with_reducible show wpAny _ _ (subscriptTail _ _ (Value.ref _) (Value.int _ _)) _ _ _)
  | (with_reducible show LeaveK _ _ _ _ _ _ _))
local macro_rules | `(tactic| walk_at "GPost") => `(tactic| (dsimp only [GPost]))
local macro_rules | `(tactic| walk_at "ws") => `(tactic| repeat' (first | (k_unfold; (try dsimp only)) | ((fail_if_success (walk_at "stop")); walk1) | ((fail_if_success (walk_at "stop")); dsimp only; walk1) | (leave1; walk_say "STEP leave1"; try dsimp only)))

theorem sign09 {w : World} {mean : ExcName → Option Value} {mg mb : Str → Option Value} (dp un : Nat) (gd : Option (List Code)) (cn : Str) (cs : Scope) (a : Addr) (ccd : Value) (cl : List (Str × Addr)) (outer : List Env) (A₀ : Around) (base h₀ : Heap) (L : Addr) (m : Str → Option Value) (news : List (Addr × Obj)) (s : Shared)
    (Q E : Value → Shared → Prop) (x : Int) (tx : Tok)
    (B : Below A₀ base outer h₀) (F : Fr h₀ L s.heap m) (X : (hd09.heap_39 w.params).In h₀) (N : News h₀ L s.heap news) (T : Top hd09.view_39 (looseW hd09.view_39 []) mean mg mb h₀) (hk : cs.kind = .function)
    (hd : dp + 1 < recursionLimit) (hu : un + 8 < cLine)
    (ret : ∀ c t h' tk', Fr h₀ L h' m → News h₀ L h' news → Q (.str (S [c]) t) { s with heap := h', toks := tk' }) :
    wpAny (model PySem.Challenge.rw_dm0122_09.row.prog w) (ktrTop dp un gd cn cs L a ccd cl outer) (call (.ref 28) [.int x tx]) Q E s := by
  revert T; revert X; k_fill; intro X T
  refine wpAny_call ?_
  k_dflt ktr_enter
  rename_i g1 L1 h1 FG1 F1 N1 B1 X1 T1
  walk_at "ws"
  · dsimp only
    walk_at "ws"
    rename Fr g1 L1 _ _ => F2
    rename News g1 L1 _ _ => N2
    exact leaveK_ F2 N2 fun Fb Nb => ret ((Txt.charAt (Str.ofString "+-*") (x.fmod 5)).getD 0) _ _ _ Fb Nb
  · dsimp only
    walk_at "ws"
    rename Fr g1 L1 _ _ => F2
    rename News g1 L1 _ _ => N2
    exact leaveK_ F2 N2 fun Fb Nb => ret ((Txt.charAt (Str.ofString "0123456789") ((x.fdiv 5).fmod 10)).getD 0) _ _ _ Fb Nb
end Mine
end

section
open PySem PySem.W PyProof.Rows
set_option linter.unusedVariables false
namespace Mine
local macro_rules | `(tactic| size_fits) => `(tactic| ((simp only [PySem.Str.length_append, S_len, PySem.sizeLine_eq, List.length_cons, List.length_nil]); omega))
local macro_rules | `(tactic| walk_at "stop") => `(tactic| first
  | (with_reducible show wpAny _ _ (exec (Stmt.For _ _ _ _ _) _) _ _ _)
  | (with_reducible show wpAny _ _ (exec (Stmt.While _ _ _ _) _) _ _ _)
  | (with_reducible show wpAny _ _ (eval (Expr.ListComp _ _ _ _) _) _ _ _)
  | (with_reducible show wpAny _ _ (pyIter _) _ _ _)
  | (with_reducible show CTurn _ _ _ _ _ _ _ _ _ _ _ _ _ _ _)
  | (with_reducible show CEnd _ _ _ _ _ _ _ _)
  | (with_reducible show GEnd _ _ _ _ _ _ _)
  | (with_reducible show wpAny _ _ (call (Value.builtin "list.append") _) _ _ _)
  | (with_reducible show wpAny _ _ (subscriptTail _ _ (Value.ref _) (Value.int _ _)) _ _ _)
  | (with_reducible show LeaveK _ _ _ _ _ _ _))
local macro_rules | `(tactic| walk_at "GPost") => `(tactic| (dsimp only [GPost]))
local macro_rules | `(tactic| walk_at "ws") => `(tactic| repeat' (first | (k_unfold; (try dsimp only)) | ((fail_if_success (walk_at "stop")); walk1) | ((fail_if_success (walk_at "stop")); dsimp only; walk1) | (leave1; walk_say "STEP leave1"; try dsimp only)))

/-- what stands between the turns -/
def JT (P : Addr) (news : List (Addr × Obj)) (M text : List Nat) (tm : Tok) (i : Nat) (m : Str → Option Value) (nx : List (Addr × Obj)) : Prop :=
  ∃ n vs, nx = (P, W.listOf vs.toArray n) :: news ∧ StrsAre vs ((tksOf M (text.take i)).map S) ∧ m (Str.ofString "tokens") = some (.ref P) ∧ m (Str.ofString "marks") = some (.str (S M) tm)
theorem tokens09 {w : World} {mean : ExcName → Option Value} {mg mb : Str → Option Value} (dp un : Nat) (gd : Option (List Code)) (cn : Str) (cs : Scope) (a : Addr) (ccd : Value) (cl : List (Str × Addr)) (outer : List Env) (A₀ : Around) (base h₀ : Heap) (L : Addr) (m : Str → Option Value) (news : List (Addr × Obj)) (s : Shared)
    (Q E : Value → Shared → Prop) (text M : List Nat) (tt tm : Tok) (hlen : text.length ≤ 1000) (hM : M.length ≤ 1000)
    (B : Below A₀ base outer h₀) (F : Fr h₀ L s.heap m) (X : (hd09.heap_39 w.params).In h₀) (N : News h₀ L s.heap news) (T : Top hd09.view_39 (looseW hd09.view_39 []) mean mg mb h₀) (hk : cs.kind = .function)
    (hd : dp + 1 < recursionLimit) (hu : un + 8 < cLine)
    (ret : ∀ P n vs h' tk', StrsAre vs ((tksOf M text).map S) → (∀ q ∈ news, q.1 ≠ P) → Fr h₀ L h' m → News h₀ L h' ((P, W.listOf vs.toArray n) :: news) → Q (.ref P) { s with heap := h', toks := tk' }) :
    wpAny (model PySem.Challenge.rw_dm0122_09.row.prog w) (ktrTop dp un gd cn cs L a ccd cl outer) (call (.ref 35) [.str (S text) tt, .str (S M) tm]) Q E s := by
  revert T; revert X; k_fill; intro X T
  refine wpAny_call ?_
  k_dflt ktr_enter
  rename_i g1 L1 h1 FG1 F1 N1 B1 X1 T1
  walk_at "ws"
  rename Fr g1 L1 _ _ => F1
  rename News g1 L1 _ _ => N1
  refine For_invVF F1 rfl rfl ?_
  walk_at "ws"
  rename_i PA hA hPA hB
  have hPn : ∀ q ∈ news, q.1 ≠ PA := by
    intro q hq e
    have := hPA q hq
    rw [e] at this; exact Nat.lt_irrefl _ this
  refine forStr (JT PA news M text tm) rfl F1 N1 ?_ ?_ ?_
  · rw [show Str.ofString "" = S [] from by decide +kernel]
    exact ⟨0, [_], rfl, .cons _ _ .nil, rfl, rfl⟩
  · rintro i c t m₁ nx h tk own I hc ⟨n, vs, rfl, hvs, hm1, hm2⟩ ⟨oI, hIo⟩ hof hnI F2 N2
    have F3 := fr_turn [(Str.ofString "tokens", .ref PA), (Str.ofString "marks", .str (S M) tm)] F2 (by simp [hm1, hm2])
    clear F2
    obtain ⟨hil, hce⟩ := List.getElem?_eq_some_iff.mp hc
    have hstep : tksOf M (text.take (i + 1)) = stepT M (tksOf M (text.take i)) c := by
      rw [List.take_add_one, hc]; exact tks_snoc _ _ _
    have hIP : ∀ q ∈ own, q.1 ≠ PA := fun q hq e => hnI _ (.head _) (by rw [← e, hof q hq])
    obtain ⟨all, hall⟩ : ∃ all, all = own ++ (PA, W.listOf vs.toArray n) :: news := ⟨_, rfl⟩
    rw [← hall] at N2
    have hPm : (PA, W.listOf vs.toArray n) ∈ all := by rw [hall]; simp
    have hso : Sub own all := by rw [hall]; exact fun p hp => List.mem_append_left _ hp
    have hsn : Sub news all := by rw [hall]; exact fun p hp => List.mem_append_right _ (.tail _ hp)
    have hwf := (tks_ok M (text.take i)).1
    have hvl : vs.length ≤ 1001 := by
      have h1 := hvs.length
      have h2 := tks_len M (text.take i)
      rw [List.length_take] at h2
      rw [List.length_map] at h1; omega
    obtain ⟨l, tl, hlt⟩ : ∃ l tl, tksOf M (text.take i) = l ++ [tl] := by
      rcases List.eq_nil_or_concat (tksOf M (text.take i)) with e | ⟨l, tl, e⟩
      · exact absurd e hwf.ne
      · exact ⟨l, tl, by rw [e, List.concat_eq_append]⟩
    have htl : tl.length ≤ 1000 := by
      have h1 := (tks_ok M (text.take i)).2
      rw [hlt] at h1
      have h2 := congrArg List.length h1
      rw [List.flatten_append, List.length_append, List.length_take] at h2
      simp at h2; omega
    obtain ⟨us, u0, rfl, hus⟩ : ∃ us t0, vs = us ++ [.str (S tl) t0] ∧ StrsAre us (l.map S) := by
      rw [hlt, List.map_append] at hvs
      exact strs_snoc hvs
    have fin : ∀ {h' : Heap} {tk' n' : Nat} {vs' : List Value} {m' : Str → Option Value}, Fr g1 L1 h' m' → News g1 L1 h' (upd PA (W.listOf vs'.toArray n') all) → StrsAre vs' ((tksOf M (text.take (i + 1))).map S) → m' (Str.ofString "tokens") = some (.ref PA) → m' (Str.ofString "marks") = some (.str (S M) tm) →
        ∀ s : Shared, GEnd g1 L1 I (JT PA news M text tm (i + 1)) own s { s with heap := h', toks := tk' } := by
      intro h' tk' n' vs' m' F' N' hv e1 e2 s
      refine GEnd.intro ((PA, W.listOf vs'.toArray n') :: news) F' N' (fun p hp => mem_upd_ne (hso p hp) (hIP p hp)) ?_ ?_ ⟨n', vs', rfl, hv, e1, e2⟩
      · intro p hp
        rcases List.mem_cons.mp hp with rfl | hp
        · exact mem_upd_self hPm
        · exact mem_upd_ne (hsn p hp) (hPn p hp)
      · intro p hp
        rcases List.mem_cons.mp hp with rfl | hp
        · have := hnI _ (.head _); exact this
        · exact hnI p (.tail _ hp)
    have hSt : (S tl).length ≤ 1000 := by rw [S_len]; exact htl
    walk_at "ws"
    · rename (Builtin.Str.occurrences _ _ _ _ _).isEmpty = true => hns
      have hns : c ∉ M := by rw [in_sep] at hns; simpa using hns
      refine getItem_last N2 hPm ?_
      walk_at "ws"
      refine setItem_last F3 N2 hPm ?_
      intro h' F4 N4
      dsimp only
      walk_at "ws"
      refine fin F4 N4 ?_ rfl rfl _
      rw [hstep, hlt, stepT_out hns, List.map_append, S_app]
      exact hus.append' (.cons _ _ .nil)
    · rename (Builtin.Str.occurrences _ _ _ _ _).isEmpty = false => hns
      have hns : c ∈ M := by rw [in_sep] at hns; simpa using hns
      refine append_U F3 N2 hPm (by rw [List.size_toArray]; omega) ?_
      intro h' F4 N4
      dsimp only
      walk_at "ws"
      rw [List.push_toArray] at N4
      refine fin F4 N4 ?_ rfl rfl _
      rw [hstep, hlt, stepT_in hns, List.map_append]
      rw [hlt] at hvs
      exact hvs.append' (.cons _ _ .nil)
  · rintro m₁ nx h tk ⟨n, vs, rfl, hvs, hm1, hm2⟩ F2 N2
    rw [List.take_length] at hvs
    have F3 := fr_show [(Str.ofString "tokens", .ref PA), (Str.ofString "marks", .str (S M) tm)] F2 (by simp [hm1, hm2])
    walk_at "ws"
    dsimp only
    walk_at "ws"
    exact leaveK_ F3 N2 fun Fb Nb => ret _ _ _ _ _ hvs hPn Fb Nb
end Mine
end

section
open PySem PySem.W PyProof.Rows
set_option linter.unusedVariables false
namespace Mine
local macro_rules | `(tactic| size_fits) => `(tactic| ((simp only [PySem.Str.length_append, S_len, PySem.sizeLine_eq, List.size_toArray, List.length_cons, List.length_nil]); omega))
local macro_rules | `(tactic| walk_at "stop") => `(tactic| first
  | (with_reducible show wpAny _ _ (exec (Stmt.For _ _ _ _ _) _) _ _ _)
  | (with_reducible show wpAny _ _ (exec (Stmt.While _ _ _ _) _) _ _ _)
  | (with_reducible show wpAny _ _ (eval (Expr.ListComp _ _ _ _) _) _ _ _)
  | (with_reducible show wpAny _ _ (pyIter _) _ _ _)
  | (with_reducible show CTurn _ _ _ _ _ _ _ _ _ _ _ _ _ _ _)
  | (with_reducible show CEnd _ _ _ _ _ _ _ _)
  | (with_reducible show GEnd _ _ _ _ _ _ _)
  | (with_reducible show wpAny _ _ (call (Value.builtin "list.append") _) _ _ _)
  | (with_reducible show wpAny _ _ (subscriptTail _ _ (Value.ref _) (Value.int _ _)) _ _ _)
  | (with_reducible show wpAny _ _ (call (Value.builtin "len") [Value.ref _]) _ _ _)
  | (with_reducible show LeaveK _ _ _ _ _ _ _))
local macro_rules | `(tactic| walk_at "GPost") => `(tactic| (dsimp only [GPost]))
local macro_rules | `(tactic| walk_at "ws") => `(tactic| repeat' (first | (k_unfold; (try dsimp only)) | ((fail_if_success (walk_at "stop")); walk1) | ((fail_if_success (walk_at "stop")); dsimp only; walk1) | (leave1; walk_say "STEP leave1"; try dsimp only)))

theorem len_U {prog : Program} {w : World} {A : Around} {E : Value → Shared → Prop} {s : Shared} {h₀ : Heap} {L D : Addr} {all : List (Addr × Obj)} {vs : List Value} {n : Nat} {Q : Value → Shared → Prop} (N : News h₀ L s.heap all) (hm : (D, W.listOf vs.toArray n) ∈ all) (hsz : vs.length ≤ 1000000)
    (h : ∀ t k, Q (.int (vs.length : Int) t) { s with toks := k }) : wpAny (model prog w) A (call (.builtin "len") [.ref D]) Q E s := by
  have hl : s.heap.IsList D vs.toArray := ⟨_, (N _ hm).1, rfl, n, rfl⟩
  refine len_list hl (by rw [List.size_toArray]; omega) ?_
  rw [List.size_toArray]; exact h _ _
theorem item0 (c : Nat) (v : List Nat) : Txt.item (S (c :: v)) 0 = S [c] := by
  rw [item_meets ⟨by decide, by rw [S_len]; simp⟩]
  simp [S]
theorem stuckAt_pos {T : List (List Nat)} {j : Nat} (h : seenAt T (j + 2) = 0) : stuckAt T (j + 1 + 1) = j + 2 := by
  rw [stuckAt, if_pos h]
theorem stuckAt_neg {T : List (List Nat)} {j : Nat} (h : seenAt T (j + 2) ≠ 0) : stuckAt T (j + 1 + 1) = stuckAt T (j + 1) := by
  rw [stuckAt, if_neg h]
def JS (news : List (Addr × Obj)) (Tl : List (List Nat)) (P : Addr) (i : Nat) (m : Str → Option Value) (nx : List (Addr × Obj)) : Prop :=
  nx = news ∧ ∃ ts te, m (Str.ofString "stuck") = some (.int (stuckAt Tl i : Int) ts) ∧ m (Str.ofString "seen") = some (.int (seenAt Tl i : Int) te) ∧ m (Str.ofString "tokens") = some (.ref P)
theorem stuck09 {w : World} {mean : ExcName → Option Value} {mg mb : Str → Option Value} (dp un : Nat) (gd : Option (List Code)) (cn : Str) (cs : Scope) (a : Addr) (ccd : Value) (cl : List (Str × Addr)) (outer : List Env) (A₀ : Around) (base h₀ : Heap) (L : Addr) (m : Str → Option Value) (news : List (Addr × Obj)) (s : Shared)
    (Q E : Value → Shared → Prop) (M : List Nat) (Tl : List (List Nat)) (P : Addr) (n : Nat) (vs : List Value) (hT : WFT M Tl) (hP : (P, W.listOf vs.toArray n) ∈ news) (hvs : StrsAre vs (Tl.map S)) (hlen : Tl.length ≤ 1000) (hflat : ∀ t ∈ Tl, t.length ≤ 1000)
    (B : Below A₀ base outer h₀) (F : Fr h₀ L s.heap m) (X : (hd09.heap_39 w.params).In h₀) (N : News h₀ L s.heap news) (T : Top hd09.view_39 (looseW hd09.view_39 []) mean mg mb h₀) (hk : cs.kind = .function)
    (hd : dp + 1 < recursionLimit) (hu : un + 8 < cLine)
    (ret : ∀ t h' tk', Fr h₀ L h' m → News h₀ L h' news → Q (.int (stuckAt Tl (Tl.length - 1)) t) { s with heap := h', toks := tk' }) :
    wpAny (model PySem.Challenge.rw_dm0122_09.row.prog w) (ktrTop dp un gd cn cs L a ccd cl outer) (call (.ref 42) [.ref P]) Q E s := by
  revert T; revert X; k_fill; intro X T
  refine wpAny_call ?_
  k_dflt ktr_enter
  rename_i g1 L1 h1 FG1 F1 N1 B1 X1 T1
  walk_at "ws"
  rename Fr g1 L1 _ _ => F1
  rename News g1 L1 _ _ => N1
  have hvl : vs.length = Tl.length := by have := hvs.length; simpa using this
  have hpos : 0 < Tl.length := by
    have : Tl.length ≠ 0 := fun e => hT.ne (List.eq_nil_of_length_eq_zero e)
    omega
  have hitem : ∀ j, j < Tl.length → ∃ t, vs[j]? = some (.str (S (Tl.getD j [])) t) := by
    intro j hj
    refine strs_get hvs j _ ?_
    rw [List.getElem?_map, List.getElem?_eq_getElem hj, List.getD_eq_getElem?_getD, List.getElem?_eq_getElem hj]; rfl
  have hlens : ∀ j, (Tl.getD j []).length ≤ 1000 := by
    intro j
    by_cases hj : j < Tl.length
    · rw [List.getD_eq_getElem?_getD, List.getElem?_eq_getElem hj]; exact hflat _ (List.getElem_mem hj)
    · rw [List.getD_eq_getElem?_getD, List.getElem?_eq_none (by omega)]; simp
  obtain ⟨t0, ht0⟩ := hitem 0 hpos
  have hS0 : (S (Tl.getD 0 [])).length ≤ 1000 := by rw [S_len]; exact hlens 0
  refine item_U N1 hP (by decide) (by decide) (v := .str (S (Tl.getD 0 [])) t0) (by simpa using ht0) ?_
  walk_at "ws"
  rename Fr g1 L1 _ _ => F2
  rename News g1 L1 _ _ => N2
  rw [S_len] at F2
  refine For_invVF F2 rfl rfl ?_
  walk_at "ws"
  refine len_U N2 hP (by omega) ?_
  intro tl kl
  dsimp only
  walk_at "ws"
  rename Fr g1 L1 _ _ => F3
  rename News g1 L1 _ _ => N3
  rename IsRange _ _ _ _ _ _ _ _ => R3
  rw [hvl] at R3
  refine forRange (n := Tl.length - 1) 1 Tl.length (JS news Tl P) rfl R3 ?hsm ?hnn F3 N3 ?hj ?_ ?_
  case hsm => exact small_one (by decide) (by decide) (by omega) (by omega)
  case hnn => rw [rangeSize_nat]; omega
  case hj =>
    exact ⟨rfl, _, _, rfl, rfl, rfl⟩
  · rintro i t m₁ nx h tk own I hi ⟨rfl, ts, te, hm1, hm2, hm3⟩ ⟨oI, hIo⟩ hof hnI F4 N4
    have F5 := fr_turn [(Str.ofString "stuck", .int (stuckAt Tl i : Int) ts), (Str.ofString "seen", .int (seenAt Tl i : Int) te), (Str.ofString "tokens", .ref P)] F4 (by simp [hm1, hm2, hm3])
    have hseen : seenAt Tl i ≤ 2000000 := by
      have h : ∀ k, seenAt Tl k ≤ 1000 * (k + 1) := by
        intro k
        induction k with
        | zero => have := hlens 0; show (Tl.getD 0 []).length ≤ _; omega
        | succ k ih =>
          cases k with
          | zero => have := hlens 0; show (Tl.getD 0 []).length ≤ _; omega
          | succ k =>
            have := hlens (k + 1)
            unfold seenAt; split <;> omega
      have := h i
      have : 1000 * (i + 1) ≤ 1000 * 1000 := Nat.mul_le_mul_left _ (by omega)
      omega
    have hst := stuckAt_le Tl i
    obtain ⟨all, hall⟩ : ∃ all, all = own ++ nx := ⟨_, rfl⟩
    rw [← hall] at N4
    have hPm : (P, W.listOf vs.toArray n) ∈ all := by rw [hall]; exact List.mem_append_right _ hP
    have hso : Sub own all := by rw [hall]; exact fun p hp => List.mem_append_left _ hp
    have hsn : Sub nx all := by rw [hall]; exact fun p hp => List.mem_append_right _ hp
    clear F4
    have fin : ∀ {h' : Heap} {tk' : Nat} {m' : Str → Option Value} (zs ze : Int) (ts te : Tok), Fr g1 L1 h' m' → News g1 L1 h' all → zs = (stuckAt Tl (i + 1) : Int) → ze = (seenAt Tl (i + 1) : Int) → m' (Str.ofString "stuck") = some (.int zs ts) → m' (Str.ofString "seen") = some (.int ze te) → m' (Str.ofString "tokens") = some (.ref P) →
        ∀ s : Shared, GEnd g1 L1 I (JS nx Tl P (i + 1)) own s { s with heap := h', toks := tk' } := by
      intro h' tk' m' zs ze ts te F' N' e1 e2 e3 e4 e5 s
      exact GEnd.intro nx F' N' hso hsn hnI ⟨rfl, ts, te, by rw [e3, e1], by rw [e4, e2], e5⟩
    cases i with
    | zero =>
      walk_at "ws"
      · rename Fr g1 L1 _ _ => F6
        rename News g1 L1 _ _ => N6
        rename _ = (0 : Int) => h0
        have h0 : seenAt Tl 1 = 0 := by have : (seenAt Tl 0 : Int) = 0 := h0; show seenAt Tl 0 = 0; omega
        exact fin _ _ _ _ F6 N6 (by rw [stuckAt, if_pos h0]; rfl) rfl rfl rfl rfl _
      · rename Fr g1 L1 _ _ => F6
        rename News g1 L1 _ _ => N6
        rename _ ≠ (0 : Int) => h0
        have h0 : seenAt Tl 1 ≠ 0 := by have : (seenAt Tl 0 : Int) ≠ 0 := h0; show seenAt Tl 0 ≠ 0; omega
        exact fin _ _ _ _ F6 N6 (by show ((stuckAt Tl 0 : Nat) : Int) = ((stuckAt Tl (0 + 1) : Nat) : Int); rw [show stuckAt Tl (0 + 1) = if seenAt Tl 1 = 0 then 1 else stuckAt Tl 0 from rfl, if_neg h0]) rfl rfl rfl rfl _
    | succ j =>
      obtain ⟨c, v, hcv, hg2⟩ : ∃ c v, Tl[j + 2]? = some (c :: v) ∧ Tl.getD (j + 2) [] = c :: v := by
        have hlt : j + 2 < Tl.length := by omega
        obtain ⟨c, v, e, _⟩ := wft_get hT (List.getElem?_eq_getElem hlt)
        exact ⟨c, v, by rw [List.getElem?_eq_getElem hlt, e], by rw [List.getD_eq_getElem?_getD, List.getElem?_eq_getElem hlt, e]; rfl⟩
      obtain ⟨d, u, hdu, hg1⟩ : ∃ c v, Tl[j + 1]? = some (c :: v) ∧ Tl.getD (j + 1) [] = c :: v := by
        have hlt : j + 1 < Tl.length := by omega
        obtain ⟨c, v, e, _⟩ := wft_get hT (List.getElem?_eq_getElem hlt)
        exact ⟨c, v, by rw [List.getElem?_eq_getElem hlt, e], by rw [List.getD_eq_getElem?_getD, List.getElem?_eq_getElem hlt, e]; rfl⟩
      obtain ⟨t2, ht2⟩ := hitem (j + 2) (by omega)
      obtain ⟨t1, ht1⟩ := hitem (j + 1) (by omega)
      have hl1 := hlens (j + 1)
      have hl2 := hlens (j + 2)
      rw [hg2] at ht2 hl2
      rw [hg1] at ht1 hl1
      have hs : seenAt Tl (j + 2) = if c = d then u.length + seenAt Tl (j + 1) else u.length := by
        show (if (Tl.getD (j + 2) []).head? = (Tl.getD (j + 1) []).head? then ((Tl.getD (j + 1) []).length - 1) + seenAt Tl (j + 1) else (Tl.getD (j + 1) []).length - 1) = _
        rw [hg1, hg2]; simp
      have hS1 : (S (d :: u)).length ≤ 1000 := by rw [S_len]; exact hl1
      have hS2 : (S (c :: v)).length ≤ 1000 := by rw [S_len]; exact hl2
      have hS1' : 0 < (S (d :: u)).length := by rw [S_len]; simp
      have hS2' : 0 < (S (c :: v)).length := by rw [S_len]; simp
      have hit1 : vs.toArray[((1 : Int) + ((j + 1 : Nat) : Int) - 1).toNat]? = some (.str (S (d :: u)) t1) := by
        rw [show ((1 : Int) + ((j + 1 : Nat) : Int) - 1).toNat = j + 1 by omega]; simpa using ht1
      have hit2 : vs.toArray[((1 : Int) + ((j + 1 : Nat) : Int)).toNat]? = some (.str (S (c :: v)) t2) := by
        rw [show ((1 : Int) + ((j + 1 : Nat) : Int)).toNat = j + 2 by omega]; simpa using ht2
      walk_at "ws"
      refine item_U N4 hPm (by omega) (by omega) hit1 ?_
      walk_at "ws"
      rename News g1 L1 _ _ => N5
      refine item_U N5 hPm (by omega) (by omega) hit2 ?_
      walk_at "ws"
      rename News g1 L1 _ _ => N6
      refine item_U N6 hPm (by omega) (by omega) hit1 ?_
      have hSl : ((S (d :: u)).length : Int) = u.length + 1 := by rw [S_len]; simp
      walk_at "ws"
      · rename Fr g1 L1 _ _ => F7
        rename News g1 L1 _ _ => N7
        rename (_ == _) = true => he
        rename _ = (0 : Int) => h0
        rw [item0, item0] at he
        have hcd : c = d := by have := beq_iff_eq.mp he; rw [S_inj] at this; simpa using this
        rw [if_pos hcd] at hs
        have h1 : seenAt Tl (j + 2) = 0 := by rw [hs]; omega
        exact fin _ _ _ _ F7 N7 (by rw [stuckAt_pos h1]; omega) (by rw [show seenAt Tl (j + 1 + 1) = _ from hs]; omega) rfl rfl rfl _
      · rename Fr g1 L1 _ _ => F7
        rename News g1 L1 _ _ => N7
        rename (_ == _) = true => he
        rename _ ≠ (0 : Int) => h0
        rw [item0, item0] at he
        have hcd : c = d := by have := beq_iff_eq.mp he; rw [S_inj] at this; simpa using this
        rw [if_pos hcd] at hs
        have h1 : seenAt Tl (j + 2) ≠ 0 := by rw [hs]; omega
        exact fin _ _ _ _ F7 N7 (by rw [stuckAt_neg h1]) (by rw [show seenAt Tl (j + 1 + 1) = _ from hs]; omega) rfl rfl rfl _
      · rename Fr g1 L1 _ _ => F7
        rename News g1 L1 _ _ => N7
        rename (_ == _) = false => he
        rename _ = (0 : Int) => h0
        rw [item0, item0] at he
        have hcd : c ≠ d := by rintro rfl; simp at he
        rw [if_neg hcd] at hs
        have h1 : seenAt Tl (j + 2) = 0 := by rw [hs]; omega
        exact fin _ _ _ _ F7 N7 (by rw [stuckAt_pos h1]; omega) (by rw [show seenAt Tl (j + 1 + 1) = _ from hs]; omega) rfl rfl rfl _
      · rename Fr g1 L1 _ _ => F7
        rename News g1 L1 _ _ => N7
        rename (_ == _) = false => he
        rename _ ≠ (0 : Int) => h0
        rw [item0, item0] at he
        have hcd : c ≠ d := by rintro rfl; simp at he
        rw [if_neg hcd] at hs
        have h1 : seenAt Tl (j + 2) ≠ 0 := by rw [hs]; omega
        exact fin _ _ _ _ F7 N7 (by rw [stuckAt_neg h1]) (by rw [show seenAt Tl (j + 1 + 1) = _ from hs]; omega) rfl rfl rfl _
  · rintro m₁ nx h tk ⟨rfl, ts, te, hm1, hm2, hm3⟩ F4 N4
    have F5 := fr_show [(Str.ofString "stuck", .int (stuckAt Tl (Tl.length - 1) : Int) ts), (Str.ofString "seen", .int (seenAt Tl (Tl.length - 1) : Int) te), (Str.ofString "tokens", .ref P)] F4 (by simp [hm1, hm2, hm3])
    walk_at "ws"
    dsimp only
    walk_at "ws"
    exact leaveK_ F5 N4 fun Fb Nb => ret _ _ _ Fb Nb
end Mine
end

section
open PySem PySem.W PyProof.Rows
set_option linter.unusedVariables false
namespace Mine
local macro_rules | `(tactic| size_fits) => `(tactic| ((simp only [PySem.Str.length_append, S_len, PySem.sizeLine_eq, List.length_append, List.length_cons, List.length_nil]); omega))
local macro_rules | `(tactic| walk_at "stop") => `(tactic| first
  | (with_reducible show wpAny _ _ (exec (Stmt.For _ _ _ _ _) _) _ _ _)
  | (with_reducible show wpAny _ _ (exec (Stmt.While _ _ _ _) _) _ _ _)
  | (with_reducible show wpAny _ _ (exec (Stmt.Assign _ (Expr.ListComp _ _ _ _) _) _) _ _ _)
  | (with_reducible show wpAny _ _ (eval (Expr.ListComp _ _ _ _) _) _ _ _)
  | (with_reducible show wpAny _ _ (pyIter _) _ _ _)
  | (with_reducible show CTurn _ _ _ _ _ _ _ _ _ _ _ _ _ _ _)
  | (with_reducible show CEnd _ _ _ _ _ _ _ _)
  | (with_reducible show GEnd _ _ _ _ _ _ _)
  | (with_reducible show ite _ _ _)
  | (with_reducible show wpAny _ _ (call (Value.builtin "str.join") _) _ _ _)
  | (with_reducible show wpAny _ _ (call (Value.ref _) _) _ _ _)
  | (with_reducible show wpAny _ _ (subscriptTail _ _ (Value.ref _) (Value.int _ _)) _ _ _)
  | (with_reducible show wpAny _ _ (compareOp _ (Value.ref _) (Value.ref _)) _ _ _)
  | (with_reducible show wpAny _ _ (subscriptTail _ (Expr.Slice _ _ (some _) _) (Value.ref _) (Value.ref _)) _ _ _)
  | (with_reducible show wpAny _ _ (binaryOp Operator.Add (Value.ref _) _) _ _ _)
  | (with_reducible show wpAny _ _ (call (Value.builtin "len") [Value.ref _]) _ _ _)
  | (with_reducible show wpAny _ _ (call (Value.builtin "list.append") _) _ _ _)
  | (with_reducible show LeaveK _ _ _ _ _ _ _))
local macro_rules | `(tactic| walk_at "ws") => `(tactic| repeat' (first | (k_unfold; (try dsimp only)) | ((fail_if_success (walk_at "stop")); walk1) | ((fail_if_success (walk_at "stop")); dsimp only; walk1) | (leave1; walk_say "STEP leave1"; try dsimp only)))
local macro_rules | `(tactic| walk_at "stopx") => `(tactic| first
  | (with_reducible show wpAny _ _ (exec (Stmt.For _ _ _ _ _) _) _ _ _)
  | (with_reducible show wpAny _ _ (call (Value.ref _) _) _ _ _)
  | (with_reducible show wpAny _ _ (call (Value.builtin "list.append") _) _ _ _)
  | (with_reducible show LeaveK _ _ _ _ _ _ _))
local macro_rules | `(tactic| walk_at "wx") => `(tactic| repeat' (first | (k_unfold; (try dsimp only)) | ((fail_if_success (walk_at "stopx")); walk1) | ((fail_if_success (walk_at "stopx")); dsimp only; walk1) | (leave1; walk_say "STEP leave1"; try dsimp only)))
/-- the law came back True -/
def LawEnd (s₁ : Shared) (f : Flow) (s' : Shared) : Prop := ∃ h' tk' m', f = .ret (.bool true) ∧ s' = { s₁ with heap := h', toks := tk' } ∧ Fr s₁.heap s₁.heap.objs.size h' m'
theorem LawEnd.intro {s₁ : Shared} {h' : Heap} {tk' : Nat} {m' : Str → Option Value} (F : Fr s₁.heap s₁.heap.objs.size h' m') : LawEnd s₁ (.ret (.bool true)) { s₁ with heap := h', toks := tk' } := ⟨h', tk', m', rfl, rfl, F⟩
def defBody (p : Program) (n : Nat) : List Stmt := match p.main.body[n]? with
  | some (.FunctionDef (body := b) ..) => b
  | _ => []
def defScope (p : Program) (n : Nat) : Scope := match p.main.body[n]? with
  | some (.FunctionDef (scope := b) ..) => b
  | _ => default
def forOf (l : List Stmt) (k : Nat) : List Stmt := match l[k]? with
  | some (.For (body := b) ..) => b
  | _ => []
def step09 : List Stmt := forOf (defBody PySem.Challenge.pw_dm0122_09 6) 5
def mark09 : List Stmt := forOf step09 1
def scope09 : Scope := defScope PySem.Challenge.pw_dm0122_09 6
abbrev env09 (L fa : Addr) (cA : Value) : Env := envOfC (Str.ofString "law") scope09 L fa cA
theorem cfin_assignR {prog : Program} {w : World} {A : Around} {E : Value → Shared → Prop} {s : Shared} {env : Env} {h₀ : Heap} {L : Addr} {m : Str → Option Value} {y : Str} {py : Pos} {n : Nat} {G : Nat → Option Value → Prop} {news : List (Addr × Obj)} {R : Shared → Prop} (hL : env.locals = L) (hy : env.kindOf y = some .local) (hp : (env.scope.kind == .class || (env.scope.kind == .module && env.locals != env.globals)) = false)
    (fin : ∀ D h tk (gs : List (Option Value)), Fr h₀ L h (fun z => if z = y then some (.ref D) else m z) → News h₀ L h ((D, LCg.lst (gs.filterMap id)) :: news) → (∀ p ∈ news, p.1 < D) → gs.length = n → (∀ j g, gs[j]? = some g → G j g) → R { s with heap := h, toks := tk }) :
    CFin h₀ L m s n G news (fun acc C => compPost (model prog w) A E (some (assign (.Name y py) env)) (fun _ s' => R s') acc C) := by
  subst hL
  exact cfin_assign (Q := fun _ s' => R s') hy hp fin
theorem gs_filter {e : Nat} : ∀ {gs : List (Option Value)} {M : List Nat}, gs.length = M.length → (∀ (j : Nat) (g : Option Value), gs[j]? = some g → ∃ c, M[j]? = some c ∧ ((c = e ∧ g = none) ∨ (c ≠ e ∧ ∃ t, g = some (Value.str (S [c]) t)))) → StrsAre (gs.filterMap id) ((M.filter (· ≠ e)).map fun c => S [c])
  | [], [], _, _ => .nil
  | [], _ :: _, h, _ => by simp at h
  | _ :: _, [], h, _ => by simp at h
  | g :: gs, c :: M, h, k => by
    have ih := gs_filter (gs := gs) (M := M) (by simpa using h) fun j g hj => by
      obtain ⟨c, a, b⟩ := k (j + 1) g (by simpa using hj)
      exact ⟨c, by simpa using a, b⟩
    obtain ⟨c', e1, e2⟩ := k 0 g rfl
    have : c = c' := by simpa using e1
    subst this
    rcases e2 with ⟨hc, rfl⟩ | ⟨hc, t, rfl⟩
    · simp [hc]; simpa [hc] using ih
    · rw [List.filter_cons_of_pos (by simpa using hc)]
      exact .cons _ t ih
/-- behind a mark's turn -/
def MarkEnd (s₁ : Shared) (U : Addr) (pre : List (Addr × Obj)) (us : List Value) (rest : List (Addr × Obj)) (x : List Nat × List Nat) (m : Str → Option Value) (f : Flow) (s' : Shared) : Prop :=
  f = .next ∧ ∃ h' tk' m' rT t1 t2 n', s' = { s₁ with heap := h', toks := tk' } ∧ Fr s₁.heap s₁.heap.objs.size h' m' ∧ News s₁.heap s₁.heap.objs.size h' (pre ++ (U, W.listOf (us ++ [Value.ref rT]).toArray n') :: (rT, tup2 x.1 x.2 t1 t2) :: rest) ∧ (∀ q ∈ pre ++ rest, q.1 < rT) ∧ U < rT ∧ ∀ z, z ≠ Str.ofString "others" → m' z = m z
theorem mark_ok {w : World} {mean : ExcName → Option Value} {mg mb : Str → Option Value} (s₁ : Shared) (fa : Addr) (cA : Value) (K0 : Below callerA s₁.heap [] s₁.heap) (T : Top hd09.view_39 (looseW hd09.view_39 []) mean mg mb s₁.heap) (KX : (hd09.heap_39 w.params).In s₁.heap)
    {M lf : List Nat} {e a : Nat} {alt : List Nat} {tm te tl : Tok} {m : Str → Option Value} {h : Heap} {tk n : Nat} {I U : Addr} {oI oc ol : Obj} {us : List Value} {rest : List (Addr × Obj)}
    (hM : M.length ≤ 3) (hfil : M.filter (· ≠ e) = a :: alt) (hone : OneAlt alt) (hlf : lf.length ≤ 1000) (hus : us.length ≤ 1000)
    (hoc : oc.data = .cell (some (.str (S [e]) te))) (hol : ol.data = .cell (some (.str (S lf) tl)))
    (hU : ∀ q ∈ (I, oI) :: (s₁.heap.objs.size + 1 + 1, oc) :: (s₁.heap.objs.size + 1, ol) :: rest, q.1 ≠ U)
    (F : Fr s₁.heap s₁.heap.objs.size h m) (N : News s₁.heap s₁.heap.objs.size h ((I, oI) :: (s₁.heap.objs.size + 1 + 1, oc) :: (s₁.heap.objs.size + 1, ol) :: (U, W.listOf us.toArray n) :: rest))
    (hm1 : m (Str.ofString "marks") = some (.str (S M) tm)) (hm2 : m (Str.ofString "cuts") = some (.ref U)) :
    wpAny (model PySem.Challenge.rw_dm0122_09.row.prog w) (callerA.deeper (env09 s₁.heap.objs.size fa cA)) (execs mark09 (env09 s₁.heap.objs.size fa cA))
      (MarkEnd s₁ U [(I, oI), (s₁.heap.objs.size + 1 + 1, oc), (s₁.heap.objs.size + 1, ol)] us rest (spl lf [a] alt [e]) m) (fun _ _ => False) { s₁ with heap := h, toks := tk } := by
  revert KX; k_fill; intro KX
  unfold env09
  conv in (mark09) => whnf
  simp only [show scope09 = defScope PySem.Challenge.pw_dm0122_09 6 from rfl]
  conv in (occs := *) (defScope PySem.Challenge.pw_dm0122_09 6) => all_goals whnf
  have F9 := fr_show [(Str.ofString "marks", .str (S M) tm), (Str.ofString "cuts", .ref U)] F (by simp [hm1, hm2])
  have hSl : (S lf).length ≤ 1000 := by rw [S_len]; exact hlf
  have hSM : (S M).length ≤ 3 := by rw [S_len]; exact hM
  clear F
  walk_at "ws"
  refine ListComp_A rfl rfl rfl (by decide) ?_
  walk_at "ws"
  rename Fr s₁.heap s₁.heap.objs.size _ _ => F1
  rename News s₁.heap s₁.heap.objs.size _ _ => N1
  refine csrc_str (fun j g => ∃ c, M[j]? = some c ∧ ((c = e ∧ g = none) ∨ (c ≠ e ∧ ∃ t, g = some (Value.str (S [c]) t)))) rfl (by decide) rfl rfl F1 N1 (by rw [PySem.sizeLine_eq]; omega) ?_ (cfin_assignR rfl rfl rfl ?_)
  · intro j hj
    unfold CTurn
    rintro I2 oI2 C oC D2 oD2 m₃ h2 tk2 E' ⟨c, tc, hc, hm3⟩ hC F4 N4 hoff
    refine wpAny_tests_one ?_
    walk_at "ws"
    by_cases hce : c = e
    · rw [if_neg (by rw [hce]; simp)]
      exact CEnd.intro F4 N4 (fun _ h => h) ⟨c, hc, .inl ⟨hce, rfl⟩⟩
    · rw [if_pos (by rw [bne_iff_ne]; exact fun h => hce (by simpa using S_inj.mp h))]
      walk_at "ws"
      exact CEnd.intro F4 N4 (fun _ h => h) ⟨c, hc, .inr ⟨hce, _, rfl⟩⟩
  · intro D h tk gs Fd Nd hlt hgl hG
    have hst := gs_filter hgl hG
    rw [hfil] at hst
    generalize gs.filterMap id = ov at Nd hst
    have fin0 : ∀ {h4 : Heap} {tk4 n' : Nat} {m4 : Str → Option Value} {rT : Addr} {u1 u2 : Tok}, Fr s₁.heap s₁.heap.objs.size h4 m4 → News s₁.heap s₁.heap.objs.size h4 (upd U (W.listOf (us ++ [Value.ref rT]).toArray n') ((rT, tup2 (spl lf [a] alt [e]).1 (spl lf [a] alt [e]).2 u1 u2) :: (D, LCg.lst ov) :: (I, oI) :: (s₁.heap.objs.size + 1 + 1, oc) :: (s₁.heap.objs.size + 1, ol) :: (U, W.listOf us.toArray n) :: rest)) →
        (∀ q ∈ (D, LCg.lst ov) :: (I, oI) :: (s₁.heap.objs.size + 1 + 1, oc) :: (s₁.heap.objs.size + 1, ol) :: (U, W.listOf us.toArray n) :: rest, q.1 < rT) → (∀ z, z ≠ Str.ofString "others" → m4 z = m z) →
        MarkEnd s₁ U [(I, oI), (s₁.heap.objs.size + 1 + 1, oc), (s₁.heap.objs.size + 1, ol)] us rest (spl lf [a] alt [e]) m .next { s₁ with heap := h4, toks := tk4 } := by
      intro h4 tk4 n' m4 rT u1 u2 F4 N4 hlt4 hm4
      have hUr : U < rT := hlt4 (U, _) (.tail _ (.tail _ (.tail _ (.tail _ (.head _)))))
      refine ⟨rfl, h4, tk4, m4, rT, u1, u2, n', rfl, F4, news_sub N4 ?_, ?_, hUr, hm4⟩
      · have h1 := hU _ (.head _)
        have h2 := hU _ (.tail _ (.head _))
        have h3 := hU _ (.tail _ (.tail _ (.head _)))
        have hself : (U, W.listOf (us ++ [Value.ref rT]).toArray n') ∈ upd U (W.listOf (us ++ [Value.ref rT]).toArray n') ((rT, tup2 (spl lf [a] alt [e]).1 (spl lf [a] alt [e]).2 u1 u2) :: (D, LCg.lst ov) :: (I, oI) :: (s₁.heap.objs.size + 1 + 1, oc) :: (s₁.heap.objs.size + 1, ol) :: (U, W.listOf us.toArray n) :: rest) := mem_upd_self (o := W.listOf us.toArray n) (.tail _ (.tail _ (.tail _ (.tail _ (.tail _ (.head _))))))
        intro p hp
        rcases List.mem_append.mp hp with hp | hp
        · have hp' : p = (I, oI) ∨ p = (s₁.heap.objs.size + 1 + 1, oc) ∨ p = (s₁.heap.objs.size + 1, ol) := by simpa using hp
          rcases hp' with rfl | rfl | rfl
          · exact mem_upd_ne (.tail _ (.tail _ (.head _))) h1
          · exact mem_upd_ne (.tail _ (.tail _ (.tail _ (.head _)))) h2
          · exact mem_upd_ne (.tail _ (.tail _ (.tail _ (.tail _ (.head _))))) h3
        · rcases List.mem_cons.mp hp with rfl | hp
          · exact hself
          · rcases List.mem_cons.mp hp with rfl | hp
            · exact mem_upd_ne (.head _) (Ne.symm (Nat.ne_of_lt hUr))
            · exact mem_upd_ne (.tail _ (.tail _ (.tail _ (.tail _ (.tail _ (.tail _ hp)))))) (hU p (.tail _ (.tail _ (.tail _ hp))))
      · intro q hq
        rcases List.mem_append.mp hq with hq | hq
        · have hq' : q = (I, oI) ∨ q = (s₁.heap.objs.size + 1 + 1, oc) ∨ q = (s₁.heap.objs.size + 1, ol) := by simpa using hq
          rcases hq' with rfl | rfl | rfl
          · exact hlt4 _ (.tail _ (.head _))
          · exact hlt4 _ (.tail _ (.tail _ (.head _)))
          · exact hlt4 _ (.tail _ (.tail _ (.tail _ (.head _))))
        · exact hlt4 q (.tail _ (.tail _ (.tail _ (.tail _ (.tail _ hq)))))
    have hps : ∀ p ∈ [(Str.ofString "marks", Value.str (S M) tm), (Str.ofString "cuts", Value.ref U)], m p.1 = some p.2 := by simp [hm1, hm2]
    rcases hone with rfl | ⟨b, rfl⟩
    · obtain ⟨ta, rfl⟩ : ∃ t, ov = [.str (S [a]) t] := by
        cases hst with
        | cons z t r => cases r; exact ⟨t, rfl⟩
      dsimp only
      walk_at "wx"
      rename Fr s₁.heap s₁.heap.objs.size _ _ => F2
      rename News s₁.heap s₁.heap.objs.size _ _ => N2
      k_dflt (refine splitext_str _ _ _ _ _ _ _ _ _ _ _ _ _ _ _ _ _ _ lf [a] [e] [] _ _ _ _ (.inl ⟨rfl, rfl⟩) (by omega) (by simp) K0 F2 KX N2 T rfl ?hdp ?hun ?_)
      case hdp => ktr_room
      case hun => ktr_units
      intro rT u1 u2 h3 tk3 F3 N3 hlt3
      dsimp only
      walk_at "wx"
      refine append_U (its := us.toArray) (n := n) F3 N3 (.tail _ (.tail _ (.tail _ (.tail _ (.tail _ (.head _)))))) (by rw [List.size_toArray]; omega) ?_
      intro h4 F4 N4
      dsimp only
      walk_at "wx"
      rw [List.push_toArray] at N4
      exact fin0 F4 N4 hlt3 (fun z hz => by simp [hz, kstB_eq hps (fun _ => rfl)])
    · obtain ⟨ta, tb, rfl⟩ : ∃ t u, ov = [.str (S [a]) t, .str (S [b]) u] := by
        cases hst with
        | cons z t r => cases r with
          | cons z' t' r' => cases r'; exact ⟨t, t', rfl⟩
      dsimp only
      walk_at "wx"
      rename Fr s₁.heap s₁.heap.objs.size _ _ => F2
      rename News s₁.heap s₁.heap.objs.size _ _ => N2
      k_dflt (refine splitext_str _ _ _ _ _ _ _ _ _ _ _ _ _ _ _ _ _ _ lf [a] [e] [b] _ _ _ _ (.inr ⟨_, rfl⟩) (by omega) (by simp) K0 F2 KX N2 T rfl ?hdp ?hun ?_)
      case hdp => ktr_room
      case hun => ktr_units
      intro rT u1 u2 h3 tk3 F3 N3 hlt3
      dsimp only
      walk_at "wx"
      refine append_U (its := us.toArray) (n := n) F3 N3 (.tail _ (.tail _ (.tail _ (.tail _ (.tail _ (.head _)))))) (by rw [List.size_toArray]; omega) ?_
      intro h4 F4 N4
      dsimp only
      walk_at "wx"
      rw [List.push_toArray] at N4
      exact fin0 F4 N4 hlt3 (fun z hz => by simp [hz, kstB_eq hps (fun _ => rfl)])
end Mine
end

section
open PySem PySem.W PyProof.Rows
set_option linter.unusedVariables false
namespace Mine
local macro_rules | `(tactic| size_fits) => `(tactic| ((simp only [PySem.Str.length_append, S_len, PySem.sizeLine_eq, List.length_append, List.length_cons, List.length_nil]); omega))
local macro_rules | `(tactic| walk_at "stop") => `(tactic| first
  | (with_reducible show wpAny _ _ (exec (Stmt.For _ _ _ _ _) _) _ _ _)
  | (with_reducible show wpAny _ _ (exec (Stmt.While _ _ _ _) _) _ _ _)
  | (with_reducible show wpAny _ _ (exec (Stmt.Assign _ (Expr.ListComp _ _ _ _) _) _) _ _ _)
  | (with_reducible show wpAny _ _ (eval (Expr.ListComp _ _ _ _) _) _ _ _)
  | (with_reducible show wpAny _ _ (pyIter _) _ _ _)
  | (with_reducible show CTurn _ _ _ _ _ _ _ _ _ _ _ _ _ _ _)
  | (with_reducible show CEnd _ _ _ _ _ _ _ _)
  | (with_reducible show GEnd _ _ _ _ _ _ _)
  | (with_reducible show ite _ _ _)
  | (with_reducible show wpAny _ _ (call (Value.builtin "str.join") _) _ _ _)
  | (with_reducible show wpAny _ _ (call (Value.ref _) _) _ _ _)
  | (with_reducible show wpAny _ _ (subscriptTail _ _ (Value.ref _) (Value.int _ _)) _ _ _)
  | (with_reducible show wpAny _ _ (compareOp _ (Value.ref _) (Value.ref _)) _ _ _)
  | (with_reducible show wpAny _ _ (subscriptTail _ (Expr.Slice _ _ (some _) _) (Value.ref _) (Value.ref _)) _ _ _)
  | (with_reducible show wpAny _ _ (binaryOp Operator.Add (Value.ref _) _) _ _ _)
  | (with_reducible show wpAny _ _ (call (Value.builtin "len") [Value.ref _]) _ _ _)
  | (with_reducible show wpAny _ _ (call (Value.builtin "list.append") _) _ _ _)
  | (with_reducible show LeaveK _ _ _ _ _ _ _))
local macro_rules | `(tactic| walk_at "ws") => `(tactic| repeat' (first | (k_unfold; (try dsimp only)) | ((fail_if_success (walk_at "stop")); walk1) | ((fail_if_success (walk_at "stop")); dsimp only; walk1) | (leave1; walk_say "STEP leave1"; try dsimp only)))
local macro_rules | `(tactic| walk_at "stopx") => `(tactic| first
  | (with_reducible show wpAny _ _ (exec (Stmt.For _ _ _ _ _) _) _ _ _)
  | (with_reducible show wpAny _ _ (call (Value.ref _) _) _ _ _)
  | (with_reducible show wpAny _ _ (call (Value.builtin "list.append") _) _ _ _)
  | (with_reducible show LeaveK _ _ _ _ _ _ _))
local macro_rules | `(tactic| walk_at "wx") => `(tactic| repeat' (first | (k_unfold; (try dsimp only)) | ((fail_if_success (walk_at "stopx")); walk1) | ((fail_if_success (walk_at "stopx")); dsimp only; walk1) | (leave1; walk_say "STEP leave1"; try dsimp only)))
/-- a cut on the heap -/
structure RC where
  q : Addr
  x : List Nat
  y : List Nat
  t : Tok
  u : Tok
def RC.led (r : RC) : Addr × Obj := (r.q, tup2 r.x r.y r.t r.u)
noncomputable def cutOf (M lf : List Nat) (e : Nat) : List Nat × List Nat := spl lf [(M.filter (· ≠ e)).headD 0] ((M.filter (· ≠ e)).drop 1) [e]
theorem gs_real {z : List Nat × List Nat} : ∀ {gs : List (Option Value)} {R : List RC}, gs.length = R.length → (∀ (j : Nat) (g : Option Value), gs[j]? = some g → ∃ r, R[j]? = some r ∧ (((r.x, r.y) = z ∧ g = none) ∨ ((r.x, r.y) ≠ z ∧ g = some (Value.ref r.q)))) → gs.filterMap id = (R.filter (fun r => decide ((r.x, r.y) ≠ z))).map fun r => Value.ref r.q
  | [], [], _, _ => rfl
  | [], _ :: _, h, _ => by simp at h
  | _ :: _, [], h, _ => by simp at h
  | g :: gs, r :: R, h, k => by
    have ih := gs_real (z := z) (gs := gs) (R := R) (by simpa using h) fun j g hj => by
      obtain ⟨c, a, b⟩ := k (j + 1) g (by simpa using hj)
      exact ⟨c, by simpa using a, b⟩
    obtain ⟨r', e1, e2⟩ := k 0 g rfl
    have : r = r' := by simpa using e1
    subst this
    rcases e2 with ⟨hc, rfl⟩ | ⟨hc, rfl⟩
    · rw [List.filter_cons_of_neg (by simpa using hc)]
      exact ih
    · rw [List.filter_cons_of_pos (by simpa using hc)]
      show Value.ref r.q :: _ = _
      rw [List.map_cons]; congr 1
theorem none_real {α β : Type} [DecidableEq β] {f : α → β} {g : Nat → β} {z : β} : ∀ {L : List α} {M : List Nat}, L.map f = M.map g → (∀ e ∈ M, g e = z) → L.filter (fun r => decide (f r ≠ z)) = []
  | [], _, _, _ => rfl
  | r :: L, [], h, _ => by cases h
  | r :: L, e :: M, h, k => by
    simp only [List.map_cons, List.cons.injEq] at h
    rw [List.filter_cons_of_neg (by simp [h.1, k e (.head _)])]
    exact none_real h.2 fun e he => k e (.tail _ he)
theorem one_real {α β : Type} [DecidableEq β] {f : α → β} {g : Nat → β} {z : β} {e₀ : Nat} : ∀ {L : List α} {M : List Nat}, L.map f = M.map g → M.Nodup → e₀ ∈ M → g e₀ ≠ z → (∀ e ∈ M, e ≠ e₀ → g e = z) → ∃ r, r ∈ L ∧ f r = g e₀ ∧ L.filter (fun r => decide (f r ≠ z)) = [r]
  | [], [], _, _, h, _, _ => by cases h
  | [], _ :: _, h, _, _, _, _ => by cases h
  | _ :: _, [], h, _, _, _, _ => by cases h
  | r :: L, e :: M, h, hn, hm, hz, k => by
    simp only [List.map_cons, List.cons.injEq] at h
    obtain ⟨hn1, hn2⟩ := List.nodup_cons.mp hn
    by_cases he : e = e₀
    · subst he
      refine ⟨r, .head _, h.1, ?_⟩
      rw [List.filter_cons_of_pos (by simpa [h.1] using hz), none_real h.2 fun e' he' => k e' (.tail _ he') (fun q => hn1 (q ▸ he'))]
    · obtain ⟨r', a1, a2, a3⟩ := one_real h.2 hn2 ((List.mem_cons.mp hm).resolve_left (fun q => he q.symm)) hz fun e' he' => k e' (.tail _ he')
      refine ⟨r', .tail _ a1, a2, ?_⟩
      rw [List.filter_cons_of_neg (by simp [h.1, k e (.head _) he]), a3]
/-- what stands between the marks -/
def JM (M lf : List Nat) (U L : Addr) (ol : Obj) (base : List (Addr × Obj)) (m₀ : Str → Option Value) (i : Nat) (m : Str → Option Value) (nx : List (Addr × Obj)) : Prop :=
  ∃ n, ∃ R : List RC, nx = (L + 1, ol) :: (U, W.listOf (R.reverse.map fun r => Value.ref r.q).toArray n) :: (R.map RC.led ++ base) ∧ R.reverse.map (fun r => (r.x, r.y)) = (M.take i).map (cutOf M lf) ∧ (∀ q ∈ (L + 1, ol) :: (R.map RC.led ++ base), q.1 ≠ U) ∧ ∀ z, z ≠ Str.ofString "others" → m z = m₀ z
/-- behind a step -/
def StepEnd (s₁ : Shared) (I P K : Addr) (oI oP : Obj) (kv : List Value) (lf : List Nat) (out : Option (List Nat × List Nat)) (m : Str → Option Value) (f : Flow) (s' : Shared) : Prop :=
  ∃ h' tk' m' oc u ol tl nK, s' = { s₁ with heap := h', toks := tk' } ∧ Fr s₁.heap s₁.heap.objs.size h' m' ∧ oc.data = .cell u ∧
    (∀ z, z ≠ Str.ofString "others" → z ≠ Str.ofString "cuts" → z ≠ Str.ofString "real" → z ≠ Str.ofString "ending" → m' z = m z) ∧
    match out with
    | none => f = .brk ∧ ol.data = .cell (some (.str (S lf) tl)) ∧ News s₁.heap s₁.heap.objs.size h' [(I, oI), (s₁.heap.objs.size + 1 + 1, oc), (s₁.heap.objs.size + 1, ol), (P, oP), (K, W.listOf kv.toArray nK)]
    | some (x, y) => f = .next ∧ ol.data = .cell (some (.str (S x) tl)) ∧ ∃ ty, News s₁.heap s₁.heap.objs.size h' [(I, oI), (s₁.heap.objs.size + 1 + 1, oc), (s₁.heap.objs.size + 1, ol), (P, oP), (K, W.listOf (kv ++ [Value.str (S y) ty]).toArray nK)]
def ItD (s₁ : Shared) (c : Addr) (oc : Obj) (M : List Nat) (tm : Tok) (news : List (Addr × Obj)) (m₀ : Str → Option Value) (s : Shared) (xv : Value) (s' : Shared) : Prop := ∃ h tk, xv = .str (S M) tm ∧ s' = { s with heap := h, toks := tk } ∧ Fr s₁.heap s₁.heap.objs.size h m₀ ∧ News s₁.heap s₁.heap.objs.size h ((c, oc) :: news)
theorem cutOf_fil {M lf : List Nat} {e a : Nat} {alt : List Nat} (h : M.filter (· ≠ e) = a :: alt) : spl lf [a] alt [e] = cutOf M lf e := by
  unfold cutOf; rw [h]; rfl
theorem step_ok {w : World} {mean : ExcName → Option Value} {mg mb : Str → Option Value} (s₁ : Shared) (fa : Addr) (cA : Value) (K0 : Below callerA s₁.heap [] s₁.heap) (T : Top hd09.view_39 (looseW hd09.view_39 []) mean mg mb s₁.heap) (KX : (hd09.heap_39 w.params).In s₁.heap)
    {M lf : List Nat} {tm tl : Tok} {m : Str → Option Value} {h : Heap} {tk nK : Nat} {I P K : Addr} {oI oc ol oP : Obj} {u₀ : Option Value} {kv : List Value} (out : Option (List Nat × List Nat))
    (hM : M.length ≤ 3) (hnd : M.Nodup) (hfil : ∀ e ∈ M, ∃ a alt, M.filter (· ≠ e) = a :: alt ∧ OneAlt alt) (hlf : lf.length ≤ 1000) (hkv : kv.length ≤ 1000)
    (hout : match out with | none => ∀ e ∈ M, cutOf M lf e = (lf, []) | some z => z ≠ (lf, []) ∧ ∃ e₀ ∈ M, cutOf M lf e₀ = z ∧ ∀ e ∈ M, e ≠ e₀ → cutOf M lf e = (lf, []))
    (hoc : oc.data = .cell u₀) (hol : ol.data = .cell (some (.str (S lf) tl)))
    (hdis : ∀ q ∈ [(I, oI), (s₁.heap.objs.size + 1 + 1, oc), (s₁.heap.objs.size + 1, ol), (P, oP)], q.1 ≠ K) (hIc : I ≠ s₁.heap.objs.size + 1 + 1) (hIl : I ≠ s₁.heap.objs.size + 1) (hPc : P ≠ s₁.heap.objs.size + 1 + 1) (hPl : P ≠ s₁.heap.objs.size + 1)
    (F : Fr s₁.heap s₁.heap.objs.size h m) (N : News s₁.heap s₁.heap.objs.size h [(I, oI), (s₁.heap.objs.size + 1 + 1, oc), (s₁.heap.objs.size + 1, ol), (P, oP), (K, W.listOf kv.toArray nK)])
    (hm1 : m (Str.ofString "marks") = some (.str (S M) tm)) (hm2 : m (Str.ofString "taken") = some (.ref K)) :
    wpAny (model PySem.Challenge.rw_dm0122_09.row.prog w) (callerA.deeper (env09 s₁.heap.objs.size fa cA)) (execs step09 (env09 s₁.heap.objs.size fa cA))
      (StepEnd s₁ I P K oI oP kv lf out m) (fun _ _ => False) { s₁ with heap := h, toks := tk } := by
  revert KX; k_fill; intro KX
  unfold env09
  conv in (step09) => whnf
  simp only [show scope09 = defScope PySem.Challenge.pw_dm0122_09 6 from rfl]
  conv in (occs := *) (defScope PySem.Challenge.pw_dm0122_09 6) => all_goals whnf
  have hps : ∀ p ∈ [(Str.ofString "marks", Value.str (S M) tm), (Str.ofString "taken", Value.ref K)], m p.1 = some p.2 := by simp [hm1, hm2]
  have F9 := fr_show [(Str.ofString "marks", .str (S M) tm), (Str.ofString "taken", .ref K)] F hps
  clear F
  walk_at "ws"
  rename Fr s₁.heap s₁.heap.objs.size _ _ => F1
  rename News s₁.heap s₁.heap.objs.size _ _ => N1
  rename_i U hA hltU hB
  obtain ⟨base, hbase⟩ : ∃ base, base = [(I, oI), (P, oP), (K, W.listOf kv.toArray nK)] := ⟨_, rfl⟩
  obtain ⟨m0, F2, e1, e2, e3, e4⟩ : ∃ m0, Fr s₁.heap s₁.heap.objs.size hB m0 ∧ m0 (Str.ofString "marks") = some (.str (S M) tm) ∧ m0 (Str.ofString "cuts") = some (.ref U) ∧ m0 (Str.ofString "taken") = some (.ref K) ∧ ∀ z, z ≠ Str.ofString "cuts" → m0 z = m z :=
    ⟨_, F1, rfl, rfl, rfl, fun z hz => by simp [hz, kstB_eq hps (fun _ => rfl)]⟩
  have N2 : News s₁.heap s₁.heap.objs.size hB ((s₁.heap.objs.size + 1 + 1, oc) :: (s₁.heap.objs.size + 1, ol) :: (U, W.listOf #[] 0) :: (([] : List RC).map RC.led ++ base)) := news_sub N1 (by
    intro p hp
    rw [hbase] at hp
    have : p = (s₁.heap.objs.size + 1 + 1, oc) ∨ p = (s₁.heap.objs.size + 1, ol) ∨ p = (U, W.listOf #[] 0) ∨ p = (I, oI) ∨ p = (P, oP) ∨ p = (K, W.listOf kv.toArray nK) := by simpa using hp
    rcases this with rfl | rfl | rfl | rfl | rfl | rfl <;> simp)
  have hU1 : @LT.lt Nat _ I U := hltU.1
  have hU2 : @LT.lt Nat _ (s₁.heap.objs.size + 1 + 1) U := hltU.2.1
  have hU3 : @LT.lt Nat _ (s₁.heap.objs.size + 1) U := hltU.2.2.1
  have hU4 : @LT.lt Nat _ P U := hltU.2.2.2.1
  have hU5 : @LT.lt Nat _ K U := hltU.2.2.2.2
  have hbc : ∀ q ∈ base, q.1 ≠ s₁.heap.objs.size + 1 + 1 := by
    rw [hbase]; intro q hq
    have : q = (I, oI) ∨ q = (P, oP) ∨ q = (K, W.listOf kv.toArray nK) := by simpa using hq
    rcases this with rfl | rfl | rfl
    · exact hIc
    · exact hPc
    · exact Ne.symm (hdis _ (.tail _ (.head _)))
  have hbU : ∀ q ∈ base, q.1 ≠ U := by
    rw [hbase]; intro q hq
    have : q = (I, oI) ∨ q = (P, oP) ∨ q = (K, W.listOf kv.toArray nK) := by simpa using hq
    rcases this with rfl | rfl | rfl
    · show @Ne Nat I U; omega
    · show @Ne Nat P U; omega
    · show @Ne Nat K U; omega
  have F3 := fr_show [(Str.ofString "marks", .str (S M) tm), (Str.ofString "cuts", .ref U), (Str.ofString "taken", .ref K)] F2 (by simp [e1, e2, e3])
  clear F1 N1
  refine forStrD (c := s₁.heap.objs.size + 1 + 1) (oc₀ := oc) (v₀ := u₀) (p := M) (tx := tm) (m₀ := m0) (news := (s₁.heap.objs.size + 1, ol) :: (U, W.listOf #[] 0) :: (([] : List RC).map RC.led ++ base)) (h₀ := s₁.heap) (L := s₁.heap.objs.size) rfl (JM M lf U s₁.heap.objs.size ol base m0) rfl rfl rfl rfl ?hE ?hn hoc ?hj ?hit ?_ ?_
  case hE => passes_own
  case hn =>
    intro q hq
    rcases List.mem_cons.mp hq with rfl | hq
    · show @Ne Nat (s₁.heap.objs.size + 1) (s₁.heap.objs.size + 1 + 1); omega
    · rcases List.mem_cons.mp hq with rfl | hq
      · show @Ne Nat U (s₁.heap.objs.size + 1 + 1); omega
      · exact hbc q (by simpa using hq)
  case hj =>
    refine ⟨0, [], rfl, by simp, ?_, fun z _ => rfl⟩
    intro q hq
    rcases List.mem_cons.mp hq with rfl | hq
    · show @Ne Nat (s₁.heap.objs.size + 1) U; omega
    · exact hbU q (by simpa using hq)
  case hit =>
    show wpAny _ _ _ (ItD s₁ (s₁.heap.objs.size + 1 + 1) oc M tm ((s₁.heap.objs.size + 1, ol) :: (U, W.listOf #[] 0) :: (([] : List RC).map RC.led ++ base)) m0 _) _ _
    walk_at "ws"
    exact ⟨_, _, rfl, rfl, F2, N2⟩
  · rintro i d t m₁ nx h tk I2 oI2 oc2 hd ⟨n, R, rfl, hcut, hRU, hmm⟩ hnx hoc2 F4 N4
    have hdM : d ∈ M := List.mem_of_getElem? hd
    obtain ⟨a, alt, hf, hone⟩ := hfil d hdM
    have hRl : R.length ≤ 3 := by
      have := congrArg List.length hcut
      simp at this; omega
    refine wpAny_mono (mark_ok s₁ fa cA K0 T KX (us := R.reverse.map fun r => Value.ref r.q) (rest := R.map RC.led ++ base) (lf := lf) (m := m₁) (tm := tm) hM hf hone hlf (by simp; omega) hoc2 hol ?_ F4 N4 ?_ ?_) ?_ (fun _ _ e => e)
    · intro q hq
      rcases List.mem_cons.mp hq with rfl | hq
      · exact Ne.symm (hnx (U, _) (.tail _ (.head _))).1
      · rcases List.mem_cons.mp hq with rfl | hq
        · exact Ne.symm (hnx (U, _) (.tail _ (.head _))).2
        · exact hRU q hq
    · rw [hmm _ (by decide), e1]
    · rw [hmm _ (by decide), e2]
    · rintro f s' ⟨rfl, h', tk', m', rT, t1, t2, n', rfl, F5, N5, hlt5, hUr, hm5⟩
      have hltn : ∀ q ∈ [(I2, oI2), (s₁.heap.objs.size + 1 + 1, oc2), (s₁.heap.objs.size + 1, ol)] ++ (R.map RC.led ++ base), @LT.lt Nat _ q.1 rT := hlt5
      have hUrn : @LT.lt Nat _ U rT := hUr
      rw [cutOf_fil hf] at N5
      refine DStep.intro ((s₁.heap.objs.size + 1, ol) :: (U, W.listOf ((⟨rT, (cutOf M lf d).1, (cutOf M lf d).2, t1, t2⟩ :: R : List RC).reverse.map fun r => Value.ref r.q).toArray n') :: ((⟨rT, (cutOf M lf d).1, (cutOf M lf d).2, t1, t2⟩ :: R : List RC).map RC.led ++ base)) F5 N5 (by simp) (by simp) ?_ ?_ ⟨n', _, rfl, ?_, ?_, ?_⟩
      · intro p hp
        rcases List.mem_cons.mp hp with rfl | hp
        · simp
        · rcases List.mem_cons.mp hp with rfl | hp
          · simp
          · rcases List.mem_cons.mp hp with rfl | hp
            · simp [RC.led]
            · exact List.mem_append_right _ (.tail _ (.tail _ hp))
      · intro p hp
        rcases List.mem_cons.mp hp with rfl | hp
        · exact hnx _ (.head _)
        · rcases List.mem_cons.mp hp with rfl | hp
          · have := hnx (U, _) (.tail _ (.head _)); exact this
          · rcases List.mem_cons.mp hp with rfl | hp
            · have h1 := hltn (I2, oI2) (by simp)
              have h2 := hltn (s₁.heap.objs.size + 1 + 1, oc2) (by simp)
              refine ⟨?_, ?_⟩
              · show @Ne Nat rT I2; exact Ne.symm (Nat.ne_of_lt h1)
              · show @Ne Nat rT (s₁.heap.objs.size + 1 + 1); exact Ne.symm (Nat.ne_of_lt h2)
            · exact hnx p (.tail _ (.tail _ hp))
      · rw [List.reverse_cons, List.map_append, hcut, List.take_add_one, hd]; simp
      · intro q hq
        rcases List.mem_cons.mp hq with rfl | hq
        · exact hRU _ (.head _)
        · rcases List.mem_cons.mp hq with rfl | hq
          · show @Ne Nat rT U; omega
          · exact hRU q (.tail _ hq)
      · intro z hz
        rw [hm5 z hz, hmm z hz]
  · rintro m₁ nx h tk oc2 u2 ⟨n, R, rfl, hcut, hRU, hmm⟩ hnc hoc2 F4 N4
    rw [List.take_length] at hcut
    have hRl : R.length ≤ 3 := by
      have := congrArg List.length hcut
      simp at this; omega
    have F5 := fr_show [(Str.ofString "marks", .str (S M) tm), (Str.ofString "cuts", .ref U), (Str.ofString "taken", .ref K)] F4 (by simp [hmm _ (show Str.ofString "marks" ≠ Str.ofString "others" by decide), hmm _ (show Str.ofString "cuts" ≠ Str.ofString "others" by decide), hmm _ (show Str.ofString "taken" ≠ Str.ofString "others" by decide), e1, e2, e3])
    have hSl : (S lf).length ≤ 1000 := by rw [S_len]; exact hlf
    have hps2 : ∀ p ∈ [(Str.ofString "marks", Value.str (S M) tm), (Str.ofString "cuts", Value.ref U), (Str.ofString "taken", Value.ref K)], m₁ p.1 = some p.2 := by simp [hmm _ (show Str.ofString "marks" ≠ Str.ofString "others" by decide), hmm _ (show Str.ofString "cuts" ≠ Str.ofString "others" by decide), hmm _ (show Str.ofString "taken" ≠ Str.ofString "others" by decide), e1, e2, e3]
    dsimp only
    walk_at "ws"
    refine ListComp_A rfl rfl rfl (by decide) ?_
    walk_at "ws"
    rename Fr s₁.heap s₁.heap.objs.size _ _ => F6
    rename News s₁.heap s₁.heap.objs.size _ _ => N6
    refine csrc_list (its := R.reverse.map fun r => Value.ref r.q) (Bd := fun j m₃ => ∃ r, R.reverse[j]? = some r ∧ m₃ (Str.ofString "cut") = some (.ref r.q)) (G := fun j g => ∃ r, R.reverse[j]? = some r ∧ (((r.x, r.y) = (lf, []) ∧ g = none) ∨ ((r.x, r.y) ≠ (lf, []) ∧ g = some (.ref r.q)))) rfl (by decide) rfl F6 N6 (.tail _ (.tail _ (.head _))) ?_ ?_ ?_ ?_ (cfin_assignR rfl rfl rfl ?_)
    · simp [PySem.sizeLine_eq]; omega
    · intro I i v s' Q E' hv hit hq
      exact wpAny_pure hq
    · intro j v C h tk m' E' hv h1 h2 h3 h4 h5 h6
      refine wpAny_mono (bind_name (P := fun j v => (R.reverse.map fun r => Value.ref r.q)[j]? = some v) rfl rfl j v C h tk m' E' hv h1 h2 h3 h4 h5 h6) ?_ fun _ _ e => e
      rintro _ s₃ ⟨h₃, tk₃, m₃, e, hn₃, hk₃, v', hv', hm⟩
      rw [List.getElem?_map] at hv'
      cases hr : R.reverse[j]? with
      | none => rw [hr] at hv'; cases hv'
      | some r =>
        rw [hr] at hv'
        have : Value.ref r.q = v' := Option.some.inj hv'
        exact ⟨h₃, tk₃, m₃, e, hn₃, hk₃, r, rfl, by rw [hm, ← this]⟩
    · intro j hj
      unfold CTurn
      rintro I3 oI3 C oC D2 oD2 m₃ h2 tk2 E' ⟨r, hr, hm3⟩ hC F7 N7 hoff
      have hrR : r ∈ R := List.mem_reverse.mp (List.mem_of_getElem? hr)
      refine wpAny_tests_one ?_
      walk_at "ws"
      rename Fr s₁.heap s₁.heap.objs.size _ _ => F8
      rename News s₁.heap s₁.heap.objs.size _ _ => N8
      rw [show Str.ofString "" = S [] from by decide +kernel] at N8
      refine ne_tup2 (x := r.x) (y := r.y) (t := r.t) (u := r.u) (x' := lf) (y' := []) N8 ?_ (.head _) ?_ ?_
      · exact .tail _ (.tail _ (.tail _ (.tail _ (.tail _ (.tail _ (.tail _ (List.mem_append_left _ (List.mem_map_of_mem (f := RC.led) hrR))))))))
      · have := cLine_is
        simp only [units_in1, units_deeper, Around.mark_units, units_caller]; omega
      walk_at "ws"
      by_cases hz : (r.x, r.y) = (lf, ([] : List Nat))
      · have hz' : r.x = lf ∧ r.y = [] := by simpa using hz
        rw [if_neg (by simp [hz'])]
        exact CEnd.intro F8 N8 (fun _ h => .tail _ h) ⟨r, hr, .inl ⟨hz, rfl⟩⟩
      · have hz' : ¬ (r.x = lf ∧ r.y = []) := by simpa using hz
        rw [if_pos (by simp only [Bool.not_eq_true', decide_eq_false_iff_not]; exact hz')]
        walk_at "ws"
        exact CEnd.intro F8 N8 (fun _ h => .tail _ h) ⟨r, hr, .inr ⟨hz, rfl⟩⟩
    · intro D h7 tk7 gs Fd Nd hlt hgl hG
      have hreal := gs_real (R := R.reverse) (z := (lf, ([] : List Nat))) (by rw [hgl]; simp) hG
      rw [hreal] at Nd
      cases out with
      | none =>
        have hn := none_real (f := fun r : RC => (r.x, r.y)) hcut hout
        rw [hn] at Nd
        dsimp only
        walk_at "ws"
        rename Fr s₁.heap s₁.heap.objs.size _ _ => F9
        rename News s₁.heap s₁.heap.objs.size _ _ => N9
        refine eq_nil_L (vs := []) N9 (.tail _ (.head _)) (.head _) ?_ ?_
        · have := cLine_is
          simp only [units_in1, units_deeper, Around.mark_units, units_caller]; omega
        rw [decide_eq_true rfl]
        walk_at "ws"
        rw [if_pos rfl]
        walk_at "ws"
        dsimp only
        refine ⟨_, _, _, oc2, u2, ol, tl, nK, rfl, F9, hoc2, ?_, rfl, hol, news_sub N9 ?_⟩
        · intro z z1 z2 z3 z4
          show (if z = Str.ofString "real" then some (Value.ref D) else kstB m₁ _ z) = m z
          rw [if_neg z3, kstB_eq hps2 (fun _ => rfl), hmm z z1, e4 z z2]
        · intro p hp
          have hp' : p = (s₁.heap.objs.size + 1 + 1, oc2) ∨ p = (s₁.heap.objs.size + 1, ol) ∨ p = (I, oI) ∨ p = (P, oP) ∨ p = (K, W.listOf kv.toArray nK) := by
            have : p = (I, oI) ∨ p = (s₁.heap.objs.size + 1 + 1, oc2) ∨ p = (s₁.heap.objs.size + 1, ol) ∨ p = (P, oP) ∨ p = (K, W.listOf kv.toArray nK) := by simpa using hp
            rcases this with h | h | h | h | h <;> simp [h]
          rcases hp' with rfl | rfl | hp'
          · exact .tail _ (.tail _ (.head _))
          · exact .tail _ (.tail _ (.tail _ (.head _)))
          · refine .tail _ (.tail _ (.tail _ (.tail _ (.tail _ (List.mem_append_right _ ?_)))))
            rw [hbase]; simpa using hp'
      | some z =>
        obtain ⟨hz, e₀, he₀, hce, hoth⟩ := hout
        obtain ⟨r0, hr0, hr0c, hone⟩ := one_real (f := fun r : RC => (r.x, r.y)) hcut hnd he₀ (by rw [hce]; exact hz) hoth
        rw [hone] at Nd
        have hr0R : r0 ∈ R := List.mem_reverse.mp hr0
        have N9 : News s₁.heap s₁.heap.objs.size h7 [(D, LCg.lst [Value.ref r0.q]), (s₁.heap.objs.size + 1 + 1, oc2), (s₁.heap.objs.size + 1, ol), (r0.q, tup2 r0.x r0.y r0.t r0.u), (I, oI), (P, oP), (K, W.listOf kv.toArray nK)] := news_sub Nd (by
          intro p hp
          have hp' : p = (D, LCg.lst [Value.ref r0.q]) ∨ p = (s₁.heap.objs.size + 1 + 1, oc2) ∨ p = (s₁.heap.objs.size + 1, ol) ∨ p = r0.led ∨ p = (I, oI) ∨ p = (P, oP) ∨ p = (K, W.listOf kv.toArray nK) := by simpa [RC.led] using hp
          rcases hp' with rfl | rfl | rfl | rfl | hp'
          · exact .head _
          · exact .tail _ (.head _)
          · exact .tail _ (.tail _ (.head _))
          · exact .tail _ (.tail _ (.tail _ (.tail _ (List.mem_append_left _ (List.mem_map_of_mem (f := RC.led) hr0R)))))
          · refine .tail _ (.tail _ (.tail _ (.tail _ (List.mem_append_right _ ?_))))
            rw [hbase]; simpa using hp')
        clear Nd
        dsimp only
        walk_at "ws"
        rename News s₁.heap s₁.heap.objs.size _ _ => N10
        refine eq_nil_L (vs := [Value.ref r0.q]) N10 (.tail _ (.head _)) (.head _) ?_ ?_
        · have := cLine_is
          simp only [units_in1, units_deeper, Around.mark_units, units_caller]; omega
        rw [decide_eq_false (by simp)]
        walk_at "ws"
        rw [if_neg (by decide)]
        walk_at "wx"
        rename Fr s₁.heap s₁.heap.objs.size _ _ => F11
        rename News s₁.heap s₁.heap.objs.size _ _ => N11
        refine store_U rfl rfl rfl rfl F11 N11 (.tail _ (.tail _ (.tail _ (.head _)))) hol ?_
        intro h12 ol' hol' F12 N12
        have N13 : News s₁.heap s₁.heap.objs.size h12 [(s₁.heap.objs.size + 1 + 1, oc2), (s₁.heap.objs.size + 1, ol'), (I, oI), (P, oP), (K, W.listOf kv.toArray nK)] := news_sub N12 (by
          intro p hp
          have hp' : p = (s₁.heap.objs.size + 1 + 1, oc2) ∨ p = (s₁.heap.objs.size + 1, ol') ∨ p = (I, oI) ∨ p = (P, oP) ∨ p = (K, W.listOf kv.toArray nK) := by simpa using hp
          rcases hp' with rfl | rfl | rfl | rfl | rfl
          · exact mem_upd_ne (.tail _ (.tail _ (.head _))) (by show @Ne Nat (s₁.heap.objs.size + 1 + 1) (s₁.heap.objs.size + 1); omega)
          · exact mem_upd_self (o := ol) (.tail _ (.tail _ (.tail _ (.head _))))
          · exact mem_upd_ne (.tail _ (.tail _ (.tail _ (.tail _ (.tail _ (.head _)))))) hIl
          · exact mem_upd_ne (.tail _ (.tail _ (.tail _ (.tail _ (.tail _ (.tail _ (.head _))))))) hPl
          · exact mem_upd_ne (.tail _ (.tail _ (.tail _ (.tail _ (.tail _ (.tail _ (.tail _ (.head _)))))))) (Ne.symm (hdis _ (.tail _ (.tail _ (.head _))))))
        clear N12
        dsimp only
        walk_at "wx"
        rename Fr s₁.heap s₁.heap.objs.size _ _ => F14
        rename News s₁.heap s₁.heap.objs.size _ _ => N14
        refine append_U (its := kv.toArray) (n := nK) F14 N14 (.tail _ (.tail _ (.tail _ (.tail _ (.head _))))) (by rw [List.size_toArray]; omega) ?_
        intro h15 F15 N15
        dsimp only
        walk_at "wx"
        rw [List.push_toArray] at N15
        have hz' : z = (r0.x, r0.y) := by rw [← hce, ← hr0c]
        subst hz'
        refine ⟨_, _, _, oc2, u2, ol', _, nK + 1, rfl, F15, hoc2, ?_, rfl, hol', r0.u, news_sub N15 ?_⟩
        · intro z z1 z2 z3 z4
          show (if z = Str.ofString "ending" then some (Value.str (S r0.y) r0.u) else if z = Str.ofString "real" then some (Value.ref D) else kstB m₁ _ z) = m z
          rw [if_neg z4, if_neg z3, kstB_eq hps2 (fun _ => rfl), hmm z z1, e4 z z2]
        · intro p hp
          have hp' : p = (I, oI) ∨ p = (s₁.heap.objs.size + 1 + 1, oc2) ∨ p = (s₁.heap.objs.size + 1, ol') ∨ p = (P, oP) ∨ p = (K, W.listOf (kv ++ [Value.str (S r0.y) r0.u]).toArray (nK + 1)) := by simpa using hp
          rcases hp' with rfl | rfl | rfl | rfl | rfl
          · exact mem_upd_ne (.tail _ (.tail _ (.head _))) (hdis (I, oI) (.head _))
          · exact mem_upd_ne (.head _) (hdis (s₁.heap.objs.size + 1 + 1, oc) (.tail _ (.head _)))
          · exact mem_upd_ne (.tail _ (.head _)) (hdis (s₁.heap.objs.size + 1, ol) (.tail _ (.tail _ (.head _))))
          · exact mem_upd_ne (.tail _ (.tail _ (.tail _ (.head _)))) (hdis (P, oP) (.tail _ (.tail _ (.tail _ (.head _)))))
          · exact mem_upd_self (o := W.listOf kv.toArray nK) (.tail _ (.tail _ (.tail _ (.tail _ (.head _)))))
end Mine
end

section
open PySem PySem.W PyProof.Rows
set_option linter.unusedVariables false
namespace Mine
def TwoM (M : List Nat) : Prop := M = [43, 45, 42] ∨ M = [43, 45]
theorem fil_ok {M : List Nat} (hM : TwoM M) : ∀ e ∈ M, ∃ a alt, M.filter (· ≠ e) = a :: alt ∧ OneAlt alt := by
  intro e he
  rcases hM with rfl | rfl
  · have : e = 43 ∨ e = 45 ∨ e = 42 := by simpa using he
    rcases this with rfl | rfl | rfl
    · exact ⟨45, [42], by decide, .inr ⟨_, rfl⟩⟩
    · exact ⟨43, [42], by decide, .inr ⟨_, rfl⟩⟩
    · exact ⟨43, [45], by decide, .inr ⟨_, rfl⟩⟩
  · have : e = 43 ∨ e = 45 := by simpa using he
    rcases this with rfl | rfl
    · exact ⟨45, [], by decide, .inl rfl⟩
    · exact ⟨43, [], by decide, .inl rfl⟩
theorem TwoM.nodup {M : List Nat} (hM : TwoM M) : M.Nodup := by rcases hM with rfl | rfl <;> decide
theorem TwoM.len {M : List Nat} (hM : TwoM M) : M.length ≤ 3 := by rcases hM with rfl | rfl <;> decide
theorem parts_of {M : List Nat} {a e : Nat} {alt : List Nat} (he : e ∈ M) (hf : M.filter (· ≠ e) = a :: alt) (h1 : OneAlt alt) : Parts M a e alt := by
  refine ⟨h1, ?_, ?_⟩
  · rw [← hf]; simp
  · intro c
    rw [← hf, List.mem_filter]
    constructor
    · intro hc
      by_cases h : c = e
      · exact .inl h
      · exact .inr ⟨hc, by simpa using h⟩
    · rintro (rfl | h)
      · exact he
      · exact h.1
/-- what comes off at the j-th token -/
def outOf (T : List (List Nat)) (j : Nat) : Option (List Nat × List Nat) := if j ≥ 1 ∧ seenAt T j ≠ 0 then some ((T.take j).flatten, T.getD j []) else none
theorem cut_case {M : List Nat} (hM : TwoM M) {T : List (List Nat)} (hT : WFT M T) {j : Nat} (hj : j < T.length) :
    match outOf T j with
    | none => ∀ e ∈ M, cutOf M (T.take (j + 1)).flatten e = ((T.take (j + 1)).flatten, [])
    | some z => z ≠ ((T.take (j + 1)).flatten, []) ∧ ∃ e₀ ∈ M, cutOf M (T.take (j + 1)).flatten e₀ = z ∧ ∀ e ∈ M, e ≠ e₀ → cutOf M (T.take (j + 1)).flatten e = ((T.take (j + 1)).flatten, []) := by
  cases j with
  | zero =>
    rw [show outOf T 0 = none from by simp [outOf]]
    intro e he
    obtain ⟨a, alt, hf, h1⟩ := fil_ok hM e he
    rw [← cutOf_fil hf]
    exact peel_zero hT (parts_of he hf h1)
  | succ k =>
    obtain ⟨c, v, e1, hc, hv⟩ := wft_get hT (List.getElem?_eq_getElem hj)
    have hg : T[k + 1]? = some (c :: v) := by rw [List.getElem?_eq_getElem hj, e1]
    have hgd : T.getD (k + 1) [] = c :: v := by rw [List.getD_eq_getElem?_getD, hg]; rfl
    have hoth : ∀ e ∈ M, e ≠ c → cutOf M (T.take (k + 1 + 1)).flatten e = ((T.take (k + 1 + 1)).flatten, []) := by
      intro e he hne
      obtain ⟨a, alt, hf, h1⟩ := fil_ok hM e he
      rw [← cutOf_fil hf]
      exact peel_other hT (parts_of he hf h1) hg (Ne.symm hne)
    obtain ⟨a, alt, hf, h1⟩ := fil_ok hM c hc
    have hown := peel_own hT (parts_of hc hf h1) hg
    rw [cutOf_fil hf] at hown
    by_cases hs : seenAt T (k + 1) = 0
    · rw [show outOf T (k + 1) = none from by simp [outOf, hs]]
      rw [if_neg (by simpa using hs)] at hown
      intro e he
      by_cases h : e = c
      · rw [h]; exact hown
      · exact hoth e he h
    · rw [show outOf T (k + 1) = some ((T.take (k + 1)).flatten, T.getD (k + 1) []) from by simp [outOf, hs]]
      rw [if_pos hs] at hown
      refine ⟨?_, c, hc, ?_, hoth⟩
      · rw [hgd]; intro h; cases (Prod.mk.inj h).2
      · rw [hgd]; exact hown
theorem eq_strs {prog : Program} {w : World} {A : Around} {E : Value → Shared → Prop} {s : Shared} {h₀ : Heap} {L : Addr} {all : List (Addr × Obj)} {Q : Value → Shared → Prop} {D D' : Addr} {us vs : List Value} {ys : List Str} {n n' : Nat} (N : News h₀ L s.heap all) (h1 : (D, W.listOf us.toArray n) ∈ all) (h2 : (D', W.listOf vs.toArray n') ∈ all) (hu : A.units < cLine) (hus : StrsAre us ys) (hvs : StrsAre vs ys) (h : Q (.bool true) s) :
    wpAny (model prog w) A (compareOp .Eq (.ref D) (.ref D')) Q E s := by
  have l1 : s.heap.IsList D us.toArray := ⟨_, (N _ h1).1, rfl, n, rfl⟩
  have l2 : s.heap.IsList D' vs.toArray := ⟨_, (N _ h2).1, rfl, n', rfl⟩
  refine cmp_ofEq (SeqAt.RcAt.lists (e := fun _ => true) l1 l2 (by simp [hus.length, hvs.length]) hu (fun j j1 j2 => ?_) prog w E Q ?_)
  · have hj1 : j < us.length := by simpa using j1
    have hj : j < ys.length := by rw [← hus.length]; exact hj1
    obtain ⟨t, ht⟩ := strs_get hus j ys[j] (List.getElem?_eq_getElem hj)
    obtain ⟨u, hu'⟩ := strs_get hvs j ys[j] (List.getElem?_eq_getElem hj)
    have e1 : us.toArray[j] = .str ys[j] t := by
      have := List.getElem?_eq_getElem hj1
      rw [this] at ht; simpa using ht
    have hj2 : j < vs.length := by simpa using j2
    have e2 : vs.toArray[j] = .str ys[j] u := by
      have := List.getElem?_eq_getElem hj2
      rw [this] at hu'; simpa using hu'
    rw [e1, e2]
    have := SeqAt.EqAt.str_str (A := A.in1) (s := s) ys[j] t ys[j] u
    rw [beq_self_eq_true] at this
    exact this
  · have : (List.range us.toArray.size).all (fun _ => true) = true := by simp
    rw [this]; exact h
theorem mem_flat_len {T : List (List Nat)} {t : List Nat} (h : t ∈ T) : t.length ≤ T.flatten.length := by
  obtain ⟨a, b, rfl⟩ := List.append_of_mem h
  simp; omega
end Mine
end

section
open PySem PySem.W PyProof.Rows
set_option linter.unusedVariables false
namespace Mine
local macro_rules | `(tactic| size_fits) => `(tactic| ((simp only [PySem.Str.length_append, S_len, PySem.sizeLine_eq, List.length_append, List.length_cons, List.length_nil]); omega))
local macro_rules | `(tactic| walk_at "stop") => `(tactic| first
  | (with_reducible show wpAny _ _ (exec (Stmt.For _ _ _ _ _) _) _ _ _)
  | (with_reducible show wpAny _ _ (exec (Stmt.While _ _ _ _) _) _ _ _)
  | (with_reducible show wpAny _ _ (exec (Stmt.Assign _ (Expr.ListComp _ _ _ _) _) _) _ _ _)
  | (with_reducible show wpAny _ _ (eval (Expr.ListComp _ _ _ _) _) _ _ _)
  | (with_reducible show wpAny _ _ (pyIter _) _ _ _)
  | (with_reducible show wpAny _ _ (storeName _ (Str.ofString "left") _) _ _ _)
  | (with_reducible show GEnd _ _ _ _ _ _ _)
  | (with_reducible show CTurn _ _ _ _ _ _ _ _ _ _ _ _ _ _ _)
  | (with_reducible show CEnd _ _ _ _ _ _ _ _)
  | (with_reducible show GEnd _ _ _ _ _ _ _)
  | (with_reducible show ite _ _ _)
  | (with_reducible show wpAny _ _ (call (Value.builtin "str.join") _) _ _ _)
  | (with_reducible show wpAny _ _ (call (Value.ref _) _) _ _ _)
  | (with_reducible show wpAny _ _ (subscriptTail _ _ (Value.ref _) (Value.int _ _)) _ _ _)
  | (with_reducible show wpAny _ _ (compareOp _ (Value.ref _) (Value.ref _)) _ _ _)
  | (with_reducible show wpAny _ _ (subscriptTail (Expr.Name (Str.ofString "tokens") _) (Expr.Slice _ _ _ _) (Value.ref _) (Value.ref _)) _ _ _)
  | (with_reducible show wpAny _ _ (subscriptTail (Expr.Subscript _ _ _) (Expr.Slice _ _ _ _) (Value.ref _) (Value.ref _)) _ _ _)
  | (with_reducible show wpAny _ _ (binaryOp Operator.Add (Value.ref _) _) _ _ _)
  | (with_reducible show wpAny _ _ (call (Value.builtin "len") [Value.ref _]) _ _ _)
  | (with_reducible show wpAny _ _ (call (Value.builtin "list.append") _) _ _ _)
  | (with_reducible show LeaveK _ _ _ _ _ _ _))
local macro_rules | `(tactic| walk_at "ws") => `(tactic| repeat' (first | (k_unfold; (try dsimp only)) | ((fail_if_success (walk_at "stop")); walk1) | ((fail_if_success (walk_at "stop")); dsimp only; walk1) | (leave1; walk_say "STEP leave1"; try dsimp only)))
local macro_rules | `(tactic| walk_at "stopx") => `(tactic| first
  | (with_reducible show wpAny _ _ (exec (Stmt.For _ _ _ _ _) _) _ _ _)
  | (with_reducible show wpAny _ _ (call (Value.ref _) _) _ _ _)
  | (with_reducible show wpAny _ _ (call (Value.builtin "list.append") _) _ _ _)
  | (with_reducible show LeaveK _ _ _ _ _ _ _))
local macro_rules | `(tactic| walk_at "wx") => `(tactic| repeat' (first | (k_unfold; (try dsimp only)) | ((fail_if_success (walk_at "stopx")); walk1) | ((fail_if_success (walk_at "stopx")); dsimp only; walk1) | (leave1; walk_say "STEP leave1"; try dsimp only)))
local macro_rules | `(tactic| walk_at "GPost") => `(tactic| (dsimp only [GPost]))
theorem krvF {prog : Program} {w : World} {A : Around} {E : Value → Shared → Prop} {s : Shared} {h₀ : Heap} {L l : Addr} {m : Str → Option Value} {news : List (Addr × Obj)} {value slice : PySem.Expr} {its : Array Value} {zs : List Value} {vk : Value} {Q : Value → Shared → Prop} (F : Fr h₀ L s.heap m) (N : News h₀ L s.heap news) (hl : s.heap.IsList l its) (pk : IsPart vk (some (-1))) (e : its.toList.reverse = zs)
    (h : ∀ D h', Fr h₀ L h' m → News h₀ L h' ((D, W.listOf zs.toArray 0) :: news) → (∀ p ∈ news, p.1 < D) → Q (.ref D) { s with heap := h' })
    (hs : subscripted slice false (.ref l) (.ref s.heap.objs.size) = operate [.ref l, .ref s.heap.objs.size] (getItem (.ref l) (.ref s.heap.objs.size))) (ht : ∀ r, letTemporaryGo value (.ref l) r = pure ()) (hz : its.size ≤ sizeLine) :
    wpAny (model prog w) A (subscriptTail value slice (.ref l) (.ref s.heap.objs.size)) Q E { s with heap := s.heap.push { cls := .type "slice", data := .fields #[.none, .none, vk] } } := krv_lit F N hl pk e h hs ht hz
theorem strs_drop9 : ∀ (k : Nat) {vs : List Value} {ys : List Str}, StrsAre vs ys → StrsAre (vs.drop k) (ys.drop k)
  | 0, _, _, h => h
  | k + 1, _, _, .nil => .nil
  | k + 1, _, _, .cons _ _ r => strs_drop9 k r
theorem strs_take9 : ∀ (k : Nat) {vs : List Value} {ys : List Str}, StrsAre vs ys → StrsAre (vs.take k) (ys.take k)
  | 0, _, _, _ => .nil
  | k + 1, _, _, .nil => .nil
  | k + 1, _, _, .cons _ _ r => .cons _ _ (strs_take9 k r)
theorem strs_rev9 : ∀ {vs : List Value} {ys : List Str}, StrsAre vs ys → StrsAre vs.reverse ys.reverse
  | _, _, .nil => .nil
  | _, _, .cons y t r => by
    rw [List.reverse_cons, List.reverse_cons]
    exact (strs_rev9 r).append' (.cons y t .nil)
def loopB09 : List Stmt := (defBody PySem.Challenge.pw_dm0122_09 6).drop 5
/-- what stands between the steps -/
def J09 (L P K : Addr) (oP : Obj) (Tl : List (List Nat)) (mv sv : Value) (i : Nat) (m : Str → Option Value) (nx : List (Addr × Obj)) : Prop :=
  ∃ j oc u ol tl kv nK, i + j + 1 = Tl.length ∧ nx = [(L + 1 + 1, oc), (L + 1, ol), (P, oP), (K, W.listOf kv.toArray nK)] ∧ oc.data = .cell u ∧ ol.data = .cell (some (.str (S (Tl.take (j + 1)).flatten) tl)) ∧ StrsAre kv ((Tl.drop (j + 1)).reverse.map S) ∧ (∀ k, j < k → k < Tl.length → seenAt Tl k ≠ 0) ∧
    m (Str.ofString "marks") = some mv ∧ m (Str.ofString "taken") = some (.ref K) ∧ m (Str.ofString "tokens") = some (.ref P) ∧ m (Str.ofString "stuck") = some sv
theorem loop_ok {w : World} {mean : ExcName → Option Value} {mg mb : Str → Option Value} (s₁ : Shared) (fa : Addr) (cA : Value) (K0 : Below callerA s₁.heap [] s₁.heap) (T : Top hd09.view_39 (looseW hd09.view_39 []) mean mg mb s₁.heap) (KX : (hd09.heap_39 w.params).In s₁.heap)
    {M tx : List Nat} {Tl : List (List Nat)} {tm tl ts : Tok} {m : Str → Option Value} {h : Heap} {tk nP : Nat} {P K : Addr} {oc ol : Obj} {u₀ : Option Value} {tv : List Value}
    (hM : TwoM M) (hWF : WFT M Tl) (hflat : Tl.flatten = tx) (hTl : Tl.length ≤ 40) (htx : tx.length ≤ 40) (htv : StrsAre tv (Tl.map S))
    (hoc : oc.data = .cell u₀) (hol : ol.data = .cell (some (.str (S tx) tl)))
    (hKP : P ≠ K) (hKc : s₁.heap.objs.size + 1 + 1 ≠ K) (hKl : s₁.heap.objs.size + 1 ≠ K) (hPc : P ≠ s₁.heap.objs.size + 1 + 1) (hPl : P ≠ s₁.heap.objs.size + 1)
    (F : Fr s₁.heap s₁.heap.objs.size h m) (N : News s₁.heap s₁.heap.objs.size h [(K, W.listOf #[] 0), (P, W.listOf tv.toArray nP), (s₁.heap.objs.size + 1 + 1, oc), (s₁.heap.objs.size + 1, ol)])
    (hm1 : m (Str.ofString "marks") = some (.str (S M) tm)) (hm2 : m (Str.ofString "taken") = some (.ref K)) (hm3 : m (Str.ofString "tokens") = some (.ref P)) (hm4 : m (Str.ofString "stuck") = some (.int (stuckAt Tl (Tl.length - 1) : Int) ts)) :
    wpAny (model PySem.Challenge.rw_dm0122_09.row.prog w) (callerA.deeper (env09 s₁.heap.objs.size fa cA)) (execs loopB09 (env09 s₁.heap.objs.size fa cA))
      (LawEnd s₁) (fun _ _ => False) { s₁ with heap := h, toks := tk } := by
  revert KX; k_fill; intro KX
  unfold env09
  conv in (loopB09) => whnf
  simp only [show scope09 = defScope PySem.Challenge.pw_dm0122_09 6 from rfl]
  conv in (occs := *) (defScope PySem.Challenge.pw_dm0122_09 6) => all_goals whnf
  have F9 := fr_show [(Str.ofString "marks", .str (S M) tm), (Str.ofString "taken", .ref K), (Str.ofString "tokens", .ref P), (Str.ofString "stuck", .int (stuckAt Tl (Tl.length - 1) : Int) ts)] F (by simp [hm1, hm2, hm3, hm4])
  clear F
  have hvl : tv.length = Tl.length := by have := htv.length; simpa using this
  have hpos : 0 < Tl.length := by
    have : Tl.length ≠ 0 := fun e => hWF.ne (List.eq_nil_of_length_eq_zero e)
    omega
  walk_at "ws"
  refine For_invVF F9 rfl rfl ?_
  walk_at "ws"
  refine len_U N (.tail _ (.head _)) (by omega) ?_
  intro t9 k9
  dsimp only
  walk_at "ws"
  rename Fr s₁.heap s₁.heap.objs.size _ _ => F7
  rename News s₁.heap s₁.heap.objs.size _ _ => N7
  rename IsRange _ _ _ _ _ _ _ _ => R7
  rw [hvl] at R7
  have N8 : News s₁.heap s₁.heap.objs.size _ [(s₁.heap.objs.size + 1 + 1, oc), (s₁.heap.objs.size + 1, ol), (P, W.listOf tv.toArray nP), (K, W.listOf #[] 0)] := news_sub N7 (by
    intro p hp
    have hp' : p = (s₁.heap.objs.size + 1 + 1, oc) ∨ p = (s₁.heap.objs.size + 1, ol) ∨ p = (P, W.listOf tv.toArray nP) ∨ p = (K, W.listOf #[] 0) := by simpa using hp
    rcases hp' with rfl | rfl | rfl | rfl <;> simp)
  refine forRange (n := Tl.length) 0 Tl.length (J09 s₁.heap.objs.size P K (W.listOf tv.toArray nP) Tl (.str (S M) tm) (.int (stuckAt Tl (Tl.length - 1) : Int) ts)) rfl R7 ?hsm ?hnn F7 N8 ?hj ?_ ?_
  case hsm => exact small_one (by decide) (by decide) (by omega) (by omega)
  case hnn => rw [rangeSize_nat]; omega
  case hj =>
    refine ⟨Tl.length - 1, oc, u₀, ol, tl, [], 0, by omega, rfl, hoc, ?_, ?_, fun k h1 h2 => by omega, rfl, rfl, rfl, rfl⟩
    · rw [show Tl.length - 1 + 1 = Tl.length by omega, List.take_length, hflat]; exact hol
    · rw [show Tl.length - 1 + 1 = Tl.length by omega, List.drop_length]; exact .nil
  · rintro i t m₁ nx h tk own I hi ⟨j, oc2, u2, ol2, tl2, kv, nK, hij, rfl, hoc2, hol2, hkv, hseen, e1, e2, e3, e4⟩ ⟨oI, hIo⟩ hof hnI F8 N8
    have hI1 := hnI _ (.head _)
    have hI2 := hnI _ (.tail _ (.head _))
    have hI3 := hnI _ (.tail _ (.tail _ (.head _)))
    have hI4 := hnI _ (.tail _ (.tail _ (.tail _ (.head _))))
    have hown : ∀ q ∈ own, q = (I, oI) := by
      intro q hq
      have h1 := (N8 q (List.mem_append_left _ hq)).1
      have h2 := (N8 _ (List.mem_append_left _ hIo)).1
      have h3 := hof q hq
      rw [h3] at h1
      have : q.2 = oI := Option.some.inj (h1.symm.trans h2)
      exact Prod.ext h3 this
    have N9 : News s₁.heap s₁.heap.objs.size h [(I, oI), (s₁.heap.objs.size + 1 + 1, oc2), (s₁.heap.objs.size + 1, ol2), (P, W.listOf tv.toArray nP), (K, W.listOf kv.toArray nK)] := news_sub N8 (by
      intro p hp
      rcases List.mem_cons.mp hp with rfl | hp
      · exact List.mem_append_left _ hIo
      · exact List.mem_append_right _ hp)
    have hkl : kv.length ≤ 40 := by
      have := hkv.length
      simp at this; omega
    have hfl : (Tl.take (j + 1)).flatten.length ≤ 40 := by
      have h1 : (Tl.take (j + 1)).flatten.length + (Tl.drop (j + 1)).flatten.length = Tl.flatten.length := by
        rw [← List.length_append, ← List.flatten_append, List.take_append_drop]
      rw [hflat] at h1; omega
    refine wpAny_mono (step_ok s₁ fa cA K0 T KX (m := fun y => if y = Str.ofString "step" then some (Value.int (0 + (i : Int)) t) else m₁ y) (tm := tm) (lf := (Tl.take (j + 1)).flatten) (outOf Tl j) hM.len hM.nodup (fil_ok hM) (by omega) (by omega) (cut_case hM hWF (by omega)) hoc2 hol2 ?_ (Ne.symm hI1) (Ne.symm hI2) hPc hPl F8 N9 ?_ ?_) ?_ (fun _ _ e => e)
    · intro q hq
      have hq' : q = (I, oI) ∨ q = (s₁.heap.objs.size + 1 + 1, oc2) ∨ q = (s₁.heap.objs.size + 1, ol2) ∨ q = (P, W.listOf tv.toArray nP) := by simpa using hq
      rcases hq' with rfl | rfl | rfl | rfl
      · exact Ne.symm hI4
      · exact hKc
      · exact hKl
      · exact hKP
    · exact e1
    · exact e2
    · rintro f s' ⟨h', tk', m', oc3, u3, ol3, tl3, nK3, rfl, F3, hoc3, hmm, hcase⟩
      by_cases hreal : j ≥ 1 ∧ seenAt Tl j ≠ 0
      · rw [show outOf Tl j = some ((Tl.take j).flatten, Tl.getD j []) from if_pos hreal] at hcase
        obtain ⟨rfl, hol3, ty, N3⟩ := hcase
        obtain ⟨j', rfl⟩ : ∃ j', j = j' + 1 := ⟨j - 1, by omega⟩
        dsimp only [GPost]
        refine GEnd.intro [(s₁.heap.objs.size + 1 + 1, oc3), (s₁.heap.objs.size + 1, ol3), (P, W.listOf tv.toArray nP), (K, W.listOf (kv ++ [Value.str (S (Tl.getD (j' + 1) [])) ty]).toArray nK3)] F3 N3 (fun q hq => by rw [hown q hq]; exact .head _) (fun q hq => .tail _ hq) ?_ ⟨j', oc3, u3, ol3, tl3, _, nK3, by omega, rfl, hoc3, hol3, ?_, ?_, ?_, ?_, ?_, ?_⟩
        · intro q hq
          have hq' : q = (s₁.heap.objs.size + 1 + 1, oc3) ∨ q = (s₁.heap.objs.size + 1, ol3) ∨ q = (P, W.listOf tv.toArray nP) ∨ q = (K, W.listOf (kv ++ [Value.str (S (Tl.getD (j' + 1) [])) ty]).toArray nK3) := by simpa using hq
          rcases hq' with rfl | rfl | rfl | rfl
          · exact hI1
          · exact hI2
          · exact hI3
          · exact hI4
        · have hlt : j' + 1 < Tl.length := by omega
          rw [List.drop_eq_getElem_cons hlt, List.reverse_cons, List.map_append, List.getD_eq_getElem?_getD, List.getElem?_eq_getElem hlt]
          exact hkv.append' (.cons _ _ .nil)
        · intro k h1 h2
          by_cases hk : k = j' + 1
          · rw [hk]; exact hreal.2
          · exact hseen k (by omega) h2
        · rw [hmm _ (by decide) (by decide) (by decide) (by decide)]; exact e1
        · rw [hmm _ (by decide) (by decide) (by decide) (by decide)]; exact e2
        · rw [hmm _ (by decide) (by decide) (by decide) (by decide)]; exact e3
        · rw [hmm _ (by decide) (by decide) (by decide) (by decide)]; exact e4
      · rw [show outOf Tl j = none from if_neg hreal] at hcase
        obtain ⟨rfl, hol3, N3⟩ := hcase
        have hstuck : stuckAt Tl (Tl.length - 1) = j := by
          have h1 := stuckAt_down Tl (j := j) (Tl.length - 1 - j) (fun k h1 h2 => hseen k h1 (by omega))
          rw [show j + (Tl.length - 1 - j) = Tl.length - 1 by omega] at h1
          rw [h1]
          refine stuckAt_here ?_
          by_cases h0 : j = 0
          · exact .inl h0
          · exact .inr (Classical.byContradiction fun hne => hreal ⟨by omega, hne⟩)
        have F4 := fr_show [(Str.ofString "taken", .ref K), (Str.ofString "tokens", .ref P), (Str.ofString "stuck", .int (j : Int) ts)] F3 (by
          have h1 := hmm (Str.ofString "taken") (by decide) (by decide) (by decide) (by decide)
          have h2 := hmm (Str.ofString "tokens") (by decide) (by decide) (by decide) (by decide)
          have h3 := hmm (Str.ofString "stuck") (by decide) (by decide) (by decide) (by decide)
          have e4' : m₁ (Str.ofString "stuck") = some (.int (j : Int) ts) := by rw [e4, hstuck]
          intro p hp
          have hp' : p = (Str.ofString "taken", .ref K) ∨ p = (Str.ofString "tokens", .ref P) ∨ p = (Str.ofString "stuck", .int (j : Int) ts) := by simpa using hp
          rcases hp' with rfl | rfl | rfl
          · exact h1.trans e2
          · exact h2.trans e3
          · exact h3.trans e4')
        dsimp only [GPost]
        clear F8 F7 N7
        walk_at "ws"
        dsimp only
        have hjl : j + 1 ≤ tv.length := by omega
        k_dflt (refine kms_slice_lit (s := ⟨_, _, _, _, _⟩) F4 N3 ⟨_, (N3 (P, W.listOf tv.toArray nP) (.tail _ (.tail _ (.tail _ (.head _))))).1, rfl, _, rfl⟩ (.int _ _) .none (zs := tv.drop (j + 1)) ?sle ?_ ?sls ?slt ?slz)
        case sle => (simp only [kms_pick, kms_lo, kms_hi]; rw [if_neg (by omega), show ((j : Int) + 1).toNat = j + 1 by omega, Nat.min_eq_left hjl, List.take_of_length_le (by simp)])
        case sls => with_unfolding_all rfl
        case slt => kmk_pure
        case slz => (rw [List.size_toArray, PySem.sizeLine_eq]; omega)
        intro D5 h5 F5 N5 hlt5
        dsimp only
        walk_at "ws"
        rename Fr s₁.heap s₁.heap.objs.size _ _ => F6
        rename News s₁.heap s₁.heap.objs.size _ _ => N6
        refine kba_turn (value' := .Name (Str.ofString "z") ⟨0, 0, 0, 0⟩) (fun _ => rfl) ?_
        k_dflt (refine krvF (its := (tv.drop (j + 1)).toArray) (l := D5) F6 N6 ⟨_, (N6 (D5, W.listOf (tv.drop (j + 1)).toArray 0) (.head _)).1, rfl, _, rfl⟩ (.int _ _) (zs := (tv.drop (j + 1)).reverse) ?sle ?_ ?sls ?slt ?slz)
        case sle => simp
        case sls => with_unfolding_all rfl
        case slt => kmk_pure
        case slz => (rw [List.size_toArray, PySem.sizeLine_eq, List.length_drop]; omega)
        intro D7 h7 F7 N7 hlt7
        dsimp only
        walk_at "ws"
        refine eq_strs (us := kv) (vs := (tv.drop (j + 1)).reverse) (ys := (Tl.drop (j + 1)).reverse.map S) (n := nK3) (n' := 0) N7 (.tail _ (.tail _ (.tail _ (.tail _ (.tail _ (.tail _ (.head _))))))) (.head _) ?_ hkv ?_ ?_
        · have := cLine_is
          simp only [units_in1, units_deeper, Around.mark_units, units_caller]; omega
        · rw [List.map_reverse, List.map_drop]
          exact strs_rev9 (strs_drop9 (j + 1) htv)
        walk_at "ws"
        rw [if_pos rfl]
        walk_at "ws"
        dsimp only
        rename Fr s₁.heap s₁.heap.objs.size _ _ => F8
        rename News s₁.heap s₁.heap.objs.size _ _ => N8
        k_dflt (refine kms_slice_lit (s := ⟨_, _, _, _, _⟩) F8 N8 ⟨_, (N8 (P, W.listOf tv.toArray nP) (.tail _ (.tail _ (.tail _ (.tail _ (.tail _ (.head _))))))).1, rfl, _, rfl⟩ .none (.int _ _) (zs := tv.take (j + 1)) ?sle ?_ ?sls ?slt ?slz)
        case sle => (simp only [kms_pick, kms_lo, kms_hi]; rw [if_neg (by omega), show ((j : Int) + 1).toNat = j + 1 by omega, Nat.min_eq_left hjl]; simp)
        case sls => with_unfolding_all rfl
        case slt => kmk_pure
        case slz => (rw [List.size_toArray, PySem.sizeLine_eq]; omega)
        intro D9 h9 F9 N9 hlt9
        dsimp only
        walk_at "ws"
        rw [show Str.ofString "" = S [] from by decide +kernel]
        have hst9 : StrsAre (tv.take (j + 1)) ((Tl.take (j + 1)).map S) := by
          rw [List.map_take]; exact strs_take9 (j + 1) htv
        refine join_L N9 (.head _) hst9 (by decide) ?_ ?_
        · have := jn_sum [] (Tl.take (j + 1))
          rw [jn_nil] at this
          rw [List.length_take]; omega
        intro t10 k10
        dsimp only
        rw [jn_nil]
        have hSf : (S (Tl.take (j + 1)).flatten).length ≤ 40 := by rw [S_len]; exact hfl
        walk_at "ws"
        rw [beq_self_eq_true]
        exact LawEnd.intro F9
  · rintro m₁ nx h tk ⟨j, oc2, u2, ol2, tl2, kv, nK, hij, _⟩ F8 N8
    omega
end Mine
end

section
open PySem PySem.W PyProof.Rows
set_option linter.unusedVariables false
namespace Mine
local macro_rules | `(tactic| size_fits) => `(tactic| ((simp only [PySem.Str.length_append, S_len, PySem.sizeLine_eq, List.length_append, List.length_cons, List.length_nil]); omega))
local macro_rules | `(tactic| walk_at "stop") => `(tactic| first
  | (with_reducible show wpAny _ _ (exec (Stmt.For _ _ _ _ _) _) _ _ _)
  | (with_reducible show wpAny _ _ (execs (Stmt.For _ _ _ _ _ :: _) _) _ _ _)
  | (with_reducible show wpAny _ _ (exec (Stmt.While _ _ _ _) _) _ _ _)
  | (with_reducible show wpAny _ _ (exec (Stmt.Assign _ (Expr.ListComp _ _ _ _) _) _) _ _ _)
  | (with_reducible show wpAny _ _ (eval (Expr.ListComp _ _ _ _) _) _ _ _)
  | (with_reducible show wpAny _ _ (pyIter _) _ _ _)
  | (with_reducible show wpAny _ _ (storeName _ (Str.ofString "left") _) _ _ _)
  | (with_reducible show GEnd _ _ _ _ _ _ _)
  | (with_reducible show CTurn _ _ _ _ _ _ _ _ _ _ _ _ _ _ _)
  | (with_reducible show CEnd _ _ _ _ _ _ _ _)
  | (with_reducible show GEnd _ _ _ _ _ _ _)
  | (with_reducible show ite _ _ _)
  | (with_reducible show wpAny _ _ (call (Value.builtin "str.join") _) _ _ _)
  | (with_reducible show wpAny _ _ (call (Value.ref _) _) _ _ _)
  | (with_reducible show wpAny _ _ (subscriptTail _ _ (Value.ref _) (Value.int _ _)) _ _ _)
  | (with_reducible show wpAny _ _ (compareOp _ (Value.ref _) (Value.ref _)) _ _ _)
  | (with_reducible show wpAny _ _ (subscriptTail (Expr.Name (Str.ofString "tokens") _) (Expr.Slice _ _ _ _) (Value.ref _) (Value.ref _)) _ _ _)
  | (with_reducible show wpAny _ _ (subscriptTail (Expr.Subscript _ _ _) (Expr.Slice _ _ _ _) (Value.ref _) (Value.ref _)) _ _ _)
  | (with_reducible show wpAny _ _ (binaryOp Operator.Add (Value.ref _) _) _ _ _)
  | (with_reducible show wpAny _ _ (call (Value.builtin "len") [Value.ref _]) _ _ _)
  | (with_reducible show wpAny _ _ (call (Value.builtin "list.append") _) _ _ _)
  | (with_reducible show LeaveK _ _ _ _ _ _ _))
local macro_rules | `(tactic| walk_at "ws") => `(tactic| repeat' (first | (k_unfold; (try dsimp only)) | ((fail_if_success (walk_at "stop")); walk1) | ((fail_if_success (walk_at "stop")); dsimp only; walk1) | (leave1; walk_say "STEP leave1"; try dsimp only)))
local macro_rules | `(tactic| walk_at "stopx") => `(tactic| first
  | (with_reducible show wpAny _ _ (exec (Stmt.For _ _ _ _ _) _) _ _ _)
  | (with_reducible show wpAny _ _ (call (Value.ref _) _) _ _ _)
  | (with_reducible show wpAny _ _ (call (Value.builtin "list.append") _) _ _ _)
  | (with_reducible show LeaveK _ _ _ _ _ _ _))
local macro_rules | `(tactic| walk_at "wx") => `(tactic| repeat' (first | (k_unfold; (try dsimp only)) | ((fail_if_success (walk_at "stopx")); walk1) | ((fail_if_success (walk_at "stopx")); dsimp only; walk1) | (leave1; walk_say "STEP leave1"; try dsimp only)))
local macro_rules | `(tactic| walk_at "GPost") => `(tactic| (dsimp only [GPost]))
/-- the marks -/
def MarkEnd0 (s₁ : Shared) (h : Heap) (v : Value) (s' : Shared) : Prop := (∃ M t, (M = [43, 45, 42] ∨ M = [43, 45]) ∧ v = .str (S M) t) ∧ ∃ tk, s' = { s₁ with heap := h, toks := tk }
theorem law09 : PySem.Challenge.rw_dm0122_09.Holds := hd09 (by
  k_go0
  rename_i w s₀ s₁ mg mb G Y fa o pm doc ho hg KX XX V GL T B TE TW bmA bmO M cA cB hcd ns hs hlay0 hL1 hr1 hl2 as1 as2 la vs as3 hL ra w1 r0 hI hr hc1 hc2 K0 hD h1 tk1 F oc ol hoc hol N0 X0
  refine wpAny_mono (E := fun _ _ => False) (Q := LawEnd s₁) ?h1 ?h2 ?h3
  case h3 => exact fun _ _ e => False.elim e
  case h2 =>
    rintro f s' ⟨h', tk', m', rfl, rfl, F'⟩
    wrow_close
  have hlen : ns.length ≤ 63 := by omega
  have K0 : Below callerA s₁.heap [] s₁.heap := K0
  have hoc : oc.data = .cell none := hoc
  have hol : ol.data = .cell none := hol
  clear G Y XX V GL B TE TW M hcd hs hlay0 hL1 hr1 hl2 ra w1 r0 hr hc1 hc2 hD ho hg X0
  obtain ⟨m0, F0, e0⟩ : ∃ m0, Fr s₁.heap s₁.heap.objs.size h1 m0 ∧ m0 (Str.ofString "script") = some (.ref la) := ⟨_, F, rfl⟩
  clear F
  have F1 := fr_show [(Str.ofString "script", .ref la)] F0 (by simp [e0])
  clear F0
  walk_at "ws"
  rename Fr s₁.heap s₁.heap.objs.size _ _ => F2
  rename News s₁.heap s₁.heap.objs.size _ _ => N2
  rename Heap => hp
  refine ite_join (Q' := MarkEnd0 s₁ hp) ?_ ?_ ?_
  · intro _
    walk_at "ws"
    rw [show Str.ofString "+-*" = S [43, 45, 42] from by decide +kernel]
    exact ⟨⟨_, _, .inl rfl, rfl⟩, _, rfl⟩
  · intro _
    walk_at "ws"
    rw [show Str.ofString "+-" = S [43, 45] from by decide +kernel]
    exact ⟨⟨_, _, .inr rfl, rfl⟩, _, rfl⟩
  · rintro mv s' ⟨⟨M, tm, hM, rfl⟩, tk2, rfl⟩
    walk_at "ws"
    refine ListComp_E (cl := []) rfl rfl (by decide) ?_
    walk_at "ws"
    rename Fr s₁.heap s₁.heap.objs.size _ _ => F3
    rename News s₁.heap s₁.heap.objs.size _ _ => N3
    rename IntsAre _ (List.take 32 ns) => hI2
    refine csrc_ints (fun i g => ∃ (c : Nat) (t : Tok), g = some (Value.str (S [c]) t)) rfl (by decide) rfl rfl F3 N3 (.head _) hI2 (by rw [List.length_take, PySem.sizeLine_eq]; omega) ?_ (cfin_expr ?_)
    · intro i k hk I oI C oC D oD m₃ h tk E' ⟨t, hm3⟩ hC F4 N4 hoff
      refine wpAny_tests_nil ?_
      rw [if_pos rfl]
      walk_at "ws"
      k_dflt (refine sign09 _ _ _ _ _ _ _ _ _ _ _ _ _ _ _ _ _ _ k _ K0 F4 KX N4 T rfl ?hdp ?hun ?_)
      case hdp => ktr_room
      case hun => ktr_units
      intro c t' h5 tk5 F5 N5
      exact CEnd.intro F5 N5 (fun _ h => h) ⟨c, _, rfl⟩
    · intro D h tk gs Fd Nd hlt hgl hG
      dsimp only
      walk_at "ws"
      obtain ⟨cs, hcs, hst⟩ := gs_texts hG
      have hcl : cs.length ≤ 32 := by rw [hcs, hgl, List.length_take]; omega
      rw [show Str.ofString "" = S [] from by decide +kernel]
      refine join_L Nd (.head _) hst (by decide) ?_ ?_
      · have := jn_sum [] (cs.map fun c => [c])
        rw [jn_nil, flat_ones] at this
        rw [List.length_map]; omega
      intro t' k'
      dsimp only
      rw [jn_nil, flat_ones]
      walk_at "ws"
      rw [show Str.ofString "5*2" = S [53, 42, 50] from by decide +kernel]
      walk_at "ws"
      rw [S_app]
      obtain ⟨tx, htx⟩ : ∃ tx, tx = cs ++ [53, 42, 50] := ⟨_, rfl⟩
      rw [← htx]
      have htl : tx.length ≤ 35 := by rw [htx, List.length_append]; simp; omega
      refine store_U rfl rfl rfl rfl Fd Nd (.tail _ (.tail _ (.tail _ (.head _)))) hol ?_
      intro h6 ol6 hol6 F6 N6
      have N7 : News s₁.heap s₁.heap.objs.size h6 [(s₁.heap.objs.size + 1 + 1, oc), (s₁.heap.objs.size + 1, ol6)] := news_sub N6 (by
        intro p hp
        have hp' : p = (s₁.heap.objs.size + 1 + 1, oc) ∨ p = (s₁.heap.objs.size + 1, ol6) := by simpa using hp
        rcases hp' with rfl | rfl
        · exact mem_upd_ne (.tail _ (.tail _ (.head _))) (by show @Ne Nat (s₁.heap.objs.size + 1 + 1) (s₁.heap.objs.size + 1); omega)
        · exact mem_upd_self (o := ol) (.tail _ (.tail _ (.tail _ (.head _)))))
      clear N6
      have hMl : M.length ≤ 3 := by rcases hM with rfl | rfl <;> decide
      dsimp only
      walk_at "ws"
      k_dflt (refine tokens09 _ _ _ _ _ _ _ _ _ _ _ _ _ _ _ _ _ _ tx M _ _ (by omega) (by omega) K0 F6 KX N7 T rfl ?hdp ?hun ?_)
      case hdp => ktr_room
      case hun => ktr_units
      intro P nP tv h8 tk8 htv hPn F8 N8
      obtain ⟨hWF, hflat⟩ := tks_ok M tx
      have hTl := tks_len M tx
      generalize tksOf M tx = Tl at htv hWF hflat hTl
      have htl2 : ∀ t ∈ Tl, t.length ≤ 35 := by
        intro t ht
        have := mem_flat_len ht
        rw [hflat] at this; omega
      dsimp only
      walk_at "ws"
      rename Fr s₁.heap s₁.heap.objs.size _ _ => F9
      rename News s₁.heap s₁.heap.objs.size _ _ => N9
      k_dflt (refine stuck09 _ _ _ _ _ _ _ _ _ _ _ _ _ _ _ _ _ _ M Tl P nP tv hWF (.head _) htv (by omega) (fun t ht => by have := htl2 t ht; omega) K0 F9 KX N9 T rfl ?hdp ?hun ?_)
      case hdp => ktr_room
      case hun => ktr_units
      intro ts h10 tk10 F10 N10
      dsimp only
      walk_at "ws"
      rename Fr s₁.heap s₁.heap.objs.size _ _ => F11
      rename News s₁.heap s₁.heap.objs.size _ _ => N11
      rename_i K hKh hKlt hKh2
      have hK1 : @LT.lt Nat _ P K := hKlt.1
      have hK2 : @LT.lt Nat _ (s₁.heap.objs.size + 1 + 1) K := hKlt.2.1
      have hK3 : @LT.lt Nat _ (s₁.heap.objs.size + 1) K := hKlt.2.2
      exact loop_ok s₁ fa _ K0 T KX hM hWF hflat (by omega) (by omega) htv hoc hol6 (Nat.ne_of_lt hK1) (Nat.ne_of_lt hK2) (Nat.ne_of_lt hK3) (Ne.symm (hPn (s₁.heap.objs.size + 1 + 1, oc) (.head _))) (Ne.symm (hPn (s₁.heap.objs.size + 1, ol6) (.tail _ (.head _)))) F11 N11 rfl rfl rfl rfl)
end Mine
end

theorem PySem.Challenge.cw_dm0122_09_holds : PySem.Challenge.rw_dm0122_09.Holds := by
  exact Mine.law09
