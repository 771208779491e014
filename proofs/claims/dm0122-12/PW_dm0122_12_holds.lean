import PyProof.Rows.All
import Wide.All
import OpenK.AllK
import Wide.FinOn
import PySem.Challenge.RW_dm0122_12

set_option Elab.async false
set_option maxRecDepth 100000
set_option maxHeartbeats 4000000
set_option rowWalk.seconds 0
set_option linter.unusedVariables false

section
open PySem PySem.W PyProof.Rows
namespace Mine

/-- a text by its signs' numbers -/
def S (l : List Nat) : Str := ⟨l.toArray⟩
theorem S_inj {a b : List Nat} : S a = S b ↔ a = b := by
  constructor
  · intro h
    have h1 : (S a).cps = (S b).cps := by rw [h]
    have h2 : (S a).cps.toList = (S b).cps.toList := by rw [h1]
    simpa [S] using h2
  · rintro rfl; rfl
theorem S_eta (x : Str) : S x.cps.toList = x := by
  cases x; rfl
theorem S_len (l : List Nat) : (S l).length = l.length := by
  simp [S, Str.length]
theorem S_cps (l : List Nat) : (S l).cps.toList = l := by simp [S]
theorem S_app (a b : List Nat) : S a ++ S b = S (a ++ b) := by
  show Str.mk (a.toArray ++ b.toArray) = Str.mk (a ++ b).toArray
  simp

/-- y stands in p at i -/
def At (p y : List Nat) (i : Nat) : Prop := i + y.length ≤ p.length ∧ (p.drop i).take y.length = y
/-- the last place of y in p, or -1 -/
def rf (p y : List Nat) : Int := Txt.rfind (S p) (S y)
theorem at_iff (p y : List Nat) (i : Nat) : StrLaws.At (S p) (S y) (S p).length i ↔ At p y i := by
  unfold StrLaws.At At
  rw [StrLaws.subAt_eq, S_cps, S_cps, S_len, S_len, beq_iff_eq]
theorem rf_spec (p y : List Nat) : (rf p y = -1 ∧ ∀ i, ¬ At p y i) ∨ ∃ i : Nat, rf p y = (i : Int) ∧ At p y i ∧ ∀ k, i < k → ¬ At p y k := by
  have h := rfind_whole (S p) (S y)
  simp only [at_iff] at h
  exact h
theorem rf_ge (p y : List Nat) : -1 ≤ rf p y := by
  rcases rf_spec p y with ⟨h, _⟩ | ⟨i, h, _⟩ <;> omega
theorem rf_le (p y : List Nat) : rf p y + y.length ≤ p.length ∨ rf p y = -1 := by
  rcases rf_spec p y with ⟨h, _⟩ | ⟨i, h, h1, _⟩
  · exact .inr h
  · have := h1.1; omega

theorem rangeGet (l : List Nat) (a : Nat) : ∀ n, a + n ≤ l.length → (List.map (fun k : Nat => ((a : Int) + 1 * (k : Int)).toNat) (List.range n)).filterMap (fun i => l.toArray[i]?) = (l.drop a).take n := by
  intro n
  induction n with
  | zero => intro _; simp
  | succ n ih =>
    intro h
    rw [List.range_succ, List.map_append, List.filterMap_append, ih (by omega), List.take_add_one]
    congr 1
    have e : ((a : Int) + 1 * (n : Int)).toNat = a + n := by omega
    simp only [List.map_cons, List.map_nil, e]
    have h2 : a + n < l.length := by omega
    simp [h2]
theorem sliceGet (l : List Nat) (a b : Nat) (hb : b ≤ l.length) : ((sliceRange (a : Int) (b : Int) 1).filterMap (fun i => l.toArray[i]?)) = (l.take b).drop a := by
  unfold sliceRange
  dsimp only
  rw [if_pos (by decide)]
  by_cases h : (a : Int) < (b : Int)
  · rw [if_pos h]
    have e : (((b : Int) - (a : Int) + 1 - 1) / 1).toNat = b - a := by omega
    rw [e, rangeGet l a (b - a) (by omega), List.take_drop]
    congr 2
    omega
  · rw [if_neg h]
    have : (l.take b).drop a = [] := List.drop_eq_nil_of_le (by rw [List.length_take]; omega)
    rw [this]; simp
theorem sliceLen (a b : Nat) : (sliceRange (a : Int) (b : Int) 1).length = b - a := by
  unfold sliceRange
  dsimp only
  rw [if_pos (by decide), List.length_map, List.length_range]
  by_cases h : (a : Int) < (b : Int)
  · rw [if_pos h]; omega
  · rw [if_neg h]; omega
theorem slice_gen (l : List Nat) (lo hi : Option Int) (a b : Nat) (hb : b ≤ l.length) (e : Builtin.Str.strSliceIndices lo hi 1 l.length = sliceRange (a : Int) (b : Int) 1) : Txt.slice (S l) lo hi = S ((l.take b).drop a) := by
  unfold Txt.slice
  rw [S_len, e]
  split
  · rename_i h
    rw [sliceLen] at h
    have h' : b - a = l.length := by simpa using h
    have hb' : b = l.length := by omega
    by_cases ha : a = 0
    · subst ha; rw [hb']; simp
    · have : l.length = 0 := by omega
      have : l = [] := List.length_eq_zero_iff.mp this
      subst this; simp
  · show Str.mk ((List.filterMap (fun i => l.toArray[i]?) (sliceRange (a : Int) (b : Int) 1)).toArray) = _
    rw [sliceGet l a b hb]; rfl
theorem take_min {α : Type} (l : List α) (n : Nat) : l.take (min n l.length) = l.take n := by
  by_cases h : n ≤ l.length
  · rw [Nat.min_eq_left h]
  · rw [Nat.min_eq_right (by omega), List.take_length, List.take_of_length_le (by omega)]
theorem slice_to (l : List Nat) {d : Int} (h : 0 ≤ d) : Txt.slice (S l) none (some d) = S (l.take d.toNat) := by
  rw [slice_gen l none (some d) 0 (min d.toNat l.length) (Nat.min_le_right _ _)]
  · rw [List.drop_zero, take_min]
  · unfold Builtin.Str.strSliceIndices
    dsimp only
    rw [if_pos (show (1 : Int) > 0 by decide), if_pos (show (1 : Int) > 0 by decide), if_neg (by omega)]
    congr 1; omega
theorem slice_from (l : List Nat) {d : Int} (h : 0 ≤ d) : Txt.slice (S l) (some d) none = S (l.drop d.toNat) := by
  rw [slice_gen l (some d) none (min d.toNat l.length) l.length (Nat.le_refl _)]
  · congr 1
    rw [List.take_length]
    by_cases hd : d.toNat ≤ l.length
    · rw [Nat.min_eq_left hd]
    · rw [Nat.min_eq_right (by omega), List.drop_length, List.drop_eq_nil_of_le (by omega)]
  · unfold Builtin.Str.strSliceIndices
    dsimp only
    rw [if_pos (show (1 : Int) > 0 by decide), if_pos (show (1 : Int) > 0 by decide), if_neg (by omega)]
    congr 1; omega
theorem slice_mid (l : List Nat) {a b : Int} (h : 0 ≤ a) (h' : 0 ≤ b) : Txt.slice (S l) (some a) (some b) = S ((l.take b.toNat).drop a.toNat) := by
  rw [slice_gen l (some a) (some b) (min a.toNat l.length) (min b.toNat l.length) (Nat.min_le_right _ _)]
  · congr 1
    rw [take_min]
    by_cases hd : a.toNat ≤ l.length
    · rw [Nat.min_eq_left hd]
    · rw [Nat.min_eq_right (by omega), List.drop_eq_nil_of_le (by rw [List.length_take]; omega), List.drop_eq_nil_of_le (by rw [List.length_take]; omega)]
  · unfold Builtin.Str.strSliceIndices
    dsimp only
    rw [if_pos (show (1 : Int) > 0 by decide), if_pos (show (1 : Int) > 0 by decide), if_neg (by omega), if_neg (by omega)]
    congr 1 <;> omega
theorem fm_map {α β : Type} (f : α → Option β) (g : α → β) : ∀ l : List α, (∀ x ∈ l, f x = some (g x)) → l.filterMap f = l.map g
  | [], _ => rfl
  | a :: l, h => by
    rw [List.filterMap_cons, h a (.head _), List.map_cons, fm_map f g l fun x hx => h x (.tail _ hx)]
theorem rev_get (l : List Nat) : ∀ n, n ≤ l.length → ((List.range n).map (fun k : Nat => (((n : Int) - 1) + -1 * (k : Int)).toNat)).filterMap (fun i => l.toArray[i]?) = (l.take n).reverse := by
  intro n hn
  apply List.ext_getElem?
  intro i
  have h1 : ((List.range n).map (fun k : Nat => (((n : Int) - 1) + -1 * (k : Int)).toNat)).filterMap (fun i => l.toArray[i]?) = (List.range n).map (fun k : Nat => l.getD (n - 1 - k) 0) := by
    rw [List.filterMap_map]
    apply fm_map
    intro k hk
    have hk : k < n := List.mem_range.mp hk
    have e : (((n : Int) - 1) + -1 * (k : Int)).toNat = n - 1 - k := by omega
    simp only [Function.comp, e]
    have h2 : n - 1 - k < l.length := by omega
    simp [h2]
  rw [h1]
  by_cases hi : i < n
  · rw [List.getElem?_map, List.getElem?_range hi, List.getElem?_reverse (by rw [List.length_take]; omega)]
    have h2 : n - 1 - i < l.length := by omega
    have h3 : min n l.length - 1 - i = n - 1 - i := by omega
    rw [List.length_take, h3, List.getElem?_take_of_lt (by omega)]
    simp [h2]
  · rw [List.getElem?_eq_none (by simp; omega), List.getElem?_eq_none (by simp; omega)]
theorem sliceBy_rev (l : List Nat) (t : Tok) : Txt.sliceBy (S l) none none (-1, t) = S l.reverse := by
  unfold Txt.sliceBy
  rw [if_neg (by simp)]
  show Str.mk ((Builtin.Str.strSliceIndices none none (-1) (S l).length).filterMap (fun i => l.toArray[i]?)).toArray = _
  rw [S_len]
  have e : Builtin.Str.strSliceIndices none none (-1) l.length = (List.range l.length).map (fun k : Nat => (((l.length : Int) - 1) + -1 * (k : Int)).toNat) := by
    unfold Builtin.Str.strSliceIndices sliceRange
    dsimp only
    simp only [show ¬ ((-1 : Int) > 0) by decide, if_false]
    congr 2
    by_cases h : ((l.length : Int) - 1) > -1
    · rw [if_pos h, show (- -1 : Int) = 1 from rfl]; omega
    · rw [if_neg h]; omega
  rw [e, rev_get l l.length (Nat.le_refl _), List.take_length]
  rfl
end Mine
end

section
open PySem PySem.W PyProof.Rows
namespace Mine
/-- altsep: None or a text -/
def AltV (v : Value) (alt : List Nat) : Prop := (v = .none ∧ alt = []) ∨ ∃ t, v = .str (S alt) t

section
variable {prog : Program} {w : World} {M : Model} {A : Around} {E : Value → Shared → Prop} {s : Shared}
theorem truthy_alt {Q : Bool → Shared → Prop} {v : Value} {alt : List Nat} (h : AltV v alt) (hl : alt.length ≤ 1000000) (hq : ∀ k, Q (decide (alt ≠ [])) { s with toks := k }) : wpAny (model prog w) A (truthy v) Q E s := by
  rcases h with ⟨rfl, rfl⟩ | ⟨t, rfl⟩
  · exact wpAny_pure (hq s.toks)
  · refine KXt.truthy (b := decide (alt ≠ [])) ?_ (by rw [S_len]; omega) hq
    rw [S_len]
    cases alt <;> simp
    omega
theorem ite_join {α : Type} {c : Prop} [Decidable c] {t1 t2 : Sem α} {Q Q' : α → Shared → Prop} (h1 : c → wpAny M A t1 Q' E s) (h2 : ¬ c → wpAny M A t2 Q' E s) (h : ∀ f s', Q' f s' → Q f s') :
    if c then wpAny M A t1 Q E s else wpAny M A t2 Q E s := by
  split
  · exact wpAny_mono (h1 ‹_›) h fun _ _ e => e
  · exact wpAny_mono (h2 ‹_›) h fun _ _ e => e
end
/-- what a stretch of code leaves behind: the frame's names ps, the ledger -/
def Left (h₀ : Heap) (L : Addr) (s : Shared) (news : List (Addr × Obj)) (R : (Str → Option Value) → Prop) (s' : Shared) : Prop :=
  ∃ h tk m, s' = { s with heap := h, toks := tk } ∧ Fr h₀ L h m ∧ News h₀ L h news ∧ R m
theorem fr_show {h₀ h : Heap} {L : Addr} {m : Str → Option Value} (ps : List (Str × Value)) (F : Fr h₀ L h m) (hps : ∀ p ∈ ps, m p.1 = some p.2) : Fr h₀ L h (kstB m ps) := by
  have e : kstB m ps = m := funext fun z => kstB_eq hps fun _ => rfl
  rw [e]; exact F
theorem Left.intro {h₀ : Heap} {L : Addr} {s : Shared} {news : List (Addr × Obj)} {R : (Str → Option Value) → Prop} {h : Heap} {tk : Nat} {m : Str → Option Value} (F : Fr h₀ L h m) (N : News h₀ L h news) (r : R m) : Left h₀ L s news R { s with heap := h, toks := tk } := ⟨h, tk, m, rfl, F, N, r⟩
end Mine
end

section
open PySem PySem.W PyProof.Rows PySem.Calls
namespace Mine
/-- a part of a ledger -/
abbrev Sub (a b : List (Addr × Obj)) : Prop := ∀ p ∈ a, p ∈ b
theorem news_sub {h₀ h : Heap} {L : Addr} {a b : List (Addr × Obj)} (N : News h₀ L h b) (hs : Sub a b) : News h₀ L h a := fun p hp => N p (hs p hp)
/-- the ledger with the object at d changed -/
def upd (d : Addr) (o : Obj) (l : List (Addr × Obj)) : List (Addr × Obj) := l.map fun p => if p.1 = d then (d, o) else p
theorem upd_ok {h₀ h h' : Heap} {L d : Addr} {m : Str → Option Value} {all : List (Addr × Obj)} {o o' : Obj} (F : Fr h₀ L h m) (N : News h₀ L h all) (hm : (d, o) ∈ all) (hs : Heap.SameBut d h h') (hd : h'.get? d = some o') :
    Fr h₀ L h' m ∧ News h₀ L h' (upd d o' all) := ⟨F.change hs (N _ hm).2.1 (N _ hm).2.2, N.update hm hs hd⟩
theorem mem_upd_self {d : Addr} {o o' : Obj} {all : List (Addr × Obj)} (hm : (d, o) ∈ all) : (d, o') ∈ upd d o' all :=
  List.mem_map.mpr ⟨(d, o), hm, by simp⟩
theorem mem_upd_ne {d : Addr} {o' : Obj} {p : Addr × Obj} {all : List (Addr × Obj)} (hm : p ∈ all) (hne : p.1 ≠ d) : p ∈ upd d o' all :=
  List.mem_map.mpr ⟨p, hm, by simp [hne]⟩
theorem sub_upd {d : Addr} {o o' : Obj} {all led led' : List (Addr × Obj)} (hm : (d, o) ∈ all) (hs : Sub led all) (h : ∀ p ∈ led', p = (d, o') ∨ (p ∈ led ∧ p.1 ≠ d)) : Sub led' (upd d o' all) := by
  intro p hp
  rcases h p hp with rfl | ⟨h1, h2⟩
  · exact mem_upd_self hm
  · exact mem_upd_ne (hs p h1) h2

section texts
/-- a joined text -/
def jn (sep : List Nat) : List (List Nat) → List Nat
  | [] => []
  | [x] => x
  | x :: y :: r => x ++ sep ++ jn sep (y :: r)
theorem join_S (sep : List Nat) : ∀ ws : List (List Nat), Txt.join (S sep) (ws.map S) = S (jn sep ws) := by
  have h : ∀ ws : List (List Nat), Str.join (S sep) (ws.map S) = S (jn sep ws) := by
    intro ws
    induction ws with
    | nil => rfl
    | cons x r ih =>
      cases r with
      | nil => rfl
      | cons y r =>
        show S x ++ S sep ++ Str.join (S sep) ((y :: r).map S) = S (x ++ sep ++ jn sep (y :: r))
        rw [ih, S_app, S_app]
  intro ws
  rw [← h]
  exact StrLaws.glued_eq_join _ _

theorem jn_sum (sep : List Nat) : ∀ ws : List (List Nat), (ws.map List.length).sum ≤ (jn sep ws).length
  | [] => by simp [jn]
  | [x] => by simp [jn]
  | x :: y :: r => by
    have := jn_sum sep (y :: r)
    simp only [List.map_cons, List.sum_cons, jn, List.length_append] at *
    omega
theorem jn_count (c : Nat) : ∀ ws : List (List Nat), ws.length ≤ (jn [c] ws).length + 1
  | [] => by simp [jn]
  | [x] => by simp [jn]
  | x :: y :: r => by
    have := jn_count c (y :: r)
    simp only [jn, List.length_append, List.length_cons, List.length_nil] at *
    omega
theorem jn_nil : ∀ ws : List (List Nat), jn [] ws = ws.flatten
  | [] => rfl
  | [x] => by simp [jn]
  | x :: y :: r => by
    rw [jn, jn_nil (y :: r)]; simp
theorem lensS (ws : List (List Nat)) : ((ws.map S).map Str.length) = ws.map List.length := by
  rw [List.map_map]
  exact List.map_congr_left fun w _ => S_len w
theorem join_L {prog : Program} {w : World} {A : Around} {E : Value → Shared → Prop} {s : Shared} {h₀ : Heap} {L D : Addr} {all : List (Addr × Obj)} {vs : List Value} {ws : List (List Nat)} {n : Nat} {sep : List Nat} {t : Tok} {Q : Value → Shared → Prop} (N : News h₀ L s.heap all) (hm : (D, W.listOf vs.toArray n) ∈ all) (hv : StrsAre vs (ws.map S)) (hsep : sep.length ≤ 16) (hw : (ws.map List.length).sum + ws.length ≤ 1048576)
    (h : ∀ t' k, Q (.str (S (jn sep ws)) t') { s with toks := k }) : wpAny (model prog w) A (call (.builtin "str.join") [.str (S sep) t, .ref D]) Q E s := by
  refine join_listW (items := vs.toArray) (ys := ws.map S) ⟨_, (N _ hm).1, rfl, n, rfl⟩ (by simpa using hv) (by rw [S_len]; exact hsep) ?_ ?_
  · have e : ((ws.map S).map (·.length)) = ws.map List.length := lensS ws
    rw [e, List.length_map]; exact hw
  · intro t' k
    rw [join_S]; exact h t' k
theorem strs_get : ∀ {vs : List Value} {ys : List Str}, StrsAre vs ys → ∀ (i : Nat) (y : Str), ys[i]? = some y → ∃ t, vs[i]? = some (Value.str y t)
  | _, _, .nil, i, y, h => by simp at h
  | _, _, .cons z t r, 0, y, h => ⟨t, by simp at h; subst h; rfl⟩
  | _, _, .cons z t r, i + 1, y, h => by
    obtain ⟨t', e⟩ := strs_get r i y (by simpa using h)
    exact ⟨t', by simpa using e⟩
theorem strs_snoc : ∀ {vs : List Value} {ys : List Str} {y : Str}, StrsAre vs (ys ++ [y]) → ∃ us t, vs = us ++ [Value.str y t] ∧ StrsAre us ys
  | _, [], y, h => by
    cases h with
    | cons z t r => cases r; exact ⟨[], t, rfl, .nil⟩
  | _, z :: ys, y, h => by
    cases h with
    | cons z t r =>
      obtain ⟨us, t', e, h'⟩ := strs_snoc r
      exact ⟨Value.str z t :: us, t', by rw [e]; rfl, .cons z t h'⟩
theorem strs_of : ∀ {vs : List Value} {ys : List Str}, vs.length = ys.length → (∀ (i : Nat) (y : Str), ys[i]? = some y → ∃ t, vs[i]? = some (Value.str y t)) → StrsAre vs ys
  | [], [], _, _ => .nil
  | [], _ :: _, h, _ => by simp at h
  | _ :: _, [], h, _ => by simp at h
  | v :: vs, y :: ys, h, k => by
    obtain ⟨t, e⟩ := k 0 y rfl
    have : v = Value.str y t := by simpa using e
    subst this
    exact .cons y t (strs_of (by simpa using h) fun i z hz => by
      obtain ⟨t', e'⟩ := k (i + 1) z (by simpa using hz)
      exact ⟨t', by simpa using e'⟩)
theorem gs_strs : ∀ {gs : List (Option Value)} {tl : List (List Nat)}, gs.length = tl.length → (∀ (j : Nat) (g : Option Value), gs[j]? = some g → ∃ (v : List Nat) (t : Tok), tl[j]? = some v ∧ g = some (Value.str (S v) t)) → StrsAre (gs.filterMap id) (tl.map S)
  | [], [], _, _ => .nil
  | [], _ :: _, h, _ => by simp at h
  | _ :: _, [], h, _ => by simp at h
  | g :: gs, v :: tl, h, k => by
    obtain ⟨v', t, e1, e2⟩ := k 0 g rfl
    have : v = v' := by simpa using e1
    subst this
    subst e2
    have ih := gs_strs (gs := gs) (tl := tl) (by simpa using h) fun j g hj => by
      obtain ⟨v', t', a, b⟩ := k (j + 1) g (by simpa using hj)
      exact ⟨v', t', by simpa using a, b⟩
    exact .cons _ t ih
end texts
section lists
variable {prog : Program} {w : World} {A : Around} {E : Value → Shared → Prop} {s : Shared} {h₀ : Heap} {L D : Addr} {m : Str → Option Value} {all : List (Addr × Obj)} {its : Array Value} {n : Nat}
theorem append_U {x : Value} {Q : Value → Shared → Prop} (F : Fr h₀ L s.heap m) (N : News h₀ L s.heap all) (hm : (D, W.listOf its n) ∈ all) (hsz : its.size ≤ 1000000)
    (h : ∀ h', Fr h₀ L h' m → News h₀ L h' (upd D (W.listOf (its.push x) (n + 1)) all) → Q .none { s with heap := h' }) :
    wpAny (model prog w) A (call (.builtin "list.append") [.ref D, x]) Q E s :=
  append_at (N _ hm).1 (fun h' hs hd => by
    obtain ⟨F', N'⟩ := upd_ok F N hm hs hd
    exact h h' F' N') (by rw [PySem.sizeLine_eq]; omega)
theorem item_U {value slice : Expr} {k : Int} {u : Tok} {v : Value} {Q : Value → Shared → Prop} (N : News h₀ L s.heap all) (hm : (D, W.listOf its n) ∈ all) (h0 : 0 ≤ k) (hfit : k < 2 ^ 62) (hx : its[k.toNat]? = some v) (h : Q v s)
    (hs : subscripted slice false (.ref D) (.int k u) = operate [.ref D, .int k u] (getItem (.ref D) (.int k u)) := by with_unfolding_all rfl) :
    wpAny (model prog w) A (subscriptTail value slice (.ref D) (.int k u)) Q E s := by
  have hl : s.heap.IsList D its := ⟨_, (N _ hm).1, rfl, n, rfl⟩
  exact tail_any hl.typeIs slot_list_getitem.lookup (wpAny_getItem_list hl h0 (by omega) hx h) hs
theorem item_last {value slice : Expr} {xs : List Value} {u : Tok} {v : Value} {Q : Value → Shared → Prop} (N : News h₀ L s.heap all) (hm : (D, W.listOf (xs ++ [v]).toArray n) ∈ all) (h : Q v s)
    (hs : subscripted slice false (.ref D) (.int (-1) u) = operate [.ref D, .int (-1) u] (getItem (.ref D) (.int (-1) u)) := by with_unfolding_all rfl) :
    wpAny (model prog w) A (subscriptTail value slice (.ref D) (.int (-1) u)) Q E s := by
  have hl : s.heap.IsList D (xs ++ [v]).toArray := ⟨_, (N _ hm).1, rfl, n, rfl⟩
  refine tail_any hl.typeIs slot_list_getitem.lookup (wpAny_getItem_list_neg hl (by decide) ?_ (by decide) ?_ h) hs
  · simp; omega
  · have e : (-1 + ((xs ++ [v]).toArray.size : Int)).toNat = xs.length := by simp; omega
    rw [e]; simp
theorem getItem_last {xs : List Value} {u : Tok} {v : Value} {Q : Value → Shared → Prop} (N : News h₀ L s.heap all) (hm : (D, W.listOf (xs ++ [v]).toArray n) ∈ all) (h : Q v s) :
    wpAny (model prog w) A (getItem (.ref D) (.int (-1) u)) Q E s := by
  have hl : s.heap.IsList D (xs ++ [v]).toArray := ⟨_, (N _ hm).1, rfl, n, rfl⟩
  refine wpAny_getItem_list_neg hl (by decide) ?_ (by decide) ?_ h
  · simp; omega
  · have e : (-1 + ((xs ++ [v]).toArray.size : Int)).toNat = xs.length := by simp; omega
    rw [e]; simp
theorem map_U {its' : Array Value} {n' : Nat} (f : Array Value → Array Value) (F : Fr h₀ L s.heap m) (N : News h₀ L s.heap all) (hm : (D, W.listOf its n) ∈ all) (he : f its = its') (hn : (if its'.size == its.size then n else n + 1) = n') :
    Fr h₀ L (s.heap.update D (Obj.mapSeq f)) m ∧ News h₀ L (s.heap.update D (Obj.mapSeq f)) (upd D (W.listOf its' n') all) := by
  have q := PySem.IsL.update (N _ hm).1 f
  rw [he, hn] at q
  exact upd_ok F N hm (Heap.SameBut.update ..) q
theorem setItem_last {xs : List Value} {u : Tok} {v v' : Value} {Q : Unit → Shared → Prop} (F : Fr h₀ L s.heap m) (N : News h₀ L s.heap all) (hm : (D, W.listOf (xs ++ [v]).toArray n) ∈ all)
    (h : ∀ h', Fr h₀ L h' m → News h₀ L h' (upd D (W.listOf (xs ++ [v']).toArray n) all) → Q () { s with heap := h' }) :
    wpAny (model prog w) A (setItem (.ref D) (.int (-1) u) v') Q E s := by
  have e : (-1 + ((xs ++ [v]).toArray.size : Int)).toNat = xs.length := by simp; omega
  refine ki_setBack (N _ hm).1 (by decide) (by simp; omega) (by decide) ?_
  rw [e]
  obtain ⟨F', N'⟩ := map_U (its' := (xs ++ [v']).toArray) (n' := n) (·.setIfInBounds xs.length v') F N hm (by apply Array.toList_inj.mp; simp) (by simp)
  exact h _ F' N'
theorem setItem_U {xs : List Value} {k : Int} {u : Tok} {v' : Value} {Q : Unit → Shared → Prop} (F : Fr h₀ L s.heap m) (N : News h₀ L s.heap all) (hm : (D, W.listOf xs.toArray n) ∈ all) (h0 : 0 ≤ k) (h1 : k < xs.length) (hfit : k < 2 ^ 62)
    (h : ∀ h', Fr h₀ L h' m → News h₀ L h' (upd D (W.listOf (xs.set k.toNat v').toArray n) all) → Q () { s with heap := h' }) :
    wpAny (model prog w) A (setItem (.ref D) (.int k u) v') Q E s := by
  refine ki_setAt (N _ hm).1 h0 (by omega) (by rw [List.size_toArray]; exact h1) ?_
  obtain ⟨F', N'⟩ := map_U (its' := (xs.set k.toNat v').toArray) (n' := n) (·.setIfInBounds k.toNat v') F N hm (by apply Array.toList_inj.mp; simp) (by simp)
  exact h _ F' N'
theorem pop_U {xs : List Value} {v : Value} {Q : Value → Shared → Prop} (F : Fr h₀ L s.heap m) (N : News h₀ L s.heap all) (hm : (D, W.listOf (xs ++ [v]).toArray n) ∈ all) (hsz : xs.length ≤ 1000000)
    (h : ∀ h', Fr h₀ L h' m → News h₀ L h' (upd D (W.listOf xs.toArray (n + 1)) all) → Q v { s with heap := h' }) :
    wpAny (model prog w) A (call (.builtin "list.pop") [.ref D]) Q E s := by
  obtain ⟨F', N'⟩ := map_U (its' := xs.toArray) (n' := n + 1) (fun ys => ys.eraseIdxIfInBounds ((xs ++ [v]).toArray.size - 1)) F N hm (by apply Array.toList_inj.mp; simp [Array.eraseIdxIfInBounds]; exact (kl_eraseL xs [] v).trans (List.append_nil _)) (by simp)
  exact call_meets PySem.F.slot_list_pop ⟨_, (N _ hm).1, rfl⟩ PySem.F.entry_list_pop (PySem.F.args_list_pop_1 _) (PySem.MeetsSeq.list_pop_last D _ n v (by simp) (by simp [PySem.sizeLine_eq]; omega)) ⟨(N _ hm).1, h _ F' N'⟩
theorem pop0_U {xs : List Value} {v : Value} {u : Tok} {Q : Value → Shared → Prop} (F : Fr h₀ L s.heap m) (N : News h₀ L s.heap all) (hm : (D, W.listOf (v :: xs).toArray n) ∈ all) (hsz : xs.length ≤ 1000000)
    (h : ∀ h', Fr h₀ L h' m → News h₀ L h' (upd D (W.listOf xs.toArray (n + 1)) all) → Q v { s with heap := h' }) :
    wpAny (model prog w) A (call (.builtin "list.pop") [.ref D, .int 0 u]) Q E s := by
  obtain ⟨F', N'⟩ := map_U (its' := xs.toArray) (n' := n + 1) (fun ys => ys.eraseIdxIfInBounds 0) F N hm (by apply Array.toList_inj.mp; simp [Array.eraseIdxIfInBounds]) (by simp)
  exact call_meets PySem.F.slot_list_pop ⟨_, (N _ hm).1, rfl⟩ PySem.F.entry_list_pop (PySem.F.args_list_pop_2 _ _) (PySem.MeetsSeq.list_pop_at D _ n 0 u 0 v (by decide) (by simp [seqIndex?]) (by simp) (by simp [PySem.sizeLine_eq]; omega)) ⟨(N _ hm).1, h _ F' N'⟩
end lists
section setting
variable {prog : Program} {w : World} {A : Around} {E : Value → Shared → Prop} {s : Shared} {h₀ : Heap} {L D : Addr} {m : Str → Option Value} {all : List (Addr × Obj)} {n : Nat}
theorem in_sep (seps : List Nat) (c : Nat) : (Builtin.Str.occurrences (S seps) (S [c]) 0 (S seps).length 1).isEmpty = !decide (c ∈ seps) := by
  have h := StrLaws.found_one (S seps) c
  rw [S_cps] at h
  have e : (S [c] : Str) = ⟨#[c]⟩ := rfl
  rw [e, ← h, Bool.not_not]
end setting
/-- a turn's frame, its names shown -/
theorem fr_turn {h₀ h : Heap} {L : Addr} {m : Str → Option Value} {x : Str} {v : Value} (ps : List (Str × Value)) (F : Fr h₀ L h (fun y => if y = x then some v else m y)) (hps : ∀ p ∈ ps, m p.1 = some p.2) : Fr h₀ L h (fun y => if y = x then some v else kstB m ps y) := by
  have e : kstB m ps = m := funext fun z => kstB_eq hps fun _ => rfl
  rw [e]; exact F
section loops
variable {prog : Program} {w : World} {A : Around} {E : Value → Shared → Prop} {s : Shared} {env : Env} {h₀ : Heap} {x : Str} {body : List Stmt} {Q : Flow → Shared → Prop}
/-- a turn's end: the frame, the ledger's part that the loop speaks of -/
def GEnd (h₀ : Heap) (L I : Addr) (J : (Str → Option Value) → List (Addr × Obj) → Prop) (own : List (Addr × Obj)) (s s₂ : Shared) : Prop :=
  ∃ h' tk m' all nx, s₂ = { s with heap := h', toks := tk } ∧ Fr h₀ L h' m' ∧ News h₀ L h' all ∧ Sub own all ∧ Sub nx all ∧ (∀ p ∈ nx, p.1 ≠ I) ∧ J m' nx
def GPost (h₀ : Heap) (L I : Addr) (J : (Str → Option Value) → List (Addr × Obj) → Prop) (own : List (Addr × Obj)) (s : Shared) (Q : Flow → Shared → Prop) (f : Flow) (s₂ : Shared) : Prop :=
  match f with
  | .ret v => Q (.ret v) s₂
  | .brk => Q .next s₂
  | _ => GEnd h₀ L I J own s s₂
theorem GEnd.intro {L I : Addr} {J : (Str → Option Value) → List (Addr × Obj) → Prop} {own all : List (Addr × Obj)} {h' : Heap} {tk : Nat} {m' : Str → Option Value} (nx : List (Addr × Obj)) (F : Fr h₀ L h' m') (N : News h₀ L h' all) (ho : Sub own all) (hn : Sub nx all) (hI : ∀ p ∈ nx, p.1 ≠ I) (hj : J m' nx) :
    GEnd h₀ L I J own s { s with heap := h', toks := tk } := ⟨h', tk, m', all, nx, rfl, F, N, ho, hn, hI, hj⟩

theorem loopG {I : Addr} {fp : List Addr} {n : Nat} {P : Nat → Value → Prop} {St : Nat → Heap → Prop} {m₀ : Str → Option Value} {news : List (Addr × Obj)} (J : Nat → (Str → Option Value) → List (Addr × Obj) → Prop)
    (W : Walks prog w A I fp [I] n P St) (hIo : ∀ i h, St i h → ∃ o, h.get? I = some o) (hLf : env.locals ∉ fp) (hI₀ : h₀.get? I = none) (hnI : ∀ p ∈ news, p.1 ≠ I) (hst : St 0 s.heap) (F : Fr h₀ env.locals s.heap m₀) (N : News h₀ env.locals s.heap news) (hj : J 0 m₀ news)
    (turn : ∀ i v m₁ nx h tk own, i < n → P i v → J i m₁ nx → (∃ o, (I, o) ∈ own) → (∀ p ∈ own, p.1 ∈ fp) → (∀ p ∈ nx, p.1 ≠ I) → Fr h₀ env.locals h (fun y => if y = x then some v else m₁ y) → News h₀ env.locals h (own ++ nx) →
      wpAny (model prog w) A (execs body env) (GPost h₀ env.locals I (J (i + 1)) own s Q) E { s with heap := h, toks := tk })
    (done : ∀ m₁ nx h tk, J n m₁ nx → Fr h₀ env.locals h m₁ → News h₀ env.locals h nx → Q .next { s with heap := h, toks := tk }) :
    LoopAtV prog w A h₀ env x body Q E (.ref I) s := by
  have hIf : I ∈ fp := W.sub I (List.mem_singleton.mpr rfl)
  refine ⟨I, fp, [I], n, P, St, m₀, news, J, rfl, W, hLf, (fun b hb => by rw [List.mem_singleton.mp hb]; exact hI₀), (fun p hp hq => hnI p hp (List.mem_singleton.mp hq)), hst, F, N, hj, ?_, ?_⟩
  · rintro i v m₁ nx s₁ own ⟨h1, tk1, rfl⟩ hin hP hJ hoff hof _ hfp hst' F₁ N₁
    obtain ⟨oI, hoI⟩ := hIo _ _ hst'
    have hIown : (I, oI) ∈ own := hfp I hIf hI₀ _ hoI
    refine wpAny_mono (turn i v m₁ nx h1 tk1 own hin hP hJ ⟨oI, hIown⟩ hof (fun p hp hq => hoff p hp (List.mem_singleton.mpr hq)) F₁ N₁) (fun f s₂ p => ?_) fun _ _ e => e
    have fin : GEnd h₀ env.locals I (J (i + 1)) own s s₂ → LoopStepU h₀ env.locals [I] own (J (i + 1)) { s with heap := h1, toks := tk1 } .next s₂ := by
      rintro ⟨h', tk, m', all, nx', e, F', N', ho, hn, hI, hm⟩
      exact ⟨rfl, h', tk, m', nx', e, F', fun p hp => N' p ((List.mem_append.mp hp).elim (ho p) (hn p)), fun p hp hq => hI p hp (List.mem_singleton.mp hq), hm⟩
    cases f with
    | ret v => exact .ret p
    | brk => exact .brk p
    | next => exact .next (fin p)
    | cont => exact .cont (fin p)
  · rintro h' tk m' news' F' N' _ hJ
    exact done m' news' h' tk hJ F' N'

theorem forStr {p : List Nat} {tx : Tok} {m₀ : Str → Option Value} {news : List (Addr × Obj)} (J : Nat → (Str → Option Value) → List (Addr × Obj) → Prop)
    (hh : A.handled = none) (F : Fr h₀ env.locals s.heap m₀) (N : News h₀ env.locals s.heap news) (hj : J 0 m₀ news)
    (turn : ∀ i c t m₁ nx h tk own I, p[i]? = some c → J i m₁ nx → (∃ o, (I, o) ∈ own) → (∀ q ∈ own, q.1 = I) → (∀ q ∈ nx, q.1 ≠ I) → Fr h₀ env.locals h (fun y => if y = x then some (.str (S [c]) t) else m₁ y) → News h₀ env.locals h (own ++ nx) →
      wpAny (model prog w) A (execs body env) (GPost h₀ env.locals I (J (i + 1)) own s Q) E { s with heap := h, toks := tk })
    (done : ∀ m₁ nx h tk, J p.length m₁ nx → Fr h₀ env.locals h m₁ → News h₀ env.locals h nx → Q .next { s with heap := h, toks := tk }) :
    wpAny (model prog w) A (pyIter (.str (S p) tx)) (fun it s₂ => LoopAtV prog w A h₀ env x body Q E it s₂) E s := by
  have hsz : (S p).cps.size = p.length := by simp [S]
  have key : ∀ (o : Obj) (St : Nat → Heap → Prop), Walks prog w A s.heap.objs.size [s.heap.objs.size] [s.heap.objs.size] (S p).cps.size (SignAt (S p)) St → St 0 (s.heap.push o) → (∀ i h, St i h → ∃ o, h.get? s.heap.objs.size = some o) →
      LoopAtV prog w A h₀ env x body Q E (.ref s.heap.objs.size) { s with heap := s.heap.push o } := by
    intro o St W hst hst0
    rw [hsz] at W
    refine loopG J W hst0 ?_ (next_is_new F) (fun p hp => Nat.ne_of_lt (Heap.lt_size (N p hp).1)) hst (F.push _) (N.grown fun _ _ e => Heap.get?_push_of_some _ e) hj ?_ ?_
    · intro hm; exact absurd F.ns.lt ((List.mem_singleton.mp hm) ▸ Nat.lt_irrefl _)
    · rintro i v m₁ nx h tk own hi ⟨c, u, hc, rfl⟩ hJ hI hof hnI F₁ N₁
      exact turn i c u m₁ nx h tk own _ (by simpa [S] using hc) hJ hI (fun q hq => List.mem_singleton.mp (hof q hq)) hnI F₁ N₁
    · intro m₁ nx h tk hJ F₁ N₁
      exact done m₁ nx h tk hJ F₁ N₁
  cases ha : (S p).cps.all (· < 128)
  · exact wpAny_pyIter_wide ha (key _ _ (Walks.strWide hh _ (S p) tx) ⟨_, Heap.get?_push_size _ rfl, rfl, rfl⟩ (fun i h st => by obtain ⟨o, e, _⟩ := st; exact ⟨o, e⟩))
  · exact wpAny_pyIter_ascii ha (key _ _ (Walks.strAscii hh _ (S p) tx) ⟨_, Heap.get?_push_size _ rfl, rfl, rfl⟩ (fun i h st => by obtain ⟨o, e, _⟩ := st; exact ⟨o, e⟩))

theorem forRange {r : Addr} {n : Nat} {t₀ u₀ v₀ : Tok} {m₀ : Str → Option Value} {news : List (Addr × Obj)} (a : Int) (b : Int) (J : Nat → (Str → Option Value) → List (Addr × Obj) → Prop)
    (hh : A.handled = none) (hr : IsRange s.heap r a b 1 t₀ u₀ v₀) (hsmall : Builtin.Range.small a b 1 = true) (hn : Builtin.Range.rangeSize a b 1 = (n : Int)) (F : Fr h₀ env.locals s.heap m₀) (N : News h₀ env.locals s.heap news) (hj : J 0 m₀ news)
    (turn : ∀ i t m₁ nx h tk own I, i < n → J i m₁ nx → (∃ o, (I, o) ∈ own) → (∀ q ∈ own, q.1 = I) → (∀ q ∈ nx, q.1 ≠ I) → Fr h₀ env.locals h (fun y => if y = x then some (.int (a + (i : Int)) t) else m₁ y) → News h₀ env.locals h (own ++ nx) →
      wpAny (model prog w) A (execs body env) (GPost h₀ env.locals I (J (i + 1)) own s Q) E { s with heap := h, toks := tk })
    (done : ∀ m₁ nx h tk, J n m₁ nx → Fr h₀ env.locals h m₁ → News h₀ env.locals h nx → Q .next { s with heap := h, toks := tk }) :
    wpAny (model prog w) A (pyIter (.ref r)) (fun it s₂ => LoopAtV prog w A h₀ env x body Q E it s₂) E s := by
  refine wpAny_pyIter_range hr hsmall ?_
  have W : Walks prog w A s.heap.objs.size [s.heap.objs.size] [s.heap.objs.size] n (fun i v => i < n ∧ ∃ t, v = .int (a + i * 1) t)
      (fun i h => IsRangeIter h s.heap.objs.size (a + (i : Nat) * 1) ((n : Int) - (i : Nat)) 1) := (Walks.range hh _ a 1 n).bound
  refine loopG J W (fun i h st => ⟨_, st⟩) ?_ (next_is_new F) (fun p hp => Nat.ne_of_lt (Heap.lt_size (N p hp).1)) (by show IsRangeIter _ _ _ _ _; rw [hn]; simpa using Heap.get?_push_size _ rfl) (F.push _) (N.grown fun _ _ e => Heap.get?_push_of_some _ e) hj ?_ ?_
  · intro hm; exact absurd F.ns.lt ((List.mem_singleton.mp hm) ▸ Nat.lt_irrefl _)
  · rintro i v m₁ nx h tk own hi ⟨_, t, rfl⟩ hJ hI hof hnI F₁ N₁
    rw [Int.mul_one] at F₁
    exact turn i t m₁ nx h tk own _ hi hJ hI (fun q hq => List.mem_singleton.mp (hof q hq)) hnI F₁ N₁
  · intro m₁ nx h tk hJ F₁ N₁
    exact done m₁ nx h tk hJ F₁ N₁

/-- a loop over a list of the ledger, which stays as it is -/
theorem forList {l : Addr} {its : List Value} {c : Nat} {m₀ : Str → Option Value} {news : List (Addr × Obj)} (J : Nat → (Str → Option Value) → List (Addr × Obj) → Prop)
    (hh : A.handled = none) (F : Fr h₀ env.locals s.heap m₀) (N : News h₀ env.locals s.heap news) (hl : (l, W.listOf its.toArray c) ∈ news) (led : List (Addr × Obj)) (hled : Sub led news) (hj : J 0 m₀ led)
    (turn : ∀ i v m₁ nx h tk own I, its[i]? = some v → J i m₁ nx → (∃ o, (I, o) ∈ own) → (∀ q ∈ own, q.1 = I ∨ q.1 = l) → (∀ q ∈ nx, q.1 ≠ I) → Fr h₀ env.locals h (fun y => if y = x then some v else m₁ y) → News h₀ env.locals h (own ++ nx) →
      wpAny (model prog w) A (execs body env) (GPost h₀ env.locals I (J (i + 1)) own s Q) E { s with heap := h, toks := tk })
    (done : ∀ m₁ nx h tk, J its.length m₁ nx → Fr h₀ env.locals h m₁ → News h₀ env.locals h nx → Q .next { s with heap := h, toks := tk }) :
    wpAny (model prog w) A (pyIter (.ref l)) (fun it s₂ => LoopAtV prog w A h₀ env x body Q E it s₂) E s := by
  have hls : s.heap.IsList l its.toArray := ⟨_, (N _ hl).1, rfl, c, rfl⟩
  have hlt : l < s.heap.objs.size := Heap.lt_size (N _ hl).1
  refine wpAny_pyIter_list hls ?_
  have W := Walks.list (prog := prog) (w := w) hh s.heap.objs.size l (Nat.ne_of_lt hlt) its.toArray
  have hsz : its.toArray.size = its.length := by simp
  rw [hsz] at W
  have hnw : ∀ p ∈ led, p.1 ≠ s.heap.objs.size := fun p hp => Nat.ne_of_lt (Heap.lt_size (N p (hled p hp)).1)
  refine loopG J W (fun i h st => by obtain ⟨o, e, _⟩ := st.1; exact ⟨o, e⟩) ?_ (next_is_new F) hnw ⟨⟨_, Heap.get?_push_size _ rfl, rfl, rfl⟩, hls.push _⟩ (F.push _) ((news_sub N hled).grown fun _ _ e => Heap.get?_push_of_some _ e) hj ?_ ?_
  · intro hm
    rcases List.mem_cons.mp hm with e | hm
    · exact absurd F.ns.lt (e ▸ Nat.lt_irrefl _)
    · exact (N _ hl).2.1 (List.mem_singleton.mp hm).symm
  · rintro i v m₁ nx h tk own hi hP hJ hI hof hnI F₁ N₁
    exact turn i v m₁ nx h tk own _ (by simpa using hP) hJ hI (fun q hq => by simpa using hof q hq) hnI F₁ N₁
  · intro m₁ nx h tk hJ F₁ N₁
    exact done m₁ nx h tk hJ F₁ N₁
/-- a loop over a list that stood ahead of the call -/
theorem forBase {l : Addr} {its : List Value} {m₀ : Str → Option Value} {news : List (Addr × Obj)} (J : Nat → (Str → Option Value) → List (Addr × Obj) → Prop)
    (hh : A.handled = none) (F : Fr h₀ env.locals s.heap m₀) (N : News h₀ env.locals s.heap news) (hl : h₀.IsList l its.toArray) (hj : J 0 m₀ news)
    (turn : ∀ i v m₁ nx h tk own I, its[i]? = some v → J i m₁ nx → (∃ o, (I, o) ∈ own) → (∀ q ∈ own, q.1 = I ∨ q.1 = l) → (∀ q ∈ nx, q.1 ≠ I) → Fr h₀ env.locals h (fun y => if y = x then some v else m₁ y) → News h₀ env.locals h (own ++ nx) →
      wpAny (model prog w) A (execs body env) (GPost h₀ env.locals I (J (i + 1)) own s Q) E { s with heap := h, toks := tk })
    (done : ∀ m₁ nx h tk, J its.length m₁ nx → Fr h₀ env.locals h m₁ → News h₀ env.locals h nx → Q .next { s with heap := h, toks := tk }) :
    wpAny (model prog w) A (pyIter (.ref l)) (fun it s₂ => LoopAtV prog w A h₀ env x body Q E it s₂) E s := by
  have hls : s.heap.IsList l its.toArray := hl.at fun o e => F.keep l o e
  obtain ⟨ol, hol, _⟩ := id hl
  have hlt : l < h₀.objs.size := Heap.lt_size hol
  have hne : l ≠ s.heap.objs.size := Nat.ne_of_lt (Nat.lt_trans (Nat.lt_of_lt_of_le hlt F.above) F.ns.lt)
  refine wpAny_pyIter_list hls ?_
  have W := Walks.list (prog := prog) (w := w) hh s.heap.objs.size l hne its.toArray
  have hsz : its.toArray.size = its.length := by simp
  rw [hsz] at W
  refine loopG J W (fun i h st => by obtain ⟨o, e, _⟩ := st.1; exact ⟨o, e⟩) ?_ (next_is_new F) (fun p hp => Nat.ne_of_lt (Heap.lt_size (N p hp).1)) ⟨⟨_, Heap.get?_push_size _ rfl, rfl, rfl⟩, hls.push _⟩ (F.push _) (N.grown fun _ _ e => Heap.get?_push_of_some _ e) hj ?_ ?_
  · intro hm
    rcases List.mem_cons.mp hm with e | hm
    · exact absurd F.ns.lt (e ▸ Nat.lt_irrefl _)
    · exact absurd (Nat.lt_of_lt_of_le hlt F.above) ((List.mem_singleton.mp hm) ▸ Nat.lt_irrefl _)
  · rintro i v m₁ nx h tk own hi hP hJ hI hof hnI F₁ N₁
    exact turn i v m₁ nx h tk own _ (by simpa using hP) hJ hI (fun q hq => by simpa using hof q hq) hnI F₁ N₁
  · intro m₁ nx h tk hJ F₁ N₁
    exact done m₁ nx h tk hJ F₁ N₁
end loops
end Mine
end

section
open PySem PySem.W PyProof.Rows PySem.Calls
namespace Mine
open PyProof.Rows.LCg
section comp
variable {prog : Program} {w : World} {A : Around} {E : Value → Shared → Prop} {s : Shared} {env : Env} {h₀ : Heap} {L : Addr} {m : Str → Option Value}

abbrev testsOf (ifs : List Expr) (env : Env) : Sem Bool := forIn ifs true fun c r => if r = true then do let ok ← isTrue c env (eval c env); pure (ForInStep.yield ok) else pure (ForInStep.yield r)

theorem compLoop_all {elt target iter : Expr} {ifs : List Expr} {scope : Scope} {pos : Pos} {it acc : Value} {env : Env} {R : Result → Shared → Prop} (I : Nat → Shared → Prop)
    (turn : ∀ n s, I n s → wpAny (model prog w) A (pyNext it) (fun r s₁ => match r with
      | none => R (.ok .next) s₁
      | some v => wpAny (model prog w) A (letOwnedTupleGo target it v) (fun _ s₁' => wpAny (model prog w) A (assign target env v) (fun _ s₂ =>
          wpAny (model prog w) A (testsOf ifs env) (fun ok s₃ =>
            if ok = true then wpAny (model prog w) A (eval elt env) (fun x s₄ =>
              wpAny (model prog w) A (call (.builtin "list.append") [acc, x]) (fun _ s₅ => ∃ m, m < n ∧ I m s₅) (notedBy (model prog w) A env fun e s' => R (.error e) s') s₄) (notedBy (model prog w) A env fun e s' => R (.error e) s') s₃
            else ∃ m, m < n ∧ I m s₃) (notedBy (model prog w) A env fun e s' => R (.error e) s') s₂) (notedBy (model prog w) A env fun e s' => R (.error e) s') s₁') (notedBy (model prog w) A env fun e s' => R (.error e) s') s₁) (notedBy (model prog w) A env fun e s' => R (.error e) s') s)
    (n : Nat) (h : I n s) : codeAny (model prog w) A (.compLoop (.ListComp elt [⟨target, iter, ifs, 0⟩] scope pos) 0 it acc env) R s := by
  refine codeAny_loop rfl I (fun n s hI => ?_) n h
  show wpAny _ A ((compTurn (.ListComp elt [⟨target, iter, ifs, 0⟩] scope pos) 0 it acc env).onRaise (fun x => do noteFrame x env; theTreesLotGoes x)) _ _ s
  refine wpAny_noted ?_
  rw [compTurn_list]
  refine wpAny_bind (wpAny_standAt (wpAny_bind (wpAny_mono (turn n s hI) (fun r s₁ h₁ => ?_) fun _ _ h' => h')))
  cases r with
  | none => exact wpAny_pure h₁
  | some v =>
    refine wpAny_bind (wpAny_mono h₁ (fun _ s₁' h₁' => ?_) fun _ _ h' => h')
    refine wpAny_bind (wpAny_mono h₁' (fun _ s₂ h₂ => wpAny_bind (wpAny_mono h₂ (fun ok s₃ h₃ => ?_) fun _ _ h' => h')) fun _ _ h' => h')
    cases ok with
    | false => exact wpAny_pure ⟨rfl, h₃⟩
    | true =>
      exact wpAny_bind (wpAny_bind (wpAny_mono h₃ (fun x s₄ h₄ => wpAny_bind (wpAny_mono h₄ (fun _ s₅ h₅ => wpAny_pure (wpAny_pure ⟨rfl, h₅⟩)) fun _ _ h' => h')) fun _ _ h' => h'))

/-- an element's end: all that stood stands -/
def CEnd (h₀ : Heap) (L : Addr) (m : Str → Option Value) (s : Shared) (led : List (Addr × Obj)) (G : Option Value → Prop) (y : Option Value) (s₂ : Shared) : Prop :=
  ∃ h' tk, s₂ = { s with heap := h', toks := tk } ∧ Fr h₀ L h' m ∧ News h₀ L h' led ∧ G y
theorem CEnd.intro {led all : List (Addr × Obj)} {G : Option Value → Prop} {y : Option Value} {h' : Heap} {tk : Nat} (F : Fr h₀ L h' m) (N : News h₀ L h' all) (hs : Sub led all) (g : G y) : CEnd h₀ L m s led G y { s with heap := h', toks := tk } := ⟨h', tk, rfl, F, news_sub N hs, g⟩

/-- one turn of a comprehension behind its target's binding -/
def CTurn (prog : Program) (w : World) (A : Around) (h₀ : Heap) (L : Addr) (m : Str → Option Value) (env : Env) (elt : Expr) (ifs : List Expr) (scope : Scope) (cl : List (Str × Addr)) (s : Shared) (news : List (Addr × Obj)) (B : (Str → Option Value) → Prop) (G : Option Value → Prop) : Prop :=
  ∀ I oI C oC D oD m₃ h tk (E' : Value → Shared → Prop), B m₃ → NsObj oC m₃ → Fr h₀ L h m → News h₀ L h ((I, oI) :: (C, oC) :: (D, oD) :: news) → (∀ p ∈ news, p.1 ≠ C) →
    wpAny (model prog w) A (testsOf ifs (compEnvC scope cl C env)) (fun ok s₄ => if ok = true then wpAny (model prog w) A (eval elt (compEnvC scope cl C env)) (fun y => CEnd h₀ L m s ((I, oI) :: (C, oC) :: (D, oD) :: news) G (some y)) E' s₄ else CEnd h₀ L m s ((I, oI) :: (C, oC) :: (D, oD) :: news) G none s₄) E' { s with heap := h, toks := tk }

theorem comp_block {elt iter target : Expr} {ifs : List Expr} {scope : Scope} {cl : List (Str × Addr)} {pos : Pos} {s₂ : Shared} {I : Addr} {fp : List Addr} {n : Nat} {P : Nat → Value → Prop} {St : Nat → Heap → Prop} {news : List (Addr × Obj)}
    (Bd : Nat → (Str → Option Value) → Prop) (G : Nat → Option Value → Prop) {RR : Value → Addr → Result → Shared → Prop}
    (W : Walks prog w A I fp [I] n P St) (hsz : n ≤ sizeLine) (hIo : ∀ i h, St i h → ∃ o, h.get? I = some o)
    (hSt : ∀ i h h' o, St i h → h.get? I = some o → h'.get? I = some o → (∀ b o, h₀.get? b = some o → h'.get? b = some o) → News h₀ L h' news → St i h')
    (ht : ∀ i v s' (Q : Unit → Shared → Prop) (E' : Value → Shared → Prop), P i v → St (i + 1) s'.heap → Q () s' → wpAny (model prog w) A (letOwnedTupleGo target (.ref I) v) Q E' s')
    (hcell : ∀ y ∈ scope.names, y.2 ≠ .cell) (hkind : scope.kind = .function) (hst : St 0 s₂.heap) (hfp : ∀ b ∈ fp, b < s₂.heap.objs.size)
    (F : Fr h₀ L s₂.heap m) (N : News h₀ L s₂.heap news) (hIL : L ≠ I) (hI₀ : h₀.get? I = none) (off : ∀ p ∈ news, p.1 ≠ I)
    (hass : ∀ i v C h tk m' (E' : Value → Shared → Prop), P i v → h.Ns C m' → Fr h₀ L h m → News h₀ L h news → C ≠ L → h₀.get? C = none → (∀ p ∈ news, p.1 ≠ C) →
      wpAny (model prog w) A (assign target (compEnvC scope cl C env) v) (fun _ s₃ => ∃ h₃ tk₃ m₃, s₃ = { s₂ with heap := h₃, toks := tk₃ } ∧ h₃.Ns C m₃ ∧ (∀ b o, b ≠ C → h.get? b = some o → h₃.get? b = some o) ∧ Bd i m₃) E' { s₂ with heap := h, toks := tk })
    (turn : ∀ i, i < n → CTurn prog w A h₀ L m env elt ifs scope cl s₂ news (Bd i) (G i))
    (hRR : ∀ D C h tk m' (gs : List (Option Value)), Fr h₀ L h m → News h₀ L h ((D, lst (gs.filterMap id)) :: news) → h.Ns C m' → h₀.get? C = none → h₀.get? D = none → C ≠ L → D ≠ L → C ≠ D → (∀ p ∈ news, p.1 ≠ C) → (∀ p ∈ news, p.1 < D) → gs.length = n → (∀ j g, gs[j]? = some g → G j g) → RR (.ref D) C (.ok .next) { s₂ with heap := h, toks := tk }) :
    wpAny (model prog w) A (newList []) (fun acc s₃ => wpAny (model prog w) A (newFunctionEnv scope env.globals cl [] env.qual none .none (some env)) (fun cenv s₄ =>
      codeAny (model prog w) A (.compStart (.ListComp elt [⟨target, iter, ifs, 0⟩] scope pos) 0 (.ref I) acc { cenv with scope := relabel scope env }) (RR acc cenv.locals) s₄) E s₃) E s₂ := by
  refine wpAny_newObj_type (wpAny_newFunctionEnv hcell (by intro y hy; simp at hy) (fun h₁ hns₁ hsb₁ => ?_) hkind)
  dsimp only at hns₁ hsb₁ ⊢
  generalize hH2 : s₂.heap.push { cls := .type "list", dict := none, data := .seq ([] : List Value).toArray } = H2 at hns₁ hsb₁ ⊢
  have hC : H2.objs.size = s₂.heap.objs.size + 1 := by rw [← hH2, Heap.size_push]
  generalize hCe : H2.objs.size = C at hns₁ hsb₁ hC ⊢
  generalize hDe : s₂.heap.objs.size = D at hC hfp ⊢
  have hC : @Eq Nat C (D + 1) := hC
  have hDC : @Ne Nat D C := by omega
  have hIlt : @LT.lt Nat _ I D := hfp I (W.sub I (List.mem_singleton.mpr rfl))
  have hDf : D ∉ fp := fun hm => Nat.lt_irrefl _ (hfp _ hm)
  have hCf : C ∉ fp := fun hm => by have : @LT.lt Nat _ C D := hfp _ hm; omega
  have old : ∀ b o, s₂.heap.get? b = some o → h₁.get? b = some o := fun b o e => hsb₁.extBut b o (by have : @LT.lt Nat _ b s₂.heap.objs.size := Heap.lt_size e; show @Ne Nat b C; omega) (Heap.get?_push_of_some _ (hH2 ▸ Heap.get?_push_of_some _ e))
  have hacc : h₁.get? D = some (lst []) := hsb₁.extBut _ _ hDC (Heap.get?_push_of_some _ (hH2 ▸ hDe ▸ Heap.get?_push_size _ rfl))
  have hst₁ : St 0 h₁ := W.frame _ _ _ hst fun b _ o e => old b o e
  have fresh₀ : ∀ a, D ≤ a → h₀.get? a = none := fun a ha => by
    cases e : h₀.get? a with
    | none => rfl
    | some o' => have : @LT.lt Nat _ a s₂.heap.objs.size := Heap.lt_size (F.keep a o' e); have : @LE.le Nat _ D a := ha; omega
  have hD₀ : h₀.get? D = none := fresh₀ _ (Nat.le_refl _)
  have hC₀ : h₀.get? C = none := fresh₀ _ (by show @LE.le Nat _ D C; omega)
  have hLlt : @LT.lt Nat _ L D := by have : @LT.lt Nat _ L s₂.heap.objs.size := F.ns.lt; omega
  have hDL : @Ne Nat D L := by omega
  have hCL : @Ne Nat C L := by omega
  have hCI : @Ne Nat C I := by omega
  have hDI : @Ne Nat D I := by omega
  have hlt : ∀ p ∈ news, p.1 < D := fun p hp => by have : @LT.lt Nat _ p.1 s₂.heap.objs.size := Heap.lt_size (N p hp).1; show @LT.lt Nat _ p.1 D; omega
  have offC : ∀ p ∈ news, p.1 ≠ C := fun p hp => by have : @LT.lt Nat _ p.1 D := hlt p hp; show @Ne Nat p.1 C; omega
  have offD : ∀ p ∈ news, p.1 ≠ D := fun p hp => by have : @LT.lt Nat _ p.1 D := hlt p hp; show @Ne Nat p.1 D; omega
  have loop : ∀ s₃ : Shared, s₃ = { s₂ with heap := h₁, toks := s₂.toks + ([] : List (Str × Value)).length } →
      codeAny (model prog w) A (.compLoop (.ListComp elt [⟨target, iter, ifs, 0⟩] scope pos) 0 (.ref I) (.ref D) (compEnvC scope cl C env)) (RR (.ref D) C) s₃ := by
    rintro s₃ rfl
    refine compLoop_all
      (fun k s' => ∃ h' tk gs m', s' = { s₂ with heap := h', toks := tk } ∧ gs.length ≤ n ∧ k = n + 1 - gs.length ∧ St gs.length h' ∧ Fr h₀ L h' m ∧ h'.Ns C m' ∧ News h₀ L h' ((D, lst (gs.filterMap id)) :: news) ∧ (∀ j g, gs[j]? = some g → G j g)) ?_ (n + 1)
      ⟨h₁, _, [], _, rfl, Nat.zero_le _, rfl, hst₁, F.keeps old, hns₁, fun p hp => ?_, by simp⟩
    · rintro k s' ⟨h', tk, gs, m', rfl, hi, rfl, hst', F', hn', N', hG⟩
      by_cases hlt' : gs.length < n
      · refine W.item gs.length _ _ _ hlt' hst' fun v h₂ tk₂ hPv hst₂ hk₂ => ?_
        have kI : ∀ b o, b ≠ I → h'.get? b = some o → h₂.get? b = some o := fun b o hb e => hk₂ b o (by simpa using hb) e
        have F₂ : Fr h₀ L h₂ m := fr_but F' hk₂ hIL hI₀
        have N₂ : News h₀ L h₂ ((D, lst (gs.filterMap id)) :: news) := news_but N' hk₂ fun p hp => by
          rcases List.mem_cons.mp hp with rfl | hp
          · exact hDI
          · exact off p hp
        refine ht gs.length v _ _ _ hPv hst₂ ?_
        refine wpAny_mono (hass gs.length v C h₂ tk₂ _ _ hPv (hn'.at' fun o e => kI _ o hCI e) F₂ (fun p hp => N₂ p (.tail _ hp)) hCL hC₀ offC) (fun _ s₃ h₃ => ?_) fun _ _ e => e
        obtain ⟨h₃, tk₃, m₃, rfl, hn₃, hk₃, hB⟩ := h₃
        have hst₃ : St (gs.length + 1) h₃ := W.frame _ _ _ hst₂ fun b hb o e => hk₃ b o (fun q => hCf (q ▸ hb)) e
        obtain ⟨oI, heI⟩ := hIo _ _ hst₃
        obtain ⟨oC, heC, hoC⟩ := ns_obj hn₃
        have F₃ : Fr h₀ L h₃ m := ⟨F₂.ns.at' fun o e => hk₃ L o (Ne.symm hCL) e, fun b o e => hk₃ b o (fun q => by rw [q, hC₀] at e; cases e) (F₂.keep b o e), F₂.above⟩
        have N₃ : News h₀ L h₃ ((I, oI) :: (C, oC) :: (D, lst (gs.filterMap id)) :: news) := fun p hp => by
          rcases List.mem_cons.mp hp with rfl | hp
          · exact ⟨heI, Ne.symm hIL, hI₀⟩
          · rcases List.mem_cons.mp hp with rfl | hp
            · exact ⟨heC, hCL, hC₀⟩
            · refine ⟨hk₃ _ _ ?_ (N₂ p hp).1, (N₂ p hp).2⟩
              rcases List.mem_cons.mp hp with rfl | hp
              · exact hDC
              · exact offC p hp
        refine wpAny_mono (turn gs.length hlt' I oI C oC D _ m₃ h₃ tk₃ _ hB hoC F₃ N₃ offC) (fun ok s₄ h₄ => ?_) fun _ _ e => e
        have back : ∀ {y : Option Value} {s₅ : Shared}, CEnd h₀ L m s₂ ((I, oI) :: (C, oC) :: (D, lst (gs.filterMap id)) :: news) (G gs.length) y s₅ → ∃ h₅ tk₅, s₅ = { s₂ with heap := h₅, toks := tk₅ } ∧ Fr h₀ L h₅ m ∧ St (gs.length + 1) h₅ ∧ h₅.Ns C m₃ ∧ h₅.get? D = some (lst (gs.filterMap id)) ∧ News h₀ L h₅ news ∧ (∀ j g, (gs ++ [y])[j]? = some g → G j g) := by
          rintro y s₅ ⟨h₅, tk₅, rfl, F₅, N₅, g₅⟩
          refine ⟨h₅, tk₅, rfl, F₅, hSt _ _ _ _ hst₃ heI (N₅ _ (.head _)).1 F₅.keep (fun p hp => N₅ p (.tail _ (.tail _ (.tail _ hp)))), hoC.ns (N₅ _ (.tail _ (.head _))).1, (N₅ _ (.tail _ (.tail _ (.head _)))).1, fun p hp => N₅ p (.tail _ (.tail _ (.tail _ hp))), ?_⟩
          intro j g hj
          rcases Nat.lt_trichotomy j gs.length with h | h | h
          · exact hG j g (by rwa [List.getElem?_append_left h] at hj)
          · subst h; simp at hj; subst hj; exact g₅
          · have hnone : (gs ++ [y])[j]? = none := List.getElem?_eq_none (by rw [List.length_append, List.length_singleton]; omega)
            rw [hnone] at hj; cases hj
        cases ok with
        | false =>
          simp only [Bool.false_eq_true, if_false] at h₄ ⊢
          obtain ⟨h₅, tk₅, rfl, F₅, hst₅, hn₅, hD₅, N₅, hG₅⟩ := back h₄
          refine ⟨n + 1 - (gs.length + 1), by omega, h₅, tk₅, gs ++ [none], m₃, rfl, by simp; omega, by simp, by simpa using hst₅, F₅, hn₅, ?_, hG₅⟩
          intro p hp
          rcases List.mem_cons.mp hp with rfl | hp
          · exact ⟨by simpa using hD₅, hDL, hD₀⟩
          · exact N₅ p hp
        | true =>
          simp only [if_true] at h₄ ⊢
          refine wpAny_mono h₄ (fun y s₅ h₅' => ?_) fun _ _ e => e
          obtain ⟨h₅, tk₅, rfl, F₅, hst₅, hn₅, hD₅, N₅, hG₅⟩ := back h₅'
          have hlen : (gs.filterMap id).length ≤ n := Nat.le_trans (List.length_filterMap_le _ _) hi
          refine append_at (hsz := by show (gs.filterMap id).toArray.size ≤ sizeLine; rw [List.size_toArray]; exact Nat.le_trans hlen hsz) hD₅ fun h₆ hs₆ hD₆ => ?_
          refine ⟨n + 1 - (gs.length + 1), by omega, h₆, tk₅, gs ++ [some y], m₃, rfl, by simp; omega, by simp, ?_, F₅.change hs₆ hDL hD₀, hn₅.sameBut hs₆ (Ne.symm hDC), ?_, hG₅⟩
          · rw [List.length_append, List.length_singleton]
            exact W.frame _ _ _ hst₅ fun b hb o e => hs₆.extBut b o (fun q => hDf (q ▸ hb)) e
          · intro p hp
            rcases List.mem_cons.mp hp with rfl | hp
            · refine ⟨?_, hDL, hD₀⟩
              rw [List.filterMap_append]
              exact hD₆.trans (congrArg some (lst_snoc (gs.filterMap id) y))
            · exact ⟨hs₆.extBut _ _ (offD p hp) (N₅ p hp).1, (N₅ p hp).2⟩
      · obtain hin : gs.length = n := by omega
        rw [hin] at hst'
        refine W.done _ _ _ hst' fun h₂ tk₂ hk₂ => ?_
        have kI : ∀ b o, b ≠ I → h'.get? b = some o → h₂.get? b = some o := fun b o hb e => hk₂ b o (by simpa using hb) e
        exact hRR _ _ h₂ tk₂ _ gs (fr_but F' hk₂ hIL hI₀) (news_but N' hk₂ fun p hp => by
          rcases List.mem_cons.mp hp with rfl | hp
          · exact hDI
          · exact off p hp) (hn'.at' fun o e => kI _ o hCI e) hC₀ hD₀ hCL hDL (Ne.symm hDC) offC hlt hin hG
    · rcases List.mem_cons.mp hp with rfl | hp
      · exact ⟨hacc, hDL, hD₀⟩
      · exact ⟨old _ _ (N p hp).1, (N p hp).2⟩
  exact codeAny_compStart_list (loop _ rfl) (W.self 0 _ _ _ hst₁ (loop _ rfl))

/-- the comprehension's block behind its source's iterator -/
abbrev CBlock (prog : Program) (w : World) (A : Around) (E : Value → Shared → Prop) (env : Env) (elt target iter : Expr) (ifs : List Expr) (scope : Scope) (cl : List (Str × Addr)) (pos : Pos) (RR : Value → Addr → Result → Shared → Prop) (it : Value) (s₂ : Shared) : Prop :=
  wpAny (model prog w) A (newList []) (fun acc s₃ => wpAny (model prog w) A (newFunctionEnv scope env.globals cl [] env.qual none .none (some env)) (fun cenv s₄ =>
      codeAny (model prog w) A (.compStart (.ListComp elt [⟨target, iter, ifs, 0⟩] scope pos) 0 it acc { cenv with scope := relabel scope env }) (RR acc cenv.locals) s₄) E s₃) E s₂
def CFin (h₀ : Heap) (L : Addr) (m : Str → Option Value) (s₁ : Shared) (n : Nat) (G : Nat → Option Value → Prop) (news : List (Addr × Obj)) (RR : Value → Addr → Result → Shared → Prop) : Prop :=
  ∀ D C h tk m' (gs : List (Option Value)), Fr h₀ L h m → News h₀ L h ((D, lst (gs.filterMap id)) :: news) → h.Ns C m' → h₀.get? C = none → h₀.get? D = none → C ≠ L → D ≠ L → C ≠ D → (∀ p ∈ news, p.1 ≠ C) → (∀ p ∈ news, p.1 < D) → gs.length = n → (∀ j g, gs[j]? = some g → G j g) → RR (.ref D) C (.ok .next) { s₁ with heap := h, toks := tk }

theorem cfin_expr {n : Nat} {G : Nat → Option Value → Prop} {news : List (Addr × Obj)} {Q : Value → Shared → Prop}
    (fin : ∀ D h tk (gs : List (Option Value)), Fr h₀ L h m → News h₀ L h ((D, lst (gs.filterMap id)) :: news) → (∀ p ∈ news, p.1 < D) → gs.length = n → (∀ j g, gs[j]? = some g → G j g) → Q (.ref D) { s with heap := h, toks := tk }) :
    CFin h₀ L m s n G news (fun acc C => compPost (model prog w) A E none Q acc C) := by
  intro D C h tk m' gs F' N' hn hC₀ hD₀ hCL hDL hCD offC hlt hl hG
  refine ⟨m', hn, fun h'' hs'' => fin D h'' tk gs (F'.change hs'' hCL hC₀) (fun p hp => ?_) hlt hl hG⟩
  refine ⟨hs''.extBut _ _ ?_ (N' p hp).1, (N' p hp).2⟩
  rcases List.mem_cons.mp hp with rfl | hp
  · exact Ne.symm hCD
  · exact offC p hp
theorem cfin_assign {y : Str} {py : Pos} {n : Nat} {G : Nat → Option Value → Prop} {news : List (Addr × Obj)} {Q : Flow → Shared → Prop} (hy : env.kindOf y = some .local) (hp : (env.scope.kind == .class || (env.scope.kind == .module && env.locals != env.globals)) = false)
    (fin : ∀ D h tk (gs : List (Option Value)), Fr h₀ env.locals h (fun z => if z = y then some (.ref D) else m z) → News h₀ env.locals h ((D, lst (gs.filterMap id)) :: news) → (∀ p ∈ news, p.1 < D) → gs.length = n → (∀ j g, gs[j]? = some g → G j g) → Q .next { s with heap := h, toks := tk }) :
    CFin h₀ env.locals m s n G news (fun acc C => compPost (model prog w) A E (some (assign (.Name y py) env)) (fun _ s' => Q .next s') acc C) := by
  intro D C h tk m' gs F' N' hn hC₀ hD₀ hCL hDL hCD offC hlt hl hG
  show wpAny _ A (assign (.Name y py) env (.ref D)) _ _ _
  refine wpAny_assign_Name (wpAny_storeName_local hy F'.ns (fun h₂ hn₂ hs₂ => ?_) hp)
  have hL₀ : h₀.get? env.locals = none := Heap.get?_none_of_le F'.above
  have F₂ : Fr h₀ env.locals h₂ (fun z => if z = y then some (.ref D) else m z) := ⟨hn₂, fun b o e => hs₂.extBut b o (fun q => by rw [q, hL₀] at e; cases e) (F'.keep b o e), F'.above⟩
  refine ⟨m', hn.sameBut hs₂ hCL, fun h'' hs'' => fin D h'' _ gs (F₂.change hs'' hCL hC₀) (fun p hp => ?_) hlt hl hG⟩
  have z : h₂.get? p.1 = some p.2 := hs₂.extBut _ _ (N' p hp).2.1 (N' p hp).1
  refine ⟨hs''.extBut _ _ ?_ z, (N' p hp).2⟩
  rcases List.mem_cons.mp hp with rfl | hp
  · exact Ne.symm hCD
  · exact offC p hp

theorem ListComp_E {elt target iter : Expr} {ifs : List Expr} {scope : Scope} {cl : List (Str × Addr)} {pos : Pos} {Q : Value → Shared → Prop}
    (hclos : closureFor scope env = pure cl) (hkind : scope.kind = .function) (hnames : ∀ y ∈ scope.names, y.2 = .local → scope.names.lookup y.1 = some .local)
    (h : wpAny (model prog w) A (eval iter env) (fun xv s₁ => wpAny (model prog w) A (pyIter xv) (fun it s₂ => CBlock prog w A E env elt target iter ifs scope cl pos (fun acc C => compPost (model prog w) A E none Q acc C) it s₂) E s₁) E s)
    (hs : ∀ x, foldedSetIterable iter env x = pure x := by intro _; rfl) :
    wpAny (model prog w) A (eval (.ListComp elt [⟨target, iter, ifs, 0⟩] scope pos) env) Q E s := by
  rw [eval_ListComp]
  exact wpAny_comprehension_free (use := none) rfl hs hclos hkind hnames h
theorem ListComp_A {elt target iter : Expr} {ifs : List Expr} {y : Str} {py : Pos} {scope : Scope} {cl : List (Str × Addr)} {pos spos : Pos} {Q : Flow → Shared → Prop}
    (hsw : swapsWith (.ListComp elt [⟨target, iter, ifs, 0⟩] scope pos) (some (.Name y py)) spos.line env = pure true)
    (hclos : closureFor scope env = pure cl) (hkind : scope.kind = .function) (hnames : ∀ y ∈ scope.names, y.2 = .local → scope.names.lookup y.1 = some .local)
    (h : wpAny (model prog w) A (eval iter env) (fun xv s₁ => wpAny (model prog w) A (pyIter xv) (fun it s₂ => CBlock prog w A E env elt target iter ifs scope cl pos (fun acc C => compPost (model prog w) A E (some (assign (.Name y py) env)) (fun _ s' => Q .next s') acc C) it s₂) E s₁) E s)
    (hs : ∀ x, foldedSetIterable iter env x = pure x := by intro _; rfl) :
    wpAny (model prog w) A (exec (.Assign [.Name y py] (.ListComp elt [⟨target, iter, ifs, 0⟩] scope pos) spos) env) Q E s := by
  rw [exec_Assign_Name_used _ _ _ _ hsw]
  refine wpAny_bind (wpAny_standAt (wpAny_bind ?_))
  show wpAny _ A (do let _ ← comprehension (.ListComp elt [⟨target, iter, ifs, 0⟩] scope pos) scope env _ (newList []) false (eval iter env) (some (assign (.Name y py) env))) _ _ s
  exact wpAny_bind (wpAny_mono (wpAny_comprehension_free (use := some (assign (.Name y py) env)) (Q := fun _ s' => Q .next s') rfl hs hclos hkind hnames h) (fun _ s' hq => wpAny_pure (wpAny_pure hq)) fun _ _ e => e)

/-- the target's binding: a name -/
theorem bind_name {scope : Scope} {cl : List (Str × Addr)} {x : Str} {px : Pos} {P : Nat → Value → Prop} {s₂ : Shared} {news : List (Addr × Obj)} (hkind : scope.kind = .function) (hx : scope.names.lookup x = some .local) :
    ∀ i v C h tk m' (E' : Value → Shared → Prop), P i v → h.Ns C m' → Fr h₀ L h m → News h₀ L h news → C ≠ L → h₀.get? C = none → (∀ p ∈ news, p.1 ≠ C) →
      wpAny (model prog w) A (assign (.Name x px) (compEnvC scope cl C env) v) (fun _ s₃ => ∃ h₃ tk₃ m₃, s₃ = { s₂ with heap := h₃, toks := tk₃ } ∧ h₃.Ns C m₃ ∧ (∀ b o, b ≠ C → h.get? b = some o → h₃.get? b = some o) ∧ ∃ v, P i v ∧ m₃ x = some v) E' { s₂ with heap := h, toks := tk } := by
  intro i v C h tk m' E' hP hn _ _ _ _ _
  refine wpAny_assign_Name (wpAny_storeName_local (lookup_relabel_local hx) hn (fun h₃ hn₃ hs₃ => ?_) (by simp [compEnvC, relabel, hkind]))
  exact ⟨h₃, _, _, rfl, hn₃, fun b o hb e => hs₃.extBut b o hb e, v, hP, by simp⟩
/-- a pair of names, out of a list of two -/
theorem bind_pair {scope : Scope} {cl : List (Str × Addr)} {x x₂ : Str} {px px₂ tp : Pos} {kk : Nat} {P : Nat → Value → Prop} {s₂ : Shared} {news : List (Addr × Obj)} (hh : A.handled = none) (hkind : scope.kind = .function) (hx : scope.names.lookup x = some .local) (hx₂ : scope.names.lookup x₂ = some .local) (hxx : x ≠ x₂) (B2 : Nat → Value → Value → Prop)
    (hP : ∀ i v, P i v → ∃ t v₁ v₂ n, v = .ref t ∧ (t, W.listOf #[v₁, v₂] n) ∈ news ∧ B2 i v₁ v₂) :
    ∀ i v C h tk m' (E' : Value → Shared → Prop), P i v → h.Ns C m' → Fr h₀ L h m → News h₀ L h news → C ≠ L → h₀.get? C = none → (∀ p ∈ news, p.1 ≠ C) →
      wpAny (model prog w) A (assign (.Tuple [.Name x px, .Name x₂ px₂] kk tp) (compEnvC scope cl C env) v) (fun _ s₃ => ∃ h₃ tk₃ m₃, s₃ = { s₂ with heap := h₃, toks := tk₃ } ∧ h₃.Ns C m₃ ∧ (∀ b o, b ≠ C → h.get? b = some o → h₃.get? b = some o) ∧
        ∃ v₁ v₂, B2 i v₁ v₂ ∧ m₃ x = some v₁ ∧ m₃ x₂ = some v₂) E' { s₂ with heap := h, toks := tk } := by
  intro i v C h tk m' E' hPv hn F N hCL hC₀ hoff
  obtain ⟨t, v₁, v₂, n, rfl, hm, hb2⟩ := hP i v hPv
  have hl : h.IsList t #[v₁, v₂] := ⟨_, (N _ hm).1, rfl, n, rfl⟩
  rw [arm_assign_Tuple]
  refine wpAny_bind (wpAny_standAt ?_)
  unfold unpack
  refine wpAny_bind (wpAny_holding (kun_itemsOf (s := { s₂ with heap := h, toks := tk }) (items := #[v₁, v₂]) hh hl fun h' he => ?_))
  have hn' : h'.Ns C m' := by
    refine hn.at' fun o e => he C o (Nat.ne_of_lt (Heap.lt_size e)) e
  have hk' : ∀ b o, h.get? b = some o → h'.get? b = some o := fun b o e => he b o (Nat.ne_of_lt (Heap.lt_size e)) e
  show wpAny _ _ (holding [v₂] (assign (.Name x px) (compEnvC scope cl C env) v₁) >>= fun _ => (holding [] (assign (.Name x₂ px₂) (compEnvC scope cl C env) v₂) >>= fun _ => pure ())) _ _ _
  have hp : ((compEnvC scope cl C env).scope.kind == .class || ((compEnvC scope cl C env).scope.kind == .module && (compEnvC scope cl C env).locals != (compEnvC scope cl C env).globals)) = false := by simp [compEnvC, relabel, hkind]
  refine wpAny_bind (wpAny_holding (wpAny_assign_Name (wpAny_storeName_local (lookup_relabel_local hx) hn' (fun h₃ hn₃ hs₃ => ?_) hp)))
  refine wpAny_bind (wpAny_holding (wpAny_assign_Name (wpAny_storeName_local (lookup_relabel_local hx₂) hn₃ (fun h₄ hn₄ hs₄ => wpAny_pure ?_) hp)))
  exact ⟨h₄, _, _, rfl, hn₄, fun b o hb e => hs₄.extBut b o hb (hs₃.extBut b o hb (hk' b o e)), v₁, v₂, hb2, by simp [hxx], by simp⟩

theorem csrc_list {elt target iter : Expr} {ifs : List Expr} {scope : Scope} {cl : List (Str × Addr)} {pos : Pos} {RR : Value → Addr → Result → Shared → Prop} {news : List (Addr × Obj)} {ax : Addr} {its : List Value} {c : Nat} (Bd : Nat → (Str → Option Value) → Prop) (G : Nat → Option Value → Prop)
    (hh : A.handled = none) (hcell : ∀ y ∈ scope.names, y.2 ≠ .cell) (hkind : scope.kind = .function) (F : Fr h₀ L s.heap m) (N : News h₀ L s.heap news) (hm : (ax, W.listOf its.toArray c) ∈ news) (hsz : its.length ≤ sizeLine)
    (ht : ∀ I i v s' (Q : Unit → Shared → Prop) (E' : Value → Shared → Prop), its[i]? = some v → s'.heap.IsListIter I ax (i + 1) → Q () s' → wpAny (model prog w) A (letOwnedTupleGo target (.ref I) v) Q E' s')
    (hass : ∀ i v C h tk m' (E' : Value → Shared → Prop), its[i]? = some v → h.Ns C m' → Fr h₀ L h m → News h₀ L h news → C ≠ L → h₀.get? C = none → (∀ p ∈ news, p.1 ≠ C) →
      wpAny (model prog w) A (assign target (compEnvC scope cl C env) v) (fun _ s₃ => ∃ h₃ tk₃ m₃, s₃ = { s with heap := h₃, toks := tk₃ } ∧ h₃.Ns C m₃ ∧ (∀ b o, b ≠ C → h.get? b = some o → h₃.get? b = some o) ∧ Bd i m₃) E' { s with heap := h, toks := tk })
    (turn : ∀ i, i < its.length → CTurn prog w A h₀ L m env elt ifs scope cl s news (Bd i) (G i))
    (fin : CFin h₀ L m s its.length G news RR) :
    wpAny (model prog w) A (pyIter (.ref ax)) (fun it s₂ => CBlock prog w A E env elt target iter ifs scope cl pos RR it s₂) E s := by
  have hl : s.heap.IsList ax its.toArray := ⟨_, (N _ hm).1, rfl, c, rfl⟩
  have hlt : ax < s.heap.objs.size := Heap.lt_size (N _ hm).1
  refine wpAny_pyIter_list hl ?_
  have up : ∀ b o, s.heap.get? b = some o → (s.heap.push { cls := .type "list_iterator", data := .fields #[.ref ax, .int 0 0] }).get? b = some o := fun b o e => Heap.get?_push_of_some _ e
  have W := Walks.list (prog := prog) (w := w) hh s.heap.objs.size ax (Nat.ne_of_lt hlt) its.toArray
  have hs1 : its.toArray.size = its.length := by simp
  rw [hs1] at W
  refine comp_block Bd G W hsz (fun i h st => by obtain ⟨o, e, _⟩ := st.1; exact ⟨o, e⟩) ?_ ?_ hcell hkind ⟨⟨_, Heap.get?_push_size _ rfl, rfl, rfl⟩, hl.push _⟩ (fun b hb => ?_)
    (F.keeps up) (N.grown up) (Nat.ne_of_lt F.ns.lt) (next_is_new F) (fun p hp => Nat.ne_of_lt (Heap.lt_size (N p hp).1)) ?_ turn fin
  · intro i h h' o st e e' _ N'
    refine ⟨?_, _, (N' _ hm).1, rfl, c, rfl⟩
    obtain ⟨o', q, r⟩ := st.1
    rw [e] at q; cases q
    exact ⟨o, e', r⟩
  · intro i v s' Q E' hP hst hQ
    exact ht _ i v s' Q E' (by simpa using hP) hst.1 hQ
  · show b < (s.heap.push _).objs.size
    rw [Heap.size_push]
    rcases List.mem_cons.mp hb with rfl | hb
    · exact Nat.lt_succ_self _
    · rw [List.mem_singleton.mp hb]; exact Nat.lt_succ_of_lt hlt
  · intro i v C h tk m' E' hP
    exact hass i v C h tk m' E' (by simpa using hP)
theorem csrc_base {elt target iter : Expr} {ifs : List Expr} {scope : Scope} {cl : List (Str × Addr)} {pos : Pos} {RR : Value → Addr → Result → Shared → Prop} {news : List (Addr × Obj)} {ax : Addr} {its : List Value} (Bd : Nat → (Str → Option Value) → Prop) (G : Nat → Option Value → Prop)
    (hh : A.handled = none) (hcell : ∀ y ∈ scope.names, y.2 ≠ .cell) (hkind : scope.kind = .function) (F : Fr h₀ L s.heap m) (N : News h₀ L s.heap news) (hb : h₀.IsList ax its.toArray) (hsz : its.length ≤ sizeLine)
    (ht : ∀ I i v s' (Q : Unit → Shared → Prop) (E' : Value → Shared → Prop), its[i]? = some v → s'.heap.IsListIter I ax (i + 1) → Q () s' → wpAny (model prog w) A (letOwnedTupleGo target (.ref I) v) Q E' s')
    (hass : ∀ i v C h tk m' (E' : Value → Shared → Prop), its[i]? = some v → h.Ns C m' → Fr h₀ L h m → News h₀ L h news → C ≠ L → h₀.get? C = none → (∀ p ∈ news, p.1 ≠ C) →
      wpAny (model prog w) A (assign target (compEnvC scope cl C env) v) (fun _ s₃ => ∃ h₃ tk₃ m₃, s₃ = { s with heap := h₃, toks := tk₃ } ∧ h₃.Ns C m₃ ∧ (∀ b o, b ≠ C → h.get? b = some o → h₃.get? b = some o) ∧ Bd i m₃) E' { s with heap := h, toks := tk })
    (turn : ∀ i, i < its.length → CTurn prog w A h₀ L m env elt ifs scope cl s news (Bd i) (G i))
    (fin : CFin h₀ L m s its.length G news RR) :
    wpAny (model prog w) A (pyIter (.ref ax)) (fun it s₂ => CBlock prog w A E env elt target iter ifs scope cl pos RR it s₂) E s := by
  have hl : s.heap.IsList ax its.toArray := hb.at fun o e => F.keep ax o e
  have hlt : ax < s.heap.objs.size := by obtain ⟨_, e, _⟩ := hl; exact Heap.lt_size e
  refine wpAny_pyIter_list hl ?_
  have up : ∀ b o, s.heap.get? b = some o → (s.heap.push { cls := .type "list_iterator", data := .fields #[.ref ax, .int 0 0] }).get? b = some o := fun b o e => Heap.get?_push_of_some _ e
  have W := Walks.list (prog := prog) (w := w) hh s.heap.objs.size ax (Nat.ne_of_lt hlt) its.toArray
  have hs1 : its.toArray.size = its.length := by simp
  rw [hs1] at W
  refine comp_block Bd G W hsz (fun i h st => by obtain ⟨o, e, _⟩ := st.1; exact ⟨o, e⟩) ?_ ?_ hcell hkind ⟨⟨_, Heap.get?_push_size _ rfl, rfl, rfl⟩, hl.push _⟩ (fun b hb => ?_)
    (F.keeps up) (N.grown up) (Nat.ne_of_lt F.ns.lt) (next_is_new F) (fun p hp => Nat.ne_of_lt (Heap.lt_size (N p hp).1)) ?_ turn fin
  · intro i h h' o st e e' k N'
    refine ⟨?_, hb.at fun o e => k _ _ e⟩
    obtain ⟨o', q, r⟩ := st.1
    rw [e] at q; cases q
    exact ⟨o, e', r⟩
  · intro i v s' Q E' hP hst hQ
    exact ht _ i v s' Q E' (by simpa using hP) hst.1 hQ
  · show b < (s.heap.push _).objs.size
    rw [Heap.size_push]
    rcases List.mem_cons.mp hb with rfl | hb
    · exact Nat.lt_succ_self _
    · rw [List.mem_singleton.mp hb]; exact Nat.lt_succ_of_lt hlt
  · intro i v C h tk m' E' hP
    exact hass i v C h tk m' E' (by simpa using hP)
theorem csrc_range {elt iter : Expr} {ifs : List Expr} {x : Str} {px : Pos} {scope : Scope} {cl : List (Str × Addr)} {pos : Pos} {RR : Value → Addr → Result → Shared → Prop} {news : List (Addr × Obj)} {r : Addr} {t₀ u₀ v₀ : Tok} {n : Nat} (a b : Int) (G : Nat → Option Value → Prop)
    (hh : A.handled = none) (hcell : ∀ y ∈ scope.names, y.2 ≠ .cell) (hkind : scope.kind = .function) (hx : scope.names.lookup x = some .local) (F : Fr h₀ L s.heap m) (N : News h₀ L s.heap news) (hr : IsRange s.heap r a b 1 t₀ u₀ v₀) (hsmall : Builtin.Range.small a b 1 = true) (hn : Builtin.Range.rangeSize a b 1 = (n : Int)) (hsz : n ≤ sizeLine)
    (turn : ∀ i, i < n → CTurn prog w A h₀ L m env elt ifs scope cl s news (fun m₃ => ∃ t, m₃ x = some (.int (a + (i : Int)) t)) (G i))
    (fin : CFin h₀ L m s n G news RR) :
    wpAny (model prog w) A (pyIter (.ref r)) (fun it s₂ => CBlock prog w A E env elt (.Name x px) iter ifs scope cl pos RR it s₂) E s := by
  refine wpAny_pyIter_range hr hsmall ?_
  have hb := bind_name (prog := prog) (w := w) (A := A) (env := env) (h₀ := h₀) (L := L) (m := m) (cl := cl) (px := px) (P := fun (i : Nat) (v : Value) => ∃ t, v = .int (a + (i : Int)) t) (s₂ := s) (news := news) hkind hx
  refine comp_block (fun i m₃ => ∃ t, m₃ x = some (.int (a + (i : Int)) t)) G (range_walks hh a n) hsz (fun i h st => ⟨_, st⟩) ?_ ?_ hcell hkind (by show IsRangeIter _ _ _ _ _; rw [hn]; simpa using Heap.get?_push_size _ rfl) (fun b hb => ?_)
    (F.keeps fun _ _ e => Heap.get?_push_of_some _ e) (N.grown fun _ _ e => Heap.get?_push_of_some _ e) (Nat.ne_of_lt F.ns.lt) (next_is_new F) (fun p hp => Nat.ne_of_lt (Heap.lt_size (N p hp).1)) ?_ turn fin
  · intro i h h' o st e e' _ _
    have st' : h.get? _ = some _ := st
    show h'.get? _ = some _
    rw [e', ← e]; exact st'
  · intro i v s' Q E' _ _ hQ
    exact wpAny_pure hQ
  · rw [List.mem_singleton.mp hb]
    show s.heap.objs.size < (s.heap.push _).objs.size
    rw [Heap.size_push]; exact Nat.lt_succ_self _
  · intro i v C h tk m' E' hP h1 h2 h3 h4 h5 h6
    refine wpAny_mono (hb i v C h tk m' E' hP h1 h2 h3 h4 h5 h6) ?_ fun _ _ e => e
    rintro _ s₃ ⟨h₃, tk₃, m₃, e, hn₃, hk₃, v', ⟨t, rfl⟩, hv⟩
    exact ⟨h₃, tk₃, m₃, e, hn₃, hk₃, t, hv⟩
theorem csrc_str {elt iter : Expr} {ifs : List Expr} {x : Str} {px : Pos} {scope : Scope} {cl : List (Str × Addr)} {pos : Pos} {RR : Value → Addr → Result → Shared → Prop} {news : List (Addr × Obj)} {p : List Nat} {tx : Tok} (G : Nat → Option Value → Prop)
    (hh : A.handled = none) (hcell : ∀ y ∈ scope.names, y.2 ≠ .cell) (hkind : scope.kind = .function) (hx : scope.names.lookup x = some .local) (F : Fr h₀ L s.heap m) (N : News h₀ L s.heap news) (hsz : p.length ≤ sizeLine)
    (turn : ∀ i, i < p.length → CTurn prog w A h₀ L m env elt ifs scope cl s news (fun m₃ => ∃ c t, p[i]? = some c ∧ m₃ x = some (.str (S [c]) t)) (G i))
    (fin : CFin h₀ L m s p.length G news RR) :
    wpAny (model prog w) A (pyIter (.str (S p) tx)) (fun it s₂ => CBlock prog w A E env elt (.Name x px) iter ifs scope cl pos RR it s₂) E s := by
  have hs1 : (S p).cps.size = p.length := by simp [S]
  have hb := bind_name (prog := prog) (w := w) (A := A) (env := env) (h₀ := h₀) (L := L) (m := m) (cl := cl) (px := px) (P := SignAt (S p)) (s₂ := s) (news := news) hkind hx
  have key : ∀ (o : Obj) (St : Nat → Heap → Prop), Walks prog w A s.heap.objs.size [s.heap.objs.size] [s.heap.objs.size] (S p).cps.size (SignAt (S p)) St → St 0 (s.heap.push o) → (∀ i h, St i h → ∃ o, h.get? s.heap.objs.size = some o) →
      CBlock prog w A E env elt (.Name x px) iter ifs scope cl pos RR (.ref s.heap.objs.size) { s with heap := s.heap.push o } := by
    intro o St W hst hst0
    rw [hs1] at W
    refine comp_block (fun i m₃ => ∃ c t, p[i]? = some c ∧ m₃ x = some (.str (S [c]) t)) G W hsz hst0 ?_ ?_ hcell hkind hst (fun b hb => ?_)
      (F.keeps fun _ _ e => Heap.get?_push_of_some _ e) (N.grown fun _ _ e => Heap.get?_push_of_some _ e) (Nat.ne_of_lt F.ns.lt) (next_is_new F) (fun p hp => Nat.ne_of_lt (Heap.lt_size (N p hp).1)) ?_ turn fin
    · intro i h h' o st e e' _ _
      refine W.frame i h h' st fun b hb o' ho' => ?_
      rw [List.mem_singleton.mp hb] at ho' ⊢
      rw [e] at ho'; cases ho'; exact e'
    · intro i v s' Q E' _ _ hQ
      exact wpAny_pure hQ
    · rw [List.mem_singleton.mp hb]
      show s.heap.objs.size < (s.heap.push _).objs.size
      rw [Heap.size_push]; exact Nat.lt_succ_self _
    · intro i v C h tk m' E' hP h1 h2 h3 h4 h5 h6
      refine wpAny_mono (hb i v C h tk m' E' hP h1 h2 h3 h4 h5 h6) ?_ fun _ _ e => e
      rintro _ s₃ ⟨h₃, tk₃, m₃, e, hn₃, hk₃, v', ⟨c, u, hc, rfl⟩, hv⟩
      exact ⟨h₃, tk₃, m₃, e, hn₃, hk₃, c, u, by simpa [S] using hc, hv⟩
  cases ha : (S p).cps.all (· < 128)
  · exact wpAny_pyIter_wide ha (key _ _ (Walks.strWide hh _ (S p) tx) ⟨_, Heap.get?_push_size _ rfl, rfl, rfl⟩ (fun i h st => by obtain ⟨o, e, _⟩ := st; exact ⟨o, e⟩))
  · exact wpAny_pyIter_ascii ha (key _ _ (Walks.strAscii hh _ (S p) tx) ⟨_, Heap.get?_push_size _ rfl, rfl, rfl⟩ (fun i h st => by obtain ⟨o, e, _⟩ := st; exact ⟨o, e⟩))
/-- over ints of a list of the ledger -/
theorem csrc_ints {elt iter : Expr} {ifs : List Expr} {x : Str} {px : Pos} {scope : Scope} {cl : List (Str × Addr)} {pos : Pos} {RR : Value → Addr → Result → Shared → Prop} {news : List (Addr × Obj)} {ax : Addr} {vs : List Value} {ns : List Int} {c : Nat} (G : Nat → Option Value → Prop)
    (hh : A.handled = none) (hcell : ∀ y ∈ scope.names, y.2 ≠ .cell) (hkind : scope.kind = .function) (hx : scope.names.lookup x = some .local) (F : Fr h₀ L s.heap m) (N : News h₀ L s.heap news) (hm : (ax, W.listOf vs.toArray c) ∈ news) (hi : IntsAre vs ns) (hsz : ns.length ≤ sizeLine)
    (turn : ∀ i k, ns[i]? = some k → CTurn prog w A h₀ L m env elt ifs scope cl s news (fun m₃ => ∃ t, m₃ x = some (.int k t)) (G i))
    (fin : CFin h₀ L m s ns.length G news RR) :
    wpAny (model prog w) A (pyIter (.ref ax)) (fun it s₂ => CBlock prog w A E env elt (.Name x px) iter ifs scope cl pos RR it s₂) E s := by
  have hl : vs.length = ns.length := hi.length
  rw [← hl] at fin hsz
  refine csrc_list (fun i m₃ => ∃ k t, ns[i]? = some k ∧ m₃ x = some (.int k t)) G hh hcell hkind F N hm hsz ?_ ?_ ?_ fin
  · intro I i v s' Q E' _ _ hq
    exact wpAny_pure hq
  · intro i v C h tk m' E' hP h1 h2 h3 h4 h5 h6
    refine wpAny_mono (bind_name (P := fun i v => vs[i]? = some v) hkind hx i v C h tk m' E' hP h1 h2 h3 h4 h5 h6) ?_ fun _ _ e => e
    rintro _ s₃ ⟨h₃, tk₃, m₃, e, hn₃, hk₃, v', hv', hv⟩
    have hlt : i < ns.length := by rw [← hl]; exact (List.getElem?_eq_some_iff.mp hv').1
    obtain ⟨t, ht⟩ := hi.get i ns[i] (by simp [hlt])
    rw [hv'] at ht
    cases ht
    exact ⟨h₃, tk₃, m₃, e, hn₃, hk₃, ns[i], t, by simp [hlt], hv⟩
  · intro i hi' I oI C oC D oD m₃ h tk E' hB
    obtain ⟨k, t, hk, hv⟩ := hB
    exact turn i k hk I oI C oC D oD m₃ h tk E' ⟨t, hv⟩
end comp
theorem gs_texts : ∀ {gs : List (Option Value)}, (∀ (j : Nat) (g : Option Value), gs[j]? = some g → ∃ (c : Nat) (t : Tok), g = some (Value.str (S [c]) t)) → ∃ cs : List Nat, cs.length = gs.length ∧ StrsAre (gs.filterMap id) ((cs.map fun c => [c]).map S)
  | [], _ => ⟨[], rfl, .nil⟩
  | g :: gs, k => by
    obtain ⟨c, t, e⟩ := k 0 g rfl
    subst e
    obtain ⟨cs, e1, e2⟩ := gs_texts (gs := gs) fun j g hj => k (j + 1) g (by simpa using hj)
    exact ⟨c :: cs, by simp [e1], .cons _ t e2⟩
theorem flat_ones (cs : List Nat) : (cs.map fun c => [c]).flatten = cs := by
  induction cs with
  | nil => rfl
  | cons c cs ih => simp [ih]
end Mine
end

section
open PySem PySem.W PyProof.Rows
namespace Mine
def sepIx (p sep alt : List Nat) : Int := if alt = [] then rf p sep else if rf p alt > rf p sep then rf p alt else rf p sep
/-- a place from lo on ahead of hi holds a sign that isn't ext -/
def Seen (p ext : List Nat) (lo hi : Int) : Prop := ∃ k : Nat, lo ≤ k ∧ (k : Int) < hi ∧ (p.drop k).take 1 ≠ ext
open Classical in
noncomputable def spl (p sep alt ext : List Nat) : List Nat × List Nat :=
  if sepIx p sep alt < rf p ext ∧ Seen p ext (sepIx p sep alt + 1) (rf p ext) then (p.take (rf p ext).toNat, p.drop (rf p ext).toNat) else (p, [])

theorem at_one (p : List Nat) (c i : Nat) : At p [c] i ↔ p[i]? = some c := by
  unfold At
  constructor
  · rintro ⟨h1, h2⟩
    have hi : i < p.length := by simp at h1; omega
    rw [List.drop_eq_getElem_cons hi, List.length_singleton, List.take_succ_cons] at h2
    have h3 : p[i] = c := (List.cons.inj h2).1
    rw [List.getElem?_eq_getElem hi, h3]
  · intro h
    obtain ⟨hi, e⟩ := List.getElem?_eq_some_iff.mp h
    refine ⟨by simp; omega, ?_⟩
    rw [List.drop_eq_getElem_cons hi]
    simp [e]
theorem rf_one (p : List Nat) (c : Nat) : (rf p [c] = -1 ∧ ∀ i : Nat, p[i]? ≠ some c) ∨ ∃ i : Nat, rf p [c] = (i : Int) ∧ p[i]? = some c ∧ ∀ k : Nat, i < k → p[k]? ≠ some c := by
  have h := rf_spec p [c]
  simp only [at_one] at h
  exact h
/-- one sign or none as altsep -/
def OneAlt (alt : List Nat) : Prop := alt = [] ∨ ∃ b, alt = [b]
theorem sepIx_spec {p alt : List Nat} {a : Nat} (ha : OneAlt alt) : (sepIx p [a] alt = -1 ∧ ∀ (i c : Nat), p[i]? = some c → c ∉ a :: alt) ∨
    ∃ i : Nat, sepIx p [a] alt = (i : Int) ∧ (∃ c ∈ a :: alt, p[i]? = some c) ∧ ∀ (k c : Nat), i < k → p[k]? = some c → c ∉ a :: alt := by
  rcases ha with rfl | ⟨b, rfl⟩
  · have e : sepIx p [a] [] = rf p [a] := by simp [sepIx]
    rw [e]
    rcases rf_one p a with ⟨h1, h2⟩ | ⟨i, h1, h2, h3⟩
    · exact .inl ⟨h1, fun i c hc hm => by have : c = a := by simpa using hm
                                          subst this; exact h2 i hc⟩
    · exact .inr ⟨i, h1, ⟨a, by simp, h2⟩, fun k c hk hc hm => by have : c = a := by simpa using hm
                                                                  subst this; exact h3 k hk hc⟩
  · have e : sepIx p [a] [b] = if rf p [b] > rf p [a] then rf p [b] else rf p [a] := by simp [sepIx]
    rw [e]
    rcases rf_one p a with ⟨h1, h2⟩ | ⟨i, h1, h2, h3⟩ <;> rcases rf_one p b with ⟨g1, g2⟩ | ⟨j, g1, g2, g3⟩
    · left
      refine ⟨by rw [h1, g1]; simp, fun i c hc hm => ?_⟩
      have : c = a ∨ c = b := by simpa using hm
      rcases this with rfl | rfl
      · exact h2 i hc
      · exact g2 i hc
    · right
      refine ⟨j, by rw [h1, g1, if_pos (by omega)], ⟨b, by simp, g2⟩, fun k c hk hc hm => ?_⟩
      have : c = a ∨ c = b := by simpa using hm
      rcases this with rfl | rfl
      · exact h2 k hc
      · exact g3 k hk hc
    · right
      refine ⟨i, by rw [h1, g1, if_neg (by omega)], ⟨a, by simp, h2⟩, fun k c hk hc hm => ?_⟩
      have : c = a ∨ c = b := by simpa using hm
      rcases this with rfl | rfl
      · exact h3 k hk hc
      · exact g2 k hc
    · right
      by_cases hij : (j : Int) > (i : Int)
      · refine ⟨j, by rw [h1, g1, if_pos hij], ⟨b, by simp, g2⟩, fun k c hk hc hm => ?_⟩
        have : c = a ∨ c = b := by simpa using hm
        rcases this with rfl | rfl
        · exact h3 k (by omega) hc
        · exact g3 k hk hc
      · refine ⟨i, by rw [h1, g1, if_neg hij], ⟨a, by simp, h2⟩, fun k c hk hc hm => ?_⟩
        have : c = a ∨ c = b := by simpa using hm
        rcases this with rfl | rfl
        · exact h3 k hk hc
        · exact g3 k (by omega) hc
/-- a text that ends with a separator, or is empty -/
def EndsSep (seps pre : List Nat) : Prop := pre = [] ∨ ∃ p c, pre = p ++ [c] ∧ c ∈ seps
theorem sepIx_at {pre q alt : List Nat} {a : Nat} (ha : OneAlt alt) (hpre : EndsSep (a :: alt) pre) (hq : ∀ c ∈ q, c ∉ a :: alt) : sepIx (pre ++ q) [a] alt + 1 = pre.length := by
  rcases sepIx_spec (p := pre ++ q) (a := a) ha with ⟨h1, h2⟩ | ⟨i, h1, ⟨c, hc, hi⟩, h3⟩
  · rcases hpre with rfl | ⟨p, c, rfl, hc⟩
    · rw [h1]; simp
    · exact absurd hc (h2 p.length c (by simp))
  · rw [h1]
    have hlt : i < pre.length := by
      rcases Nat.lt_or_ge i pre.length with h | h
      · exact h
      · rw [List.getElem?_append_right h] at hi
        exact absurd hc (hq c (List.mem_of_getElem? hi))
    rcases hpre with rfl | ⟨p, c', rfl, hc'⟩
    · simp at hlt
    · simp at hlt
      rcases Nat.lt_or_ge i p.length with h | h
      · exact absurd hc' (h3 p.length c' h (by simp))
      · have : i = p.length := by omega
        simp [this]
/-- the ending comes off -/
theorem spl_cut {pre q v alt : List Nat} {a e : Nat} (ha : OneAlt alt) (he : e ∉ a :: alt) (hpre : EndsSep (a :: alt) pre) (hq : ∀ c ∈ q, c ∉ a :: alt) (hv : ∀ c ∈ v, c ∉ a :: alt) (hve : e ∉ v) (hs : ∃ c ∈ q, c ≠ e) :
    spl (pre ++ (q ++ e :: v)) [a] alt [e] = (pre ++ q, e :: v) := by
  have hI := sepIx_at (pre := pre) (q := q ++ e :: v) ha hpre (by
    intro c hc
    rcases List.mem_append.mp hc with hc | hc
    · exact hq c hc
    · rcases List.mem_cons.mp hc with rfl | hc
      · exact he
      · exact hv c hc)
  have hD : rf (pre ++ (q ++ e :: v)) [e] = ((pre ++ q).length : Int) := by
    rcases rf_one (pre ++ (q ++ e :: v)) e with ⟨h1, h2⟩ | ⟨i, h1, h2, h3⟩
    · exact absurd (by rw [← List.append_assoc]; simp) (h2 (pre ++ q).length)
    · rw [h1]
      rcases Nat.lt_trichotomy i (pre ++ q).length with h | h | h
      · exact absurd (by rw [← List.append_assoc]; simp) (h3 (pre ++ q).length h)
      · rw [h]
      · exfalso
        rw [← List.append_assoc, List.getElem?_append_right (Nat.le_of_lt h)] at h2
        obtain ⟨j, hj⟩ : ∃ j, i - (pre ++ q).length = j + 1 := ⟨i - (pre ++ q).length - 1, by omega⟩
        rw [hj, List.getElem?_cons_succ] at h2
        exact hve (List.mem_of_getElem? h2)
  obtain ⟨c, hc, hce⟩ := hs
  obtain ⟨j, hj⟩ := List.mem_iff_getElem?.mp hc
  have hjl : j < q.length := (List.getElem?_eq_some_iff.mp hj).1
  unfold spl
  rw [if_pos]
  · rw [hD, Int.toNat_natCast, ← List.append_assoc, List.take_left, List.drop_left]
  · refine ⟨by rw [hD]; simp only [List.length_append] at *; omega, pre.length + j, by omega, by rw [hD]; simp; omega, ?_⟩
    have e1 : (pre ++ (q ++ e :: v)).drop (pre.length + j) = (q ++ e :: v).drop j := by
      rw [List.drop_append]; simp
    rw [e1, List.drop_append_of_le_length (by omega), List.drop_eq_getElem_cons hjl]
    have e2 : q[j] = c := by
      have := List.getElem?_eq_getElem hjl
      rw [this] at hj; simpa using hj
    simp [e2, hce]
/-- nothing but full stops ahead of the last one -/
theorem spl_stuck {pre q v alt : List Nat} {a e : Nat} (ha : OneAlt alt) (he : e ∉ a :: alt) (hpre : EndsSep (a :: alt) pre) (hv : ∀ c ∈ v, c ∉ a :: alt) (hve : e ∉ v) (hs : ∀ c ∈ q, c = e) :
    spl (pre ++ (q ++ e :: v)) [a] alt [e] = (pre ++ (q ++ e :: v), []) := by
  have hI := sepIx_at (pre := pre) (q := q ++ e :: v) ha hpre (by
    intro c hc
    rcases List.mem_append.mp hc with hc | hc
    · rw [hs c hc]; exact he
    · rcases List.mem_cons.mp hc with rfl | hc
      · exact he
      · exact hv c hc)
  unfold spl
  rw [if_neg]
  rintro ⟨_, k, hk1, hk2, hk3⟩
  have hD : rf (pre ++ (q ++ e :: v)) [e] ≤ ((pre ++ q).length : Int) := by
    rcases rf_one (pre ++ (q ++ e :: v)) e with ⟨h1, h2⟩ | ⟨i, h1, h2, h3⟩
    · rw [h1]; omega
    · rw [h1]
      rcases Nat.lt_or_ge (pre ++ q).length i with h | h
      · exfalso
        rw [← List.append_assoc, List.getElem?_append_right (Nat.le_of_lt h)] at h2
        obtain ⟨j, hj⟩ : ∃ j, i - (pre ++ q).length = j + 1 := ⟨i - (pre ++ q).length - 1, by omega⟩
        rw [hj, List.getElem?_cons_succ] at h2
        exact hve (List.mem_of_getElem? h2)
      · omega
  have hkl : k < (pre ++ q).length := by omega
  have hkp : pre.length ≤ k := by omega
  refine hk3 ?_
  obtain ⟨j, rfl⟩ : ∃ j, k = pre.length + j := ⟨k - pre.length, by omega⟩
  have hjl : j < q.length := by rw [List.length_append] at hkl; omega
  have e1 : (pre ++ (q ++ e :: v)).drop (pre.length + j) = (q ++ e :: v).drop j := by
    rw [List.drop_append]; simp
  rw [e1, List.drop_append_of_le_length (by omega), List.drop_eq_getElem_cons hjl]
  simp [hs q[j] (List.getElem_mem hjl)]
/-- no full stop in the last name -/
theorem spl_none {pre v alt : List Nat} {a e : Nat} (ha : OneAlt alt) (hpre : EndsSep (a :: alt) pre) (hv : ∀ c ∈ v, c ∉ a :: alt) (hve : e ∉ v) :
    spl (pre ++ v) [a] alt [e] = (pre ++ v, []) := by
  have hI := sepIx_at (pre := pre) (q := v) ha hpre hv
  unfold spl
  rw [if_neg]
  rintro ⟨h, _⟩
  rcases rf_one (pre ++ v) e with ⟨h1, h2⟩ | ⟨i, h1, h2, h3⟩
  · omega
  · have hi : pre.length ≤ i := by omega
    rw [List.getElem?_append_right hi] at h2
    exact hve (List.mem_of_getElem? h2)
end Mine
end

section
open PySem PySem.W PyProof.Rows
namespace Mine
section
variable {prog : Program} {w : World} {A : Around} {E : Value → Shared → Prop} {s : Shared} {h₀ : Heap} {L : Addr} {all : List (Addr × Obj)} {Q : Value → Shared → Prop}
/-- a tuple of two texts -/
abbrev tup2 (a b : List Nat) (t u : Tok) : Obj := { cls := .type "tuple", data := .seq #[.str (S a) t, .str (S b) u] }
theorem tup_items {a : Addr} {x y : List Nat} {t u : Tok} (N : News h₀ L s.heap all) (ha : (a, tup2 x y t u) ∈ all) : s.heap.IsTuple a #[.str (S x) t, .str (S y) u] := ⟨_, (N _ ha).1, rfl, _, rfl⟩
theorem tup_each {x y x' y' : List Nat} {t u t' u' : Tok} : ∀ (j : Nat) (h1 : j < (#[.str (S x) t, .str (S y) u] : Array Value).size) (h2 : j < (#[.str (S x') t', .str (S y') u'] : Array Value).size),
    SeqAt.EqAt A s ((#[.str (S x) t, .str (S y) u] : Array Value)[j]) ((#[.str (S x') t', .str (S y') u'] : Array Value)[j]) (if j = 0 then decide (x = x') else decide (y = y'))
  | 0, _, _ => by
    have h := (SeqRoads2.EqGives.str (S x) (S x') t t').at A s
    rw [S_cps, S_cps] at h
    have e : (x == x') = decide (x = x') := by by_cases h : x = x' <;> simp [h]
    rw [e] at h
    exact h
  | 1, _, _ => by
    have h := (SeqRoads2.EqGives.str (S y) (S y') u u').at A s
    rw [S_cps, S_cps] at h
    have e : (y == y') = decide (y = y') := by by_cases h : y = y' <;> simp [h]
    rw [e] at h
    exact h
  | n + 2, h, _ => absurd h (by simp)
theorem tup_all {x y x' y' : List Nat} {t u t' u' : Tok} : ((List.range (min (#[.str (S x) t, .str (S y) u] : Array Value).size (#[.str (S x') t', .str (S y') u'] : Array Value).size)).all (fun j => if j = 0 then decide (x = x') else decide (y = y')) && (#[.str (S x) t, .str (S y) u] : Array Value).size == (#[.str (S x') t', .str (S y') u'] : Array Value).size) = decide (x = x' ∧ y = y') := by
  show ((List.range 2).all _ && true) = _
  rw [show List.range 2 = [0, 1] from rfl]
  by_cases h1 : x = x' <;> by_cases h2 : y = y' <;> simp [h1, h2]
theorem ne_tup2 {a b : Addr} {x y x' y' : List Nat} {t u t' u' : Tok} (N : News h₀ L s.heap all) (ha : (a, tup2 x y t u) ∈ all) (hb : (b, tup2 x' y' t' u') ∈ all) (hu : A.units < cLine)
    (h : Q (.bool (!decide (x = x' ∧ y = y'))) s) : wpAny (model prog w) A (compareOp .NotEq (.ref a) (.ref b)) Q E s := by
  refine cmp_ofNotEq (SeqAt.RcNeAt.tuples (tup_items N ha) (tup_items N hb) hu tup_each prog w E Q ?_)
  rw [tup_all]; exact h
theorem eq_tup2 {a b : Addr} {x y x' y' : List Nat} {t u t' u' : Tok} (N : News h₀ L s.heap all) (ha : (a, tup2 x y t u) ∈ all) (hb : (b, tup2 x' y' t' u') ∈ all) (hu : A.units < cLine)
    (h : Q (.bool (decide (x = x' ∧ y = y'))) s) : wpAny (model prog w) A (compareOp .Eq (.ref a) (.ref b)) Q E s := by
  refine cmp_ofEq (SeqAt.RcAt.tuples (tup_items N ha) (tup_items N hb) hu tup_each prog w E Q ?_)
  rw [tup_all]; exact h
end
end Mine
end

section
open PySem PySem.W PyProof.Rows PySem.Calls
namespace Mine
open Builtin
theorem slot_bytes_rfind : Slot "bytes" "rfind" "bytes.rfind" :=
  .of (owner := "bytes") (n := "rfind") (by rw [typeLookup_type, builtinLookup_eq_fast]; kernel_rfl) (by decide +kernel) (by decide +kernel) (by decide +kernel)
    (by first | exact .inl (by decide +kernel) | exact .inr (by decide +kernel)) (by rw [isSubtype_type]; kernel_rfl)
theorem type_bytes_rfind : typeOf (.builtin "bytes.rfind") = pure (.type "method_descriptor") := by show builtinType _ = _; rw [builtinType_eq_fast]; kernel_rfl
theorem entry_bytes_rfind : entryFor table "bytes.rfind" = some Builtin.«bytes.rfind» := entryFor_of_tree (by kernel_rfl)
theorem args_bytes_rfind_2 (a b : Value) : argsOk "bytes.rfind" ⟨[a, b], []⟩ := by
  unfold argsOk; rw [signature?_of (id := "bytes.rfind") (n := ['d', 'n', 'i', 'f', 'r']) (o := ['s', 'e', 't', 'y', 'b']) (by kernel_rfl) FB.owner_bytes]; kernel_rfl
/-- the last place of the octets, or -1 -/
def rfB (b y : Array UInt8) : Int := match (if (b.size : Int) - 0 < y.size then none else some (0, b.size) : Option (Nat × Nat)).bind fun p => Bytes.rfind? b y p.1 p.2 with
  | some i => i
  | none => -1
theorem args_wp {prog : Program} {w : World} {A : Around} {E : Value → Shared → Prop} {s : Shared} {b y : Array UInt8} {t u : Tok} {Q : Array UInt8 × Array UInt8 × Option (Nat × Nat) → Shared → Prop} (h : Q (b, y, if (b.size : Int) - 0 < y.size then none else some (0, b.size)) s) :
    wpAny (model prog w) A (Bytes.searchArgs .bytes "rfind" ⟨[.bytes b t, .bytes y u], []⟩) Q E s := by
  unfold Bytes.searchArgs
  refine wpAny_bind (wpAny_of_eq (show selfAndSome _ _ 1 3 _ = pure (Value.bytes b t, [Value.bytes y u]) from by kernel_rfl) ?_)
  refine wpAny_bind (wpAny_of_eq (show Bytes.bound? _ = pure none from rfl) ?_)
  refine wpAny_bind (wpAny_of_eq (show Bytes.bound? _ = pure none from rfl) ?_)
  dsimp only
  refine wpAny_bind (wpAny_of_eq KBy.buffer_eq ?_)
  dsimp only
  refine wpAny_bind (wpAny_pure ?_)
  refine wpAny_bind (wpAny_of_eq (show Bytes.payload _ = pure b from rfl) ?_)
  refine wpAny_pure ?_
  have e : Bytes.window b.size none none = (0, (b.size : Int)) := by
    simp [Bytes.window]; omega
  rw [e]
  simpa using h
theorem meets_rfind {b y : Array UInt8} {t u : Tok} : Meets («bytes.rfind» ⟨[.bytes b t, .bytes y u], []⟩) (fun _ R s => ∀ t' k, R (.ok (.ret (.int (rfB b y) t'))) { s with toks := k }) := by
  refine .of_wp fun prog w A R s h => ?_
  show wpAny _ _ (Bytes.searchM .bytes "rfind" true false _) _ _ s
  unfold Bytes.searchM
  refine wpAny_bind (args_wp ?_)
  dsimp only
  unfold rfB at h
  generalize (if (b.size : Int) - 0 < y.size then none else some (0, b.size) : Option (Nat × Nat)) = o at h ⊢
  cases hc : o.bind (fun p => Bytes.rfind? b y p.1 p.2) with
  | some i =>
    rw [hc] at h
    have hc' : (o.bind fun x => if true = true then Bytes.rfind? b y x.1 x.2 else Bytes.find? b y x.1 x.2) = some i := by simpa using hc
    rw [hc']
    exact wpAny_bind (wpAny_mkInt (wpAny_pure ⟨_, rfl, h _ _⟩))
  | none =>
    rw [hc] at h
    have hc' : (o.bind fun x => if true = true then Bytes.rfind? b y x.1 x.2 else Bytes.find? b y x.1 x.2) = none := by simpa using hc
    rw [hc']
    refine wpAny_bind (wpAny_rule ?_)
    rw [if_neg (by decide)]
    exact wpAny_bind (wpAny_mkInt (wpAny_pure ⟨_, rfl, h _ _⟩))
theorem rfind_B {prog : Program} {w : World} {A : Around} {E : Value → Shared → Prop} {s : Shared} {b y : Array UInt8} {t u : Tok} {Q : Value → Shared → Prop} (h : ∀ t' k, Q (.int (rfB b y) t') { s with toks := k }) :
    wpAny (model prog w) A (call (.builtin "bytes.rfind") [.bytes b t, .bytes y u]) Q E s :=
  call_meets slot_bytes_rfind (typeIs_bytes _ _ _) entry_bytes_rfind (args_bytes_rfind_2 _ _) meets_rfind h
theorem method_rfind {M : Model} {A : Around} {E : Value → Shared → Prop} {s : Shared} {b : Array UInt8} {t : Tok} {pl : Sem Bool} {Q : Value × List Value → Shared → Prop} (h : Q (.builtin "bytes.rfind", [.bytes b t]) s) : wpAny M A (getMethod (.bytes b t) "rfind" pl) Q E s := by
  with_reducible exact KBd.method_of (.bytes b t) (typeIs_bytes _ _ _) slot_bytes_rfind type_bytes_rfind KBd.noRef h
/-- octets by their numbers -/
def O (l : List Nat) : Array UInt8 := (l.map UInt8.ofNat).toArray
def Small (l : List Nat) : Prop := ∀ c ∈ l, c < 256
theorem Small.take {l : List Nat} (h : Small l) (n : Nat) : Small (l.take n) := fun c hc => h c (List.mem_of_mem_take hc)
theorem Small.drop {l : List Nat} (h : Small l) (n : Nat) : Small (l.drop n) := fun c hc => h c (List.mem_of_mem_drop hc)
theorem O_size (l : List Nat) : (O l).size = l.length := by simp [O]
theorem u8_inj {a b : Nat} (ha : a < 256) (hb : b < 256) (h : UInt8.ofNat a = UInt8.ofNat b) : a = b := by
  have h1 := congrArg UInt8.toNat h
  simp at h1
  omega
theorem O_inj {a b : List Nat} (ha : Small a) (hb : Small b) : O a = O b ↔ a = b := by
  constructor
  · intro h
    have h1 : a.map UInt8.ofNat = b.map UInt8.ofNat := by simpa [O] using congrArg Array.toList h
    clear h
    induction a generalizing b with
    | nil => cases b with
      | nil => rfl
      | cons => cases h1
    | cons x a ih => cases b with
      | nil => cases h1
      | cons y b =>
        simp only [List.map_cons, List.cons.injEq] at h1
        rw [u8_inj (ha x (by simp)) (hb y (by simp)) h1.1, ih (fun c hc => ha c (by simp [hc])) (fun c hc => hb c (by simp [hc])) h1.2]
  · rintro rfl; rfl
theorem O_extract (p : List Nat) (i n : Nat) : (O p).extract i (i + n) = O ((p.drop i).take n) := by
  apply Array.toList_inj.mp
  simp [O, List.map_take, List.map_drop]
theorem rfB_O {p y : List Nat} (hp : Small p) (hy : Small y) : rfB (O p) (O y) = rf p y := by
  unfold rfB
  rw [O_size, O_size]
  have hat : ∀ i, ((O p).extract i (i + (O y).size) == O y) = true ↔ (p.drop i).take y.length = y := by
    intro i
    rw [beq_iff_eq, O_size, O_extract, O_inj ((hp.drop i).take _) hy]
  by_cases hs : ((p.length : Int) - 0 < y.length)
  · rw [if_pos hs]
    show (-1 : Int) = _
    rcases rf_spec p y with ⟨h, _⟩ | ⟨i, h, h1, _⟩
    · exact h.symm
    · have := h1.1; omega
  · rw [if_neg hs]
    show (match Bytes.rfind? (O p) (O y) 0 p.length with | some i => (i : Int) | none => -1) = _
    cases hf : Bytes.rfind? (O p) (O y) 0 p.length with
    | none =>
      unfold Bytes.rfind? at hf
      rw [List.find?_eq_none] at hf
      rcases rf_spec p y with ⟨h, _⟩ | ⟨i, h, h1, _⟩
      · exact h.symm
      · refine absurd ((hat i).mpr h1.2) (hf i ?_)
        have := h1.1
        simp [O_size]; omega
    | some i =>
      unfold Bytes.rfind? at hf
      have h1 := List.find?_some hf
      have h2 := List.mem_of_find?_eq_some hf
      have hi : i + y.length ≤ p.length := by
        simp [O_size] at h2; omega
      have hA : At p y i := ⟨hi, (hat i).mp h1⟩
      rcases rf_spec p y with ⟨_, h⟩ | ⟨j, h, h3, h4⟩
      · exact absurd hA (h i)
      · rw [h]
        rcases Nat.lt_trichotomy i j with hij | hij | hij
        · exfalso
          rw [List.find?_eq_some_iff_append] at hf
          obtain ⟨_, as, bs, e, hn⟩ := hf
          have hm : j ∈ as ++ i :: bs := by
            rw [← e]
            have := h3.1
            simp [O_size]; omega
          have hpw : (as ++ i :: bs).Pairwise (fun a b => b < a) := by
            rw [← e, List.pairwise_reverse]
            simp [List.pairwise_lt_range]
          rcases List.mem_append.mp hm with hm | hm
          · have := hn j hm
            rw [(hat j).mpr h3.2] at this
            cases this
          · rcases List.mem_cons.mp hm with rfl | hm
            · omega
            · have h5 := (List.pairwise_append.mp hpw).2.1
              have := (List.pairwise_cons.mp h5).1 j hm
              omega
        · show (i : Int) = j; rw [hij]
        · exact absurd hA (h4 i hij)
end Mine
end

section
open PySem PySem.W PyProof.Rows PySem.Calls
namespace Mine
theorem bInts_O {p : List Nat} (hp : Small p) : KBw.bInts (O p) = p.map fun (c : Nat) => (c : Int) := by
  unfold KBw.bInts O
  rw [List.map_map]
  apply List.map_congr_left
  intro c hc
  have := hp c hc
  simp; omega
theorem bInts_inj {b c : Array UInt8} (h : KBw.bInts b = KBw.bInts c) : b = c := by
  apply Array.toList_inj.mp
  unfold KBw.bInts at h
  generalize b.toList = l at h
  generalize c.toList = l' at h
  induction l generalizing l' with
  | nil => cases l' with
    | nil => rfl
    | cons => cases h
  | cons x l ih => cases l' with
    | nil => cases h
    | cons y l' =>
      simp only [List.map_cons, List.cons.injEq] at h
      have h1 : x.toNat = y.toNat := by exact_mod_cast h.1
      rw [UInt8.toNat_inj.mp h1, ih l' h.2]
section
variable {prog : Program} {w : World} {A : Around} {E : Value → Shared → Prop} {s : Shared} {p y : List Nat} {t u : Tok}
theorem len_O {Q : Value → Shared → Prop} (hp : p.length ≤ 1000000) (h : ∀ t' k, Q (.int p.length t') { s with toks := k }) : wpAny (model prog w) A (call (.builtin "len") [.bytes (O p) t]) Q E s := by
  refine len_bytes (by rw [O_size]; omega) ?_
  rw [O_size]; exact h _ _
theorem truthy_O {Q : Bool → Shared → Prop} (hp : p.length ≤ 1000000) (h : ∀ k, Q (decide (p ≠ [])) { s with toks := k }) : wpAny (model prog w) A (truthy (.bytes (O p) t)) Q E s := by
  refine truthy_bytes (by rw [O_size]; omega) ?_
  rw [O_size]
  have e : ((p.length : Int) != 0) = decide (p ≠ []) := by cases p <;> simp; omega
  rw [e]; exact h _
theorem eq_O {Q : Value → Shared → Prop} (hp : Small p) (hy : Small y) (h : Q (.bool (decide (p = y))) s) : wpAny (model prog w) A (compareOp .Eq (.bytes (O p) t) (.bytes (O y) u)) Q E s := by
  refine eq_bytes ?_
  have e : ((O p).toList == (O y).toList) = decide (p = y) := by
    rw [Bool.eq_iff_iff, beq_iff_eq, decide_eq_true_eq, Array.toList_inj, O_inj hp hy]
  rw [e]; exact h
theorem ne_O {Q : Value → Shared → Prop} (hp : Small p) (hy : Small y) (h : Q (.bool (!decide (p = y))) s) : wpAny (model prog w) A (compareOp .NotEq (.bytes (O p) t) (.bytes (O y) u)) Q E s := by
  refine ne_bytes ?_
  have e : ((O p).toList != (O y).toList) = !decide (p = y) := by
    rw [bne, Bool.eq_iff_iff]; simp [Array.toList_inj, O_inj hp hy]
  rw [e]; exact h
theorem rfind_O {Q : Value → Shared → Prop} (hp : Small p) (hy : Small y) (h : ∀ t' k, Q (.int (rf p y) t') { s with toks := k }) : wpAny (model prog w) A (call (.builtin "bytes.rfind") [.bytes (O p) t, .bytes (O y) u]) Q E s :=
  rfind_B fun t' k => by rw [rfB_O hp hy]; exact h t' k
/-- a slice of octets -/
theorem slice_O {value slice : Expr} {h₀ : Heap} {L : Addr} {m : Str → Option Value} {news : List (Addr × Obj)} {l v : Value} {lo hi : Option Int} {Q : Value → Shared → Prop} (hF : Fr h₀ L s.heap m) (hN : News h₀ L s.heap news) (hp : Small p) (hl : IsPart l lo) (hv : IsPart v hi) (hz : p.length ≤ 1000000)
    (h : ∀ h' t' k, Fr h₀ L h' m → News h₀ L h' news → Q (.bytes (O ((p.drop (lo.elim 0 (clipAt p.length))).take (hi.elim p.length (clipAt p.length) - lo.elim 0 (clipAt p.length)))) t') { s with heap := h', toks := k })
    (hs : subscripted slice false (.bytes (O p) t) (.ref s.heap.objs.size) = operate [.ref s.heap.objs.size, .bytes (O p) t] (getItem (.bytes (O p) t) (.ref s.heap.objs.size)))
    (ht : ∀ r, letTemporaryGo value (.bytes (O p) t) r = pure ()) :
    wpAny (model prog w) A (subscriptTail value slice (.bytes (O p) t) (.ref s.heap.objs.size)) Q E { s with heap := s.heap.push { cls := .type "slice", data := .fields #[l, v, .none] } } := by
  refine KBc.slice_K hF hN (bInts_O hp) hl hv (by rw [List.length_map]; omega) ?_ hs ht
  intro h' t' k F' N' e
  rw [List.length_map] at e
  have e2 : KBy.picked (O p) lo hi = O ((p.drop (lo.elim 0 (clipAt p.length))).take (hi.elim p.length (clipAt p.length) - lo.elim 0 (clipAt p.length))) := by
    apply bInts_inj
    rw [e, bInts_O ((hp.drop _).take _), List.map_take, List.map_drop]
  rw [e2]
  exact h h' t' k F' N'
theorem make_O {h₀ : Heap} {L D : Addr} {m : Str → Option Value} {news : List (Addr × Obj)} {vs : List Value} {n : Nat} {Q : Value → Shared → Prop} (F : Fr h₀ L s.heap m) (N : News h₀ L s.heap news) (hh : A.handled = none) (hm : (D, W.listOf vs.toArray n) ∈ news) (hi : IntsAre vs (p.map fun (c : Nat) => (c : Int))) (hp : Small p) (hz : p.length ≤ 1000000)
    (h : ∀ h' t' k, Fr h₀ L h' m → News h₀ L h' news → Q (.bytes (O p) t') { s with heap := h', toks := k }) : wpAny (model prog w) A (call (.type "bytes") [.ref D]) Q E s := by
  refine KBa.make_K F N hh ⟨_, (N _ hm).1, rfl, n, rfl⟩ hi ?_ (by rw [List.length_map]; omega) ?_
  · intro c hc
    obtain ⟨a, ha, rfl⟩ := List.mem_map.mp hc
    have := hp a ha; omega
  · intro h' t' k F' N' _
    have e : byteArr (p.map fun (c : Nat) => (c : Int)) = O p := by
      unfold byteArr O
      rw [List.map_map]; rfl
    rw [e]; exact h h' t' k F' N'
end
end Mine
end

section
open PySem PySem.W PyProof.Rows PySem.Calls
namespace Mine
theorem clip_nn (n : Nat) {a : Int} (ha : 0 ≤ a) : clipAt n a = min a.toNat n := by
  unfold clipAt; rw [if_neg (by omega)]; omega
theorem cut_to (p : List Nat) {b : Int} (hb : 0 ≤ b) : (p.drop ((none : Option Int).elim 0 (clipAt p.length))).take ((some b).elim p.length (clipAt p.length) - (none : Option Int).elim 0 (clipAt p.length)) = p.take b.toNat := by
  simp only [Option.elim, List.drop_zero, Nat.sub_zero, clip_nn _ hb]
  rw [List.take_eq_take_min]; simp [Nat.min_assoc]
theorem cut_from (p : List Nat) {a : Int} (ha : 0 ≤ a) : (p.drop ((some a).elim 0 (clipAt p.length))).take ((none : Option Int).elim p.length (clipAt p.length) - (some a).elim 0 (clipAt p.length)) = p.drop a.toNat := by
  simp only [Option.elim, clip_nn _ ha]
  rw [List.take_of_length_le (by rw [List.length_drop]; omega)]
  by_cases h : a.toNat ≤ p.length
  · rw [Nat.min_eq_left h]
  · rw [Nat.min_eq_right (by omega), List.drop_length, List.drop_eq_nil_of_le (by omega)]
theorem cut_mid (p : List Nat) {a b : Int} (ha : 0 ≤ a) (hb : 0 ≤ b) : (p.drop ((some a).elim 0 (clipAt p.length))).take ((some b).elim p.length (clipAt p.length) - (some a).elim 0 (clipAt p.length)) = (p.take b.toNat).drop a.toNat := by
  simp only [Option.elim, clip_nn _ ha, clip_nn _ hb]
  rw [List.drop_take]
  by_cases h : a.toNat ≤ p.length
  · rw [Nat.min_eq_left h, List.take_eq_take_min]
    conv => rhs; rw [List.take_eq_take_min]
    congr 1
    simp only [List.length_drop]; omega
  · rw [Nat.min_eq_right (by omega : p.length ≤ a.toNat), List.drop_length, List.drop_eq_nil_of_le (by omega)]
    simp
/-- altsep as octets -/
def AltO (v : Value) (alt : List Nat) : Prop := (v = .none ∧ alt = []) ∨ ∃ t, v = .bytes (O alt) t
theorem truthy_altO {prog : Program} {w : World} {A : Around} {E : Value → Shared → Prop} {s : Shared} {Q : Bool → Shared → Prop} {v : Value} {alt : List Nat} (h : AltO v alt) (hl : alt.length ≤ 1000000) (hq : ∀ k, Q (decide (alt ≠ [])) { s with toks := k }) : wpAny (model prog w) A (truthy v) Q E s := by
  rcases h with ⟨rfl, rfl⟩ | ⟨t, rfl⟩
  · exact wpAny_pure (hq s.toks)
  · exact truthy_O hl hq
end Mine
end

section
open PySem PySem.W PyProof.Rows
namespace Mine
section
variable {prog : Program} {w : World} {A : Around} {E : Value → Shared → Prop} {s : Shared} {h₀ : Heap} {L : Addr} {all : List (Addr × Obj)} {Q : Value → Shared → Prop}
theorem ne_nil_L {D D' : Addr} {vs : List Value} {n n' : Nat} (N : News h₀ L s.heap all) (h1 : (D, W.listOf vs.toArray n) ∈ all) (h2 : (D', W.listOf #[] n') ∈ all) (hu : A.units < cLine) (h : Q (.bool (decide (vs ≠ []))) s) :
    wpAny (model prog w) A (compareOp .NotEq (.ref D) (.ref D')) Q E s := by
  have l1 : s.heap.IsList D vs.toArray := ⟨_, (N _ h1).1, rfl, n, rfl⟩
  have l2 : s.heap.IsList D' #[] := ⟨_, (N _ h2).1, rfl, n', rfl⟩
  cases vs with
  | nil =>
    refine cmp_ofNotEq (SeqAt.RcNeAt.lists (e := fun _ => true) l1 l2 rfl hu (fun j h => absurd h (by simp)) prog w E Q ?_)
    simpa using h
  | cons v vs =>
    refine cmp_ofNotEq (SeqAt.RcNeAt.lists_lengths l1 l2 (by simp) hu prog w E Q ?_)
    simpa using h
theorem eq_nil_L {D D' : Addr} {vs : List Value} {n n' : Nat} (N : News h₀ L s.heap all) (h1 : (D, W.listOf vs.toArray n) ∈ all) (h2 : (D', W.listOf #[] n') ∈ all) (hu : A.units < cLine) (h : Q (.bool (decide (vs = []))) s) :
    wpAny (model prog w) A (compareOp .Eq (.ref D) (.ref D')) Q E s := by
  have l1 : s.heap.IsList D vs.toArray := ⟨_, (N _ h1).1, rfl, n, rfl⟩
  have l2 : s.heap.IsList D' #[] := ⟨_, (N _ h2).1, rfl, n', rfl⟩
  cases vs with
  | nil =>
    refine cmp_ofEq (SeqAt.RcAt.lists (e := fun _ => true) l1 l2 rfl hu (fun j h => absurd h (by simp)) prog w E Q ?_)
    simpa using h
  | cons v vs =>
    refine cmp_ofEq (SeqAt.RcAt.lists_lengths l1 l2 (by simp) hu prog w E Q ?_)
    simpa using h
/-- a tuple of two octets -/
abbrev tupO (a b : List Nat) (t u : Tok) : Obj := { cls := .type "tuple", data := .seq #[.bytes (O a) t, .bytes (O b) u] }
theorem tupO_items {a : Addr} {x y : List Nat} {t u : Tok} (N : News h₀ L s.heap all) (ha : (a, tupO x y t u) ∈ all) : s.heap.IsTuple a #[.bytes (O x) t, .bytes (O y) u] := ⟨_, (N _ ha).1, rfl, _, rfl⟩
theorem eqAt_O {x y : List Nat} (hx : Small x) (hy : Small y) (t u : Tok) : SeqAt.EqAt A s (.bytes (O x) t) (.bytes (O y) u) (decide (x = y)) := fun prog w E Q h => by
  unfold eqBool
  refine wpAny_holding ?_
  refine wpAny_ite_split (fun hab => ?_) (fun _ => ?_)
  · have e : O x = O y := by have := eq_of_beq hab; injection this
    have e' : x = y := (O_inj hx hy).mp e
    rw [decide_eq_true e'] at h
    exact wpAny_bind (wpAny_rule (wpAny_pure h))
  · have k := eq_O (prog := prog) (w := w) (A := A) (E := E) (s := s) (t := t) (u := u) (Q := fun v s' => wpAny (model prog w) A (truthOfDropped v) Q E s') hx hy (wpAny_truthy_bool h)
    exact wpAny_bind k
theorem tupO_each {x y x' y' : List Nat} {t u t' u' : Tok} (hx : Small x) (hy : Small y) (hx' : Small x') (hy' : Small y') : ∀ (j : Nat) (h1 : j < (#[.bytes (O x) t, .bytes (O y) u] : Array Value).size) (h2 : j < (#[.bytes (O x') t', .bytes (O y') u'] : Array Value).size),
    SeqAt.EqAt A s ((#[.bytes (O x) t, .bytes (O y) u] : Array Value)[j]) ((#[.bytes (O x') t', .bytes (O y') u'] : Array Value)[j]) (if j = 0 then decide (x = x') else decide (y = y'))
  | 0, _, _ => eqAt_O hx hx' t t'
  | 1, _, _ => eqAt_O hy hy' u u'
  | n + 2, h, _ => absurd h (by simp)
theorem tupO_all {x y x' y' : List Nat} {t u t' u' : Tok} : ((List.range (min (#[.bytes (O x) t, .bytes (O y) u] : Array Value).size (#[.bytes (O x') t', .bytes (O y') u'] : Array Value).size)).all (fun j => if j = 0 then decide (x = x') else decide (y = y')) && (#[.bytes (O x) t, .bytes (O y) u] : Array Value).size == (#[.bytes (O x') t', .bytes (O y') u'] : Array Value).size) = decide (x = x' ∧ y = y') := by
  show ((List.range 2).all _ && true) = _
  rw [show List.range 2 = [0, 1] from rfl]
  by_cases h1 : x = x' <;> by_cases h2 : y = y' <;> simp [h1, h2]
theorem ne_tupO {a b : Addr} {x y x' y' : List Nat} {t u t' u' : Tok} (hx : Small x) (hy : Small y) (hx' : Small x') (hy' : Small y') (N : News h₀ L s.heap all) (ha : (a, tupO x y t u) ∈ all) (hb : (b, tupO x' y' t' u') ∈ all) (hu : A.units < cLine)
    (h : Q (.bool (!decide (x = x' ∧ y = y'))) s) : wpAny (model prog w) A (compareOp .NotEq (.ref a) (.ref b)) Q E s := by
  refine cmp_ofNotEq (SeqAt.RcNeAt.tuples (tupO_items N ha) (tupO_items N hb) hu (tupO_each hx hy hx' hy') prog w E Q ?_)
  rw [tupO_all]; exact h
end
end Mine
end

section
open PySem PySem.W PyProof.Rows
namespace Mine
/-- y stands at k, as a slice tells -/
def Stands (p y : List Nat) (k : Nat) : Prop := (p.drop k).take y.length = y
theorem stands_at {p y : List Nat} (hy : y ≠ []) (k : Nat) : Stands p y k ↔ At p y k := by
  unfold Stands At
  constructor
  · intro h
    refine ⟨?_, h⟩
    have := congrArg List.length h
    simp at this
    have : y.length ≠ 0 := fun e => hy (List.eq_nil_of_length_eq_zero e)
    omega
  · exact fun h => h.2
/-- a separator stands at k -/
def SepAt (p sep alt : List Nat) (k : Nat) : Prop := Stands p sep k ∨ (alt ≠ [] ∧ Stands p alt k)
def Sgn (p ext : List Nat) (k : Nat) : Prop := (p.drop k).take 1 ≠ ext
/-- the walk's state behind the places before k -/
def CutInv (p sep alt ext : List Nat) (k : Nat) (cut : Option Nat) (seen : Bool) : Prop :=
  ∃ lo, lo ≤ k ∧ (lo = 0 ∨ ∃ i, lo = i + 1 ∧ SepAt p sep alt i) ∧ (∀ j, lo ≤ j → j < k → ¬ SepAt p sep alt j) ∧ (seen = true ↔ ∃ j, lo ≤ j ∧ j < k ∧ Sgn p ext j) ∧
    (match cut with
      | none => ∀ j, lo ≤ j → j < k → Stands p ext j → ¬ ∃ i, lo ≤ i ∧ i < j ∧ Sgn p ext i
      | some c => lo ≤ c ∧ c < k ∧ Stands p ext c ∧ (∃ i, lo ≤ i ∧ i < c ∧ Sgn p ext i) ∧ ∀ j, c < j → j < k → ¬ Stands p ext j)
theorem cut_start (p sep alt ext : List Nat) : CutInv p sep alt ext 0 none false := ⟨0, Nat.le_refl _, .inl rfl, fun j _ h => absurd h (by omega), by simp, fun j _ h => absurd h (by omega)⟩
theorem cut_sep {p sep alt ext : List Nat} {k : Nat} {cut : Option Nat} {seen : Bool} (_ : CutInv p sep alt ext k cut seen) (hs : SepAt p sep alt k) : CutInv p sep alt ext (k + 1) none false :=
  ⟨k + 1, Nat.le_refl _, .inr ⟨k, rfl, hs⟩, fun j h1 h2 => absurd h2 (by omega), ⟨fun h => absurd h (by decide), fun ⟨j, h1, h2, _⟩ => absurd h2 (by omega)⟩, fun j h1 h2 => absurd h2 (by omega)⟩
open Classical in
theorem cut_step {p sep alt ext : List Nat} {k : Nat} {cut : Option Nat} {seen : Bool} (h : CutInv p sep alt ext k cut seen) (hs : ¬ SepAt p sep alt k) :
    CutInv p sep alt ext (k + 1) (if seen = true ∧ Stands p ext k then some k else cut) (if Sgn p ext k then true else seen) := by
  obtain ⟨lo, h1, h2, h3, h4, h5⟩ := h
  refine ⟨lo, by omega, h2, ?_, ?_, ?_⟩
  · intro j a b
    rcases Nat.lt_or_ge j k with hj | hj
    · exact h3 j a hj
    · rw [show j = k by omega]; exact hs
  · by_cases hg : Sgn p ext k
    · rw [if_pos hg]
      exact ⟨fun _ => ⟨k, h1, by omega, hg⟩, fun _ => rfl⟩
    · rw [if_neg hg, h4]
      constructor
      · rintro ⟨j, a, b, c⟩; exact ⟨j, a, by omega, c⟩
      · rintro ⟨j, a, b, c⟩
        rcases Nat.lt_or_ge j k with hj | hj
        · exact ⟨j, a, hj, c⟩
        · rw [show j = k by omega] at c; exact absurd c hg
  · by_cases hc : seen = true ∧ Stands p ext k
    · rw [if_pos hc]
      exact ⟨h1, by omega, hc.2, h4.mp hc.1, fun j a b => absurd b (by omega)⟩
    · rw [if_neg hc]
      cases cut with
      | none =>
        intro j a b c
        rcases Nat.lt_or_ge j k with hj | hj
        · exact h5 j a hj c
        · rw [show j = k by omega] at c ⊢
          intro hi
          exact hc ⟨h4.mpr hi, c⟩
      | some c =>
        obtain ⟨a1, a2, a3, a4, a5⟩ := h5
        refine ⟨a1, by omega, a3, a4, ?_⟩
        intro j b1 b2 b3
        rcases Nat.lt_or_ge j k with hj | hj
        · exact a5 j b1 hj b3
        · rw [show j = k by omega] at b3
          obtain ⟨i, i1, i2, i3⟩ := a4
          exact hc ⟨h4.mpr ⟨i, i1, by omega, i3⟩, b3⟩
/-- sepIndex by places -/
theorem sepIx_places {p sep alt : List Nat} (hsep : sep ≠ []) : (sepIx p sep alt = -1 ∧ ∀ i, ¬ SepAt p sep alt i) ∨ ∃ i : Nat, sepIx p sep alt = (i : Int) ∧ SepAt p sep alt i ∧ ∀ k, i < k → ¬ SepAt p sep alt k := by
  unfold sepIx SepAt
  by_cases ha : alt = []
  · rw [if_pos ha]
    rcases rf_spec p sep with ⟨h1, h2⟩ | ⟨i, h1, h2, h3⟩
    · exact .inl ⟨h1, fun i h => h.elim (fun h => h2 i ((stands_at hsep i).mp h)) fun h => h.1 ha⟩
    · exact .inr ⟨i, h1, .inl ((stands_at hsep i).mpr h2), fun k hk h => h.elim (fun h => h3 k hk ((stands_at hsep k).mp h)) fun h => h.1 ha⟩
  · rw [if_neg ha]
    rcases rf_spec p sep with ⟨h1, h2⟩ | ⟨i, h1, h2, h3⟩ <;> rcases rf_spec p alt with ⟨g1, g2⟩ | ⟨j, g1, g2, g3⟩
    · rw [h1, g1, if_neg (by omega)]
      exact .inl ⟨rfl, fun i h => h.elim (fun h => h2 i ((stands_at hsep i).mp h)) fun h => g2 i ((stands_at ha i).mp h.2)⟩
    · rw [h1, g1, if_pos (by omega)]
      exact .inr ⟨j, rfl, .inr ⟨ha, (stands_at ha j).mpr g2⟩, fun k hk h => h.elim (fun h => h2 k ((stands_at hsep k).mp h)) fun h => g3 k hk ((stands_at ha k).mp h.2)⟩
    · rw [h1, g1, if_neg (by omega)]
      exact .inr ⟨i, rfl, .inl ((stands_at hsep i).mpr h2), fun k hk h => h.elim (fun h => h3 k hk ((stands_at hsep k).mp h)) fun h => g2 k ((stands_at ha k).mp h.2)⟩
    · rw [h1, g1]
      by_cases hij : (j : Int) > i
      · rw [if_pos hij]
        exact .inr ⟨j, rfl, .inr ⟨ha, (stands_at ha j).mpr g2⟩, fun k hk h => h.elim (fun h => h3 k (by omega) ((stands_at hsep k).mp h)) fun h => g3 k hk ((stands_at ha k).mp h.2)⟩
      · rw [if_neg hij]
        exact .inr ⟨i, rfl, .inl ((stands_at hsep i).mpr h2), fun k hk h => h.elim (fun h => h3 k hk ((stands_at hsep k).mp h)) fun h => g3 k (by omega) ((stands_at ha k).mp h.2)⟩
theorem stands_le {p y : List Nat} (hy : y ≠ []) {k : Nat} (h : Stands p y k) : k < p.length := by
  have h1 := ((stands_at hy k).mp h).1
  have : y.length ≠ 0 := fun e => hy (List.eq_nil_of_length_eq_zero e)
  omega
theorem sepAt_le {p sep alt : List Nat} (hsep : sep ≠ []) {k : Nat} (h : SepAt p sep alt k) : k < p.length := h.elim (stands_le hsep) fun h => stands_le h.1 h.2
/-- the walk's end tells the cut -/
theorem cut_end {p sep alt ext : List Nat} (hsep : sep ≠ []) (hext : ext ≠ []) {cut : Option Nat} {seen : Bool} (h : CutInv p sep alt ext (p.length + 1) cut seen) :
    spl p sep alt ext = match cut with | none => (p, []) | some c => (p.take c, p.drop c) := by
  obtain ⟨lo, h1, h2, h3, -, h5⟩ := h
  have hlo : sepIx p sep alt + 1 = (lo : Int) := by
    rcases sepIx_places (p := p) (alt := alt) hsep with ⟨a, b⟩ | ⟨i, a, b, c⟩
    · rcases h2 with rfl | ⟨j, rfl, hj⟩
      · rw [a]; rfl
      · exact absurd hj (b j)
    · have hi := sepAt_le hsep b
      have h6 : i < lo := by
        rcases Nat.lt_or_ge i lo with h | h
        · exact h
        · exact absurd b (h3 i h (by omega))
      rcases h2 with rfl | ⟨j, rfl, hj⟩
      · omega
      · rcases Nat.lt_or_ge i j with h | h
        · exact absurd hj (c j h)
        · rw [a]; omega
  have hS : ∀ d : Nat, Seen p ext (sepIx p sep alt + 1) d ↔ ∃ i, lo ≤ i ∧ i < d ∧ Sgn p ext i := by
    intro d
    unfold Seen Sgn
    rw [hlo]
    constructor
    · rintro ⟨k, a, b, c⟩; exact ⟨k, by omega, by omega, c⟩
    · rintro ⟨k, a, b, c⟩; exact ⟨k, by omega, by omega, c⟩
  unfold spl
  cases cut with
  | none =>
    rw [if_neg]
    rintro ⟨a, b⟩
    rcases rf_spec p ext with ⟨g1, _⟩ | ⟨d, g1, g2, g3⟩
    · have := rf_ge p ext
      rcases sepIx_places (p := p) (alt := alt) hsep with ⟨a', _⟩ | ⟨i, a', _⟩ <;> omega
    · rw [g1] at b
      have hd := (stands_at hext d).mpr g2
      exact h5 d (by omega) (by have := stands_le hext hd; omega) hd ((hS d).mp b)
  | some c =>
    obtain ⟨a1, a2, a3, a4, a5⟩ := h5
    have hc : rf p ext = (c : Int) := by
      rcases rf_spec p ext with ⟨_, g⟩ | ⟨d, g1, g2, g3⟩
      · exact absurd ((stands_at hext c).mp a3) (g c)
      · rw [g1]
        rcases Nat.lt_trichotomy c d with h | h | h
        · have hd := (stands_at hext d).mpr g2
          exact absurd hd (a5 d h (by have := stands_le hext hd; omega))
        · rw [h]
        · exact absurd ((stands_at hext c).mp a3) (g3 c h)
    rw [hc, if_pos ⟨by omega, (hS c).mpr a4⟩]
    rfl
end Mine
end

section
open PySem PySem.W PyProof.Rows PySem.Calls
namespace Mine
open PyProof.Rows.LCg
section
variable {prog : Program} {w : World} {A : Around} {E : Value → Shared → Prop} {s : Shared} {env : Env} {h₀ : Heap} {x : Str} {body : List Stmt} {Q : Flow → Shared → Prop}
/-- a turn's end where the target is a cell and the ledger stays -/
def CStep (h₀ : Heap) (L : Addr) (led : List (Addr × Obj)) (J : (Str → Option Value) → Prop) (s s₂ : Shared) : Prop :=
  ∃ h' tk m', s₂ = { s with heap := h', toks := tk } ∧ Fr h₀ L h' m' ∧ News h₀ L h' led ∧ J m'
theorem CStep.intro {L : Addr} {led all : List (Addr × Obj)} {J : (Str → Option Value) → Prop} {h' : Heap} {tk : Nat} {m' : Str → Option Value} (F : Fr h₀ L h' m') (N : News h₀ L h' all) (hs : Sub led all) (hj : J m') : CStep h₀ L led J s { s with heap := h', toks := tk } := ⟨h', tk, m', rfl, F, news_sub N hs, hj⟩
def CPost (h₀ : Heap) (L : Addr) (led : List (Addr × Obj)) (J : (Str → Option Value) → Prop) (s : Shared) (Q : Flow → Shared → Prop) (f : Flow) (s₂ : Shared) : Prop :=
  match f with
  | .ret v => Q (.ret v) s₂
  | .brk => Q .next s₂
  | _ => CStep h₀ L led J s s₂
theorem loopC {px : Pos} {I c : Addr} {oc₀ : Obj} {v₀ : Option Value} {n : Nat} {P : Nat → Value → Prop} {St : Nat → Heap → Prop} {m₀ : Str → Option Value} {news : List (Addr × Obj)} (J : Nat → (Str → Option Value) → Prop)
    (W : Walks prog w A I [I] [I] n P St) (hIo : ∀ i h, St i h → ∃ o, h.get? I = some o) (hk : env.scope.kind = .function) (hx : env.kindOf x = some .cell) (hc : env.cells.lookup x = some c) (hE : PassesOwn (model prog w) A env E)
    (hIL : env.locals ≠ I) (hI₀ : h₀.get? I = none) (hcI : c ≠ I) (hnI : ∀ p ∈ news, p.1 ≠ I) (hnc : ∀ p ∈ news, p.1 ≠ c) (hst : St 0 s.heap) (F : Fr h₀ env.locals s.heap m₀) (N : News h₀ env.locals s.heap ((c, oc₀) :: news)) (hd : oc₀.data = .cell v₀) (hj : J 0 m₀)
    (turn : ∀ i v m₁ h tk oI oc, i < n → P i v → J i m₁ → oc.data = .cell (some v) → Fr h₀ env.locals h m₁ → News h₀ env.locals h ((I, oI) :: (c, oc) :: news) →
      wpAny (model prog w) A (execs body env) (CPost h₀ env.locals ((I, oI) :: (c, oc) :: news) (J (i + 1)) s Q) E { s with heap := h, toks := tk })
    (done : ∀ m₁ h tk oc, J n m₁ → Fr h₀ env.locals h m₁ → News h₀ env.locals h ((c, oc) :: news) → Q .next { s with heap := h, toks := tk }) :
    codeAny (model prog w) A (.forLoop (.Name x px) (.ref I) body [] env) (fun r s' => match r with | .ok f => Q f s' | .error e => cameBackBy (model prog w) A env E e s') s := by
  refine codeAny_forLoop
    (fun k s' => ∃ h' tk m' oc u i, s' = { s with heap := h', toks := tk } ∧ St i h' ∧ Fr h₀ env.locals h' m' ∧ News h₀ env.locals h' ((c, oc) :: news) ∧ oc.data = .cell u ∧ J i m' ∧ i ≤ n ∧ k = n + 1 - i) ?_ (n + 1)
    ⟨s.heap, s.toks, m₀, oc₀, v₀, 0, rfl, hst, F, N, hd, hj, Nat.zero_le _, rfl⟩
  rintro k s' ⟨h', tk, m', oc, u, i, rfl, hst', F', N', hd', hJ, hi, rfl⟩
  have hNI : ∀ p ∈ (c, oc) :: news, p.1 ≠ I := fun p hp => by
    rcases List.mem_cons.mp hp with rfl | hp
    · exact hcI
    · exact hnI p hp
  by_cases hlt : i < n
  · refine W.item i _ _ _ hlt hst' fun v h₁ tk₁ hP hst₁ hk₁ => ?_
    have F₁ : Fr h₀ env.locals h₁ m' := fr_but F' hk₁ hIL hI₀
    have N₁ : News h₀ env.locals h₁ ((c, oc) :: news) := news_but N' hk₁ hNI
    have hm := N₁ _ (.head _)
    refine wpAny_assign_Name (wpAny_storeName_cell hk hx hc ⟨oc, hm.1, hd'⟩ fun h₂ hv hs => ?_)
    obtain ⟨oc', ho', hd2⟩ := hv
    have F₂ : Fr h₀ env.locals h₂ m' := ⟨F₁.ns.sameBut hs (Ne.symm hm.2.1), fun b ob e => (hs.2 b (fun q => by rw [q, hm.2.2] at e; cases e)).trans (F₁.keep b ob e), F₁.above⟩
    obtain ⟨oI, hoI⟩ := hIo _ _ hst₁
    have hoI2 : h₂.get? I = some oI := (hs.2 I (Ne.symm hcI)).trans hoI
    have N₂ : News h₀ env.locals h₂ ((I, oI) :: (c, oc') :: news) := fun p hp => by
      rcases List.mem_cons.mp hp with rfl | hp
      · exact ⟨hoI2, Ne.symm hIL, hI₀⟩
      · rcases List.mem_cons.mp hp with rfl | hp
        · exact ⟨ho', hm.2⟩
        · have := N₁ p (.tail _ hp)
          exact ⟨(hs.2 p.1 (hnc p hp)).trans this.1, this.2⟩
    have fin : ∀ s₃, CStep h₀ env.locals ((I, oI) :: (c, oc') :: news) (J (i + 1)) s s₃ → ∃ m, m < n + 1 - i ∧ ∃ h' tk m' oc u i, s₃ = { s with heap := h', toks := tk } ∧ St i h' ∧ Fr h₀ env.locals h' m' ∧ News h₀ env.locals h' ((c, oc) :: news) ∧ oc.data = .cell u ∧ J i m' ∧ i ≤ n ∧ m = n + 1 - i := by
      rintro s₃ ⟨h₃, tk₃, m₃, rfl, F₃, N₃, hJ₃⟩
      refine ⟨n + 1 - (i + 1), by omega, h₃, tk₃, m₃, oc', _, i + 1, rfl, ?_, F₃, fun p hp => N₃ p (.tail _ hp), hd2, hJ₃, hlt, rfl⟩
      refine W.frame _ _ _ hst₁ fun b hb o e => ?_
      rw [List.mem_singleton.mp hb] at e ⊢
      rw [hoI] at e; cases e
      exact (N₃ _ (.head _)).1
    refine wpAny_mono (wpAny_passesOwn hE (turn i v m' h₂ tk₁ oI oc' hlt hP hJ hd2 F₂ N₂)) (fun f s₃ h₃ => ?_) fun _ _ e => e
    cases f with
    | ret v => exact h₃
    | brk => exact h₃
    | cont => exact fin s₃ h₃
    | next => exact fin s₃ h₃
  · obtain rfl : i = n := by omega
    refine W.done _ _ _ hst' fun h₁ tk₁ hk₁ => ?_
    exact wpAny_execs_nil (done m' h₁ tk₁ oc hJ (fr_but F' hk₁ hIL hI₀) (news_but N' hk₁ hNI))
/-- a for over a range, the target a cell -/
theorem forCell {px pos : Pos} {iter : Expr} {c : Addr} {oc₀ : Obj} {v₀ : Option Value} {n : Nat} {a b : Int} {m₀ : Str → Option Value} {news : List (Addr × Obj)} (J : Nat → (Str → Option Value) → Prop) (_F : Fr h₀ env.locals s.heap m₀)
    (hh : A.handled = none) (hk : env.scope.kind = .function) (hx : env.kindOf x = some .cell) (hc : env.cells.lookup x = some c) (hE : PassesOwn (model prog w) A env E)
    (hsmall : Builtin.Range.small a b 1 = true) (hn : Builtin.Range.rangeSize a b 1 = (n : Int)) (hnc : ∀ p ∈ news, p.1 ≠ c) (hd : oc₀.data = .cell v₀) (hj : J 0 m₀)
    (iterIs : wpAny (model prog w) A (eval iter env) (fun xv s₁ => ∃ r t₀ u₀ v₁ h tk, xv = .ref r ∧ s₁ = { s with heap := h, toks := tk } ∧ IsRange h r a b 1 t₀ u₀ v₁ ∧ Fr h₀ env.locals h m₀ ∧ News h₀ env.locals h ((c, oc₀) :: news)) E s)
    (turn : ∀ (i : Nat) t m₁ h tk I oI oc, i < n → J i m₁ → oc.data = .cell (some (.int (a + (i : Int)) t)) → Fr h₀ env.locals h m₁ → News h₀ env.locals h ((I, oI) :: (c, oc) :: news) →
      wpAny (model prog w) A (execs body env) (CPost h₀ env.locals ((I, oI) :: (c, oc) :: news) (J (i + 1)) s Q) E { s with heap := h, toks := tk })
    (done : ∀ m₁ h tk oc, J n m₁ → Fr h₀ env.locals h m₁ → News h₀ env.locals h ((c, oc) :: news) → Q .next { s with heap := h, toks := tk })
    (hs : ∀ x, foldedSetIterable iter env x = pure x := by intro _; rfl) :
    wpAny (model prog w) A (exec (.For (.Name x px) iter body [] pos) env) Q E s := by
  refine wpAny_For (wpAny_mono iterIs ?_ fun _ _ e => e) hs
  rintro xv s₁ ⟨r, t₀, u₀, v₁, h, tk, rfl, rfl, hr, F, N⟩
  refine wpAny_pyIter_range hr hsmall ?_
  have W : Walks prog w A h.objs.size [h.objs.size] [h.objs.size] n (fun i v => i < n ∧ ∃ t, v = .int (a + i * 1) t)
      (fun i h' => IsRangeIter h' h.objs.size (a + (i : Nat) * 1) ((n : Int) - (i : Nat)) 1) := (Walks.range hh _ a 1 n).bound
  have F1 := F
  refine loopC J W (fun i h st => ⟨_, st⟩) hk hx hc hE (Nat.ne_of_lt F.ns.lt) (next_is_new F1) (Nat.ne_of_lt (Heap.lt_size (N _ (.head _)).1)) (fun p hp => Nat.ne_of_lt (Heap.lt_size (N p (.tail _ hp)).1)) hnc (by show IsRangeIter _ _ _ _ _; rw [hn]; simpa using Heap.get?_push_size _ rfl) (F.push _) (N.grown fun _ _ e => Heap.get?_push_of_some _ e) hd hj ?_ ?_
  · rintro i v m₁ h1 tk1 oI oc hi ⟨_, t, rfl⟩ hJ hd2 F₁ N₁
    rw [Int.mul_one] at hd2
    exact turn i t m₁ h1 tk1 _ oI oc hi hJ hd2 F₁ N₁
  · intro m₁ h1 tk1 oc hJ F₁ N₁
    exact done m₁ h1 tk1 oc hJ F₁ N₁
end
end Mine
end

section
namespace Mine
open PySem PySem.W PyProof.Rows
open_top hd12 for PySem.Challenge.rw_dm0122_12
end Mine
end

section
open PySem PySem.W PyProof.Rows
namespace Mine
local macro_rules | `(tactic| size_fits) => `(tactic| ((simp only [S_len, PySem.sizeLine_eq]); omega))
local macro_rules | `(tactic| walk_at "stop") => `(tactic| first
  | (with_reducible show wpAny _ _ (exec (Stmt.For _ _ _ _ _) _) _ _ _)
  | (with_reducible show wpAny _ _ (exec (Stmt.While _ _ _ _) _) _ _ _)
  | (with_reducible show LeaveK _ _ _ _ _ _ _))
local macro_rules | `(tactic| walk_at "ws") => `(tactic| repeat' (first | (k_unfold; (try dsimp only)) | ((fail_if_success (walk_at "stop")); walk1) | ((fail_if_success (walk_at "stop")); dsimp only; walk1) | (leave1; walk_say "STEP leave1"; try dsimp only)))

theorem splitext_str {w : World} {mean : ExcName → Option Value} {mg mb : Str → Option Value} (dp un : Nat) (gd : Option (List Code)) (cn : Str) (cs : Scope) (a : Addr) (ccd : Value) (cl : List (Str × Addr)) (outer : List Env) (A₀ : Around) (base h₀ : Heap) (L : Addr) (m : Str → Option Value) (news : List (Addr × Obj)) (s : Shared)
    (Q E : Value → Shared → Prop) (p sep ext alt : List Nat) (av : Value) (tp ts te : Tok) (hav : AltV av alt) (hp : p.length ≤ 10000) (hal : alt.length ≤ 10000)
    (B : Below A₀ base outer h₀) (F : Fr h₀ L s.heap m) (X : (hd12.heap_39 w.params).In h₀) (N : News h₀ L s.heap news) (T : Top hd12.view_39 (looseW hd12.view_39 []) mean mg mb h₀) (hk : cs.kind = .function)
    (hd : dp + 1 < recursionLimit) (hu : un + 8 < cLine)
    (ret : ∀ r t1 t2 h' tk', Fr h₀ L h' m → News h₀ L h' ((r, ({ cls := .type "tuple", data := .seq #[.str (S (spl p sep alt ext).1) t1, .str (S (spl p sep alt ext).2) t2] } : Obj)) :: news) → (∀ q ∈ news, q.1 < r) → Q (.ref r) { s with heap := h', toks := tk' }) :
    wpAny (model PySem.Challenge.rw_dm0122_12.row.prog w) (ktrTop dp un gd cn cs L a ccd cl outer) (call (.ref 21) [.str (S p) tp, .str (S sep) ts, av, .str (S ext) te]) Q E s := by
  revert T; revert X; k_fill; intro X T
  refine wpAny_call ?_
  k_dflt ktr_enter
  rename_i g1 L1 h1 FG1 F1 N1 B1 X1 T1
  walk_at "ws"
  refine truthy_alt hav (by omega) ?_
  intro k1
  rename Fr g1 L1 _ _ => F1
  rename News g1 L1 _ _ => N1
  refine ite_join (Q' := fun f s' => f = .next ∧ Left g1 L1 s news (fun m => (∃ t, m (Str.ofString "sepIndex") = some (.int (sepIx p sep alt) t)) ∧ m (Str.ofString "p") = some (.str (S p) tp) ∧ m (Str.ofString "extsep") = some (.str (S ext) te)) s') ?_ ?_ ?_
  · intro hne
    have hne : alt ≠ [] := by simpa using hne
    rcases hav with ⟨_, h0⟩ | ⟨ta, rfl⟩
    · exact absurd h0 hne
    walk_at "ws"
    · rename Fr g1 L1 _ _ => F2
      rename News g1 L1 _ _ => N2
      have e : sepIx p sep alt = if rf p alt > rf p sep then rf p alt else rf p sep := by rw [sepIx, if_neg hne]
      exact Left.intro F2 N2 ⟨⟨_, by rw [e]; rfl⟩, rfl, rfl⟩
  · intro hne
    have hne : alt = [] := by simpa using hne
    have e : sepIx p sep alt = rf p sep := by rw [sepIx, if_pos hne]
    refine wpAny_execs_nil ⟨rfl, Left.intro F1 N1 ⟨⟨_, by rw [e]; rfl⟩, rfl, rfl⟩⟩
  · rintro f s' ⟨rfl, h2, tk2, m2, rfl, F2, N2, ⟨t2, e1⟩, e2, e3⟩
    have F3 := fr_show [(Str.ofString "sepIndex", .int (sepIx p sep alt) t2), (Str.ofString "p", .str (S p) tp), (Str.ofString "extsep", .str (S ext) te)] F2 (by simp [e1, e2, e3])
    clear F2 F1 N1
    have hlo : -1 ≤ sepIx p sep alt := by
      have := rf_ge p sep; have := rf_ge p alt
      unfold sepIx; split; omega; split <;> omega
    walk_at "ws"
    · rename Fr g1 L1 _ _ => F4
      rename News g1 L1 _ _ => N4
      rename _ < _ => hlt
      have hlt' : sepIx p sep alt < rf p ext := hlt
      refine ksw_while (σ := Int × Tok) (fun _ => news) (fun c => [(Str.ofString "filenameIndex", .int c.1 c.2)]) (fun _ => True) []
        (fun c => sepIx p sep alt + 1 ≤ c.1 ∧ c.1 ≤ rf p ext ∧ ∀ k : Nat, sepIx p sep alt + 1 ≤ k → (k : Int) < c.1 → (p.drop k).take 1 = ext) (fun c => (rf p ext - c.1).toNat) (sepIx p sep alt + 1, ?t0) F4 N4 trivial ?hk ?_ ?_
      case hk => (intro q hq; rw [List.mem_singleton.mp hq]; rfl)
      · refine ⟨by omega, by omega, fun k h1 h2 => by omega⟩
      · rintro ⟨f, tf⟩ u h5 tk5 - ⟨hf1, hf2, hf3⟩ F5 N5
        dsimp only at F5 N5 hf1 hf2 hf3
        clear F4 N4
        have hf0 : 0 ≤ f := by omega
        have hd0 : 0 ≤ rf p ext := by omega
        have hone : (p.take (f + 1).toNat).drop f.toNat = (p.drop f.toNat).take 1 := by
          rw [List.take_drop]; congr 1; congr 1; omega
        have hsl := slice_mid p hf0 (show 0 ≤ f + 1 by omega)
        rw [hone] at hsl
        walk_at "ws"
        · rename Fr g1 L1 _ _ => F6
          rename News g1 L1 _ _ => N6
          rename ∀ p ∈ news, _ => hl6
          rename (_ != _) = true => hne6
          have hfd : f < rf p ext := by assumption
          have hx : (p.drop f.toNat).take 1 ≠ ext := by
            rw [hsl] at hne6
            intro h; rw [h] at hne6; simp at hne6
          have e0 : spl p sep alt ext = (p.take (rf p ext).toNat, p.drop (rf p ext).toNat) := by
            unfold spl; rw [if_pos]; exact ⟨hlt', f.toNat, by omega, by omega, hx⟩
          have ret' := ret
          rw [e0] at ret'
          refine leaveK_ F6 N6 fun Fb Nb => ?_
          rw [show Txt.rfind (S p) (S ext) = rf p ext from rfl, slice_to p hd0, slice_from p hd0] at Nb
          exact ret' _ _ _ _ _ Fb Nb hl6
        · rename Fr g1 L1 _ _ => F6
          rename News g1 L1 _ _ => N6
          rename (_ != _) = false => hne6
          have hfd : f < rf p ext := by assumption
          have hx : (p.drop f.toNat).take 1 = ext := by
            rw [hsl] at hne6
            have := bne_eq_false_iff_eq.mp hne6
            exact S_inj.mp this
          refine ksw_end (f + 1, ?t1) F6 N6 (fun _ h => h) trivial ?hk1 ?hr1 ⟨?_, ?_, ?_⟩ ?_
          case hk1 => (intro q hq; rw [List.mem_singleton.mp hq]; rfl)
          case hr1 =>
            intro z h2 h3
            have h2' : z ≠ Str.ofString "filenameIndex" := h2 _ (List.mem_singleton.mpr rfl)
            simp [kstB, h2']
          · show sepIx p sep alt + 1 ≤ f + 1; omega
          · show f + 1 ≤ rf p ext; omega
          · intro k h1 h2
            have h2' : (k : Int) < f + 1 := h2
            by_cases hkf : (k : Int) < f
            · exact hf3 k h1 hkf
            · have : k = f.toNat := by omega
              rw [this]; exact hx
          · show (rf p ext - (f + 1)).toNat < (rf p ext - f).toNat; omega
        · rename Fr g1 L1 _ _ => F6
          rename News g1 L1 _ _ => N6
          rename ∀ p ∈ news, _ => hl6
          rename ¬ _ => hnlt
          have hnlt' : ¬ f < rf p ext := hnlt
          have e0 : spl p sep alt ext = (p, []) := by
            unfold spl; rw [if_neg]; rintro ⟨-, k, hk1, hk2, hk3⟩; exact hk3 (hf3 k hk1 (by omega))
          have ret' := ret
          rw [e0] at ret'
          refine leaveK_ F6 N6 fun Fb Nb => ?_
          rw [slice_to p (Int.le_refl 0)] at Nb
          exact ret' _ _ _ _ _ Fb Nb hl6
    · rename Fr g1 L1 _ _ => F4
      rename News g1 L1 _ _ => N4
      rename ∀ p ∈ news, _ => hl4
      rename ¬ _ => hnlt
      have e0 : spl p sep alt ext = (p, []) := by
        unfold spl; rw [if_neg]; rintro ⟨h1, -⟩; exact hnlt h1
      have ret' := ret
      rw [e0] at ret'
      refine leaveK_ F4 N4 fun Fb Nb => ?_
      rw [slice_to p (Int.le_refl 0)] at Nb
      exact ret' _ _ _ _ _ Fb Nb hl4
end Mine
end

section
open PySem PySem.W PyProof.Rows
namespace Mine
local macro_rules | `(tactic| size_fits) => `(tactic| ((simp only [S_len, PySem.sizeLine_eq]); omega))
local macro_rules | `(tactic| walk_at "stop") => `(tactic| first
  | (with_reducible show wpAny _ _ (exec (Stmt.For _ _ _ _ _) _) _ _ _)
  | (with_reducible show wpAny _ _ (exec (Stmt.While _ _ _ _) _) _ _ _)
  | (with_reducible show LeaveK _ _ _ _ _ _ _))
local macro_rules | `(tactic| walk_at "ws") => `(tactic| repeat' (first | (k_unfold; (try dsimp only)) | ((fail_if_success (walk_at "stop")); walk1) | ((fail_if_success (walk_at "stop")); dsimp only; walk1) | (leave1; walk_say "STEP leave1"; try dsimp only)))

local macro_rules | `(tactic| walk_at "getMethod bytes") => `(tactic| (refine method_rfind ?_))
local macro_rules | `(tactic| walk_at "call builtin:bytes.rfind") => `(tactic| (refine rfind_O (by assumption) (by assumption) ?_; intro _ _))
local macro_rules | `(tactic| walk_at "compareOp NotEq bytes bytes") => `(tactic| (refine ne_O (by first | assumption | exact ((Small.drop (by assumption) _).take _)) (by assumption) ?_))
local macro_rules | `(tactic| walk_at "subscriptTail") => `(tactic| (k_here; (with_reducible show wpAny _ _ (subscriptTail _ (Expr.Slice _ _ none _) (Value.bytes _ _) (Value.ref _)) _ _ _); (with_reducible rename Fr _ _ _ _ => F'); (with_reducible rename News _ _ _ _ => N'); (refine slice_O (s := ⟨_, _, _, _, _⟩) F' N' (by assumption) (by constructor) (by constructor) (by omega) ?_ (by with_unfolding_all rfl) (by intro _; with_unfolding_all rfl)); intro _ _ _ _ _))
theorem splitext_oct {w : World} {mean : ExcName → Option Value} {mg mb : Str → Option Value} (dp un : Nat) (gd : Option (List Code)) (cn : Str) (cs : Scope) (a : Addr) (ccd : Value) (cl : List (Str × Addr)) (outer : List Env) (A₀ : Around) (base h₀ : Heap) (L : Addr) (m : Str → Option Value) (news : List (Addr × Obj)) (s : Shared)
    (Q E : Value → Shared → Prop) (p sep ext alt : List Nat) (av : Value) (tp ts te : Tok) (hav : AltO av alt) (hsp : Small p) (hss : Small sep) (hse : Small ext) (hsa : Small alt) (hp : p.length ≤ 10000) (hal : alt.length ≤ 10000)
    (B : Below A₀ base outer h₀) (F : Fr h₀ L s.heap m) (X : (hd12.heap_39 w.params).In h₀) (N : News h₀ L s.heap news) (T : Top hd12.view_39 (looseW hd12.view_39 []) mean mg mb h₀) (hk : cs.kind = .function)
    (hd : dp + 1 < recursionLimit) (hu : un + 8 < cLine)
    (ret : ∀ r t1 t2 h' tk', Fr h₀ L h' m → News h₀ L h' ((r, ({ cls := .type "tuple", data := .seq #[.bytes (O (spl p sep alt ext).1) t1, .bytes (O (spl p sep alt ext).2) t2] } : Obj)) :: news) → (∀ q ∈ news, q.1 < r) → Q (.ref r) { s with heap := h', toks := tk' }) :
    wpAny (model PySem.Challenge.rw_dm0122_12.row.prog w) (ktrTop dp un gd cn cs L a ccd cl outer) (call (.ref 21) [.bytes (O p) tp, .bytes (O sep) ts, av, .bytes (O ext) te]) Q E s := by
  revert T; revert X; k_fill; intro X T
  refine wpAny_call ?_
  k_dflt ktr_enter
  rename_i g1 L1 h1 FG1 F1 N1 B1 X1 T1
  walk_at "ws"
  refine truthy_altO hav (by omega) ?_
  intro k1
  rename Fr g1 L1 _ _ => F1
  rename News g1 L1 _ _ => N1
  refine ite_join (Q' := fun f s' => f = .next ∧ Left g1 L1 s news (fun m => (∃ t, m (Str.ofString "sepIndex") = some (.int (sepIx p sep alt) t)) ∧ m (Str.ofString "p") = some (.bytes (O p) tp) ∧ m (Str.ofString "extsep") = some (.bytes (O ext) te)) s') ?_ ?_ ?_
  · intro hne
    have hne : alt ≠ [] := by simpa using hne
    rcases hav with ⟨_, h0⟩ | ⟨ta, rfl⟩
    · exact absurd h0 hne
    walk_at "ws"
    · rename Fr g1 L1 _ _ => F2
      rename News g1 L1 _ _ => N2
      have e : sepIx p sep alt = if rf p alt > rf p sep then rf p alt else rf p sep := by rw [sepIx, if_neg hne]
      exact Left.intro F2 N2 ⟨⟨_, by rw [e]; rfl⟩, rfl, rfl⟩
  · intro hne
    have hne : alt = [] := by simpa using hne
    have e : sepIx p sep alt = rf p sep := by rw [sepIx, if_pos hne]
    refine wpAny_execs_nil ⟨rfl, Left.intro F1 N1 ⟨⟨_, by rw [e]; rfl⟩, rfl, rfl⟩⟩
  · rintro f s' ⟨rfl, h2, tk2, m2, rfl, F2, N2, ⟨t2, e1⟩, e2, e3⟩
    have F3 := fr_show [(Str.ofString "sepIndex", .int (sepIx p sep alt) t2), (Str.ofString "p", .bytes (O p) tp), (Str.ofString "extsep", .bytes (O ext) te)] F2 (by simp [e1, e2, e3])
    clear F2 F1 N1
    have hlo : -1 ≤ sepIx p sep alt := by
      have := rf_ge p sep; have := rf_ge p alt
      unfold sepIx; split; omega; split <;> omega
    walk_at "ws"
    · rename Fr g1 L1 _ _ => F4
      rename News g1 L1 _ _ => N4
      rename _ < _ => hlt
      have hlt' : sepIx p sep alt < rf p ext := hlt
      refine ksw_while (σ := Int × Tok) (fun _ => news) (fun c => [(Str.ofString "filenameIndex", .int c.1 c.2)]) (fun _ => True) []
        (fun c => sepIx p sep alt + 1 ≤ c.1 ∧ c.1 ≤ rf p ext ∧ ∀ k : Nat, sepIx p sep alt + 1 ≤ k → (k : Int) < c.1 → (p.drop k).take 1 = ext) (fun c => (rf p ext - c.1).toNat) (sepIx p sep alt + 1, ?t0) F4 N4 trivial ?hk ?_ ?_
      case hk => (intro q hq; rw [List.mem_singleton.mp hq]; rfl)
      · refine ⟨by omega, by omega, fun k h1 h2 => by omega⟩
      · rintro ⟨f, tf⟩ u h5 tk5 - ⟨hf1, hf2, hf3⟩ F5 N5
        dsimp only at F5 N5 hf1 hf2 hf3
        clear F4 N4
        have hf0 : 0 ≤ f := by omega
        have hd0 : 0 ≤ rf p ext := by omega
        have hone : (p.take (f + 1).toNat).drop f.toNat = (p.drop f.toNat).take 1 := by
          rw [List.take_drop]; congr 1; congr 1; omega
        have hsl := cut_mid p hf0 (show 0 ≤ f + 1 by omega)
        rw [hone] at hsl
        walk_at "ws"
        · rename Fr g1 L1 _ _ => F6
          rename News g1 L1 _ _ => N6
          rename List.take _ _ = ext => hne6
          have hfd : f < rf p ext := by assumption
          have hx : (p.drop f.toNat).take 1 = ext := by
            rw [← hsl]
            exact hne6
          refine ksw_end (f + 1, ?t1) F6 N6 (fun _ h => h) trivial ?hk1 ?hr1 ⟨?_, ?_, ?_⟩ ?_
          case hk1 => (intro q hq; rw [List.mem_singleton.mp hq]; rfl)
          case hr1 =>
            intro z h2 h3
            have h2' : z ≠ Str.ofString "filenameIndex" := h2 _ (List.mem_singleton.mpr rfl)
            simp [kstB, h2']
          · show sepIx p sep alt + 1 ≤ f + 1; omega
          · show f + 1 ≤ rf p ext; omega
          · intro k h1 h2
            have h2' : (k : Int) < f + 1 := h2
            by_cases hkf : (k : Int) < f
            · exact hf3 k h1 hkf
            · have : k = f.toNat := by omega
              rw [this]; exact hx
          · show (rf p ext - (f + 1)).toNat < (rf p ext - f).toNat; omega
        · rename Fr g1 L1 _ _ => F6
          rename News g1 L1 _ _ => N6
          rename ∀ p ∈ news, _ => hl6
          rename ¬ (List.take _ _ = ext) => hne6
          have hfd : f < rf p ext := by assumption
          have hx : (p.drop f.toNat).take 1 ≠ ext := by
            rw [hsl] at hne6
            exact hne6
          have e0 : spl p sep alt ext = (p.take (rf p ext).toNat, p.drop (rf p ext).toNat) := by
            unfold spl; rw [if_pos]; exact ⟨hlt', f.toNat, by omega, by omega, hx⟩
          have ret' := ret
          rw [e0] at ret'
          refine leaveK_ F6 N6 fun Fb Nb => ?_
          rw [cut_to p hd0, cut_from p hd0] at Nb
          exact ret' _ _ _ _ _ Fb Nb hl6
        · rename Fr g1 L1 _ _ => F6
          rename News g1 L1 _ _ => N6
          rename ∀ p ∈ news, _ => hl6
          rename ¬ _ => hnlt
          have hnlt' : ¬ f < rf p ext := hnlt
          have e0 : spl p sep alt ext = (p, []) := by
            unfold spl; rw [if_neg]; rintro ⟨-, k, hk1, hk2, hk3⟩; exact hk3 (hf3 k hk1 (by omega))
          have ret' := ret
          rw [e0] at ret'
          refine leaveK_ F6 N6 fun Fb Nb => ?_
          rw [cut_to p (Int.le_refl 0)] at Nb
          exact ret' _ _ _ _ _ Fb Nb hl6
    · rename Fr g1 L1 _ _ => F4
      rename News g1 L1 _ _ => N4
      rename ∀ p ∈ news, _ => hl4
      rename ¬ _ => hnlt
      have e0 : spl p sep alt ext = (p, []) := by
        unfold spl; rw [if_neg]; rintro ⟨h1, -⟩; exact hnlt h1
      have ret' := ret
      rw [e0] at ret'
      refine leaveK_ F4 N4 fun Fb Nb => ?_
      rw [cut_to p (Int.le_refl 0)] at Nb
      exact ret' _ _ _ _ _ Fb Nb hl4
end Mine
end

section
set_option linter.unusedVariables false
open PySem PySem.W PyProof.Rows
namespace Mine
local macro_rules | `(tactic| walk_at "enterC") => `(tactic| (refine' code_defC ?k1 ?k2 ?k3 ?k4 ?k5 ?kA ?kF ?kK ?k6 ?k7 ?k8 ?k9 ?kB ?kD ?_ ?c2 ?c3 ?c4; (case kA => exact rfl); (case kF => exact rfl); (case kK => assumption); (case k1 => k_asm); (case k2 => k_asm); (case k3 => k_asm); (case k4 => k_asm); (case k5 => k_asm); (case k6 => k_is); (case k7 => k_is); (case k8 => ktr_room); (case k9 => exact BindsTo.of_eq rfl); (case kB => exact rfl); (case kD => decide +kernel); (case c2 => exact rfl); (case c3 => exact rfl); (case c4 => exact rfl); k_whole; intro g' L' h' tk' cells' FG' F' N' Y' B' X' T' l1; (try k_lt l1); k_cells Y'; (try simp only [List.cons_append, List.nil_append] at N'); (try dsimp only); (try k_lift B'); (try k_fold)))
local macro_rules | `(tactic| size_fits) => `(tactic| ((simp only [S_len, PySem.sizeLine_eq]); omega))
local macro_rules | `(tactic| walk_at "stop") => `(tactic| first
  | (with_reducible show wpAny _ _ (exec (Stmt.For _ _ _ _ _) _) _ _ _)
  | (with_reducible show wpAny _ _ (exec (Stmt.While _ _ _ _) _) _ _ _)
  | (with_reducible show wpAny _ _ (eval (Expr.ListComp _ _ _ _) _) _ _ _)
  | (with_reducible show wpAny _ _ (pyIter _) _ _ _)
  | (with_reducible show CTurn _ _ _ _ _ _ _ _ _ _ _ _ _ _ _)
  | (with_reducible show CEnd _ _ _ _ _ _ _ _)
  | (with_reducible show CStep _ _ _ _ _ _)
  | (with_reducible show LeaveK _ _ _ _ _ _ _))
local macro_rules | `(tactic| walk_at "CPost") => `(tactic| (dsimp only [CPost]))
local macro_rules | `(tactic| walk_at "ws") => `(tactic| repeat' (first | (k_unfold; (try dsimp only)) | ((fail_if_success (walk_at "stop")); walk1) | ((fail_if_success (walk_at "stop")); dsimp only; walk1) | (leave1; walk_say "STEP leave1"; try dsimp only)))
def IterEnd (h₀ : Heap) (L : Addr) (m₀ : Str → Option Value) (led : List (Addr × Obj)) (a b : Int) (s : Shared) (xv : Value) (s₁ : Shared) : Prop := ∃ r t₀ u₀ v₁ h tk, xv = .ref r ∧ s₁ = { s with heap := h, toks := tk } ∧ IsRange h r a b 1 t₀ u₀ v₁ ∧ Fr h₀ L h m₀ ∧ News h₀ L h led
def cutV (cut : Option Nat) (t : Tok) : Value := match cut with | none => .none | some c => .int c t
open Classical in
def seps12 (sep alt : List Nat) : List (List Nat) := if alt = [] then [sep] else [sep, alt]
theorem sepAt_mem {p sep alt : List Nat} {k : Nat} : SepAt p sep alt k ↔ ∃ y ∈ seps12 sep alt, Stands p y k := by
  unfold SepAt seps12
  by_cases h : alt = []
  · simp [h]
  · simp [h]
theorem gs_seps {p : List Nat} {k : Nat} {sl : List (List Nat)} {gs : List (Option Value)} (hl : gs.length = sl.length) (hG : ∀ (j : Nat) (g : Option Value), gs[j]? = some g → ∃ y, sl[j]? = some y ∧ (g = none ↔ ¬ Stands p y k)) : gs.filterMap id ≠ [] ↔ ∃ y ∈ sl, Stands p y k := by
  constructor
  · intro h
    obtain ⟨v, hv⟩ := List.exists_mem_of_ne_nil _ h
    obtain ⟨g, hg, e⟩ := List.mem_filterMap.mp hv
    obtain ⟨j, hj⟩ := List.mem_iff_getElem?.mp hg
    obtain ⟨y, hy, hi⟩ := hG j g hj
    refine ⟨y, List.mem_of_getElem? hy, ?_⟩
    apply Classical.byContradiction
    intro hn
    rw [hi.mpr hn] at e; cases e
  · rintro ⟨y, hy, hs⟩
    obtain ⟨j, hj⟩ := List.mem_iff_getElem?.mp hy
    have hjl : j < gs.length := by rw [hl]; exact (List.getElem?_eq_some_iff.mp hj).1
    obtain ⟨y', hy', hi⟩ := hG j gs[j] (List.getElem?_eq_getElem hjl)
    rw [hj] at hy'; cases hy'
    cases hg : gs[j] with
    | none => exact absurd hs (hi.mp hg)
    | some v =>
      apply List.ne_nil_of_mem (a := v)
      exact List.mem_filterMap.mpr ⟨some v, hg ▸ List.getElem_mem hjl, rfl⟩
theorem slice_st (p y : List Nat) (i : Nat) : Txt.slice (S p) (some (i : Int)) (some ((i : Int) + ((S y).length : Int))) = S ((p.drop i).take y.length) := by
  rw [slice_mid p (by omega) (by omega), S_len, List.take_drop]
  congr 2
theorem slice_on (p : List Nat) (i : Nat) : Txt.slice (S p) (some (i : Int)) (some ((i : Int) + 1)) = S ((p.drop i).take 1) := by
  rw [slice_mid p (by omega) (by omega), List.take_drop]
  congr 2
theorem st_true {p y : List Nat} {i : Nat} (h : (Txt.slice (S p) (some (i : Int)) (some ((i : Int) + ((S y).length : Int))) == S y) = true) : Stands p y i := by
  rw [slice_st] at h; exact S_inj.mp (beq_iff_eq.mp h)
theorem st_false {p y : List Nat} {i : Nat} (h : (Txt.slice (S p) (some (i : Int)) (some ((i : Int) + ((S y).length : Int))) == S y) = false) : ¬ Stands p y i := by
  rw [slice_st] at h; intro e; rw [e] at h; simp at h
theorem on_true {p y : List Nat} {i : Nat} (h : (Txt.slice (S p) (some (i : Int)) (some ((i : Int) + 1)) != S y) = true) : Sgn p y i := by
  rw [slice_on] at h; intro e; rw [e] at h; simp at h
theorem on_false {p y : List Nat} {i : Nat} (h : (Txt.slice (S p) (some (i : Int)) (some ((i : Int) + 1)) != S y) = false) : ¬ Sgn p y i := by
  rw [slice_on] at h; exact fun e => e (S_inj.mp (bne_eq_false_iff_eq.mp h))
theorem cut12 {w : World} {mean : ExcName → Option Value} {mg mb : Str → Option Value} (dp un : Nat) (gd : Option (List Code)) (cn : Str) (cs : Scope) (a : Addr) (ccd : Value) (cl : List (Str × Addr)) (outer : List Env) (A₀ : Around) (base h₀ : Heap) (L : Addr) (m : Str → Option Value) (news : List (Addr × Obj)) (s : Shared)
    (Q E : Value → Shared → Prop) (p sep alt ext : List Nat) (D : Addr) (n : Nat) (vs : List Value) (tp te : Tok) (hD : (D, W.listOf vs.toArray n) ∈ news) (hvs : StrsAre vs ((seps12 sep alt).map S)) (hp : p.length ≤ 1000) (hwl : ∀ y ∈ seps12 sep alt, y.length ≤ 2) (hel : ext.length ≤ 2)
    (B : Below A₀ base outer h₀) (F : Fr h₀ L s.heap m) (X : (hd12.heap_39 w.params).In h₀) (N : News h₀ L s.heap news) (T : Top hd12.view_39 (looseW hd12.view_39 []) mean mg mb h₀) (hk : cs.kind = .function)
    (hd : dp + 1 < recursionLimit) (hu : un + 8 < cLine)
    (ret : ∀ cut t h' tk', (∃ seen, CutInv p sep alt ext (p.length + 1) cut seen) → Fr h₀ L h' m → News h₀ L h' news → Q (cutV cut t) { s with heap := h', toks := tk' }) :
    wpAny (model PySem.Challenge.rw_dm0122_12.row.prog w) (ktrTop dp un gd cn cs L a ccd cl outer) (call (.ref 26) [.str (S p) tp, .ref D, .str (S ext) te]) Q E s := by
  revert T; revert X; k_fill; intro X T
  refine wpAny_call ?_
  k_dflt (walk_at "enterC")
  walk_at "ws"
  rename Fr _ _ _ _ => F1
  rename News _ _ _ _ => N1
  rename_i g1 L1 h1 tk1 FG1 B1 X1 T1 l1 o1 o2 d1 d2 h2 h3
  have hd1 : o1.data = .cell none := d1
  have hd2 : o2.data = .cell (some (.str (S p) tp)) := d2
  have hvl : vs.length = (seps12 sep alt).length := by have := hvs.length; simpa using this
  have hSp : (S p).length ≤ 1000 := by rw [S_len]; exact hp
  have l1n : ∀ q ∈ news, @LT.lt Nat _ q.1 L1 := l1
  refine forCell (c := L1 + 1 + 1) (oc₀ := o1) (v₀ := none) (n := p.length + 1) (a := 0) (b := p.length + 1) (news := (L1 + 1, o2) :: news)
    (fun i m₁ => ∃ cut seen t, CutInv p sep alt ext i cut seen ∧ m₁ (Str.ofString "cut") = some (cutV cut t) ∧ m₁ (Str.ofString "seen") = some (.bool seen) ∧ m₁ (Str.ofString "seps") = some (.ref D) ∧ m₁ (Str.ofString "extsep") = some (.str (S ext) te)) F1 rfl rfl rfl rfl ?hE ?hsm ?hnn ?hnc hd1 ?hj ?hit ?_ ?_
  case hE => passes_own
  case hsm => exact small_one (by decide) (by decide) (by omega) (by omega)
  case hnn => rw [rangeSize_nat]; omega
  case hnc =>
    intro q hq
    rcases List.mem_cons.mp hq with rfl | hq
    · show @Ne Nat (L1 + 1) (L1 + 1 + 1); omega
    · have := l1n q hq; show @Ne Nat q.1 (L1 + 1 + 1); omega
  case hj => exact ⟨none, false, 0, cut_start _ _ _ _, rfl, rfl, rfl, rfl⟩
  case hit =>
    show wpAny _ _ _ (IterEnd _ _ _ _ _ _ _) _ _
    walk_at "ws"
    rename Fr g1 L1 _ _ => F2
    rename News g1 L1 _ _ => N2
    rename IsRange _ _ _ _ _ _ _ _ => R2
    rw [S_len] at R2
    exact ⟨_, _, _, _, _, _, rfl, rfl, R2, F2, N2⟩
  · rintro i t m₁ h tk I oI oc hi ⟨cut, seen, tc, hinv, hm1, hm2, hm3, hm4⟩ hoc F2 N2
    have F3 : Fr g1 L1 h _ := fr_show [(Str.ofString "cut", cutV cut tc), (Str.ofString "seen", .bool seen), (Str.ofString "seps", .ref D), (Str.ofString "extsep", .str (S ext) te)] F2 (by simp [hm1, hm2, hm3, hm4])
    have hoc : oc.data = .cell (some (.int (i : Int) t)) := by simpa using hoc
    have N2 : News g1 L1 h _ := N2
    clear F2
    walk_at "ws"
    refine ListComp_E rfl rfl (by decide) ?_
    walk_at "ws"
    refine csrc_list (Bd := fun j m₃ => ∃ y t, (seps12 sep alt)[j]? = some y ∧ m₃ (Str.ofString "sep") = some (.str (S y) t)) (G := fun j g => ∃ y, (seps12 sep alt)[j]? = some y ∧ (g = none ↔ ¬ Stands p y i)) rfl (by decide) rfl F3 N2 (.tail _ (.tail _ (.tail _ hD))) ?_ ?_ ?_ ?_ (cfin_expr ?_)
    · rw [hvl, PySem.sizeLine_eq]; unfold seps12; split <;> simp
    · intro I i v s' Q E' hv hit hq
      exact wpAny_pure hq
    · intro j v C h tk m' E' hv h1 h2 h3 h4 h5 h6
      refine wpAny_mono (bind_name (P := fun j v => vs[j]? = some v) rfl rfl j v C h tk m' E' hv h1 h2 h3 h4 h5 h6) ?_ fun _ _ e => e
      rintro _ s₃ ⟨h₃, tk₃, m₃, e, hn₃, hk₃, v', hv', hm⟩
      have hj : j < (seps12 sep alt).length := by rw [← hvl]; exact (List.getElem?_eq_some_iff.mp hv').1
      obtain ⟨ty, hty⟩ := strs_get hvs j (S (seps12 sep alt)[j]) (by rw [List.getElem?_map, List.getElem?_eq_getElem hj]; rfl)
      rw [hv'] at hty; cases hty
      exact ⟨h₃, tk₃, m₃, e, hn₃, hk₃, _, ty, List.getElem?_eq_getElem hj, hm⟩
    · intro j hj
      unfold CTurn
      rintro I2 oI2 C oC D2 oD2 m₃ h2 tk2 E' ⟨y, ty, hy, hm3⟩ hC F4 N4 hoff
      refine wpAny_tests_one ?_
      have hyl : y.length ≤ 2 := hwl y (List.mem_of_getElem? hy)
      have hSy : (S y).length ≤ 2 := by rw [S_len]; exact hyl
      walk_at "ws"
      · rename Fr g1 L1 _ _ => F5
        rename News g1 L1 _ _ => N5
        rename (_ == _) = true => hst
        exact CEnd.intro F5 N5 (fun _ h => h) ⟨y, hy, ⟨fun e => (nomatch e), fun e => absurd (st_true hst) e⟩⟩
      · rename Fr g1 L1 _ _ => F5
        rename News g1 L1 _ _ => N5
        rename (_ == _) = false => hst
        exact CEnd.intro F5 N5 (fun _ h => h) ⟨y, hy, ⟨fun _ => st_false hst, fun _ => rfl⟩⟩
    · intro D' h' tk' gs Fd Nd hlt hgl hG
      dsimp only
      walk_at "ws"
      rename Fr g1 L1 _ _ => F5
      rename News g1 L1 _ _ => N5
      have hgl' : gs.length = (seps12 sep alt).length := by rw [hgl, hvl]
      have hsep := (gs_seps hgl' hG).trans sepAt_mem.symm
      refine ne_nil_L (vs := gs.filterMap id) N5 (.tail _ (.head _)) (.head _) ?_ ?_
      · have := cLine_is
        simp only [units_in1, units_deeper, Around.mark_units, units_caller, ]; (try dsimp only [ktrTop]); omega
      by_cases hs : SepAt p sep alt i
      · rw [decide_eq_true (hsep.mpr hs)]
        walk_at "ws"
        rename Fr g1 L1 _ _ => F6
        rename News g1 L1 _ _ => N6
        exact CStep.intro F6 N6 (fun _ hp => .tail _ (.tail _ hp)) ⟨none, false, 0, cut_sep hinv hs, rfl, rfl, rfl, rfl⟩
      · rw [decide_eq_false (fun e => hs (hsep.mp e))]
        have hstep := cut_step hinv hs
        have hSe : (S ext).length ≤ 2 := by rw [S_len]; exact hel
        cases seen
        · rw [if_neg (by simp)] at hstep
          walk_at "ws"
          · rename Fr g1 L1 _ _ => F6
            rename News g1 L1 _ _ => N6
            rename (_ != _) = true => hon
            rw [if_pos (on_true hon)] at hstep
            exact CStep.intro F6 N6 (fun _ hp => .tail _ (.tail _ hp)) ⟨_, _, tc, hstep, rfl, rfl, rfl, rfl⟩
          · rename Fr g1 L1 _ _ => F6
            rename News g1 L1 _ _ => N6
            rename (_ != _) = false => hon
            rw [if_neg (on_false hon)] at hstep
            exact CStep.intro F6 N6 (fun _ hp => .tail _ (.tail _ hp)) ⟨_, _, tc, hstep, rfl, rfl, rfl, rfl⟩
        · walk_at "ws"
          · rename Fr g1 L1 _ _ => F6
            rename News g1 L1 _ _ => N6
            rename (_ == _) = true => hst
            rename (_ != _) = true => hon
            rw [if_pos (on_true hon), if_pos ⟨rfl, st_true hst⟩] at hstep
            exact CStep.intro F6 N6 (fun _ hp => .tail _ (.tail _ hp)) ⟨_, _, t, hstep, rfl, rfl, rfl, rfl⟩
          · rename Fr g1 L1 _ _ => F6
            rename News g1 L1 _ _ => N6
            rename (_ == _) = true => hst
            rename (_ != _) = false => hon
            rw [if_neg (on_false hon), if_pos ⟨rfl, st_true hst⟩] at hstep
            exact CStep.intro F6 N6 (fun _ hp => .tail _ (.tail _ hp)) ⟨_, _, t, hstep, rfl, rfl, rfl, rfl⟩
          · rename Fr g1 L1 _ _ => F6
            rename News g1 L1 _ _ => N6
            rename (_ == _) = false => hst
            rename (_ != _) = true => hon
            rw [if_pos (on_true hon), if_neg (fun e => st_false hst e.2)] at hstep
            exact CStep.intro F6 N6 (fun _ hp => .tail _ (.tail _ hp)) ⟨_, _, tc, hstep, rfl, rfl, rfl, rfl⟩
          · rename Fr g1 L1 _ _ => F6
            rename News g1 L1 _ _ => N6
            rename (_ == _) = false => hst
            rename (_ != _) = false => hon
            rw [if_neg (on_false hon), if_neg (fun e => st_false hst e.2)] at hstep
            exact CStep.intro F6 N6 (fun _ hp => .tail _ (.tail _ hp)) ⟨_, _, tc, hstep, rfl, rfl, rfl, rfl⟩
  · rintro m₁ h tk oc ⟨cut, seen, tc, hinv, hm1, hm2, hm3, hm4⟩ F2 N2
    have F3 : Fr g1 L1 h _ := fr_show [(Str.ofString "cut", cutV cut tc), (Str.ofString "seen", .bool seen), (Str.ofString "seps", .ref D), (Str.ofString "extsep", .str (S ext) te)] F2 (by simp [hm1, hm2, hm3, hm4])
    have N2 : News g1 L1 h _ := N2
    clear F2
    walk_at "ws"
    dsimp only
    walk_at "ws"
    exact leaveK_ F3 N2 fun Fb Nb => ret _ _ _ _ ⟨_, hinv⟩ Fb (news_sub Nb fun _ h => .tail _ (.tail _ h))
end Mine
end

section
set_option linter.unusedVariables false
open PySem PySem.W PyProof.Rows
namespace Mine
local macro_rules | `(tactic| walk_at "enterC") => `(tactic| (refine' code_defC ?k1 ?k2 ?k3 ?k4 ?k5 ?kA ?kF ?kK ?k6 ?k7 ?k8 ?k9 ?kB ?kD ?_ ?c2 ?c3 ?c4; (case kA => exact rfl); (case kF => exact rfl); (case kK => assumption); (case k1 => k_asm); (case k2 => k_asm); (case k3 => k_asm); (case k4 => k_asm); (case k5 => k_asm); (case k6 => k_is); (case k7 => k_is); (case k8 => ktr_room); (case k9 => exact BindsTo.of_eq rfl); (case kB => exact rfl); (case kD => decide +kernel); (case c2 => exact rfl); (case c3 => exact rfl); (case c4 => exact rfl); k_whole; intro g' L' h' tk' cells' FG' F' N' Y' B' X' T' l1; (try k_lt l1); k_cells Y'; (try simp only [List.cons_append, List.nil_append] at N'); (try dsimp only); (try k_lift B'); (try k_fold)))
local macro_rules | `(tactic| size_fits) => `(tactic| ((simp only [S_len, PySem.sizeLine_eq]); omega))
local macro_rules | `(tactic| walk_at "stop") => `(tactic| first
  | (with_reducible show wpAny _ _ (exec (Stmt.For _ _ _ _ _) _) _ _ _)
  | (with_reducible show wpAny _ _ (exec (Stmt.While _ _ _ _) _) _ _ _)
  | (with_reducible show wpAny _ _ (eval (Expr.ListComp _ _ _ _) _) _ _ _)
  | (with_reducible show wpAny _ _ (pyIter _) _ _ _)
  | (with_reducible show CTurn _ _ _ _ _ _ _ _ _ _ _ _ _ _ _)
  | (with_reducible show CEnd _ _ _ _ _ _ _ _)
  | (with_reducible show CStep _ _ _ _ _ _)
  | (with_reducible show LeaveK _ _ _ _ _ _ _))
local macro_rules | `(tactic| walk_at "CPost") => `(tactic| (dsimp only [CPost]))
local macro_rules | `(tactic| walk_at "ws") => `(tactic| repeat' (first | (k_unfold; (try dsimp only)) | ((fail_if_success (walk_at "stop")); walk1) | ((fail_if_success (walk_at "stop")); dsimp only; walk1) | (leave1; walk_say "STEP leave1"; try dsimp only)))
local macro_rules | `(tactic| walk_at "compareOp NotEq bytes bytes") => `(tactic| (refine ne_O (by first | assumption | exact ((Small.drop (by assumption) _).take _)) (by assumption) ?_))
local macro_rules | `(tactic| walk_at "compareOp Eq bytes bytes") => `(tactic| (refine eq_O (by first | assumption | exact ((Small.drop (by assumption) _).take _)) (by assumption) ?_))
local macro_rules | `(tactic| walk_at "call builtin:len") => `(tactic| (k_here; (refine len_O (by omega) ?_); intro _ _))
local macro_rules | `(tactic| walk_at "subscriptTail") => `(tactic| (k_here; (with_reducible show wpAny _ _ (subscriptTail _ (Expr.Slice _ _ none _) (Value.bytes _ _) (Value.ref _)) _ _ _); (with_reducible rename Fr _ _ _ _ => F'); (with_reducible rename News _ _ _ _ => N'); (refine slice_O (s := ⟨_, _, _, _, _⟩) F' N' (by assumption) (by constructor) (by constructor) (by omega) ?_ (by with_unfolding_all rfl) (by intro _; with_unfolding_all rfl)); intro _ _ _ _ _))
/-- a list of octets -/
def OctsAre (vs : List Value) (ys : List (List Nat)) : Prop := vs.length = ys.length ∧ ∀ (j : Nat) (y : List Nat), ys[j]? = some y → ∃ t, vs[j]? = some (.bytes (O y) t)
theorem cut_st (p y : List Nat) (i : Nat) : (p.drop ((some (i : Int)).elim 0 (clipAt p.length))).take ((some ((i : Int) + (y.length : Int))).elim p.length (clipAt p.length) - (some (i : Int)).elim 0 (clipAt p.length)) = (p.drop i).take y.length := by
  rw [cut_mid p (by omega) (by omega), List.take_drop]
  congr 1
theorem cut_on (p : List Nat) (i : Nat) : (p.drop ((some (i : Int)).elim 0 (clipAt p.length))).take ((some ((i : Int) + 1)).elim p.length (clipAt p.length) - (some (i : Int)).elim 0 (clipAt p.length)) = (p.drop i).take 1 := by
  rw [cut_mid p (by omega) (by omega), List.take_drop]
  congr 1
theorem stO {p y : List Nat} {i : Nat} (h : (p.drop ((some (i : Int)).elim 0 (clipAt p.length))).take ((some ((i : Int) + (y.length : Int))).elim p.length (clipAt p.length) - (some (i : Int)).elim 0 (clipAt p.length)) = y) : Stands p y i := by rw [cut_st] at h; exact h
theorem stOn {p y : List Nat} {i : Nat} (h : ¬ (p.drop ((some (i : Int)).elim 0 (clipAt p.length))).take ((some ((i : Int) + (y.length : Int))).elim p.length (clipAt p.length) - (some (i : Int)).elim 0 (clipAt p.length)) = y) : ¬ Stands p y i := by rw [cut_st] at h; exact h
theorem onO {p y : List Nat} {i : Nat} (h : (p.drop ((some (i : Int)).elim 0 (clipAt p.length))).take ((some ((i : Int) + 1)).elim p.length (clipAt p.length) - (some (i : Int)).elim 0 (clipAt p.length)) = y) : ¬ Sgn p y i := by rw [cut_on] at h; exact fun e => e h
theorem onOn {p y : List Nat} {i : Nat} (h : ¬ (p.drop ((some (i : Int)).elim 0 (clipAt p.length))).take ((some ((i : Int) + 1)).elim p.length (clipAt p.length) - (some (i : Int)).elim 0 (clipAt p.length)) = y) : Sgn p y i := by rw [cut_on] at h; exact h
theorem cutO12 {w : World} {mean : ExcName → Option Value} {mg mb : Str → Option Value} (dp un : Nat) (gd : Option (List Code)) (cn : Str) (cs : Scope) (a : Addr) (ccd : Value) (cl : List (Str × Addr)) (outer : List Env) (A₀ : Around) (base h₀ : Heap) (L : Addr) (m : Str → Option Value) (news : List (Addr × Obj)) (s : Shared)
    (Q E : Value → Shared → Prop) (p sep alt ext : List Nat) (D : Addr) (n : Nat) (vs : List Value) (tp te : Tok) (hD : (D, W.listOf vs.toArray n) ∈ news) (hvs : OctsAre vs (seps12 sep alt)) (hsp : Small p) (hse : Small ext) (hsy : ∀ y ∈ seps12 sep alt, Small y) (hp : p.length ≤ 1000) (hwl : ∀ y ∈ seps12 sep alt, y.length ≤ 2) (hel : ext.length ≤ 2)
    (B : Below A₀ base outer h₀) (F : Fr h₀ L s.heap m) (X : (hd12.heap_39 w.params).In h₀) (N : News h₀ L s.heap news) (T : Top hd12.view_39 (looseW hd12.view_39 []) mean mg mb h₀) (hk : cs.kind = .function)
    (hd : dp + 1 < recursionLimit) (hu : un + 8 < cLine)
    (ret : ∀ cut t h' tk', (∃ seen, CutInv p sep alt ext (p.length + 1) cut seen) → Fr h₀ L h' m → News h₀ L h' news → Q (cutV cut t) { s with heap := h', toks := tk' }) :
    wpAny (model PySem.Challenge.rw_dm0122_12.row.prog w) (ktrTop dp un gd cn cs L a ccd cl outer) (call (.ref 26) [.bytes (O p) tp, .ref D, .bytes (O ext) te]) Q E s := by
  revert T; revert X; k_fill; intro X T
  refine wpAny_call ?_
  k_dflt (walk_at "enterC")
  walk_at "ws"
  rename Fr _ _ _ _ => F1
  rename News _ _ _ _ => N1
  rename_i g1 L1 h1 tk1 FG1 B1 X1 T1 l1 o1 o2 d1 d2 h2 h3
  have hd1 : o1.data = .cell none := d1
  have hd2 : o2.data = .cell (some (.bytes (O p) tp)) := d2
  have hvl : vs.length = (seps12 sep alt).length := hvs.1
  have l1n : ∀ q ∈ news, @LT.lt Nat _ q.1 L1 := l1
  refine forCell (c := L1 + 1 + 1) (oc₀ := o1) (v₀ := none) (n := p.length + 1) (a := 0) (b := p.length + 1) (news := (L1 + 1, o2) :: news)
    (fun i m₁ => ∃ cut seen t, CutInv p sep alt ext i cut seen ∧ m₁ (Str.ofString "cut") = some (cutV cut t) ∧ m₁ (Str.ofString "seen") = some (.bool seen) ∧ m₁ (Str.ofString "seps") = some (.ref D) ∧ m₁ (Str.ofString "extsep") = some (.bytes (O ext) te)) F1 rfl rfl rfl rfl ?hE ?hsm ?hnn ?hnc hd1 ?hj ?hit ?_ ?_
  case hE => passes_own
  case hsm => exact small_one (by decide) (by decide) (by omega) (by omega)
  case hnn => rw [rangeSize_nat]; omega
  case hnc =>
    intro q hq
    rcases List.mem_cons.mp hq with rfl | hq
    · show @Ne Nat (L1 + 1) (L1 + 1 + 1); omega
    · have := l1n q hq; show @Ne Nat q.1 (L1 + 1 + 1); omega
  case hj => exact ⟨none, false, 0, cut_start _ _ _ _, rfl, rfl, rfl, rfl⟩
  case hit =>
    show wpAny _ _ _ (IterEnd _ _ _ _ _ _ _) _ _
    walk_at "ws"
    rename Fr g1 L1 _ _ => F2
    rename News g1 L1 _ _ => N2
    rename IsRange _ _ _ _ _ _ _ _ => R2
    exact ⟨_, _, _, _, _, _, rfl, rfl, R2, F2, N2⟩
  · rintro i t m₁ h tk I oI oc hi ⟨cut, seen, tc, hinv, hm1, hm2, hm3, hm4⟩ hoc F2 N2
    have F3 : Fr g1 L1 h _ := fr_show [(Str.ofString "cut", cutV cut tc), (Str.ofString "seen", .bool seen), (Str.ofString "seps", .ref D), (Str.ofString "extsep", .bytes (O ext) te)] F2 (by simp [hm1, hm2, hm3, hm4])
    have hoc : oc.data = .cell (some (.int (i : Int) t)) := by simpa using hoc
    have N2 : News g1 L1 h _ := N2
    clear F2
    walk_at "ws"
    refine ListComp_E rfl rfl (by decide) ?_
    walk_at "ws"
    refine csrc_list (Bd := fun j m₃ => ∃ y t, (seps12 sep alt)[j]? = some y ∧ m₃ (Str.ofString "sep") = some (.bytes (O y) t)) (G := fun j g => ∃ y, (seps12 sep alt)[j]? = some y ∧ (g = none ↔ ¬ Stands p y i)) rfl (by decide) rfl F3 N2 (.tail _ (.tail _ (.tail _ hD))) ?_ ?_ ?_ ?_ (cfin_expr ?_)
    · rw [hvl, PySem.sizeLine_eq]; unfold seps12; split <;> simp
    · intro I i v s' Q E' hv hit hq
      exact wpAny_pure hq
    · intro j v C h tk m' E' hv h1 h2 h3 h4 h5 h6
      refine wpAny_mono (bind_name (P := fun j v => vs[j]? = some v) rfl rfl j v C h tk m' E' hv h1 h2 h3 h4 h5 h6) ?_ fun _ _ e => e
      rintro _ s₃ ⟨h₃, tk₃, m₃, e, hn₃, hk₃, v', hv', hm⟩
      have hj : j < (seps12 sep alt).length := by rw [← hvl]; exact (List.getElem?_eq_some_iff.mp hv').1
      obtain ⟨ty, hty⟩ := hvs.2 j (seps12 sep alt)[j] (List.getElem?_eq_getElem hj)
      rw [hv'] at hty; cases hty
      exact ⟨h₃, tk₃, m₃, e, hn₃, hk₃, _, ty, List.getElem?_eq_getElem hj, hm⟩
    · intro j hj
      unfold CTurn
      rintro I2 oI2 C oC D2 oD2 m₃ h2 tk2 E' ⟨y, ty, hy, hm3⟩ hC F4 N4 hoff
      refine wpAny_tests_one ?_
      have hyl : y.length ≤ 2 := hwl y (List.mem_of_getElem? hy)
      have hys : Small y := hsy y (List.mem_of_getElem? hy)
      walk_at "ws"
      · rename Fr g1 L1 _ _ => F6
        rename News g1 L1 _ _ => N6
        exact CEnd.intro F6 N6 (fun _ h => h) ⟨y, hy, ⟨fun e => (nomatch e), fun e => absurd (stO (by assumption)) e⟩⟩
      · rename Fr g1 L1 _ _ => F6
        rename News g1 L1 _ _ => N6
        exact CEnd.intro F6 N6 (fun _ h => h) ⟨y, hy, ⟨fun _ => stOn (by assumption), fun _ => rfl⟩⟩
    · intro D' h' tk' gs Fd Nd hlt hgl hG
      dsimp only
      walk_at "ws"
      rename Fr g1 L1 _ _ => F5
      rename News g1 L1 _ _ => N5
      have hgl' : gs.length = (seps12 sep alt).length := by rw [hgl, hvl]
      have hsep := (gs_seps hgl' hG).trans sepAt_mem.symm
      refine ne_nil_L (vs := gs.filterMap id) N5 (.tail _ (.head _)) (.head _) ?_ ?_
      · have := cLine_is
        simp only [units_in1, units_deeper, Around.mark_units, units_caller, ]; (try dsimp only [ktrTop]); omega
      by_cases hs : SepAt p sep alt i
      · rw [decide_eq_true (hsep.mpr hs)]
        walk_at "ws"
        rename Fr g1 L1 _ _ => F6
        rename News g1 L1 _ _ => N6
        exact CStep.intro F6 N6 (fun _ hp => .tail _ (.tail _ hp)) ⟨none, false, 0, cut_sep hinv hs, rfl, rfl, rfl, rfl⟩
      · rw [decide_eq_false (fun e => hs (hsep.mp e))]
        have hstep := cut_step hinv hs
        cases seen
        · rw [if_neg (by simp)] at hstep
          walk_at "ws"
          · rename Fr g1 L1 _ _ => F6
            rename News g1 L1 _ _ => N6
            rw [if_neg (onO (p := p) (y := ext) (i := i) (by assumption))] at hstep
            exact CStep.intro F6 N6 (fun _ hp => .tail _ (.tail _ hp)) ⟨_, _, tc, hstep, rfl, rfl, rfl, rfl⟩
          · rename Fr g1 L1 _ _ => F6
            rename News g1 L1 _ _ => N6
            rw [if_pos (onOn (p := p) (y := ext) (i := i) (by assumption))] at hstep
            exact CStep.intro F6 N6 (fun _ hp => .tail _ (.tail _ hp)) ⟨_, _, tc, hstep, rfl, rfl, rfl, rfl⟩
        · walk_at "ws"
          · rename Fr g1 L1 _ _ => F6
            rename News g1 L1 _ _ => N6
            rw [if_neg (onO (p := p) (y := ext) (i := i) (by assumption)), if_pos ⟨rfl, stO (p := p) (y := ext) (i := i) (by assumption)⟩] at hstep
            exact CStep.intro F6 N6 (fun _ hp => .tail _ (.tail _ hp)) ⟨_, _, t, hstep, rfl, rfl, rfl, rfl⟩
          · rename Fr g1 L1 _ _ => F6
            rename News g1 L1 _ _ => N6
            rw [if_pos (onOn (p := p) (y := ext) (i := i) (by assumption)), if_pos ⟨rfl, stO (p := p) (y := ext) (i := i) (by assumption)⟩] at hstep
            exact CStep.intro F6 N6 (fun _ hp => .tail _ (.tail _ hp)) ⟨_, _, t, hstep, rfl, rfl, rfl, rfl⟩
          · rename Fr g1 L1 _ _ => F6
            rename News g1 L1 _ _ => N6
            rw [if_neg (onO (p := p) (y := ext) (i := i) (by assumption)), if_neg (fun e => stOn (p := p) (y := ext) (i := i) (by assumption) e.2)] at hstep
            exact CStep.intro F6 N6 (fun _ hp => .tail _ (.tail _ hp)) ⟨_, _, tc, hstep, rfl, rfl, rfl, rfl⟩
          · rename Fr g1 L1 _ _ => F6
            rename News g1 L1 _ _ => N6
            rw [if_pos (onOn (p := p) (y := ext) (i := i) (by assumption)), if_neg (fun e => stOn (p := p) (y := ext) (i := i) (by assumption) e.2)] at hstep
            exact CStep.intro F6 N6 (fun _ hp => .tail _ (.tail _ hp)) ⟨_, _, tc, hstep, rfl, rfl, rfl, rfl⟩
  · rintro m₁ h tk oc ⟨cut, seen, tc, hinv, hm1, hm2, hm3, hm4⟩ F2 N2
    have F3 : Fr g1 L1 h _ := fr_show [(Str.ofString "cut", cutV cut tc), (Str.ofString "seen", .bool seen), (Str.ofString "seps", .ref D), (Str.ofString "extsep", .bytes (O ext) te)] F2 (by simp [hm1, hm2, hm3, hm4])
    have N2 : News g1 L1 h _ := N2
    clear F2
    walk_at "ws"
    dsimp only
    walk_at "ws"
    exact leaveK_ F3 N2 fun Fb Nb => ret _ _ _ _ ⟨_, hinv⟩ Fb (news_sub Nb fun _ h => .tail _ (.tail _ h))
end Mine
end

section
set_option linter.unusedVariables false
open PySem PySem.W PyProof.Rows
namespace Mine
local macro_rules | `(tactic| walk_at "enterC") => `(tactic| (refine' code_defC ?k1 ?k2 ?k3 ?k4 ?k5 ?kA ?kF ?kK ?k6 ?k7 ?k8 ?k9 ?kB ?kD ?_ ?c2 ?c3 ?c4; (case kA => exact rfl); (case kF => exact rfl); (case kK => assumption); (case k1 => k_asm); (case k2 => k_asm); (case k3 => k_asm); (case k4 => k_asm); (case k5 => k_asm); (case k6 => k_is); (case k7 => k_is); (case k8 => ktr_room); (case k9 => exact BindsTo.of_eq rfl); (case kB => exact rfl); (case kD => decide +kernel); (case c2 => exact rfl); (case c3 => exact rfl); (case c4 => exact rfl); k_whole; intro g' L' h' tk' cells' FG' F' N' Y' B' X' T' l1; (try k_lt l1); k_cells Y'; (try simp only [List.cons_append, List.nil_append] at N'); (try dsimp only); (try k_lift B'); (try k_fold)))
local macro_rules | `(tactic| size_fits) => `(tactic| ((simp only [S_len, PySem.sizeLine_eq]); omega))
local macro_rules | `(tactic| walk_at "stop") => `(tactic| first
  | (with_reducible show wpAny _ _ (exec (Stmt.For _ _ _ _ _) _) _ _ _)
  | (with_reducible show wpAny _ _ (exec (Stmt.While _ _ _ _) _) _ _ _)
  | (with_reducible show wpAny _ _ (eval (Expr.ListComp _ _ _ _) _) _ _ _)
  | (with_reducible show wpAny _ _ (pyIter _) _ _ _)
  | (with_reducible show CTurn _ _ _ _ _ _ _ _ _ _ _ _ _ _ _)
  | (with_reducible show CEnd _ _ _ _ _ _ _ _)
  | (with_reducible show CStep _ _ _ _ _ _)
  | (with_reducible show LeaveK _ _ _ _ _ _ _))
local macro_rules | `(tactic| walk_at "CPost") => `(tactic| (dsimp only [CPost]))
local macro_rules | `(tactic| walk_at "ws") => `(tactic| repeat' (first | (k_unfold; (try dsimp only)) | ((fail_if_success (walk_at "stop")); walk1) | ((fail_if_success (walk_at "stop")); dsimp only; walk1) | (leave1; walk_say "STEP leave1"; try dsimp only)))
theorem gs_ints : ∀ {gs : List (Option Value)} {tl : List Int}, gs.length = tl.length → (∀ (j : Nat) (g : Option Value), gs[j]? = some g → ∃ (v : Int) (t : Tok), tl[j]? = some v ∧ g = some (Value.int v t)) → IntsAre (gs.filterMap id) tl
  | [], [], _, _ => .nil
  | [], _ :: _, h, _ => by simp at h
  | _ :: _, [], h, _ => by simp at h
  | g :: gs, v :: tl, h, k => by
    obtain ⟨v', t, e1, e2⟩ := k 0 g rfl
    have : v = v' := by simpa using e1
    subst this
    subst e2
    have ih := gs_ints (gs := gs) (tl := tl) (by simpa using h) fun j g hj => by
      obtain ⟨v', t', a, b⟩ := k (j + 1) g (by simpa using hj)
      exact ⟨v', t', by simpa using a, b⟩
    exact .cons _ t ih
theorem octets12 {w : World} {mean : ExcName → Option Value} {mg mb : Str → Option Value} (dp un : Nat) (gd : Option (List Code)) (cn : Str) (cs : Scope) (a : Addr) (ccd : Value) (cl : List (Str × Addr)) (outer : List Env) (A₀ : Around) (base h₀ : Heap) (L : Addr) (m : Str → Option Value) (news : List (Addr × Obj)) (s : Shared)
    (Q E : Value → Shared → Prop) (p : List Nat) (tp : Tok) (hsp : Small p) (hp : p.length ≤ 1000)
    (B : Below A₀ base outer h₀) (F : Fr h₀ L s.heap m) (X : (hd12.heap_39 w.params).In h₀) (N : News h₀ L s.heap news) (T : Top hd12.view_39 (looseW hd12.view_39 []) mean mg mb h₀) (hk : cs.kind = .function)
    (hd : dp + 1 < recursionLimit) (hu : un + 8 < cLine)
    (ret : ∀ t h' tk', Fr h₀ L h' m → News h₀ L h' news → Q (.bytes (O p) t) { s with heap := h', toks := tk' }) :
    wpAny (model PySem.Challenge.rw_dm0122_12.row.prog w) (ktrTop dp un gd cn cs L a ccd cl outer) (call (.ref 31) [.str (S p) tp]) Q E s := by
  revert T; revert X; k_fill; intro X T
  refine wpAny_call ?_
  k_dflt ktr_enter
  rename_i g1 L1 h1 FG1 F1 N1 B1 X1 T1
  walk_at "ws"
  refine ListComp_E (cl := []) rfl rfl (by decide) ?_
  walk_at "ws"
  refine csrc_str (fun i g => ∃ c t, p[i]? = some c ∧ g = some (Value.int (c : Int) t)) rfl (by decide) rfl rfl F1 N1 (by rw [PySem.sizeLine_eq]; omega) ?_ (cfin_expr ?_)
  · intro i hi
    unfold CTurn
    rintro I oI C oC D oD m₃ h tk E' ⟨c, t, hc, hm3⟩ hC F3 N3 hoff
    refine wpAny_tests_nil ?_
    rw [if_pos rfl]
    walk_at "ws"
    exact CEnd.intro F3 N3 (fun _ h => h) ⟨c, _, hc, rfl⟩
  · intro D h tk gs Fd Nd hlt hgl hG
    dsimp only
    walk_at "ws"
    have hints : IntsAre (gs.filterMap id) (p.map fun (c : Nat) => (c : Int)) := by
      refine gs_ints (by rw [hgl, List.length_map]) ?_
      intro j g hj
      obtain ⟨c, t, hc, e⟩ := hG j g hj
      exact ⟨c, t, by rw [List.getElem?_map, hc]; rfl, e⟩
    refine make_O Fd Nd rfl (.head _) hints hsp (by omega) ?_
    intro h' t' k F' N'
    dsimp only
    walk_at "ws"
    exact leaveK_ F' N' fun Fb Nb => ret _ _ _ Fb (news_sub Nb fun _ h => .tail _ h)
end Mine
end

section
open PySem PySem.W PyProof.Rows
set_option linter.unusedVariables false
namespace Mine
/-- the law came back True -/
def LawEnd (s₁ : Shared) (f : Flow) (s' : Shared) : Prop := ∃ h' tk' m', f = .ret (.bool true) ∧ s' = { s₁ with heap := h', toks := tk' } ∧ Fr s₁.heap s₁.heap.objs.size h' m'
theorem LawEnd.intro {s₁ : Shared} {h' : Heap} {tk' : Nat} {m' : Str → Option Value} (F : Fr s₁.heap s₁.heap.objs.size h' m') : LawEnd s₁ (.ret (.bool true)) { s₁ with heap := h', toks := tk' } := ⟨h', tk', m', rfl, rfl, F⟩
def defBody (p : Program) (n : Nat) : List Stmt := match p.main.body[n]? with
  | some (.FunctionDef (body := b) ..) => b
  | _ => []
def defScope (p : Program) (n : Nat) : Scope := match p.main.body[n]? with
  | some (.FunctionDef (scope := b) ..) => b
  | _ => default
def loop12 : List Stmt := (defBody PySem.Challenge.pw_dm0122_12 5).drop 8
def tail12 : List Stmt := (defBody PySem.Challenge.pw_dm0122_12 5).drop 7
def scope12 : Scope := defScope PySem.Challenge.pw_dm0122_12 5
abbrev env12 (L fa : Addr) (cA : Value) : Env := envOf (Str.ofString "law") scope12 L fa cA
theorem step_mem {vs : List Value} {k : Int} {v : Value} (h : v ∈ (slicePick vs.toArray none none (some k)).toList) : v ∈ vs := by
  unfold slicePick at h
  simp only [List.mem_filterMap] at h
  obtain ⟨i, _, e⟩ := h
  have := List.mem_of_getElem? (by simpa using e : vs[i]? = some v)
  exact this
theorem ints_of : ∀ {ws : List Value}, (∀ v ∈ ws, ∃ n t, v = .int n t) → ∃ ns, IntsAre ws ns
  | [], _ => ⟨[], .nil⟩
  | v :: ws, h => by
    obtain ⟨n, t, rfl⟩ := h v (.head _)
    obtain ⟨ns, hn⟩ := ints_of (ws := ws) fun v hv => h v (.tail _ hv)
    exact ⟨n :: ns, .cons n t hn⟩
theorem ints_mem : ∀ {vs : List Value} {ns : List Int}, IntsAre vs ns → ∀ v ∈ vs, ∃ n t, v = .int n t
  | _, _, .nil, v, h => by cases h
  | _, _, .cons n t r, v, h => by
    rcases List.mem_cons.mp h with rfl | h
    · exact ⟨n, t, rfl⟩
    · exact ints_mem r v h
theorem step_len {vs : List Value} {k : Int} (hk : 0 < k) : (slicePick vs.toArray none none (some k)).size ≤ vs.length := by
  unfold slicePick
  simp only [sliceBounds, Option.getD_some, hk, if_true, List.size_toArray]
  refine Nat.le_trans (List.length_filterMap_le _ _) ?_
  unfold sliceRange
  simp only [hk, if_true, List.length_map, List.length_range]
  split
  · have : ((vs.length : Int) - 0 + k - 1) / k ≤ vs.length := by
      apply Int.ediv_le_of_le_mul hk
      have h1 : 0 ≤ ((vs.length : Int)) * (k - 1) := Int.mul_nonneg (by omega) (by omega)
      have h2 : (vs.length : Int) * (k - 1) = vs.length * k - vs.length := by rw [Int.mul_sub, Int.mul_one]
      have h3 : (vs.length : Int) ≥ 1 := by omega
      have h4 : (k - 1) ≤ (vs.length : Int) * (k - 1) := by
        have := Int.mul_le_mul_of_nonneg_right h3 (show 0 ≤ k - 1 by omega)
        omega
      omega
    omega
  · omega
theorem gs_textsP {P : Nat → Prop} : ∀ {gs : List (Option Value)}, (∀ (j : Nat) (g : Option Value), gs[j]? = some g → ∃ (c : Nat) (t : Tok), P c ∧ g = some (Value.str (S [c]) t)) → ∃ cs : List Nat, cs.length = gs.length ∧ (∀ c ∈ cs, P c) ∧ StrsAre (gs.filterMap id) ((cs.map fun c => [c]).map S)
  | [], _ => ⟨[], rfl, by simp, .nil⟩
  | g :: gs, k => by
    obtain ⟨c, t, hp, e⟩ := k 0 g rfl
    subst e
    obtain ⟨cs, e1, e3, e2⟩ := gs_textsP (gs := gs) fun j g hj => k (j + 1) g (by simpa using hj)
    exact ⟨c :: cs, by simp [e1], by simpa using ⟨hp, e3⟩, .cons _ t e2⟩
section
variable {prog : Program} {w : World} {A : Around} {E : Value → Shared → Prop} {s : Shared} {h₀ : Heap} {L l : Addr} {m : Str → Option Value} {news : List (Addr × Obj)} {value slice : PySem.Expr} {vs : List Value} {ns : List Int} {vk : Value} {ops : List Value} {Q : Value → Shared → Prop} {k : Int}
theorem step_ints (F : Fr h₀ L s.heap m) (N : News h₀ L s.heap news) (hl : s.heap.IsList l vs.toArray) (pk : IsPart vk (some k)) (hk : 0 < k) (hi : IntsAre vs ns)
    (h : ∀ D ws ns' h', Fr h₀ L h' m → News h₀ L h' ((D, W.listOf (List.toArray ws) 0) :: news) → (∀ p ∈ news, p.1 < D) → IntsAre ws ns' → ns'.length ≤ ns.length → Q (.ref D) { s with heap := h' })
    (hs : subscripted slice false (.ref l) (.ref s.heap.objs.size) = operate ops (getItem (.ref l) (.ref s.heap.objs.size))) (ht : ∀ r, letTemporaryGo value (.ref l) r = pure ()) (hz : vs.toArray.size ≤ sizeLine) :
    wpAny (model prog w) A (subscriptTail value slice (.ref l) (.ref s.heap.objs.size)) Q E { s with heap := s.heap.push { cls := .type "slice", data := .fields #[.none, .none, vk] } } := by
  obtain ⟨ns', hn⟩ := ints_of (ws := (slicePick vs.toArray none none (some k)).toList) fun v hv => ints_mem hi v (step_mem hv)
  have hlen := step_len (vs := vs) hk
  refine slice_list3 F N hl .none .none pk (by simp; omega) (fun h' F' N' => h _ _ ns' h' F' N' (fun p hp => Nat.lt_succ_of_lt (Heap.lt_size (N p hp).1)) hn ?_) hs ht hz
  rw [← hn.length, ← hi.length]; simpa using hlen
end
theorem strs_mem : ∀ {vs : List Value} {ys : List Str}, StrsAre vs ys → ∀ v ∈ vs, ∃ y ∈ ys, ∃ t, v = .str y t
  | _, _, .nil, v, h => by cases h
  | _, _, .cons y t r, v, h => by
    rcases List.mem_cons.mp h with rfl | h
    · exact ⟨y, .head _, t, rfl⟩
    · obtain ⟨y', hy, t', e⟩ := strs_mem r v h
      exact ⟨y', .tail _ hy, t', e⟩
section
variable {prog : Program} {w : World} {A : Around} {E : Value → Shared → Prop} {s : Shared} {h₀ : Heap} {L D : Addr} {m : Str → Option Value} {all : List (Addr × Obj)} {n : Nat}
theorem item_any {value slice : Expr} {vs : List Value} {k : Int} {u : Tok} {Q : Value → Shared → Prop} (N : News h₀ L s.heap all) (hm : (D, W.listOf vs.toArray n) ∈ all) (h0 : 0 ≤ k) (h1 : k < vs.length) (hfit : k < 2 ^ 62) (h : ∀ v ∈ vs, Q v s)
    (hs : subscripted slice false (.ref D) (.int k u) = operate [.ref D, .int k u] (getItem (.ref D) (.int k u)) := by with_unfolding_all rfl) :
    wpAny (model prog w) A (subscriptTail value slice (.ref D) (.int k u)) Q E s := by
  have hlt : k.toNat < vs.length := by omega
  exact item_U N hm h0 hfit (v := vs[k.toNat]) (by simp [hlt]) (h _ (List.getElem_mem hlt)) hs
theorem add_U {D' : Addr} {xs ys : List Value} {n' : Nat} {Q : Value → Shared → Prop} (F : Fr h₀ L s.heap m) (N : News h₀ L s.heap all)
    (h1 : (D, W.listOf xs.toArray n) ∈ all) (h2 : (D', W.listOf ys.toArray n') ∈ all) (hsz : xs.length + ys.length ≤ 1000000)
    (h : ∀ R h', Fr h₀ L h' m → News h₀ L h' ((R, W.listOf (xs ++ ys).toArray 0) :: all) → (∀ p ∈ all, p.1 < R) → Q (.ref R) { s with heap := h' }) :
    wpAny (model prog w) A (binaryOp .Add (.ref D) (.ref D')) Q E s := by
  refine P.add_list (N _ h1).1 (N _ h2).1 ?_ (by simp [PySem.sizeLine_eq]; omega)
  have up : ∀ b o, s.heap.get? b = some o → (s.heap.push { cls := .type "list", data := .seq (xs.toArray ++ ys.toArray) }).get? b = some o := fun _ _ e => Heap.get?_push_of_some _ e
  refine h _ _ (F.keeps up) ?_ fun p hp => Heap.lt_size (N p hp).1
  intro p hp
  rcases List.mem_cons.mp hp with rfl | hp
  · refine ⟨?_, ?_, next_is_new F⟩
    · have := Heap.get?_push_size s.heap (o := { cls := .type "list", data := .seq (xs.toArray ++ ys.toArray) }) rfl
      simpa [W.listOf] using this
    · exact Ne.symm (Nat.ne_of_lt F.ns.lt)
  · exact N.grown up p hp
end
/-- what stands behind the law's head -/
def Mid12 (s₁ : Shared) (tx sep ext alt : List Nat) (f : Flow) (s' : Shared) : Prop :=
  f = .next ∧ ∃ h tk m, s' = { s₁ with heap := h, toks := tk } ∧ Fr s₁.heap s₁.heap.objs.size h m ∧
    ((∃ t1 t2 t3 av, AltV av alt ∧ m (Str.ofString "text") = some (.str (S tx) t1) ∧ m (Str.ofString "sep") = some (.str (S sep) t2) ∧ m (Str.ofString "extsep") = some (.str (S ext) t3) ∧ m (Str.ofString "altsep") = some av) ∨
     (∃ t1 t2 t3 av, AltO av alt ∧ m (Str.ofString "text") = some (.bytes (O tx) t1) ∧ m (Str.ofString "sep") = some (.bytes (O sep) t2) ∧ m (Str.ofString "extsep") = some (.bytes (O ext) t3) ∧ m (Str.ofString "altsep") = some av))
end Mine
end

section
open PySem PySem.W PyProof.Rows
set_option linter.unusedVariables false
namespace Mine
local macro_rules | `(tactic| size_fits) => `(tactic| ((simp only [PySem.Str.length_append, S_len, PySem.sizeLine_eq, List.length_append, List.length_cons, List.length_nil]); omega))
local macro_rules | `(tactic| walk_at "stop") => `(tactic| first
  | (with_reducible show wpAny _ _ (exec (Stmt.For _ _ _ _ _) _) _ _ _)
  | (with_reducible show wpAny _ _ (exec (Stmt.While _ _ _ _) _) _ _ _)
  | (with_reducible show wpAny _ _ (exec (Stmt.Assign _ (Expr.ListComp _ _ _ _) _) _) _ _ _)
  | (with_reducible show wpAny _ _ (eval (Expr.ListComp _ _ _ _) _) _ _ _)
  | (with_reducible show wpAny _ _ (pyIter _) _ _ _)
  | (with_reducible show CTurn _ _ _ _ _ _ _ _ _ _ _ _ _ _ _)
  | (with_reducible show CEnd _ _ _ _ _ _ _ _)
  | (with_reducible show GEnd _ _ _ _ _ _ _)
  | (with_reducible show ite _ _ _)
  | (with_reducible show wpAny _ _ (call (Value.builtin "str.join") _) _ _ _)
  | (with_reducible show wpAny _ _ (call (Value.ref _) _) _ _ _)
  | (with_reducible show wpAny _ _ (subscriptTail _ _ (Value.ref _) (Value.int _ _)) _ _ _)
  | (with_reducible show wpAny _ _ (compareOp _ (Value.ref _) (Value.ref _)) _ _ _)
  | (with_reducible show LeaveK _ _ _ _ _ _ _))
local macro_rules | `(tactic| walk_at "ws") => `(tactic| repeat' (first | (k_unfold; (try dsimp only)) | ((fail_if_success (walk_at "stop")); walk1) | ((fail_if_success (walk_at "stop")); dsimp only; walk1) | (leave1; walk_say "STEP leave1"; try dsimp only)))
local macro_rules | `(tactic| walk_at "GPost") => `(tactic| (dsimp only [GPost]))
def JS12 (D : Addr) (oD : Obj) (tv sv ev av : Value) (i : Nat) (m : Str → Option Value) (nx : List (Addr × Obj)) : Prop :=
  nx = [(D, oD)] ∧ m (Str.ofString "text") = some tv ∧ m (Str.ofString "sep") = some sv ∧ m (Str.ofString "extsep") = some ev ∧ m (Str.ofString "altsep") = some av ∧ m (Str.ofString "seps") = some (.ref D)
theorem loopS_ok {w : World} {mean : ExcName → Option Value} {mg mb : Str → Option Value} (s₁ : Shared) (fa : Addr) (cA : Value) (K0 : Below callerA s₁.heap [] s₁.heap) (T : Top hd12.view_39 (looseW hd12.view_39 []) mean mg mb s₁.heap) (KX : (hd12.heap_39 w.params).In s₁.heap)
    {tx sep ext alt : List Nat} {av : Value} {t1 t2 t3 : Tok} {m : Str → Option Value} {h : Heap} {tk : Nat} {D : Addr} {vs : List Value}
    (hav : AltV av alt) (htx : tx.length ≤ 100) (hs0 : sep ≠ []) (he0 : ext ≠ []) (hs2 : sep.length ≤ 2) (he2 : ext.length ≤ 2) (ha2 : alt.length ≤ 2) (hvs : StrsAre vs ((seps12 sep alt).map S))
    (F : Fr s₁.heap s₁.heap.objs.size h m) (N : News s₁.heap s₁.heap.objs.size h [(D, W.listOf vs.toArray 0)])
    (hm1 : m (Str.ofString "text") = some (.str (S tx) t1)) (hm2 : m (Str.ofString "sep") = some (.str (S sep) t2)) (hm3 : m (Str.ofString "extsep") = some (.str (S ext) t3)) (hm4 : m (Str.ofString "altsep") = some av) (hm5 : m (Str.ofString "seps") = some (.ref D)) :
    wpAny (model PySem.Challenge.rw_dm0122_12.row.prog w) (callerA.deeper (env12 s₁.heap.objs.size fa cA)) (execs loop12 (env12 s₁.heap.objs.size fa cA))
      (LawEnd s₁) (fun _ _ => False) { s₁ with heap := h, toks := tk } := by
  revert KX; k_fill; intro KX
  unfold env12
  conv in (loop12) => whnf
  simp only [show scope12 = defScope PySem.Challenge.pw_dm0122_12 5 from rfl]
  conv in (occs := *) (defScope PySem.Challenge.pw_dm0122_12 5) => all_goals whnf
  have F9 := fr_show [(Str.ofString "text", .str (S tx) t1), (Str.ofString "sep", .str (S sep) t2), (Str.ofString "extsep", .str (S ext) t3), (Str.ofString "altsep", av), (Str.ofString "seps", .ref D)] F (by simp [hm1, hm2, hm3, hm4, hm5])
  clear F
  have hSt : (S tx).length ≤ 100 := by rw [S_len]; exact htx
  have hSs : (S sep).length ≤ 2 := by rw [S_len]; exact hs2
  have hSe : (S ext).length ≤ 2 := by rw [S_len]; exact he2
  have hwl : ∀ y ∈ seps12 sep alt, y.length ≤ 2 := by
    intro y hy
    unfold seps12 at hy
    split at hy
    · rw [List.mem_singleton.mp hy]; exact hs2
    · have : y = sep ∨ y = alt := by simpa using hy
      rcases this with rfl | rfl
      · exact hs2
      · exact ha2
  walk_at "ws"
  refine For_invVF F9 rfl rfl ?_
  walk_at "ws"
  rename Fr s₁.heap s₁.heap.objs.size _ _ => F7
  rename News s₁.heap s₁.heap.objs.size _ _ => N7
  rename IsRange _ _ _ _ _ _ _ _ => R7
  rw [S_len] at R7
  refine forRange (n := tx.length + 1) 0 (tx.length + 1) (JS12 D (W.listOf vs.toArray 0) (.str (S tx) t1) (.str (S sep) t2) (.str (S ext) t3) av) rfl R7 ?hsm ?hnn F7 N7 ?hj ?_ ?_
  case hsm => exact small_one (by decide) (by decide) (by omega) (by omega)
  case hnn => rw [rangeSize_nat]; omega
  case hj => exact ⟨rfl, rfl, rfl, rfl, rfl, rfl⟩
  · rintro i t m₁ nx h tk own I hi ⟨rfl, e1, e2, e3, e4, e5⟩ ⟨oI, hIo⟩ hof hnI F8 N8
    have F9 := fr_turn [(Str.ofString "text", .str (S tx) t1), (Str.ofString "sep", .str (S sep) t2), (Str.ofString "extsep", .str (S ext) t3), (Str.ofString "altsep", av), (Str.ofString "seps", .ref D)] F8 (by simp [e1, e2, e3, e4, e5])
    simp only [Int.zero_add] at F9
    obtain ⟨all, hall⟩ : ∃ all, all = own ++ [(D, W.listOf vs.toArray 0)] := ⟨_, rfl⟩
    rw [← hall] at N8
    have hDm : (D, W.listOf vs.toArray 0) ∈ all := by rw [hall]; simp
    have hso : Sub own all := by rw [hall]; exact fun p hp => List.mem_append_left _ hp
    clear F8 F7 N7
    walk_at "ws"
    rename Fr s₁.heap s₁.heap.objs.size _ _ => F10
    rename News s₁.heap s₁.heap.objs.size _ _ => N10
    have hsl : Txt.slice (S tx) none (some (i : Int)) = S (tx.take i) := by rw [slice_to tx (by omega)]; simp
    rw [hsl] at F10 ⊢
    obtain ⟨p, hp⟩ : ∃ p, p = tx.take i := ⟨_, rfl⟩
    rw [← hp] at F10 ⊢
    have hpl : p.length ≤ 100 := by rw [hp, List.length_take]; omega
    k_dflt (refine cut12 _ _ _ _ _ _ _ _ _ _ _ _ _ _ _ _ _ _ p sep alt ext D 0 vs _ _ hDm hvs (by omega) hwl he2 K0 F10 KX N10 T rfl ?hdp ?hun ?_)
    case hdp => ktr_room
    case hun => ktr_units
    rintro cut tc h11 tk11 ⟨seen, hinv⟩ F11 N11
    have hspl := cut_end hs0 he0 hinv
    have hSp : (S p).length ≤ 100 := by rw [S_len]; exact hpl
    clear F10 N10
    dsimp only
    cases cut with
    | none =>
      dsimp only [cutV]
      have hspl : spl p sep alt ext = (p, []) := hspl
      walk_at "ws"
      rw [if_pos rfl]
      walk_at "ws"
      rename Fr s₁.heap s₁.heap.objs.size _ _ => F12
      rename News s₁.heap s₁.heap.objs.size _ _ => N12
      rw [slice_to p (Int.le_refl 0)] at N12
      k_dflt (refine splitext_str _ _ _ _ _ _ _ _ _ _ _ _ _ _ _ _ _ _ p sep ext alt av _ _ _ hav (by omega) (by omega) K0 F12 KX N12 T rfl ?hdp ?hun ?_)
      case hdp => ktr_room
      case hun => ktr_units
      rw [hspl]
      intro rT u1 u2 h13 tk13 F13 N13 hlt13
      dsimp only
      walk_at "ws"
      refine ne_tup2 N13 (.head _) (.tail _ (.head _)) ?_ ?_
      · have := cLine_is
        simp only [units_in1, units_deeper, Around.mark_units, units_caller]; omega
      rw [decide_eq_true (show p = p ∧ [] = List.take (0 : Int).toNat p from ⟨rfl, by simp⟩)]
      walk_at "ws"
      rw [if_neg (by decide)]
      walk_at "ws"
      exact GEnd.intro [(D, W.listOf vs.toArray 0)] F13 N13 (fun p hp => .tail _ (.tail _ (hso p hp))) (fun p hp => by rw [List.mem_singleton.mp hp]; exact .tail _ (.tail _ hDm)) hnI ⟨rfl, rfl, rfl, rfl, rfl, rfl⟩
    | some c =>
      have hc : c ≤ 100 := by
        obtain ⟨lo, _, _, _, _, a1, a2, _⟩ := hinv
        omega
      dsimp only [cutV]
      have hspl : spl p sep alt ext = (p.take c, p.drop c) := hspl
      have hc1 : Txt.slice (S p) none (some (c : Int)) = S (p.take c) := by rw [slice_to p (by omega)]; simp
      have hc2 : Txt.slice (S p) (some (c : Int)) none = S (p.drop c) := by rw [slice_from p (by omega)]; simp
      walk_at "ws"
      rw [if_neg (by decide)]
      walk_at "ws"
      rename Fr s₁.heap s₁.heap.objs.size _ _ => F12
      rename News s₁.heap s₁.heap.objs.size _ _ => N12
      rw [hc1, hc2] at N12
      k_dflt (refine splitext_str _ _ _ _ _ _ _ _ _ _ _ _ _ _ _ _ _ _ p sep ext alt av _ _ _ hav (by omega) (by omega) K0 F12 KX N12 T rfl ?hdp ?hun ?_)
      case hdp => ktr_room
      case hun => ktr_units
      rw [hspl]
      intro rT u1 u2 h13 tk13 F13 N13 hlt13
      dsimp only
      walk_at "ws"
      refine ne_tup2 N13 (.head _) (.tail _ (.head _)) ?_ ?_
      · have := cLine_is
        simp only [units_in1, units_deeper, Around.mark_units, units_caller]; omega
      rw [decide_eq_true (show p.take c = p.take c ∧ p.drop c = p.drop c from ⟨rfl, rfl⟩)]
      walk_at "ws"
      rw [if_neg (by decide)]
      walk_at "ws"
      exact GEnd.intro [(D, W.listOf vs.toArray 0)] F13 N13 (fun p hp => .tail _ (.tail _ (hso p hp))) (fun p hp => by rw [List.mem_singleton.mp hp]; exact .tail _ (.tail _ hDm)) hnI ⟨rfl, rfl, rfl, rfl, rfl, rfl⟩
  · rintro m₁ nx h tk ⟨rfl, e1, e2, e3, e4, e5⟩ F8 N8
    walk_at "ws"
    exact LawEnd.intro F8
end Mine
end

section
open PySem PySem.W PyProof.Rows
set_option linter.unusedVariables false
namespace Mine
local macro_rules | `(tactic| size_fits) => `(tactic| ((simp only [PySem.Str.length_append, S_len, PySem.sizeLine_eq, List.length_append, List.length_cons, List.length_nil]); omega))
local macro_rules | `(tactic| walk_at "stop") => `(tactic| first
  | (with_reducible show wpAny _ _ (exec (Stmt.For _ _ _ _ _) _) _ _ _)
  | (with_reducible show wpAny _ _ (exec (Stmt.While _ _ _ _) _) _ _ _)
  | (with_reducible show wpAny _ _ (exec (Stmt.Assign _ (Expr.ListComp _ _ _ _) _) _) _ _ _)
  | (with_reducible show wpAny _ _ (eval (Expr.ListComp _ _ _ _) _) _ _ _)
  | (with_reducible show wpAny _ _ (pyIter _) _ _ _)
  | (with_reducible show CTurn _ _ _ _ _ _ _ _ _ _ _ _ _ _ _)
  | (with_reducible show CEnd _ _ _ _ _ _ _ _)
  | (with_reducible show GEnd _ _ _ _ _ _ _)
  | (with_reducible show ite _ _ _)
  | (with_reducible show wpAny _ _ (call (Value.builtin "str.join") _) _ _ _)
  | (with_reducible show wpAny _ _ (call (Value.ref _) _) _ _ _)
  | (with_reducible show wpAny _ _ (subscriptTail _ _ (Value.ref _) (Value.int _ _)) _ _ _)
  | (with_reducible show wpAny _ _ (compareOp _ (Value.ref _) (Value.ref _)) _ _ _)
  | (with_reducible show LeaveK _ _ _ _ _ _ _))
local macro_rules | `(tactic| walk_at "ws") => `(tactic| repeat' (first | (k_unfold; (try dsimp only)) | ((fail_if_success (walk_at "stop")); walk1) | ((fail_if_success (walk_at "stop")); dsimp only; walk1) | (leave1; walk_say "STEP leave1"; try dsimp only)))
local macro_rules | `(tactic| walk_at "GPost") => `(tactic| (dsimp only [GPost]))
local macro_rules | `(tactic| walk_at "call builtin:len") => `(tactic| (k_here; (refine len_O (by omega) ?_); intro _ _))
local macro_rules | `(tactic| walk_at "subscriptTail") => `(tactic| (k_here; (with_reducible show wpAny _ _ (subscriptTail _ (Expr.Slice _ _ none _) (Value.bytes _ _) (Value.ref _)) _ _ _); (with_reducible rename Fr _ _ _ _ => F'); (with_reducible rename News _ _ _ _ => N'); (refine slice_O (s := ⟨_, _, _, _, _⟩) F' N' (by assumption) (by constructor) (by constructor) (by omega) ?_ (by with_unfolding_all rfl) (by intro _; with_unfolding_all rfl)); intro _ _ _ _ _))
theorem loopO_ok {w : World} {mean : ExcName → Option Value} {mg mb : Str → Option Value} (s₁ : Shared) (fa : Addr) (cA : Value) (K0 : Below callerA s₁.heap [] s₁.heap) (T : Top hd12.view_39 (looseW hd12.view_39 []) mean mg mb s₁.heap) (KX : (hd12.heap_39 w.params).In s₁.heap)
    {tx sep ext alt : List Nat} {av : Value} {t1 t2 t3 : Tok} {m : Str → Option Value} {h : Heap} {tk : Nat} {D : Addr} {vs : List Value}
    (hav : AltO av alt) (htx : tx.length ≤ 100) (hs0 : sep ≠ []) (he0 : ext ≠ []) (hs2 : sep.length ≤ 2) (he2 : ext.length ≤ 2) (ha2 : alt.length ≤ 2) (hvs : OctsAre vs (seps12 sep alt)) (hst : Small tx) (hss : Small sep) (hse : Small ext) (hsa : Small alt)
    (F : Fr s₁.heap s₁.heap.objs.size h m) (N : News s₁.heap s₁.heap.objs.size h [(D, W.listOf vs.toArray 0)])
    (hm1 : m (Str.ofString "text") = some (.bytes (O tx) t1)) (hm2 : m (Str.ofString "sep") = some (.bytes (O sep) t2)) (hm3 : m (Str.ofString "extsep") = some (.bytes (O ext) t3)) (hm4 : m (Str.ofString "altsep") = some av) (hm5 : m (Str.ofString "seps") = some (.ref D)) :
    wpAny (model PySem.Challenge.rw_dm0122_12.row.prog w) (callerA.deeper (env12 s₁.heap.objs.size fa cA)) (execs loop12 (env12 s₁.heap.objs.size fa cA))
      (LawEnd s₁) (fun _ _ => False) { s₁ with heap := h, toks := tk } := by
  revert KX; k_fill; intro KX
  unfold env12
  conv in (loop12) => whnf
  simp only [show scope12 = defScope PySem.Challenge.pw_dm0122_12 5 from rfl]
  conv in (occs := *) (defScope PySem.Challenge.pw_dm0122_12 5) => all_goals whnf
  have F9 := fr_show [(Str.ofString "text", .bytes (O tx) t1), (Str.ofString "sep", .bytes (O sep) t2), (Str.ofString "extsep", .bytes (O ext) t3), (Str.ofString "altsep", av), (Str.ofString "seps", .ref D)] F (by simp [hm1, hm2, hm3, hm4, hm5])
  clear F
  have hwl : ∀ y ∈ seps12 sep alt, y.length ≤ 2 := by
    intro y hy
    unfold seps12 at hy
    split at hy
    · rw [List.mem_singleton.mp hy]; exact hs2
    · have : y = sep ∨ y = alt := by simpa using hy
      rcases this with rfl | rfl
      · exact hs2
      · exact ha2
  have hsy : ∀ y ∈ seps12 sep alt, Small y := by
    intro y hy
    unfold seps12 at hy
    split at hy
    · rw [List.mem_singleton.mp hy]; exact hss
    · have : y = sep ∨ y = alt := by simpa using hy
      rcases this with rfl | rfl
      · exact hss
      · exact hsa
  walk_at "ws"
  refine For_invVF F9 rfl rfl ?_
  walk_at "ws"
  rename Fr s₁.heap s₁.heap.objs.size _ _ => F7
  rename News s₁.heap s₁.heap.objs.size _ _ => N7
  rename IsRange _ _ _ _ _ _ _ _ => R7
  refine forRange (n := tx.length + 1) 0 (tx.length + 1) (JS12 D (W.listOf vs.toArray 0) (.bytes (O tx) t1) (.bytes (O sep) t2) (.bytes (O ext) t3) av) rfl R7 ?hsm ?hnn F7 N7 ?hj ?_ ?_
  case hsm => exact small_one (by decide) (by decide) (by omega) (by omega)
  case hnn => rw [rangeSize_nat]; omega
  case hj => exact ⟨rfl, rfl, rfl, rfl, rfl, rfl⟩
  · rintro i t m₁ nx h tk own I hi ⟨rfl, e1, e2, e3, e4, e5⟩ ⟨oI, hIo⟩ hof hnI F8 N8
    have F9 := fr_turn [(Str.ofString "text", .bytes (O tx) t1), (Str.ofString "sep", .bytes (O sep) t2), (Str.ofString "extsep", .bytes (O ext) t3), (Str.ofString "altsep", av), (Str.ofString "seps", .ref D)] F8 (by simp [e1, e2, e3, e4, e5])
    simp only [Int.zero_add] at F9
    obtain ⟨all, hall⟩ : ∃ all, all = own ++ [(D, W.listOf vs.toArray 0)] := ⟨_, rfl⟩
    rw [← hall] at N8
    have hDm : (D, W.listOf vs.toArray 0) ∈ all := by rw [hall]; simp
    have hso : Sub own all := by rw [hall]; exact fun p hp => List.mem_append_left _ hp
    clear F8 F7 N7
    walk_at "ws"
    rename Fr s₁.heap s₁.heap.objs.size _ _ => F10
    rename News s₁.heap s₁.heap.objs.size _ _ => N10
    have hsl := cut_to tx (b := (i : Int)) (by omega)
    rw [hsl] at F10 ⊢
    rw [Int.toNat_natCast] at F10 ⊢
    obtain ⟨p, hp⟩ : ∃ p, p = tx.take i := ⟨_, rfl⟩
    rw [← hp] at F10 ⊢
    have hsp : Small p := by rw [hp]; exact hst.take _
    have hpl : p.length ≤ 100 := by rw [hp, List.length_take]; omega
    k_dflt (refine cutO12 _ _ _ _ _ _ _ _ _ _ _ _ _ _ _ _ _ _ p sep alt ext D 0 vs _ _ hDm hvs hsp hse hsy (by omega) hwl he2 K0 F10 KX N10 T rfl ?hdp ?hun ?_)
    case hdp => ktr_room
    case hun => ktr_units
    rintro cut tc h11 tk11 ⟨seen, hinv⟩ F11 N11
    have hspl := cut_end hs0 he0 hinv
    clear F10 N10
    dsimp only
    cases cut with
    | none =>
      dsimp only [cutV]
      have hspl : spl p sep alt ext = (p, []) := hspl
      walk_at "ws"
      rw [if_pos rfl]
      walk_at "ws"
      rename Fr s₁.heap s₁.heap.objs.size _ _ => F12
      rename News s₁.heap s₁.heap.objs.size _ _ => N12
      rw [cut_to p (Int.le_refl 0)] at N12
      k_dflt (refine splitext_oct _ _ _ _ _ _ _ _ _ _ _ _ _ _ _ _ _ _ p sep ext alt av _ _ _ hav hsp hss hse hsa (by omega) (by omega) K0 F12 KX N12 T rfl ?hdp ?hun ?_)
      case hdp => ktr_room
      case hun => ktr_units
      rw [hspl]
      intro rT u1 u2 h13 tk13 F13 N13 hlt13
      dsimp only
      walk_at "ws"
      refine ne_tupO ?hz1 ?hz2 ?hz3 ?hz4 N13 (.head _) (.tail _ (.head _)) ?_ ?_
      case hz1 => first | exact hsp | exact hsp.take _
      case hz2 => first | exact hsp.drop _ | exact (fun c hc => by simp at hc)
      case hz3 => first | exact hsp | exact hsp.take _
      case hz4 => first | exact hsp.take _ | exact hsp.drop _
      · have := cLine_is
        simp only [units_in1, units_deeper, Around.mark_units, units_caller]; omega
      rw [decide_eq_true (show p = p ∧ [] = List.take (0 : Int).toNat p from ⟨rfl, by simp⟩)]
      walk_at "ws"
      rw [if_neg (by decide)]
      walk_at "ws"
      exact GEnd.intro [(D, W.listOf vs.toArray 0)] F13 N13 (fun p hp => .tail _ (.tail _ (hso p hp))) (fun p hp => by rw [List.mem_singleton.mp hp]; exact .tail _ (.tail _ hDm)) hnI ⟨rfl, rfl, rfl, rfl, rfl, rfl⟩
    | some c =>
      have hc : c ≤ 100 := by
        obtain ⟨lo, _, _, _, _, a1, a2, _⟩ := hinv
        omega
      dsimp only [cutV]
      have hspl : spl p sep alt ext = (p.take c, p.drop c) := hspl
      have hc1 := cut_to p (b := (c : Int)) (by omega)
      have hc2 := cut_from p (a := (c : Int)) (by omega)
      rw [Int.toNat_natCast] at hc1 hc2
      walk_at "ws"
      rw [if_neg (by decide)]
      walk_at "ws"
      rename Fr s₁.heap s₁.heap.objs.size _ _ => F12
      rename News s₁.heap s₁.heap.objs.size _ _ => N12
      rw [hc1, hc2] at N12
      k_dflt (refine splitext_oct _ _ _ _ _ _ _ _ _ _ _ _ _ _ _ _ _ _ p sep ext alt av _ _ _ hav hsp hss hse hsa (by omega) (by omega) K0 F12 KX N12 T rfl ?hdp ?hun ?_)
      case hdp => ktr_room
      case hun => ktr_units
      rw [hspl]
      intro rT u1 u2 h13 tk13 F13 N13 hlt13
      dsimp only
      walk_at "ws"
      refine ne_tupO ?hz1 ?hz2 ?hz3 ?hz4 N13 (.head _) (.tail _ (.head _)) ?_ ?_
      case hz1 => first | exact hsp | exact hsp.take _
      case hz2 => first | exact hsp.drop _ | exact (fun c hc => by simp at hc)
      case hz3 => first | exact hsp | exact hsp.take _
      case hz4 => first | exact hsp.take _ | exact hsp.drop _
      · have := cLine_is
        simp only [units_in1, units_deeper, Around.mark_units, units_caller]; omega
      rw [decide_eq_true (show p.take c = p.take c ∧ p.drop c = p.drop c from ⟨rfl, rfl⟩)]
      walk_at "ws"
      rw [if_neg (by decide)]
      walk_at "ws"
      exact GEnd.intro [(D, W.listOf vs.toArray 0)] F13 N13 (fun p hp => .tail _ (.tail _ (hso p hp))) (fun p hp => by rw [List.mem_singleton.mp hp]; exact .tail _ (.tail _ hDm)) hnI ⟨rfl, rfl, rfl, rfl, rfl, rfl⟩
  · rintro m₁ nx h tk ⟨rfl, e1, e2, e3, e4, e5⟩ F8 N8
    walk_at "ws"
    exact LawEnd.intro F8
end Mine
end

section
open PySem PySem.W PyProof.Rows
set_option linter.unusedVariables false
namespace Mine
local macro_rules | `(tactic| size_fits) => `(tactic| ((simp only [PySem.Str.length_append, S_len, PySem.sizeLine_eq, List.length_append, List.length_cons, List.length_nil]); omega))
local macro_rules | `(tactic| walk_at "stop") => `(tactic| first
  | (with_reducible show wpAny _ _ (exec (Stmt.For _ _ _ _ _) _) _ _ _)
  | (with_reducible show wpAny _ _ (exec (Stmt.While _ _ _ _) _) _ _ _)
  | (with_reducible show wpAny _ _ (exec (Stmt.Assign _ (Expr.ListComp _ _ _ _) _) _) _ _ _)
  | (with_reducible show wpAny _ _ (eval (Expr.ListComp _ _ _ _) _) _ _ _)
  | (with_reducible show wpAny _ _ (pyIter _) _ _ _)
  | (with_reducible show CTurn _ _ _ _ _ _ _ _ _ _ _ _ _ _ _)
  | (with_reducible show CEnd _ _ _ _ _ _ _ _)
  | (with_reducible show GEnd _ _ _ _ _ _ _)
  | (with_reducible show wpAny _ _ (execs (Stmt.For _ _ _ _ _ :: _) _) _ _ _)
  | (with_reducible show wpAny _ _ (call (Value.builtin "str.join") _) _ _ _)
  | (with_reducible show wpAny _ _ (call (Value.ref _) _) _ _ _)
  | (with_reducible show wpAny _ _ (subscriptTail _ _ (Value.ref _) (Value.int _ _)) _ _ _)
  | (with_reducible show wpAny _ _ (compareOp _ (Value.ref _) (Value.ref _)) _ _ _)
  | (with_reducible show LeaveK _ _ _ _ _ _ _))
local macro_rules | `(tactic| walk_at "ws") => `(tactic| repeat' (first | (k_unfold; (try dsimp only)) | ((fail_if_success (walk_at "stop")); walk1) | ((fail_if_success (walk_at "stop")); dsimp only; walk1) | (leave1; walk_say "STEP leave1"; try dsimp only)))
local macro_rules | `(tactic| walk_at "GPost") => `(tactic| (dsimp only [GPost]))
theorem tailS_ok {w : World} {mean : ExcName → Option Value} {mg mb : Str → Option Value} (s₁ : Shared) (fa : Addr) (cA : Value) (K0 : Below callerA s₁.heap [] s₁.heap) (T : Top hd12.view_39 (looseW hd12.view_39 []) mean mg mb s₁.heap) (KX : (hd12.heap_39 w.params).In s₁.heap)
    {tx sep ext alt : List Nat} {av : Value} {t1 t2 t3 : Tok} {m : Str → Option Value} {h : Heap} {tk : Nat}
    (hav : AltV av alt) (htx : tx.length ≤ 100) (hs0 : sep ≠ []) (he0 : ext ≠ []) (hs2 : sep.length ≤ 2) (he2 : ext.length ≤ 2) (ha2 : alt.length ≤ 2)
    (F : Fr s₁.heap s₁.heap.objs.size h m)
    (hm1 : m (Str.ofString "text") = some (.str (S tx) t1)) (hm2 : m (Str.ofString "sep") = some (.str (S sep) t2)) (hm3 : m (Str.ofString "extsep") = some (.str (S ext) t3)) (hm4 : m (Str.ofString "altsep") = some av) :
    wpAny (model PySem.Challenge.rw_dm0122_12.row.prog w) (callerA.deeper (env12 s₁.heap.objs.size fa cA)) (execs tail12 (env12 s₁.heap.objs.size fa cA))
      (LawEnd s₁) (fun _ _ => False) { s₁ with heap := h, toks := tk } := by
  have N : News s₁.heap s₁.heap.objs.size h [] := fun p hp => by cases hp
  revert KX; k_fill; intro KX
  unfold env12
  conv in (tail12) => whnf
  simp only [show scope12 = defScope PySem.Challenge.pw_dm0122_12 5 from rfl]
  conv in (occs := *) (defScope PySem.Challenge.pw_dm0122_12 5) => all_goals whnf
  have F9 := fr_show [(Str.ofString "text", .str (S tx) t1), (Str.ofString "sep", .str (S sep) t2), (Str.ofString "extsep", .str (S ext) t3), (Str.ofString "altsep", av)] F (by simp [hm1, hm2, hm3, hm4])
  clear F
  rcases hav with ⟨rfl, rfl⟩ | ⟨ta, rfl⟩
  · have hsep : seps12 sep [] = [sep] := by simp [seps12]
    walk_at "ws"
    rename Fr s₁.heap s₁.heap.objs.size _ _ => F5
    rename News s₁.heap s₁.heap.objs.size _ _ => N5
    exact loopS_ok s₁ fa cA K0 T KX (.inl ⟨rfl, rfl⟩) htx hs0 he0 hs2 he2 ha2 (vs := [.str (S sep) t2]) (by rw [hsep]; exact .cons _ _ .nil) F5 N5 rfl rfl rfl rfl rfl

  · have hSa : (S alt).length ≤ 2 := by rw [S_len]; exact ha2
    by_cases ha0 : alt = []
    · have hsep : seps12 sep alt = [sep] := by simp [seps12, ha0]
      walk_at "ws"
      · skip
        rename Fr s₁.heap s₁.heap.objs.size _ _ => F5
        rename News s₁.heap s₁.heap.objs.size _ _ => N5
        exact loopS_ok s₁ fa cA K0 T KX (.inr ⟨ta, rfl⟩) htx hs0 he0 hs2 he2 ha2 (vs := [.str (S sep) t2]) (by rw [hsep]; exact .cons _ _ .nil) F5 N5 rfl rfl rfl rfl rfl

      · rename _ ≠ _ => hl0
        rw [ha0] at hl0; exact absurd rfl hl0
    · have hsep : seps12 sep alt = [sep, alt] := by simp [seps12, ha0]
      walk_at "ws"
      · rename _ = (0 : Int) => hl0
        rw [S_len] at hl0; exact absurd (List.eq_nil_of_length_eq_zero (by omega)) ha0
      · skip
        rename Fr s₁.heap s₁.heap.objs.size _ _ => F5
        rename News s₁.heap s₁.heap.objs.size _ _ => N5
        exact loopS_ok s₁ fa cA K0 T KX (.inr ⟨ta, rfl⟩) htx hs0 he0 hs2 he2 ha2 (vs := [.str (S sep) t2, .str (S alt) ta]) (by rw [hsep]; exact .cons _ _ (.cons _ _ .nil)) F5 N5 rfl rfl rfl rfl rfl

end Mine
end

section
open PySem PySem.W PyProof.Rows
set_option linter.unusedVariables false
namespace Mine
local macro_rules | `(tactic| size_fits) => `(tactic| ((simp only [PySem.Str.length_append, S_len, PySem.sizeLine_eq, List.length_append, List.length_cons, List.length_nil]); omega))
local macro_rules | `(tactic| walk_at "stop") => `(tactic| first
  | (with_reducible show wpAny _ _ (exec (Stmt.For _ _ _ _ _) _) _ _ _)
  | (with_reducible show wpAny _ _ (exec (Stmt.While _ _ _ _) _) _ _ _)
  | (with_reducible show wpAny _ _ (exec (Stmt.Assign _ (Expr.ListComp _ _ _ _) _) _) _ _ _)
  | (with_reducible show wpAny _ _ (eval (Expr.ListComp _ _ _ _) _) _ _ _)
  | (with_reducible show wpAny _ _ (pyIter _) _ _ _)
  | (with_reducible show CTurn _ _ _ _ _ _ _ _ _ _ _ _ _ _ _)
  | (with_reducible show CEnd _ _ _ _ _ _ _ _)
  | (with_reducible show GEnd _ _ _ _ _ _ _)
  | (with_reducible show wpAny _ _ (execs (Stmt.For _ _ _ _ _ :: _) _) _ _ _)
  | (with_reducible show wpAny _ _ (call (Value.builtin "str.join") _) _ _ _)
  | (with_reducible show wpAny _ _ (call (Value.ref _) _) _ _ _)
  | (with_reducible show wpAny _ _ (subscriptTail _ _ (Value.ref _) (Value.int _ _)) _ _ _)
  | (with_reducible show wpAny _ _ (compareOp _ (Value.ref _) (Value.ref _)) _ _ _)
  | (with_reducible show LeaveK _ _ _ _ _ _ _))
local macro_rules | `(tactic| walk_at "ws") => `(tactic| repeat' (first | (k_unfold; (try dsimp only)) | ((fail_if_success (walk_at "stop")); walk1) | ((fail_if_success (walk_at "stop")); dsimp only; walk1) | (leave1; walk_say "STEP leave1"; try dsimp only)))
local macro_rules | `(tactic| walk_at "GPost") => `(tactic| (dsimp only [GPost]))
local macro_rules | `(tactic| walk_at "call builtin:len") => `(tactic| (k_here; (refine len_O (by omega) ?_); intro _ _))
theorem oct1 {a : List Nat} {t : Tok} : OctsAre [.bytes (O a) t] [a] := ⟨rfl, fun j y h => by
  cases j with
  | zero => simp at h; subst h; exact ⟨t, rfl⟩
  | succ j => simp at h⟩
theorem oct2 {a b : List Nat} {t u : Tok} : OctsAre [.bytes (O a) t, .bytes (O b) u] [a, b] := ⟨rfl, fun j y h => by
  cases j with
  | zero => simp at h; subst h; exact ⟨t, rfl⟩
  | succ j => cases j with
    | zero => simp at h; subst h; exact ⟨u, rfl⟩
    | succ j => simp at h⟩
theorem tailO_ok {w : World} {mean : ExcName → Option Value} {mg mb : Str → Option Value} (s₁ : Shared) (fa : Addr) (cA : Value) (K0 : Below callerA s₁.heap [] s₁.heap) (T : Top hd12.view_39 (looseW hd12.view_39 []) mean mg mb s₁.heap) (KX : (hd12.heap_39 w.params).In s₁.heap)
    {tx sep ext alt : List Nat} {av : Value} {t1 t2 t3 : Tok} {m : Str → Option Value} {h : Heap} {tk : Nat}
    (hav : AltO av alt) (htx : tx.length ≤ 100) (hs0 : sep ≠ []) (he0 : ext ≠ []) (hs2 : sep.length ≤ 2) (he2 : ext.length ≤ 2) (ha2 : alt.length ≤ 2) (hst : Small tx) (hss : Small sep) (hse : Small ext) (hsa : Small alt)
    (F : Fr s₁.heap s₁.heap.objs.size h m)
    (hm1 : m (Str.ofString "text") = some (.bytes (O tx) t1)) (hm2 : m (Str.ofString "sep") = some (.bytes (O sep) t2)) (hm3 : m (Str.ofString "extsep") = some (.bytes (O ext) t3)) (hm4 : m (Str.ofString "altsep") = some av) :
    wpAny (model PySem.Challenge.rw_dm0122_12.row.prog w) (callerA.deeper (env12 s₁.heap.objs.size fa cA)) (execs tail12 (env12 s₁.heap.objs.size fa cA))
      (LawEnd s₁) (fun _ _ => False) { s₁ with heap := h, toks := tk } := by
  have N : News s₁.heap s₁.heap.objs.size h [] := fun p hp => by cases hp
  revert KX; k_fill; intro KX
  unfold env12
  conv in (tail12) => whnf
  simp only [show scope12 = defScope PySem.Challenge.pw_dm0122_12 5 from rfl]
  conv in (occs := *) (defScope PySem.Challenge.pw_dm0122_12 5) => all_goals whnf
  have F9 := fr_show [(Str.ofString "text", .bytes (O tx) t1), (Str.ofString "sep", .bytes (O sep) t2), (Str.ofString "extsep", .bytes (O ext) t3), (Str.ofString "altsep", av)] F (by simp [hm1, hm2, hm3, hm4])
  clear F
  rcases hav with ⟨rfl, rfl⟩ | ⟨ta, rfl⟩
  · have hsep : seps12 sep [] = [sep] := by simp [seps12]
    walk_at "ws"
    rename Fr s₁.heap s₁.heap.objs.size _ _ => F5
    rename News s₁.heap s₁.heap.objs.size _ _ => N5
    exact loopO_ok s₁ fa cA K0 T KX (.inl ⟨rfl, rfl⟩) htx hs0 he0 hs2 he2 ha2 (vs := [.bytes (O sep) t2]) (by rw [hsep]; exact oct1) hst hss hse hsa F5 N5 rfl rfl rfl rfl rfl

  · skip
    by_cases ha0 : alt = []
    · have hsep : seps12 sep alt = [sep] := by simp [seps12, ha0]
      walk_at "ws"
      · skip
        rename Fr s₁.heap s₁.heap.objs.size _ _ => F5
        rename News s₁.heap s₁.heap.objs.size _ _ => N5
        exact loopO_ok s₁ fa cA K0 T KX (.inr ⟨ta, rfl⟩) htx hs0 he0 hs2 he2 ha2 (vs := [.bytes (O sep) t2]) (by rw [hsep]; exact oct1) hst hss hse hsa F5 N5 rfl rfl rfl rfl rfl

      · rename _ ≠ _ => hl0
        rw [ha0] at hl0; exact absurd rfl hl0
    · have hsep : seps12 sep alt = [sep, alt] := by simp [seps12, ha0]
      walk_at "ws"
      · rename _ = (0 : Int) => hl0
        exact absurd (List.eq_nil_of_length_eq_zero (by omega)) ha0
      · skip
        rename Fr s₁.heap s₁.heap.objs.size _ _ => F5
        rename News s₁.heap s₁.heap.objs.size _ _ => N5
        exact loopO_ok s₁ fa cA K0 T KX (.inr ⟨ta, rfl⟩) htx hs0 he0 hs2 he2 ha2 (vs := [.bytes (O sep) t2, .bytes (O alt) ta]) (by rw [hsep]; exact oct2) hst hss hse hsa F5 N5 rfl rfl rfl rfl rfl

end Mine
end

section
open PySem PySem.W PyProof.Rows
set_option linter.unusedVariables false
namespace Mine
local macro_rules | `(tactic| size_fits) => `(tactic| ((simp only [PySem.Str.length_append, S_len, PySem.sizeLine_eq, List.length_append, List.length_cons, List.length_nil]); omega))
local macro_rules | `(tactic| walk_at "stop") => `(tactic| first
  | (with_reducible show wpAny _ _ (exec (Stmt.For _ _ _ _ _) _) _ _ _)
  | (with_reducible show wpAny _ _ (exec (Stmt.While _ _ _ _) _) _ _ _)
  | (with_reducible show wpAny _ _ (exec (Stmt.Assign _ (Expr.ListComp _ _ _ _) _) _) _ _ _)
  | (with_reducible show wpAny _ _ (eval (Expr.ListComp _ _ _ _) _) _ _ _)
  | (with_reducible show wpAny _ _ (pyIter _) _ _ _)
  | (with_reducible show CTurn _ _ _ _ _ _ _ _ _ _ _ _ _ _ _)
  | (with_reducible show CEnd _ _ _ _ _ _ _ _)
  | (with_reducible show GEnd _ _ _ _ _ _ _)
  | (with_reducible show ite _ _ _)
  | (with_reducible show wpAny _ _ (call (Value.builtin "str.join") _) _ _ _)
  | (with_reducible show wpAny _ _ (call (Value.ref _) _) _ _ _)
  | (with_reducible show wpAny _ _ (subscriptTail _ _ (Value.ref _) (Value.int _ _)) _ _ _)
  | (with_reducible show wpAny _ _ (compareOp _ (Value.ref _) (Value.ref _)) _ _ _)
  | (with_reducible show wpAny _ _ (subscriptTail _ (Expr.Slice _ _ (some _) _) (Value.ref _) (Value.ref _)) _ _ _)
  | (with_reducible show wpAny _ _ (binaryOp Operator.Add (Value.ref _) _) _ _ _)
  | (with_reducible show LeaveK _ _ _ _ _ _ _))
local macro_rules | `(tactic| walk_at "ws") => `(tactic| repeat' (first | (k_unfold; (try dsimp only)) | ((fail_if_success (walk_at "stop")); walk1) | ((fail_if_success (walk_at "stop")); dsimp only; walk1) | (leave1; walk_say "STEP leave1"; try dsimp only)))
theorem step_intsF {prog : Program} {w : World} {A : Around} {E : Value → Shared → Prop} {s : Shared} {h₀ : Heap} {L l : Addr} {m : Str → Option Value} {news : List (Addr × Obj)} {value slice : PySem.Expr} {vs : List Value} {ns : List Int} {vk : Value} {Q : Value → Shared → Prop} {k : Int} (F : Fr h₀ L s.heap m) (N : News h₀ L s.heap news) (hl : s.heap.IsList l vs.toArray) (pk : IsPart vk (some k)) (hk : 0 < k) (hi : IntsAre vs ns)
    (h : ∀ D ws ns' h', Fr h₀ L h' m → News h₀ L h' ((D, W.listOf (List.toArray ws) 0) :: news) → (∀ p ∈ news, p.1 < D) → IntsAre ws ns' → ns'.length ≤ ns.length → Q (.ref D) { s with heap := h' })
    (hs : subscripted slice false (.ref l) (.ref s.heap.objs.size) = operate [.ref l, .ref s.heap.objs.size] (getItem (.ref l) (.ref s.heap.objs.size))) (ht : ∀ r, letTemporaryGo value (.ref l) r = pure ()) (hz : vs.toArray.size ≤ sizeLine) :
    wpAny (model prog w) A (subscriptTail value slice (.ref l) (.ref s.heap.objs.size)) Q E { s with heap := s.heap.push { cls := .type "slice", data := .fields #[.none, .none, vk] } } :=
  step_ints F N hl pk hk hi h hs ht hz
def wordsL : List (List Nat) := [[47], [46], [97], [47, 47], [47, 46], [47, 97], [46, 47], [46, 46], [46, 97], [97, 47], [97, 46], [97, 97]]
theorem words_S : [Str.ofString "/", Str.ofString ".", Str.ofString "a", Str.ofString "//", Str.ofString "/.", Str.ofString "/a", Str.ofString "./", Str.ofString "..", Str.ofString ".a", Str.ofString "a/", Str.ofString "a.", Str.ofString "aa"] = wordsL.map S := by decide +kernel
theorem words_of {h₀ h : Heap} {L lw : Addr} {a b c : Addr × Obj} {t0 t1 t2 t3 t4 t5 t6 t7 t8 t9 t10 t11 : Tok} (N : News h₀ L h [a, b, c, (lw, W.listOf [.str (Str.ofString "/") t0, .str (Str.ofString ".") t1, .str (Str.ofString "a") t2, .str (Str.ofString "//") t3, .str (Str.ofString "/.") t4, .str (Str.ofString "/a") t5, .str (Str.ofString "./") t6, .str (Str.ofString "..") t7, .str (Str.ofString ".a") t8, .str (Str.ofString "a/") t9, .str (Str.ofString "a.") t10, .str (Str.ofString "aa") t11].toArray 0)]) : ∃ wv, StrsAre wv (wordsL.map S) ∧ News h₀ L h [a, (lw, W.listOf wv.toArray 0)] :=
  ⟨[.str (Str.ofString "/") t0, .str (Str.ofString ".") t1, .str (Str.ofString "a") t2, .str (Str.ofString "//") t3, .str (Str.ofString "/.") t4, .str (Str.ofString "/a") t5, .str (Str.ofString "./") t6, .str (Str.ofString "..") t7, .str (Str.ofString ".a") t8, .str (Str.ofString "a/") t9, .str (Str.ofString "a.") t10, .str (Str.ofString "aa") t11], by rw [← words_S]; exact .cons _ _ (.cons _ _ (.cons _ _ (.cons _ _ (.cons _ _ (.cons _ _ (.cons _ _ (.cons _ _ (.cons _ _ (.cons _ _ (.cons _ _ (.cons _ _ (.nil)))))))))))), fun p hp => by
    rcases List.mem_cons.mp hp with rfl | hp
    · exact N _ (.head _)
    · rw [List.mem_singleton.mp hp]; exact N _ (.tail _ (.tail _ (.tail _ (.head _))))⟩
theorem wordsL_ok : ∀ y ∈ wordsL, y ≠ [] ∧ y.length ≤ 2 ∧ Small y := by
  have : ∀ y ∈ wordsL, y ≠ [] ∧ y.length ≤ 2 ∧ ∀ c ∈ y, c < 256 := by decide
  exact this
theorem word_of {wv : List Value} (hw : StrsAre wv (wordsL.map S)) {v : Value} (hv : v ∈ wv) : ∃ y t, v = .str (S y) t ∧ y ≠ [] ∧ y.length ≤ 2 ∧ Small y := by
  obtain ⟨y, hy, t, rfl⟩ := strs_mem hw v hv
  obtain ⟨z, hz, rfl⟩ := List.mem_map.mp hy
  exact ⟨z, t, rfl, wordsL_ok z hz⟩
theorem cfin_assignR {prog : Program} {w : World} {A : Around} {E : Value → Shared → Prop} {s : Shared} {env : Env} {h₀ : Heap} {L : Addr} {m : Str → Option Value} {y : Str} {py : Pos} {n : Nat} {G : Nat → Option Value → Prop} {news : List (Addr × Obj)} {R : Shared → Prop} (hL : env.locals = L) (hy : env.kindOf y = some .local) (hp : (env.scope.kind == .class || (env.scope.kind == .module && env.locals != env.globals)) = false)
    (fin : ∀ D h tk (gs : List (Option Value)), Fr h₀ L h (fun z => if z = y then some (.ref D) else m z) → News h₀ L h ((D, LCg.lst (gs.filterMap id)) :: news) → (∀ p ∈ news, p.1 < D) → gs.length = n → (∀ j g, gs[j]? = some g → G j g) → R { s with heap := h, toks := tk }) :
    CFin h₀ L m s n G news (fun acc C => compPost (model prog w) A E (some (assign (.Name y py) env)) (fun _ s' => R s') acc C) := by
  subst hL
  exact cfin_assign (Q := fun _ s' => R s') hy hp fin
theorem law12 : PySem.Challenge.rw_dm0122_12.Holds := hd12 (by
  k_go0
  rename_i w s₀ s₁ mg mb G Y fa o pm doc kV ho hg KX XX V GL T B TE TW bmA bmO M cA cB hcd ns hs hlay0 hL1 hr1 hl2 as1 as2 la vs as3 hL ra w1 r0 hI hr hc1 hc2 K0 hD h1 F N0
  refine wpAny_mono (E := fun _ _ => False) (Q := LawEnd s₁) ?h1 ?h2 ?h3
  case h3 => exact fun _ _ e => False.elim e
  case h2 =>
    rintro f s' ⟨h', tk', m', rfl, rfl, F'⟩
    wrow_close
  have hlen : ns.length ≤ 63 := by omega
  have K0 : Below callerA s₁.heap [] s₁.heap := K0
  clear G Y XX V GL B TE TW M hcd hs hlay0 hL1 hr1 hl2 ra w1 r0 hr hc1 hc2 hD ho hg
  walk_at "ws"
  rename Addr => lw
  refine ListComp_E (cl := []) rfl rfl (by decide) ?_
  walk_at "ws"
  rename Fr s₁.heap s₁.heap.objs.size _ _ => F1
  rename News s₁.heap s₁.heap.objs.size _ _ => N1
  rename IntsAre _ (List.take 12 ns) => hI2
  refine csrc_ints (fun i g => ∃ (c : Nat) (t : Tok), c < 256 ∧ g = some (Value.str (S [c]) t)) rfl (by decide) rfl rfl F1 N1 (.head _) hI2 (by rw [List.length_take, PySem.sizeLine_eq]; omega) ?_ (cfin_expr ?_)
  · intro i k hk I oI C oC D oD m₃ h tk E' ⟨t, hm3⟩ hC F2 N2 hoff
    refine wpAny_tests_nil ?_
    rw [if_pos rfl]
    walk_at "ws"
    rename Fr s₁.heap s₁.heap.objs.size _ _ => F2
    rename News s₁.heap s₁.heap.objs.size _ _ => N2
    refine CEnd.intro F2 N2 (fun _ h => h) ⟨_, _, ?_, rfl⟩
    have hz0 := Int.fmod_nonneg_of_pos k (show (0:Int) < 3 by decide)
    have hz3 := Int.fmod_lt_of_pos k (show (0:Int) < 3 by decide)
    have h3 : k.fmod 3 = 0 ∨ k.fmod 3 = 1 ∨ k.fmod 3 = 2 := by omega
    rcases h3 with h3 | h3 | h3 <;> rw [h3] <;> decide +kernel
  · intro D h tk gs Fd Nd hlt hgl hG
    dsimp only
    walk_at "ws"
    obtain ⟨cs, hcs, hcp, hst⟩ := gs_textsP (P := fun c => c < 256) hG
    have hcl : cs.length ≤ 12 := by rw [hcs, hgl, List.length_take]; omega
    rw [show Str.ofString "" = S [] from by decide +kernel]
    refine join_L Nd (.head _) hst (by decide) ?_ ?_
    · have := jn_sum [] (cs.map fun c => [c])
      rw [jn_nil, flat_ones] at this
      rw [List.length_map]; omega
    intro t' k'
    dsimp only
    rw [jn_nil, flat_ones]
    rw [show Str.ofString "a.a" = S [97, 46, 97] from by decide +kernel]
    walk_at "ws"
    rename Fr s₁.heap s₁.heap.objs.size _ _ => F3
    rename News s₁.heap s₁.heap.objs.size _ _ => N3
    rw [S_app] at F3
    refine ListComp_A (cl := []) rfl rfl rfl (by decide) ?_
    walk_at "ws"
    refine csrc_base (Bd := fun j m₃ => ∃ k t, m₃ (Str.ofString "x") = some (.int k t)) (G := fun j g => ∃ (k : Int) (t : Tok), g = some (.int k t)) rfl (by decide) rfl F3 N3 hL (by rw [hI.length, PySem.sizeLine_eq]; omega) ?_ ?_ ?_ (cfin_assignR rfl rfl rfl ?_)
    · intro I i v s' Q E' hv hit hq
      exact wpAny_pure hq
    · intro j v C h tk m' E' hv h1 h2 h3 h4 h5 h6
      refine wpAny_mono (bind_name (P := fun j v => vs[j]? = some v) rfl rfl j v C h tk m' E' hv h1 h2 h3 h4 h5 h6) ?_ fun _ _ e => e
      rintro _ s₃ ⟨h₃, tk₃, m₃, e, hn₃, hk₃, v', hv', hm⟩
      obtain ⟨k, t, rfl⟩ := ints_mem hI v' (List.mem_of_getElem? hv')
      exact ⟨h₃, tk₃, m₃, e, hn₃, hk₃, k, t, hm⟩
    · intro j hj
      unfold CTurn
      rintro I2 oI2 C oC D2 oD2 m₃ h2 tk2 E' ⟨k, ty, hm3⟩ hC F4 N4 hoff
      refine wpAny_tests_nil ?_
      rw [if_pos rfl]
      walk_at "ws"
      exact CEnd.intro F4 N4 (fun _ h => h) ⟨_, _, rfl⟩
    · intro D5 h5 tk5 gs5 F5 N5 hlt5 hgl5 hG5
      obtain ⟨ns5, hI5⟩ : ∃ ns5, IntsAre (gs5.filterMap id) ns5 := ints_of fun v hv => by
        obtain ⟨g, hg, e⟩ := List.mem_filterMap.mp hv
        obtain ⟨j, hj⟩ := List.mem_iff_getElem?.mp hg
        obtain ⟨k, t, rfl⟩ := hG5 j g hj
        cases e; exact ⟨k, t, rfl⟩
      have hl5 : (gs5.filterMap id).length ≤ 63 := by
        have := List.length_filterMap_le id gs5
        rw [hgl5, hI.length] at this; omega
      generalize gs5.filterMap id = ws5 at N5 hI5 hl5
      obtain ⟨wv, hwv, N6⟩ := words_of N5
      have hwl : wv.length = 12 := by have := hwv.length; simpa [wordsL] using this
      have hl5' : ns5.length ≤ 63 := by rw [← hI5.length]; exact hl5
      obtain ⟨tx, htx⟩ : ∃ tx, tx = [97, 46, 97] ++ cs := ⟨_, rfl⟩
      rw [← htx] at F5
      have hst : Small tx := by
        intro c hc
        rw [htx] at hc
        rcases List.mem_append.mp hc with hc | hc
        · have : ∀ c ∈ [97, 46, 97], c < 256 := by decide
          exact this c hc
        · exact hcp c hc
      have htl : tx.length ≤ 100 := by rw [htx, List.length_append]; simp; omega
      clear N5 hG5 hgl5 hlt5
      dsimp only
      walk_at "ws"
      rename News s₁.heap s₁.heap.objs.size _ _ => N6
      refine item_any N6 (.tail _ (.head _)) (Int.fmod_nonneg_of_pos _ (by decide)) ?hb1 ?hb2 ?_
      case hb1 => have := Int.fmod_lt_of_pos ns5.sum (show (0:Int) < 12 by decide); omega
      case hb2 => have := Int.fmod_lt_of_pos ns5.sum (show (0:Int) < 12 by decide); omega
      intro v hv
      obtain ⟨sep, tsep, rfl, hs0, hs2, hss⟩ := word_of hwv hv
      dsimp only
      walk_at "ws"
      rename Fr s₁.heap s₁.heap.objs.size _ _ => F7
      rename News s₁.heap s₁.heap.objs.size _ _ => N7
      k_dflt (refine step_intsF (k := 2) F7 N7 ⟨_, (N7 _ (.head _)).1, rfl, _, rfl⟩ (.int _ _) (by decide) hI5 ?_ ?sls ?slt ?slz)
      case sls => with_unfolding_all rfl
      case slt => kmk_pure
      case slz => (rw [List.size_toArray, PySem.sizeLine_eq]; omega)
      intro D8 ws8 ns8 h8 F8 N8 hlt8 hI8 hn8
      dsimp only
      walk_at "ws"
      rename News s₁.heap s₁.heap.objs.size _ _ => N9
      refine item_any N9 (.tail _ (.tail _ (.head _))) (Int.fmod_nonneg_of_pos _ (by decide)) ?hb1 ?hb2 ?_
      case hb1 => have := Int.fmod_lt_of_pos (1 + ns8.sum) (show (0:Int) < 12 by decide); omega
      case hb2 => have := Int.fmod_lt_of_pos (1 + ns8.sum) (show (0:Int) < 12 by decide); omega
      intro v hv
      obtain ⟨ext, text, rfl, he0, he2, hse⟩ := word_of hwv hv
      dsimp only
      walk_at "ws"
      rename Fr s₁.heap s₁.heap.objs.size _ _ => F10
      rename News s₁.heap s₁.heap.objs.size _ _ => N10
      refine add_U F10 N10 (.head _) (.tail _ (.tail _ (.tail _ (.head _)))) (by rw [hwl]; simp) ?_
      intro R11 h11 F11 N11 hlt11
      dsimp only
      walk_at "ws"
      rename Fr s₁.heap s₁.heap.objs.size _ _ => F12
      rename News s₁.heap s₁.heap.objs.size _ _ => N12
      k_dflt (refine step_intsF (k := 3) F12 N12 ⟨_, (N12 _ (.tail _ (.tail _ (.tail _ (.head _))))).1, rfl, _, rfl⟩ (.int _ _) (by decide) hI5 ?_ ?sls ?slt ?slz)
      case sls => with_unfolding_all rfl
      case slt => kmk_pure
      case slz => (rw [List.size_toArray, PySem.sizeLine_eq]; omega)
      intro D13 ws13 ns13 h13 F13 N13 hlt13 hI13 hn13
      dsimp only
      walk_at "ws"
      rename News s₁.heap s₁.heap.objs.size _ _ => N14
      refine item_any N14 (.tail _ (.head _)) (Int.fmod_nonneg_of_pos _ (by decide)) ?hb1 ?hb2 ?_
      case hb1 => (have := Int.fmod_lt_of_pos ns13.sum (show (0:Int) < 14 by decide); rw [List.length_append, hwl]; simp; omega)
      case hb2 => have := Int.fmod_lt_of_pos ns13.sum (show (0:Int) < 14 by decide); omega
      intro av hv
      obtain ⟨alt, hav, ha2, hsa⟩ : ∃ alt, AltV av alt ∧ alt.length ≤ 2 ∧ Small alt := by
        rcases List.mem_append.mp hv with hv | hv
        · rcases List.mem_cons.mp hv with rfl | hv
          · exact ⟨[], .inl ⟨rfl, rfl⟩, by decide, fun c hc => by cases hc⟩
          · rw [List.mem_singleton.mp hv]
            exact ⟨[], .inr ⟨_, rfl⟩, by decide, fun c hc => by cases hc⟩
        · obtain ⟨alt, ta, rfl, _, ha2, hsa⟩ := word_of hwv hv
          exact ⟨alt, .inr ⟨ta, rfl⟩, ha2, hsa⟩
      dsimp only
      walk_at "ws"
      refine ite_join (Q' := Mid12 s₁ tx sep ext alt) ?_ ?_ ?_
      · intro _
        walk_at "ws"
        rename Fr s₁.heap s₁.heap.objs.size _ _ => Fa21
        rename News s₁.heap s₁.heap.objs.size _ _ => Na21
        k_dflt (refine octets12 _ _ _ _ _ _ _ _ _ _ _ _ _ _ _ _ _ _ tx _ hst (by omega) K0 Fa21 KX Na21 T rfl ?hdp ?hun ?_)
        case hdp => ktr_room
        case hun => ktr_units
        intro ta21 h21 tk21 Fb21 Nb21
        dsimp only
        walk_at "ws"
        rename Fr s₁.heap s₁.heap.objs.size _ _ => Fa22
        rename News s₁.heap s₁.heap.objs.size _ _ => Na22
        k_dflt (refine octets12 _ _ _ _ _ _ _ _ _ _ _ _ _ _ _ _ _ _ sep _ hss (by omega) K0 Fa22 KX Na22 T rfl ?hdp ?hun ?_)
        case hdp => ktr_room
        case hun => ktr_units
        intro ta22 h22 tk22 Fb22 Nb22
        dsimp only
        walk_at "ws"
        rename Fr s₁.heap s₁.heap.objs.size _ _ => Fa23
        rename News s₁.heap s₁.heap.objs.size _ _ => Na23
        k_dflt (refine octets12 _ _ _ _ _ _ _ _ _ _ _ _ _ _ _ _ _ _ ext _ hse (by omega) K0 Fa23 KX Na23 T rfl ?hdp ?hun ?_)
        case hdp => ktr_room
        case hun => ktr_units
        intro ta23 h23 tk23 Fb23 Nb23
        dsimp only
        walk_at "ws"
        rcases hav with ⟨rfl, rfl⟩ | ⟨ta, rfl⟩
        · walk_at "ws"
          rw [if_pos rfl]
          walk_at "ws"
          rename Fr s₁.heap s₁.heap.objs.size _ _ => F15
          exact ⟨rfl, _, _, _, rfl, F15, .inr ⟨_, _, _, _, .inl ⟨rfl, rfl⟩, rfl, rfl, rfl, rfl⟩⟩
        · walk_at "ws"
          rw [if_neg (by decide)]
          walk_at "ws"
          rename Fr s₁.heap s₁.heap.objs.size _ _ => Fa24
          rename News s₁.heap s₁.heap.objs.size _ _ => Na24
          k_dflt (refine octets12 _ _ _ _ _ _ _ _ _ _ _ _ _ _ _ _ _ _ alt _ hsa (by omega) K0 Fa24 KX Na24 T rfl ?hdp ?hun ?_)
          case hdp => ktr_room
          case hun => ktr_units
          intro ta24 h24 tk24 Fb24 Nb24
          dsimp only
          walk_at "ws"
          rename Fr s₁.heap s₁.heap.objs.size _ _ => F15
          exact ⟨rfl, _, _, _, rfl, F15, .inr ⟨_, _, _, _, .inr ⟨_, rfl⟩, rfl, rfl, rfl, rfl⟩⟩
      · intro _
        walk_at "ws"
        rename Fr s₁.heap s₁.heap.objs.size _ _ => F15
        exact ⟨rfl, _, _, _, rfl, F15, .inl ⟨_, _, _, _, hav, rfl, rfl, rfl, rfl⟩⟩
      · rintro f s' ⟨rfl, h20, tk20, m20, rfl, F20, ⟨t1, t2, t3, av, hav, e1, e2, e3, e4⟩ | ⟨t1, t2, t3, av, hav, e1, e2, e3, e4⟩⟩
        · exact tailS_ok s₁ fa _ K0 T KX hav htl hs0 he0 hs2 he2 ha2 F20 e1 e2 e3 e4
        · exact tailO_ok s₁ fa _ K0 T KX hav htl hs0 he0 hs2 he2 ha2 hst hss hse hsa F20 e1 e2 e3 e4)
end Mine
end

theorem PySem.Challenge.cw_dm0122_12_holds : PySem.Challenge.rw_dm0122_12.Holds := by
  exact Mine.law12
