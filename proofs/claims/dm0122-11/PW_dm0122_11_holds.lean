import PyProof.Rows.All
import Wide.All
import OpenK.AllK
import Wide.FinOn
import PySem.Challenge.RW_dm0122_11

set_option Elab.async false
set_option maxRecDepth 100000
set_option maxHeartbeats 4000000
set_option rowWalk.seconds 0
set_option linter.unusedVariables false

section
open PySem PySem.W PyProof.Rows
namespace Mine

/-- a text by its signs' numbers -/
def S (l : List Nat) : Str := ⟨l.toArray⟩
theorem S_inj {a b : List Nat} : S a = S b ↔ a = b := by
  constructor
  · intro h
    have h1 : (S a).cps = (S b).cps := by rw [h]
    have h2 : (S a).cps.toList = (S b).cps.toList := by rw [h1]
    simpa [S] using h2
  · rintro rfl; rfl
theorem S_eta (x : Str) : S x.cps.toList = x := by
  cases x; rfl
theorem S_len (l : List Nat) : (S l).length = l.length := by
  simp [S, Str.length]
theorem S_cps (l : List Nat) : (S l).cps.toList = l := by simp [S]
theorem S_app (a b : List Nat) : S a ++ S b = S (a ++ b) := by
  show Str.mk (a.toArray ++ b.toArray) = Str.mk (a ++ b).toArray
  simp

/-- y stands in p at i -/
def At (p y : List Nat) (i : Nat) : Prop := i + y.length ≤ p.length ∧ (p.drop i).take y.length = y
/-- the last place of y in p, or -1 -/
def rf (p y : List Nat) : Int := Txt.rfind (S p) (S y)
theorem at_iff (p y : List Nat) (i : Nat) : StrLaws.At (S p) (S y) (S p).length i ↔ At p y i := by
  unfold StrLaws.At At
  rw [StrLaws.subAt_eq, S_cps, S_cps, S_len, S_len, beq_iff_eq]
theorem rf_spec (p y : List Nat) : (rf p y = -1 ∧ ∀ i, ¬ At p y i) ∨ ∃ i : Nat, rf p y = (i : Int) ∧ At p y i ∧ ∀ k, i < k → ¬ At p y k := by
  have h := rfind_whole (S p) (S y)
  simp only [at_iff] at h
  exact h
theorem rf_ge (p y : List Nat) : -1 ≤ rf p y := by
  rcases rf_spec p y with ⟨h, _⟩ | ⟨i, h, _⟩ <;> omega
theorem rf_le (p y : List Nat) : rf p y + y.length ≤ p.length ∨ rf p y = -1 := by
  rcases rf_spec p y with ⟨h, _⟩ | ⟨i, h, h1, _⟩
  · exact .inr h
  · have := h1.1; omega

theorem rangeGet (l : List Nat) (a : Nat) : ∀ n, a + n ≤ l.length → (List.map (fun k : Nat => ((a : Int) + 1 * (k : Int)).toNat) (List.range n)).filterMap (fun i => l.toArray[i]?) = (l.drop a).take n := by
  intro n
  induction n with
  | zero => intro _; simp
  | succ n ih =>
    intro h
    rw [List.range_succ, List.map_append, List.filterMap_append, ih (by omega), List.take_add_one]
    congr 1
    have e : ((a : Int) + 1 * (n : Int)).toNat = a + n := by omega
    simp only [List.map_cons, List.map_nil, e]
    have h2 : a + n < l.length := by omega
    simp [h2]
theorem sliceGet (l : List Nat) (a b : Nat) (hb : b ≤ l.length) : ((sliceRange (a : Int) (b : Int) 1).filterMap (fun i => l.toArray[i]?)) = (l.take b).drop a := by
  unfold sliceRange
  dsimp only
  rw [if_pos (by decide)]
  by_cases h : (a : Int) < (b : Int)
  · rw [if_pos h]
    have e : (((b : Int) - (a : Int) + 1 - 1) / 1).toNat = b - a := by omega
    rw [e, rangeGet l a (b - a) (by omega), List.take_drop]
    congr 2
    omega
  · rw [if_neg h]
    have : (l.take b).drop a = [] := List.drop_eq_nil_of_le (by rw [List.length_take]; omega)
    rw [this]; simp
theorem sliceLen (a b : Nat) : (sliceRange (a : Int) (b : Int) 1).length = b - a := by
  unfold sliceRange
  dsimp only
  rw [if_pos (by decide), List.length_map, List.length_range]
  by_cases h : (a : Int) < (b : Int)
  · rw [if_pos h]; omega
  · rw [if_neg h]; omega
theorem slice_gen (l : List Nat) (lo hi : Option Int) (a b : Nat) (hb : b ≤ l.length) (e : Builtin.Str.strSliceIndices lo hi 1 l.length = sliceRange (a : Int) (b : Int) 1) : Txt.slice (S l) lo hi = S ((l.take b).drop a) := by
  unfold Txt.slice
  rw [S_len, e]
  split
  · rename_i h
    rw [sliceLen] at h
    have h' : b - a = l.length := by simpa using h
    have hb' : b = l.length := by omega
    by_cases ha : a = 0
    · subst ha; rw [hb']; simp
    · have : l.length = 0 := by omega
      have : l = [] := List.length_eq_zero_iff.mp this
      subst this; simp
  · show Str.mk ((List.filterMap (fun i => l.toArray[i]?) (sliceRange (a : Int) (b : Int) 1)).toArray) = _
    rw [sliceGet l a b hb]; rfl
theorem take_min {α : Type} (l : List α) (n : Nat) : l.take (min n l.length) = l.take n := by
  by_cases h : n ≤ l.length
  · rw [Nat.min_eq_left h]
  · rw [Nat.min_eq_right (by omega), List.take_length, List.take_of_length_le (by omega)]
theorem slice_to (l : List Nat) {d : Int} (h : 0 ≤ d) : Txt.slice (S l) none (some d) = S (l.take d.toNat) := by
  rw [slice_gen l none (some d) 0 (min d.toNat l.length) (Nat.min_le_right _ _)]
  · rw [List.drop_zero, take_min]
  · unfold Builtin.Str.strSliceIndices
    dsimp only
    rw [if_pos (show (1 : Int) > 0 by decide), if_pos (show (1 : Int) > 0 by decide), if_neg (by omega)]
    congr 1; omega
theorem slice_from (l : List Nat) {d : Int} (h : 0 ≤ d) : Txt.slice (S l) (some d) none = S (l.drop d.toNat) := by
  rw [slice_gen l (some d) none (min d.toNat l.length) l.length (Nat.le_refl _)]
  · congr 1
    rw [List.take_length]
    by_cases hd : d.toNat ≤ l.length
    · rw [Nat.min_eq_left hd]
    · rw [Nat.min_eq_right (by omega), List.drop_length, List.drop_eq_nil_of_le (by omega)]
  · unfold Builtin.Str.strSliceIndices
    dsimp only
    rw [if_pos (show (1 : Int) > 0 by decide), if_pos (show (1 : Int) > 0 by decide), if_neg (by omega)]
    congr 1; omega
theorem slice_mid (l : List Nat) {a b : Int} (h : 0 ≤ a) (h' : 0 ≤ b) : Txt.slice (S l) (some a) (some b) = S ((l.take b.toNat).drop a.toNat) := by
  rw [slice_gen l (some a) (some b) (min a.toNat l.length) (min b.toNat l.length) (Nat.min_le_right _ _)]
  · congr 1
    rw [take_min]
    by_cases hd : a.toNat ≤ l.length
    · rw [Nat.min_eq_left hd]
    · rw [Nat.min_eq_right (by omega), List.drop_eq_nil_of_le (by rw [List.length_take]; omega), List.drop_eq_nil_of_le (by rw [List.length_take]; omega)]
  · unfold Builtin.Str.strSliceIndices
    dsimp only
    rw [if_pos (show (1 : Int) > 0 by decide), if_pos (show (1 : Int) > 0 by decide), if_neg (by omega), if_neg (by omega)]
    congr 1 <;> omega
theorem fm_map {α β : Type} (f : α → Option β) (g : α → β) : ∀ l : List α, (∀ x ∈ l, f x = some (g x)) → l.filterMap f = l.map g
  | [], _ => rfl
  | a :: l, h => by
    rw [List.filterMap_cons, h a (.head _), List.map_cons, fm_map f g l fun x hx => h x (.tail _ hx)]
theorem rev_get (l : List Nat) : ∀ n, n ≤ l.length → ((List.range n).map (fun k : Nat => (((n : Int) - 1) + -1 * (k : Int)).toNat)).filterMap (fun i => l.toArray[i]?) = (l.take n).reverse := by
  intro n hn
  apply List.ext_getElem?
  intro i
  have h1 : ((List.range n).map (fun k : Nat => (((n : Int) - 1) + -1 * (k : Int)).toNat)).filterMap (fun i => l.toArray[i]?) = (List.range n).map (fun k : Nat => l.getD (n - 1 - k) 0) := by
    rw [List.filterMap_map]
    apply fm_map
    intro k hk
    have hk : k < n := List.mem_range.mp hk
    have e : (((n : Int) - 1) + -1 * (k : Int)).toNat = n - 1 - k := by omega
    simp only [Function.comp, e]
    have h2 : n - 1 - k < l.length := by omega
    simp [h2]
  rw [h1]
  by_cases hi : i < n
  · rw [List.getElem?_map, List.getElem?_range hi, List.getElem?_reverse (by rw [List.length_take]; omega)]
    have h2 : n - 1 - i < l.length := by omega
    have h3 : min n l.length - 1 - i = n - 1 - i := by omega
    rw [List.length_take, h3, List.getElem?_take_of_lt (by omega)]
    simp [h2]
  · rw [List.getElem?_eq_none (by simp; omega), List.getElem?_eq_none (by simp; omega)]
theorem sliceBy_rev (l : List Nat) (t : Tok) : Txt.sliceBy (S l) none none (-1, t) = S l.reverse := by
  unfold Txt.sliceBy
  rw [if_neg (by simp)]
  show Str.mk ((Builtin.Str.strSliceIndices none none (-1) (S l).length).filterMap (fun i => l.toArray[i]?)).toArray = _
  rw [S_len]
  have e : Builtin.Str.strSliceIndices none none (-1) l.length = (List.range l.length).map (fun k : Nat => (((l.length : Int) - 1) + -1 * (k : Int)).toNat) := by
    unfold Builtin.Str.strSliceIndices sliceRange
    dsimp only
    simp only [show ¬ ((-1 : Int) > 0) by decide, if_false]
    congr 2
    by_cases h : ((l.length : Int) - 1) > -1
    · rw [if_pos h, show (- -1 : Int) = 1 from rfl]; omega
    · rw [if_neg h]; omega
  rw [e, rev_get l l.length (Nat.le_refl _), List.take_length]
  rfl
end Mine
end

section
open PySem PySem.W PyProof.Rows
namespace Mine
/-- altsep: None or a text -/
def AltV (v : Value) (alt : List Nat) : Prop := (v = .none ∧ alt = []) ∨ ∃ t, v = .str (S alt) t

section
variable {prog : Program} {w : World} {M : Model} {A : Around} {E : Value → Shared → Prop} {s : Shared}
theorem truthy_alt {Q : Bool → Shared → Prop} {v : Value} {alt : List Nat} (h : AltV v alt) (hl : alt.length ≤ 1000000) (hq : ∀ k, Q (decide (alt ≠ [])) { s with toks := k }) : wpAny (model prog w) A (truthy v) Q E s := by
  rcases h with ⟨rfl, rfl⟩ | ⟨t, rfl⟩
  · exact wpAny_pure (hq s.toks)
  · refine KXt.truthy (b := decide (alt ≠ [])) ?_ (by rw [S_len]; omega) hq
    rw [S_len]
    cases alt <;> simp
    omega
theorem ite_join {α : Type} {c : Prop} [Decidable c] {t1 t2 : Sem α} {Q Q' : α → Shared → Prop} (h1 : c → wpAny M A t1 Q' E s) (h2 : ¬ c → wpAny M A t2 Q' E s) (h : ∀ f s', Q' f s' → Q f s') :
    if c then wpAny M A t1 Q E s else wpAny M A t2 Q E s := by
  split
  · exact wpAny_mono (h1 ‹_›) h fun _ _ e => e
  · exact wpAny_mono (h2 ‹_›) h fun _ _ e => e
end
/-- what a stretch of code leaves behind: the frame's names ps, the ledger -/
def Left (h₀ : Heap) (L : Addr) (s : Shared) (news : List (Addr × Obj)) (R : (Str → Option Value) → Prop) (s' : Shared) : Prop :=
  ∃ h tk m, s' = { s with heap := h, toks := tk } ∧ Fr h₀ L h m ∧ News h₀ L h news ∧ R m
theorem fr_show {h₀ h : Heap} {L : Addr} {m : Str → Option Value} (ps : List (Str × Value)) (F : Fr h₀ L h m) (hps : ∀ p ∈ ps, m p.1 = some p.2) : Fr h₀ L h (kstB m ps) := by
  have e : kstB m ps = m := funext fun z => kstB_eq hps fun _ => rfl
  rw [e]; exact F
theorem Left.intro {h₀ : Heap} {L : Addr} {s : Shared} {news : List (Addr × Obj)} {R : (Str → Option Value) → Prop} {h : Heap} {tk : Nat} {m : Str → Option Value} (F : Fr h₀ L h m) (N : News h₀ L h news) (r : R m) : Left h₀ L s news R { s with heap := h, toks := tk } := ⟨h, tk, m, rfl, F, N, r⟩
end Mine
end

section
open PySem PySem.W PyProof.Rows PySem.Calls
namespace Mine
/-- a part of a ledger -/
abbrev Sub (a b : List (Addr × Obj)) : Prop := ∀ p ∈ a, p ∈ b
theorem news_sub {h₀ h : Heap} {L : Addr} {a b : List (Addr × Obj)} (N : News h₀ L h b) (hs : Sub a b) : News h₀ L h a := fun p hp => N p (hs p hp)
/-- the ledger with the object at d changed -/
def upd (d : Addr) (o : Obj) (l : List (Addr × Obj)) : List (Addr × Obj) := l.map fun p => if p.1 = d then (d, o) else p
theorem upd_ok {h₀ h h' : Heap} {L d : Addr} {m : Str → Option Value} {all : List (Addr × Obj)} {o o' : Obj} (F : Fr h₀ L h m) (N : News h₀ L h all) (hm : (d, o) ∈ all) (hs : Heap.SameBut d h h') (hd : h'.get? d = some o') :
    Fr h₀ L h' m ∧ News h₀ L h' (upd d o' all) := ⟨F.change hs (N _ hm).2.1 (N _ hm).2.2, N.update hm hs hd⟩
theorem mem_upd_self {d : Addr} {o o' : Obj} {all : List (Addr × Obj)} (hm : (d, o) ∈ all) : (d, o') ∈ upd d o' all :=
  List.mem_map.mpr ⟨(d, o), hm, by simp⟩
theorem mem_upd_ne {d : Addr} {o' : Obj} {p : Addr × Obj} {all : List (Addr × Obj)} (hm : p ∈ all) (hne : p.1 ≠ d) : p ∈ upd d o' all :=
  List.mem_map.mpr ⟨p, hm, by simp [hne]⟩
theorem sub_upd {d : Addr} {o o' : Obj} {all led led' : List (Addr × Obj)} (hm : (d, o) ∈ all) (hs : Sub led all) (h : ∀ p ∈ led', p = (d, o') ∨ (p ∈ led ∧ p.1 ≠ d)) : Sub led' (upd d o' all) := by
  intro p hp
  rcases h p hp with rfl | ⟨h1, h2⟩
  · exact mem_upd_self hm
  · exact mem_upd_ne (hs p h1) h2

section texts
/-- a joined text -/
def jn (sep : List Nat) : List (List Nat) → List Nat
  | [] => []
  | [x] => x
  | x :: y :: r => x ++ sep ++ jn sep (y :: r)
theorem join_S (sep : List Nat) : ∀ ws : List (List Nat), Txt.join (S sep) (ws.map S) = S (jn sep ws) := by
  have h : ∀ ws : List (List Nat), Str.join (S sep) (ws.map S) = S (jn sep ws) := by
    intro ws
    induction ws with
    | nil => rfl
    | cons x r ih =>
      cases r with
      | nil => rfl
      | cons y r =>
        show S x ++ S sep ++ Str.join (S sep) ((y :: r).map S) = S (x ++ sep ++ jn sep (y :: r))
        rw [ih, S_app, S_app]
  intro ws
  rw [← h]
  exact StrLaws.glued_eq_join _ _

theorem jn_sum (sep : List Nat) : ∀ ws : List (List Nat), (ws.map List.length).sum ≤ (jn sep ws).length
  | [] => by simp [jn]
  | [x] => by simp [jn]
  | x :: y :: r => by
    have := jn_sum sep (y :: r)
    simp only [List.map_cons, List.sum_cons, jn, List.length_append] at *
    omega
theorem jn_count (c : Nat) : ∀ ws : List (List Nat), ws.length ≤ (jn [c] ws).length + 1
  | [] => by simp [jn]
  | [x] => by simp [jn]
  | x :: y :: r => by
    have := jn_count c (y :: r)
    simp only [jn, List.length_append, List.length_cons, List.length_nil] at *
    omega
theorem jn_nil : ∀ ws : List (List Nat), jn [] ws = ws.flatten
  | [] => rfl
  | [x] => by simp [jn]
  | x :: y :: r => by
    rw [jn, jn_nil (y :: r)]; simp
theorem lensS (ws : List (List Nat)) : ((ws.map S).map Str.length) = ws.map List.length := by
  rw [List.map_map]
  exact List.map_congr_left fun w _ => S_len w
theorem join_L {prog : Program} {w : World} {A : Around} {E : Value → Shared → Prop} {s : Shared} {h₀ : Heap} {L D : Addr} {all : List (Addr × Obj)} {vs : List Value} {ws : List (List Nat)} {n : Nat} {sep : List Nat} {t : Tok} {Q : Value → Shared → Prop} (N : News h₀ L s.heap all) (hm : (D, W.listOf vs.toArray n) ∈ all) (hv : StrsAre vs (ws.map S)) (hsep : sep.length ≤ 16) (hw : (ws.map List.length).sum + ws.length ≤ 1048576)
    (h : ∀ t' k, Q (.str (S (jn sep ws)) t') { s with toks := k }) : wpAny (model prog w) A (call (.builtin "str.join") [.str (S sep) t, .ref D]) Q E s := by
  refine join_listW (items := vs.toArray) (ys := ws.map S) ⟨_, (N _ hm).1, rfl, n, rfl⟩ (by simpa using hv) (by rw [S_len]; exact hsep) ?_ ?_
  · have e : ((ws.map S).map (·.length)) = ws.map List.length := lensS ws
    rw [e, List.length_map]; exact hw
  · intro t' k
    rw [join_S]; exact h t' k
theorem strs_get : ∀ {vs : List Value} {ys : List Str}, StrsAre vs ys → ∀ (i : Nat) (y : Str), ys[i]? = some y → ∃ t, vs[i]? = some (Value.str y t)
  | _, _, .nil, i, y, h => by simp at h
  | _, _, .cons z t r, 0, y, h => ⟨t, by simp at h; subst h; rfl⟩
  | _, _, .cons z t r, i + 1, y, h => by
    obtain ⟨t', e⟩ := strs_get r i y (by simpa using h)
    exact ⟨t', by simpa using e⟩
theorem strs_snoc : ∀ {vs : List Value} {ys : List Str} {y : Str}, StrsAre vs (ys ++ [y]) → ∃ us t, vs = us ++ [Value.str y t] ∧ StrsAre us ys
  | _, [], y, h => by
    cases h with
    | cons z t r => cases r; exact ⟨[], t, rfl, .nil⟩
  | _, z :: ys, y, h => by
    cases h with
    | cons z t r =>
      obtain ⟨us, t', e, h'⟩ := strs_snoc r
      exact ⟨Value.str z t :: us, t', by rw [e]; rfl, .cons z t h'⟩
theorem strs_of : ∀ {vs : List Value} {ys : List Str}, vs.length = ys.length → (∀ (i : Nat) (y : Str), ys[i]? = some y → ∃ t, vs[i]? = some (Value.str y t)) → StrsAre vs ys
  | [], [], _, _ => .nil
  | [], _ :: _, h, _ => by simp at h
  | _ :: _, [], h, _ => by simp at h
  | v :: vs, y :: ys, h, k => by
    obtain ⟨t, e⟩ := k 0 y rfl
    have : v = Value.str y t := by simpa using e
    subst this
    exact .cons y t (strs_of (by simpa using h) fun i z hz => by
      obtain ⟨t', e'⟩ := k (i + 1) z (by simpa using hz)
      exact ⟨t', by simpa using e'⟩)
theorem gs_strs : ∀ {gs : List (Option Value)} {tl : List (List Nat)}, gs.length = tl.length → (∀ (j : Nat) (g : Option Value), gs[j]? = some g → ∃ (v : List Nat) (t : Tok), tl[j]? = some v ∧ g = some (Value.str (S v) t)) → StrsAre (gs.filterMap id) (tl.map S)
  | [], [], _, _ => .nil
  | [], _ :: _, h, _ => by simp at h
  | _ :: _, [], h, _ => by simp at h
  | g :: gs, v :: tl, h, k => by
    obtain ⟨v', t, e1, e2⟩ := k 0 g rfl
    have : v = v' := by simpa using e1
    subst this
    subst e2
    have ih := gs_strs (gs := gs) (tl := tl) (by simpa using h) fun j g hj => by
      obtain ⟨v', t', a, b⟩ := k (j + 1) g (by simpa using hj)
      exact ⟨v', t', by simpa using a, b⟩
    exact .cons _ t ih
end texts
section lists
variable {prog : Program} {w : World} {A : Around} {E : Value → Shared → Prop} {s : Shared} {h₀ : Heap} {L D : Addr} {m : Str → Option Value} {all : List (Addr × Obj)} {its : Array Value} {n : Nat}
theorem append_U {x : Value} {Q : Value → Shared → Prop} (F : Fr h₀ L s.heap m) (N : News h₀ L s.heap all) (hm : (D, W.listOf its n) ∈ all) (hsz : its.size ≤ 1000000)
    (h : ∀ h', Fr h₀ L h' m → News h₀ L h' (upd D (W.listOf (its.push x) (n + 1)) all) → Q .none { s with heap := h' }) :
    wpAny (model prog w) A (call (.builtin "list.append") [.ref D, x]) Q E s :=
  append_at (N _ hm).1 (fun h' hs hd => by
    obtain ⟨F', N'⟩ := upd_ok F N hm hs hd
    exact h h' F' N') (by rw [PySem.sizeLine_eq]; omega)
theorem item_U {value slice : Expr} {k : Int} {u : Tok} {v : Value} {Q : Value → Shared → Prop} (N : News h₀ L s.heap all) (hm : (D, W.listOf its n) ∈ all) (h0 : 0 ≤ k) (hfit : k < 2 ^ 62) (hx : its[k.toNat]? = some v) (h : Q v s)
    (hs : subscripted slice false (.ref D) (.int k u) = operate [.ref D, .int k u] (getItem (.ref D) (.int k u)) := by with_unfolding_all rfl) :
    wpAny (model prog w) A (subscriptTail value slice (.ref D) (.int k u)) Q E s := by
  have hl : s.heap.IsList D its := ⟨_, (N _ hm).1, rfl, n, rfl⟩
  exact tail_any hl.typeIs slot_list_getitem.lookup (wpAny_getItem_list hl h0 (by omega) hx h) hs
theorem item_last {value slice : Expr} {xs : List Value} {u : Tok} {v : Value} {Q : Value → Shared → Prop} (N : News h₀ L s.heap all) (hm : (D, W.listOf (xs ++ [v]).toArray n) ∈ all) (h : Q v s)
    (hs : subscripted slice false (.ref D) (.int (-1) u) = operate [.ref D, .int (-1) u] (getItem (.ref D) (.int (-1) u)) := by with_unfolding_all rfl) :
    wpAny (model prog w) A (subscriptTail value slice (.ref D) (.int (-1) u)) Q E s := by
  have hl : s.heap.IsList D (xs ++ [v]).toArray := ⟨_, (N _ hm).1, rfl, n, rfl⟩
  refine tail_any hl.typeIs slot_list_getitem.lookup (wpAny_getItem_list_neg hl (by decide) ?_ (by decide) ?_ h) hs
  · simp; omega
  · have e : (-1 + ((xs ++ [v]).toArray.size : Int)).toNat = xs.length := by simp; omega
    rw [e]; simp
theorem getItem_last {xs : List Value} {u : Tok} {v : Value} {Q : Value → Shared → Prop} (N : News h₀ L s.heap all) (hm : (D, W.listOf (xs ++ [v]).toArray n) ∈ all) (h : Q v s) :
    wpAny (model prog w) A (getItem (.ref D) (.int (-1) u)) Q E s := by
  have hl : s.heap.IsList D (xs ++ [v]).toArray := ⟨_, (N _ hm).1, rfl, n, rfl⟩
  refine wpAny_getItem_list_neg hl (by decide) ?_ (by decide) ?_ h
  · simp; omega
  · have e : (-1 + ((xs ++ [v]).toArray.size : Int)).toNat = xs.length := by simp; omega
    rw [e]; simp
theorem map_U {its' : Array Value} {n' : Nat} (f : Array Value → Array Value) (F : Fr h₀ L s.heap m) (N : News h₀ L s.heap all) (hm : (D, W.listOf its n) ∈ all) (he : f its = its') (hn : (if its'.size == its.size then n else n + 1) = n') :
    Fr h₀ L (s.heap.update D (Obj.mapSeq f)) m ∧ News h₀ L (s.heap.update D (Obj.mapSeq f)) (upd D (W.listOf its' n') all) := by
  have q := PySem.IsL.update (N _ hm).1 f
  rw [he, hn] at q
  exact upd_ok F N hm (Heap.SameBut.update ..) q
theorem setItem_last {xs : List Value} {u : Tok} {v v' : Value} {Q : Unit → Shared → Prop} (F : Fr h₀ L s.heap m) (N : News h₀ L s.heap all) (hm : (D, W.listOf (xs ++ [v]).toArray n) ∈ all)
    (h : ∀ h', Fr h₀ L h' m → News h₀ L h' (upd D (W.listOf (xs ++ [v']).toArray n) all) → Q () { s with heap := h' }) :
    wpAny (model prog w) A (setItem (.ref D) (.int (-1) u) v') Q E s := by
  have e : (-1 + ((xs ++ [v]).toArray.size : Int)).toNat = xs.length := by simp; omega
  refine ki_setBack (N _ hm).1 (by decide) (by simp; omega) (by decide) ?_
  rw [e]
  obtain ⟨F', N'⟩ := map_U (its' := (xs ++ [v']).toArray) (n' := n) (·.setIfInBounds xs.length v') F N hm (by apply Array.toList_inj.mp; simp) (by simp)
  exact h _ F' N'
theorem setItem_U {xs : List Value} {k : Int} {u : Tok} {v' : Value} {Q : Unit → Shared → Prop} (F : Fr h₀ L s.heap m) (N : News h₀ L s.heap all) (hm : (D, W.listOf xs.toArray n) ∈ all) (h0 : 0 ≤ k) (h1 : k < xs.length) (hfit : k < 2 ^ 62)
    (h : ∀ h', Fr h₀ L h' m → News h₀ L h' (upd D (W.listOf (xs.set k.toNat v').toArray n) all) → Q () { s with heap := h' }) :
    wpAny (model prog w) A (setItem (.ref D) (.int k u) v') Q E s := by
  refine ki_setAt (N _ hm).1 h0 (by omega) (by rw [List.size_toArray]; exact h1) ?_
  obtain ⟨F', N'⟩ := map_U (its' := (xs.set k.toNat v').toArray) (n' := n) (·.setIfInBounds k.toNat v') F N hm (by apply Array.toList_inj.mp; simp) (by simp)
  exact h _ F' N'
theorem pop_U {xs : List Value} {v : Value} {Q : Value → Shared → Prop} (F : Fr h₀ L s.heap m) (N : News h₀ L s.heap all) (hm : (D, W.listOf (xs ++ [v]).toArray n) ∈ all) (hsz : xs.length ≤ 1000000)
    (h : ∀ h', Fr h₀ L h' m → News h₀ L h' (upd D (W.listOf xs.toArray (n + 1)) all) → Q v { s with heap := h' }) :
    wpAny (model prog w) A (call (.builtin "list.pop") [.ref D]) Q E s := by
  obtain ⟨F', N'⟩ := map_U (its' := xs.toArray) (n' := n + 1) (fun ys => ys.eraseIdxIfInBounds ((xs ++ [v]).toArray.size - 1)) F N hm (by apply Array.toList_inj.mp; simp [Array.eraseIdxIfInBounds]; exact (kl_eraseL xs [] v).trans (List.append_nil _)) (by simp)
  exact call_meets PySem.F.slot_list_pop ⟨_, (N _ hm).1, rfl⟩ PySem.F.entry_list_pop (PySem.F.args_list_pop_1 _) (PySem.MeetsSeq.list_pop_last D _ n v (by simp) (by simp [PySem.sizeLine_eq]; omega)) ⟨(N _ hm).1, h _ F' N'⟩
theorem pop0_U {xs : List Value} {v : Value} {u : Tok} {Q : Value → Shared → Prop} (F : Fr h₀ L s.heap m) (N : News h₀ L s.heap all) (hm : (D, W.listOf (v :: xs).toArray n) ∈ all) (hsz : xs.length ≤ 1000000)
    (h : ∀ h', Fr h₀ L h' m → News h₀ L h' (upd D (W.listOf xs.toArray (n + 1)) all) → Q v { s with heap := h' }) :
    wpAny (model prog w) A (call (.builtin "list.pop") [.ref D, .int 0 u]) Q E s := by
  obtain ⟨F', N'⟩ := map_U (its' := xs.toArray) (n' := n + 1) (fun ys => ys.eraseIdxIfInBounds 0) F N hm (by apply Array.toList_inj.mp; simp [Array.eraseIdxIfInBounds]) (by simp)
  exact call_meets PySem.F.slot_list_pop ⟨_, (N _ hm).1, rfl⟩ PySem.F.entry_list_pop (PySem.F.args_list_pop_2 _ _) (PySem.MeetsSeq.list_pop_at D _ n 0 u 0 v (by decide) (by simp [seqIndex?]) (by simp) (by simp [PySem.sizeLine_eq]; omega)) ⟨(N _ hm).1, h _ F' N'⟩
end lists
section setting
variable {prog : Program} {w : World} {A : Around} {E : Value → Shared → Prop} {s : Shared} {h₀ : Heap} {L D : Addr} {m : Str → Option Value} {all : List (Addr × Obj)} {n : Nat}
theorem in_sep (seps : List Nat) (c : Nat) : (Builtin.Str.occurrences (S seps) (S [c]) 0 (S seps).length 1).isEmpty = !decide (c ∈ seps) := by
  have h := StrLaws.found_one (S seps) c
  rw [S_cps] at h
  have e : (S [c] : Str) = ⟨#[c]⟩ := rfl
  rw [e, ← h, Bool.not_not]
end setting
/-- a turn's frame, its names shown -/
theorem fr_turn {h₀ h : Heap} {L : Addr} {m : Str → Option Value} {x : Str} {v : Value} (ps : List (Str × Value)) (F : Fr h₀ L h (fun y => if y = x then some v else m y)) (hps : ∀ p ∈ ps, m p.1 = some p.2) : Fr h₀ L h (fun y => if y = x then some v else kstB m ps y) := by
  have e : kstB m ps = m := funext fun z => kstB_eq hps fun _ => rfl
  rw [e]; exact F
section loops
variable {prog : Program} {w : World} {A : Around} {E : Value → Shared → Prop} {s : Shared} {env : Env} {h₀ : Heap} {x : Str} {body : List Stmt} {Q : Flow → Shared → Prop}
/-- a turn's end: the frame, the ledger's part that the loop speaks of -/
def GEnd (h₀ : Heap) (L I : Addr) (J : (Str → Option Value) → List (Addr × Obj) → Prop) (own : List (Addr × Obj)) (s s₂ : Shared) : Prop :=
  ∃ h' tk m' all nx, s₂ = { s with heap := h', toks := tk } ∧ Fr h₀ L h' m' ∧ News h₀ L h' all ∧ Sub own all ∧ Sub nx all ∧ (∀ p ∈ nx, p.1 ≠ I) ∧ J m' nx
def GPost (h₀ : Heap) (L I : Addr) (J : (Str → Option Value) → List (Addr × Obj) → Prop) (own : List (Addr × Obj)) (s : Shared) (Q : Flow → Shared → Prop) (f : Flow) (s₂ : Shared) : Prop :=
  match f with
  | .ret v => Q (.ret v) s₂
  | .brk => Q .next s₂
  | _ => GEnd h₀ L I J own s s₂
theorem GEnd.intro {L I : Addr} {J : (Str → Option Value) → List (Addr × Obj) → Prop} {own all : List (Addr × Obj)} {h' : Heap} {tk : Nat} {m' : Str → Option Value} (nx : List (Addr × Obj)) (F : Fr h₀ L h' m') (N : News h₀ L h' all) (ho : Sub own all) (hn : Sub nx all) (hI : ∀ p ∈ nx, p.1 ≠ I) (hj : J m' nx) :
    GEnd h₀ L I J own s { s with heap := h', toks := tk } := ⟨h', tk, m', all, nx, rfl, F, N, ho, hn, hI, hj⟩

theorem loopG {I : Addr} {fp : List Addr} {n : Nat} {P : Nat → Value → Prop} {St : Nat → Heap → Prop} {m₀ : Str → Option Value} {news : List (Addr × Obj)} (J : Nat → (Str → Option Value) → List (Addr × Obj) → Prop)
    (W : Walks prog w A I fp [I] n P St) (hIo : ∀ i h, St i h → ∃ o, h.get? I = some o) (hLf : env.locals ∉ fp) (hI₀ : h₀.get? I = none) (hnI : ∀ p ∈ news, p.1 ≠ I) (hst : St 0 s.heap) (F : Fr h₀ env.locals s.heap m₀) (N : News h₀ env.locals s.heap news) (hj : J 0 m₀ news)
    (turn : ∀ i v m₁ nx h tk own, i < n → P i v → J i m₁ nx → (∃ o, (I, o) ∈ own) → (∀ p ∈ own, p.1 ∈ fp) → (∀ p ∈ nx, p.1 ≠ I) → Fr h₀ env.locals h (fun y => if y = x then some v else m₁ y) → News h₀ env.locals h (own ++ nx) →
      wpAny (model prog w) A (execs body env) (GPost h₀ env.locals I (J (i + 1)) own s Q) E { s with heap := h, toks := tk })
    (done : ∀ m₁ nx h tk, J n m₁ nx → Fr h₀ env.locals h m₁ → News h₀ env.locals h nx → Q .next { s with heap := h, toks := tk }) :
    LoopAtV prog w A h₀ env x body Q E (.ref I) s := by
  have hIf : I ∈ fp := W.sub I (List.mem_singleton.mpr rfl)
  refine ⟨I, fp, [I], n, P, St, m₀, news, J, rfl, W, hLf, (fun b hb => by rw [List.mem_singleton.mp hb]; exact hI₀), (fun p hp hq => hnI p hp (List.mem_singleton.mp hq)), hst, F, N, hj, ?_, ?_⟩
  · rintro i v m₁ nx s₁ own ⟨h1, tk1, rfl⟩ hin hP hJ hoff hof _ hfp hst' F₁ N₁
    obtain ⟨oI, hoI⟩ := hIo _ _ hst'
    have hIown : (I, oI) ∈ own := hfp I hIf hI₀ _ hoI
    refine wpAny_mono (turn i v m₁ nx h1 tk1 own hin hP hJ ⟨oI, hIown⟩ hof (fun p hp hq => hoff p hp (List.mem_singleton.mpr hq)) F₁ N₁) (fun f s₂ p => ?_) fun _ _ e => e
    have fin : GEnd h₀ env.locals I (J (i + 1)) own s s₂ → LoopStepU h₀ env.locals [I] own (J (i + 1)) { s with heap := h1, toks := tk1 } .next s₂ := by
      rintro ⟨h', tk, m', all, nx', e, F', N', ho, hn, hI, hm⟩
      exact ⟨rfl, h', tk, m', nx', e, F', fun p hp => N' p ((List.mem_append.mp hp).elim (ho p) (hn p)), fun p hp hq => hI p hp (List.mem_singleton.mp hq), hm⟩
    cases f with
    | ret v => exact .ret p
    | brk => exact .brk p
    | next => exact .next (fin p)
    | cont => exact .cont (fin p)
  · rintro h' tk m' news' F' N' _ hJ
    exact done m' news' h' tk hJ F' N'

theorem forStr {p : List Nat} {tx : Tok} {m₀ : Str → Option Value} {news : List (Addr × Obj)} (J : Nat → (Str → Option Value) → List (Addr × Obj) → Prop)
    (hh : A.handled = none) (F : Fr h₀ env.locals s.heap m₀) (N : News h₀ env.locals s.heap news) (hj : J 0 m₀ news)
    (turn : ∀ i c t m₁ nx h tk own I, p[i]? = some c → J i m₁ nx → (∃ o, (I, o) ∈ own) → (∀ q ∈ own, q.1 = I) → (∀ q ∈ nx, q.1 ≠ I) → Fr h₀ env.locals h (fun y => if y = x then some (.str (S [c]) t) else m₁ y) → News h₀ env.locals h (own ++ nx) →
      wpAny (model prog w) A (execs body env) (GPost h₀ env.locals I (J (i + 1)) own s Q) E { s with heap := h, toks := tk })
    (done : ∀ m₁ nx h tk, J p.length m₁ nx → Fr h₀ env.locals h m₁ → News h₀ env.locals h nx → Q .next { s with heap := h, toks := tk }) :
    wpAny (model prog w) A (pyIter (.str (S p) tx)) (fun it s₂ => LoopAtV prog w A h₀ env x body Q E it s₂) E s := by
  have hsz : (S p).cps.size = p.length := by simp [S]
  have key : ∀ (o : Obj) (St : Nat → Heap → Prop), Walks prog w A s.heap.objs.size [s.heap.objs.size] [s.heap.objs.size] (S p).cps.size (SignAt (S p)) St → St 0 (s.heap.push o) → (∀ i h, St i h → ∃ o, h.get? s.heap.objs.size = some o) →
      LoopAtV prog w A h₀ env x body Q E (.ref s.heap.objs.size) { s with heap := s.heap.push o } := by
    intro o St W hst hst0
    rw [hsz] at W
    refine loopG J W hst0 ?_ (next_is_new F) (fun p hp => Nat.ne_of_lt (Heap.lt_size (N p hp).1)) hst (F.push _) (N.grown fun _ _ e => Heap.get?_push_of_some _ e) hj ?_ ?_
    · intro hm; exact absurd F.ns.lt ((List.mem_singleton.mp hm) ▸ Nat.lt_irrefl _)
    · rintro i v m₁ nx h tk own hi ⟨c, u, hc, rfl⟩ hJ hI hof hnI F₁ N₁
      exact turn i c u m₁ nx h tk own _ (by simpa [S] using hc) hJ hI (fun q hq => List.mem_singleton.mp (hof q hq)) hnI F₁ N₁
    · intro m₁ nx h tk hJ F₁ N₁
      exact done m₁ nx h tk hJ F₁ N₁
  cases ha : (S p).cps.all (· < 128)
  · exact wpAny_pyIter_wide ha (key _ _ (Walks.strWide hh _ (S p) tx) ⟨_, Heap.get?_push_size _ rfl, rfl, rfl⟩ (fun i h st => by obtain ⟨o, e, _⟩ := st; exact ⟨o, e⟩))
  · exact wpAny_pyIter_ascii ha (key _ _ (Walks.strAscii hh _ (S p) tx) ⟨_, Heap.get?_push_size _ rfl, rfl, rfl⟩ (fun i h st => by obtain ⟨o, e, _⟩ := st; exact ⟨o, e⟩))

theorem forRange {r : Addr} {n : Nat} {t₀ u₀ v₀ : Tok} {m₀ : Str → Option Value} {news : List (Addr × Obj)} (a : Int) (b : Int) (J : Nat → (Str → Option Value) → List (Addr × Obj) → Prop)
    (hh : A.handled = none) (hr : IsRange s.heap r a b 1 t₀ u₀ v₀) (hsmall : Builtin.Range.small a b 1 = true) (hn : Builtin.Range.rangeSize a b 1 = (n : Int)) (F : Fr h₀ env.locals s.heap m₀) (N : News h₀ env.locals s.heap news) (hj : J 0 m₀ news)
    (turn : ∀ i t m₁ nx h tk own I, i < n → J i m₁ nx → (∃ o, (I, o) ∈ own) → (∀ q ∈ own, q.1 = I) → (∀ q ∈ nx, q.1 ≠ I) → Fr h₀ env.locals h (fun y => if y = x then some (.int (a + (i : Int)) t) else m₁ y) → News h₀ env.locals h (own ++ nx) →
      wpAny (model prog w) A (execs body env) (GPost h₀ env.locals I (J (i + 1)) own s Q) E { s with heap := h, toks := tk })
    (done : ∀ m₁ nx h tk, J n m₁ nx → Fr h₀ env.locals h m₁ → News h₀ env.locals h nx → Q .next { s with heap := h, toks := tk }) :
    wpAny (model prog w) A (pyIter (.ref r)) (fun it s₂ => LoopAtV prog w A h₀ env x body Q E it s₂) E s := by
  refine wpAny_pyIter_range hr hsmall ?_
  have W : Walks prog w A s.heap.objs.size [s.heap.objs.size] [s.heap.objs.size] n (fun i v => i < n ∧ ∃ t, v = .int (a + i * 1) t)
      (fun i h => IsRangeIter h s.heap.objs.size (a + (i : Nat) * 1) ((n : Int) - (i : Nat)) 1) := (Walks.range hh _ a 1 n).bound
  refine loopG J W (fun i h st => ⟨_, st⟩) ?_ (next_is_new F) (fun p hp => Nat.ne_of_lt (Heap.lt_size (N p hp).1)) (by show IsRangeIter _ _ _ _ _; rw [hn]; simpa using Heap.get?_push_size _ rfl) (F.push _) (N.grown fun _ _ e => Heap.get?_push_of_some _ e) hj ?_ ?_
  · intro hm; exact absurd F.ns.lt ((List.mem_singleton.mp hm) ▸ Nat.lt_irrefl _)
  · rintro i v m₁ nx h tk own hi ⟨_, t, rfl⟩ hJ hI hof hnI F₁ N₁
    rw [Int.mul_one] at F₁
    exact turn i t m₁ nx h tk own _ hi hJ hI (fun q hq => List.mem_singleton.mp (hof q hq)) hnI F₁ N₁
  · intro m₁ nx h tk hJ F₁ N₁
    exact done m₁ nx h tk hJ F₁ N₁

/-- a loop over a list of the ledger, which stays as it is -/
theorem forList {l : Addr} {its : List Value} {c : Nat} {m₀ : Str → Option Value} {news : List (Addr × Obj)} (J : Nat → (Str → Option Value) → List (Addr × Obj) → Prop)
    (hh : A.handled = none) (F : Fr h₀ env.locals s.heap m₀) (N : News h₀ env.locals s.heap news) (hl : (l, W.listOf its.toArray c) ∈ news) (led : List (Addr × Obj)) (hled : Sub led news) (hj : J 0 m₀ led)
    (turn : ∀ i v m₁ nx h tk own I, its[i]? = some v → J i m₁ nx → (∃ o, (I, o) ∈ own) → (∀ q ∈ own, q.1 = I ∨ q.1 = l) → (∀ q ∈ nx, q.1 ≠ I) → Fr h₀ env.locals h (fun y => if y = x then some v else m₁ y) → News h₀ env.locals h (own ++ nx) →
      wpAny (model prog w) A (execs body env) (GPost h₀ env.locals I (J (i + 1)) own s Q) E { s with heap := h, toks := tk })
    (done : ∀ m₁ nx h tk, J its.length m₁ nx → Fr h₀ env.locals h m₁ → News h₀ env.locals h nx → Q .next { s with heap := h, toks := tk }) :
    wpAny (model prog w) A (pyIter (.ref l)) (fun it s₂ => LoopAtV prog w A h₀ env x body Q E it s₂) E s := by
  have hls : s.heap.IsList l its.toArray := ⟨_, (N _ hl).1, rfl, c, rfl⟩
  have hlt : l < s.heap.objs.size := Heap.lt_size (N _ hl).1
  refine wpAny_pyIter_list hls ?_
  have W := Walks.list (prog := prog) (w := w) hh s.heap.objs.size l (Nat.ne_of_lt hlt) its.toArray
  have hsz : its.toArray.size = its.length := by simp
  rw [hsz] at W
  have hnw : ∀ p ∈ led, p.1 ≠ s.heap.objs.size := fun p hp => Nat.ne_of_lt (Heap.lt_size (N p (hled p hp)).1)
  refine loopG J W (fun i h st => by obtain ⟨o, e, _⟩ := st.1; exact ⟨o, e⟩) ?_ (next_is_new F) hnw ⟨⟨_, Heap.get?_push_size _ rfl, rfl, rfl⟩, hls.push _⟩ (F.push _) ((news_sub N hled).grown fun _ _ e => Heap.get?_push_of_some _ e) hj ?_ ?_
  · intro hm
    rcases List.mem_cons.mp hm with e | hm
    · exact absurd F.ns.lt (e ▸ Nat.lt_irrefl _)
    · exact (N _ hl).2.1 (List.mem_singleton.mp hm).symm
  · rintro i v m₁ nx h tk own hi hP hJ hI hof hnI F₁ N₁
    exact turn i v m₁ nx h tk own _ (by simpa using hP) hJ hI (fun q hq => by simpa using hof q hq) hnI F₁ N₁
  · intro m₁ nx h tk hJ F₁ N₁
    exact done m₁ nx h tk hJ F₁ N₁
/-- a loop over a list that stood ahead of the call -/
theorem forBase {l : Addr} {its : List Value} {m₀ : Str → Option Value} {news : List (Addr × Obj)} (J : Nat → (Str → Option Value) → List (Addr × Obj) → Prop)
    (hh : A.handled = none) (F : Fr h₀ env.locals s.heap m₀) (N : News h₀ env.locals s.heap news) (hl : h₀.IsList l its.toArray) (hj : J 0 m₀ news)
    (turn : ∀ i v m₁ nx h tk own I, its[i]? = some v → J i m₁ nx → (∃ o, (I, o) ∈ own) → (∀ q ∈ own, q.1 = I ∨ q.1 = l) → (∀ q ∈ nx, q.1 ≠ I) → Fr h₀ env.locals h (fun y => if y = x then some v else m₁ y) → News h₀ env.locals h (own ++ nx) →
      wpAny (model prog w) A (execs body env) (GPost h₀ env.locals I (J (i + 1)) own s Q) E { s with heap := h, toks := tk })
    (done : ∀ m₁ nx h tk, J its.length m₁ nx → Fr h₀ env.locals h m₁ → News h₀ env.locals h nx → Q .next { s with heap := h, toks := tk }) :
    wpAny (model prog w) A (pyIter (.ref l)) (fun it s₂ => LoopAtV prog w A h₀ env x body Q E it s₂) E s := by
  have hls : s.heap.IsList l its.toArray := hl.at fun o e => F.keep l o e
  obtain ⟨ol, hol, _⟩ := id hl
  have hlt : l < h₀.objs.size := Heap.lt_size hol
  have hne : l ≠ s.heap.objs.size := Nat.ne_of_lt (Nat.lt_trans (Nat.lt_of_lt_of_le hlt F.above) F.ns.lt)
  refine wpAny_pyIter_list hls ?_
  have W := Walks.list (prog := prog) (w := w) hh s.heap.objs.size l hne its.toArray
  have hsz : its.toArray.size = its.length := by simp
  rw [hsz] at W
  refine loopG J W (fun i h st => by obtain ⟨o, e, _⟩ := st.1; exact ⟨o, e⟩) ?_ (next_is_new F) (fun p hp => Nat.ne_of_lt (Heap.lt_size (N p hp).1)) ⟨⟨_, Heap.get?_push_size _ rfl, rfl, rfl⟩, hls.push _⟩ (F.push _) (N.grown fun _ _ e => Heap.get?_push_of_some _ e) hj ?_ ?_
  · intro hm
    rcases List.mem_cons.mp hm with e | hm
    · exact absurd F.ns.lt (e ▸ Nat.lt_irrefl _)
    · exact absurd (Nat.lt_of_lt_of_le hlt F.above) ((List.mem_singleton.mp hm) ▸ Nat.lt_irrefl _)
  · rintro i v m₁ nx h tk own hi hP hJ hI hof hnI F₁ N₁
    exact turn i v m₁ nx h tk own _ (by simpa using hP) hJ hI (fun q hq => by simpa using hof q hq) hnI F₁ N₁
  · intro m₁ nx h tk hJ F₁ N₁
    exact done m₁ nx h tk hJ F₁ N₁
end loops
end Mine
end

section
open PySem PySem.W PyProof.Rows PySem.Calls
namespace Mine
open PyProof.Rows.LCg
section comp
variable {prog : Program} {w : World} {A : Around} {E : Value → Shared → Prop} {s : Shared} {env : Env} {h₀ : Heap} {L : Addr} {m : Str → Option Value}

abbrev testsOf (ifs : List Expr) (env : Env) : Sem Bool := forIn ifs true fun c r => if r = true then do let ok ← isTrue c env (eval c env); pure (ForInStep.yield ok) else pure (ForInStep.yield r)

theorem compLoop_all {elt target iter : Expr} {ifs : List Expr} {scope : Scope} {pos : Pos} {it acc : Value} {env : Env} {R : Result → Shared → Prop} (I : Nat → Shared → Prop)
    (turn : ∀ n s, I n s → wpAny (model prog w) A (pyNext it) (fun r s₁ => match r with
      | none => R (.ok .next) s₁
      | some v => wpAny (model prog w) A (letOwnedTupleGo target it v) (fun _ s₁' => wpAny (model prog w) A (assign target env v) (fun _ s₂ =>
          wpAny (model prog w) A (testsOf ifs env) (fun ok s₃ =>
            if ok = true then wpAny (model prog w) A (eval elt env) (fun x s₄ =>
              wpAny (model prog w) A (call (.builtin "list.append") [acc, x]) (fun _ s₅ => ∃ m, m < n ∧ I m s₅) (notedBy (model prog w) A env fun e s' => R (.error e) s') s₄) (notedBy (model prog w) A env fun e s' => R (.error e) s') s₃
            else ∃ m, m < n ∧ I m s₃) (notedBy (model prog w) A env fun e s' => R (.error e) s') s₂) (notedBy (model prog w) A env fun e s' => R (.error e) s') s₁') (notedBy (model prog w) A env fun e s' => R (.error e) s') s₁) (notedBy (model prog w) A env fun e s' => R (.error e) s') s)
    (n : Nat) (h : I n s) : codeAny (model prog w) A (.compLoop (.ListComp elt [⟨target, iter, ifs, 0⟩] scope pos) 0 it acc env) R s := by
  refine codeAny_loop rfl I (fun n s hI => ?_) n h
  show wpAny _ A ((compTurn (.ListComp elt [⟨target, iter, ifs, 0⟩] scope pos) 0 it acc env).onRaise (fun x => do noteFrame x env; theTreesLotGoes x)) _ _ s
  refine wpAny_noted ?_
  rw [compTurn_list]
  refine wpAny_bind (wpAny_standAt (wpAny_bind (wpAny_mono (turn n s hI) (fun r s₁ h₁ => ?_) fun _ _ h' => h')))
  cases r with
  | none => exact wpAny_pure h₁
  | some v =>
    refine wpAny_bind (wpAny_mono h₁ (fun _ s₁' h₁' => ?_) fun _ _ h' => h')
    refine wpAny_bind (wpAny_mono h₁' (fun _ s₂ h₂ => wpAny_bind (wpAny_mono h₂ (fun ok s₃ h₃ => ?_) fun _ _ h' => h')) fun _ _ h' => h')
    cases ok with
    | false => exact wpAny_pure ⟨rfl, h₃⟩
    | true =>
      exact wpAny_bind (wpAny_bind (wpAny_mono h₃ (fun x s₄ h₄ => wpAny_bind (wpAny_mono h₄ (fun _ s₅ h₅ => wpAny_pure (wpAny_pure ⟨rfl, h₅⟩)) fun _ _ h' => h')) fun _ _ h' => h'))

/-- an element's end: all that stood stands -/
def CEnd (h₀ : Heap) (L : Addr) (m : Str → Option Value) (s : Shared) (led : List (Addr × Obj)) (G : Option Value → Prop) (y : Option Value) (s₂ : Shared) : Prop :=
  ∃ h' tk, s₂ = { s with heap := h', toks := tk } ∧ Fr h₀ L h' m ∧ News h₀ L h' led ∧ G y
theorem CEnd.intro {led all : List (Addr × Obj)} {G : Option Value → Prop} {y : Option Value} {h' : Heap} {tk : Nat} (F : Fr h₀ L h' m) (N : News h₀ L h' all) (hs : Sub led all) (g : G y) : CEnd h₀ L m s led G y { s with heap := h', toks := tk } := ⟨h', tk, rfl, F, news_sub N hs, g⟩

/-- one turn of a comprehension behind its target's binding -/
def CTurn (prog : Program) (w : World) (A : Around) (h₀ : Heap) (L : Addr) (m : Str → Option Value) (env : Env) (elt : Expr) (ifs : List Expr) (scope : Scope) (cl : List (Str × Addr)) (s : Shared) (news : List (Addr × Obj)) (B : (Str → Option Value) → Prop) (G : Option Value → Prop) : Prop :=
  ∀ I oI C oC D oD m₃ h tk (E' : Value → Shared → Prop), B m₃ → NsObj oC m₃ → Fr h₀ L h m → News h₀ L h ((I, oI) :: (C, oC) :: (D, oD) :: news) → (∀ p ∈ news, p.1 ≠ C) →
    wpAny (model prog w) A (testsOf ifs (compEnvC scope cl C env)) (fun ok s₄ => if ok = true then wpAny (model prog w) A (eval elt (compEnvC scope cl C env)) (fun y => CEnd h₀ L m s ((I, oI) :: (C, oC) :: (D, oD) :: news) G (some y)) E' s₄ else CEnd h₀ L m s ((I, oI) :: (C, oC) :: (D, oD) :: news) G none s₄) E' { s with heap := h, toks := tk }

theorem comp_block {elt iter target : Expr} {ifs : List Expr} {scope : Scope} {cl : List (Str × Addr)} {pos : Pos} {s₂ : Shared} {I : Addr} {fp : List Addr} {n : Nat} {P : Nat → Value → Prop} {St : Nat → Heap → Prop} {news : List (Addr × Obj)}
    (Bd : Nat → (Str → Option Value) → Prop) (G : Nat → Option Value → Prop) {RR : Value → Addr → Result → Shared → Prop}
    (W : Walks prog w A I fp [I] n P St) (hsz : n ≤ sizeLine) (hIo : ∀ i h, St i h → ∃ o, h.get? I = some o)
    (hSt : ∀ i h h' o, St i h → h.get? I = some o → h'.get? I = some o → (∀ b o, h₀.get? b = some o → h'.get? b = some o) → News h₀ L h' news → St i h')
    (ht : ∀ i v s' (Q : Unit → Shared → Prop) (E' : Value → Shared → Prop), P i v → St (i + 1) s'.heap → Q () s' → wpAny (model prog w) A (letOwnedTupleGo target (.ref I) v) Q E' s')
    (hcell : ∀ y ∈ scope.names, y.2 ≠ .cell) (hkind : scope.kind = .function) (hst : St 0 s₂.heap) (hfp : ∀ b ∈ fp, b < s₂.heap.objs.size)
    (F : Fr h₀ L s₂.heap m) (N : News h₀ L s₂.heap news) (hIL : L ≠ I) (hI₀ : h₀.get? I = none) (off : ∀ p ∈ news, p.1 ≠ I)
    (hass : ∀ i v C h tk m' (E' : Value → Shared → Prop), P i v → h.Ns C m' → Fr h₀ L h m → News h₀ L h news → C ≠ L → h₀.get? C = none → (∀ p ∈ news, p.1 ≠ C) →
      wpAny (model prog w) A (assign target (compEnvC scope cl C env) v) (fun _ s₃ => ∃ h₃ tk₃ m₃, s₃ = { s₂ with heap := h₃, toks := tk₃ } ∧ h₃.Ns C m₃ ∧ (∀ b o, b ≠ C → h.get? b = some o → h₃.get? b = some o) ∧ Bd i m₃) E' { s₂ with heap := h, toks := tk })
    (turn : ∀ i, i < n → CTurn prog w A h₀ L m env elt ifs scope cl s₂ news (Bd i) (G i))
    (hRR : ∀ D C h tk m' (gs : List (Option Value)), Fr h₀ L h m → News h₀ L h ((D, lst (gs.filterMap id)) :: news) → h.Ns C m' → h₀.get? C = none → h₀.get? D = none → C ≠ L → D ≠ L → C ≠ D → (∀ p ∈ news, p.1 ≠ C) → (∀ p ∈ news, p.1 < D) → gs.length = n → (∀ j g, gs[j]? = some g → G j g) → RR (.ref D) C (.ok .next) { s₂ with heap := h, toks := tk }) :
    wpAny (model prog w) A (newList []) (fun acc s₃ => wpAny (model prog w) A (newFunctionEnv scope env.globals cl [] env.qual none .none (some env)) (fun cenv s₄ =>
      codeAny (model prog w) A (.compStart (.ListComp elt [⟨target, iter, ifs, 0⟩] scope pos) 0 (.ref I) acc { cenv with scope := relabel scope env }) (RR acc cenv.locals) s₄) E s₃) E s₂ := by
  refine wpAny_newObj_type (wpAny_newFunctionEnv hcell (by intro y hy; simp at hy) (fun h₁ hns₁ hsb₁ => ?_) hkind)
  dsimp only at hns₁ hsb₁ ⊢
  generalize hH2 : s₂.heap.push { cls := .type "list", dict := none, data := .seq ([] : List Value).toArray } = H2 at hns₁ hsb₁ ⊢
  have hC : H2.objs.size = s₂.heap.objs.size + 1 := by rw [← hH2, Heap.size_push]
  generalize hCe : H2.objs.size = C at hns₁ hsb₁ hC ⊢
  generalize hDe : s₂.heap.objs.size = D at hC hfp ⊢
  have hC : @Eq Nat C (D + 1) := hC
  have hDC : @Ne Nat D C := by omega
  have hIlt : @LT.lt Nat _ I D := hfp I (W.sub I (List.mem_singleton.mpr rfl))
  have hDf : D ∉ fp := fun hm => Nat.lt_irrefl _ (hfp _ hm)
  have hCf : C ∉ fp := fun hm => by have : @LT.lt Nat _ C D := hfp _ hm; omega
  have old : ∀ b o, s₂.heap.get? b = some o → h₁.get? b = some o := fun b o e => hsb₁.extBut b o (by have : @LT.lt Nat _ b s₂.heap.objs.size := Heap.lt_size e; show @Ne Nat b C; omega) (Heap.get?_push_of_some _ (hH2 ▸ Heap.get?_push_of_some _ e))
  have hacc : h₁.get? D = some (lst []) := hsb₁.extBut _ _ hDC (Heap.get?_push_of_some _ (hH2 ▸ hDe ▸ Heap.get?_push_size _ rfl))
  have hst₁ : St 0 h₁ := W.frame _ _ _ hst fun b _ o e => old b o e
  have fresh₀ : ∀ a, D ≤ a → h₀.get? a = none := fun a ha => by
    cases e : h₀.get? a with
    | none => rfl
    | some o' => have : @LT.lt Nat _ a s₂.heap.objs.size := Heap.lt_size (F.keep a o' e); have : @LE.le Nat _ D a := ha; omega
  have hD₀ : h₀.get? D = none := fresh₀ _ (Nat.le_refl _)
  have hC₀ : h₀.get? C = none := fresh₀ _ (by show @LE.le Nat _ D C; omega)
  have hLlt : @LT.lt Nat _ L D := by have : @LT.lt Nat _ L s₂.heap.objs.size := F.ns.lt; omega
  have hDL : @Ne Nat D L := by omega
  have hCL : @Ne Nat C L := by omega
  have hCI : @Ne Nat C I := by omega
  have hDI : @Ne Nat D I := by omega
  have hlt : ∀ p ∈ news, p.1 < D := fun p hp => by have : @LT.lt Nat _ p.1 s₂.heap.objs.size := Heap.lt_size (N p hp).1; show @LT.lt Nat _ p.1 D; omega
  have offC : ∀ p ∈ news, p.1 ≠ C := fun p hp => by have : @LT.lt Nat _ p.1 D := hlt p hp; show @Ne Nat p.1 C; omega
  have offD : ∀ p ∈ news, p.1 ≠ D := fun p hp => by have : @LT.lt Nat _ p.1 D := hlt p hp; show @Ne Nat p.1 D; omega
  have loop : ∀ s₃ : Shared, s₃ = { s₂ with heap := h₁, toks := s₂.toks + ([] : List (Str × Value)).length } →
      codeAny (model prog w) A (.compLoop (.ListComp elt [⟨target, iter, ifs, 0⟩] scope pos) 0 (.ref I) (.ref D) (compEnvC scope cl C env)) (RR (.ref D) C) s₃ := by
    rintro s₃ rfl
    refine compLoop_all
      (fun k s' => ∃ h' tk gs m', s' = { s₂ with heap := h', toks := tk } ∧ gs.length ≤ n ∧ k = n + 1 - gs.length ∧ St gs.length h' ∧ Fr h₀ L h' m ∧ h'.Ns C m' ∧ News h₀ L h' ((D, lst (gs.filterMap id)) :: news) ∧ (∀ j g, gs[j]? = some g → G j g)) ?_ (n + 1)
      ⟨h₁, _, [], _, rfl, Nat.zero_le _, rfl, hst₁, F.keeps old, hns₁, fun p hp => ?_, by simp⟩
    · rintro k s' ⟨h', tk, gs, m', rfl, hi, rfl, hst', F', hn', N', hG⟩
      by_cases hlt' : gs.length < n
      · refine W.item gs.length _ _ _ hlt' hst' fun v h₂ tk₂ hPv hst₂ hk₂ => ?_
        have kI : ∀ b o, b ≠ I → h'.get? b = some o → h₂.get? b = some o := fun b o hb e => hk₂ b o (by simpa using hb) e
        have F₂ : Fr h₀ L h₂ m := fr_but F' hk₂ hIL hI₀
        have N₂ : News h₀ L h₂ ((D, lst (gs.filterMap id)) :: news) := news_but N' hk₂ fun p hp => by
          rcases List.mem_cons.mp hp with rfl | hp
          · exact hDI
          · exact off p hp
        refine ht gs.length v _ _ _ hPv hst₂ ?_
        refine wpAny_mono (hass gs.length v C h₂ tk₂ _ _ hPv (hn'.at' fun o e => kI _ o hCI e) F₂ (fun p hp => N₂ p (.tail _ hp)) hCL hC₀ offC) (fun _ s₃ h₃ => ?_) fun _ _ e => e
        obtain ⟨h₃, tk₃, m₃, rfl, hn₃, hk₃, hB⟩ := h₃
        have hst₃ : St (gs.length + 1) h₃ := W.frame _ _ _ hst₂ fun b hb o e => hk₃ b o (fun q => hCf (q ▸ hb)) e
        obtain ⟨oI, heI⟩ := hIo _ _ hst₃
        obtain ⟨oC, heC, hoC⟩ := ns_obj hn₃
        have F₃ : Fr h₀ L h₃ m := ⟨F₂.ns.at' fun o e => hk₃ L o (Ne.symm hCL) e, fun b o e => hk₃ b o (fun q => by rw [q, hC₀] at e; cases e) (F₂.keep b o e), F₂.above⟩
        have N₃ : News h₀ L h₃ ((I, oI) :: (C, oC) :: (D, lst (gs.filterMap id)) :: news) := fun p hp => by
          rcases List.mem_cons.mp hp with rfl | hp
          · exact ⟨heI, Ne.symm hIL, hI₀⟩
          · rcases List.mem_cons.mp hp with rfl | hp
            · exact ⟨heC, hCL, hC₀⟩
            · refine ⟨hk₃ _ _ ?_ (N₂ p hp).1, (N₂ p hp).2⟩
              rcases List.mem_cons.mp hp with rfl | hp
              · exact hDC
              · exact offC p hp
        refine wpAny_mono (turn gs.length hlt' I oI C oC D _ m₃ h₃ tk₃ _ hB hoC F₃ N₃ offC) (fun ok s₄ h₄ => ?_) fun _ _ e => e
        have back : ∀ {y : Option Value} {s₅ : Shared}, CEnd h₀ L m s₂ ((I, oI) :: (C, oC) :: (D, lst (gs.filterMap id)) :: news) (G gs.length) y s₅ → ∃ h₅ tk₅, s₅ = { s₂ with heap := h₅, toks := tk₅ } ∧ Fr h₀ L h₅ m ∧ St (gs.length + 1) h₅ ∧ h₅.Ns C m₃ ∧ h₅.get? D = some (lst (gs.filterMap id)) ∧ News h₀ L h₅ news ∧ (∀ j g, (gs ++ [y])[j]? = some g → G j g) := by
          rintro y s₅ ⟨h₅, tk₅, rfl, F₅, N₅, g₅⟩
          refine ⟨h₅, tk₅, rfl, F₅, hSt _ _ _ _ hst₃ heI (N₅ _ (.head _)).1 F₅.keep (fun p hp => N₅ p (.tail _ (.tail _ (.tail _ hp)))), hoC.ns (N₅ _ (.tail _ (.head _))).1, (N₅ _ (.tail _ (.tail _ (.head _)))).1, fun p hp => N₅ p (.tail _ (.tail _ (.tail _ hp))), ?_⟩
          intro j g hj
          rcases Nat.lt_trichotomy j gs.length with h | h | h
          · exact hG j g (by rwa [List.getElem?_append_left h] at hj)
          · subst h; simp at hj; subst hj; exact g₅
          · have hnone : (gs ++ [y])[j]? = none := List.getElem?_eq_none (by rw [List.length_append, List.length_singleton]; omega)
            rw [hnone] at hj; cases hj
        cases ok with
        | false =>
          simp only [Bool.false_eq_true, if_false] at h₄ ⊢
          obtain ⟨h₅, tk₅, rfl, F₅, hst₅, hn₅, hD₅, N₅, hG₅⟩ := back h₄
          refine ⟨n + 1 - (gs.length + 1), by omega, h₅, tk₅, gs ++ [none], m₃, rfl, by simp; omega, by simp, by simpa using hst₅, F₅, hn₅, ?_, hG₅⟩
          intro p hp
          rcases List.mem_cons.mp hp with rfl | hp
          · exact ⟨by simpa using hD₅, hDL, hD₀⟩
          · exact N₅ p hp
        | true =>
          simp only [if_true] at h₄ ⊢
          refine wpAny_mono h₄ (fun y s₅ h₅' => ?_) fun _ _ e => e
          obtain ⟨h₅, tk₅, rfl, F₅, hst₅, hn₅, hD₅, N₅, hG₅⟩ := back h₅'
          have hlen : (gs.filterMap id).length ≤ n := Nat.le_trans (List.length_filterMap_le _ _) hi
          refine append_at (hsz := by show (gs.filterMap id).toArray.size ≤ sizeLine; rw [List.size_toArray]; exact Nat.le_trans hlen hsz) hD₅ fun h₆ hs₆ hD₆ => ?_
          refine ⟨n + 1 - (gs.length + 1), by omega, h₆, tk₅, gs ++ [some y], m₃, rfl, by simp; omega, by simp, ?_, F₅.change hs₆ hDL hD₀, hn₅.sameBut hs₆ (Ne.symm hDC), ?_, hG₅⟩
          · rw [List.length_append, List.length_singleton]
            exact W.frame _ _ _ hst₅ fun b hb o e => hs₆.extBut b o (fun q => hDf (q ▸ hb)) e
          · intro p hp
            rcases List.mem_cons.mp hp with rfl | hp
            · refine ⟨?_, hDL, hD₀⟩
              rw [List.filterMap_append]
              exact hD₆.trans (congrArg some (lst_snoc (gs.filterMap id) y))
            · exact ⟨hs₆.extBut _ _ (offD p hp) (N₅ p hp).1, (N₅ p hp).2⟩
      · obtain hin : gs.length = n := by omega
        rw [hin] at hst'
        refine W.done _ _ _ hst' fun h₂ tk₂ hk₂ => ?_
        have kI : ∀ b o, b ≠ I → h'.get? b = some o → h₂.get? b = some o := fun b o hb e => hk₂ b o (by simpa using hb) e
        exact hRR _ _ h₂ tk₂ _ gs (fr_but F' hk₂ hIL hI₀) (news_but N' hk₂ fun p hp => by
          rcases List.mem_cons.mp hp with rfl | hp
          · exact hDI
          · exact off p hp) (hn'.at' fun o e => kI _ o hCI e) hC₀ hD₀ hCL hDL (Ne.symm hDC) offC hlt hin hG
    · rcases List.mem_cons.mp hp with rfl | hp
      · exact ⟨hacc, hDL, hD₀⟩
      · exact ⟨old _ _ (N p hp).1, (N p hp).2⟩
  exact codeAny_compStart_list (loop _ rfl) (W.self 0 _ _ _ hst₁ (loop _ rfl))

/-- the comprehension's block behind its source's iterator -/
abbrev CBlock (prog : Program) (w : World) (A : Around) (E : Value → Shared → Prop) (env : Env) (elt target iter : Expr) (ifs : List Expr) (scope : Scope) (cl : List (Str × Addr)) (pos : Pos) (RR : Value → Addr → Result → Shared → Prop) (it : Value) (s₂ : Shared) : Prop :=
  wpAny (model prog w) A (newList []) (fun acc s₃ => wpAny (model prog w) A (newFunctionEnv scope env.globals cl [] env.qual none .none (some env)) (fun cenv s₄ =>
      codeAny (model prog w) A (.compStart (.ListComp elt [⟨target, iter, ifs, 0⟩] scope pos) 0 it acc { cenv with scope := relabel scope env }) (RR acc cenv.locals) s₄) E s₃) E s₂
def CFin (h₀ : Heap) (L : Addr) (m : Str → Option Value) (s₁ : Shared) (n : Nat) (G : Nat → Option Value → Prop) (news : List (Addr × Obj)) (RR : Value → Addr → Result → Shared → Prop) : Prop :=
  ∀ D C h tk m' (gs : List (Option Value)), Fr h₀ L h m → News h₀ L h ((D, lst (gs.filterMap id)) :: news) → h.Ns C m' → h₀.get? C = none → h₀.get? D = none → C ≠ L → D ≠ L → C ≠ D → (∀ p ∈ news, p.1 ≠ C) → (∀ p ∈ news, p.1 < D) → gs.length = n → (∀ j g, gs[j]? = some g → G j g) → RR (.ref D) C (.ok .next) { s₁ with heap := h, toks := tk }

theorem cfin_expr {n : Nat} {G : Nat → Option Value → Prop} {news : List (Addr × Obj)} {Q : Value → Shared → Prop}
    (fin : ∀ D h tk (gs : List (Option Value)), Fr h₀ L h m → News h₀ L h ((D, lst (gs.filterMap id)) :: news) → (∀ p ∈ news, p.1 < D) → gs.length = n → (∀ j g, gs[j]? = some g → G j g) → Q (.ref D) { s with heap := h, toks := tk }) :
    CFin h₀ L m s n G news (fun acc C => compPost (model prog w) A E none Q acc C) := by
  intro D C h tk m' gs F' N' hn hC₀ hD₀ hCL hDL hCD offC hlt hl hG
  refine ⟨m', hn, fun h'' hs'' => fin D h'' tk gs (F'.change hs'' hCL hC₀) (fun p hp => ?_) hlt hl hG⟩
  refine ⟨hs''.extBut _ _ ?_ (N' p hp).1, (N' p hp).2⟩
  rcases List.mem_cons.mp hp with rfl | hp
  · exact Ne.symm hCD
  · exact offC p hp
theorem cfin_assign {y : Str} {py : Pos} {n : Nat} {G : Nat → Option Value → Prop} {news : List (Addr × Obj)} {Q : Flow → Shared → Prop} (hy : env.kindOf y = some .local) (hp : (env.scope.kind == .class || (env.scope.kind == .module && env.locals != env.globals)) = false)
    (fin : ∀ D h tk (gs : List (Option Value)), Fr h₀ env.locals h (fun z => if z = y then some (.ref D) else m z) → News h₀ env.locals h ((D, lst (gs.filterMap id)) :: news) → (∀ p ∈ news, p.1 < D) → gs.length = n → (∀ j g, gs[j]? = some g → G j g) → Q .next { s with heap := h, toks := tk }) :
    CFin h₀ env.locals m s n G news (fun acc C => compPost (model prog w) A E (some (assign (.Name y py) env)) (fun _ s' => Q .next s') acc C) := by
  intro D C h tk m' gs F' N' hn hC₀ hD₀ hCL hDL hCD offC hlt hl hG
  show wpAny _ A (assign (.Name y py) env (.ref D)) _ _ _
  refine wpAny_assign_Name (wpAny_storeName_local hy F'.ns (fun h₂ hn₂ hs₂ => ?_) hp)
  have hL₀ : h₀.get? env.locals = none := Heap.get?_none_of_le F'.above
  have F₂ : Fr h₀ env.locals h₂ (fun z => if z = y then some (.ref D) else m z) := ⟨hn₂, fun b o e => hs₂.extBut b o (fun q => by rw [q, hL₀] at e; cases e) (F'.keep b o e), F'.above⟩
  refine ⟨m', hn.sameBut hs₂ hCL, fun h'' hs'' => fin D h'' _ gs (F₂.change hs'' hCL hC₀) (fun p hp => ?_) hlt hl hG⟩
  have z : h₂.get? p.1 = some p.2 := hs₂.extBut _ _ (N' p hp).2.1 (N' p hp).1
  refine ⟨hs''.extBut _ _ ?_ z, (N' p hp).2⟩
  rcases List.mem_cons.mp hp with rfl | hp
  · exact Ne.symm hCD
  · exact offC p hp

theorem ListComp_E {elt target iter : Expr} {ifs : List Expr} {scope : Scope} {cl : List (Str × Addr)} {pos : Pos} {Q : Value → Shared → Prop}
    (hclos : closureFor scope env = pure cl) (hkind : scope.kind = .function) (hnames : ∀ y ∈ scope.names, y.2 = .local → scope.names.lookup y.1 = some .local)
    (h : wpAny (model prog w) A (eval iter env) (fun xv s₁ => wpAny (model prog w) A (pyIter xv) (fun it s₂ => CBlock prog w A E env elt target iter ifs scope cl pos (fun acc C => compPost (model prog w) A E none Q acc C) it s₂) E s₁) E s)
    (hs : ∀ x, foldedSetIterable iter env x = pure x := by intro _; rfl) :
    wpAny (model prog w) A (eval (.ListComp elt [⟨target, iter, ifs, 0⟩] scope pos) env) Q E s := by
  rw [eval_ListComp]
  exact wpAny_comprehension_free (use := none) rfl hs hclos hkind hnames h
theorem ListComp_A {elt target iter : Expr} {ifs : List Expr} {y : Str} {py : Pos} {scope : Scope} {cl : List (Str × Addr)} {pos spos : Pos} {Q : Flow → Shared → Prop}
    (hsw : swapsWith (.ListComp elt [⟨target, iter, ifs, 0⟩] scope pos) (some (.Name y py)) spos.line env = pure true)
    (hclos : closureFor scope env = pure cl) (hkind : scope.kind = .function) (hnames : ∀ y ∈ scope.names, y.2 = .local → scope.names.lookup y.1 = some .local)
    (h : wpAny (model prog w) A (eval iter env) (fun xv s₁ => wpAny (model prog w) A (pyIter xv) (fun it s₂ => CBlock prog w A E env elt target iter ifs scope cl pos (fun acc C => compPost (model prog w) A E (some (assign (.Name y py) env)) (fun _ s' => Q .next s') acc C) it s₂) E s₁) E s)
    (hs : ∀ x, foldedSetIterable iter env x = pure x := by intro _; rfl) :
    wpAny (model prog w) A (exec (.Assign [.Name y py] (.ListComp elt [⟨target, iter, ifs, 0⟩] scope pos) spos) env) Q E s := by
  rw [exec_Assign_Name_used _ _ _ _ hsw]
  refine wpAny_bind (wpAny_standAt (wpAny_bind ?_))
  show wpAny _ A (do let _ ← comprehension (.ListComp elt [⟨target, iter, ifs, 0⟩] scope pos) scope env _ (newList []) false (eval iter env) (some (assign (.Name y py) env))) _ _ s
  exact wpAny_bind (wpAny_mono (wpAny_comprehension_free (use := some (assign (.Name y py) env)) (Q := fun _ s' => Q .next s') rfl hs hclos hkind hnames h) (fun _ s' hq => wpAny_pure (wpAny_pure hq)) fun _ _ e => e)

/-- the target's binding: a name -/
theorem bind_name {scope : Scope} {cl : List (Str × Addr)} {x : Str} {px : Pos} {P : Nat → Value → Prop} {s₂ : Shared} {news : List (Addr × Obj)} (hkind : scope.kind = .function) (hx : scope.names.lookup x = some .local) :
    ∀ i v C h tk m' (E' : Value → Shared → Prop), P i v → h.Ns C m' → Fr h₀ L h m → News h₀ L h news → C ≠ L → h₀.get? C = none → (∀ p ∈ news, p.1 ≠ C) →
      wpAny (model prog w) A (assign (.Name x px) (compEnvC scope cl C env) v) (fun _ s₃ => ∃ h₃ tk₃ m₃, s₃ = { s₂ with heap := h₃, toks := tk₃ } ∧ h₃.Ns C m₃ ∧ (∀ b o, b ≠ C → h.get? b = some o → h₃.get? b = some o) ∧ ∃ v, P i v ∧ m₃ x = some v) E' { s₂ with heap := h, toks := tk } := by
  intro i v C h tk m' E' hP hn _ _ _ _ _
  refine wpAny_assign_Name (wpAny_storeName_local (lookup_relabel_local hx) hn (fun h₃ hn₃ hs₃ => ?_) (by simp [compEnvC, relabel, hkind]))
  exact ⟨h₃, _, _, rfl, hn₃, fun b o hb e => hs₃.extBut b o hb e, v, hP, by simp⟩
/-- a pair of names, out of a list of two -/
theorem bind_pair {scope : Scope} {cl : List (Str × Addr)} {x x₂ : Str} {px px₂ tp : Pos} {kk : Nat} {P : Nat → Value → Prop} {s₂ : Shared} {news : List (Addr × Obj)} (hh : A.handled = none) (hkind : scope.kind = .function) (hx : scope.names.lookup x = some .local) (hx₂ : scope.names.lookup x₂ = some .local) (hxx : x ≠ x₂) (B2 : Nat → Value → Value → Prop)
    (hP : ∀ i v, P i v → ∃ t v₁ v₂ n, v = .ref t ∧ (t, W.listOf #[v₁, v₂] n) ∈ news ∧ B2 i v₁ v₂) :
    ∀ i v C h tk m' (E' : Value → Shared → Prop), P i v → h.Ns C m' → Fr h₀ L h m → News h₀ L h news → C ≠ L → h₀.get? C = none → (∀ p ∈ news, p.1 ≠ C) →
      wpAny (model prog w) A (assign (.Tuple [.Name x px, .Name x₂ px₂] kk tp) (compEnvC scope cl C env) v) (fun _ s₃ => ∃ h₃ tk₃ m₃, s₃ = { s₂ with heap := h₃, toks := tk₃ } ∧ h₃.Ns C m₃ ∧ (∀ b o, b ≠ C → h.get? b = some o → h₃.get? b = some o) ∧
        ∃ v₁ v₂, B2 i v₁ v₂ ∧ m₃ x = some v₁ ∧ m₃ x₂ = some v₂) E' { s₂ with heap := h, toks := tk } := by
  intro i v C h tk m' E' hPv hn F N hCL hC₀ hoff
  obtain ⟨t, v₁, v₂, n, rfl, hm, hb2⟩ := hP i v hPv
  have hl : h.IsList t #[v₁, v₂] := ⟨_, (N _ hm).1, rfl, n, rfl⟩
  rw [arm_assign_Tuple]
  refine wpAny_bind (wpAny_standAt ?_)
  unfold unpack
  refine wpAny_bind (wpAny_holding (kun_itemsOf (s := { s₂ with heap := h, toks := tk }) (items := #[v₁, v₂]) hh hl fun h' he => ?_))
  have hn' : h'.Ns C m' := by
    refine hn.at' fun o e => he C o (Nat.ne_of_lt (Heap.lt_size e)) e
  have hk' : ∀ b o, h.get? b = some o → h'.get? b = some o := fun b o e => he b o (Nat.ne_of_lt (Heap.lt_size e)) e
  show wpAny _ _ (holding [v₂] (assign (.Name x px) (compEnvC scope cl C env) v₁) >>= fun _ => (holding [] (assign (.Name x₂ px₂) (compEnvC scope cl C env) v₂) >>= fun _ => pure ())) _ _ _
  have hp : ((compEnvC scope cl C env).scope.kind == .class || ((compEnvC scope cl C env).scope.kind == .module && (compEnvC scope cl C env).locals != (compEnvC scope cl C env).globals)) = false := by simp [compEnvC, relabel, hkind]
  refine wpAny_bind (wpAny_holding (wpAny_assign_Name (wpAny_storeName_local (lookup_relabel_local hx) hn' (fun h₃ hn₃ hs₃ => ?_) hp)))
  refine wpAny_bind (wpAny_holding (wpAny_assign_Name (wpAny_storeName_local (lookup_relabel_local hx₂) hn₃ (fun h₄ hn₄ hs₄ => wpAny_pure ?_) hp)))
  exact ⟨h₄, _, _, rfl, hn₄, fun b o hb e => hs₄.extBut b o hb (hs₃.extBut b o hb (hk' b o e)), v₁, v₂, hb2, by simp [hxx], by simp⟩

theorem csrc_list {elt target iter : Expr} {ifs : List Expr} {scope : Scope} {cl : List (Str × Addr)} {pos : Pos} {RR : Value → Addr → Result → Shared → Prop} {news : List (Addr × Obj)} {ax : Addr} {its : List Value} {c : Nat} (Bd : Nat → (Str → Option Value) → Prop) (G : Nat → Option Value → Prop)
    (hh : A.handled = none) (hcell : ∀ y ∈ scope.names, y.2 ≠ .cell) (hkind : scope.kind = .function) (F : Fr h₀ L s.heap m) (N : News h₀ L s.heap news) (hm : (ax, W.listOf its.toArray c) ∈ news) (hsz : its.length ≤ sizeLine)
    (ht : ∀ I i v s' (Q : Unit → Shared → Prop) (E' : Value → Shared → Prop), its[i]? = some v → s'.heap.IsListIter I ax (i + 1) → Q () s' → wpAny (model prog w) A (letOwnedTupleGo target (.ref I) v) Q E' s')
    (hass : ∀ i v C h tk m' (E' : Value → Shared → Prop), its[i]? = some v → h.Ns C m' → Fr h₀ L h m → News h₀ L h news → C ≠ L → h₀.get? C = none → (∀ p ∈ news, p.1 ≠ C) →
      wpAny (model prog w) A (assign target (compEnvC scope cl C env) v) (fun _ s₃ => ∃ h₃ tk₃ m₃, s₃ = { s with heap := h₃, toks := tk₃ } ∧ h₃.Ns C m₃ ∧ (∀ b o, b ≠ C → h.get? b = some o → h₃.get? b = some o) ∧ Bd i m₃) E' { s with heap := h, toks := tk })
    (turn : ∀ i, i < its.length → CTurn prog w A h₀ L m env elt ifs scope cl s news (Bd i) (G i))
    (fin : CFin h₀ L m s its.length G news RR) :
    wpAny (model prog w) A (pyIter (.ref ax)) (fun it s₂ => CBlock prog w A E env elt target iter ifs scope cl pos RR it s₂) E s := by
  have hl : s.heap.IsList ax its.toArray := ⟨_, (N _ hm).1, rfl, c, rfl⟩
  have hlt : ax < s.heap.objs.size := Heap.lt_size (N _ hm).1
  refine wpAny_pyIter_list hl ?_
  have up : ∀ b o, s.heap.get? b = some o → (s.heap.push { cls := .type "list_iterator", data := .fields #[.ref ax, .int 0 0] }).get? b = some o := fun b o e => Heap.get?_push_of_some _ e
  have W := Walks.list (prog := prog) (w := w) hh s.heap.objs.size ax (Nat.ne_of_lt hlt) its.toArray
  have hs1 : its.toArray.size = its.length := by simp
  rw [hs1] at W
  refine comp_block Bd G W hsz (fun i h st => by obtain ⟨o, e, _⟩ := st.1; exact ⟨o, e⟩) ?_ ?_ hcell hkind ⟨⟨_, Heap.get?_push_size _ rfl, rfl, rfl⟩, hl.push _⟩ (fun b hb => ?_)
    (F.keeps up) (N.grown up) (Nat.ne_of_lt F.ns.lt) (next_is_new F) (fun p hp => Nat.ne_of_lt (Heap.lt_size (N p hp).1)) ?_ turn fin
  · intro i h h' o st e e' _ N'
    refine ⟨?_, _, (N' _ hm).1, rfl, c, rfl⟩
    obtain ⟨o', q, r⟩ := st.1
    rw [e] at q; cases q
    exact ⟨o, e', r⟩
  · intro i v s' Q E' hP hst hQ
    exact ht _ i v s' Q E' (by simpa using hP) hst.1 hQ
  · show b < (s.heap.push _).objs.size
    rw [Heap.size_push]
    rcases List.mem_cons.mp hb with rfl | hb
    · exact Nat.lt_succ_self _
    · rw [List.mem_singleton.mp hb]; exact Nat.lt_succ_of_lt hlt
  · intro i v C h tk m' E' hP
    exact hass i v C h tk m' E' (by simpa using hP)
theorem csrc_base {elt target iter : Expr} {ifs : List Expr} {scope : Scope} {cl : List (Str × Addr)} {pos : Pos} {RR : Value → Addr → Result → Shared → Prop} {news : List (Addr × Obj)} {ax : Addr} {its : List Value} (Bd : Nat → (Str → Option Value) → Prop) (G : Nat → Option Value → Prop)
    (hh : A.handled = none) (hcell : ∀ y ∈ scope.names, y.2 ≠ .cell) (hkind : scope.kind = .function) (F : Fr h₀ L s.heap m) (N : News h₀ L s.heap news) (hb : h₀.IsList ax its.toArray) (hsz : its.length ≤ sizeLine)
    (ht : ∀ I i v s' (Q : Unit → Shared → Prop) (E' : Value → Shared → Prop), its[i]? = some v → s'.heap.IsListIter I ax (i + 1) → Q () s' → wpAny (model prog w) A (letOwnedTupleGo target (.ref I) v) Q E' s')
    (hass : ∀ i v C h tk m' (E' : Value → Shared → Prop), its[i]? = some v → h.Ns C m' → Fr h₀ L h m → News h₀ L h news → C ≠ L → h₀.get? C = none → (∀ p ∈ news, p.1 ≠ C) →
      wpAny (model prog w) A (assign target (compEnvC scope cl C env) v) (fun _ s₃ => ∃ h₃ tk₃ m₃, s₃ = { s with heap := h₃, toks := tk₃ } ∧ h₃.Ns C m₃ ∧ (∀ b o, b ≠ C → h.get? b = some o → h₃.get? b = some o) ∧ Bd i m₃) E' { s with heap := h, toks := tk })
    (turn : ∀ i, i < its.length → CTurn prog w A h₀ L m env elt ifs scope cl s news (Bd i) (G i))
    (fin : CFin h₀ L m s its.length G news RR) :
    wpAny (model prog w) A (pyIter (.ref ax)) (fun it s₂ => CBlock prog w A E env elt target iter ifs scope cl pos RR it s₂) E s := by
  have hl : s.heap.IsList ax its.toArray := hb.at fun o e => F.keep ax o e
  have hlt : ax < s.heap.objs.size := by obtain ⟨_, e, _⟩ := hl; exact Heap.lt_size e
  refine wpAny_pyIter_list hl ?_
  have up : ∀ b o, s.heap.get? b = some o → (s.heap.push { cls := .type "list_iterator", data := .fields #[.ref ax, .int 0 0] }).get? b = some o := fun b o e => Heap.get?_push_of_some _ e
  have W := Walks.list (prog := prog) (w := w) hh s.heap.objs.size ax (Nat.ne_of_lt hlt) its.toArray
  have hs1 : its.toArray.size = its.length := by simp
  rw [hs1] at W
  refine comp_block Bd G W hsz (fun i h st => by obtain ⟨o, e, _⟩ := st.1; exact ⟨o, e⟩) ?_ ?_ hcell hkind ⟨⟨_, Heap.get?_push_size _ rfl, rfl, rfl⟩, hl.push _⟩ (fun b hb => ?_)
    (F.keeps up) (N.grown up) (Nat.ne_of_lt F.ns.lt) (next_is_new F) (fun p hp => Nat.ne_of_lt (Heap.lt_size (N p hp).1)) ?_ turn fin
  · intro i h h' o st e e' k N'
    refine ⟨?_, hb.at fun o e => k _ _ e⟩
    obtain ⟨o', q, r⟩ := st.1
    rw [e] at q; cases q
    exact ⟨o, e', r⟩
  · intro i v s' Q E' hP hst hQ
    exact ht _ i v s' Q E' (by simpa using hP) hst.1 hQ
  · show b < (s.heap.push _).objs.size
    rw [Heap.size_push]
    rcases List.mem_cons.mp hb with rfl | hb
    · exact Nat.lt_succ_self _
    · rw [List.mem_singleton.mp hb]; exact Nat.lt_succ_of_lt hlt
  · intro i v C h tk m' E' hP
    exact hass i v C h tk m' E' (by simpa using hP)
theorem csrc_range {elt iter : Expr} {ifs : List Expr} {x : Str} {px : Pos} {scope : Scope} {cl : List (Str × Addr)} {pos : Pos} {RR : Value → Addr → Result → Shared → Prop} {news : List (Addr × Obj)} {r : Addr} {t₀ u₀ v₀ : Tok} {n : Nat} (a b : Int) (G : Nat → Option Value → Prop)
    (hh : A.handled = none) (hcell : ∀ y ∈ scope.names, y.2 ≠ .cell) (hkind : scope.kind = .function) (hx : scope.names.lookup x = some .local) (F : Fr h₀ L s.heap m) (N : News h₀ L s.heap news) (hr : IsRange s.heap r a b 1 t₀ u₀ v₀) (hsmall : Builtin.Range.small a b 1 = true) (hn : Builtin.Range.rangeSize a b 1 = (n : Int)) (hsz : n ≤ sizeLine)
    (turn : ∀ i, i < n → CTurn prog w A h₀ L m env elt ifs scope cl s news (fun m₃ => ∃ t, m₃ x = some (.int (a + (i : Int)) t)) (G i))
    (fin : CFin h₀ L m s n G news RR) :
    wpAny (model prog w) A (pyIter (.ref r)) (fun it s₂ => CBlock prog w A E env elt (.Name x px) iter ifs scope cl pos RR it s₂) E s := by
  refine wpAny_pyIter_range hr hsmall ?_
  have hb := bind_name (prog := prog) (w := w) (A := A) (env := env) (h₀ := h₀) (L := L) (m := m) (cl := cl) (px := px) (P := fun (i : Nat) (v : Value) => ∃ t, v = .int (a + (i : Int)) t) (s₂ := s) (news := news) hkind hx
  refine comp_block (fun i m₃ => ∃ t, m₃ x = some (.int (a + (i : Int)) t)) G (range_walks hh a n) hsz (fun i h st => ⟨_, st⟩) ?_ ?_ hcell hkind (by show IsRangeIter _ _ _ _ _; rw [hn]; simpa using Heap.get?_push_size _ rfl) (fun b hb => ?_)
    (F.keeps fun _ _ e => Heap.get?_push_of_some _ e) (N.grown fun _ _ e => Heap.get?_push_of_some _ e) (Nat.ne_of_lt F.ns.lt) (next_is_new F) (fun p hp => Nat.ne_of_lt (Heap.lt_size (N p hp).1)) ?_ turn fin
  · intro i h h' o st e e' _ _
    have st' : h.get? _ = some _ := st
    show h'.get? _ = some _
    rw [e', ← e]; exact st'
  · intro i v s' Q E' _ _ hQ
    exact wpAny_pure hQ
  · rw [List.mem_singleton.mp hb]
    show s.heap.objs.size < (s.heap.push _).objs.size
    rw [Heap.size_push]; exact Nat.lt_succ_self _
  · intro i v C h tk m' E' hP h1 h2 h3 h4 h5 h6
    refine wpAny_mono (hb i v C h tk m' E' hP h1 h2 h3 h4 h5 h6) ?_ fun _ _ e => e
    rintro _ s₃ ⟨h₃, tk₃, m₃, e, hn₃, hk₃, v', ⟨t, rfl⟩, hv⟩
    exact ⟨h₃, tk₃, m₃, e, hn₃, hk₃, t, hv⟩
theorem csrc_str {elt iter : Expr} {ifs : List Expr} {x : Str} {px : Pos} {scope : Scope} {cl : List (Str × Addr)} {pos : Pos} {RR : Value → Addr → Result → Shared → Prop} {news : List (Addr × Obj)} {p : List Nat} {tx : Tok} (G : Nat → Option Value → Prop)
    (hh : A.handled = none) (hcell : ∀ y ∈ scope.names, y.2 ≠ .cell) (hkind : scope.kind = .function) (hx : scope.names.lookup x = some .local) (F : Fr h₀ L s.heap m) (N : News h₀ L s.heap news) (hsz : p.length ≤ sizeLine)
    (turn : ∀ i, i < p.length → CTurn prog w A h₀ L m env elt ifs scope cl s news (fun m₃ => ∃ c t, p[i]? = some c ∧ m₃ x = some (.str (S [c]) t)) (G i))
    (fin : CFin h₀ L m s p.length G news RR) :
    wpAny (model prog w) A (pyIter (.str (S p) tx)) (fun it s₂ => CBlock prog w A E env elt (.Name x px) iter ifs scope cl pos RR it s₂) E s := by
  have hs1 : (S p).cps.size = p.length := by simp [S]
  have hb := bind_name (prog := prog) (w := w) (A := A) (env := env) (h₀ := h₀) (L := L) (m := m) (cl := cl) (px := px) (P := SignAt (S p)) (s₂ := s) (news := news) hkind hx
  have key : ∀ (o : Obj) (St : Nat → Heap → Prop), Walks prog w A s.heap.objs.size [s.heap.objs.size] [s.heap.objs.size] (S p).cps.size (SignAt (S p)) St → St 0 (s.heap.push o) → (∀ i h, St i h → ∃ o, h.get? s.heap.objs.size = some o) →
      CBlock prog w A E env elt (.Name x px) iter ifs scope cl pos RR (.ref s.heap.objs.size) { s with heap := s.heap.push o } := by
    intro o St W hst hst0
    rw [hs1] at W
    refine comp_block (fun i m₃ => ∃ c t, p[i]? = some c ∧ m₃ x = some (.str (S [c]) t)) G W hsz hst0 ?_ ?_ hcell hkind hst (fun b hb => ?_)
      (F.keeps fun _ _ e => Heap.get?_push_of_some _ e) (N.grown fun _ _ e => Heap.get?_push_of_some _ e) (Nat.ne_of_lt F.ns.lt) (next_is_new F) (fun p hp => Nat.ne_of_lt (Heap.lt_size (N p hp).1)) ?_ turn fin
    · intro i h h' o st e e' _ _
      refine W.frame i h h' st fun b hb o' ho' => ?_
      rw [List.mem_singleton.mp hb] at ho' ⊢
      rw [e] at ho'; cases ho'; exact e'
    · intro i v s' Q E' _ _ hQ
      exact wpAny_pure hQ
    · rw [List.mem_singleton.mp hb]
      show s.heap.objs.size < (s.heap.push _).objs.size
      rw [Heap.size_push]; exact Nat.lt_succ_self _
    · intro i v C h tk m' E' hP h1 h2 h3 h4 h5 h6
      refine wpAny_mono (hb i v C h tk m' E' hP h1 h2 h3 h4 h5 h6) ?_ fun _ _ e => e
      rintro _ s₃ ⟨h₃, tk₃, m₃, e, hn₃, hk₃, v', ⟨c, u, hc, rfl⟩, hv⟩
      exact ⟨h₃, tk₃, m₃, e, hn₃, hk₃, c, u, by simpa [S] using hc, hv⟩
  cases ha : (S p).cps.all (· < 128)
  · exact wpAny_pyIter_wide ha (key _ _ (Walks.strWide hh _ (S p) tx) ⟨_, Heap.get?_push_size _ rfl, rfl, rfl⟩ (fun i h st => by obtain ⟨o, e, _⟩ := st; exact ⟨o, e⟩))
  · exact wpAny_pyIter_ascii ha (key _ _ (Walks.strAscii hh _ (S p) tx) ⟨_, Heap.get?_push_size _ rfl, rfl, rfl⟩ (fun i h st => by obtain ⟨o, e, _⟩ := st; exact ⟨o, e⟩))
/-- over ints of a list of the ledger -/
theorem csrc_ints {elt iter : Expr} {ifs : List Expr} {x : Str} {px : Pos} {scope : Scope} {cl : List (Str × Addr)} {pos : Pos} {RR : Value → Addr → Result → Shared → Prop} {news : List (Addr × Obj)} {ax : Addr} {vs : List Value} {ns : List Int} {c : Nat} (G : Nat → Option Value → Prop)
    (hh : A.handled = none) (hcell : ∀ y ∈ scope.names, y.2 ≠ .cell) (hkind : scope.kind = .function) (hx : scope.names.lookup x = some .local) (F : Fr h₀ L s.heap m) (N : News h₀ L s.heap news) (hm : (ax, W.listOf vs.toArray c) ∈ news) (hi : IntsAre vs ns) (hsz : ns.length ≤ sizeLine)
    (turn : ∀ i k, ns[i]? = some k → CTurn prog w A h₀ L m env elt ifs scope cl s news (fun m₃ => ∃ t, m₃ x = some (.int k t)) (G i))
    (fin : CFin h₀ L m s ns.length G news RR) :
    wpAny (model prog w) A (pyIter (.ref ax)) (fun it s₂ => CBlock prog w A E env elt (.Name x px) iter ifs scope cl pos RR it s₂) E s := by
  have hl : vs.length = ns.length := hi.length
  rw [← hl] at fin hsz
  refine csrc_list (fun i m₃ => ∃ k t, ns[i]? = some k ∧ m₃ x = some (.int k t)) G hh hcell hkind F N hm hsz ?_ ?_ ?_ fin
  · intro I i v s' Q E' _ _ hq
    exact wpAny_pure hq
  · intro i v C h tk m' E' hP h1 h2 h3 h4 h5 h6
    refine wpAny_mono (bind_name (P := fun i v => vs[i]? = some v) hkind hx i v C h tk m' E' hP h1 h2 h3 h4 h5 h6) ?_ fun _ _ e => e
    rintro _ s₃ ⟨h₃, tk₃, m₃, e, hn₃, hk₃, v', hv', hv⟩
    have hlt : i < ns.length := by rw [← hl]; exact (List.getElem?_eq_some_iff.mp hv').1
    obtain ⟨t, ht⟩ := hi.get i ns[i] (by simp [hlt])
    rw [hv'] at ht
    cases ht
    exact ⟨h₃, tk₃, m₃, e, hn₃, hk₃, ns[i], t, by simp [hlt], hv⟩
  · intro i hi' I oI C oC D oD m₃ h tk E' hB
    obtain ⟨k, t, hk, hv⟩ := hB
    exact turn i k hk I oI C oC D oD m₃ h tk E' ⟨t, hv⟩
end comp
theorem gs_texts : ∀ {gs : List (Option Value)}, (∀ (j : Nat) (g : Option Value), gs[j]? = some g → ∃ (c : Nat) (t : Tok), g = some (Value.str (S [c]) t)) → ∃ cs : List Nat, cs.length = gs.length ∧ StrsAre (gs.filterMap id) ((cs.map fun c => [c]).map S)
  | [], _ => ⟨[], rfl, .nil⟩
  | g :: gs, k => by
    obtain ⟨c, t, e⟩ := k 0 g rfl
    subst e
    obtain ⟨cs, e1, e2⟩ := gs_texts (gs := gs) fun j g hj => k (j + 1) g (by simpa using hj)
    exact ⟨c :: cs, by simp [e1], .cons _ t e2⟩
theorem flat_ones (cs : List Nat) : (cs.map fun c => [c]).flatten = cs := by
  induction cs with
  | nil => rfl
  | cons c cs ih => simp [ih]
end Mine
end

section
open PySem PySem.W PyProof.Rows
namespace Mine
def sepIx (p sep alt : List Nat) : Int := if alt = [] then rf p sep else if rf p alt > rf p sep then rf p alt else rf p sep
/-- a place from lo on ahead of hi holds a sign that isn't ext -/
def Seen (p ext : List Nat) (lo hi : Int) : Prop := ∃ k : Nat, lo ≤ k ∧ (k : Int) < hi ∧ (p.drop k).take 1 ≠ ext
open Classical in
noncomputable def spl (p sep alt ext : List Nat) : List Nat × List Nat :=
  if sepIx p sep alt < rf p ext ∧ Seen p ext (sepIx p sep alt + 1) (rf p ext) then (p.take (rf p ext).toNat, p.drop (rf p ext).toNat) else (p, [])

theorem at_one (p : List Nat) (c i : Nat) : At p [c] i ↔ p[i]? = some c := by
  unfold At
  constructor
  · rintro ⟨h1, h2⟩
    have hi : i < p.length := by simp at h1; omega
    rw [List.drop_eq_getElem_cons hi, List.length_singleton, List.take_succ_cons] at h2
    have h3 : p[i] = c := (List.cons.inj h2).1
    rw [List.getElem?_eq_getElem hi, h3]
  · intro h
    obtain ⟨hi, e⟩ := List.getElem?_eq_some_iff.mp h
    refine ⟨by simp; omega, ?_⟩
    rw [List.drop_eq_getElem_cons hi]
    simp [e]
theorem rf_one (p : List Nat) (c : Nat) : (rf p [c] = -1 ∧ ∀ i : Nat, p[i]? ≠ some c) ∨ ∃ i : Nat, rf p [c] = (i : Int) ∧ p[i]? = some c ∧ ∀ k : Nat, i < k → p[k]? ≠ some c := by
  have h := rf_spec p [c]
  simp only [at_one] at h
  exact h
/-- one sign or none as altsep -/
def OneAlt (alt : List Nat) : Prop := alt = [] ∨ ∃ b, alt = [b]
theorem sepIx_spec {p alt : List Nat} {a : Nat} (ha : OneAlt alt) : (sepIx p [a] alt = -1 ∧ ∀ (i c : Nat), p[i]? = some c → c ∉ a :: alt) ∨
    ∃ i : Nat, sepIx p [a] alt = (i : Int) ∧ (∃ c ∈ a :: alt, p[i]? = some c) ∧ ∀ (k c : Nat), i < k → p[k]? = some c → c ∉ a :: alt := by
  rcases ha with rfl | ⟨b, rfl⟩
  · have e : sepIx p [a] [] = rf p [a] := by simp [sepIx]
    rw [e]
    rcases rf_one p a with ⟨h1, h2⟩ | ⟨i, h1, h2, h3⟩
    · exact .inl ⟨h1, fun i c hc hm => by have : c = a := by simpa using hm
                                          subst this; exact h2 i hc⟩
    · exact .inr ⟨i, h1, ⟨a, by simp, h2⟩, fun k c hk hc hm => by have : c = a := by simpa using hm
                                                                  subst this; exact h3 k hk hc⟩
  · have e : sepIx p [a] [b] = if rf p [b] > rf p [a] then rf p [b] else rf p [a] := by simp [sepIx]
    rw [e]
    rcases rf_one p a with ⟨h1, h2⟩ | ⟨i, h1, h2, h3⟩ <;> rcases rf_one p b with ⟨g1, g2⟩ | ⟨j, g1, g2, g3⟩
    · left
      refine ⟨by rw [h1, g1]; simp, fun i c hc hm => ?_⟩
      have : c = a ∨ c = b := by simpa using hm
      rcases this with rfl | rfl
      · exact h2 i hc
      · exact g2 i hc
    · right
      refine ⟨j, by rw [h1, g1, if_pos (by omega)], ⟨b, by simp, g2⟩, fun k c hk hc hm => ?_⟩
      have : c = a ∨ c = b := by simpa using hm
      rcases this with rfl | rfl
      · exact h2 k hc
      · exact g3 k hk hc
    · right
      refine ⟨i, by rw [h1, g1, if_neg (by omega)], ⟨a, by simp, h2⟩, fun k c hk hc hm => ?_⟩
      have : c = a ∨ c = b := by simpa using hm
      rcases this with rfl | rfl
      · exact h3 k hk hc
      · exact g2 k hc
    · right
      by_cases hij : (j : Int) > (i : Int)
      · refine ⟨j, by rw [h1, g1, if_pos hij], ⟨b, by simp, g2⟩, fun k c hk hc hm => ?_⟩
        have : c = a ∨ c = b := by simpa using hm
        rcases this with rfl | rfl
        · exact h3 k (by omega) hc
        · exact g3 k hk hc
      · refine ⟨i, by rw [h1, g1, if_neg hij], ⟨a, by simp, h2⟩, fun k c hk hc hm => ?_⟩
        have : c = a ∨ c = b := by simpa using hm
        rcases this with rfl | rfl
        · exact h3 k hk hc
        · exact g3 k (by omega) hc
/-- a text that ends with a separator, or is empty -/
def EndsSep (seps pre : List Nat) : Prop := pre = [] ∨ ∃ p c, pre = p ++ [c] ∧ c ∈ seps
theorem sepIx_at {pre q alt : List Nat} {a : Nat} (ha : OneAlt alt) (hpre : EndsSep (a :: alt) pre) (hq : ∀ c ∈ q, c ∉ a :: alt) : sepIx (pre ++ q) [a] alt + 1 = pre.length := by
  rcases sepIx_spec (p := pre ++ q) (a := a) ha with ⟨h1, h2⟩ | ⟨i, h1, ⟨c, hc, hi⟩, h3⟩
  · rcases hpre with rfl | ⟨p, c, rfl, hc⟩
    · rw [h1]; simp
    · exact absurd hc (h2 p.length c (by simp))
  · rw [h1]
    have hlt : i < pre.length := by
      rcases Nat.lt_or_ge i pre.length with h | h
      · exact h
      · rw [List.getElem?_append_right h] at hi
        exact absurd hc (hq c (List.mem_of_getElem? hi))
    rcases hpre with rfl | ⟨p, c', rfl, hc'⟩
    · simp at hlt
    · simp at hlt
      rcases Nat.lt_or_ge i p.length with h | h
      · exact absurd hc' (h3 p.length c' h (by simp))
      · have : i = p.length := by omega
        simp [this]
/-- the ending comes off -/
theorem spl_cut {pre q v alt : List Nat} {a e : Nat} (ha : OneAlt alt) (he : e ∉ a :: alt) (hpre : EndsSep (a :: alt) pre) (hq : ∀ c ∈ q, c ∉ a :: alt) (hv : ∀ c ∈ v, c ∉ a :: alt) (hve : e ∉ v) (hs : ∃ c ∈ q, c ≠ e) :
    spl (pre ++ (q ++ e :: v)) [a] alt [e] = (pre ++ q, e :: v) := by
  have hI := sepIx_at (pre := pre) (q := q ++ e :: v) ha hpre (by
    intro c hc
    rcases List.mem_append.mp hc with hc | hc
    · exact hq c hc
    · rcases List.mem_cons.mp hc with rfl | hc
      · exact he
      · exact hv c hc)
  have hD : rf (pre ++ (q ++ e :: v)) [e] = ((pre ++ q).length : Int) := by
    rcases rf_one (pre ++ (q ++ e :: v)) e with ⟨h1, h2⟩ | ⟨i, h1, h2, h3⟩
    · exact absurd (by rw [← List.append_assoc]; simp) (h2 (pre ++ q).length)
    · rw [h1]
      rcases Nat.lt_trichotomy i (pre ++ q).length with h | h | h
      · exact absurd (by rw [← List.append_assoc]; simp) (h3 (pre ++ q).length h)
      · rw [h]
      · exfalso
        rw [← List.append_assoc, List.getElem?_append_right (Nat.le_of_lt h)] at h2
        obtain ⟨j, hj⟩ : ∃ j, i - (pre ++ q).length = j + 1 := ⟨i - (pre ++ q).length - 1, by omega⟩
        rw [hj, List.getElem?_cons_succ] at h2
        exact hve (List.mem_of_getElem? h2)
  obtain ⟨c, hc, hce⟩ := hs
  obtain ⟨j, hj⟩ := List.mem_iff_getElem?.mp hc
  have hjl : j < q.length := (List.getElem?_eq_some_iff.mp hj).1
  unfold spl
  rw [if_pos]
  · rw [hD, Int.toNat_natCast, ← List.append_assoc, List.take_left, List.drop_left]
  · refine ⟨by rw [hD]; simp only [List.length_append] at *; omega, pre.length + j, by omega, by rw [hD]; simp; omega, ?_⟩
    have e1 : (pre ++ (q ++ e :: v)).drop (pre.length + j) = (q ++ e :: v).drop j := by
      rw [List.drop_append]; simp
    rw [e1, List.drop_append_of_le_length (by omega), List.drop_eq_getElem_cons hjl]
    have e2 : q[j] = c := by
      have := List.getElem?_eq_getElem hjl
      rw [this] at hj; simpa using hj
    simp [e2, hce]
/-- nothing but full stops ahead of the last one -/
theorem spl_stuck {pre q v alt : List Nat} {a e : Nat} (ha : OneAlt alt) (he : e ∉ a :: alt) (hpre : EndsSep (a :: alt) pre) (hv : ∀ c ∈ v, c ∉ a :: alt) (hve : e ∉ v) (hs : ∀ c ∈ q, c = e) :
    spl (pre ++ (q ++ e :: v)) [a] alt [e] = (pre ++ (q ++ e :: v), []) := by
  have hI := sepIx_at (pre := pre) (q := q ++ e :: v) ha hpre (by
    intro c hc
    rcases List.mem_append.mp hc with hc | hc
    · rw [hs c hc]; exact he
    · rcases List.mem_cons.mp hc with rfl | hc
      · exact he
      · exact hv c hc)
  unfold spl
  rw [if_neg]
  rintro ⟨_, k, hk1, hk2, hk3⟩
  have hD : rf (pre ++ (q ++ e :: v)) [e] ≤ ((pre ++ q).length : Int) := by
    rcases rf_one (pre ++ (q ++ e :: v)) e with ⟨h1, h2⟩ | ⟨i, h1, h2, h3⟩
    · rw [h1]; omega
    · rw [h1]
      rcases Nat.lt_or_ge (pre ++ q).length i with h | h
      · exfalso
        rw [← List.append_assoc, List.getElem?_append_right (Nat.le_of_lt h)] at h2
        obtain ⟨j, hj⟩ : ∃ j, i - (pre ++ q).length = j + 1 := ⟨i - (pre ++ q).length - 1, by omega⟩
        rw [hj, List.getElem?_cons_succ] at h2
        exact hve (List.mem_of_getElem? h2)
      · omega
  have hkl : k < (pre ++ q).length := by omega
  have hkp : pre.length ≤ k := by omega
  refine hk3 ?_
  obtain ⟨j, rfl⟩ : ∃ j, k = pre.length + j := ⟨k - pre.length, by omega⟩
  have hjl : j < q.length := by rw [List.length_append] at hkl; omega
  have e1 : (pre ++ (q ++ e :: v)).drop (pre.length + j) = (q ++ e :: v).drop j := by
    rw [List.drop_append]; simp
  rw [e1, List.drop_append_of_le_length (by omega), List.drop_eq_getElem_cons hjl]
  simp [hs q[j] (List.getElem_mem hjl)]
/-- no full stop in the last name -/
theorem spl_none {pre v alt : List Nat} {a e : Nat} (ha : OneAlt alt) (hpre : EndsSep (a :: alt) pre) (hv : ∀ c ∈ v, c ∉ a :: alt) (hve : e ∉ v) :
    spl (pre ++ v) [a] alt [e] = (pre ++ v, []) := by
  have hI := sepIx_at (pre := pre) (q := v) ha hpre hv
  unfold spl
  rw [if_neg]
  rintro ⟨h, _⟩
  rcases rf_one (pre ++ v) e with ⟨h1, h2⟩ | ⟨i, h1, h2, h3⟩
  · omega
  · have hi : pre.length ≤ i := by omega
    rw [List.getElem?_append_right hi] at h2
    exact hve (List.mem_of_getElem? h2)
end Mine
end

section
open PySem PySem.W PyProof.Rows
namespace Mine
section
variable {prog : Program} {w : World} {A : Around} {E : Value → Shared → Prop} {s : Shared} {h₀ : Heap} {L : Addr} {all : List (Addr × Obj)} {Q : Value → Shared → Prop}
/-- a tuple of two texts -/
abbrev tup2 (a b : List Nat) (t u : Tok) : Obj := { cls := .type "tuple", data := .seq #[.str (S a) t, .str (S b) u] }
theorem tup_items {a : Addr} {x y : List Nat} {t u : Tok} (N : News h₀ L s.heap all) (ha : (a, tup2 x y t u) ∈ all) : s.heap.IsTuple a #[.str (S x) t, .str (S y) u] := ⟨_, (N _ ha).1, rfl, _, rfl⟩
theorem tup_each {x y x' y' : List Nat} {t u t' u' : Tok} : ∀ (j : Nat) (h1 : j < (#[.str (S x) t, .str (S y) u] : Array Value).size) (h2 : j < (#[.str (S x') t', .str (S y') u'] : Array Value).size),
    SeqAt.EqAt A s ((#[.str (S x) t, .str (S y) u] : Array Value)[j]) ((#[.str (S x') t', .str (S y') u'] : Array Value)[j]) (if j = 0 then decide (x = x') else decide (y = y'))
  | 0, _, _ => by
    have h := (SeqRoads2.EqGives.str (S x) (S x') t t').at A s
    rw [S_cps, S_cps] at h
    have e : (x == x') = decide (x = x') := by by_cases h : x = x' <;> simp [h]
    rw [e] at h
    exact h
  | 1, _, _ => by
    have h := (SeqRoads2.EqGives.str (S y) (S y') u u').at A s
    rw [S_cps, S_cps] at h
    have e : (y == y') = decide (y = y') := by by_cases h : y = y' <;> simp [h]
    rw [e] at h
    exact h
  | n + 2, h, _ => absurd h (by simp)
theorem tup_all {x y x' y' : List Nat} {t u t' u' : Tok} : ((List.range (min (#[.str (S x) t, .str (S y) u] : Array Value).size (#[.str (S x') t', .str (S y') u'] : Array Value).size)).all (fun j => if j = 0 then decide (x = x') else decide (y = y')) && (#[.str (S x) t, .str (S y) u] : Array Value).size == (#[.str (S x') t', .str (S y') u'] : Array Value).size) = decide (x = x' ∧ y = y') := by
  show ((List.range 2).all _ && true) = _
  rw [show List.range 2 = [0, 1] from rfl]
  by_cases h1 : x = x' <;> by_cases h2 : y = y' <;> simp [h1, h2]
theorem ne_tup2 {a b : Addr} {x y x' y' : List Nat} {t u t' u' : Tok} (N : News h₀ L s.heap all) (ha : (a, tup2 x y t u) ∈ all) (hb : (b, tup2 x' y' t' u') ∈ all) (hu : A.units < cLine)
    (h : Q (.bool (!decide (x = x' ∧ y = y'))) s) : wpAny (model prog w) A (compareOp .NotEq (.ref a) (.ref b)) Q E s := by
  refine cmp_ofNotEq (SeqAt.RcNeAt.tuples (tup_items N ha) (tup_items N hb) hu tup_each prog w E Q ?_)
  rw [tup_all]; exact h
theorem eq_tup2 {a b : Addr} {x y x' y' : List Nat} {t u t' u' : Tok} (N : News h₀ L s.heap all) (ha : (a, tup2 x y t u) ∈ all) (hb : (b, tup2 x' y' t' u') ∈ all) (hu : A.units < cLine)
    (h : Q (.bool (decide (x = x' ∧ y = y'))) s) : wpAny (model prog w) A (compareOp .Eq (.ref a) (.ref b)) Q E s := by
  refine cmp_ofEq (SeqAt.RcAt.tuples (tup_items N ha) (tup_items N hb) hu tup_each prog w E Q ?_)
  rw [tup_all]; exact h
end
end Mine
end

section
open PySem PySem.W PyProof.Rows
namespace Mine
abbrev Pcs := List (List Nat × List (List Nat))
def txt (ps : Pcs) : List Nat := ps.flatMap fun p => p.1 ++ jn [46] p.2
def modLast {α : Type} (f : α → α) (l : List α) : List α := l.dropLast ++ l.getLast?.toList.map f
theorem modLast_snoc {α : Type} (f : α → α) (l : List α) (a : α) : modLast f (l ++ [a]) = l ++ [f a] := by simp [modLast]
theorem snoc_of {α : Type} {l : List α} (h : l ≠ []) : ∃ l' a, l = l' ++ [a] := ⟨l.dropLast, l.getLast h, (List.dropLast_concat_getLast h).symm⟩
/-- one more sign -/
def stepPc (seps : List Nat) (ps : Pcs) (c : Nat) : Pcs :=
  if c ∈ seps then ps ++ [([c], [[]])] else if c = 46 then modLast (fun p => (p.1, p.2 ++ [[]])) ps else modLast (fun p => (p.1, modLast (· ++ [c]) p.2)) ps
def pcs (seps text : List Nat) : Pcs := text.foldl (stepPc seps) [([], [[]])]
theorem pcs_snoc (seps text : List Nat) (c : Nat) : pcs seps (text ++ [c]) = stepPc seps (pcs seps text) c := by simp [pcs]
theorem pcs_take (seps text : List Nat) (i : Nat) (c : Nat) (h : text[i]? = some c) : pcs seps (text.take (i + 1)) = stepPc seps (pcs seps (text.take i)) c := by
  rw [List.take_add_one, h]; exact pcs_snoc _ _ _

/-- pieces are there, each with a word -/
def Full (ps : Pcs) : Prop := ps ≠ [] ∧ ∀ p ∈ ps, p.2 ≠ []
theorem full_step {seps : List Nat} {ps : Pcs} {c : Nat} (h : Full ps) : Full (stepPc seps ps c) := by
  obtain ⟨l, p, rfl⟩ := snoc_of h.1
  have hl : ∀ q ∈ l, q.2 ≠ [] := fun q hq => h.2 q (by simp [hq])
  have hp : p.2 ≠ [] := h.2 p (by simp)
  unfold stepPc
  split
  · refine ⟨by simp, fun q hq => ?_⟩
    rcases List.mem_append.mp hq with hq | hq
    · exact h.2 q hq
    · rw [List.mem_singleton.mp hq]; simp
  · split
    · rw [modLast_snoc]
      refine ⟨by simp, fun q hq => ?_⟩
      rcases List.mem_append.mp hq with hq | hq
      · exact hl q hq
      · rw [List.mem_singleton.mp hq]; simp
    · rw [modLast_snoc]
      refine ⟨by simp, fun q hq => ?_⟩
      rcases List.mem_append.mp hq with hq | hq
      · exact hl q hq
      · rw [List.mem_singleton.mp hq]
        obtain ⟨ws, v, e⟩ := snoc_of hp
        show modLast _ p.2 ≠ []
        rw [e, modLast_snoc]; simp
theorem foldl_inv {α β : Type} (f : β → α → β) (I : β → Prop) (hs : ∀ b a, I b → I (f b a)) : ∀ (l : List α) (b : β), I b → I (l.foldl f b)
  | [], _, h => h
  | a :: l, b, h => foldl_inv f I hs l (f b a) (hs b a h)
theorem full_pcs (seps text : List Nat) : Full (pcs seps text) := foldl_inv _ Full (fun _ _ h => full_step h) _ _ ⟨by simp, by simp⟩

def wtW (ws : List (List Nat)) : Nat := (ws.map fun v => 1 + v.length).sum
def wt (ps : Pcs) : Nat := (ps.map fun p => 1 + wtW p.2).sum
theorem wtW_app (a b : List (List Nat)) : wtW (a ++ b) = wtW a + wtW b := by simp [wtW]
theorem wt_app (a b : Pcs) : wt (a ++ b) = wt a + wt b := by simp [wt]
theorem wt_one (p : List Nat × List (List Nat)) : wt [p] = 1 + wtW p.2 := by simp [wt]
theorem wt_step {seps : List Nat} {ps : Pcs} {c : Nat} (h : Full ps) : wt (stepPc seps ps c) ≤ wt ps + 2 := by
  obtain ⟨l, p, rfl⟩ := snoc_of h.1
  have hp : p.2 ≠ [] := h.2 p (by simp)
  obtain ⟨ws, v, e⟩ := snoc_of hp
  unfold stepPc
  split
  · rw [wt_app, wt_one]; simp [wtW]
  · split
    · rw [modLast_snoc, wt_app, wt_app, wt_one, wt_one, wtW_app]; simp [wtW]; omega
    · rw [modLast_snoc, wt_app, wt_app, wt_one, wt_one]
      show wt l + (1 + wtW (modLast _ p.2)) ≤ _
      rw [e, modLast_snoc, wtW_app, wtW_app]; simp [wtW]; omega
theorem wt_fold (seps : List Nat) : ∀ (l : List Nat) (ps : Pcs), Full ps → wt (l.foldl (stepPc seps) ps) ≤ wt ps + 2 * l.length
  | [], ps, _ => by simp
  | c :: l, ps, h => by
    have h1 := wt_step (seps := seps) (c := c) h
    have h2 := wt_fold seps l (stepPc seps ps c) (full_step h)
    rw [List.foldl_cons, List.length_cons]; omega
theorem wt_pcs (seps text : List Nat) : wt (pcs seps text) ≤ 2 * text.length + 2 := by
  have := wt_fold seps text [([], [[]])] ⟨by simp, by simp⟩
  have e : wt [([], [[]])] = 2 := by decide
  unfold pcs; omega
theorem le_wtW : ∀ (ws : List (List Nat)), ws.length ≤ wtW ws ∧ ∀ v ∈ ws, v.length ≤ wtW ws
  | [] => by simp [wtW]
  | v :: ws => by
    have ih := le_wtW ws
    have e : wtW (v :: ws) = 1 + v.length + wtW ws := by simp [wtW]
    refine ⟨by rw [List.length_cons]; omega, fun u hu => ?_⟩
    rcases List.mem_cons.mp hu with rfl | hu
    · omega
    · have := ih.2 u hu; omega
theorem sum_wtW (ws : List (List Nat)) : (ws.map List.length).sum ≤ wtW ws := by
  induction ws with
  | nil => simp
  | cons v ws ih =>
    have e : wtW (v :: ws) = 1 + v.length + wtW ws := by simp [wtW]
    rw [e, List.map_cons, List.sum_cons]; omega
theorem le_wt : ∀ (ps : Pcs), ps.length ≤ wt ps ∧ ∀ p ∈ ps, wtW p.2 ≤ wt ps
  | [] => by simp [wt]
  | p :: ps => by
    have ih := le_wt ps
    have e : wt (p :: ps) = 1 + wtW p.2 + wt ps := by simp [wt]
    refine ⟨by rw [List.length_cons]; omega, fun u hu => ?_⟩
    rcases List.mem_cons.mp hu with rfl | hu
    · omega
    · have := ih.2 u hu; omega
end Mine
end

section
open PySem PySem.W PyProof.Rows
namespace Mine
/-- a word: no full stop, no separator -/
def Word (seps v : List Nat) : Prop := 46 ∉ v ∧ ∀ c ∈ v, c ∉ seps
structure WF (seps : List Nat) (ps : Pcs) : Prop where
  head : ∃ ws l, ps = ([], ws) :: l
  sepOf : ∀ p ∈ ps.tail, ∃ c ∈ seps, p.1 = [c]
  words : ∀ p ∈ ps, p.2 ≠ [] ∧ ∀ v ∈ p.2, Word seps v
theorem jn_snoc (sep : List Nat) (v : List Nat) : ∀ ws : List (List Nat), ws ≠ [] → jn sep (ws ++ [v]) = jn sep ws ++ (sep ++ v)
  | [], h => absurd rfl h
  | [x], _ => by simp [jn]
  | x :: y :: r, _ => by
    have ih := jn_snoc sep v (y :: r) (by simp)
    show x ++ sep ++ jn sep ((y :: r) ++ [v]) = x ++ sep ++ jn sep (y :: r) ++ (sep ++ v)
    rw [ih]; simp
theorem jn_cons (sep : List Nat) (v : List Nat) {ws : List (List Nat)} (h : ws ≠ []) : jn sep (v :: ws) = v ++ (sep ++ jn sep ws) := by
  cases ws with
  | nil => exact absurd rfl h
  | cons y r => simp [jn]
theorem mem_jn {c s : Nat} : ∀ {ws : List (List Nat)}, c ∈ jn [s] ws → c = s ∨ ∃ v ∈ ws, c ∈ v
  | [], h => by simp [jn] at h
  | [x], h => .inr ⟨x, by simp, by simpa [jn] using h⟩
  | x :: y :: r, h => by
    have h' : c ∈ x ++ [s] ++ jn [s] (y :: r) := h
    rcases List.mem_append.mp h' with h1 | h1
    · rcases List.mem_append.mp h1 with h2 | h2
      · exact .inr ⟨x, by simp, h2⟩
      · exact .inl (by simpa using h2)
    · rcases mem_jn h1 with h2 | ⟨v, hv, hc⟩
      · exact .inl h2
      · exact .inr ⟨v, by simp [List.mem_cons.mp hv], hc⟩
theorem jn_mem {c s : Nat} : ∀ {ws : List (List Nat)} {v : List Nat}, v ∈ ws → c ∈ v → c ∈ jn [s] ws
  | [], _, h, _ => by simp at h
  | [x], v, h, hc => by have : v = x := by simpa using h
                        subst this; simpa [jn] using hc
  | x :: y :: r, v, h, hc => by
    show c ∈ x ++ [s] ++ jn [s] (y :: r)
    rcases List.mem_cons.mp h with rfl | h
    · simp [hc]
    · have := jn_mem (s := s) h hc
      simp [this]
theorem txt_app (a b : Pcs) : txt (a ++ b) = txt a ++ txt b := by simp [txt]
theorem txt_cons (p : List Nat × List (List Nat)) (b : Pcs) : txt (p :: b) = p.1 ++ jn [46] p.2 ++ txt b := by simp [txt]
theorem txt_one (p : List Nat × List (List Nat)) : txt [p] = p.1 ++ jn [46] p.2 := by simp [txt]

theorem jn_words {seps : List Nat} (h46 : 46 ∉ seps) {ws : List (List Nat)} (h : ∀ v ∈ ws, Word seps v) : ∀ c ∈ jn [46] ws, c ∉ seps := by
  intro c hc
  rcases mem_jn hc with rfl | ⟨v, hv, hc⟩
  · exact h46
  · exact (h v hv).2 c hc
theorem jn_seen {seps : List Nat} {ws : List (List Nat)} (h : ∀ v ∈ ws, Word seps v) : (∃ c ∈ jn [46] ws, c ≠ 46) ↔ jn [] ws ≠ [] := by
  rw [jn_nil]
  constructor
  · rintro ⟨c, hc, hne⟩ e
    rcases mem_jn hc with rfl | ⟨v, hv, hc⟩
    · exact hne rfl
    · have : c ∈ ws.flatten := List.mem_flatten.mpr ⟨v, hv, hc⟩
      rw [e] at this; simp at this
  · intro hne
    obtain ⟨c, hc⟩ := List.exists_mem_of_ne_nil _ hne
    obtain ⟨v, hv, hcv⟩ := List.mem_flatten.mp hc
    exact ⟨c, jn_mem hv hcv, fun e => (h v hv).1 (e ▸ hcv)⟩

/-- behind -/
theorem spl_back {alt : List Nat} (ha : OneAlt alt) (h46 : 46 ∉ 47 :: alt) {l : Pcs} {sep : List Nat} {ws : List (List Nat)} {v : List Nat} (wf : WF (47 :: alt) (l ++ [(sep, ws ++ [v])])) :
    spl (txt (l ++ [(sep, ws ++ [v])])) [47] alt [46] = if jn [] ws ≠ [] then (txt (l ++ [(sep, ws)]), 46 :: v) else (txt (l ++ [(sep, ws ++ [v])]), []) := by
  have hw := (wf.words (sep, ws ++ [v]) (by simp)).2
  have hwv : Word (47 :: alt) v := hw v (by simp)
  have hws : ∀ u ∈ ws, Word (47 :: alt) u := fun u hu => hw u (by simp [hu])
  have hpre : EndsSep (47 :: alt) (txt l ++ sep) := by
    cases l with
    | nil =>
      obtain ⟨ws', l', e⟩ := wf.head
      simp at e
      left; simp [txt, e.1.1]
    | cons p l =>
      obtain ⟨c, hc, e⟩ := wf.sepOf (sep, ws ++ [v]) (by simp)
      have e : sep = [c] := e
      exact .inr ⟨_, c, by rw [e], hc⟩
  by_cases hne : ws = []
  · subst hne
    rw [if_neg (by simp [jn])]
    have e : txt (l ++ [(sep, [] ++ [v])]) = (txt l ++ sep) ++ v := by rw [txt_app, txt_one]; simp [jn]
    rw [e]
    exact spl_none ha hpre hwv.2 hwv.1
  · have e : txt (l ++ [(sep, ws ++ [v])]) = (txt l ++ sep) ++ (jn [46] ws ++ 46 :: v) := by
      rw [txt_app, txt_one, jn_snoc _ _ _ hne]; simp
    rw [e]
    by_cases hs : jn [] ws ≠ []
    · rw [if_pos hs, spl_cut ha h46 hpre (jn_words h46 hws) hwv.2 hwv.1 ((jn_seen hws).mpr hs), txt_app, txt_one]
      simp
    · rw [if_neg hs]
      refine spl_stuck ha h46 hpre hwv.2 hwv.1 ?_
      intro c hc
      rcases Classical.em (c = 46) with h | h
      · exact h
      · exact absurd ((jn_seen hws).mp ⟨c, hc, h⟩) hs
/-- in front, the text turned round -/
theorem spl_front {alt : List Nat} (ha : OneAlt alt) (h46 : 46 ∉ 47 :: alt) {l : Pcs} {ws : List (List Nat)} {v : List Nat} (wf : WF (47 :: alt) (([], v :: ws) :: l)) :
    spl (txt (([], v :: ws) :: l)).reverse [47] alt [46] = if jn [] ws ≠ [] then ((txt (([], ws) :: l)).reverse, 46 :: v.reverse) else ((txt (([], v :: ws) :: l)).reverse, []) := by
  have hw := (wf.words ([], v :: ws) (by simp)).2
  have hwv : Word (47 :: alt) v := hw v (by simp)
  have hws : ∀ u ∈ ws, Word (47 :: alt) u := fun u hu => hw u (by simp [hu])
  have hpre : EndsSep (47 :: alt) (txt l).reverse := by
    cases l with
    | nil => left; simp [txt]
    | cons p l =>
      obtain ⟨c, hc, e⟩ := wf.sepOf p (by simp)
      right
      refine ⟨(jn [46] p.2 ++ txt l).reverse, c, ?_, hc⟩
      rw [txt_cons, e]; simp
  have hr : ∀ c ∈ v.reverse, c ∉ 47 :: alt := fun c hc => hwv.2 c (by simpa using hc)
  have hr46 : 46 ∉ v.reverse := by simpa using hwv.1
  by_cases hne : ws = []
  · subst hne
    rw [if_neg (by simp [jn])]
    have e : (txt (([], [v]) :: l)).reverse = (txt l).reverse ++ v.reverse := by rw [txt_cons]; simp [jn]
    rw [e]
    exact spl_none ha hpre hr hr46
  · have e : (txt (([], v :: ws) :: l)).reverse = (txt l).reverse ++ ((jn [46] ws).reverse ++ 46 :: v.reverse) := by
      rw [txt_cons, jn_cons _ _ hne]; simp
    rw [e]
    by_cases hs : jn [] ws ≠ []
    · obtain ⟨c, hc, hcn⟩ := (jn_seen hws).mpr hs
      rw [if_pos hs, spl_cut ha h46 hpre (fun c hc => jn_words h46 hws c (by simpa using hc)) hr hr46 ⟨c, by simpa using hc, hcn⟩, txt_cons]
      simp
    · rw [if_neg hs]
      refine spl_stuck ha h46 hpre hr hr46 ?_
      intro c hc
      rcases Classical.em (c = 46) with h | h
      · exact h
      · exact absurd ((jn_seen hws).mp ⟨c, by simpa using hc, h⟩) hs
theorem wf_back {seps : List Nat} {l : Pcs} {sep : List Nat} {ws : List (List Nat)} {v : List Nat} (wf : WF seps (l ++ [(sep, ws ++ [v])])) (hne : jn [] ws ≠ []) : WF seps (l ++ [(sep, ws)]) := by
  have hw : ws ≠ [] := fun e => hne (by rw [e]; rfl)
  refine ⟨?_, ?_, ?_⟩
  · obtain ⟨ws', l', e⟩ := wf.head
    cases l with
    | nil => simp at e; exact ⟨ws, [], by simp [e.1.1]⟩
    | cons p l => exact ⟨p.2, l ++ [(sep, ws)], by simp at e; simp [e.1]⟩
  · intro p hp
    cases l with
    | nil => simp at hp
    | cons q l =>
      have hp' : p ∈ l ∨ p = (sep, ws) := by simpa using hp
      rcases hp' with hp' | rfl
      · exact wf.sepOf p (by simp [hp'])
      · exact wf.sepOf (sep, ws ++ [v]) (by simp)
  · intro p hp
    rcases List.mem_append.mp hp with hp | hp
    · exact wf.words p (by simp [hp])
    · rw [List.mem_singleton.mp hp]
      exact ⟨hw, fun u hu => (wf.words (sep, ws ++ [v]) (by simp)).2 u (by simp [hu])⟩
theorem wf_front {seps : List Nat} {l : Pcs} {ws : List (List Nat)} {v : List Nat} (wf : WF seps (([], v :: ws) :: l)) (hne : jn [] ws ≠ []) : WF seps (([], ws) :: l) := by
  have hw : ws ≠ [] := fun e => hne (by rw [e]; rfl)
  refine ⟨⟨ws, l, rfl⟩, fun p hp => wf.sepOf p hp, ?_⟩
  intro p hp
  rcases List.mem_cons.mp hp with rfl | hp
  · exact ⟨hw, fun u hu => (wf.words ([], v :: ws) (by simp)).2 u (by simp [hu])⟩
  · exact wf.words p (by simp [hp])
theorem wf_step {seps : List Nat} {ps : Pcs} {c : Nat} (wf : WF seps ps) (h46 : 46 ∉ seps) : WF seps (stepPc seps ps c) ∧ txt (stepPc seps ps c) = txt ps ++ [c] := by
  obtain ⟨ws', l', e⟩ := wf.head
  obtain ⟨l, p, rfl⟩ := snoc_of (l := ps) (by rw [e]; simp)
  obtain ⟨hp1, hp2⟩ := wf.words p (by simp)
  have key : ∀ p' : List Nat × List (List Nat), p'.1 = p.1 → p'.2 ≠ [] → (∀ v ∈ p'.2, Word seps v) → WF seps (l ++ [p']) := by
    intro p' h1 h2 h3
    refine ⟨?_, ?_, ?_⟩
    · cases l with
      | nil => exact ⟨p'.2, [], by simp at e; simp [h1, Prod.ext_iff, e.1]⟩
      | cons q l => exact ⟨q.2, l ++ [p'], by simp at e; simp [e.1]⟩
    · intro q hq
      cases l with
      | nil => simp at hq
      | cons r l =>
        have hq' : q ∈ l ∨ q = p' := by simpa using hq
        rcases hq' with hq' | rfl
        · exact wf.sepOf q (by simp [hq'])
        · rw [h1]; exact wf.sepOf p (by simp)
    · intro q hq
      rcases List.mem_append.mp hq with hq | hq
      · exact wf.words q (by simp [hq])
      · rw [List.mem_singleton.mp hq]; exact ⟨h2, h3⟩
  unfold stepPc
  split
  · rename_i hc
    refine ⟨⟨?_, ?_, ?_⟩, by rw [txt_app (l ++ [p]), txt_one]; simp [jn]⟩
    · exact ⟨ws', l' ++ [([c], [[]])], by rw [e]; simp⟩
    · intro q hq
      rw [e] at hq
      have hq' : q ∈ l' ∨ q = ([c], [[]]) := by simpa using hq
      rcases hq' with hq' | rfl
      · exact wf.sepOf q (by rw [e]; simpa using hq')
      · exact ⟨c, hc, rfl⟩
    · intro q hq
      rcases List.mem_append.mp hq with hq | hq
      · exact wf.words q hq
      · rw [List.mem_singleton.mp hq]
        exact ⟨by simp, by simp [Word]⟩
  · split
    · rename_i hc hd
      rw [modLast_snoc]
      refine ⟨key _ rfl (by simp) ?_, ?_⟩
      · intro v hv
        rcases List.mem_append.mp hv with hv | hv
        · exact hp2 v hv
        · rw [List.mem_singleton.mp hv]; simp [Word]
      · rw [txt_app, txt_app, txt_one, txt_one, jn_snoc _ _ _ hp1]; simp [hd]
    · rename_i hc hd
      rw [modLast_snoc]
      obtain ⟨ws, v, hws⟩ := snoc_of hp1
      have hml : modLast (· ++ [c]) p.2 = ws ++ [v ++ [c]] := by rw [hws, modLast_snoc]
      refine ⟨key _ rfl (by show modLast _ p.2 ≠ []; rw [hml]; simp) ?_, ?_⟩
      · intro u hu
        have hu : u ∈ modLast (· ++ [c]) p.2 := hu
        rw [hml] at hu
        rcases List.mem_append.mp hu with hu | hu
        · exact hp2 u (by rw [hws]; simp [hu])
        · rw [List.mem_singleton.mp hu]
          have hv := hp2 v (by rw [hws]; simp)
          refine ⟨?_, ?_⟩
          · intro h
            rcases List.mem_append.mp h with h | h
            · exact hv.1 h
            · have : 46 = c := by simpa using h
              exact hd this.symm
          · intro d hd'
            rcases List.mem_append.mp hd' with h | h
            · exact hv.2 d h
            · rw [List.mem_singleton.mp h]; exact hc
      · rw [txt_app, txt_app, txt_one, txt_one]
        show txt l ++ (p.1 ++ jn [46] (modLast _ p.2)) = _
        rw [hml, hws]
        by_cases hw : ws = []
        · subst hw; simp [jn]
        · rw [jn_snoc _ _ _ hw, jn_snoc _ _ _ hw]; simp
theorem wf_pcs {seps : List Nat} (h46 : 46 ∉ seps) : ∀ (text : List Nat) (ps : Pcs), WF seps ps → WF seps (text.foldl (stepPc seps) ps) ∧ txt (text.foldl (stepPc seps) ps) = txt ps ++ text
  | [], ps, h => ⟨h, by simp⟩
  | c :: text, ps, h => by
    obtain ⟨h1, h2⟩ := wf_step (c := c) h h46
    obtain ⟨h3, h4⟩ := wf_pcs h46 text _ h1
    exact ⟨h3, by rw [List.foldl_cons, h4, h2]; simp⟩
theorem wf_all {seps : List Nat} (h46 : 46 ∉ seps) (text : List Nat) : WF seps (pcs seps text) ∧ txt (pcs seps text) = text := by
  have h := wf_pcs h46 text [([], [[]])] ⟨⟨_, _, rfl⟩, by simp, by simp [Word]⟩
  exact ⟨h.1, by rw [pcs, h.2]; simp [txt, jn]⟩
end Mine
end

section
namespace Mine
open PySem PySem.W PyProof.Rows
open_top hd11 for PySem.Challenge.rw_dm0122_11
end Mine
end

section
open PySem PySem.W PyProof.Rows
namespace Mine
local macro_rules | `(tactic| size_fits) => `(tactic| ((simp only [S_len, PySem.sizeLine_eq]); omega))
local macro_rules | `(tactic| walk_at "stop") => `(tactic| first
  | (with_reducible show wpAny _ _ (exec (Stmt.For _ _ _ _ _) _) _ _ _)
  | (with_reducible show wpAny _ _ (exec (Stmt.While _ _ _ _) _) _ _ _)
  | (with_reducible show LeaveK _ _ _ _ _ _ _))
local macro_rules | `(tactic| walk_at "ws") => `(tactic| repeat' (first | (k_unfold; (try dsimp only)) | ((fail_if_success (walk_at "stop")); walk1) | ((fail_if_success (walk_at "stop")); dsimp only; walk1) | (leave1; walk_say "STEP leave1"; try dsimp only)))

theorem splitext_str {w : World} {mean : ExcName → Option Value} {mg mb : Str → Option Value} (dp un : Nat) (gd : Option (List Code)) (cn : Str) (cs : Scope) (a : Addr) (ccd : Value) (cl : List (Str × Addr)) (outer : List Env) (A₀ : Around) (base h₀ : Heap) (L : Addr) (m : Str → Option Value) (news : List (Addr × Obj)) (s : Shared)
    (Q E : Value → Shared → Prop) (p sep ext alt : List Nat) (av : Value) (tp ts te : Tok) (hav : AltV av alt) (hp : p.length ≤ 10000) (hal : alt.length ≤ 10000)
    (B : Below A₀ base outer h₀) (F : Fr h₀ L s.heap m) (X : (hd11.heap_39 w.params).In h₀) (N : News h₀ L s.heap news) (T : Top hd11.view_39 (looseW hd11.view_39 []) mean mg mb h₀) (hk : cs.kind = .function)
    (hd : dp + 1 < recursionLimit) (hu : un + 8 < cLine)
    (ret : ∀ r t1 t2 h' tk', Fr h₀ L h' m → News h₀ L h' ((r, ({ cls := .type "tuple", data := .seq #[.str (S (spl p sep alt ext).1) t1, .str (S (spl p sep alt ext).2) t2] } : Obj)) :: news) → (∀ q ∈ news, q.1 < r) → Q (.ref r) { s with heap := h', toks := tk' }) :
    wpAny (model PySem.Challenge.rw_dm0122_11.row.prog w) (ktrTop dp un gd cn cs L a ccd cl outer) (call (.ref 21) [.str (S p) tp, .str (S sep) ts, av, .str (S ext) te]) Q E s := by
  revert T; revert X; k_fill; intro X T
  refine wpAny_call ?_
  k_dflt ktr_enter
  rename_i g1 L1 h1 FG1 F1 N1 B1 X1 T1
  walk_at "ws"
  refine truthy_alt hav (by omega) ?_
  intro k1
  rename Fr g1 L1 _ _ => F1
  rename News g1 L1 _ _ => N1
  refine ite_join (Q' := fun f s' => f = .next ∧ Left g1 L1 s news (fun m => (∃ t, m (Str.ofString "sepIndex") = some (.int (sepIx p sep alt) t)) ∧ m (Str.ofString "p") = some (.str (S p) tp) ∧ m (Str.ofString "extsep") = some (.str (S ext) te)) s') ?_ ?_ ?_
  · intro hne
    have hne : alt ≠ [] := by simpa using hne
    rcases hav with ⟨_, h0⟩ | ⟨ta, rfl⟩
    · exact absurd h0 hne
    walk_at "ws"
    · rename Fr g1 L1 _ _ => F2
      rename News g1 L1 _ _ => N2
      have e : sepIx p sep alt = if rf p alt > rf p sep then rf p alt else rf p sep := by rw [sepIx, if_neg hne]
      exact Left.intro F2 N2 ⟨⟨_, by rw [e]; rfl⟩, rfl, rfl⟩
  · intro hne
    have hne : alt = [] := by simpa using hne
    have e : sepIx p sep alt = rf p sep := by rw [sepIx, if_pos hne]
    refine wpAny_execs_nil ⟨rfl, Left.intro F1 N1 ⟨⟨_, by rw [e]; rfl⟩, rfl, rfl⟩⟩
  · rintro f s' ⟨rfl, h2, tk2, m2, rfl, F2, N2, ⟨t2, e1⟩, e2, e3⟩
    have F3 := fr_show [(Str.ofString "sepIndex", .int (sepIx p sep alt) t2), (Str.ofString "p", .str (S p) tp), (Str.ofString "extsep", .str (S ext) te)] F2 (by simp [e1, e2, e3])
    clear F2 F1 N1
    have hlo : -1 ≤ sepIx p sep alt := by
      have := rf_ge p sep; have := rf_ge p alt
      unfold sepIx; split; omega; split <;> omega
    walk_at "ws"
    · rename Fr g1 L1 _ _ => F4
      rename News g1 L1 _ _ => N4
      rename _ < _ => hlt
      have hlt' : sepIx p sep alt < rf p ext := hlt
      refine ksw_while (σ := Int × Tok) (fun _ => news) (fun c => [(Str.ofString "filenameIndex", .int c.1 c.2)]) (fun _ => True) []
        (fun c => sepIx p sep alt + 1 ≤ c.1 ∧ c.1 ≤ rf p ext ∧ ∀ k : Nat, sepIx p sep alt + 1 ≤ k → (k : Int) < c.1 → (p.drop k).take 1 = ext) (fun c => (rf p ext - c.1).toNat) (sepIx p sep alt + 1, ?t0) F4 N4 trivial ?hk ?_ ?_
      case hk => (intro q hq; rw [List.mem_singleton.mp hq]; rfl)
      · refine ⟨by omega, by omega, fun k h1 h2 => by omega⟩
      · rintro ⟨f, tf⟩ u h5 tk5 - ⟨hf1, hf2, hf3⟩ F5 N5
        dsimp only at F5 N5 hf1 hf2 hf3
        clear F4 N4
        have hf0 : 0 ≤ f := by omega
        have hd0 : 0 ≤ rf p ext := by omega
        have hone : (p.take (f + 1).toNat).drop f.toNat = (p.drop f.toNat).take 1 := by
          rw [List.take_drop]; congr 1; congr 1; omega
        have hsl := slice_mid p hf0 (show 0 ≤ f + 1 by omega)
        rw [hone] at hsl
        walk_at "ws"
        · rename Fr g1 L1 _ _ => F6
          rename News g1 L1 _ _ => N6
          rename ∀ p ∈ news, _ => hl6
          rename (_ != _) = true => hne6
          have hfd : f < rf p ext := by assumption
          have hx : (p.drop f.toNat).take 1 ≠ ext := by
            rw [hsl] at hne6
            intro h; rw [h] at hne6; simp at hne6
          have e0 : spl p sep alt ext = (p.take (rf p ext).toNat, p.drop (rf p ext).toNat) := by
            unfold spl; rw [if_pos]; exact ⟨hlt', f.toNat, by omega, by omega, hx⟩
          have ret' := ret
          rw [e0] at ret'
          refine leaveK_ F6 N6 fun Fb Nb => ?_
          rw [show Txt.rfind (S p) (S ext) = rf p ext from rfl, slice_to p hd0, slice_from p hd0] at Nb
          exact ret' _ _ _ _ _ Fb Nb hl6
        · rename Fr g1 L1 _ _ => F6
          rename News g1 L1 _ _ => N6
          rename (_ != _) = false => hne6
          have hfd : f < rf p ext := by assumption
          have hx : (p.drop f.toNat).take 1 = ext := by
            rw [hsl] at hne6
            have := bne_eq_false_iff_eq.mp hne6
            exact S_inj.mp this
          refine ksw_end (f + 1, ?t1) F6 N6 (fun _ h => h) trivial ?hk1 ?hr1 ⟨?_, ?_, ?_⟩ ?_
          case hk1 => (intro q hq; rw [List.mem_singleton.mp hq]; rfl)
          case hr1 =>
            intro z h2 h3
            have h2' : z ≠ Str.ofString "filenameIndex" := h2 _ (List.mem_singleton.mpr rfl)
            simp [kstB, h2']
          · show sepIx p sep alt + 1 ≤ f + 1; omega
          · show f + 1 ≤ rf p ext; omega
          · intro k h1 h2
            have h2' : (k : Int) < f + 1 := h2
            by_cases hkf : (k : Int) < f
            · exact hf3 k h1 hkf
            · have : k = f.toNat := by omega
              rw [this]; exact hx
          · show (rf p ext - (f + 1)).toNat < (rf p ext - f).toNat; omega
        · rename Fr g1 L1 _ _ => F6
          rename News g1 L1 _ _ => N6
          rename ∀ p ∈ news, _ => hl6
          rename ¬ _ => hnlt
          have hnlt' : ¬ f < rf p ext := hnlt
          have e0 : spl p sep alt ext = (p, []) := by
            unfold spl; rw [if_neg]; rintro ⟨-, k, hk1, hk2, hk3⟩; exact hk3 (hf3 k hk1 (by omega))
          have ret' := ret
          rw [e0] at ret'
          refine leaveK_ F6 N6 fun Fb Nb => ?_
          rw [slice_to p (Int.le_refl 0)] at Nb
          exact ret' _ _ _ _ _ Fb Nb hl6
    · rename Fr g1 L1 _ _ => F4
      rename News g1 L1 _ _ => N4
      rename ∀ p ∈ news, _ => hl4
      rename ¬ _ => hnlt
      have e0 : spl p sep alt ext = (p, []) := by
        unfold spl; rw [if_neg]; rintro ⟨h1, -⟩; exact hnlt h1
      have ret' := ret
      rw [e0] at ret'
      refine leaveK_ F4 N4 fun Fb Nb => ?_
      rw [slice_to p (Int.le_refl 0)] at Nb
      exact ret' _ _ _ _ _ Fb Nb hl4
end Mine
end

section
open PySem PySem.W PyProof.Rows
namespace Mine
local macro_rules | `(tactic| size_fits) => `(tactic| ((simp only [S_len, PySem.sizeLine_eq]); omega))
local macro_rules | `(tactic| walk_at "stop") => `(tactic| first
  | (with_reducible show wpAny _ _ (exec (Stmt.For _ _ _ _ _) _) _ _ _)
  | (with_reducible show wpAny _ _ (exec (Stmt.While _ _ _ _) _) _ _ _)
  | (with_reducible show wpAny _ _ (eval (Expr.ListComp _ _ _ _) _) _ _ _)
  | (with_reducible show wpAny _ _ (pyIter _) _ _ _)
  | (with_reducible show CTurn _ _ _ _ _ _ _ _ _ _ _ _ _ _ _)
  | (with_reducible show CEnd _ _ _ _ _ _ _ _)
  | (with_reducible show LeaveK _ _ _ _ _ _ _))
local macro_rules | `(tactic| walk_at "ws") => `(tactic| repeat' (first | (k_unfold; (try dsimp only)) | ((fail_if_success (walk_at "stop")); walk1) | ((fail_if_success (walk_at "stop")); dsimp only; walk1) | (leave1; walk_say "STEP leave1"; try dsimp only)))

/-- a piece on the heap: its list, its words' list, their values -/
structure PR where
  q : Addr
  w : Addr
  nq : Nat
  nw : Nat
  sv : Value
  vs : List Value
  sep : List Nat
  ws : List (List Nat)
def PR.Ok (r : PR) : Prop := (∃ t, r.sv = .str (S r.sep) t) ∧ StrsAre r.vs (r.ws.map S)
def PR.led (r : PR) : List (Addr × Obj) := [(r.q, W.listOf #[r.sv, .ref r.w] r.nq), (r.w, W.listOf r.vs.toArray r.nw)]
def ledP (P : Addr) (n : Nat) (l : List PR) : List (Addr × Obj) := (P, W.listOf (l.map fun r => Value.ref r.q).toArray n) :: l.flatMap PR.led
def pcsOf (l : List PR) : Pcs := l.map fun r => (r.sep, r.ws)

def bodyP (l : List PR) : List (Addr × Obj) := l.flatMap PR.led
theorem ledP_eq (P : Addr) (n : Nat) (l : List PR) : ledP P n l = (P, W.listOf (l.map fun r => Value.ref r.q).toArray n) :: bodyP l := rfl
theorem bodyP_app (a b : List PR) : bodyP (a ++ b) = bodyP a ++ bodyP b := by simp [bodyP]
theorem bodyP_cons (r : PR) (b : List PR) : bodyP (r :: b) = (r.q, W.listOf #[r.sv, .ref r.w] r.nq) :: (r.w, W.listOf r.vs.toArray r.nw) :: bodyP b := rfl
/-- the addresses -/
def adrP (l : List PR) : List Addr := l.flatMap fun r => [r.q, r.w]
theorem adrP_eq (l : List PR) : (bodyP l).map (·.1) = adrP l := by
  induction l with
  | nil => rfl
  | cons r l ih => rw [bodyP_cons]; simp only [List.map_cons, ih]; rfl
theorem adrP_app (a b : List PR) : adrP (a ++ b) = adrP a ++ adrP b := by simp [adrP]
theorem mem_adrP {p : Addr × Obj} {l : List PR} (h : p ∈ bodyP l) : p.1 ∈ adrP l := by rw [← adrP_eq]; exact List.mem_map_of_mem h
theorem ledP_adr (P : Addr) (n : Nat) (l : List PR) : (ledP P n l).map (·.1) = P :: adrP l := by rw [ledP_eq, List.map_cons, adrP_eq]

/-- a piece's words changed -/
theorem ledP_words {P : Addr} {n : Nat} {l1 l2 : List PR} {r : PR} {news all : List (Addr × Obj)} (vs : List Value) (ws : List (List Nat)) (nw : Nat) (hnd : (P :: adrP (l1 ++ r :: l2)).Nodup) (hoff : ∀ q ∈ news, ∀ p ∈ P :: adrP (l1 ++ r :: l2), q.1 ≠ p)
    (hs : Sub (ledP P n (l1 ++ r :: l2) ++ news) all) : Sub (ledP P n (l1 ++ { r with vs := vs, ws := ws, nw := nw } :: l2) ++ news) (upd r.w (W.listOf vs.toArray nw) all) := by
  have hw : (r.w, W.listOf r.vs.toArray r.nw) ∈ ledP P n (l1 ++ r :: l2) ++ news := by
    rw [ledP_eq, bodyP_app, bodyP_cons]; simp
  refine sub_upd (hs _ hw) hs ?_
  have hnd' := hnd
  rw [adrP_app] at hnd'
  have e1 : adrP (r :: l2) = r.q :: r.w :: adrP l2 := rfl
  rw [e1] at hnd'
  rw [List.nodup_cons, List.nodup_append] at hnd'
  obtain ⟨hP, h1, h2, h3⟩ := hnd'
  rw [List.nodup_cons, List.nodup_cons] at h2
  have hPw : P ≠ r.w := fun e => hP (by rw [e]; simp)
  have h1w : ∀ p ∈ adrP l1, p ≠ r.w := fun p hp => h3 p hp r.w (by simp)
  have hqw : r.q ≠ r.w := fun e => h2.1 (by rw [e]; simp)
  have h2w : ∀ p ∈ adrP l2, p ≠ r.w := fun p hp e => h2.2.1 (e ▸ hp)
  intro p hp
  rcases List.mem_append.mp hp with hp | hp
  · rw [ledP_eq, bodyP_app, bodyP_cons] at hp
    rcases List.mem_cons.mp hp with rfl | hp
    · refine .inr ⟨?_, hPw⟩
      rw [ledP_eq]; simp
    · rcases List.mem_append.mp hp with hp | hp
      · refine .inr ⟨?_, h1w _ (mem_adrP hp)⟩
        rw [ledP_eq, bodyP_app]; simp [hp]
      · rcases List.mem_cons.mp hp with rfl | hp
        · refine .inr ⟨?_, hqw⟩
          rw [ledP_eq, bodyP_app, bodyP_cons]; simp
        · rcases List.mem_cons.mp hp with rfl | hp
          · exact .inl rfl
          · refine .inr ⟨?_, h2w _ (mem_adrP hp)⟩
            rw [ledP_eq, bodyP_app, bodyP_cons]; simp [hp]
  · exact .inr ⟨List.mem_append_right _ hp, hoff p hp r.w (by rw [adrP_app, e1]; simp)⟩
theorem adrP_words {l1 l2 : List PR} {r : PR} (vs : List Value) (ws : List (List Nat)) (nw : Nat) : adrP (l1 ++ { r with vs := vs, ws := ws, nw := nw } :: l2) = adrP (l1 ++ r :: l2) := by
  rw [adrP_app, adrP_app]; rfl
/-- one more piece -/
theorem ledP_more {P : Addr} {n : Nat} {l : List PR} {r : PR} {news all : List (Addr × Obj)} (hnd : (P :: adrP l).Nodup) (hoff : ∀ q ∈ news, ∀ p ∈ P :: adrP l, q.1 ≠ p) (hq : r.q ≠ P) (hw : r.w ≠ P)
    (hs : Sub (ledP P n l ++ news) all) : Sub (ledP P (n + 1) (l ++ [r]) ++ news) (upd P (W.listOf ((l.map fun r => Value.ref r.q).toArray.push (.ref r.q)) (n + 1)) (r.led ++ all)) := by
  have hP : (P, W.listOf (l.map fun r => Value.ref r.q).toArray n) ∈ ledP P n l ++ news := by rw [ledP_eq]; simp
  refine sub_upd (List.mem_append_right _ (hs _ hP)) (led := r.led ++ (ledP P n l ++ news)) (fun p hp => (List.mem_append.mp hp).elim (List.mem_append_left _) fun h => List.mem_append_right _ (hs p h)) ?_
  rw [List.nodup_cons] at hnd
  intro p hp
  rcases List.mem_append.mp hp with hp | hp
  · rw [ledP_eq, bodyP_app] at hp
    rcases List.mem_cons.mp hp with rfl | hp
    · left; simp
    · rcases List.mem_append.mp hp with hp | hp
      · refine .inr ⟨List.mem_append_right _ (List.mem_append_left _ ?_), fun e => hnd.1 (e ▸ mem_adrP hp)⟩
        rw [ledP_eq]; exact .tail _ hp
      · have hp' : p ∈ r.led := by simpa [bodyP] using hp
        refine .inr ⟨List.mem_append_left _ hp', ?_⟩
        unfold PR.led at hp'
        rcases List.mem_cons.mp hp' with rfl | hp'
        · exact hq
        · rw [List.mem_singleton.mp hp']; exact hw
  · exact .inr ⟨List.mem_append_right _ (List.mem_append_right _ hp), hoff p hp P (.head _)⟩
theorem txt_piece {l : List PR} {r : PR} (h : r ∈ l) : (jn [46] r.ws).length + r.sep.length ≤ (txt (pcsOf l)).length := by
  induction l with
  | nil => cases h
  | cons a l ih =>
    have e : (txt (pcsOf (a :: l))).length = (jn [46] a.ws).length + a.sep.length + (txt (pcsOf l)).length := by
      simp [txt, pcsOf]; omega
    rcases List.mem_cons.mp h with rfl | h
    · omega
    · have := ih h; omega
theorem text11 {w : World} {mean : ExcName → Option Value} {mg mb : Str → Option Value} (dp un : Nat) (gd : Option (List Code)) (cn : Str) (cs : Scope) (a : Addr) (ccd : Value) (cl : List (Str × Addr)) (outer : List Env) (A₀ : Around) (base h₀ : Heap) (L : Addr) (m : Str → Option Value) (news : List (Addr × Obj)) (s : Shared)
    (Q E : Value → Shared → Prop) (P : Addr) (n : Nat) (l : List PR) (hl : Sub (ledP P n l) news) (hok : ∀ r ∈ l, r.Ok) (hlen : (txt (pcsOf l)).length + l.length ≤ 10000)
    (B : Below A₀ base outer h₀) (F : Fr h₀ L s.heap m) (X : (hd11.heap_39 w.params).In h₀) (N : News h₀ L s.heap news) (T : Top hd11.view_39 (looseW hd11.view_39 []) mean mg mb h₀) (hk : cs.kind = .function)
    (hd : dp + 1 < recursionLimit) (hu : un + 8 < cLine)
    (ret : ∀ t h' tk', Fr h₀ L h' m → News h₀ L h' news → Q (.str (S (txt (pcsOf l))) t) { s with heap := h', toks := tk' }) :
    wpAny (model PySem.Challenge.rw_dm0122_11.row.prog w) (ktrTop dp un gd cn cs L a ccd cl outer) (call (.ref 33) [.ref P]) Q E s := by
  revert T; revert X; k_fill; intro X T
  refine wpAny_call ?_
  k_dflt ktr_enter
  rename_i g1 L1 h1 FG1 F1 N1 B1 X1 T1
  walk_at "ws"
  refine ListComp_E (cl := []) rfl rfl (by decide) ?_
  walk_at "ws"
  have hsl : ∀ r ∈ l, Sub r.led news := fun r hr p hp => hl p (List.mem_cons_of_mem _ (List.mem_flatMap.mpr ⟨r, hr, hp⟩))
  have hP : ∀ (i : Nat) (v : Value), (l.map fun r => Value.ref r.q)[i]? = some v → ∃ r, l[i]? = some r ∧ v = .ref r.q := by
    intro i v hv
    rw [List.getElem?_map] at hv
    cases e : l[i]? with
    | none => rw [e] at hv; cases hv
    | some r => rw [e] at hv; cases hv; exact ⟨r, rfl, rfl⟩
  refine csrc_list (Bd := fun i m₃ => ∃ r, l[i]? = some r ∧ m₃ (Str.ofString "sep") = some r.sv ∧ m₃ (Str.ofString "words") = some (.ref r.w)) (G := fun i g => ∃ r t, l[i]? = some r ∧ g = some (.str (S (r.sep ++ jn [46] r.ws)) t)) rfl (by decide) rfl F1 N1 (hl _ (.head _)) ?_ ?_ ?_ ?_ (cfin_expr ?_)
  · rw [List.length_map, PySem.sizeLine_eq]; omega
  · intro I i v s' Q E' hv hit hq
    obtain ⟨r, _, rfl⟩ := hP i v hv
    exact wpAny_letOwnedTupleGo_listiter hit hq
  · intro i v C h tk m' E' hv h1 h2 h3 h4 h5 h6
    refine wpAny_mono (bind_pair (P := fun i v => (l.map fun r => Value.ref r.q)[i]? = some v) rfl rfl rfl rfl (by decide) (fun i v₁ v₂ => ∃ r, l[i]? = some r ∧ v₁ = r.sv ∧ v₂ = .ref r.w) ?_ i v C h tk m' E' hv h1 h2 h3 h4 h5 h6) ?_ fun _ _ e => e
    · intro i v hv
      obtain ⟨r, hr, rfl⟩ := hP i v hv
      exact ⟨r.q, r.sv, .ref r.w, r.nq, rfl, hsl r (List.mem_of_getElem? hr) _ (.head _), r, hr, rfl, rfl⟩
    · rintro _ s₃ ⟨h₃, tk₃, m₃, e, hn₃, hk₃, v₁, v₂, ⟨r, hr, rfl, rfl⟩, e1, e2⟩
      exact ⟨h₃, tk₃, m₃, e, hn₃, hk₃, r, hr, e1, e2⟩
  · intro i hi
    unfold CTurn
    rintro I oI C oC D oD m₃ h tk E' ⟨r, hr, hm1, hm2⟩ hC F2 N2 hoff
    refine wpAny_tests_nil ?_
    rw [if_pos rfl]
    obtain ⟨⟨ts, hsv⟩, hvs⟩ := hok r (List.mem_of_getElem? hr)
    rw [hsv] at hm1
    have hmem := hsl r (List.mem_of_getElem? hr) _ (.tail _ (.head _))
    have hrl : (jn [46] r.ws).length + r.sep.length ≤ (txt (pcsOf l)).length := txt_piece (List.mem_of_getElem? hr)
    have hj1 := jn_sum [46] r.ws
    have hj2 := jn_count 46 r.ws
    walk_at "ws"
    rw [show Str.ofString "." = S [46] from by decide +kernel]
    refine join_L N2 (.tail _ (.tail _ (.tail _ hmem))) hvs (by decide) (by omega) ?_
    intro t' k
    dsimp only
    walk_at "ws"
    exact CEnd.intro F2 N2 (fun _ h => h) ⟨r, _, hr, by rw [S_app]⟩
  · intro D h tk gs Fd Nd hlt hgl hG
    dsimp only
    walk_at "ws"
    rw [List.length_map] at hgl
    have hst : StrsAre (gs.filterMap id) ((l.map fun r => r.sep ++ jn [46] r.ws).map S) := by
      refine gs_strs (by rw [hgl, List.length_map]) ?_
      intro j g hj
      obtain ⟨r, t, h1, h2⟩ := hG j g hj
      exact ⟨_, t, by rw [List.getElem?_map, h1]; rfl, h2⟩
    have htx : jn [] (l.map fun r => r.sep ++ jn [46] r.ws) = txt (pcsOf l) := by
      rw [jn_nil]; simp [txt, pcsOf, List.flatMap]; rfl
    rw [show Str.ofString "" = S [] from by decide +kernel]
    refine join_L Nd (.head _) hst (by decide) ?_ ?_
    · have := jn_sum [] (l.map fun r => r.sep ++ jn [46] r.ws)
      rw [htx] at this
      rw [List.length_map]; omega
    · intro t' k
      dsimp only
      walk_at "ws"
      rw [htx]
      exact leaveK_ Fd Nd fun Fb Nb => ret _ _ _ Fb (news_sub Nb fun _ h => .tail _ h)
end Mine
end

section
open PySem PySem.W PyProof.Rows
namespace Mine
local macro_rules | `(tactic| size_fits) => `(tactic| ((simp only [PySem.Str.length_append, S_len, PySem.sizeLine_eq, List.length_cons, List.length_nil]); omega))
local macro_rules | `(tactic| walk_at "stop") => `(tactic| first
  | (with_reducible show wpAny _ _ (exec (Stmt.For _ _ _ _ _) _) _ _ _)
  | (with_reducible show wpAny _ _ (exec (Stmt.While _ _ _ _) _) _ _ _)
  | (with_reducible show wpAny _ _ (eval (Expr.ListComp _ _ _ _) _) _ _ _)
  | (with_reducible show wpAny _ _ (pyIter _) _ _ _)
  | (with_reducible show CTurn _ _ _ _ _ _ _ _ _ _ _ _ _ _ _)
  | (with_reducible show CEnd _ _ _ _ _ _ _ _)
  | (with_reducible show GEnd _ _ _ _ _ _ _)
  | (with_reducible show wpAny _ _ (call (Value.builtin "list.append") _) _ _ _)
  | (with_reducible show wpAny _ _ (subscriptTail _ _ (Value.ref _) (Value.int _ _)) _ _ _)
  | (with_reducible show LeaveK _ _ _ _ _ _ _))
local macro_rules | `(tactic| walk_at "GPost") => `(tactic| (dsimp only [GPost]))
local macro_rules | `(tactic| walk_at "ws") => `(tactic| repeat' (first | (k_unfold; (try dsimp only)) | ((fail_if_success (walk_at "stop")); walk1) | ((fail_if_success (walk_at "stop")); dsimp only; walk1) | (leave1; walk_say "STEP leave1"; try dsimp only)))

/-- what stands between the turns -/
def JP (PA : Addr) (news : List (Addr × Obj)) (seps text : List Nat) (ts : Tok) (i : Nat) (m : Str → Option Value) (nx : List (Addr × Obj)) : Prop :=
  ∃ n l, nx = ledP PA n l ++ news ∧ (∀ r ∈ l, r.Ok) ∧ (PA :: adrP l).Nodup ∧ (∀ q ∈ news, ∀ p ∈ PA :: adrP l, q.1 ≠ p) ∧ pcsOf l = pcs seps (text.take i) ∧ m (Str.ofString "pieces") = some (.ref PA) ∧ m (Str.ofString "seps") = some (.str (S seps) ts)
theorem adr_ne {PA I : Addr} {n : Nat} {l : List PR} {news : List (Addr × Obj)} : (∀ q ∈ ledP PA n l ++ news, q.1 ≠ I) ↔ (∀ q ∈ PA :: adrP l, q ≠ I) ∧ ∀ q ∈ news, q.1 ≠ I := by
  constructor
  · intro h
    refine ⟨fun q hq => ?_, fun q hq => h q (List.mem_append_right _ hq)⟩
    rw [← ledP_adr PA n l] at hq
    obtain ⟨p, hp, rfl⟩ := List.mem_map.mp hq
    exact h p (List.mem_append_left _ hp)
  · rintro ⟨h1, h2⟩ q hq
    rcases List.mem_append.mp hq with hq | hq
    · exact h1 _ (by rw [← ledP_adr PA n l]; exact List.mem_map_of_mem hq)
    · exact h2 q hq
theorem gend_words {h₀ h' : Heap} {L I PA : Addr} {news own all : List (Addr × Obj)} {seps text : List Nat} {ts : Tok} {i c n tk : Nat} {s : Shared} {m : Str → Option Value} {l : List PR} {r : PR} (vs : List Value) (ws : List (List Nat)) (nw : Nat)
    (hok : ∀ r' ∈ l ++ [r], r'.Ok) (hnd : (PA :: adrP (l ++ [r])).Nodup) (hoff : ∀ q ∈ news, ∀ p ∈ PA :: adrP (l ++ [r]), q.1 ≠ p) (hnI : ∀ q ∈ ledP PA n (l ++ [r]) ++ news, q.1 ≠ I) (hall : all = own ++ (ledP PA n (l ++ [r]) ++ news))
    (hownw : ∀ q ∈ own, q.1 ≠ r.w)
    (hst : stepPc seps (pcsOf (l ++ [r])) c = pcsOf l ++ [(r.sep, ws)]) (hstep : pcs seps (text.take (i + 1)) = stepPc seps (pcsOf (l ++ [r])) c) (hvs : StrsAre vs (ws.map S))
    (F : Fr h₀ L h' m) (N : News h₀ L h' (upd r.w (W.listOf vs.toArray nw) all)) (hm1 : m (Str.ofString "pieces") = some (.ref PA)) (hm2 : m (Str.ofString "seps") = some (.str (S seps) ts)) :
    GEnd h₀ L I (JP PA news seps text ts (i + 1)) own s { s with heap := h', toks := tk } := by
  have hsub : Sub (ledP PA n (l ++ [r]) ++ news) all := by rw [hall]; exact fun p hp => List.mem_append_right _ hp
  have e := adrP_words (l1 := l) (l2 := []) (r := r) vs ws nw
  refine GEnd.intro _ F N ?_ (ledP_words (l1 := l) (l2 := []) vs ws nw hnd hoff hsub) ?_ ⟨n, _, rfl, ?_, by rw [e]; exact hnd, by rw [e]; exact hoff, ?_, hm1, hm2⟩
  · intro p hp
    exact mem_upd_ne (by rw [hall]; exact List.mem_append_left _ hp) (hownw p hp)
  · rw [adr_ne, e]; exact adr_ne.mp hnI
  · intro r' hr'
    rcases List.mem_append.mp hr' with h1 | h1
    · exact hok r' (by simp [h1])
    · rw [List.mem_singleton.mp h1]; exact ⟨(hok r (by simp)).1, hvs⟩
  · rw [hstep, hst]; simp [pcsOf]
theorem gend_more {h₀ h' : Heap} {L I PA : Addr} {oI : Obj} {news own all : List (Addr × Obj)} {seps text : List Nat} {ts : Tok} {i c n tk : Nat} {s : Shared} {m : Str → Option Value} {l : List PR} (r : PR)
    (hok : ∀ r' ∈ l, r'.Ok) (hnd : (PA :: adrP l).Nodup) (hoff : ∀ q ∈ news, ∀ p ∈ PA :: adrP l, q.1 ≠ p) (hnI : ∀ q ∈ ledP PA n l ++ news, q.1 ≠ I) (hall : all = own ++ (ledP PA n l ++ news)) (hI : (I, oI) ∈ own)
    (hownP : ∀ q ∈ own, q.1 ≠ PA) (hw : ∀ p ∈ all, p.1 < r.w) (hq : r.w < r.q) (hrok : r.Ok)
    (hst : stepPc seps (pcsOf l) c = pcsOf l ++ [(r.sep, r.ws)]) (hstep : pcs seps (text.take (i + 1)) = stepPc seps (pcsOf l) c)
    (F : Fr h₀ L h' m) (N : News h₀ L h' (upd PA (W.listOf ((l.map fun r => Value.ref r.q).toArray.push (.ref r.q)) (n + 1)) (r.led ++ all))) (hm1 : m (Str.ofString "pieces") = some (.ref PA)) (hm2 : m (Str.ofString "seps") = some (.str (S seps) ts)) :
    GEnd h₀ L I (JP PA news seps text ts (i + 1)) own s { s with heap := h', toks := tk } := by
  have hsub : Sub (ledP PA n l ++ news) all := by rw [hall]; exact fun p hp => List.mem_append_right _ hp
  have hwn : ∀ p ∈ all, @LT.lt Nat _ p.1 r.w := hw
  have hqn : @LT.lt Nat _ r.w r.q := hq
  have hPm : (PA, W.listOf (l.map fun r => Value.ref r.q).toArray n) ∈ all := hsub _ (List.mem_append_left _ (.head _))
  have hPw : @LT.lt Nat _ PA r.w := hwn _ hPm
  have hIw : @LT.lt Nat _ I r.w := hwn _ (by rw [hall]; exact List.mem_append_left _ hI)
  have hadr : ∀ p ∈ PA :: adrP l, @LT.lt Nat _ p r.w := by
    intro p hp
    rw [← ledP_adr PA n l] at hp
    obtain ⟨q, hq', rfl⟩ := List.mem_map.mp hp
    exact hwn q (hsub _ (List.mem_append_left _ hq'))
  have hnw : ∀ p ∈ news, @LT.lt Nat _ p.1 r.w := fun p hp => hwn p (hsub _ (List.mem_append_right _ hp))
  have e : adrP (l ++ [r]) = adrP l ++ [r.q, r.w] := by rw [adrP_app]; rfl
  refine GEnd.intro _ F N ?_ (ledP_more hnd hoff (by show @Ne Nat _ _; omega) (by show @Ne Nat _ _; omega) hsub) ?_ ⟨n + 1, _, rfl, ?_, ?_, ?_, ?_, hm1, hm2⟩
  · intro p hp
    exact mem_upd_ne (List.mem_append_right _ (by rw [hall]; exact List.mem_append_left _ hp)) (hownP p hp)
  · rw [adr_ne] at hnI ⊢
    refine ⟨fun q hq' => ?_, hnI.2⟩
    rw [e] at hq'
    rcases List.mem_cons.mp hq' with rfl | hq'
    · exact hnI.1 _ (.head _)
    · rcases List.mem_append.mp hq' with hq' | hq'
      · exact hnI.1 _ (.tail _ hq')
      · show @Ne Nat q I
        have : q = r.q ∨ q = r.w := by simpa using hq'
        rcases this with rfl | rfl <;> omega
  · intro r' hr'
    rcases List.mem_append.mp hr' with h1 | h1
    · exact hok r' h1
    · rw [List.mem_singleton.mp h1]; exact hrok
  · rw [e, ← List.cons_append, List.nodup_append]
    refine ⟨hnd, ?_, ?_⟩
    · have : r.q ≠ r.w := by show @Ne Nat _ _; omega
      simp [this]
    · intro a ha b hb
      have h1 := hadr a ha
      show @Ne Nat a b
      have : b = r.q ∨ b = r.w := by simpa using hb
      rcases this with rfl | rfl <;> omega
  · intro q hq' p hp
    rw [e, ← List.cons_append] at hp
    rcases List.mem_append.mp hp with hp | hp
    · exact hoff q hq' p hp
    · have h1 := hnw q hq'
      show @Ne Nat q.1 p
      have : p = r.q ∨ p = r.w := by simpa using hp
      rcases this with rfl | rfl <;> omega
  · rw [hstep, hst]; simp [pcsOf]
theorem pieces11 {w : World} {mean : ExcName → Option Value} {mg mb : Str → Option Value} (dp un : Nat) (gd : Option (List Code)) (cn : Str) (cs : Scope) (a : Addr) (ccd : Value) (cl : List (Str × Addr)) (outer : List Env) (A₀ : Around) (base h₀ : Heap) (L : Addr) (m : Str → Option Value) (news : List (Addr × Obj)) (s : Shared)
    (Q E : Value → Shared → Prop) (text seps : List Nat) (tt ts : Tok) (hlen : text.length ≤ 1000) (hseps : seps.length ≤ 1000)
    (B : Below A₀ base outer h₀) (F : Fr h₀ L s.heap m) (X : (hd11.heap_39 w.params).In h₀) (N : News h₀ L s.heap news) (T : Top hd11.view_39 (looseW hd11.view_39 []) mean mg mb h₀) (hk : cs.kind = .function)
    (hd : dp + 1 < recursionLimit) (hu : un + 8 < cLine)
    (ret : ∀ P n l h' tk', (∀ r ∈ l, r.Ok) → (P :: adrP l).Nodup → (∀ q ∈ news, ∀ p ∈ P :: adrP l, q.1 ≠ p) → pcsOf l = pcs seps text → Fr h₀ L h' m → News h₀ L h' (ledP P n l ++ news) → Q (.ref P) { s with heap := h', toks := tk' }) :
    wpAny (model PySem.Challenge.rw_dm0122_11.row.prog w) (ktrTop dp un gd cn cs L a ccd cl outer) (call (.ref 28) [.str (S text) tt, .str (S seps) ts]) Q E s := by
  revert T; revert X; k_fill; intro X T
  refine wpAny_call ?_
  k_dflt ktr_enter
  rename_i g1 L1 h1 FG1 F1 N1 B1 X1 T1
  walk_at "ws"
  rename Fr g1 L1 _ _ => F1
  rename News g1 L1 _ _ => N1
  refine For_invVF F1 rfl rfl ?_
  walk_at "ws"
  rename_i wA hA hwA qA hB hqA PA hC hPA hD
  refine forStr (JP PA news seps text ts) rfl F1 N1 ?_ ?_ ?_
  · have e1 : @LT.lt Nat _ wA qA := hqA.1
    have e2 : @LT.lt Nat _ qA PA := hPA.1
    refine ⟨0, [⟨qA, wA, 0, 0, .str (Str.ofString "") _, [.str (Str.ofString "") _], [], [[]]⟩], rfl, ?_, ?_, ?_, rfl, rfl, rfl⟩
    · intro r hr
      rw [List.mem_singleton.mp hr]
      exact ⟨⟨_, rfl⟩, .cons _ _ .nil⟩
    · show List.Nodup [PA, qA, wA]
      have a1 : PA ≠ qA := by show @Ne Nat PA qA; omega
      have a2 : PA ≠ wA := by show @Ne Nat PA wA; omega
      have a3 : qA ≠ wA := by show @Ne Nat qA wA; omega
      simp [a1, a2, a3]
    · intro q hq p hp
      have hq' : @LT.lt Nat _ q.1 wA := hwA q hq
      have hp' : p = PA ∨ p = qA ∨ p = wA := by simpa [adrP] using hp
      show @Ne Nat q.1 p
      rcases hp' with rfl | rfl | rfl <;> omega
  · rintro i c t m₁ nx h tk own I hc ⟨n, l, rfl, hok, hnd, hoff, hpcs, hm1, hm2⟩ ⟨oI, hI⟩ hof hnI F2 N2
    have F3 := fr_turn [(Str.ofString "pieces", .ref PA), (Str.ofString "seps", .str (S seps) ts)] F2 (by simp [hm1, hm2])
    obtain ⟨all, hall⟩ : ∃ all, all = own ++ (ledP PA n l ++ news) := ⟨_, rfl⟩
    rw [← hall] at N2
    have hsub : Sub (ledP PA n l ++ news) all := by rw [hall]; exact fun p hp => List.mem_append_right _ hp
    have hown : Sub own all := by rw [hall]; exact fun p hp => List.mem_append_left _ hp
    have hi : i < text.length := (List.getElem?_eq_some_iff.mp hc).1
    have hfull := full_pcs seps (text.take i)
    have hwt := wt_pcs seps (text.take i)
    have hstep := pcs_take seps text i c hc
    rw [← hpcs] at hfull hwt hstep
    rw [List.length_take] at hwt
    have hlw := le_wt (pcsOf l)
    have hln : (pcsOf l).length = l.length := List.length_map ..
    have hne : l ≠ [] := fun e => hfull.1 (by rw [e]; rfl)
    obtain ⟨l, r, rfl⟩ := snoc_of hne
    have hrp : (r.sep, r.ws) ∈ pcsOf (l ++ [r]) := by simp [pcsOf]
    obtain ⟨ws0, v0, hws⟩ := snoc_of (hfull.2 _ hrp)
    have hws : r.ws = ws0 ++ [v0] := hws
    have hrw : wtW r.ws ≤ wt (pcsOf (l ++ [r])) := hlw.2 _ hrp
    have hcount : l.length + 1 ≤ wt (pcsOf (l ++ [r])) := by have := hlw.1; rw [hln, List.length_append, List.length_singleton] at this; exact this
    have hwl := le_wtW r.ws
    obtain ⟨hrs, hrv⟩ := hok r (by simp)
    have hvl : r.vs.length = r.ws.length := by have := hrv.length; simpa using this
    have hPm : (PA, W.listOf ((l.map fun r => Value.ref r.q) ++ [Value.ref r.q]).toArray n) ∈ all := by
      have := hsub _ (List.mem_append_left _ (.head _)); simpa [ledP_eq] using this
    have hqm : (r.q, W.listOf #[r.sv, .ref r.w] r.nq) ∈ all := hsub _ (List.mem_append_left _ (by rw [ledP_eq, bodyP_app, bodyP_cons]; simp))
    have hwm : (r.w, W.listOf r.vs.toArray r.nw) ∈ all := hsub _ (List.mem_append_left _ (by rw [ledP_eq, bodyP_app, bodyP_cons]; simp))
    have hnI' := adr_ne.mp hnI
    have hrwI : r.w ≠ I := hnI'.1 _ (.tail _ (by rw [adrP_app]; exact List.mem_append_right _ (.tail _ (.head _))))
    have hPI : PA ≠ I := hnI'.1 _ (.head _)
    have hv0 : v0.length ≤ wtW r.ws := hwl.2 v0 (by rw [hws]; simp)
    have hsn : pcsOf (l ++ [r]) = pcsOf l ++ [(r.sep, r.ws)] := by simp [pcsOf]
    clear F2 F1 N1
    walk_at "ws"
    · -- a full stop
      rename (Builtin.Str.occurrences _ _ _ _ _).isEmpty = true => hns
      rename (S [c] == _) = true => hdot
      have hns : c ∉ seps := by rw [in_sep] at hns; simpa using hns
      have hdot : c = 46 := by
        have := beq_iff_eq.mp hdot
        rw [show Str.ofString "." = S [46] from by decide +kernel, S_inj] at this
        simpa using this
      refine item_last N2 hPm ?_
      walk_at "ws"
      refine item_U N2 hqm (by decide) (by decide) (v := .ref r.w) rfl ?_
      walk_at "ws"
      refine append_U F3 N2 hwm (by rw [List.size_toArray]; omega) ?_
      intro h' F4 N4
      dsimp only
      walk_at "ws"
      rw [List.push_toArray] at N4
      refine gend_words _ (r.ws ++ [[]]) _ hok hnd hoff hnI hall ?_ ?_ hstep ?_ F4 N4 rfl rfl
      · intro q hq; rw [hof q hq]; exact Ne.symm hrwI
      · rw [hsn, stepPc, if_neg hns, if_pos hdot, modLast_snoc]
      · rw [List.map_append]; exact hrv.append' (.cons _ _ .nil)
    · rename (Builtin.Str.occurrences _ _ _ _ _).isEmpty = true => hns
      rename (S [c] == _) = false => hdot
      have hns : c ∉ seps := by rw [in_sep] at hns; simpa using hns
      have hdot : c ≠ 46 := by
        rintro rfl
        rw [show Str.ofString "." = S [46] from by decide +kernel] at hdot
        simp at hdot
      obtain ⟨us, u0, hus, hu0⟩ : ∃ us t0, r.vs = us ++ [.str (S v0) t0] ∧ StrsAre us (ws0.map S) := by
        rw [hws, List.map_append] at hrv
        obtain ⟨us, t0, e1, e2⟩ := strs_snoc hrv
        exact ⟨us, t0, e1, e2⟩
      rw [hus] at hwm
      refine item_last N2 hPm ?_
      walk_at "ws"
      refine item_U N2 hqm (by decide) (by decide) (v := .ref r.w) rfl ?_
      walk_at "ws"
      refine getItem_last N2 hwm ?_
      walk_at "ws"

      refine setItem_last F3 N2 hwm ?_
      intro h' F4 N4
      dsimp only
      walk_at "ws"
      refine gend_words _ (ws0 ++ [v0 ++ [c]]) _ hok hnd hoff hnI hall ?_ ?_ hstep ?_ F4 N4 rfl rfl
      · intro q hq; rw [hof q hq]; exact Ne.symm hrwI
      · rw [hsn, stepPc, if_neg hns, if_neg hdot, modLast_snoc]
        show _ = _ ++ [(r.sep, _)]
        rw [hws, modLast_snoc]
      · rw [List.map_append]
        refine hu0.append' ?_
        rw [S_app]
        exact .cons _ _ .nil
    · -- a separator
      rename (Builtin.Str.occurrences _ _ _ _ _).isEmpty = false => hns
      have hns : c ∈ seps := by rw [in_sep] at hns; simpa using hns
      rename Fr g1 L1 _ _ => F4
      rename News g1 L1 _ _ => N4
      rename_i wB hB1 hwB qB hB2 hqB
      refine append_U F4 N4 (.tail _ (.tail _ hPm)) (by simp; omega) ?_
      intro h' F5 N5
      dsimp only
      walk_at "ws"
      have N6 := N5
      refine gend_more (l := l ++ [r]) ⟨qB, wB, 0, 0, .str (S [c]) t, [.str (Str.ofString "") _], [c], [[]]⟩ hok hnd hoff hnI hall hI ?_ hwB hqB.1 ?_ ?_ hstep F5 (by simpa [PR.led] using N5) rfl rfl
      · intro q hq; rw [hof q hq]; exact Ne.symm hPI
      · exact ⟨⟨_, rfl⟩, .cons _ _ .nil⟩
      · rw [stepPc, if_pos hns]
  · rintro m₁ nx h tk ⟨n, l, rfl, hok, hnd, hoff, hpcs, hm1, hm2⟩ F2 N2
    have F3 := fr_show [(Str.ofString "pieces", .ref PA)] F2 (by simp [hm1])
    clear F2 F1 N1
    walk_at "ws"
    show qk (Flow.ret (.ref PA)) _
    walk_at "ws"
    rw [List.take_length] at hpcs
    exact leaveK_ F3 N2 fun Fb Nb => ret _ _ _ _ _ hok hnd hoff hpcs Fb Nb
end Mine
end

section
open PySem PySem.W PyProof.Rows
namespace Mine

def defBody (p : Program) (n : Nat) : List Stmt := match p.main.body[n]? with
  | some (.FunctionDef (body := b) ..) => b
  | _ => []
def defScope (p : Program) (n : Nat) : Scope := match p.main.body[n]? with
  | some (.FunctionDef (scope := b) ..) => b
  | _ => default
def forOf (l : List Stmt) (k : Nat) : List Stmt := match l[k]? with
  | some (.For (body := b) ..) => b
  | _ => []
def thenOf (l : List Stmt) (k : Nat) : List Stmt := match l[k]? with
  | some (.If (body := b) ..) => b
  | _ => []
def elseOf (l : List Stmt) (k : Nat) : List Stmt := match l[k]? with
  | some (.If (orelse := b) ..) => b
  | _ => []
def loop11 : List Stmt := forOf (defBody PySem.Challenge.pw_dm0122_11 5) 3
def back11 : List Stmt := thenOf loop11 1
def front11 : List Stmt := elseOf loop11 1
def scope11 : Scope := defScope PySem.Challenge.pw_dm0122_11 5
abbrev env11 (L fa : Addr) (cA : Value) : Env := envOf (Str.ofString "law") scope11 L fa cA

/-- a peel of the pieces is done -/
def PeelEnd (s₁ : Shared) (P : Addr) (n : Nat) (own : List (Addr × Obj)) (a0 : List Addr) (av : Value) (lv : Value) (res : Pcs × List Nat) (f : Flow) (s' : Shared) : Prop :=
  f = .next ∧ ∃ h tk m all l' te, s' = { s₁ with heap := h, toks := tk } ∧ Fr s₁.heap s₁.heap.objs.size h m ∧ News s₁.heap s₁.heap.objs.size h all ∧ Sub own all ∧ Sub (ledP P n l') all ∧ (∀ r ∈ l', r.Ok) ∧ adrP l' = a0 ∧ pcsOf l' = res.1 ∧
    m (Str.ofString "pieces") = some (.ref P) ∧ m (Str.ofString "left") = some lv ∧ m (Str.ofString "altsep") = some av ∧ m (Str.ofString "ending") = some (.str (S res.2) te)
/-- told and due are there, and equal -/
def TurnEnd (s₁ : Shared) (P : Addr) (n : Nat) (own : List (Addr × Obj)) (a0 : List Addr) (av : Value) (alt : List Nat) (f : Flow) (s' : Shared) : Prop :=
  f = .next ∧ ∃ ps, WF (47 :: alt) ps ∧ wt ps ≤ 100 ∧ (txt ps).length ≤ 100 ∧ ∃ h tk m all l' rT rD a b t1 t2 t3 t4 tl, s' = { s₁ with heap := h, toks := tk } ∧ Fr s₁.heap s₁.heap.objs.size h m ∧ News s₁.heap s₁.heap.objs.size h all ∧ Sub own all ∧ Sub (ledP P n l') all ∧ (∀ r ∈ l', r.Ok) ∧ adrP l' = a0 ∧ pcsOf l' = ps ∧
    (rT, tup2 a b t1 t2) ∈ all ∧ (rD, tup2 a b t3 t4) ∈ all ∧ m (Str.ofString "told") = some (.ref rT) ∧ m (Str.ofString "due") = some (.ref rD) ∧
    m (Str.ofString "pieces") = some (.ref P) ∧ m (Str.ofString "left") = some (.str (S (txt ps)) tl) ∧ m (Str.ofString "altsep") = some av
local macro_rules | `(tactic| size_fits) => `(tactic| ((simp only [PySem.Str.length_append, S_len, PySem.sizeLine_eq, List.length_cons, List.length_nil]); omega))
local macro_rules | `(tactic| walk_at "stop") => `(tactic| first
  | (with_reducible show wpAny _ _ (exec (Stmt.For _ _ _ _ _) _) _ _ _)
  | (with_reducible show wpAny _ _ (exec (Stmt.While _ _ _ _) _) _ _ _)
  | (with_reducible show wpAny _ _ (eval (Expr.ListComp _ _ _ _) _) _ _ _)
  | (with_reducible show wpAny _ _ (pyIter _) _ _ _)
  | (with_reducible show CTurn _ _ _ _ _ _ _ _ _ _ _ _ _ _ _)
  | (with_reducible show CEnd _ _ _ _ _ _ _ _)
  | (with_reducible show GEnd _ _ _ _ _ _ _)
  | (with_reducible show wpAny _ _ (call (Value.builtin "list.append") _) _ _ _)
  | (with_reducible show wpAny _ _ (call (Value.ref _) _) _ _ _)
  | (with_reducible show wpAny _ _ (subscriptTail _ _ (Value.ref _) (Value.int _ _)) _ _ _)
  | (with_reducible show LeaveK _ _ _ _ _ _ _))
local macro_rules | `(tactic| walk_at "wsf") => `(tactic| repeat' (first | (k_unfold; (try dsimp only)) | ((fail_if_success (first | walk_at "stop" | with_reducible show ite _ _ _ | with_reducible show wpAny _ _ (eval (Expr.IfExp _ _ _ _) _) _ _ _)); walk1) | ((fail_if_success (first | walk_at "stop" | with_reducible show ite _ _ _ | with_reducible show wpAny _ _ (eval (Expr.IfExp _ _ _ _) _) _ _ _)); dsimp only; walk1) | (leave1; walk_say "STEP leave1"; try dsimp only)))
local macro_rules | `(tactic| walk_at "stopt") => `(tactic| first
  | walk_at "stop"
  | (with_reducible show ite _ _ _)
  | (with_reducible show wpAny _ _ (subscriptTail _ (Expr.Slice _ _ _ _) (Value.ref _) (Value.ref _)) _ _ _)
  | (with_reducible show wpAny _ _ (call (Value.builtin "str.join") _) _ _ _)
  | (with_reducible show wpAny _ _ (getMethod (Value.ref _) (Str.ofString "pop") _) _ _ _)
  | (with_reducible show wpAny _ _ (compareOp _ (Value.ref _) (Value.ref _)) _ _ _)
  | (with_reducible show PeelEnd _ _ _ _ _ _ _ _ _ _)
  | (with_reducible show TurnEnd _ _ _ _ _ _ _ _ _))
local macro_rules | `(tactic| walk_at "wst") => `(tactic| repeat' (first | (k_unfold; (try dsimp only)) | ((fail_if_success (walk_at "stopt")); walk1) | ((fail_if_success (walk_at "stopt")); dsimp only; walk1) | (leave1; walk_say "STEP leave1"; try dsimp only)))
local macro_rules | `(tactic| walk_at "GPost") => `(tactic| (dsimp only [GPost]))
local macro_rules | `(tactic| walk_at "ws") => `(tactic| repeat' (first | (k_unfold; (try dsimp only)) | ((fail_if_success (walk_at "stop")); walk1) | ((fail_if_success (walk_at "stop")); dsimp only; walk1) | (leave1; walk_say "STEP leave1"; try dsimp only)))
local macro_rules | `(tactic| walk_at "wsi") => `(tactic| repeat' (first | (k_unfold; (try dsimp only)) | ((fail_if_success (first | walk_at "stop" | with_reducible show ite _ _ _)); walk1) | ((fail_if_success (first | walk_at "stop" | with_reducible show ite _ _ _)); dsimp only; walk1) | (leave1; walk_say "STEP leave1"; try dsimp only)))


theorem back_ok {w : World} {mean : ExcName → Option Value} {mg mb : Str → Option Value} (s₁ : Shared) (fa : Addr) (cA : Value) (E : Value → Shared → Prop) (K0 : Below callerA s₁.heap [] s₁.heap) (T : Top hd11.view_39 (looseW hd11.view_39 []) mean mg mb s₁.heap) (KX : (hd11.heap_39 w.params).In s₁.heap)
    {P : Addr} {n : Nat} {own all : List (Addr × Obj)} {lb : List PR} {r : PR} {alt : List Nat} {av : Value} {tl te : Tok} {m : Str → Option Value} {h : Heap} {tk : Nat}
    (hav : AltV av alt) (hone : OneAlt alt) (h46 : 46 ∉ 47 :: alt) (hal : alt.length ≤ 1) (hok : ∀ r' ∈ lb ++ [r], r'.Ok) (hnd1 : (P :: adrP (lb ++ [r])).Nodup) (hown : ∀ q ∈ own, ∀ p ∈ P :: adrP (lb ++ [r]), q.1 ≠ p)
    (hwf : WF (47 :: alt) (pcsOf (lb ++ [r]))) (hwt : wt (pcsOf (lb ++ [r])) ≤ 100) (htx : (txt (pcsOf (lb ++ [r]))).length ≤ 100) (ho : Sub own all) (hsub : Sub (ledP P n (lb ++ [r])) all)
    (F : Fr s₁.heap s₁.heap.objs.size h m) (N : News s₁.heap s₁.heap.objs.size h all)
    (hm1 : m (Str.ofString "pieces") = some (.ref P)) (hm2 : m (Str.ofString "left") = some (.str (S (txt (pcsOf (lb ++ [r])))) tl)) (hm3 : m (Str.ofString "altsep") = some av) (hm4 : m (Str.ofString "ending") = some (.str (S []) te)) :
    wpAny (model PySem.Challenge.rw_dm0122_11.row.prog w) (callerA.deeper (env11 s₁.heap.objs.size fa cA)) (execs back11 (env11 s₁.heap.objs.size fa cA))
      (TurnEnd s₁ P n own (adrP (lb ++ [r])) av alt) E { s₁ with heap := h, toks := tk } := by
  revert KX; k_fill; intro KX
  unfold env11
  conv in (back11) => whnf
  simp only [show scope11 = defScope PySem.Challenge.pw_dm0122_11 5 from rfl]
  conv in (occs := *) (defScope PySem.Challenge.pw_dm0122_11 5) => all_goals whnf
  have hlw := le_wt (pcsOf (lb ++ [r]))
  have hrp : (r.sep, r.ws) ∈ pcsOf (lb ++ [r]) := by simp [pcsOf]
  obtain ⟨ws0, v0, hws⟩ := snoc_of (hwf.words _ hrp).1
  have hws : r.ws = ws0 ++ [v0] := hws
  have hrw : wtW r.ws ≤ wt (pcsOf (lb ++ [r])) := hlw.2 _ hrp
  have hwl := le_wtW r.ws
  obtain ⟨hrs, hrv⟩ := hok r (by simp)
  have hvl : r.vs.length = r.ws.length := by have := hrv.length; simpa using this
  rw [hws, List.map_append] at hrv
  obtain ⟨us, t0, hus, hu0⟩ := strs_snoc hrv
  have hPm0 : (P, W.listOf ((lb ++ [r]).map fun r => Value.ref r.q).toArray n) ∈ all := hsub _ (.head _)
  have hPm : (P, W.listOf ((lb.map fun r => Value.ref r.q) ++ [Value.ref r.q]).toArray n) ∈ all := by simpa using hPm0
  have hqm : (r.q, W.listOf #[r.sv, .ref r.w] r.nq) ∈ all := hsub _ (by rw [ledP_eq, bodyP_app, bodyP_cons]; simp)
  have hwm : (r.w, W.listOf (us ++ [Value.str (S v0) t0]).toArray r.nw) ∈ all := by rw [← hus]; exact hsub _ (by rw [ledP_eq, bodyP_app, bodyP_cons]; simp)
  have hsn : pcsOf (lb ++ [r]) = pcsOf lb ++ [(r.sep, ws0 ++ [v0])] := by simp [pcsOf, hws]
  have hwv : wtW ws0 + v0.length + 1 = wtW r.ws := by rw [hws, wtW_app]; simp [wtW]; omega
  have hul : us.length = ws0.length := by have := hu0.length; simpa using this
  have hjs := le_wtW ws0
  have hjs2 := sum_wtW ws0
  have F9 := fr_show [(Str.ofString "pieces", .ref P), (Str.ofString "left", .str (S (txt (pcsOf (lb ++ [r])))) tl), (Str.ofString "altsep", av), (Str.ofString "ending", .str (S []) te)] F (by simp [hm1, hm2, hm3, hm4])
  clear F
  walk_at "wst"
  refine item_last N hPm ?_
  walk_at "wst"
  refine item_U N hqm (by decide) (by decide) (v := .ref r.w) rfl ?_
  walk_at "wst"
  rename Fr s₁.heap s₁.heap.objs.size _ _ => F11
  rename News s₁.heap s₁.heap.objs.size _ _ => N11
  k_dflt (refine kms_slice_lit F11 N11 ⟨_, (N11 _ hwm).1, rfl, _, rfl⟩ .none (.int _ _) (zs := us) ?sle ?_ ?sls ?slt ?slz)
  case sle => simp [kms_pick, kms_lo, kms_hi]
  case sls => with_unfolding_all rfl
  case slt => kmk_pure
  case slz => (rw [List.size_toArray, PySem.sizeLine_eq]; simp; omega)
  intro D1 h11 F12 N12 hlt12
  dsimp only
  walk_at "wst"
  rw [show Str.ofString "" = S [] from by decide +kernel]
  refine join_L N12 (.head _) hu0 (by decide) (by omega) ?_
  intro t1 k1
  dsimp only
  walk_at "wst"
  refine ite_join (Q' := PeelEnd s₁ P n own (adrP (lb ++ [r])) av (.str (S (txt (pcsOf (lb ++ [r])))) tl) (if jn [] ws0 ≠ [] then (pcsOf lb ++ [(r.sep, ws0)], 46 :: v0) else (pcsOf (lb ++ [r]), []))) ?_ ?_ ?_
  · intro hj
    have hj : jn [] ws0 ≠ [] := fun e => by rw [e] at hj; simp at hj
    rw [if_pos hj]
    walk_at "wst"
    refine kl_method N12 (.tail _ hwm) PySem.F.slot_list_pop PySem.F.type_list_pop ?_
    dsimp only
    walk_at "wst"
    refine pop_U F12 N12 (.tail _ hwm) (by omega) ?_
    intro h13 F13 N13
    dsimp only
    rw [show Str.ofString "." = S [46] from by decide +kernel]
    walk_at "wst"
    rename Fr s₁.heap s₁.heap.objs.size _ _ => F14
    rename News s₁.heap s₁.heap.objs.size _ _ => N14
    rw [S_app] at F14
    have hsub1 : Sub (ledP P n (lb ++ r :: []) ++ []) ((D1, W.listOf us.toArray 0) :: all) := fun p hp => .tail _ (hsub p (by simpa using hp))
    have hsub2 := ledP_words us ws0 (r.nw + 1) hnd1 (by simp) hsub1
    refine ⟨rfl, _, _, _, _, lb ++ [{ r with vs := us, ws := ws0, nw := r.nw + 1 }], _, rfl, F14, N14, ?_, ?_, ?_, ?_, ?_, rfl, rfl, rfl, rfl⟩
    · intro p hp
      exact mem_upd_ne (.tail _ (ho p hp)) (hown p hp _ (.tail _ (by rw [adrP_app]; exact List.mem_append_right _ (.tail _ (.head _)))))
    · simpa using hsub2
    · intro r' hr'
      rcases List.mem_append.mp hr' with h1 | h1
      · exact hok r' (by simp [h1])
      · rw [List.mem_singleton.mp h1]; exact ⟨hrs, hu0⟩
    · exact adrP_words (l1 := lb) (l2 := []) us ws0 (r.nw + 1)
    · simp [pcsOf]
  · intro hj
    have hj : ¬ jn [] ws0 ≠ [] := by
      intro h; apply hj; rw [bne_iff_ne]; intro e; exact h (S_inj.mp e)
    rw [if_neg hj]
    refine wpAny_execs_nil ⟨rfl, _, _, _, _, lb ++ [r], _, rfl, F12, N12, ?_, ?_, hok, rfl, rfl, rfl, rfl, rfl, rfl⟩
    · exact fun p hp => .tail _ (ho p hp)
    · exact fun p hp => .tail _ (hsub p hp)
  · rintro f s' ⟨rfl, h13, tk13, m13, all3, l3, te3, rfl, F13, N13, ho13, hs13, hok13, hadr13, hpc13, e1, e2, e3, e4⟩
    have hspl := spl_back hone h46 (hsn ▸ hwf)
    rw [← hsn] at hspl
    obtain ⟨ps, en, hpe⟩ : ∃ ps en, (if jn [] ws0 ≠ [] then (pcsOf lb ++ [(r.sep, ws0)], 46 :: v0) else (pcsOf (lb ++ [r]), [])) = (ps, en) := ⟨_, _, rfl⟩
    have hspl2 : spl (txt (pcsOf (lb ++ [r]))) [47] alt [46] = (txt ps, en) := by
      rw [hspl]
      by_cases hj : jn [] ws0 ≠ []
      · rw [if_pos hj] at hpe ⊢; cases hpe; rfl
      · rw [if_neg hj] at hpe ⊢; cases hpe; rfl
    have hps : WF (47 :: alt) ps ∧ wt ps ≤ 100 ∧ (txt ps).length ≤ 100 ∧ en.length ≤ 100 := by
      by_cases hj : jn [] ws0 ≠ []
      · rw [if_pos hj] at hpe; cases hpe
        refine ⟨wf_back (hsn ▸ hwf) hj, ?_, ?_, ?_⟩
        · rw [hsn] at hwt; rw [wt_app, wt_one] at hwt ⊢; dsimp only at hwt ⊢; rw [wtW_app] at hwt; omega
        · rw [hsn] at htx; rw [txt_app, txt_one] at htx ⊢; dsimp only at htx ⊢
          have hw0 : ws0 ≠ [] := fun e => hj (by rw [e]; rfl)
          rw [jn_snoc _ _ _ hw0] at htx; simp at htx ⊢; omega
        · simp; omega
      · rw [if_neg hj] at hpe; cases hpe
        exact ⟨hwf, hwt, htx, by simp⟩
    rw [hpe] at hpc13 e4
    dsimp only at hpc13 e4
    have F14 := fr_show [(Str.ofString "pieces", .ref P), (Str.ofString "left", .str (S (txt (pcsOf (lb ++ [r])))) tl), (Str.ofString "altsep", av), (Str.ofString "ending", .str (S en) te3)] F13 (by simp [e1, e2, e3, e4])
    clear F13 F12 N12 F11 N11
    walk_at "wst"
    have hl3 : (txt (pcsOf l3)).length + l3.length ≤ 10000 := by
      have h1 := (le_wt (pcsOf l3)).1
      have h2 : (pcsOf l3).length = l3.length := List.length_map ..
      rw [hpc13] at h1 h2 ⊢
      omega
    k_dflt (refine text11 _ _ _ _ _ _ _ _ _ _ _ _ _ _ _ _ _ _ P n l3 hs13 hok13 hl3 K0 F14 KX N13 T rfl ?hdp ?hun ?_)
    case hdp => ktr_room
    case hun => ktr_units
    intro tt1 h15 tk15 F15 N15
    rw [hpc13]
    dsimp only
    walk_at "wst"
    rename Fr s₁.heap s₁.heap.objs.size _ _ => F16
    rename News s₁.heap s₁.heap.objs.size _ _ => N16
    rw [show Str.ofString "/" = S [47] from by decide +kernel, show Str.ofString "." = S [46] from by decide +kernel]
    k_dflt (refine splitext_str _ _ _ _ _ _ _ _ _ _ _ _ _ _ _ _ _ _ (txt (pcsOf (lb ++ [r]))) [47] [46] alt av _ _ _ hav (by omega) (by omega) K0 F16 KX N16 T rfl ?hdp ?hun ?_)
    case hdp => ktr_room
    case hun => ktr_units
    rw [hspl2]
    intro rT t1 t2 h17 tk17 F17 N17 hlt17
    dsimp only
    walk_at "wst"
    walk1
    walk_at "wst"
    rename Fr s₁.heap s₁.heap.objs.size _ _ => F18
    rename News s₁.heap s₁.heap.objs.size _ _ => N18
    refine ⟨rfl, ps, hps.1, hps.2.1, hps.2.2.1, _, _, _, _, l3, rT, _, txt ps, en, t1, t2, _, _, _, rfl, F18, N18, ?_, ?_, hok13, hadr13, hpc13, .head _, .tail _ (.head _), rfl, rfl, rfl, rfl, rfl⟩
    · exact fun p hp => .tail _ (.tail _ (ho13 p hp))
    · exact fun p hp => .tail _ (.tail _ (hs13 p hp))
end Mine
end

section
open PySem PySem.W PyProof.Rows
namespace Mine
local macro_rules | `(tactic| size_fits) => `(tactic| ((simp only [PySem.Str.length_append, S_len, PySem.sizeLine_eq, List.length_cons, List.length_nil]); omega))
local macro_rules | `(tactic| walk_at "stop") => `(tactic| first
  | (with_reducible show wpAny _ _ (exec (Stmt.For _ _ _ _ _) _) _ _ _)
  | (with_reducible show wpAny _ _ (exec (Stmt.While _ _ _ _) _) _ _ _)
  | (with_reducible show wpAny _ _ (eval (Expr.ListComp _ _ _ _) _) _ _ _)
  | (with_reducible show wpAny _ _ (pyIter _) _ _ _)
  | (with_reducible show CTurn _ _ _ _ _ _ _ _ _ _ _ _ _ _ _)
  | (with_reducible show CEnd _ _ _ _ _ _ _ _)
  | (with_reducible show GEnd _ _ _ _ _ _ _)
  | (with_reducible show wpAny _ _ (call (Value.builtin "list.append") _) _ _ _)
  | (with_reducible show wpAny _ _ (call (Value.ref _) _) _ _ _)
  | (with_reducible show wpAny _ _ (subscriptTail _ _ (Value.ref _) (Value.int _ _)) _ _ _)
  | (with_reducible show LeaveK _ _ _ _ _ _ _))
local macro_rules | `(tactic| walk_at "wsf") => `(tactic| repeat' (first | (k_unfold; (try dsimp only)) | ((fail_if_success (first | walk_at "stop" | with_reducible show ite _ _ _ | with_reducible show wpAny _ _ (eval (Expr.IfExp _ _ _ _) _) _ _ _)); walk1) | ((fail_if_success (first | walk_at "stop" | with_reducible show ite _ _ _ | with_reducible show wpAny _ _ (eval (Expr.IfExp _ _ _ _) _) _ _ _)); dsimp only; walk1) | (leave1; walk_say "STEP leave1"; try dsimp only)))
local macro_rules | `(tactic| walk_at "stopt") => `(tactic| first
  | walk_at "stop"
  | (with_reducible show ite _ _ _)
  | (with_reducible show wpAny _ _ (subscriptTail _ (Expr.Slice _ _ _ _) (Value.ref _) (Value.ref _)) _ _ _)
  | (with_reducible show wpAny _ _ (call (Value.builtin "str.join") _) _ _ _)
  | (with_reducible show wpAny _ _ (getMethod (Value.ref _) (Str.ofString "pop") _) _ _ _)
  | (with_reducible show wpAny _ _ (compareOp _ (Value.ref _) (Value.ref _)) _ _ _)
  | (with_reducible show PeelEnd _ _ _ _ _ _ _ _ _ _)
  | (with_reducible show TurnEnd _ _ _ _ _ _ _ _ _))
local macro_rules | `(tactic| walk_at "wst") => `(tactic| repeat' (first | (k_unfold; (try dsimp only)) | ((fail_if_success (walk_at "stopt")); walk1) | ((fail_if_success (walk_at "stopt")); dsimp only; walk1) | (leave1; walk_say "STEP leave1"; try dsimp only)))
local macro_rules | `(tactic| walk_at "GPost") => `(tactic| (dsimp only [GPost]))
local macro_rules | `(tactic| walk_at "ws") => `(tactic| repeat' (first | (k_unfold; (try dsimp only)) | ((fail_if_success (walk_at "stop")); walk1) | ((fail_if_success (walk_at "stop")); dsimp only; walk1) | (leave1; walk_say "STEP leave1"; try dsimp only)))
local macro_rules | `(tactic| walk_at "wsi") => `(tactic| repeat' (first | (k_unfold; (try dsimp only)) | ((fail_if_success (first | walk_at "stop" | with_reducible show ite _ _ _)); walk1) | ((fail_if_success (first | walk_at "stop" | with_reducible show ite _ _ _)); dsimp only; walk1) | (leave1; walk_say "STEP leave1"; try dsimp only)))


theorem front_ok {w : World} {mean : ExcName → Option Value} {mg mb : Str → Option Value} (s₁ : Shared) (fa : Addr) (cA : Value) (E : Value → Shared → Prop) (K0 : Below callerA s₁.heap [] s₁.heap) (T : Top hd11.view_39 (looseW hd11.view_39 []) mean mg mb s₁.heap) (KX : (hd11.heap_39 w.params).In s₁.heap)
    {P : Addr} {n : Nat} {own all : List (Addr × Obj)} {lb : List PR} {r : PR} {alt : List Nat} {av : Value} {tl te : Tok} {m : Str → Option Value} {h : Heap} {tk : Nat}
    (hav : AltV av alt) (hone : OneAlt alt) (h46 : 46 ∉ 47 :: alt) (hal : alt.length ≤ 1) (hok : ∀ r' ∈ r :: lb, r'.Ok) (hnd1 : (P :: adrP (r :: lb)).Nodup) (hown : ∀ q ∈ own, ∀ p ∈ P :: adrP (r :: lb), q.1 ≠ p)
    (hwf : WF (47 :: alt) (pcsOf (r :: lb))) (hwt : wt (pcsOf (r :: lb)) ≤ 100) (htx : (txt (pcsOf (r :: lb))).length ≤ 100) (ho : Sub own all) (hsub : Sub (ledP P n (r :: lb)) all)
    (F : Fr s₁.heap s₁.heap.objs.size h m) (N : News s₁.heap s₁.heap.objs.size h all)
    (hm1 : m (Str.ofString "pieces") = some (.ref P)) (hm2 : m (Str.ofString "left") = some (.str (S (txt (pcsOf (r :: lb)))) tl)) (hm3 : m (Str.ofString "altsep") = some av) (hm4 : m (Str.ofString "ending") = some (.str (S []) te)) :
    wpAny (model PySem.Challenge.rw_dm0122_11.row.prog w) (callerA.deeper (env11 s₁.heap.objs.size fa cA)) (execs front11 (env11 s₁.heap.objs.size fa cA))
      (TurnEnd s₁ P n own (adrP (r :: lb)) av alt) E { s₁ with heap := h, toks := tk } := by
  revert KX; k_fill; intro KX
  unfold env11
  conv in (front11) => whnf
  simp only [show scope11 = defScope PySem.Challenge.pw_dm0122_11 5 from rfl]
  conv in (occs := *) (defScope PySem.Challenge.pw_dm0122_11 5) => all_goals whnf
  have hlw := le_wt (pcsOf (r :: lb))
  have hrp : (r.sep, r.ws) ∈ pcsOf (r :: lb) := by simp [pcsOf]
  obtain ⟨v0, ws0, hws⟩ := List.exists_cons_of_ne_nil (hwf.words _ hrp).1
  have hws : r.ws = v0 :: ws0 := hws
  have hrs0 : r.sep = [] := by obtain ⟨_, _, e⟩ := hwf.head; simp [pcsOf] at e; exact e.1.1
  have hrw : wtW r.ws ≤ wt (pcsOf (r :: lb)) := hlw.2 _ hrp
  have hwl := le_wtW r.ws
  obtain ⟨hrs, hrv⟩ := hok r (by simp)
  have hvl : r.vs.length = r.ws.length := by have := hrv.length; simpa using this
  rw [hws, List.map_cons] at hrv
  obtain ⟨us, t0, hus, hu0⟩ : ∃ us t0, r.vs = Value.str (S v0) t0 :: us ∧ StrsAre us (ws0.map S) := by
    generalize r.vs = vv at hrv
    cases hrv with
    | cons z t r' => exact ⟨_, t, rfl, r'⟩
  have hPm0 : (P, W.listOf ((r :: lb).map fun r => Value.ref r.q).toArray n) ∈ all := hsub _ (.head _)
  have hqm : (r.q, W.listOf #[r.sv, .ref r.w] r.nq) ∈ all := hsub _ (by rw [ledP_eq, bodyP_cons]; simp)
  have hwm : (r.w, W.listOf (Value.str (S v0) t0 :: us).toArray r.nw) ∈ all := by rw [← hus]; exact hsub _ (by rw [ledP_eq, bodyP_cons]; simp)
  have hsn : pcsOf (r :: lb) = ([], v0 :: ws0) :: pcsOf lb := by simp [pcsOf, hws, hrs0]
  have hwv : wtW ws0 + v0.length + 1 = wtW r.ws := by rw [hws]; simp [wtW]; omega
  have hul : us.length = ws0.length := by have := hu0.length; simpa using this
  have hjs := le_wtW ws0
  have hjs2 := sum_wtW ws0
  have F9 := fr_show [(Str.ofString "pieces", .ref P), (Str.ofString "left", .str (S (txt (pcsOf (r :: lb)))) tl), (Str.ofString "altsep", av), (Str.ofString "ending", .str (S []) te)] F (by simp [hm1, hm2, hm3, hm4])
  clear F
  walk_at "wst"
  refine item_U N hPm0 (by decide) (by decide) (v := .ref r.q) rfl ?_
  walk_at "wst"
  refine item_U N hqm (by decide) (by decide) (v := .ref r.w) rfl ?_
  walk_at "wst"
  rename Fr s₁.heap s₁.heap.objs.size _ _ => F11
  rename News s₁.heap s₁.heap.objs.size _ _ => N11
  k_dflt (refine kms_slice_lit F11 N11 ⟨_, (N11 _ hwm).1, rfl, _, rfl⟩ (.int _ _) .none (zs := us) ?sle ?_ ?sls ?slt ?slz)
  case sle => simp [kms_pick, kms_lo, kms_hi]
  case sls => with_unfolding_all rfl
  case slt => kmk_pure
  case slz => (rw [List.size_toArray, PySem.sizeLine_eq]; simp; omega)
  intro D1 h11 F12 N12 hlt12
  dsimp only
  walk_at "wst"
  rw [show Str.ofString "" = S [] from by decide +kernel]
  refine join_L N12 (.head _) hu0 (by decide) (by omega) ?_
  intro t1 k1
  dsimp only
  walk_at "wst"
  refine ite_join (Q' := PeelEnd s₁ P n own (adrP (r :: lb)) av (.str (S (txt (pcsOf (r :: lb)))) tl) (if jn [] ws0 ≠ [] then (([], ws0) :: pcsOf lb, 46 :: v0.reverse) else (pcsOf (r :: lb), []))) ?_ ?_ ?_
  · intro hj
    have hj : jn [] ws0 ≠ [] := fun e => by rw [e] at hj; simp at hj
    rw [if_pos hj]
    walk_at "wst"
    refine kl_method N12 (.tail _ hwm) PySem.F.slot_list_pop PySem.F.type_list_pop ?_
    dsimp only
    walk_at "wst"
    refine pop0_U F12 N12 (.tail _ hwm) (by omega) ?_
    intro h13 F13 N13
    dsimp only
    walk_at "wst"
    rw [sliceBy_rev, show Str.ofString "." = S [46] from by decide +kernel]
    have hvr : v0.reverse.length = v0.length := List.length_reverse
    walk_at "wst"
    rename Fr s₁.heap s₁.heap.objs.size _ _ => F14
    rename News s₁.heap s₁.heap.objs.size _ _ => N14
    rw [S_app] at F14
    have hsub1 : Sub (ledP P n ([] ++ r :: lb) ++ []) ((D1, W.listOf us.toArray 0) :: all) := fun p hp => .tail _ (hsub p (by simpa using hp))
    have hsub2 := ledP_words us ws0 (r.nw + 1) hnd1 (by simp) hsub1
    refine ⟨rfl, _, _, _, _, { r with vs := us, ws := ws0, nw := r.nw + 1 } :: lb, _, rfl, F14, N14, ?_, ?_, ?_, ?_, ?_, rfl, rfl, rfl, rfl⟩
    · intro p hp
      exact mem_upd_ne (.tail _ (ho p hp)) (hown p hp _ (.tail _ (.tail _ (.head _))))
    · simpa using hsub2
    · intro r' hr'
      rcases List.mem_cons.mp hr' with h1 | h1
      · rw [h1]; exact ⟨hrs, hu0⟩
      · exact hok r' (by simp [h1])
    · exact adrP_words (l1 := []) (l2 := lb) us ws0 (r.nw + 1)
    · simp [pcsOf, hrs0]
  · intro hj
    have hj : ¬ jn [] ws0 ≠ [] := by
      intro h; apply hj; rw [bne_iff_ne]; intro e; exact h (S_inj.mp e)
    rw [if_neg hj]
    refine wpAny_execs_nil ⟨rfl, _, _, _, _, r :: lb, _, rfl, F12, N12, ?_, ?_, hok, rfl, rfl, rfl, rfl, rfl, rfl⟩
    · exact fun p hp => .tail _ (ho p hp)
    · exact fun p hp => .tail _ (hsub p hp)
  · rintro f s' ⟨rfl, h13, tk13, m13, all3, l3, te3, rfl, F13, N13, ho13, hs13, hok13, hadr13, hpc13, e1, e2, e3, e4⟩
    have hspl := spl_front hone h46 (hsn ▸ hwf)
    rw [← hsn] at hspl
    obtain ⟨ps, en, hpe⟩ : ∃ ps en, (if jn [] ws0 ≠ [] then (([], ws0) :: pcsOf lb, 46 :: v0.reverse) else (pcsOf (r :: lb), [])) = (ps, en) := ⟨_, _, rfl⟩
    have hspl2 : spl (txt (pcsOf (r :: lb))).reverse [47] alt [46] = ((txt ps).reverse, en) := by
      rw [hspl]
      by_cases hj : jn [] ws0 ≠ []
      · rw [if_pos hj] at hpe ⊢; cases hpe; rfl
      · rw [if_neg hj] at hpe ⊢; cases hpe; rfl
    have hps : WF (47 :: alt) ps ∧ wt ps ≤ 100 ∧ (txt ps).length ≤ 100 ∧ en.length ≤ 100 := by
      by_cases hj : jn [] ws0 ≠ []
      · rw [if_pos hj] at hpe; cases hpe
        refine ⟨wf_front (hsn ▸ hwf) hj, ?_, ?_, ?_⟩
        · rw [hsn] at hwt
          have e1 : wt (([], v0 :: ws0) :: pcsOf lb) = 1 + wtW (v0 :: ws0) + wt (pcsOf lb) := by simp [wt]
          have e2 : wt (([], ws0) :: pcsOf lb) = 1 + wtW ws0 + wt (pcsOf lb) := by simp [wt]
          have e3 : wtW (v0 :: ws0) = 1 + v0.length + wtW ws0 := by simp [wtW]
          omega
        · rw [hsn] at htx; rw [txt_cons] at htx ⊢; dsimp only at htx ⊢
          have hw0 : ws0 ≠ [] := fun e => hj (by rw [e]; rfl)
          rw [jn_cons _ _ hw0] at htx; simp at htx ⊢; omega
        · simp; omega
      · rw [if_neg hj] at hpe; cases hpe
        exact ⟨hwf, hwt, htx, by simp⟩
    rw [hpe] at hpc13 e4
    dsimp only at hpc13 e4
    have F14 := fr_show [(Str.ofString "pieces", .ref P), (Str.ofString "left", .str (S (txt (pcsOf (r :: lb)))) tl), (Str.ofString "altsep", av), (Str.ofString "ending", .str (S en) te3)] F13 (by simp [e1, e2, e3, e4])
    clear F13 F12 N12 F11 N11
    walk_at "wst"
    have hl3 : (txt (pcsOf l3)).length + l3.length ≤ 10000 := by
      have h1 := (le_wt (pcsOf l3)).1
      have h2 : (pcsOf l3).length = l3.length := List.length_map ..
      rw [hpc13] at h1 h2 ⊢
      omega
    k_dflt (refine text11 _ _ _ _ _ _ _ _ _ _ _ _ _ _ _ _ _ _ P n l3 hs13 hok13 hl3 K0 F14 KX N13 T rfl ?hdp ?hun ?_)
    case hdp => ktr_room
    case hun => ktr_units
    intro tt1 h15 tk15 F15 N15
    rw [hpc13]
    dsimp only
    walk_at "wst"
    rename Fr s₁.heap s₁.heap.objs.size _ _ => F16
    rename News s₁.heap s₁.heap.objs.size _ _ => N16
    rw [sliceBy_rev] at N16
    rw [sliceBy_rev, show Str.ofString "/" = S [47] from by decide +kernel, show Str.ofString "." = S [46] from by decide +kernel]
    k_dflt (refine splitext_str _ _ _ _ _ _ _ _ _ _ _ _ _ _ _ _ _ _ (txt (pcsOf (r :: lb))).reverse [47] [46] alt av _ _ _ hav (by rw [List.length_reverse]; omega) (by omega) K0 F16 KX N16 T rfl ?hdp ?hun ?_)
    case hdp => ktr_room
    case hun => ktr_units
    rw [hspl2]
    intro rT t1 t2 h17 tk17 F17 N17 hlt17
    dsimp only
    have hrl : (txt ps).reverse.length = (txt ps).length := List.length_reverse
    walk_at "wst"
    walk1
    walk_at "wst"
    rename Fr s₁.heap s₁.heap.objs.size _ _ => F18
    rename News s₁.heap s₁.heap.objs.size _ _ => N18
    dsimp only at F18
    rw [sliceBy_rev, List.reverse_reverse] at F18
    refine ⟨rfl, ps, hps.1, hps.2.1, hps.2.2.1, _, _, _, _, l3, rT, _, (txt ps).reverse, en, t1, t2, _, _, _, rfl, F18, N18, ?_, ?_, hok13, hadr13, hpc13, .head _, .tail _ (.head _), rfl, rfl, rfl, rfl, rfl⟩
    · exact fun p hp => .tail _ (.tail _ (ho13 p hp))
    · exact fun p hp => .tail _ (.tail _ (hs13 p hp))
end Mine
end

section
open PySem PySem.W PyProof.Rows
namespace Mine
local macro_rules | `(tactic| size_fits) => `(tactic| ((simp only [PySem.Str.length_append, S_len, PySem.sizeLine_eq, List.length_cons, List.length_nil]); omega))
local macro_rules | `(tactic| walk_at "stop") => `(tactic| first
  | (with_reducible show wpAny _ _ (exec (Stmt.For _ _ _ _ _) _) _ _ _)
  | (with_reducible show wpAny _ _ (exec (Stmt.While _ _ _ _) _) _ _ _)
  | (with_reducible show wpAny _ _ (eval (Expr.ListComp _ _ _ _) _) _ _ _)
  | (with_reducible show wpAny _ _ (pyIter _) _ _ _)
  | (with_reducible show CTurn _ _ _ _ _ _ _ _ _ _ _ _ _ _ _)
  | (with_reducible show CEnd _ _ _ _ _ _ _ _)
  | (with_reducible show GEnd _ _ _ _ _ _ _)
  | (with_reducible show wpAny _ _ (call (Value.builtin "list.append") _) _ _ _)
  | (with_reducible show wpAny _ _ (call (Value.ref _) _) _ _ _)
  | (with_reducible show wpAny _ _ (subscriptTail _ _ (Value.ref _) (Value.int _ _)) _ _ _)
  | (with_reducible show LeaveK _ _ _ _ _ _ _))
local macro_rules | `(tactic| walk_at "wsf") => `(tactic| repeat' (first | (k_unfold; (try dsimp only)) | ((fail_if_success (first | walk_at "stop" | with_reducible show ite _ _ _ | with_reducible show wpAny _ _ (eval (Expr.IfExp _ _ _ _) _) _ _ _)); walk1) | ((fail_if_success (first | walk_at "stop" | with_reducible show ite _ _ _ | with_reducible show wpAny _ _ (eval (Expr.IfExp _ _ _ _) _) _ _ _)); dsimp only; walk1) | (leave1; walk_say "STEP leave1"; try dsimp only)))
local macro_rules | `(tactic| walk_at "stopt") => `(tactic| first
  | walk_at "stop"
  | (with_reducible show ite _ _ _)
  | (with_reducible show wpAny _ _ (subscriptTail _ (Expr.Slice _ _ _ _) (Value.ref _) (Value.ref _)) _ _ _)
  | (with_reducible show wpAny _ _ (call (Value.builtin "str.join") _) _ _ _)
  | (with_reducible show wpAny _ _ (getMethod (Value.ref _) (Str.ofString "pop") _) _ _ _)
  | (with_reducible show wpAny _ _ (compareOp _ (Value.ref _) (Value.ref _)) _ _ _)
  | (with_reducible show PeelEnd _ _ _ _ _ _ _ _ _ _)
  | (with_reducible show TurnEnd _ _ _ _ _ _ _ _ _))
local macro_rules | `(tactic| walk_at "wst") => `(tactic| repeat' (first | (k_unfold; (try dsimp only)) | ((fail_if_success (walk_at "stopt")); walk1) | ((fail_if_success (walk_at "stopt")); dsimp only; walk1) | (leave1; walk_say "STEP leave1"; try dsimp only)))
local macro_rules | `(tactic| walk_at "GPost") => `(tactic| (dsimp only [GPost]))
local macro_rules | `(tactic| walk_at "ws") => `(tactic| repeat' (first | (k_unfold; (try dsimp only)) | ((fail_if_success (walk_at "stop")); walk1) | ((fail_if_success (walk_at "stop")); dsimp only; walk1) | (leave1; walk_say "STEP leave1"; try dsimp only)))
local macro_rules | `(tactic| walk_at "wsi") => `(tactic| repeat' (first | (k_unfold; (try dsimp only)) | ((fail_if_success (first | walk_at "stop" | with_reducible show ite _ _ _)); walk1) | ((fail_if_success (first | walk_at "stop" | with_reducible show ite _ _ _)); dsimp only; walk1) | (leave1; walk_say "STEP leave1"; try dsimp only)))

/-- the law came back True -/
def LawEnd (s₁ : Shared) (f : Flow) (s' : Shared) : Prop := ∃ h' tk' m', f = .ret (.bool true) ∧ s' = { s₁ with heap := h', toks := tk' } ∧ Fr s₁.heap s₁.heap.objs.size h' m'
theorem LawEnd.intro {s₁ : Shared} {h' : Heap} {tk' : Nat} {m' : Str → Option Value} (F : Fr s₁.heap s₁.heap.objs.size h' m') : LawEnd s₁ (.ret (.bool true)) { s₁ with heap := h', toks := tk' } := ⟨h', tk', m', rfl, rfl, F⟩
def AltEnd (s₁ : Shared) (h : Heap) (v : Value) (s' : Shared) : Prop := (∃ alt, AltV v alt ∧ ((alt = [] ∧ v = .none) ∨ (alt = [92] ∧ ∃ t, v = .str (S [92]) t))) ∧ ∃ tk, s' = { s₁ with heap := h, toks := tk }
def SepEnd (s₁ : Shared) (h : Heap) (alt : List Nat) (v : Value) (s' : Shared) : Prop := (∃ t, v = .str (S (47 :: alt)) t) ∧ ∃ tk, s' = { s₁ with heap := h, toks := tk }
/-- what stands between the peels -/
def J11 (P : Addr) (a0 : List Addr) (alt : List Nat) (av : Value) (i : Nat) (m : Str → Option Value) (nx : List (Addr × Obj)) : Prop :=
  ∃ n l t, nx = ledP P n l ∧ (∀ r ∈ l, r.Ok) ∧ adrP l = a0 ∧ WF (47 :: alt) (pcsOf l) ∧ wt (pcsOf l) ≤ 100 ∧ (txt (pcsOf l)).length ≤ 100 ∧ m (Str.ofString "pieces") = some (.ref P) ∧ m (Str.ofString "left") = some (.str (S (txt (pcsOf l))) t) ∧ m (Str.ofString "altsep") = some av
theorem law11 : PySem.Challenge.rw_dm0122_11.Holds := hd11 (by
  k_go0
  rename_i w s₀ s₁ mg mb G Y fa o pm doc kV ho hg KX XX V GL T B TE TW bmA bmO M cA cB hcd ns hs hlay0 hL1 hr1 hl2 as1 as2 la vs as3 hL ra w1 r0 hI hr hc1 hc2 K0 hD h1 F N0
  refine wpAny_mono (Q := LawEnd s₁) ?_ ?_ (fun _ _ e => e)
  case refine_2 =>
    rintro f s' ⟨h', tk', m', rfl, rfl, F'⟩
    wrow_close
  have hlen : ns.length ≤ 63 := by omega
  have K0 : Below callerA s₁.heap [] s₁.heap := K0
  clear G Y XX V GL B TE TW M hcd hs hlay0 hL1 hr1 hl2 ra w1 r0 hr hc1 hc2 hD ho hg
  walk_at "wsi"
  rename Fr s₁.heap s₁.heap.objs.size _ _ => F1
  rename News s₁.heap s₁.heap.objs.size _ _ => N1
  rename_i hp1 tkp1 tp1
  refine ite_join (Q' := AltEnd s₁ hp1) ?_ ?_ ?_
  · intro _
    walk_at "wsi"
    rw [show Str.ofString "\\" = S [92] from by decide +kernel]
    exact ⟨⟨[92], .inr ⟨_, rfl⟩, .inr ⟨rfl, _, rfl⟩⟩, _, rfl⟩
  · intro _
    walk_at "wsi"
    exact ⟨⟨[], .inl ⟨rfl, rfl⟩, .inl ⟨rfl, rfl⟩⟩, _, rfl⟩
  rintro av s' ⟨⟨alt, hav, halt⟩, tk2, rfl⟩
  clear F N0
  walk_at "wsi"
  refine ListComp_E (cl := []) rfl rfl (by decide) ?_
  walk_at "wsi"
  rename Fr s₁.heap s₁.heap.objs.size _ _ => F1
  rename News s₁.heap s₁.heap.objs.size _ _ => N1
  rename IntsAre _ (List.take 24 ns) => hI2
  refine csrc_ints (fun i g => ∃ (c : Nat) (t : Tok), g = some (Value.str (S [c]) t)) rfl (by decide) rfl rfl F1 N1 (.head _) hI2 (by rw [List.length_take, PySem.sizeLine_eq]; omega) ?_ (cfin_expr ?_)
  · intro i k hk I oI C oC D oD m₃ h tk E' ⟨t, hm3⟩ hC F2 N2 hoff
    refine wpAny_tests_nil ?_
    rw [if_pos rfl]
    walk_at "wsi"
    exact CEnd.intro F2 N2 (fun _ h => h) ⟨_, _, rfl⟩
  · intro D h tk gs Fd Nd hlt hgl hG
    dsimp only
    walk_at "wsi"
    obtain ⟨cs, hcs, hst⟩ := gs_texts hG
    have hcl : cs.length ≤ 24 := by rw [hcs, hgl, List.length_take]; omega
    rw [show Str.ofString "" = S [] from by decide +kernel]
    refine join_L Nd (.head _) hst (by decide) ?_ ?_
    · have := jn_sum [] (cs.map fun c => [c])
      rw [jn_nil, flat_ones] at this
      rw [List.length_map]; omega
    intro t' k'
    dsimp only
    rw [jn_nil, flat_ones]
    walk_at "wsf"
    rw [show Str.ofString "a.b" = S [97, 46, 98] from by decide +kernel]
    walk_at "wsf"
    rename Fr s₁.heap s₁.heap.objs.size _ _ => F3
    rename News s₁.heap s₁.heap.objs.size _ _ => N3
    rename_i t3 k3 ha3 hp3
    rw [S_app] at F3
    obtain ⟨text, htext⟩ : ∃ text, text = cs ++ [97, 46, 98] := ⟨_, rfl⟩
    rw [← htext] at F3
    have htl : text.length ≤ 27 := by rw [htext, List.length_append]; simp; omega
    refine wpAny_mono (Q := SepEnd s₁ hp3 alt) ?_ ?_ (fun _ _ e => e)
    · rcases halt with ⟨rfl, rfl⟩ | ⟨rfl, ta, rfl⟩
      · walk_at "ws"
        rw [show Str.ofString "/" = S [47] from by decide +kernel]
        exact ⟨⟨_, rfl⟩, _, rfl⟩
      · walk_at "ws"
        rw [show Str.ofString "/\\" = S [47, 92] from by decide +kernel]
        exact ⟨⟨_, rfl⟩, _, rfl⟩
    rintro sv s' ⟨⟨tsep, rfl⟩, tk4, rfl⟩
    walk_at "wsf"
    rw [S_app, ← htext]
    k_dflt (refine pieces11 _ _ _ _ _ _ _ _ _ _ _ _ _ _ _ _ _ _ text (47 :: alt) _ _ (by omega) ?hsl K0 F3 KX N3 T rfl ?hdp ?hun ?_)
    case hsl => rcases halt with ⟨rfl, _⟩ | ⟨rfl, _⟩ <;> decide
    case hdp => ktr_room
    case hun => ktr_units
    intro P n l h5 tk5 hok hnd hoff hpcs F5 N5
    dsimp only
    walk_at "wsf"
    rename Fr s₁.heap s₁.heap.objs.size _ _ => F6
    rename News s₁.heap s₁.heap.objs.size _ _ => N6
    refine For_invVF F6 rfl rfl ?_
    walk_at "wsf"
    rename Fr s₁.heap s₁.heap.objs.size _ _ => F7
    rename News s₁.heap s₁.heap.objs.size _ _ => N7
    rename_i XA wsX hX hIX hltX
    have h46 : 46 ∉ 47 :: alt := by rcases halt with ⟨rfl, _⟩ | ⟨rfl, _⟩ <;> decide
    have hone : OneAlt alt := by
      rcases halt with ⟨rfl, _⟩ | ⟨rfl, _⟩
      · exact .inl rfl
      · exact .inr ⟨_, rfl⟩
    have hal : alt.length ≤ 1 := by rcases halt with ⟨rfl, _⟩ | ⟨rfl, _⟩ <;> decide
    have hwf := wf_all h46 text
    rw [← hpcs] at hwf
    have hwt := wt_pcs (47 :: alt) text
    rw [← hpcs] at hwt
    have hXoff : ∀ p ∈ P :: adrP l, p ≠ XA := by
      intro p hp e
      rw [← ledP_adr P n l] at hp
      obtain ⟨q, hq, rfl⟩ := List.mem_map.mp hp
      have h1 := ktn_ltOf hltX.2.2 q (List.mem_append_left _ hq)
      rw [e] at h1
      exact Nat.lt_irrefl _ h1
    refine forList (J11 P (adrP l) alt av) rfl F7 N7 (.head _) (ledP P n l) ?_ ?_ ?_ ?_
    · exact fun p hp => .tail _ (.tail _ (.tail _ (List.mem_append_left _ hp)))
    · refine ⟨n, l, t3, rfl, hok, rfl, hwf.1, by omega, by rw [hwf.2]; omega, rfl, ?_, rfl⟩
      rw [hwf.2]; rfl
    · rintro i v m₁ nx h tk own I hv ⟨n, l1, tl, rfl, hok, hadr, hwf, hwt, htx, hm1, hm2, hm3⟩ ⟨oI, hI⟩ hof hnI F8 N8
      obtain ⟨xv, tx, rfl⟩ : ∃ xv tx, v = .int xv tx := by
        have hlt : i < (List.take 24 ns ++ [0, 8]).length := by rw [← hIX.length]; exact (List.getElem?_eq_some_iff.mp hv).1
        obtain ⟨tx, hx⟩ := hIX.get i _ (List.getElem?_eq_getElem hlt)
        rw [hv] at hx
        exact ⟨_, tx, Option.some.inj hx⟩
      have F9 := fr_turn [(Str.ofString "pieces", .ref P), (Str.ofString "left", .str (S (txt (pcsOf l1))) tl), (Str.ofString "altsep", av)] F8 (by simp [hm1, hm2, hm3])
      obtain ⟨all, hall⟩ : ∃ all, all = own ++ ledP P n l1 := ⟨_, rfl⟩
      rw [← hall] at N8
      have hsub : Sub (ledP P n l1) all := by rw [hall]; exact fun p hp => List.mem_append_right _ hp
      have ho : Sub own all := by rw [hall]; exact fun p hp => List.mem_append_left _ hp
      have hnd1 : (P :: adrP l1).Nodup := by rw [hadr]; exact hnd
      have hPI := ((adr_ne (news := [])).mp (by simpa using hnI)).1
      have hown : ∀ q ∈ own, ∀ p ∈ P :: adrP l1, q.1 ≠ p := by
        intro q hq p hp e
        rcases hof q hq with h | h
        · exact hPI p hp (e ▸ h)
        · exact hXoff p (hadr ▸ hp) (e ▸ h)
      clear F8 F7 N7
      walk_at "wsf"
      rename Fr s₁.heap s₁.heap.objs.size _ _ => F10
      rename News s₁.heap s₁.heap.objs.size _ _ => N10
      refine ite_join (Q' := TurnEnd s₁ P n own (adrP l1) av alt) ?_ ?_ ?_
      · intro _
        obtain ⟨lb, r, rfl⟩ := snoc_of (l := l1) (by rintro rfl; obtain ⟨_, _, e⟩ := hwf.head; cases e)
        exact back_ok s₁ fa _ _ K0 T KX hav hone h46 hal hok hnd1 hown hwf hwt htx ho hsub F10 N10 rfl rfl rfl rfl
      · intro _
        obtain ⟨r, lb, rfl⟩ := List.exists_cons_of_ne_nil (l := l1) (by rintro rfl; obtain ⟨_, _, e⟩ := hwf.head; cases e)
        exact front_ok s₁ fa _ _ K0 T KX hav hone h46 hal hok hnd1 hown hwf hwt htx ho hsub F10 N10 rfl rfl rfl rfl
      · rintro f s' ⟨rfl, ps, hps1, hps2, hps3, h12, tk12, m12, all2, l2, rT, rD, a2, b2, t1, t2, t3, t4, tl2, rfl, F12, N12, ho2, hs2, hok2, hadr2, hpc2, hrT, hrD, e1, e2, e3, e4, e5⟩
        have F13 := fr_show [(Str.ofString "told", .ref rT), (Str.ofString "due", .ref rD), (Str.ofString "pieces", .ref P), (Str.ofString "left", .str (S (txt ps)) tl2), (Str.ofString "altsep", av)] F12 (by simp [e1, e2, e3, e4, e5])
        clear F12
        walk_at "wst"
        refine ne_tup2 N12 hrT hrD ?_ ?_
        · have := cLine_is
          simp only [units_in1, units_deeper, Around.mark_units, units_caller]; omega
        rw [decide_eq_true (show a2 = a2 ∧ b2 = b2 from ⟨rfl, rfl⟩)]
        walk_at "wsf"
        rw [if_neg (by decide)]
        walk_at "wsf"
        refine GEnd.intro (ledP P n l2) F13 N12 ho2 hs2 ?_ ⟨n, l2, tl2, rfl, hok2, hadr2.trans hadr, by rw [hpc2]; exact hps1, by rw [hpc2]; exact hps2, by rw [hpc2]; exact hps3, rfl, by rw [hpc2]; rfl, rfl⟩
        have h9 := (adr_ne (PA := P) (n := n) (l := l2) (news := []) (I := I)).mpr ⟨by rw [hadr2]; exact hPI, by simp⟩
        simpa using h9
    · rintro m₁ nx h tk ⟨n, l1, tl, rfl, hok, hadr, hwf, hwt, htx, hm1, hm2, hm3⟩ F8 N8
      walk_at "wsf"
      exact LawEnd.intro F8)
end Mine
end

theorem PySem.Challenge.cw_dm0122_11_holds : PySem.Challenge.rw_dm0122_11.Holds := by
  exact Mine.law11
