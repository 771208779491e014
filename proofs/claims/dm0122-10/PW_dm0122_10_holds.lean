import PyProof.Rows.All
import Wide.All
import OpenK.AllK
import Wide.FinOn
import PySem.Challenge.RW_dm0122_10

set_option Elab.async false
set_option maxRecDepth 100000
set_option maxHeartbeats 4000000
set_option rowWalk.seconds 0
set_option linter.unusedVariables false

section
open PySem PySem.W PyProof.Rows
namespace Mine

/-- a text by its signs' numbers -/
def S (l : List Nat) : Str := ⟨l.toArray⟩
theorem S_inj {a b : List Nat} : S a = S b ↔ a = b := by
  constructor
  · intro h
    have h1 : (S a).cps = (S b).cps := by rw [h]
    have h2 : (S a).cps.toList = (S b).cps.toList := by rw [h1]
    simpa [S] using h2
  · rintro rfl; rfl
theorem S_eta (x : Str) : S x.cps.toList = x := by
  cases x; rfl
theorem S_len (l : List Nat) : (S l).length = l.length := by
  simp [S, Str.length]
theorem S_cps (l : List Nat) : (S l).cps.toList = l := by simp [S]
theorem S_app (a b : List Nat) : S a ++ S b = S (a ++ b) := by
  show Str.mk (a.toArray ++ b.toArray) = Str.mk (a ++ b).toArray
  simp

/-- y stands in p at i -/
def At (p y : List Nat) (i : Nat) : Prop := i + y.length ≤ p.length ∧ (p.drop i).take y.length = y
/-- the last place of y in p, or -1 -/
def rf (p y : List Nat) : Int := Txt.rfind (S p) (S y)
theorem at_iff (p y : List Nat) (i : Nat) : StrLaws.At (S p) (S y) (S p).length i ↔ At p y i := by
  unfold StrLaws.At At
  rw [StrLaws.subAt_eq, S_cps, S_cps, S_len, S_len, beq_iff_eq]
theorem rf_spec (p y : List Nat) : (rf p y = -1 ∧ ∀ i, ¬ At p y i) ∨ ∃ i : Nat, rf p y = (i : Int) ∧ At p y i ∧ ∀ k, i < k → ¬ At p y k := by
  have h := rfind_whole (S p) (S y)
  simp only [at_iff] at h
  exact h
theorem rf_ge (p y : List Nat) : -1 ≤ rf p y := by
  rcases rf_spec p y with ⟨h, _⟩ | ⟨i, h, _⟩ <;> omega
theorem rf_le (p y : List Nat) : rf p y + y.length ≤ p.length ∨ rf p y = -1 := by
  rcases rf_spec p y with ⟨h, _⟩ | ⟨i, h, h1, _⟩
  · exact .inr h
  · have := h1.1; omega

theorem rangeGet (l : List Nat) (a : Nat) : ∀ n, a + n ≤ l.length → (List.map (fun k : Nat => ((a : Int) + 1 * (k : Int)).toNat) (List.range n)).filterMap (fun i => l.toArray[i]?) = (l.drop a).take n := by
  intro n
  induction n with
  | zero => intro _; simp
  | succ n ih =>
    intro h
    rw [List.range_succ, List.map_append, List.filterMap_append, ih (by omega), List.take_add_one]
    congr 1
    have e : ((a : Int) + 1 * (n : Int)).toNat = a + n := by omega
    simp only [List.map_cons, List.map_nil, e]
    have h2 : a + n < l.length := by omega
    simp [h2]
theorem sliceGet (l : List Nat) (a b : Nat) (hb : b ≤ l.length) : ((sliceRange (a : Int) (b : Int) 1).filterMap (fun i => l.toArray[i]?)) = (l.take b).drop a := by
  unfold sliceRange
  dsimp only
  rw [if_pos (by decide)]
  by_cases h : (a : Int) < (b : Int)
  · rw [if_pos h]
    have e : (((b : Int) - (a : Int) + 1 - 1) / 1).toNat = b - a := by omega
    rw [e, rangeGet l a (b - a) (by omega), List.take_drop]
    congr 2
    omega
  · rw [if_neg h]
    have : (l.take b).drop a = [] := List.drop_eq_nil_of_le (by rw [List.length_take]; omega)
    rw [this]; simp
theorem sliceLen (a b : Nat) : (sliceRange (a : Int) (b : Int) 1).length = b - a := by
  unfold sliceRange
  dsimp only
  rw [if_pos (by decide), List.length_map, List.length_range]
  by_cases h : (a : Int) < (b : Int)
  · rw [if_pos h]; omega
  · rw [if_neg h]; omega
theorem slice_gen (l : List Nat) (lo hi : Option Int) (a b : Nat) (hb : b ≤ l.length) (e : Builtin.Str.strSliceIndices lo hi 1 l.length = sliceRange (a : Int) (b : Int) 1) : Txt.slice (S l) lo hi = S ((l.take b).drop a) := by
  unfold Txt.slice
  rw [S_len, e]
  split
  · rename_i h
    rw [sliceLen] at h
    have h' : b - a = l.length := by simpa using h
    have hb' : b = l.length := by omega
    by_cases ha : a = 0
    · subst ha; rw [hb']; simp
    · have : l.length = 0 := by omega
      have : l = [] := List.length_eq_zero_iff.mp this
      subst this; simp
  · show Str.mk ((List.filterMap (fun i => l.toArray[i]?) (sliceRange (a : Int) (b : Int) 1)).toArray) = _
    rw [sliceGet l a b hb]; rfl
theorem take_min {α : Type} (l : List α) (n : Nat) : l.take (min n l.length) = l.take n := by
  by_cases h : n ≤ l.length
  · rw [Nat.min_eq_left h]
  · rw [Nat.min_eq_right (by omega), List.take_length, List.take_of_length_le (by omega)]
theorem slice_to (l : List Nat) {d : Int} (h : 0 ≤ d) : Txt.slice (S l) none (some d) = S (l.take d.toNat) := by
  rw [slice_gen l none (some d) 0 (min d.toNat l.length) (Nat.min_le_right _ _)]
  · rw [List.drop_zero, take_min]
  · unfold Builtin.Str.strSliceIndices
    dsimp only
    rw [if_pos (show (1 : Int) > 0 by decide), if_pos (show (1 : Int) > 0 by decide), if_neg (by omega)]
    congr 1; omega
theorem slice_from (l : List Nat) {d : Int} (h : 0 ≤ d) : Txt.slice (S l) (some d) none = S (l.drop d.toNat) := by
  rw [slice_gen l (some d) none (min d.toNat l.length) l.length (Nat.le_refl _)]
  · congr 1
    rw [List.take_length]
    by_cases hd : d.toNat ≤ l.length
    · rw [Nat.min_eq_left hd]
    · rw [Nat.min_eq_right (by omega), List.drop_length, List.drop_eq_nil_of_le (by omega)]
  · unfold Builtin.Str.strSliceIndices
    dsimp only
    rw [if_pos (show (1 : Int) > 0 by decide), if_pos (show (1 : Int) > 0 by decide), if_neg (by omega)]
    congr 1; omega
theorem slice_mid (l : List Nat) {a b : Int} (h : 0 ≤ a) (h' : 0 ≤ b) : Txt.slice (S l) (some a) (some b) = S ((l.take b.toNat).drop a.toNat) := by
  rw [slice_gen l (some a) (some b) (min a.toNat l.length) (min b.toNat l.length) (Nat.min_le_right _ _)]
  · congr 1
    rw [take_min]
    by_cases hd : a.toNat ≤ l.length
    · rw [Nat.min_eq_left hd]
    · rw [Nat.min_eq_right (by omega), List.drop_eq_nil_of_le (by rw [List.length_take]; omega), List.drop_eq_nil_of_le (by rw [List.length_take]; omega)]
  · unfold Builtin.Str.strSliceIndices
    dsimp only
    rw [if_pos (show (1 : Int) > 0 by decide), if_pos (show (1 : Int) > 0 by decide), if_neg (by omega), if_neg (by omega)]
    congr 1 <;> omega
theorem fm_map {α β : Type} (f : α → Option β) (g : α → β) : ∀ l : List α, (∀ x ∈ l, f x = some (g x)) → l.filterMap f = l.map g
  | [], _ => rfl
  | a :: l, h => by
    rw [List.filterMap_cons, h a (.head _), List.map_cons, fm_map f g l fun x hx => h x (.tail _ hx)]
theorem rev_get (l : List Nat) : ∀ n, n ≤ l.length → ((List.range n).map (fun k : Nat => (((n : Int) - 1) + -1 * (k : Int)).toNat)).filterMap (fun i => l.toArray[i]?) = (l.take n).reverse := by
  intro n hn
  apply List.ext_getElem?
  intro i
  have h1 : ((List.range n).map (fun k : Nat => (((n : Int) - 1) + -1 * (k : Int)).toNat)).filterMap (fun i => l.toArray[i]?) = (List.range n).map (fun k : Nat => l.getD (n - 1 - k) 0) := by
    rw [List.filterMap_map]
    apply fm_map
    intro k hk
    have hk : k < n := List.mem_range.mp hk
    have e : (((n : Int) - 1) + -1 * (k : Int)).toNat = n - 1 - k := by omega
    simp only [Function.comp, e]
    have h2 : n - 1 - k < l.length := by omega
    simp [h2]
  rw [h1]
  by_cases hi : i < n
  · rw [List.getElem?_map, List.getElem?_range hi, List.getElem?_reverse (by rw [List.length_take]; omega)]
    have h2 : n - 1 - i < l.length := by omega
    have h3 : min n l.length - 1 - i = n - 1 - i := by omega
    rw [List.length_take, h3, List.getElem?_take_of_lt (by omega)]
    simp [h2]
  · rw [List.getElem?_eq_none (by simp; omega), List.getElem?_eq_none (by simp; omega)]
theorem sliceBy_rev (l : List Nat) (t : Tok) : Txt.sliceBy (S l) none none (-1, t) = S l.reverse := by
  unfold Txt.sliceBy
  rw [if_neg (by simp)]
  show Str.mk ((Builtin.Str.strSliceIndices none none (-1) (S l).length).filterMap (fun i => l.toArray[i]?)).toArray = _
  rw [S_len]
  have e : Builtin.Str.strSliceIndices none none (-1) l.length = (List.range l.length).map (fun k : Nat => (((l.length : Int) - 1) + -1 * (k : Int)).toNat) := by
    unfold Builtin.Str.strSliceIndices sliceRange
    dsimp only
    simp only [show ¬ ((-1 : Int) > 0) by decide, if_false]
    congr 2
    by_cases h : ((l.length : Int) - 1) > -1
    · rw [if_pos h, show (- -1 : Int) = 1 from rfl]; omega
    · rw [if_neg h]; omega
  rw [e, rev_get l l.length (Nat.le_refl _), List.take_length]
  rfl
end Mine
end

section
open PySem PySem.W PyProof.Rows
namespace Mine
/-- altsep: None or a text -/
def AltV (v : Value) (alt : List Nat) : Prop := (v = .none ∧ alt = []) ∨ ∃ t, v = .str (S alt) t

section
variable {prog : Program} {w : World} {M : Model} {A : Around} {E : Value → Shared → Prop} {s : Shared}
theorem truthy_alt {Q : Bool → Shared → Prop} {v : Value} {alt : List Nat} (h : AltV v alt) (hl : alt.length ≤ 1000000) (hq : ∀ k, Q (decide (alt ≠ [])) { s with toks := k }) : wpAny (model prog w) A (truthy v) Q E s := by
  rcases h with ⟨rfl, rfl⟩ | ⟨t, rfl⟩
  · exact wpAny_pure (hq s.toks)
  · refine KXt.truthy (b := decide (alt ≠ [])) ?_ (by rw [S_len]; omega) hq
    rw [S_len]
    cases alt <;> simp
    omega
theorem ite_join {α : Type} {c : Prop} [Decidable c] {t1 t2 : Sem α} {Q Q' : α → Shared → Prop} (h1 : c → wpAny M A t1 Q' E s) (h2 : ¬ c → wpAny M A t2 Q' E s) (h : ∀ f s', Q' f s' → Q f s') :
    if c then wpAny M A t1 Q E s else wpAny M A t2 Q E s := by
  split
  · exact wpAny_mono (h1 ‹_›) h fun _ _ e => e
  · exact wpAny_mono (h2 ‹_›) h fun _ _ e => e
end
/-- what a stretch of code leaves behind: the frame's names ps, the ledger -/
def Left (h₀ : Heap) (L : Addr) (s : Shared) (news : List (Addr × Obj)) (R : (Str → Option Value) → Prop) (s' : Shared) : Prop :=
  ∃ h tk m, s' = { s with heap := h, toks := tk } ∧ Fr h₀ L h m ∧ News h₀ L h news ∧ R m
theorem fr_show {h₀ h : Heap} {L : Addr} {m : Str → Option Value} (ps : List (Str × Value)) (F : Fr h₀ L h m) (hps : ∀ p ∈ ps, m p.1 = some p.2) : Fr h₀ L h (kstB m ps) := by
  have e : kstB m ps = m := funext fun z => kstB_eq hps fun _ => rfl
  rw [e]; exact F
theorem Left.intro {h₀ : Heap} {L : Addr} {s : Shared} {news : List (Addr × Obj)} {R : (Str → Option Value) → Prop} {h : Heap} {tk : Nat} {m : Str → Option Value} (F : Fr h₀ L h m) (N : News h₀ L h news) (r : R m) : Left h₀ L s news R { s with heap := h, toks := tk } := ⟨h, tk, m, rfl, F, N, r⟩
end Mine
end

section
open PySem PySem.W PyProof.Rows PySem.Calls
namespace Mine
/-- a part of a ledger -/
abbrev Sub (a b : List (Addr × Obj)) : Prop := ∀ p ∈ a, p ∈ b
theorem news_sub {h₀ h : Heap} {L : Addr} {a b : List (Addr × Obj)} (N : News h₀ L h b) (hs : Sub a b) : News h₀ L h a := fun p hp => N p (hs p hp)
/-- the ledger with the object at d changed -/
def upd (d : Addr) (o : Obj) (l : List (Addr × Obj)) : List (Addr × Obj) := l.map fun p => if p.1 = d then (d, o) else p
theorem upd_ok {h₀ h h' : Heap} {L d : Addr} {m : Str → Option Value} {all : List (Addr × Obj)} {o o' : Obj} (F : Fr h₀ L h m) (N : News h₀ L h all) (hm : (d, o) ∈ all) (hs : Heap.SameBut d h h') (hd : h'.get? d = some o') :
    Fr h₀ L h' m ∧ News h₀ L h' (upd d o' all) := ⟨F.change hs (N _ hm).2.1 (N _ hm).2.2, N.update hm hs hd⟩
theorem mem_upd_self {d : Addr} {o o' : Obj} {all : List (Addr × Obj)} (hm : (d, o) ∈ all) : (d, o') ∈ upd d o' all :=
  List.mem_map.mpr ⟨(d, o), hm, by simp⟩
theorem mem_upd_ne {d : Addr} {o' : Obj} {p : Addr × Obj} {all : List (Addr × Obj)} (hm : p ∈ all) (hne : p.1 ≠ d) : p ∈ upd d o' all :=
  List.mem_map.mpr ⟨p, hm, by simp [hne]⟩
theorem sub_upd {d : Addr} {o o' : Obj} {all led led' : List (Addr × Obj)} (hm : (d, o) ∈ all) (hs : Sub led all) (h : ∀ p ∈ led', p = (d, o') ∨ (p ∈ led ∧ p.1 ≠ d)) : Sub led' (upd d o' all) := by
  intro p hp
  rcases h p hp with rfl | ⟨h1, h2⟩
  · exact mem_upd_self hm
  · exact mem_upd_ne (hs p h1) h2

section texts
/-- a joined text -/
def jn (sep : List Nat) : List (List Nat) → List Nat
  | [] => []
  | [x] => x
  | x :: y :: r => x ++ sep ++ jn sep (y :: r)
theorem join_S (sep : List Nat) : ∀ ws : List (List Nat), Txt.join (S sep) (ws.map S) = S (jn sep ws) := by
  have h : ∀ ws : List (List Nat), Str.join (S sep) (ws.map S) = S (jn sep ws) := by
    intro ws
    induction ws with
    | nil => rfl
    | cons x r ih =>
      cases r with
      | nil => rfl
      | cons y r =>
        show S x ++ S sep ++ Str.join (S sep) ((y :: r).map S) = S (x ++ sep ++ jn sep (y :: r))
        rw [ih, S_app, S_app]
  intro ws
  rw [← h]
  exact StrLaws.glued_eq_join _ _

theorem jn_sum (sep : List Nat) : ∀ ws : List (List Nat), (ws.map List.length).sum ≤ (jn sep ws).length
  | [] => by simp [jn]
  | [x] => by simp [jn]
  | x :: y :: r => by
    have := jn_sum sep (y :: r)
    simp only [List.map_cons, List.sum_cons, jn, List.length_append] at *
    omega
theorem jn_count (c : Nat) : ∀ ws : List (List Nat), ws.length ≤ (jn [c] ws).length + 1
  | [] => by simp [jn]
  | [x] => by simp [jn]
  | x :: y :: r => by
    have := jn_count c (y :: r)
    simp only [jn, List.length_append, List.length_cons, List.length_nil] at *
    omega
theorem jn_nil : ∀ ws : List (List Nat), jn [] ws = ws.flatten
  | [] => rfl
  | [x] => by simp [jn]
  | x :: y :: r => by
    rw [jn, jn_nil (y :: r)]; simp
theorem lensS (ws : List (List Nat)) : ((ws.map S).map Str.length) = ws.map List.length := by
  rw [List.map_map]
  exact List.map_congr_left fun w _ => S_len w
theorem join_L {prog : Program} {w : World} {A : Around} {E : Value → Shared → Prop} {s : Shared} {h₀ : Heap} {L D : Addr} {all : List (Addr × Obj)} {vs : List Value} {ws : List (List Nat)} {n : Nat} {sep : List Nat} {t : Tok} {Q : Value → Shared → Prop} (N : News h₀ L s.heap all) (hm : (D, W.listOf vs.toArray n) ∈ all) (hv : StrsAre vs (ws.map S)) (hsep : sep.length ≤ 16) (hw : (ws.map List.length).sum + ws.length ≤ 1048576)
    (h : ∀ t' k, Q (.str (S (jn sep ws)) t') { s with toks := k }) : wpAny (model prog w) A (call (.builtin "str.join") [.str (S sep) t, .ref D]) Q E s := by
  refine join_listW (items := vs.toArray) (ys := ws.map S) ⟨_, (N _ hm).1, rfl, n, rfl⟩ (by simpa using hv) (by rw [S_len]; exact hsep) ?_ ?_
  · have e : ((ws.map S).map (·.length)) = ws.map List.length := lensS ws
    rw [e, List.length_map]; exact hw
  · intro t' k
    rw [join_S]; exact h t' k
theorem strs_get : ∀ {vs : List Value} {ys : List Str}, StrsAre vs ys → ∀ (i : Nat) (y : Str), ys[i]? = some y → ∃ t, vs[i]? = some (Value.str y t)
  | _, _, .nil, i, y, h => by simp at h
  | _, _, .cons z t r, 0, y, h => ⟨t, by simp at h; subst h; rfl⟩
  | _, _, .cons z t r, i + 1, y, h => by
    obtain ⟨t', e⟩ := strs_get r i y (by simpa using h)
    exact ⟨t', by simpa using e⟩
theorem strs_snoc : ∀ {vs : List Value} {ys : List Str} {y : Str}, StrsAre vs (ys ++ [y]) → ∃ us t, vs = us ++ [Value.str y t] ∧ StrsAre us ys
  | _, [], y, h => by
    cases h with
    | cons z t r => cases r; exact ⟨[], t, rfl, .nil⟩
  | _, z :: ys, y, h => by
    cases h with
    | cons z t r =>
      obtain ⟨us, t', e, h'⟩ := strs_snoc r
      exact ⟨Value.str z t :: us, t', by rw [e]; rfl, .cons z t h'⟩
theorem strs_of : ∀ {vs : List Value} {ys : List Str}, vs.length = ys.length → (∀ (i : Nat) (y : Str), ys[i]? = some y → ∃ t, vs[i]? = some (Value.str y t)) → StrsAre vs ys
  | [], [], _, _ => .nil
  | [], _ :: _, h, _ => by simp at h
  | _ :: _, [], h, _ => by simp at h
  | v :: vs, y :: ys, h, k => by
    obtain ⟨t, e⟩ := k 0 y rfl
    have : v = Value.str y t := by simpa using e
    subst this
    exact .cons y t (strs_of (by simpa using h) fun i z hz => by
      obtain ⟨t', e'⟩ := k (i + 1) z (by simpa using hz)
      exact ⟨t', by simpa using e'⟩)
theorem gs_strs : ∀ {gs : List (Option Value)} {tl : List (List Nat)}, gs.length = tl.length → (∀ (j : Nat) (g : Option Value), gs[j]? = some g → ∃ (v : List Nat) (t : Tok), tl[j]? = some v ∧ g = some (Value.str (S v) t)) → StrsAre (gs.filterMap id) (tl.map S)
  | [], [], _, _ => .nil
  | [], _ :: _, h, _ => by simp at h
  | _ :: _, [], h, _ => by simp at h
  | g :: gs, v :: tl, h, k => by
    obtain ⟨v', t, e1, e2⟩ := k 0 g rfl
    have : v = v' := by simpa using e1
    subst this
    subst e2
    have ih := gs_strs (gs := gs) (tl := tl) (by simpa using h) fun j g hj => by
      obtain ⟨v', t', a, b⟩ := k (j + 1) g (by simpa using hj)
      exact ⟨v', t', by simpa using a, b⟩
    exact .cons _ t ih
end texts
section lists
variable {prog : Program} {w : World} {A : Around} {E : Value → Shared → Prop} {s : Shared} {h₀ : Heap} {L D : Addr} {m : Str → Option Value} {all : List (Addr × Obj)} {its : Array Value} {n : Nat}
theorem append_U {x : Value} {Q : Value → Shared → Prop} (F : Fr h₀ L s.heap m) (N : News h₀ L s.heap all) (hm : (D, W.listOf its n) ∈ all) (hsz : its.size ≤ 1000000)
    (h : ∀ h', Fr h₀ L h' m → News h₀ L h' (upd D (W.listOf (its.push x) (n + 1)) all) → Q .none { s with heap := h' }) :
    wpAny (model prog w) A (call (.builtin "list.append") [.ref D, x]) Q E s :=
  append_at (N _ hm).1 (fun h' hs hd => by
    obtain ⟨F', N'⟩ := upd_ok F N hm hs hd
    exact h h' F' N') (by rw [PySem.sizeLine_eq]; omega)
theorem item_U {value slice : Expr} {k : Int} {u : Tok} {v : Value} {Q : Value → Shared → Prop} (N : News h₀ L s.heap all) (hm : (D, W.listOf its n) ∈ all) (h0 : 0 ≤ k) (hfit : k < 2 ^ 62) (hx : its[k.toNat]? = some v) (h : Q v s)
    (hs : subscripted slice false (.ref D) (.int k u) = operate [.ref D, .int k u] (getItem (.ref D) (.int k u)) := by with_unfolding_all rfl) :
    wpAny (model prog w) A (subscriptTail value slice (.ref D) (.int k u)) Q E s := by
  have hl : s.heap.IsList D its := ⟨_, (N _ hm).1, rfl, n, rfl⟩
  exact tail_any hl.typeIs slot_list_getitem.lookup (wpAny_getItem_list hl h0 (by omega) hx h) hs
theorem item_last {value slice : Expr} {xs : List Value} {u : Tok} {v : Value} {Q : Value → Shared → Prop} (N : News h₀ L s.heap all) (hm : (D, W.listOf (xs ++ [v]).toArray n) ∈ all) (h : Q v s)
    (hs : subscripted slice false (.ref D) (.int (-1) u) = operate [.ref D, .int (-1) u] (getItem (.ref D) (.int (-1) u)) := by with_unfolding_all rfl) :
    wpAny (model prog w) A (subscriptTail value slice (.ref D) (.int (-1) u)) Q E s := by
  have hl : s.heap.IsList D (xs ++ [v]).toArray := ⟨_, (N _ hm).1, rfl, n, rfl⟩
  refine tail_any hl.typeIs slot_list_getitem.lookup (wpAny_getItem_list_neg hl (by decide) ?_ (by decide) ?_ h) hs
  · simp; omega
  · have e : (-1 + ((xs ++ [v]).toArray.size : Int)).toNat = xs.length := by simp; omega
    rw [e]; simp
theorem getItem_last {xs : List Value} {u : Tok} {v : Value} {Q : Value → Shared → Prop} (N : News h₀ L s.heap all) (hm : (D, W.listOf (xs ++ [v]).toArray n) ∈ all) (h : Q v s) :
    wpAny (model prog w) A (getItem (.ref D) (.int (-1) u)) Q E s := by
  have hl : s.heap.IsList D (xs ++ [v]).toArray := ⟨_, (N _ hm).1, rfl, n, rfl⟩
  refine wpAny_getItem_list_neg hl (by decide) ?_ (by decide) ?_ h
  · simp; omega
  · have e : (-1 + ((xs ++ [v]).toArray.size : Int)).toNat = xs.length := by simp; omega
    rw [e]; simp
theorem map_U {its' : Array Value} {n' : Nat} (f : Array Value → Array Value) (F : Fr h₀ L s.heap m) (N : News h₀ L s.heap all) (hm : (D, W.listOf its n) ∈ all) (he : f its = its') (hn : (if its'.size == its.size then n else n + 1) = n') :
    Fr h₀ L (s.heap.update D (Obj.mapSeq f)) m ∧ News h₀ L (s.heap.update D (Obj.mapSeq f)) (upd D (W.listOf its' n') all) := by
  have q := PySem.IsL.update (N _ hm).1 f
  rw [he, hn] at q
  exact upd_ok F N hm (Heap.SameBut.update ..) q
theorem setItem_last {xs : List Value} {u : Tok} {v v' : Value} {Q : Unit → Shared → Prop} (F : Fr h₀ L s.heap m) (N : News h₀ L s.heap all) (hm : (D, W.listOf (xs ++ [v]).toArray n) ∈ all)
    (h : ∀ h', Fr h₀ L h' m → News h₀ L h' (upd D (W.listOf (xs ++ [v']).toArray n) all) → Q () { s with heap := h' }) :
    wpAny (model prog w) A (setItem (.ref D) (.int (-1) u) v') Q E s := by
  have e : (-1 + ((xs ++ [v]).toArray.size : Int)).toNat = xs.length := by simp; omega
  refine ki_setBack (N _ hm).1 (by decide) (by simp; omega) (by decide) ?_
  rw [e]
  obtain ⟨F', N'⟩ := map_U (its' := (xs ++ [v']).toArray) (n' := n) (·.setIfInBounds xs.length v') F N hm (by apply Array.toList_inj.mp; simp) (by simp)
  exact h _ F' N'
theorem setItem_U {xs : List Value} {k : Int} {u : Tok} {v' : Value} {Q : Unit → Shared → Prop} (F : Fr h₀ L s.heap m) (N : News h₀ L s.heap all) (hm : (D, W.listOf xs.toArray n) ∈ all) (h0 : 0 ≤ k) (h1 : k < xs.length) (hfit : k < 2 ^ 62)
    (h : ∀ h', Fr h₀ L h' m → News h₀ L h' (upd D (W.listOf (xs.set k.toNat v').toArray n) all) → Q () { s with heap := h' }) :
    wpAny (model prog w) A (setItem (.ref D) (.int k u) v') Q E s := by
  refine ki_setAt (N _ hm).1 h0 (by omega) (by rw [List.size_toArray]; exact h1) ?_
  obtain ⟨F', N'⟩ := map_U (its' := (xs.set k.toNat v').toArray) (n' := n) (·.setIfInBounds k.toNat v') F N hm (by apply Array.toList_inj.mp; simp) (by simp)
  exact h _ F' N'
theorem pop_U {xs : List Value} {v : Value} {Q : Value → Shared → Prop} (F : Fr h₀ L s.heap m) (N : News h₀ L s.heap all) (hm : (D, W.listOf (xs ++ [v]).toArray n) ∈ all) (hsz : xs.length ≤ 1000000)
    (h : ∀ h', Fr h₀ L h' m → News h₀ L h' (upd D (W.listOf xs.toArray (n + 1)) all) → Q v { s with heap := h' }) :
    wpAny (model prog w) A (call (.builtin "list.pop") [.ref D]) Q E s := by
  obtain ⟨F', N'⟩ := map_U (its' := xs.toArray) (n' := n + 1) (fun ys => ys.eraseIdxIfInBounds ((xs ++ [v]).toArray.size - 1)) F N hm (by apply Array.toList_inj.mp; simp [Array.eraseIdxIfInBounds]; exact (kl_eraseL xs [] v).trans (List.append_nil _)) (by simp)
  exact call_meets PySem.F.slot_list_pop ⟨_, (N _ hm).1, rfl⟩ PySem.F.entry_list_pop (PySem.F.args_list_pop_1 _) (PySem.MeetsSeq.list_pop_last D _ n v (by simp) (by simp [PySem.sizeLine_eq]; omega)) ⟨(N _ hm).1, h _ F' N'⟩
theorem pop0_U {xs : List Value} {v : Value} {u : Tok} {Q : Value → Shared → Prop} (F : Fr h₀ L s.heap m) (N : News h₀ L s.heap all) (hm : (D, W.listOf (v :: xs).toArray n) ∈ all) (hsz : xs.length ≤ 1000000)
    (h : ∀ h', Fr h₀ L h' m → News h₀ L h' (upd D (W.listOf xs.toArray (n + 1)) all) → Q v { s with heap := h' }) :
    wpAny (model prog w) A (call (.builtin "list.pop") [.ref D, .int 0 u]) Q E s := by
  obtain ⟨F', N'⟩ := map_U (its' := xs.toArray) (n' := n + 1) (fun ys => ys.eraseIdxIfInBounds 0) F N hm (by apply Array.toList_inj.mp; simp [Array.eraseIdxIfInBounds]) (by simp)
  exact call_meets PySem.F.slot_list_pop ⟨_, (N _ hm).1, rfl⟩ PySem.F.entry_list_pop (PySem.F.args_list_pop_2 _ _) (PySem.MeetsSeq.list_pop_at D _ n 0 u 0 v (by decide) (by simp [seqIndex?]) (by simp) (by simp [PySem.sizeLine_eq]; omega)) ⟨(N _ hm).1, h _ F' N'⟩
end lists
section setting
variable {prog : Program} {w : World} {A : Around} {E : Value → Shared → Prop} {s : Shared} {h₀ : Heap} {L D : Addr} {m : Str → Option Value} {all : List (Addr × Obj)} {n : Nat}
theorem in_sep (seps : List Nat) (c : Nat) : (Builtin.Str.occurrences (S seps) (S [c]) 0 (S seps).length 1).isEmpty = !decide (c ∈ seps) := by
  have h := StrLaws.found_one (S seps) c
  rw [S_cps] at h
  have e : (S [c] : Str) = ⟨#[c]⟩ := rfl
  rw [e, ← h, Bool.not_not]
end setting
/-- a turn's frame, its names shown -/
theorem fr_turn {h₀ h : Heap} {L : Addr} {m : Str → Option Value} {x : Str} {v : Value} (ps : List (Str × Value)) (F : Fr h₀ L h (fun y => if y = x then some v else m y)) (hps : ∀ p ∈ ps, m p.1 = some p.2) : Fr h₀ L h (fun y => if y = x then some v else kstB m ps y) := by
  have e : kstB m ps = m := funext fun z => kstB_eq hps fun _ => rfl
  rw [e]; exact F
section loops
variable {prog : Program} {w : World} {A : Around} {E : Value → Shared → Prop} {s : Shared} {env : Env} {h₀ : Heap} {x : Str} {body : List Stmt} {Q : Flow → Shared → Prop}
/-- a turn's end: the frame, the ledger's part that the loop speaks of -/
def GEnd (h₀ : Heap) (L I : Addr) (J : (Str → Option Value) → List (Addr × Obj) → Prop) (own : List (Addr × Obj)) (s s₂ : Shared) : Prop :=
  ∃ h' tk m' all nx, s₂ = { s with heap := h', toks := tk } ∧ Fr h₀ L h' m' ∧ News h₀ L h' all ∧ Sub own all ∧ Sub nx all ∧ (∀ p ∈ nx, p.1 ≠ I) ∧ J m' nx
def GPost (h₀ : Heap) (L I : Addr) (J : (Str → Option Value) → List (Addr × Obj) → Prop) (own : List (Addr × Obj)) (s : Shared) (Q : Flow → Shared → Prop) (f : Flow) (s₂ : Shared) : Prop :=
  match f with
  | .ret v => Q (.ret v) s₂
  | .brk => Q .next s₂
  | _ => GEnd h₀ L I J own s s₂
theorem GEnd.intro {L I : Addr} {J : (Str → Option Value) → List (Addr × Obj) → Prop} {own all : List (Addr × Obj)} {h' : Heap} {tk : Nat} {m' : Str → Option Value} (nx : List (Addr × Obj)) (F : Fr h₀ L h' m') (N : News h₀ L h' all) (ho : Sub own all) (hn : Sub nx all) (hI : ∀ p ∈ nx, p.1 ≠ I) (hj : J m' nx) :
    GEnd h₀ L I J own s { s with heap := h', toks := tk } := ⟨h', tk, m', all, nx, rfl, F, N, ho, hn, hI, hj⟩

theorem loopG {I : Addr} {fp : List Addr} {n : Nat} {P : Nat → Value → Prop} {St : Nat → Heap → Prop} {m₀ : Str → Option Value} {news : List (Addr × Obj)} (J : Nat → (Str → Option Value) → List (Addr × Obj) → Prop)
    (W : Walks prog w A I fp [I] n P St) (hIo : ∀ i h, St i h → ∃ o, h.get? I = some o) (hLf : env.locals ∉ fp) (hI₀ : h₀.get? I = none) (hnI : ∀ p ∈ news, p.1 ≠ I) (hst : St 0 s.heap) (F : Fr h₀ env.locals s.heap m₀) (N : News h₀ env.locals s.heap news) (hj : J 0 m₀ news)
    (turn : ∀ i v m₁ nx h tk own, i < n → P i v → J i m₁ nx → (∃ o, (I, o) ∈ own) → (∀ p ∈ own, p.1 ∈ fp) → (∀ p ∈ nx, p.1 ≠ I) → Fr h₀ env.locals h (fun y => if y = x then some v else m₁ y) → News h₀ env.locals h (own ++ nx) →
      wpAny (model prog w) A (execs body env) (GPost h₀ env.locals I (J (i + 1)) own s Q) E { s with heap := h, toks := tk })
    (done : ∀ m₁ nx h tk, J n m₁ nx → Fr h₀ env.locals h m₁ → News h₀ env.locals h nx → Q .next { s with heap := h, toks := tk }) :
    LoopAtV prog w A h₀ env x body Q E (.ref I) s := by
  have hIf : I ∈ fp := W.sub I (List.mem_singleton.mpr rfl)
  refine ⟨I, fp, [I], n, P, St, m₀, news, J, rfl, W, hLf, (fun b hb => by rw [List.mem_singleton.mp hb]; exact hI₀), (fun p hp hq => hnI p hp (List.mem_singleton.mp hq)), hst, F, N, hj, ?_, ?_⟩
  · rintro i v m₁ nx s₁ own ⟨h1, tk1, rfl⟩ hin hP hJ hoff hof _ hfp hst' F₁ N₁
    obtain ⟨oI, hoI⟩ := hIo _ _ hst'
    have hIown : (I, oI) ∈ own := hfp I hIf hI₀ _ hoI
    refine wpAny_mono (turn i v m₁ nx h1 tk1 own hin hP hJ ⟨oI, hIown⟩ hof (fun p hp hq => hoff p hp (List.mem_singleton.mpr hq)) F₁ N₁) (fun f s₂ p => ?_) fun _ _ e => e
    have fin : GEnd h₀ env.locals I (J (i + 1)) own s s₂ → LoopStepU h₀ env.locals [I] own (J (i + 1)) { s with heap := h1, toks := tk1 } .next s₂ := by
      rintro ⟨h', tk, m', all, nx', e, F', N', ho, hn, hI, hm⟩
      exact ⟨rfl, h', tk, m', nx', e, F', fun p hp => N' p ((List.mem_append.mp hp).elim (ho p) (hn p)), fun p hp hq => hI p hp (List.mem_singleton.mp hq), hm⟩
    cases f with
    | ret v => exact .ret p
    | brk => exact .brk p
    | next => exact .next (fin p)
    | cont => exact .cont (fin p)
  · rintro h' tk m' news' F' N' _ hJ
    exact done m' news' h' tk hJ F' N'

theorem forStr {p : List Nat} {tx : Tok} {m₀ : Str → Option Value} {news : List (Addr × Obj)} (J : Nat → (Str → Option Value) → List (Addr × Obj) → Prop)
    (hh : A.handled = none) (F : Fr h₀ env.locals s.heap m₀) (N : News h₀ env.locals s.heap news) (hj : J 0 m₀ news)
    (turn : ∀ i c t m₁ nx h tk own I, p[i]? = some c → J i m₁ nx → (∃ o, (I, o) ∈ own) → (∀ q ∈ own, q.1 = I) → (∀ q ∈ nx, q.1 ≠ I) → Fr h₀ env.locals h (fun y => if y = x then some (.str (S [c]) t) else m₁ y) → News h₀ env.locals h (own ++ nx) →
      wpAny (model prog w) A (execs body env) (GPost h₀ env.locals I (J (i + 1)) own s Q) E { s with heap := h, toks := tk })
    (done : ∀ m₁ nx h tk, J p.length m₁ nx → Fr h₀ env.locals h m₁ → News h₀ env.locals h nx → Q .next { s with heap := h, toks := tk }) :
    wpAny (model prog w) A (pyIter (.str (S p) tx)) (fun it s₂ => LoopAtV prog w A h₀ env x body Q E it s₂) E s := by
  have hsz : (S p).cps.size = p.length := by simp [S]
  have key : ∀ (o : Obj) (St : Nat → Heap → Prop), Walks prog w A s.heap.objs.size [s.heap.objs.size] [s.heap.objs.size] (S p).cps.size (SignAt (S p)) St → St 0 (s.heap.push o) → (∀ i h, St i h → ∃ o, h.get? s.heap.objs.size = some o) →
      LoopAtV prog w A h₀ env x body Q E (.ref s.heap.objs.size) { s with heap := s.heap.push o } := by
    intro o St W hst hst0
    rw [hsz] at W
    refine loopG J W hst0 ?_ (next_is_new F) (fun p hp => Nat.ne_of_lt (Heap.lt_size (N p hp).1)) hst (F.push _) (N.grown fun _ _ e => Heap.get?_push_of_some _ e) hj ?_ ?_
    · intro hm; exact absurd F.ns.lt ((List.mem_singleton.mp hm) ▸ Nat.lt_irrefl _)
    · rintro i v m₁ nx h tk own hi ⟨c, u, hc, rfl⟩ hJ hI hof hnI F₁ N₁
      exact turn i c u m₁ nx h tk own _ (by simpa [S] using hc) hJ hI (fun q hq => List.mem_singleton.mp (hof q hq)) hnI F₁ N₁
    · intro m₁ nx h tk hJ F₁ N₁
      exact done m₁ nx h tk hJ F₁ N₁
  cases ha : (S p).cps.all (· < 128)
  · exact wpAny_pyIter_wide ha (key _ _ (Walks.strWide hh _ (S p) tx) ⟨_, Heap.get?_push_size _ rfl, rfl, rfl⟩ (fun i h st => by obtain ⟨o, e, _⟩ := st; exact ⟨o, e⟩))
  · exact wpAny_pyIter_ascii ha (key _ _ (Walks.strAscii hh _ (S p) tx) ⟨_, Heap.get?_push_size _ rfl, rfl, rfl⟩ (fun i h st => by obtain ⟨o, e, _⟩ := st; exact ⟨o, e⟩))

theorem forRange {r : Addr} {n : Nat} {t₀ u₀ v₀ : Tok} {m₀ : Str → Option Value} {news : List (Addr × Obj)} (a : Int) (b : Int) (J : Nat → (Str → Option Value) → List (Addr × Obj) → Prop)
    (hh : A.handled = none) (hr : IsRange s.heap r a b 1 t₀ u₀ v₀) (hsmall : Builtin.Range.small a b 1 = true) (hn : Builtin.Range.rangeSize a b 1 = (n : Int)) (F : Fr h₀ env.locals s.heap m₀) (N : News h₀ env.locals s.heap news) (hj : J 0 m₀ news)
    (turn : ∀ i t m₁ nx h tk own I, i < n → J i m₁ nx → (∃ o, (I, o) ∈ own) → (∀ q ∈ own, q.1 = I) → (∀ q ∈ nx, q.1 ≠ I) → Fr h₀ env.locals h (fun y => if y = x then some (.int (a + (i : Int)) t) else m₁ y) → News h₀ env.locals h (own ++ nx) →
      wpAny (model prog w) A (execs body env) (GPost h₀ env.locals I (J (i + 1)) own s Q) E { s with heap := h, toks := tk })
    (done : ∀ m₁ nx h tk, J n m₁ nx → Fr h₀ env.locals h m₁ → News h₀ env.locals h nx → Q .next { s with heap := h, toks := tk }) :
    wpAny (model prog w) A (pyIter (.ref r)) (fun it s₂ => LoopAtV prog w A h₀ env x body Q E it s₂) E s := by
  refine wpAny_pyIter_range hr hsmall ?_
  have W : Walks prog w A s.heap.objs.size [s.heap.objs.size] [s.heap.objs.size] n (fun i v => i < n ∧ ∃ t, v = .int (a + i * 1) t)
      (fun i h => IsRangeIter h s.heap.objs.size (a + (i : Nat) * 1) ((n : Int) - (i : Nat)) 1) := (Walks.range hh _ a 1 n).bound
  refine loopG J W (fun i h st => ⟨_, st⟩) ?_ (next_is_new F) (fun p hp => Nat.ne_of_lt (Heap.lt_size (N p hp).1)) (by show IsRangeIter _ _ _ _ _; rw [hn]; simpa using Heap.get?_push_size _ rfl) (F.push _) (N.grown fun _ _ e => Heap.get?_push_of_some _ e) hj ?_ ?_
  · intro hm; exact absurd F.ns.lt ((List.mem_singleton.mp hm) ▸ Nat.lt_irrefl _)
  · rintro i v m₁ nx h tk own hi ⟨_, t, rfl⟩ hJ hI hof hnI F₁ N₁
    rw [Int.mul_one] at F₁
    exact turn i t m₁ nx h tk own _ hi hJ hI (fun q hq => List.mem_singleton.mp (hof q hq)) hnI F₁ N₁
  · intro m₁ nx h tk hJ F₁ N₁
    exact done m₁ nx h tk hJ F₁ N₁

/-- a loop over a list of the ledger, which stays as it is -/
theorem forList {l : Addr} {its : List Value} {c : Nat} {m₀ : Str → Option Value} {news : List (Addr × Obj)} (J : Nat → (Str → Option Value) → List (Addr × Obj) → Prop)
    (hh : A.handled = none) (F : Fr h₀ env.locals s.heap m₀) (N : News h₀ env.locals s.heap news) (hl : (l, W.listOf its.toArray c) ∈ news) (led : List (Addr × Obj)) (hled : Sub led news) (hj : J 0 m₀ led)
    (turn : ∀ i v m₁ nx h tk own I, its[i]? = some v → J i m₁ nx → (∃ o, (I, o) ∈ own) → (∀ q ∈ own, q.1 = I ∨ q.1 = l) → (∀ q ∈ nx, q.1 ≠ I) → Fr h₀ env.locals h (fun y => if y = x then some v else m₁ y) → News h₀ env.locals h (own ++ nx) →
      wpAny (model prog w) A (execs body env) (GPost h₀ env.locals I (J (i + 1)) own s Q) E { s with heap := h, toks := tk })
    (done : ∀ m₁ nx h tk, J its.length m₁ nx → Fr h₀ env.locals h m₁ → News h₀ env.locals h nx → Q .next { s with heap := h, toks := tk }) :
    wpAny (model prog w) A (pyIter (.ref l)) (fun it s₂ => LoopAtV prog w A h₀ env x body Q E it s₂) E s := by
  have hls : s.heap.IsList l its.toArray := ⟨_, (N _ hl).1, rfl, c, rfl⟩
  have hlt : l < s.heap.objs.size := Heap.lt_size (N _ hl).1
  refine wpAny_pyIter_list hls ?_
  have W := Walks.list (prog := prog) (w := w) hh s.heap.objs.size l (Nat.ne_of_lt hlt) its.toArray
  have hsz : its.toArray.size = its.length := by simp
  rw [hsz] at W
  have hnw : ∀ p ∈ led, p.1 ≠ s.heap.objs.size := fun p hp => Nat.ne_of_lt (Heap.lt_size (N p (hled p hp)).1)
  refine loopG J W (fun i h st => by obtain ⟨o, e, _⟩ := st.1; exact ⟨o, e⟩) ?_ (next_is_new F) hnw ⟨⟨_, Heap.get?_push_size _ rfl, rfl, rfl⟩, hls.push _⟩ (F.push _) ((news_sub N hled).grown fun _ _ e => Heap.get?_push_of_some _ e) hj ?_ ?_
  · intro hm
    rcases List.mem_cons.mp hm with e | hm
    · exact absurd F.ns.lt (e ▸ Nat.lt_irrefl _)
    · exact (N _ hl).2.1 (List.mem_singleton.mp hm).symm
  · rintro i v m₁ nx h tk own hi hP hJ hI hof hnI F₁ N₁
    exact turn i v m₁ nx h tk own _ (by simpa using hP) hJ hI (fun q hq => by simpa using hof q hq) hnI F₁ N₁
  · intro m₁ nx h tk hJ F₁ N₁
    exact done m₁ nx h tk hJ F₁ N₁
/-- a loop over a list that stood ahead of the call -/
theorem forBase {l : Addr} {its : List Value} {m₀ : Str → Option Value} {news : List (Addr × Obj)} (J : Nat → (Str → Option Value) → List (Addr × Obj) → Prop)
    (hh : A.handled = none) (F : Fr h₀ env.locals s.heap m₀) (N : News h₀ env.locals s.heap news) (hl : h₀.IsList l its.toArray) (hj : J 0 m₀ news)
    (turn : ∀ i v m₁ nx h tk own I, its[i]? = some v → J i m₁ nx → (∃ o, (I, o) ∈ own) → (∀ q ∈ own, q.1 = I ∨ q.1 = l) → (∀ q ∈ nx, q.1 ≠ I) → Fr h₀ env.locals h (fun y => if y = x then some v else m₁ y) → News h₀ env.locals h (own ++ nx) →
      wpAny (model prog w) A (execs body env) (GPost h₀ env.locals I (J (i + 1)) own s Q) E { s with heap := h, toks := tk })
    (done : ∀ m₁ nx h tk, J its.length m₁ nx → Fr h₀ env.locals h m₁ → News h₀ env.locals h nx → Q .next { s with heap := h, toks := tk }) :
    wpAny (model prog w) A (pyIter (.ref l)) (fun it s₂ => LoopAtV prog w A h₀ env x body Q E it s₂) E s := by
  have hls : s.heap.IsList l its.toArray := hl.at fun o e => F.keep l o e
  obtain ⟨ol, hol, _⟩ := id hl
  have hlt : l < h₀.objs.size := Heap.lt_size hol
  have hne : l ≠ s.heap.objs.size := Nat.ne_of_lt (Nat.lt_trans (Nat.lt_of_lt_of_le hlt F.above) F.ns.lt)
  refine wpAny_pyIter_list hls ?_
  have W := Walks.list (prog := prog) (w := w) hh s.heap.objs.size l hne its.toArray
  have hsz : its.toArray.size = its.length := by simp
  rw [hsz] at W
  refine loopG J W (fun i h st => by obtain ⟨o, e, _⟩ := st.1; exact ⟨o, e⟩) ?_ (next_is_new F) (fun p hp => Nat.ne_of_lt (Heap.lt_size (N p hp).1)) ⟨⟨_, Heap.get?_push_size _ rfl, rfl, rfl⟩, hls.push _⟩ (F.push _) (N.grown fun _ _ e => Heap.get?_push_of_some _ e) hj ?_ ?_
  · intro hm
    rcases List.mem_cons.mp hm with e | hm
    · exact absurd F.ns.lt (e ▸ Nat.lt_irrefl _)
    · exact absurd (Nat.lt_of_lt_of_le hlt F.above) ((List.mem_singleton.mp hm) ▸ Nat.lt_irrefl _)
  · rintro i v m₁ nx h tk own hi hP hJ hI hof hnI F₁ N₁
    exact turn i v m₁ nx h tk own _ (by simpa using hP) hJ hI (fun q hq => by simpa using hof q hq) hnI F₁ N₁
  · intro m₁ nx h tk hJ F₁ N₁
    exact done m₁ nx h tk hJ F₁ N₁
end loops
end Mine
end

section
open PySem PySem.W PyProof.Rows PySem.Calls
namespace Mine
open PyProof.Rows.LCg
section comp
variable {prog : Program} {w : World} {A : Around} {E : Value → Shared → Prop} {s : Shared} {env : Env} {h₀ : Heap} {L : Addr} {m : Str → Option Value}

abbrev testsOf (ifs : List Expr) (env : Env) : Sem Bool := forIn ifs true fun c r => if r = true then do let ok ← isTrue c env (eval c env); pure (ForInStep.yield ok) else pure (ForInStep.yield r)

theorem compLoop_all {elt target iter : Expr} {ifs : List Expr} {scope : Scope} {pos : Pos} {it acc : Value} {env : Env} {R : Result → Shared → Prop} (I : Nat → Shared → Prop)
    (turn : ∀ n s, I n s → wpAny (model prog w) A (pyNext it) (fun r s₁ => match r with
      | none => R (.ok .next) s₁
      | some v => wpAny (model prog w) A (letOwnedTupleGo target it v) (fun _ s₁' => wpAny (model prog w) A (assign target env v) (fun _ s₂ =>
          wpAny (model prog w) A (testsOf ifs env) (fun ok s₃ =>
            if ok = true then wpAny (model prog w) A (eval elt env) (fun x s₄ =>
              wpAny (model prog w) A (call (.builtin "list.append") [acc, x]) (fun _ s₅ => ∃ m, m < n ∧ I m s₅) (notedBy (model prog w) A env fun e s' => R (.error e) s') s₄) (notedBy (model prog w) A env fun e s' => R (.error e) s') s₃
            else ∃ m, m < n ∧ I m s₃) (notedBy (model prog w) A env fun e s' => R (.error e) s') s₂) (notedBy (model prog w) A env fun e s' => R (.error e) s') s₁') (notedBy (model prog w) A env fun e s' => R (.error e) s') s₁) (notedBy (model prog w) A env fun e s' => R (.error e) s') s)
    (n : Nat) (h : I n s) : codeAny (model prog w) A (.compLoop (.ListComp elt [⟨target, iter, ifs, 0⟩] scope pos) 0 it acc env) R s := by
  refine codeAny_loop rfl I (fun n s hI => ?_) n h
  show wpAny _ A ((compTurn (.ListComp elt [⟨target, iter, ifs, 0⟩] scope pos) 0 it acc env).onRaise (fun x => do noteFrame x env; theTreesLotGoes x)) _ _ s
  refine wpAny_noted ?_
  rw [compTurn_list]
  refine wpAny_bind (wpAny_standAt (wpAny_bind (wpAny_mono (turn n s hI) (fun r s₁ h₁ => ?_) fun _ _ h' => h')))
  cases r with
  | none => exact wpAny_pure h₁
  | some v =>
    refine wpAny_bind (wpAny_mono h₁ (fun _ s₁' h₁' => ?_) fun _ _ h' => h')
    refine wpAny_bind (wpAny_mono h₁' (fun _ s₂ h₂ => wpAny_bind (wpAny_mono h₂ (fun ok s₃ h₃ => ?_) fun _ _ h' => h')) fun _ _ h' => h')
    cases ok with
    | false => exact wpAny_pure ⟨rfl, h₃⟩
    | true =>
      exact wpAny_bind (wpAny_bind (wpAny_mono h₃ (fun x s₄ h₄ => wpAny_bind (wpAny_mono h₄ (fun _ s₅ h₅ => wpAny_pure (wpAny_pure ⟨rfl, h₅⟩)) fun _ _ h' => h')) fun _ _ h' => h'))

/-- an element's end: all that stood stands -/
def CEnd (h₀ : Heap) (L : Addr) (m : Str → Option Value) (s : Shared) (led : List (Addr × Obj)) (G : Option Value → Prop) (y : Option Value) (s₂ : Shared) : Prop :=
  ∃ h' tk, s₂ = { s with heap := h', toks := tk } ∧ Fr h₀ L h' m ∧ News h₀ L h' led ∧ G y
theorem CEnd.intro {led all : List (Addr × Obj)} {G : Option Value → Prop} {y : Option Value} {h' : Heap} {tk : Nat} (F : Fr h₀ L h' m) (N : News h₀ L h' all) (hs : Sub led all) (g : G y) : CEnd h₀ L m s led G y { s with heap := h', toks := tk } := ⟨h', tk, rfl, F, news_sub N hs, g⟩

/-- one turn of a comprehension behind its target's binding -/
def CTurn (prog : Program) (w : World) (A : Around) (h₀ : Heap) (L : Addr) (m : Str → Option Value) (env : Env) (elt : Expr) (ifs : List Expr) (scope : Scope) (cl : List (Str × Addr)) (s : Shared) (news : List (Addr × Obj)) (B : (Str → Option Value) → Prop) (G : Option Value → Prop) : Prop :=
  ∀ I oI C oC D oD m₃ h tk (E' : Value → Shared → Prop), B m₃ → NsObj oC m₃ → Fr h₀ L h m → News h₀ L h ((I, oI) :: (C, oC) :: (D, oD) :: news) → (∀ p ∈ news, p.1 ≠ C) →
    wpAny (model prog w) A (testsOf ifs (compEnvC scope cl C env)) (fun ok s₄ => if ok = true then wpAny (model prog w) A (eval elt (compEnvC scope cl C env)) (fun y => CEnd h₀ L m s ((I, oI) :: (C, oC) :: (D, oD) :: news) G (some y)) E' s₄ else CEnd h₀ L m s ((I, oI) :: (C, oC) :: (D, oD) :: news) G none s₄) E' { s with heap := h, toks := tk }

theorem comp_block {elt iter target : Expr} {ifs : List Expr} {scope : Scope} {cl : List (Str × Addr)} {pos : Pos} {s₂ : Shared} {I : Addr} {fp : List Addr} {n : Nat} {P : Nat → Value → Prop} {St : Nat → Heap → Prop} {news : List (Addr × Obj)}
    (Bd : Nat → (Str → Option Value) → Prop) (G : Nat → Option Value → Prop) {RR : Value → Addr → Result → Shared → Prop}
    (W : Walks prog w A I fp [I] n P St) (hsz : n ≤ sizeLine) (hIo : ∀ i h, St i h → ∃ o, h.get? I = some o)
    (hSt : ∀ i h h' o, St i h → h.get? I = some o → h'.get? I = some o → (∀ b o, h₀.get? b = some o → h'.get? b = some o) → News h₀ L h' news → St i h')
    (ht : ∀ i v s' (Q : Unit → Shared → Prop) (E' : Value → Shared → Prop), P i v → St (i + 1) s'.heap → Q () s' → wpAny (model prog w) A (letOwnedTupleGo target (.ref I) v) Q E' s')
    (hcell : ∀ y ∈ scope.names, y.2 ≠ .cell) (hkind : scope.kind = .function) (hst : St 0 s₂.heap) (hfp : ∀ b ∈ fp, b < s₂.heap.objs.size)
    (F : Fr h₀ L s₂.heap m) (N : News h₀ L s₂.heap news) (hIL : L ≠ I) (hI₀ : h₀.get? I = none) (off : ∀ p ∈ news, p.1 ≠ I)
    (hass : ∀ i v C h tk m' (E' : Value → Shared → Prop), P i v → h.Ns C m' → Fr h₀ L h m → News h₀ L h news → C ≠ L → h₀.get? C = none → (∀ p ∈ news, p.1 ≠ C) →
      wpAny (model prog w) A (assign target (compEnvC scope cl C env) v) (fun _ s₃ => ∃ h₃ tk₃ m₃, s₃ = { s₂ with heap := h₃, toks := tk₃ } ∧ h₃.Ns C m₃ ∧ (∀ b o, b ≠ C → h.get? b = some o → h₃.get? b = some o) ∧ Bd i m₃) E' { s₂ with heap := h, toks := tk })
    (turn : ∀ i, i < n → CTurn prog w A h₀ L m env elt ifs scope cl s₂ news (Bd i) (G i))
    (hRR : ∀ D C h tk m' (gs : List (Option Value)), Fr h₀ L h m → News h₀ L h ((D, lst (gs.filterMap id)) :: news) → h.Ns C m' → h₀.get? C = none → h₀.get? D = none → C ≠ L → D ≠ L → C ≠ D → (∀ p ∈ news, p.1 ≠ C) → (∀ p ∈ news, p.1 < D) → gs.length = n → (∀ j g, gs[j]? = some g → G j g) → RR (.ref D) C (.ok .next) { s₂ with heap := h, toks := tk }) :
    wpAny (model prog w) A (newList []) (fun acc s₃ => wpAny (model prog w) A (newFunctionEnv scope env.globals cl [] env.qual none .none (some env)) (fun cenv s₄ =>
      codeAny (model prog w) A (.compStart (.ListComp elt [⟨target, iter, ifs, 0⟩] scope pos) 0 (.ref I) acc { cenv with scope := relabel scope env }) (RR acc cenv.locals) s₄) E s₃) E s₂ := by
  refine wpAny_newObj_type (wpAny_newFunctionEnv hcell (by intro y hy; simp at hy) (fun h₁ hns₁ hsb₁ => ?_) hkind)
  dsimp only at hns₁ hsb₁ ⊢
  generalize hH2 : s₂.heap.push { cls := .type "list", dict := none, data := .seq ([] : List Value).toArray } = H2 at hns₁ hsb₁ ⊢
  have hC : H2.objs.size = s₂.heap.objs.size + 1 := by rw [← hH2, Heap.size_push]
  generalize hCe : H2.objs.size = C at hns₁ hsb₁ hC ⊢
  generalize hDe : s₂.heap.objs.size = D at hC hfp ⊢
  have hC : @Eq Nat C (D + 1) := hC
  have hDC : @Ne Nat D C := by omega
  have hIlt : @LT.lt Nat _ I D := hfp I (W.sub I (List.mem_singleton.mpr rfl))
  have hDf : D ∉ fp := fun hm => Nat.lt_irrefl _ (hfp _ hm)
  have hCf : C ∉ fp := fun hm => by have : @LT.lt Nat _ C D := hfp _ hm; omega
  have old : ∀ b o, s₂.heap.get? b = some o → h₁.get? b = some o := fun b o e => hsb₁.extBut b o (by have : @LT.lt Nat _ b s₂.heap.objs.size := Heap.lt_size e; show @Ne Nat b C; omega) (Heap.get?_push_of_some _ (hH2 ▸ Heap.get?_push_of_some _ e))
  have hacc : h₁.get? D = some (lst []) := hsb₁.extBut _ _ hDC (Heap.get?_push_of_some _ (hH2 ▸ hDe ▸ Heap.get?_push_size _ rfl))
  have hst₁ : St 0 h₁ := W.frame _ _ _ hst fun b _ o e => old b o e
  have fresh₀ : ∀ a, D ≤ a → h₀.get? a = none := fun a ha => by
    cases e : h₀.get? a with
    | none => rfl
    | some o' => have : @LT.lt Nat _ a s₂.heap.objs.size := Heap.lt_size (F.keep a o' e); have : @LE.le Nat _ D a := ha; omega
  have hD₀ : h₀.get? D = none := fresh₀ _ (Nat.le_refl _)
  have hC₀ : h₀.get? C = none := fresh₀ _ (by show @LE.le Nat _ D C; omega)
  have hLlt : @LT.lt Nat _ L D := by have : @LT.lt Nat _ L s₂.heap.objs.size := F.ns.lt; omega
  have hDL : @Ne Nat D L := by omega
  have hCL : @Ne Nat C L := by omega
  have hCI : @Ne Nat C I := by omega
  have hDI : @Ne Nat D I := by omega
  have hlt : ∀ p ∈ news, p.1 < D := fun p hp => by have : @LT.lt Nat _ p.1 s₂.heap.objs.size := Heap.lt_size (N p hp).1; show @LT.lt Nat _ p.1 D; omega
  have offC : ∀ p ∈ news, p.1 ≠ C := fun p hp => by have : @LT.lt Nat _ p.1 D := hlt p hp; show @Ne Nat p.1 C; omega
  have offD : ∀ p ∈ news, p.1 ≠ D := fun p hp => by have : @LT.lt Nat _ p.1 D := hlt p hp; show @Ne Nat p.1 D; omega
  have loop : ∀ s₃ : Shared, s₃ = { s₂ with heap := h₁, toks := s₂.toks + ([] : List (Str × Value)).length } →
      codeAny (model prog w) A (.compLoop (.ListComp elt [⟨target, iter, ifs, 0⟩] scope pos) 0 (.ref I) (.ref D) (compEnvC scope cl C env)) (RR (.ref D) C) s₃ := by
    rintro s₃ rfl
    refine compLoop_all
      (fun k s' => ∃ h' tk gs m', s' = { s₂ with heap := h', toks := tk } ∧ gs.length ≤ n ∧ k = n + 1 - gs.length ∧ St gs.length h' ∧ Fr h₀ L h' m ∧ h'.Ns C m' ∧ News h₀ L h' ((D, lst (gs.filterMap id)) :: news) ∧ (∀ j g, gs[j]? = some g → G j g)) ?_ (n + 1)
      ⟨h₁, _, [], _, rfl, Nat.zero_le _, rfl, hst₁, F.keeps old, hns₁, fun p hp => ?_, by simp⟩
    · rintro k s' ⟨h', tk, gs, m', rfl, hi, rfl, hst', F', hn', N', hG⟩
      by_cases hlt' : gs.length < n
      · refine W.item gs.length _ _ _ hlt' hst' fun v h₂ tk₂ hPv hst₂ hk₂ => ?_
        have kI : ∀ b o, b ≠ I → h'.get? b = some o → h₂.get? b = some o := fun b o hb e => hk₂ b o (by simpa using hb) e
        have F₂ : Fr h₀ L h₂ m := fr_but F' hk₂ hIL hI₀
        have N₂ : News h₀ L h₂ ((D, lst (gs.filterMap id)) :: news) := news_but N' hk₂ fun p hp => by
          rcases List.mem_cons.mp hp with rfl | hp
          · exact hDI
          · exact off p hp
        refine ht gs.length v _ _ _ hPv hst₂ ?_
        refine wpAny_mono (hass gs.length v C h₂ tk₂ _ _ hPv (hn'.at' fun o e => kI _ o hCI e) F₂ (fun p hp => N₂ p (.tail _ hp)) hCL hC₀ offC) (fun _ s₃ h₃ => ?_) fun _ _ e => e
        obtain ⟨h₃, tk₃, m₃, rfl, hn₃, hk₃, hB⟩ := h₃
        have hst₃ : St (gs.length + 1) h₃ := W.frame _ _ _ hst₂ fun b hb o e => hk₃ b o (fun q => hCf (q ▸ hb)) e
        obtain ⟨oI, heI⟩ := hIo _ _ hst₃
        obtain ⟨oC, heC, hoC⟩ := ns_obj hn₃
        have F₃ : Fr h₀ L h₃ m := ⟨F₂.ns.at' fun o e => hk₃ L o (Ne.symm hCL) e, fun b o e => hk₃ b o (fun q => by rw [q, hC₀] at e; cases e) (F₂.keep b o e), F₂.above⟩
        have N₃ : News h₀ L h₃ ((I, oI) :: (C, oC) :: (D, lst (gs.filterMap id)) :: news) := fun p hp => by
          rcases List.mem_cons.mp hp with rfl | hp
          · exact ⟨heI, Ne.symm hIL, hI₀⟩
          · rcases List.mem_cons.mp hp with rfl | hp
            · exact ⟨heC, hCL, hC₀⟩
            · refine ⟨hk₃ _ _ ?_ (N₂ p hp).1, (N₂ p hp).2⟩
              rcases List.mem_cons.mp hp with rfl | hp
              · exact hDC
              · exact offC p hp
        refine wpAny_mono (turn gs.length hlt' I oI C oC D _ m₃ h₃ tk₃ _ hB hoC F₃ N₃ offC) (fun ok s₄ h₄ => ?_) fun _ _ e => e
        have back : ∀ {y : Option Value} {s₅ : Shared}, CEnd h₀ L m s₂ ((I, oI) :: (C, oC) :: (D, lst (gs.filterMap id)) :: news) (G gs.length) y s₅ → ∃ h₅ tk₅, s₅ = { s₂ with heap := h₅, toks := tk₅ } ∧ Fr h₀ L h₅ m ∧ St (gs.length + 1) h₅ ∧ h₅.Ns C m₃ ∧ h₅.get? D = some (lst (gs.filterMap id)) ∧ News h₀ L h₅ news ∧ (∀ j g, (gs ++ [y])[j]? = some g → G j g) := by
          rintro y s₅ ⟨h₅, tk₅, rfl, F₅, N₅, g₅⟩
          refine ⟨h₅, tk₅, rfl, F₅, hSt _ _ _ _ hst₃ heI (N₅ _ (.head _)).1 F₅.keep (fun p hp => N₅ p (.tail _ (.tail _ (.tail _ hp)))), hoC.ns (N₅ _ (.tail _ (.head _))).1, (N₅ _ (.tail _ (.tail _ (.head _)))).1, fun p hp => N₅ p (.tail _ (.tail _ (.tail _ hp))), ?_⟩
          intro j g hj
          rcases Nat.lt_trichotomy j gs.length with h | h | h
          · exact hG j g (by rwa [List.getElem?_append_left h] at hj)
          · subst h; simp at hj; subst hj; exact g₅
          · have hnone : (gs ++ [y])[j]? = none := List.getElem?_eq_none (by rw [List.length_append, List.length_singleton]; omega)
            rw [hnone] at hj; cases hj
        cases ok with
        | false =>
          simp only [Bool.false_eq_true, if_false] at h₄ ⊢
          obtain ⟨h₅, tk₅, rfl, F₅, hst₅, hn₅, hD₅, N₅, hG₅⟩ := back h₄
          refine ⟨n + 1 - (gs.length + 1), by omega, h₅, tk₅, gs ++ [none], m₃, rfl, by simp; omega, by simp, by simpa using hst₅, F₅, hn₅, ?_, hG₅⟩
          intro p hp
          rcases List.mem_cons.mp hp with rfl | hp
          · exact ⟨by simpa using hD₅, hDL, hD₀⟩
          · exact N₅ p hp
        | true =>
          simp only [if_true] at h₄ ⊢
          refine wpAny_mono h₄ (fun y s₅ h₅' => ?_) fun _ _ e => e
          obtain ⟨h₅, tk₅, rfl, F₅, hst₅, hn₅, hD₅, N₅, hG₅⟩ := back h₅'
          have hlen : (gs.filterMap id).length ≤ n := Nat.le_trans (List.length_filterMap_le _ _) hi
          refine append_at (hsz := by show (gs.filterMap id).toArray.size ≤ sizeLine; rw [List.size_toArray]; exact Nat.le_trans hlen hsz) hD₅ fun h₆ hs₆ hD₆ => ?_
          refine ⟨n + 1 - (gs.length + 1), by omega, h₆, tk₅, gs ++ [some y], m₃, rfl, by simp; omega, by simp, ?_, F₅.change hs₆ hDL hD₀, hn₅.sameBut hs₆ (Ne.symm hDC), ?_, hG₅⟩
          · rw [List.length_append, List.length_singleton]
            exact W.frame _ _ _ hst₅ fun b hb o e => hs₆.extBut b o (fun q => hDf (q ▸ hb)) e
          · intro p hp
            rcases List.mem_cons.mp hp with rfl | hp
            · refine ⟨?_, hDL, hD₀⟩
              rw [List.filterMap_append]
              exact hD₆.trans (congrArg some (lst_snoc (gs.filterMap id) y))
            · exact ⟨hs₆.extBut _ _ (offD p hp) (N₅ p hp).1, (N₅ p hp).2⟩
      · obtain hin : gs.length = n := by omega
        rw [hin] at hst'
        refine W.done _ _ _ hst' fun h₂ tk₂ hk₂ => ?_
        have kI : ∀ b o, b ≠ I → h'.get? b = some o → h₂.get? b = some o := fun b o hb e => hk₂ b o (by simpa using hb) e
        exact hRR _ _ h₂ tk₂ _ gs (fr_but F' hk₂ hIL hI₀) (news_but N' hk₂ fun p hp => by
          rcases List.mem_cons.mp hp with rfl | hp
          · exact hDI
          · exact off p hp) (hn'.at' fun o e => kI _ o hCI e) hC₀ hD₀ hCL hDL (Ne.symm hDC) offC hlt hin hG
    · rcases List.mem_cons.mp hp with rfl | hp
      · exact ⟨hacc, hDL, hD₀⟩
      · exact ⟨old _ _ (N p hp).1, (N p hp).2⟩
  exact codeAny_compStart_list (loop _ rfl) (W.self 0 _ _ _ hst₁ (loop _ rfl))

/-- the comprehension's block behind its source's iterator -/
abbrev CBlock (prog : Program) (w : World) (A : Around) (E : Value → Shared → Prop) (env : Env) (elt target iter : Expr) (ifs : List Expr) (scope : Scope) (cl : List (Str × Addr)) (pos : Pos) (RR : Value → Addr → Result → Shared → Prop) (it : Value) (s₂ : Shared) : Prop :=
  wpAny (model prog w) A (newList []) (fun acc s₃ => wpAny (model prog w) A (newFunctionEnv scope env.globals cl [] env.qual none .none (some env)) (fun cenv s₄ =>
      codeAny (model prog w) A (.compStart (.ListComp elt [⟨target, iter, ifs, 0⟩] scope pos) 0 it acc { cenv with scope := relabel scope env }) (RR acc cenv.locals) s₄) E s₃) E s₂
def CFin (h₀ : Heap) (L : Addr) (m : Str → Option Value) (s₁ : Shared) (n : Nat) (G : Nat → Option Value → Prop) (news : List (Addr × Obj)) (RR : Value → Addr → Result → Shared → Prop) : Prop :=
  ∀ D C h tk m' (gs : List (Option Value)), Fr h₀ L h m → News h₀ L h ((D, lst (gs.filterMap id)) :: news) → h.Ns C m' → h₀.get? C = none → h₀.get? D = none → C ≠ L → D ≠ L → C ≠ D → (∀ p ∈ news, p.1 ≠ C) → (∀ p ∈ news, p.1 < D) → gs.length = n → (∀ j g, gs[j]? = some g → G j g) → RR (.ref D) C (.ok .next) { s₁ with heap := h, toks := tk }

theorem cfin_expr {n : Nat} {G : Nat → Option Value → Prop} {news : List (Addr × Obj)} {Q : Value → Shared → Prop}
    (fin : ∀ D h tk (gs : List (Option Value)), Fr h₀ L h m → News h₀ L h ((D, lst (gs.filterMap id)) :: news) → (∀ p ∈ news, p.1 < D) → gs.length = n → (∀ j g, gs[j]? = some g → G j g) → Q (.ref D) { s with heap := h, toks := tk }) :
    CFin h₀ L m s n G news (fun acc C => compPost (model prog w) A E none Q acc C) := by
  intro D C h tk m' gs F' N' hn hC₀ hD₀ hCL hDL hCD offC hlt hl hG
  refine ⟨m', hn, fun h'' hs'' => fin D h'' tk gs (F'.change hs'' hCL hC₀) (fun p hp => ?_) hlt hl hG⟩
  refine ⟨hs''.extBut _ _ ?_ (N' p hp).1, (N' p hp).2⟩
  rcases List.mem_cons.mp hp with rfl | hp
  · exact Ne.symm hCD
  · exact offC p hp
theorem cfin_assign {y : Str} {py : Pos} {n : Nat} {G : Nat → Option Value → Prop} {news : List (Addr × Obj)} {Q : Flow → Shared → Prop} (hy : env.kindOf y = some .local) (hp : (env.scope.kind == .class || (env.scope.kind == .module && env.locals != env.globals)) = false)
    (fin : ∀ D h tk (gs : List (Option Value)), Fr h₀ env.locals h (fun z => if z = y then some (.ref D) else m z) → News h₀ env.locals h ((D, lst (gs.filterMap id)) :: news) → (∀ p ∈ news, p.1 < D) → gs.length = n → (∀ j g, gs[j]? = some g → G j g) → Q .next { s with heap := h, toks := tk }) :
    CFin h₀ env.locals m s n G news (fun acc C => compPost (model prog w) A E (some (assign (.Name y py) env)) (fun _ s' => Q .next s') acc C) := by
  intro D C h tk m' gs F' N' hn hC₀ hD₀ hCL hDL hCD offC hlt hl hG
  show wpAny _ A (assign (.Name y py) env (.ref D)) _ _ _
  refine wpAny_assign_Name (wpAny_storeName_local hy F'.ns (fun h₂ hn₂ hs₂ => ?_) hp)
  have hL₀ : h₀.get? env.locals = none := Heap.get?_none_of_le F'.above
  have F₂ : Fr h₀ env.locals h₂ (fun z => if z = y then some (.ref D) else m z) := ⟨hn₂, fun b o e => hs₂.extBut b o (fun q => by rw [q, hL₀] at e; cases e) (F'.keep b o e), F'.above⟩
  refine ⟨m', hn.sameBut hs₂ hCL, fun h'' hs'' => fin D h'' _ gs (F₂.change hs'' hCL hC₀) (fun p hp => ?_) hlt hl hG⟩
  have z : h₂.get? p.1 = some p.2 := hs₂.extBut _ _ (N' p hp).2.1 (N' p hp).1
  refine ⟨hs''.extBut _ _ ?_ z, (N' p hp).2⟩
  rcases List.mem_cons.mp hp with rfl | hp
  · exact Ne.symm hCD
  · exact offC p hp

theorem ListComp_E {elt target iter : Expr} {ifs : List Expr} {scope : Scope} {cl : List (Str × Addr)} {pos : Pos} {Q : Value → Shared → Prop}
    (hclos : closureFor scope env = pure cl) (hkind : scope.kind = .function) (hnames : ∀ y ∈ scope.names, y.2 = .local → scope.names.lookup y.1 = some .local)
    (h : wpAny (model prog w) A (eval iter env) (fun xv s₁ => wpAny (model prog w) A (pyIter xv) (fun it s₂ => CBlock prog w A E env elt target iter ifs scope cl pos (fun acc C => compPost (model prog w) A E none Q acc C) it s₂) E s₁) E s)
    (hs : ∀ x, foldedSetIterable iter env x = pure x := by intro _; rfl) :
    wpAny (model prog w) A (eval (.ListComp elt [⟨target, iter, ifs, 0⟩] scope pos) env) Q E s := by
  rw [eval_ListComp]
  exact wpAny_comprehension_free (use := none) rfl hs hclos hkind hnames h
theorem ListComp_A {elt target iter : Expr} {ifs : List Expr} {y : Str} {py : Pos} {scope : Scope} {cl : List (Str × Addr)} {pos spos : Pos} {Q : Flow → Shared → Prop}
    (hsw : swapsWith (.ListComp elt [⟨target, iter, ifs, 0⟩] scope pos) (some (.Name y py)) spos.line env = pure true)
    (hclos : closureFor scope env = pure cl) (hkind : scope.kind = .function) (hnames : ∀ y ∈ scope.names, y.2 = .local → scope.names.lookup y.1 = some .local)
    (h : wpAny (model prog w) A (eval iter env) (fun xv s₁ => wpAny (model prog w) A (pyIter xv) (fun it s₂ => CBlock prog w A E env elt target iter ifs scope cl pos (fun acc C => compPost (model prog w) A E (some (assign (.Name y py) env)) (fun _ s' => Q .next s') acc C) it s₂) E s₁) E s)
    (hs : ∀ x, foldedSetIterable iter env x = pure x := by intro _; rfl) :
    wpAny (model prog w) A (exec (.Assign [.Name y py] (.ListComp elt [⟨target, iter, ifs, 0⟩] scope pos) spos) env) Q E s := by
  rw [exec_Assign_Name_used _ _ _ _ hsw]
  refine wpAny_bind (wpAny_standAt (wpAny_bind ?_))
  show wpAny _ A (do let _ ← comprehension (.ListComp elt [⟨target, iter, ifs, 0⟩] scope pos) scope env _ (newList []) false (eval iter env) (some (assign (.Name y py) env))) _ _ s
  exact wpAny_bind (wpAny_mono (wpAny_comprehension_free (use := some (assign (.Name y py) env)) (Q := fun _ s' => Q .next s') rfl hs hclos hkind hnames h) (fun _ s' hq => wpAny_pure (wpAny_pure hq)) fun _ _ e => e)

/-- the target's binding: a name -/
theorem bind_name {scope : Scope} {cl : List (Str × Addr)} {x : Str} {px : Pos} {P : Nat → Value → Prop} {s₂ : Shared} {news : List (Addr × Obj)} (hkind : scope.kind = .function) (hx : scope.names.lookup x = some .local) :
    ∀ i v C h tk m' (E' : Value → Shared → Prop), P i v → h.Ns C m' → Fr h₀ L h m → News h₀ L h news → C ≠ L → h₀.get? C = none → (∀ p ∈ news, p.1 ≠ C) →
      wpAny (model prog w) A (assign (.Name x px) (compEnvC scope cl C env) v) (fun _ s₃ => ∃ h₃ tk₃ m₃, s₃ = { s₂ with heap := h₃, toks := tk₃ } ∧ h₃.Ns C m₃ ∧ (∀ b o, b ≠ C → h.get? b = some o → h₃.get? b = some o) ∧ ∃ v, P i v ∧ m₃ x = some v) E' { s₂ with heap := h, toks := tk } := by
  intro i v C h tk m' E' hP hn _ _ _ _ _
  refine wpAny_assign_Name (wpAny_storeName_local (lookup_relabel_local hx) hn (fun h₃ hn₃ hs₃ => ?_) (by simp [compEnvC, relabel, hkind]))
  exact ⟨h₃, _, _, rfl, hn₃, fun b o hb e => hs₃.extBut b o hb e, v, hP, by simp⟩
/-- a pair of names, out of a list of two -/
theorem bind_pair {scope : Scope} {cl : List (Str × Addr)} {x x₂ : Str} {px px₂ tp : Pos} {kk : Nat} {P : Nat → Value → Prop} {s₂ : Shared} {news : List (Addr × Obj)} (hh : A.handled = none) (hkind : scope.kind = .function) (hx : scope.names.lookup x = some .local) (hx₂ : scope.names.lookup x₂ = some .local) (hxx : x ≠ x₂) (B2 : Nat → Value → Value → Prop)
    (hP : ∀ i v, P i v → ∃ t v₁ v₂ n, v = .ref t ∧ (t, W.listOf #[v₁, v₂] n) ∈ news ∧ B2 i v₁ v₂) :
    ∀ i v C h tk m' (E' : Value → Shared → Prop), P i v → h.Ns C m' → Fr h₀ L h m → News h₀ L h news → C ≠ L → h₀.get? C = none → (∀ p ∈ news, p.1 ≠ C) →
      wpAny (model prog w) A (assign (.Tuple [.Name x px, .Name x₂ px₂] kk tp) (compEnvC scope cl C env) v) (fun _ s₃ => ∃ h₃ tk₃ m₃, s₃ = { s₂ with heap := h₃, toks := tk₃ } ∧ h₃.Ns C m₃ ∧ (∀ b o, b ≠ C → h.get? b = some o → h₃.get? b = some o) ∧
        ∃ v₁ v₂, B2 i v₁ v₂ ∧ m₃ x = some v₁ ∧ m₃ x₂ = some v₂) E' { s₂ with heap := h, toks := tk } := by
  intro i v C h tk m' E' hPv hn F N hCL hC₀ hoff
  obtain ⟨t, v₁, v₂, n, rfl, hm, hb2⟩ := hP i v hPv
  have hl : h.IsList t #[v₁, v₂] := ⟨_, (N _ hm).1, rfl, n, rfl⟩
  rw [arm_assign_Tuple]
  refine wpAny_bind (wpAny_standAt ?_)
  unfold unpack
  refine wpAny_bind (wpAny_holding (kun_itemsOf (s := { s₂ with heap := h, toks := tk }) (items := #[v₁, v₂]) hh hl fun h' he => ?_))
  have hn' : h'.Ns C m' := by
    refine hn.at' fun o e => he C o (Nat.ne_of_lt (Heap.lt_size e)) e
  have hk' : ∀ b o, h.get? b = some o → h'.get? b = some o := fun b o e => he b o (Nat.ne_of_lt (Heap.lt_size e)) e
  show wpAny _ _ (holding [v₂] (assign (.Name x px) (compEnvC scope cl C env) v₁) >>= fun _ => (holding [] (assign (.Name x₂ px₂) (compEnvC scope cl C env) v₂) >>= fun _ => pure ())) _ _ _
  have hp : ((compEnvC scope cl C env).scope.kind == .class || ((compEnvC scope cl C env).scope.kind == .module && (compEnvC scope cl C env).locals != (compEnvC scope cl C env).globals)) = false := by simp [compEnvC, relabel, hkind]
  refine wpAny_bind (wpAny_holding (wpAny_assign_Name (wpAny_storeName_local (lookup_relabel_local hx) hn' (fun h₃ hn₃ hs₃ => ?_) hp)))
  refine wpAny_bind (wpAny_holding (wpAny_assign_Name (wpAny_storeName_local (lookup_relabel_local hx₂) hn₃ (fun h₄ hn₄ hs₄ => wpAny_pure ?_) hp)))
  exact ⟨h₄, _, _, rfl, hn₄, fun b o hb e => hs₄.extBut b o hb (hs₃.extBut b o hb (hk' b o e)), v₁, v₂, hb2, by simp [hxx], by simp⟩

theorem csrc_list {elt target iter : Expr} {ifs : List Expr} {scope : Scope} {cl : List (Str × Addr)} {pos : Pos} {RR : Value → Addr → Result → Shared → Prop} {news : List (Addr × Obj)} {ax : Addr} {its : List Value} {c : Nat} (Bd : Nat → (Str → Option Value) → Prop) (G : Nat → Option Value → Prop)
    (hh : A.handled = none) (hcell : ∀ y ∈ scope.names, y.2 ≠ .cell) (hkind : scope.kind = .function) (F : Fr h₀ L s.heap m) (N : News h₀ L s.heap news) (hm : (ax, W.listOf its.toArray c) ∈ news) (hsz : its.length ≤ sizeLine)
    (ht : ∀ I i v s' (Q : Unit → Shared → Prop) (E' : Value → Shared → Prop), its[i]? = some v → s'.heap.IsListIter I ax (i + 1) → Q () s' → wpAny (model prog w) A (letOwnedTupleGo target (.ref I) v) Q E' s')
    (hass : ∀ i v C h tk m' (E' : Value → Shared → Prop), its[i]? = some v → h.Ns C m' → Fr h₀ L h m → News h₀ L h news → C ≠ L → h₀.get? C = none → (∀ p ∈ news, p.1 ≠ C) →
      wpAny (model prog w) A (assign target (compEnvC scope cl C env) v) (fun _ s₃ => ∃ h₃ tk₃ m₃, s₃ = { s with heap := h₃, toks := tk₃ } ∧ h₃.Ns C m₃ ∧ (∀ b o, b ≠ C → h.get? b = some o → h₃.get? b = some o) ∧ Bd i m₃) E' { s with heap := h, toks := tk })
    (turn : ∀ i, i < its.length → CTurn prog w A h₀ L m env elt ifs scope cl s news (Bd i) (G i))
    (fin : CFin h₀ L m s its.length G news RR) :
    wpAny (model prog w) A (pyIter (.ref ax)) (fun it s₂ => CBlock prog w A E env elt target iter ifs scope cl pos RR it s₂) E s := by
  have hl : s.heap.IsList ax its.toArray := ⟨_, (N _ hm).1, rfl, c, rfl⟩
  have hlt : ax < s.heap.objs.size := Heap.lt_size (N _ hm).1
  refine wpAny_pyIter_list hl ?_
  have up : ∀ b o, s.heap.get? b = some o → (s.heap.push { cls := .type "list_iterator", data := .fields #[.ref ax, .int 0 0] }).get? b = some o := fun b o e => Heap.get?_push_of_some _ e
  have W := Walks.list (prog := prog) (w := w) hh s.heap.objs.size ax (Nat.ne_of_lt hlt) its.toArray
  have hs1 : its.toArray.size = its.length := by simp
  rw [hs1] at W
  refine comp_block Bd G W hsz (fun i h st => by obtain ⟨o, e, _⟩ := st.1; exact ⟨o, e⟩) ?_ ?_ hcell hkind ⟨⟨_, Heap.get?_push_size _ rfl, rfl, rfl⟩, hl.push _⟩ (fun b hb => ?_)
    (F.keeps up) (N.grown up) (Nat.ne_of_lt F.ns.lt) (next_is_new F) (fun p hp => Nat.ne_of_lt (Heap.lt_size (N p hp).1)) ?_ turn fin
  · intro i h h' o st e e' _ N'
    refine ⟨?_, _, (N' _ hm).1, rfl, c, rfl⟩
    obtain ⟨o', q, r⟩ := st.1
    rw [e] at q; cases q
    exact ⟨o, e', r⟩
  · intro i v s' Q E' hP hst hQ
    exact ht _ i v s' Q E' (by simpa using hP) hst.1 hQ
  · show b < (s.heap.push _).objs.size
    rw [Heap.size_push]
    rcases List.mem_cons.mp hb with rfl | hb
    · exact Nat.lt_succ_self _
    · rw [List.mem_singleton.mp hb]; exact Nat.lt_succ_of_lt hlt
  · intro i v C h tk m' E' hP
    exact hass i v C h tk m' E' (by simpa using hP)
theorem csrc_base {elt target iter : Expr} {ifs : List Expr} {scope : Scope} {cl : List (Str × Addr)} {pos : Pos} {RR : Value → Addr → Result → Shared → Prop} {news : List (Addr × Obj)} {ax : Addr} {its : List Value} (Bd : Nat → (Str → Option Value) → Prop) (G : Nat → Option Value → Prop)
    (hh : A.handled = none) (hcell : ∀ y ∈ scope.names, y.2 ≠ .cell) (hkind : scope.kind = .function) (F : Fr h₀ L s.heap m) (N : News h₀ L s.heap news) (hb : h₀.IsList ax its.toArray) (hsz : its.length ≤ sizeLine)
    (ht : ∀ I i v s' (Q : Unit → Shared → Prop) (E' : Value → Shared → Prop), its[i]? = some v → s'.heap.IsListIter I ax (i + 1) → Q () s' → wpAny (model prog w) A (letOwnedTupleGo target (.ref I) v) Q E' s')
    (hass : ∀ i v C h tk m' (E' : Value → Shared → Prop), its[i]? = some v → h.Ns C m' → Fr h₀ L h m → News h₀ L h news → C ≠ L → h₀.get? C = none → (∀ p ∈ news, p.1 ≠ C) →
      wpAny (model prog w) A (assign target (compEnvC scope cl C env) v) (fun _ s₃ => ∃ h₃ tk₃ m₃, s₃ = { s with heap := h₃, toks := tk₃ } ∧ h₃.Ns C m₃ ∧ (∀ b o, b ≠ C → h.get? b = some o → h₃.get? b = some o) ∧ Bd i m₃) E' { s with heap := h, toks := tk })
    (turn : ∀ i, i < its.length → CTurn prog w A h₀ L m env elt ifs scope cl s news (Bd i) (G i))
    (fin : CFin h₀ L m s its.length G news RR) :
    wpAny (model prog w) A (pyIter (.ref ax)) (fun it s₂ => CBlock prog w A E env elt target iter ifs scope cl pos RR it s₂) E s := by
  have hl : s.heap.IsList ax its.toArray := hb.at fun o e => F.keep ax o e
  have hlt : ax < s.heap.objs.size := by obtain ⟨_, e, _⟩ := hl; exact Heap.lt_size e
  refine wpAny_pyIter_list hl ?_
  have up : ∀ b o, s.heap.get? b = some o → (s.heap.push { cls := .type "list_iterator", data := .fields #[.ref ax, .int 0 0] }).get? b = some o := fun b o e => Heap.get?_push_of_some _ e
  have W := Walks.list (prog := prog) (w := w) hh s.heap.objs.size ax (Nat.ne_of_lt hlt) its.toArray
  have hs1 : its.toArray.size = its.length := by simp
  rw [hs1] at W
  refine comp_block Bd G W hsz (fun i h st => by obtain ⟨o, e, _⟩ := st.1; exact ⟨o, e⟩) ?_ ?_ hcell hkind ⟨⟨_, Heap.get?_push_size _ rfl, rfl, rfl⟩, hl.push _⟩ (fun b hb => ?_)
    (F.keeps up) (N.grown up) (Nat.ne_of_lt F.ns.lt) (next_is_new F) (fun p hp => Nat.ne_of_lt (Heap.lt_size (N p hp).1)) ?_ turn fin
  · intro i h h' o st e e' k N'
    refine ⟨?_, hb.at fun o e => k _ _ e⟩
    obtain ⟨o', q, r⟩ := st.1
    rw [e] at q; cases q
    exact ⟨o, e', r⟩
  · intro i v s' Q E' hP hst hQ
    exact ht _ i v s' Q E' (by simpa using hP) hst.1 hQ
  · show b < (s.heap.push _).objs.size
    rw [Heap.size_push]
    rcases List.mem_cons.mp hb with rfl | hb
    · exact Nat.lt_succ_self _
    · rw [List.mem_singleton.mp hb]; exact Nat.lt_succ_of_lt hlt
  · intro i v C h tk m' E' hP
    exact hass i v C h tk m' E' (by simpa using hP)
theorem csrc_range {elt iter : Expr} {ifs : List Expr} {x : Str} {px : Pos} {scope : Scope} {cl : List (Str × Addr)} {pos : Pos} {RR : Value → Addr → Result → Shared → Prop} {news : List (Addr × Obj)} {r : Addr} {t₀ u₀ v₀ : Tok} {n : Nat} (a b : Int) (G : Nat → Option Value → Prop)
    (hh : A.handled = none) (hcell : ∀ y ∈ scope.names, y.2 ≠ .cell) (hkind : scope.kind = .function) (hx : scope.names.lookup x = some .local) (F : Fr h₀ L s.heap m) (N : News h₀ L s.heap news) (hr : IsRange s.heap r a b 1 t₀ u₀ v₀) (hsmall : Builtin.Range.small a b 1 = true) (hn : Builtin.Range.rangeSize a b 1 = (n : Int)) (hsz : n ≤ sizeLine)
    (turn : ∀ i, i < n → CTurn prog w A h₀ L m env elt ifs scope cl s news (fun m₃ => ∃ t, m₃ x = some (.int (a + (i : Int)) t)) (G i))
    (fin : CFin h₀ L m s n G news RR) :
    wpAny (model prog w) A (pyIter (.ref r)) (fun it s₂ => CBlock prog w A E env elt (.Name x px) iter ifs scope cl pos RR it s₂) E s := by
  refine wpAny_pyIter_range hr hsmall ?_
  have hb := bind_name (prog := prog) (w := w) (A := A) (env := env) (h₀ := h₀) (L := L) (m := m) (cl := cl) (px := px) (P := fun (i : Nat) (v : Value) => ∃ t, v = .int (a + (i : Int)) t) (s₂ := s) (news := news) hkind hx
  refine comp_block (fun i m₃ => ∃ t, m₃ x = some (.int (a + (i : Int)) t)) G (range_walks hh a n) hsz (fun i h st => ⟨_, st⟩) ?_ ?_ hcell hkind (by show IsRangeIter _ _ _ _ _; rw [hn]; simpa using Heap.get?_push_size _ rfl) (fun b hb => ?_)
    (F.keeps fun _ _ e => Heap.get?_push_of_some _ e) (N.grown fun _ _ e => Heap.get?_push_of_some _ e) (Nat.ne_of_lt F.ns.lt) (next_is_new F) (fun p hp => Nat.ne_of_lt (Heap.lt_size (N p hp).1)) ?_ turn fin
  · intro i h h' o st e e' _ _
    have st' : h.get? _ = some _ := st
    show h'.get? _ = some _
    rw [e', ← e]; exact st'
  · intro i v s' Q E' _ _ hQ
    exact wpAny_pure hQ
  · rw [List.mem_singleton.mp hb]
    show s.heap.objs.size < (s.heap.push _).objs.size
    rw [Heap.size_push]; exact Nat.lt_succ_self _
  · intro i v C h tk m' E' hP h1 h2 h3 h4 h5 h6
    refine wpAny_mono (hb i v C h tk m' E' hP h1 h2 h3 h4 h5 h6) ?_ fun _ _ e => e
    rintro _ s₃ ⟨h₃, tk₃, m₃, e, hn₃, hk₃, v', ⟨t, rfl⟩, hv⟩
    exact ⟨h₃, tk₃, m₃, e, hn₃, hk₃, t, hv⟩
theorem csrc_str {elt iter : Expr} {ifs : List Expr} {x : Str} {px : Pos} {scope : Scope} {cl : List (Str × Addr)} {pos : Pos} {RR : Value → Addr → Result → Shared → Prop} {news : List (Addr × Obj)} {p : List Nat} {tx : Tok} (G : Nat → Option Value → Prop)
    (hh : A.handled = none) (hcell : ∀ y ∈ scope.names, y.2 ≠ .cell) (hkind : scope.kind = .function) (hx : scope.names.lookup x = some .local) (F : Fr h₀ L s.heap m) (N : News h₀ L s.heap news) (hsz : p.length ≤ sizeLine)
    (turn : ∀ i, i < p.length → CTurn prog w A h₀ L m env elt ifs scope cl s news (fun m₃ => ∃ c t, p[i]? = some c ∧ m₃ x = some (.str (S [c]) t)) (G i))
    (fin : CFin h₀ L m s p.length G news RR) :
    wpAny (model prog w) A (pyIter (.str (S p) tx)) (fun it s₂ => CBlock prog w A E env elt (.Name x px) iter ifs scope cl pos RR it s₂) E s := by
  have hs1 : (S p).cps.size = p.length := by simp [S]
  have hb := bind_name (prog := prog) (w := w) (A := A) (env := env) (h₀ := h₀) (L := L) (m := m) (cl := cl) (px := px) (P := SignAt (S p)) (s₂ := s) (news := news) hkind hx
  have key : ∀ (o : Obj) (St : Nat → Heap → Prop), Walks prog w A s.heap.objs.size [s.heap.objs.size] [s.heap.objs.size] (S p).cps.size (SignAt (S p)) St → St 0 (s.heap.push o) → (∀ i h, St i h → ∃ o, h.get? s.heap.objs.size = some o) →
      CBlock prog w A E env elt (.Name x px) iter ifs scope cl pos RR (.ref s.heap.objs.size) { s with heap := s.heap.push o } := by
    intro o St W hst hst0
    rw [hs1] at W
    refine comp_block (fun i m₃ => ∃ c t, p[i]? = some c ∧ m₃ x = some (.str (S [c]) t)) G W hsz hst0 ?_ ?_ hcell hkind hst (fun b hb => ?_)
      (F.keeps fun _ _ e => Heap.get?_push_of_some _ e) (N.grown fun _ _ e => Heap.get?_push_of_some _ e) (Nat.ne_of_lt F.ns.lt) (next_is_new F) (fun p hp => Nat.ne_of_lt (Heap.lt_size (N p hp).1)) ?_ turn fin
    · intro i h h' o st e e' _ _
      refine W.frame i h h' st fun b hb o' ho' => ?_
      rw [List.mem_singleton.mp hb] at ho' ⊢
      rw [e] at ho'; cases ho'; exact e'
    · intro i v s' Q E' _ _ hQ
      exact wpAny_pure hQ
    · rw [List.mem_singleton.mp hb]
      show s.heap.objs.size < (s.heap.push _).objs.size
      rw [Heap.size_push]; exact Nat.lt_succ_self _
    · intro i v C h tk m' E' hP h1 h2 h3 h4 h5 h6
      refine wpAny_mono (hb i v C h tk m' E' hP h1 h2 h3 h4 h5 h6) ?_ fun _ _ e => e
      rintro _ s₃ ⟨h₃, tk₃, m₃, e, hn₃, hk₃, v', ⟨c, u, hc, rfl⟩, hv⟩
      exact ⟨h₃, tk₃, m₃, e, hn₃, hk₃, c, u, by simpa [S] using hc, hv⟩
  cases ha : (S p).cps.all (· < 128)
  · exact wpAny_pyIter_wide ha (key _ _ (Walks.strWide hh _ (S p) tx) ⟨_, Heap.get?_push_size _ rfl, rfl, rfl⟩ (fun i h st => by obtain ⟨o, e, _⟩ := st; exact ⟨o, e⟩))
  · exact wpAny_pyIter_ascii ha (key _ _ (Walks.strAscii hh _ (S p) tx) ⟨_, Heap.get?_push_size _ rfl, rfl, rfl⟩ (fun i h st => by obtain ⟨o, e, _⟩ := st; exact ⟨o, e⟩))
/-- over ints of a list of the ledger -/
theorem csrc_ints {elt iter : Expr} {ifs : List Expr} {x : Str} {px : Pos} {scope : Scope} {cl : List (Str × Addr)} {pos : Pos} {RR : Value → Addr → Result → Shared → Prop} {news : List (Addr × Obj)} {ax : Addr} {vs : List Value} {ns : List Int} {c : Nat} (G : Nat → Option Value → Prop)
    (hh : A.handled = none) (hcell : ∀ y ∈ scope.names, y.2 ≠ .cell) (hkind : scope.kind = .function) (hx : scope.names.lookup x = some .local) (F : Fr h₀ L s.heap m) (N : News h₀ L s.heap news) (hm : (ax, W.listOf vs.toArray c) ∈ news) (hi : IntsAre vs ns) (hsz : ns.length ≤ sizeLine)
    (turn : ∀ i k, ns[i]? = some k → CTurn prog w A h₀ L m env elt ifs scope cl s news (fun m₃ => ∃ t, m₃ x = some (.int k t)) (G i))
    (fin : CFin h₀ L m s ns.length G news RR) :
    wpAny (model prog w) A (pyIter (.ref ax)) (fun it s₂ => CBlock prog w A E env elt (.Name x px) iter ifs scope cl pos RR it s₂) E s := by
  have hl : vs.length = ns.length := hi.length
  rw [← hl] at fin hsz
  refine csrc_list (fun i m₃ => ∃ k t, ns[i]? = some k ∧ m₃ x = some (.int k t)) G hh hcell hkind F N hm hsz ?_ ?_ ?_ fin
  · intro I i v s' Q E' _ _ hq
    exact wpAny_pure hq
  · intro i v C h tk m' E' hP h1 h2 h3 h4 h5 h6
    refine wpAny_mono (bind_name (P := fun i v => vs[i]? = some v) hkind hx i v C h tk m' E' hP h1 h2 h3 h4 h5 h6) ?_ fun _ _ e => e
    rintro _ s₃ ⟨h₃, tk₃, m₃, e, hn₃, hk₃, v', hv', hv⟩
    have hlt : i < ns.length := by rw [← hl]; exact (List.getElem?_eq_some_iff.mp hv').1
    obtain ⟨t, ht⟩ := hi.get i ns[i] (by simp [hlt])
    rw [hv'] at ht
    cases ht
    exact ⟨h₃, tk₃, m₃, e, hn₃, hk₃, ns[i], t, by simp [hlt], hv⟩
  · intro i hi' I oI C oC D oD m₃ h tk E' hB
    obtain ⟨k, t, hk, hv⟩ := hB
    exact turn i k hk I oI C oC D oD m₃ h tk E' ⟨t, hv⟩
end comp
theorem gs_texts : ∀ {gs : List (Option Value)}, (∀ (j : Nat) (g : Option Value), gs[j]? = some g → ∃ (c : Nat) (t : Tok), g = some (Value.str (S [c]) t)) → ∃ cs : List Nat, cs.length = gs.length ∧ StrsAre (gs.filterMap id) ((cs.map fun c => [c]).map S)
  | [], _ => ⟨[], rfl, .nil⟩
  | g :: gs, k => by
    obtain ⟨c, t, e⟩ := k 0 g rfl
    subst e
    obtain ⟨cs, e1, e2⟩ := gs_texts (gs := gs) fun j g hj => k (j + 1) g (by simpa using hj)
    exact ⟨c :: cs, by simp [e1], .cons _ t e2⟩
theorem flat_ones (cs : List Nat) : (cs.map fun c => [c]).flatten = cs := by
  induction cs with
  | nil => rfl
  | cons c cs ih => simp [ih]
end Mine
end

section
open PySem PySem.W PyProof.Rows
namespace Mine
def sepIx (p sep alt : List Nat) : Int := if alt = [] then rf p sep else if rf p alt > rf p sep then rf p alt else rf p sep
/-- a place from lo on ahead of hi holds a sign that isn't ext -/
def Seen (p ext : List Nat) (lo hi : Int) : Prop := ∃ k : Nat, lo ≤ k ∧ (k : Int) < hi ∧ (p.drop k).take 1 ≠ ext
open Classical in
noncomputable def spl (p sep alt ext : List Nat) : List Nat × List Nat :=
  if sepIx p sep alt < rf p ext ∧ Seen p ext (sepIx p sep alt + 1) (rf p ext) then (p.take (rf p ext).toNat, p.drop (rf p ext).toNat) else (p, [])

theorem at_one (p : List Nat) (c i : Nat) : At p [c] i ↔ p[i]? = some c := by
  unfold At
  constructor
  · rintro ⟨h1, h2⟩
    have hi : i < p.length := by simp at h1; omega
    rw [List.drop_eq_getElem_cons hi, List.length_singleton, List.take_succ_cons] at h2
    have h3 : p[i] = c := (List.cons.inj h2).1
    rw [List.getElem?_eq_getElem hi, h3]
  · intro h
    obtain ⟨hi, e⟩ := List.getElem?_eq_some_iff.mp h
    refine ⟨by simp; omega, ?_⟩
    rw [List.drop_eq_getElem_cons hi]
    simp [e]
theorem rf_one (p : List Nat) (c : Nat) : (rf p [c] = -1 ∧ ∀ i : Nat, p[i]? ≠ some c) ∨ ∃ i : Nat, rf p [c] = (i : Int) ∧ p[i]? = some c ∧ ∀ k : Nat, i < k → p[k]? ≠ some c := by
  have h := rf_spec p [c]
  simp only [at_one] at h
  exact h
/-- one sign or none as altsep -/
def OneAlt (alt : List Nat) : Prop := alt = [] ∨ ∃ b, alt = [b]
theorem sepIx_spec {p alt : List Nat} {a : Nat} (ha : OneAlt alt) : (sepIx p [a] alt = -1 ∧ ∀ (i c : Nat), p[i]? = some c → c ∉ a :: alt) ∨
    ∃ i : Nat, sepIx p [a] alt = (i : Int) ∧ (∃ c ∈ a :: alt, p[i]? = some c) ∧ ∀ (k c : Nat), i < k → p[k]? = some c → c ∉ a :: alt := by
  rcases ha with rfl | ⟨b, rfl⟩
  · have e : sepIx p [a] [] = rf p [a] := by simp [sepIx]
    rw [e]
    rcases rf_one p a with ⟨h1, h2⟩ | ⟨i, h1, h2, h3⟩
    · exact .inl ⟨h1, fun i c hc hm => by have : c = a := by simpa using hm
                                          subst this; exact h2 i hc⟩
    · exact .inr ⟨i, h1, ⟨a, by simp, h2⟩, fun k c hk hc hm => by have : c = a := by simpa using hm
                                                                  subst this; exact h3 k hk hc⟩
  · have e : sepIx p [a] [b] = if rf p [b] > rf p [a] then rf p [b] else rf p [a] := by simp [sepIx]
    rw [e]
    rcases rf_one p a with ⟨h1, h2⟩ | ⟨i, h1, h2, h3⟩ <;> rcases rf_one p b with ⟨g1, g2⟩ | ⟨j, g1, g2, g3⟩
    · left
      refine ⟨by rw [h1, g1]; simp, fun i c hc hm => ?_⟩
      have : c = a ∨ c = b := by simpa using hm
      rcases this with rfl | rfl
      · exact h2 i hc
      · exact g2 i hc
    · right
      refine ⟨j, by rw [h1, g1, if_pos (by omega)], ⟨b, by simp, g2⟩, fun k c hk hc hm => ?_⟩
      have : c = a ∨ c = b := by simpa using hm
      rcases this with rfl | rfl
      · exact h2 k hc
      · exact g3 k hk hc
    · right
      refine ⟨i, by rw [h1, g1, if_neg (by omega)], ⟨a, by simp, h2⟩, fun k c hk hc hm => ?_⟩
      have : c = a ∨ c = b := by simpa using hm
      rcases this with rfl | rfl
      · exact h3 k hk hc
      · exact g2 k hc
    · right
      by_cases hij : (j : Int) > (i : Int)
      · refine ⟨j, by rw [h1, g1, if_pos hij], ⟨b, by simp, g2⟩, fun k c hk hc hm => ?_⟩
        have : c = a ∨ c = b := by simpa using hm
        rcases this with rfl | rfl
        · exact h3 k (by omega) hc
        · exact g3 k hk hc
      · refine ⟨i, by rw [h1, g1, if_neg hij], ⟨a, by simp, h2⟩, fun k c hk hc hm => ?_⟩
        have : c = a ∨ c = b := by simpa using hm
        rcases this with rfl | rfl
        · exact h3 k hk hc
        · exact g3 k (by omega) hc
/-- a text that ends with a separator, or is empty -/
def EndsSep (seps pre : List Nat) : Prop := pre = [] ∨ ∃ p c, pre = p ++ [c] ∧ c ∈ seps
theorem sepIx_at {pre q alt : List Nat} {a : Nat} (ha : OneAlt alt) (hpre : EndsSep (a :: alt) pre) (hq : ∀ c ∈ q, c ∉ a :: alt) : sepIx (pre ++ q) [a] alt + 1 = pre.length := by
  rcases sepIx_spec (p := pre ++ q) (a := a) ha with ⟨h1, h2⟩ | ⟨i, h1, ⟨c, hc, hi⟩, h3⟩
  · rcases hpre with rfl | ⟨p, c, rfl, hc⟩
    · rw [h1]; simp
    · exact absurd hc (h2 p.length c (by simp))
  · rw [h1]
    have hlt : i < pre.length := by
      rcases Nat.lt_or_ge i pre.length with h | h
      · exact h
      · rw [List.getElem?_append_right h] at hi
        exact absurd hc (hq c (List.mem_of_getElem? hi))
    rcases hpre with rfl | ⟨p, c', rfl, hc'⟩
    · simp at hlt
    · simp at hlt
      rcases Nat.lt_or_ge i p.length with h | h
      · exact absurd hc' (h3 p.length c' h (by simp))
      · have : i = p.length := by omega
        simp [this]
/-- the ending comes off -/
theorem spl_cut {pre q v alt : List Nat} {a e : Nat} (ha : OneAlt alt) (he : e ∉ a :: alt) (hpre : EndsSep (a :: alt) pre) (hq : ∀ c ∈ q, c ∉ a :: alt) (hv : ∀ c ∈ v, c ∉ a :: alt) (hve : e ∉ v) (hs : ∃ c ∈ q, c ≠ e) :
    spl (pre ++ (q ++ e :: v)) [a] alt [e] = (pre ++ q, e :: v) := by
  have hI := sepIx_at (pre := pre) (q := q ++ e :: v) ha hpre (by
    intro c hc
    rcases List.mem_append.mp hc with hc | hc
    · exact hq c hc
    · rcases List.mem_cons.mp hc with rfl | hc
      · exact he
      · exact hv c hc)
  have hD : rf (pre ++ (q ++ e :: v)) [e] = ((pre ++ q).length : Int) := by
    rcases rf_one (pre ++ (q ++ e :: v)) e with ⟨h1, h2⟩ | ⟨i, h1, h2, h3⟩
    · exact absurd (by rw [← List.append_assoc]; simp) (h2 (pre ++ q).length)
    · rw [h1]
      rcases Nat.lt_trichotomy i (pre ++ q).length with h | h | h
      · exact absurd (by rw [← List.append_assoc]; simp) (h3 (pre ++ q).length h)
      · rw [h]
      · exfalso
        rw [← List.append_assoc, List.getElem?_append_right (Nat.le_of_lt h)] at h2
        obtain ⟨j, hj⟩ : ∃ j, i - (pre ++ q).length = j + 1 := ⟨i - (pre ++ q).length - 1, by omega⟩
        rw [hj, List.getElem?_cons_succ] at h2
        exact hve (List.mem_of_getElem? h2)
  obtain ⟨c, hc, hce⟩ := hs
  obtain ⟨j, hj⟩ := List.mem_iff_getElem?.mp hc
  have hjl : j < q.length := (List.getElem?_eq_some_iff.mp hj).1
  unfold spl
  rw [if_pos]
  · rw [hD, Int.toNat_natCast, ← List.append_assoc, List.take_left, List.drop_left]
  · refine ⟨by rw [hD]; simp only [List.length_append] at *; omega, pre.length + j, by omega, by rw [hD]; simp; omega, ?_⟩
    have e1 : (pre ++ (q ++ e :: v)).drop (pre.length + j) = (q ++ e :: v).drop j := by
      rw [List.drop_append]; simp
    rw [e1, List.drop_append_of_le_length (by omega), List.drop_eq_getElem_cons hjl]
    have e2 : q[j] = c := by
      have := List.getElem?_eq_getElem hjl
      rw [this] at hj; simpa using hj
    simp [e2, hce]
/-- nothing but full stops ahead of the last one -/
theorem spl_stuck {pre q v alt : List Nat} {a e : Nat} (ha : OneAlt alt) (he : e ∉ a :: alt) (hpre : EndsSep (a :: alt) pre) (hv : ∀ c ∈ v, c ∉ a :: alt) (hve : e ∉ v) (hs : ∀ c ∈ q, c = e) :
    spl (pre ++ (q ++ e :: v)) [a] alt [e] = (pre ++ (q ++ e :: v), []) := by
  have hI := sepIx_at (pre := pre) (q := q ++ e :: v) ha hpre (by
    intro c hc
    rcases List.mem_append.mp hc with hc | hc
    · rw [hs c hc]; exact he
    · rcases List.mem_cons.mp hc with rfl | hc
      · exact he
      · exact hv c hc)
  unfold spl
  rw [if_neg]
  rintro ⟨_, k, hk1, hk2, hk3⟩
  have hD : rf (pre ++ (q ++ e :: v)) [e] ≤ ((pre ++ q).length : Int) := by
    rcases rf_one (pre ++ (q ++ e :: v)) e with ⟨h1, h2⟩ | ⟨i, h1, h2, h3⟩
    · rw [h1]; omega
    · rw [h1]
      rcases Nat.lt_or_ge (pre ++ q).length i with h | h
      · exfalso
        rw [← List.append_assoc, List.getElem?_append_right (Nat.le_of_lt h)] at h2
        obtain ⟨j, hj⟩ : ∃ j, i - (pre ++ q).length = j + 1 := ⟨i - (pre ++ q).length - 1, by omega⟩
        rw [hj, List.getElem?_cons_succ] at h2
        exact hve (List.mem_of_getElem? h2)
      · omega
  have hkl : k < (pre ++ q).length := by omega
  have hkp : pre.length ≤ k := by omega
  refine hk3 ?_
  obtain ⟨j, rfl⟩ : ∃ j, k = pre.length + j := ⟨k - pre.length, by omega⟩
  have hjl : j < q.length := by rw [List.length_append] at hkl; omega
  have e1 : (pre ++ (q ++ e :: v)).drop (pre.length + j) = (q ++ e :: v).drop j := by
    rw [List.drop_append]; simp
  rw [e1, List.drop_append_of_le_length (by omega), List.drop_eq_getElem_cons hjl]
  simp [hs q[j] (List.getElem_mem hjl)]
/-- no full stop in the last name -/
theorem spl_none {pre v alt : List Nat} {a e : Nat} (ha : OneAlt alt) (hpre : EndsSep (a :: alt) pre) (hv : ∀ c ∈ v, c ∉ a :: alt) (hve : e ∉ v) :
    spl (pre ++ v) [a] alt [e] = (pre ++ v, []) := by
  have hI := sepIx_at (pre := pre) (q := v) ha hpre hv
  unfold spl
  rw [if_neg]
  rintro ⟨h, _⟩
  rcases rf_one (pre ++ v) e with ⟨h1, h2⟩ | ⟨i, h1, h2, h3⟩
  · omega
  · have hi : pre.length ≤ i := by omega
    rw [List.getElem?_append_right hi] at h2
    exact hve (List.mem_of_getElem? h2)
end Mine
end

section
open PySem PySem.W PyProof.Rows
namespace Mine
section
variable {prog : Program} {w : World} {A : Around} {E : Value → Shared → Prop} {s : Shared} {h₀ : Heap} {L : Addr} {all : List (Addr × Obj)} {Q : Value → Shared → Prop}
/-- a tuple of two texts -/
abbrev tup2 (a b : List Nat) (t u : Tok) : Obj := { cls := .type "tuple", data := .seq #[.str (S a) t, .str (S b) u] }
theorem tup_items {a : Addr} {x y : List Nat} {t u : Tok} (N : News h₀ L s.heap all) (ha : (a, tup2 x y t u) ∈ all) : s.heap.IsTuple a #[.str (S x) t, .str (S y) u] := ⟨_, (N _ ha).1, rfl, _, rfl⟩
theorem tup_each {x y x' y' : List Nat} {t u t' u' : Tok} : ∀ (j : Nat) (h1 : j < (#[.str (S x) t, .str (S y) u] : Array Value).size) (h2 : j < (#[.str (S x') t', .str (S y') u'] : Array Value).size),
    SeqAt.EqAt A s ((#[.str (S x) t, .str (S y) u] : Array Value)[j]) ((#[.str (S x') t', .str (S y') u'] : Array Value)[j]) (if j = 0 then decide (x = x') else decide (y = y'))
  | 0, _, _ => by
    have h := (SeqRoads2.EqGives.str (S x) (S x') t t').at A s
    rw [S_cps, S_cps] at h
    have e : (x == x') = decide (x = x') := by by_cases h : x = x' <;> simp [h]
    rw [e] at h
    exact h
  | 1, _, _ => by
    have h := (SeqRoads2.EqGives.str (S y) (S y') u u').at A s
    rw [S_cps, S_cps] at h
    have e : (y == y') = decide (y = y') := by by_cases h : y = y' <;> simp [h]
    rw [e] at h
    exact h
  | n + 2, h, _ => absurd h (by simp)
theorem tup_all {x y x' y' : List Nat} {t u t' u' : Tok} : ((List.range (min (#[.str (S x) t, .str (S y) u] : Array Value).size (#[.str (S x') t', .str (S y') u'] : Array Value).size)).all (fun j => if j = 0 then decide (x = x') else decide (y = y')) && (#[.str (S x) t, .str (S y) u] : Array Value).size == (#[.str (S x') t', .str (S y') u'] : Array Value).size) = decide (x = x' ∧ y = y') := by
  show ((List.range 2).all _ && true) = _
  rw [show List.range 2 = [0, 1] from rfl]
  by_cases h1 : x = x' <;> by_cases h2 : y = y' <;> simp [h1, h2]
theorem ne_tup2 {a b : Addr} {x y x' y' : List Nat} {t u t' u' : Tok} (N : News h₀ L s.heap all) (ha : (a, tup2 x y t u) ∈ all) (hb : (b, tup2 x' y' t' u') ∈ all) (hu : A.units < cLine)
    (h : Q (.bool (!decide (x = x' ∧ y = y'))) s) : wpAny (model prog w) A (compareOp .NotEq (.ref a) (.ref b)) Q E s := by
  refine cmp_ofNotEq (SeqAt.RcNeAt.tuples (tup_items N ha) (tup_items N hb) hu tup_each prog w E Q ?_)
  rw [tup_all]; exact h
theorem eq_tup2 {a b : Addr} {x y x' y' : List Nat} {t u t' u' : Tok} (N : News h₀ L s.heap all) (ha : (a, tup2 x y t u) ∈ all) (hb : (b, tup2 x' y' t' u') ∈ all) (hu : A.units < cLine)
    (h : Q (.bool (decide (x = x' ∧ y = y'))) s) : wpAny (model prog w) A (compareOp .Eq (.ref a) (.ref b)) Q E s := by
  refine cmp_ofEq (SeqAt.RcAt.tuples (tup_items N ha) (tup_items N hb) hu tup_each prog w E Q ?_)
  rw [tup_all]; exact h
end
end Mine
end

section
open PySem PySem.W PyProof.Rows
namespace Mine
/-- a piece on the heap: its list, its words' list, their values -/
structure PR where
  q : Addr
  w : Addr
  nq : Nat
  nw : Nat
  sv : Value
  vs : List Value
  sep : List Nat
  ws : List (List Nat)
def PR.Ok (r : PR) : Prop := (∃ t, r.sv = .str (S r.sep) t) ∧ StrsAre r.vs (r.ws.map S)
def PR.led (r : PR) : List (Addr × Obj) := [(r.q, W.listOf #[r.sv, .ref r.w] r.nq), (r.w, W.listOf r.vs.toArray r.nw)]
def ledP (P : Addr) (n : Nat) (l : List PR) : List (Addr × Obj) := (P, W.listOf (l.map fun r => Value.ref r.q).toArray n) :: l.flatMap PR.led
/-- names and their endings -/
abbrev Nms := List (List Nat × List (List Nat))
def nmsOf (l : List PR) : Nms := l.map fun r => (r.sep, r.ws)
def txN (ps : Nms) : List Nat := ps.flatMap fun p => p.1 ++ p.2.flatten
theorem txN_app (a b : Nms) : txN (a ++ b) = txN a ++ txN b := by simp [txN]
theorem txN_one (p : List Nat × List (List Nat)) : txN [p] = p.1 ++ p.2.flatten := by simp [txN]
theorem nmsOf_app (a b : List PR) : nmsOf (a ++ b) = nmsOf a ++ nmsOf b := by simp [nmsOf]
/-- what the names tell -/
def dueN (ps : Nms) (p : List Nat × List (List Nat)) : List Nat × List Nat := (txN ps ++ p.1 ++ p.2.dropLast.flatten, (p.2.drop (p.2.length - 1)).flatten)
theorem flat_le : ∀ {l : List (List Nat)} {w : List Nat}, w ∈ l → w.length ≤ l.flatten.length
  | a :: l, w, h => by
    rcases List.mem_cons.mp h with rfl | h
    · simp
    · have := flat_le h; rw [List.flatten_cons, List.length_append]; omega
theorem txN_mem {ps : Nms} {p : List Nat × List (List Nat)} (h : p ∈ ps) : p.1.length + p.2.flatten.length ≤ (txN ps).length := by
  induction ps with
  | nil => cases h
  | cons a ps ih =>
    have e : (txN (a :: ps)).length = a.1.length + a.2.flatten.length + (txN ps).length := by simp [txN]; omega
    rcases List.mem_cons.mp h with rfl | h
    · omega
    · have := ih h; omega
theorem flat_sum (l : List (List Nat)) : (l.map List.length).sum = l.flatten.length := by rw [List.length_flatten]
theorem strs_dropLast : ∀ {vs : List Value} {ys : List Str}, StrsAre vs ys → StrsAre vs.dropLast ys.dropLast
  | _, _, .nil => .nil
  | _, _, .cons _ _ .nil => .nil
  | _, _, .cons _ _ (.cons _ _ h) => .cons _ _ (strs_dropLast (.cons _ _ h))
theorem strs_drop : ∀ (n : Nat) {vs : List Value} {ys : List Str}, StrsAre vs ys → StrsAre (vs.drop n) (ys.drop n)
  | 0, _, _, h => h
  | _ + 1, _, _, .nil => .nil
  | n + 1, _, _, .cons _ _ h => strs_drop n h
def bodyP (l : List PR) : List (Addr × Obj) := l.flatMap PR.led
theorem ledP_eq (P : Addr) (n : Nat) (l : List PR) : ledP P n l = (P, W.listOf (l.map fun r => Value.ref r.q).toArray n) :: bodyP l := rfl
theorem bodyP_app (a b : List PR) : bodyP (a ++ b) = bodyP a ++ bodyP b := by simp [bodyP]
theorem bodyP_cons (r : PR) (b : List PR) : bodyP (r :: b) = (r.q, W.listOf #[r.sv, .ref r.w] r.nq) :: (r.w, W.listOf r.vs.toArray r.nw) :: bodyP b := rfl
/-- the addresses -/
def adrP (l : List PR) : List Addr := l.flatMap fun r => [r.q, r.w]
theorem adrP_eq (l : List PR) : (bodyP l).map (·.1) = adrP l := by
  induction l with
  | nil => rfl
  | cons r l ih => rw [bodyP_cons]; simp only [List.map_cons, ih]; rfl
theorem adrP_app (a b : List PR) : adrP (a ++ b) = adrP a ++ adrP b := by simp [adrP]
theorem mem_adrP {p : Addr × Obj} {l : List PR} (h : p ∈ bodyP l) : p.1 ∈ adrP l := by rw [← adrP_eq]; exact List.mem_map_of_mem h
theorem ledP_adr (P : Addr) (n : Nat) (l : List PR) : (ledP P n l).map (·.1) = P :: adrP l := by rw [ledP_eq, List.map_cons, adrP_eq]

end Mine
end

section
open PySem PySem.W PyProof.Rows
namespace Mine
/-- a word of letters -/
def Wrd (seps v : List Nat) : Prop := 46 ∉ v ∧ ∀ c ∈ v, c ∉ seps
/-- a name's row -/
structure RowOk (seps : List Nat) (p : List Nat × List (List Nat)) : Prop where
  stem : ∃ c q v, p.1 = c :: (q ++ v) ∧ c ∈ seps ∧ (∀ x ∈ q, x = 46) ∧ Wrd seps v ∧ (p.2 ≠ [] → v ≠ [])
  ends : ∀ e ∈ p.2, ∃ v, e = 46 :: v ∧ Wrd seps v
theorem spl_names {alt : List Nat} (ha : OneAlt alt) (h46 : 46 ∉ 47 :: alt) {ps : Nms} {p : List Nat × List (List Nat)} (hp : RowOk (47 :: alt) p) :
    spl (txN (ps ++ [p])) [47] alt [46] = dueN ps p := by
  obtain ⟨c, q, v, e1, hc, hq, hv, hne⟩ := hp.stem
  have hpre : EndsSep (47 :: alt) (txN ps ++ [c]) := .inr ⟨_, c, rfl, hc⟩
  have hq' : ∀ x ∈ q, x ∉ 47 :: alt := fun x hx => by rw [hq x hx]; exact h46
  rw [txN_app, txN_one, e1]
  unfold dueN
  rw [e1]
  by_cases h0 : p.2 = []
  · rw [h0]
    simp only [List.flatten_nil, List.append_nil, List.dropLast_nil, List.drop_nil]
    rw [show txN ps ++ c :: (q ++ v) = (txN ps ++ [c]) ++ (q ++ v) by simp]
    rcases List.eq_nil_or_concat q with h | ⟨q', x, h⟩
    · rw [h, List.nil_append]; exact spl_none ha hpre hv.2 hv.1
    · rw [List.concat_eq_append] at h
      have hx : x = 46 := hq x (by rw [h]; simp)
      rw [h, hx, show txN ps ++ [c] ++ (q' ++ [46] ++ v) = txN ps ++ [c] ++ (q' ++ 46 :: v) by simp]
      exact spl_stuck (pre := txN ps ++ [c]) (q := q') (v := v) (alt := alt) (a := 47) (e := 46) ha h46 hpre hv.2 hv.1 (fun y hy => hq y (by rw [h]; simp [hy]))
  · rcases List.eq_nil_or_concat p.2 with h | ⟨es, e, h⟩
    · exact absurd h h0
    · rw [List.concat_eq_append] at h
      obtain ⟨wd, rfl, hwd⟩ := hp.ends e (by rw [h]; simp)
      rw [h]
      have hes : ∀ x ∈ es.flatten, x ∉ 47 :: alt := by
        intro x hx
        obtain ⟨e', he', hxe⟩ := List.mem_flatten.mp hx
        obtain ⟨v', rfl, hv'⟩ := hp.ends e' (by rw [h]; simp [he'])
        rcases List.mem_cons.mp hxe with rfl | hxe
        · exact h46
        · exact hv'.2 x hxe
      have := spl_cut (pre := txN ps ++ [c]) (q := q ++ v ++ es.flatten) (v := wd) (alt := alt) (a := 47) (e := 46) ha h46 hpre ?_ hwd.2 hwd.1 ?_
      · simpa using this
      · intro x hx
        rcases List.mem_append.mp hx with hx | hx
        · rcases List.mem_append.mp hx with hx | hx
          · exact hq' x hx
          · exact hv.2 x hx
        · exact hes x hx
      · obtain ⟨x, v', rfl⟩ := List.exists_cons_of_ne_nil (hne h0)
        exact ⟨x, by simp, fun e => hv.1 (by rw [e]; simp)⟩
/-- the name of full stops alone -/
def Bare (p : List Nat) : Prop := ∀ x ∈ p.drop 1, x = 46
theorem row_new {seps : List Nat} {c k : Nat} {v : List Nat} (hc : c ∈ seps) (hv : Wrd seps v) : RowOk seps (c :: (List.replicate k 46 ++ v), []) :=
  ⟨⟨c, _, v, rfl, hc, fun x hx => (List.mem_replicate.mp hx).2, hv, fun h => absurd rfl h⟩, by simp⟩
theorem row_drop {seps : List Nat} {st : List Nat} {es : List (List Nat)} (h : RowOk seps (st, es)) : RowOk seps (st, es.dropLast) := by
  obtain ⟨c, q, v, e1, hc, hq, hv, hne⟩ := h.stem
  exact ⟨⟨c, q, v, e1, hc, hq, hv, fun h0 => hne fun h1 => h0 (by have h1 : es = [] := h1; show es.dropLast = []; rw [h1]; rfl)⟩, fun e he => h.ends e (List.dropLast_subset _ he)⟩
theorem row_bare {seps : List Nat} {st v : List Nat} {es : List (List Nat)} (h : RowOk seps (st, es)) (hv : Wrd seps v) (hb : Bare st) : es = [] ∧ RowOk seps (st ++ 46 :: v, es) := by
  obtain ⟨c, q, u, e1, hc, hq, hu, hne⟩ := h.stem
  have e1 : st = c :: (q ++ u) := e1
  have hu0 : u = [] := by
    cases u with
    | nil => rfl
    | cons x u => exact absurd (hb x (by rw [e1]; simp)) (fun e => hu.1 (by rw [e]; simp))
  have hes : es = [] := Classical.byContradiction fun h0 => hne h0 hu0
  refine ⟨hes, ⟨c, q ++ [46], v, by show st ++ 46 :: v = _; rw [e1, hu0]; simp, hc, ?_, hv, fun h0 => absurd hes h0⟩, h.ends⟩
  intro x hx
  rcases List.mem_append.mp hx with hx | hx
  · exact hq x hx
  · simpa using hx
theorem row_more {seps : List Nat} {st v : List Nat} {es : List (List Nat)} (h : RowOk seps (st, es)) (hv : Wrd seps v) (hb : ¬ Bare st) : RowOk seps (st, es ++ [46 :: v]) := by
  obtain ⟨c, q, u, e1, hc, hq, hu, hne⟩ := h.stem
  have e1 : st = c :: (q ++ u) := e1
  refine ⟨⟨c, q, u, e1, hc, hq, hu, fun _ h0 => hb ?_⟩, ?_⟩
  · intro x hx
    rw [e1, h0] at hx
    exact hq x (by simpa using hx)
  · intro e he
    rcases List.mem_append.mp he with he | he
    · exact h.ends e he
    · exact ⟨v, by simpa using he, hv⟩
theorem row_len {seps : List Nat} {p : List Nat × List (List Nat)} (h : RowOk seps p) : 1 ≤ p.1.length ∧ p.2.length ≤ p.2.flatten.length := by
  obtain ⟨c, q, u, e1, _⟩ := h.stem
  refine ⟨by rw [e1]; simp, ?_⟩
  have := h.ends
  generalize p.2 = es at this
  clear h e1
  induction es with
  | nil => simp
  | cons e es ih =>
    obtain ⟨v, rfl, _⟩ := this e (by simp)
    have := ih fun e' he' => this e' (by simp [he'])
    rw [List.flatten_cons, List.length_append, List.length_cons]
    simp only [List.length_cons]; omega
theorem rows_len {seps : List Nat} {ps : Nms} (h : ∀ p ∈ ps, RowOk seps p) : ps.length ≤ (txN ps).length := by
  induction ps with
  | nil => simp
  | cons a ps ih =>
    have e : (txN (a :: ps)).length = a.1.length + a.2.flatten.length + (txN ps).length := by simp [txN]; omega
    have := ih fun p hp => h p (by simp [hp])
    have := (row_len (h a (by simp))).1
    simp only [List.length_cons]; omega
end Mine
end

section
namespace Mine
open PySem PySem.W PyProof.Rows
open_top hd10 for PySem.Challenge.rw_dm0122_10
end Mine
end

section
open PySem PySem.W PyProof.Rows
namespace Mine
local macro_rules | `(tactic| size_fits) => `(tactic| ((simp only [S_len, PySem.sizeLine_eq]); omega))
local macro_rules | `(tactic| walk_at "stop") => `(tactic| first
  | (with_reducible show wpAny _ _ (exec (Stmt.For _ _ _ _ _) _) _ _ _)
  | (with_reducible show wpAny _ _ (exec (Stmt.While _ _ _ _) _) _ _ _)
  | (with_reducible show LeaveK _ _ _ _ _ _ _))
local macro_rules | `(tactic| walk_at "ws") => `(tactic| repeat' (first | (k_unfold; (try dsimp only)) | ((fail_if_success (walk_at "stop")); walk1) | ((fail_if_success (walk_at "stop")); dsimp only; walk1) | (leave1; walk_say "STEP leave1"; try dsimp only)))

theorem splitext_str {w : World} {mean : ExcName → Option Value} {mg mb : Str → Option Value} (dp un : Nat) (gd : Option (List Code)) (cn : Str) (cs : Scope) (a : Addr) (ccd : Value) (cl : List (Str × Addr)) (outer : List Env) (A₀ : Around) (base h₀ : Heap) (L : Addr) (m : Str → Option Value) (news : List (Addr × Obj)) (s : Shared)
    (Q E : Value → Shared → Prop) (p sep ext alt : List Nat) (av : Value) (tp ts te : Tok) (hav : AltV av alt) (hp : p.length ≤ 10000) (hal : alt.length ≤ 10000)
    (B : Below A₀ base outer h₀) (F : Fr h₀ L s.heap m) (X : (hd10.heap_39 w.params).In h₀) (N : News h₀ L s.heap news) (T : Top hd10.view_39 (looseW hd10.view_39 []) mean mg mb h₀) (hk : cs.kind = .function)
    (hd : dp + 1 < recursionLimit) (hu : un + 8 < cLine)
    (ret : ∀ r t1 t2 h' tk', Fr h₀ L h' m → News h₀ L h' ((r, ({ cls := .type "tuple", data := .seq #[.str (S (spl p sep alt ext).1) t1, .str (S (spl p sep alt ext).2) t2] } : Obj)) :: news) → (∀ q ∈ news, q.1 < r) → Q (.ref r) { s with heap := h', toks := tk' }) :
    wpAny (model PySem.Challenge.rw_dm0122_10.row.prog w) (ktrTop dp un gd cn cs L a ccd cl outer) (call (.ref 21) [.str (S p) tp, .str (S sep) ts, av, .str (S ext) te]) Q E s := by
  revert T; revert X; k_fill; intro X T
  refine wpAny_call ?_
  k_dflt ktr_enter
  rename_i g1 L1 h1 FG1 F1 N1 B1 X1 T1
  walk_at "ws"
  refine truthy_alt hav (by omega) ?_
  intro k1
  rename Fr g1 L1 _ _ => F1
  rename News g1 L1 _ _ => N1
  refine ite_join (Q' := fun f s' => f = .next ∧ Left g1 L1 s news (fun m => (∃ t, m (Str.ofString "sepIndex") = some (.int (sepIx p sep alt) t)) ∧ m (Str.ofString "p") = some (.str (S p) tp) ∧ m (Str.ofString "extsep") = some (.str (S ext) te)) s') ?_ ?_ ?_
  · intro hne
    have hne : alt ≠ [] := by simpa using hne
    rcases hav with ⟨_, h0⟩ | ⟨ta, rfl⟩
    · exact absurd h0 hne
    walk_at "ws"
    · rename Fr g1 L1 _ _ => F2
      rename News g1 L1 _ _ => N2
      have e : sepIx p sep alt = if rf p alt > rf p sep then rf p alt else rf p sep := by rw [sepIx, if_neg hne]
      exact Left.intro F2 N2 ⟨⟨_, by rw [e]; rfl⟩, rfl, rfl⟩
  · intro hne
    have hne : alt = [] := by simpa using hne
    have e : sepIx p sep alt = rf p sep := by rw [sepIx, if_pos hne]
    refine wpAny_execs_nil ⟨rfl, Left.intro F1 N1 ⟨⟨_, by rw [e]; rfl⟩, rfl, rfl⟩⟩
  · rintro f s' ⟨rfl, h2, tk2, m2, rfl, F2, N2, ⟨t2, e1⟩, e2, e3⟩
    have F3 := fr_show [(Str.ofString "sepIndex", .int (sepIx p sep alt) t2), (Str.ofString "p", .str (S p) tp), (Str.ofString "extsep", .str (S ext) te)] F2 (by simp [e1, e2, e3])
    clear F2 F1 N1
    have hlo : -1 ≤ sepIx p sep alt := by
      have := rf_ge p sep; have := rf_ge p alt
      unfold sepIx; split; omega; split <;> omega
    walk_at "ws"
    · rename Fr g1 L1 _ _ => F4
      rename News g1 L1 _ _ => N4
      rename _ < _ => hlt
      have hlt' : sepIx p sep alt < rf p ext := hlt
      refine ksw_while (σ := Int × Tok) (fun _ => news) (fun c => [(Str.ofString "filenameIndex", .int c.1 c.2)]) (fun _ => True) []
        (fun c => sepIx p sep alt + 1 ≤ c.1 ∧ c.1 ≤ rf p ext ∧ ∀ k : Nat, sepIx p sep alt + 1 ≤ k → (k : Int) < c.1 → (p.drop k).take 1 = ext) (fun c => (rf p ext - c.1).toNat) (sepIx p sep alt + 1, ?t0) F4 N4 trivial ?hk ?_ ?_
      case hk => (intro q hq; rw [List.mem_singleton.mp hq]; rfl)
      · refine ⟨by omega, by omega, fun k h1 h2 => by omega⟩
      · rintro ⟨f, tf⟩ u h5 tk5 - ⟨hf1, hf2, hf3⟩ F5 N5
        dsimp only at F5 N5 hf1 hf2 hf3
        clear F4 N4
        have hf0 : 0 ≤ f := by omega
        have hd0 : 0 ≤ rf p ext := by omega
        have hone : (p.take (f + 1).toNat).drop f.toNat = (p.drop f.toNat).take 1 := by
          rw [List.take_drop]; congr 1; congr 1; omega
        have hsl := slice_mid p hf0 (show 0 ≤ f + 1 by omega)
        rw [hone] at hsl
        walk_at "ws"
        · rename Fr g1 L1 _ _ => F6
          rename News g1 L1 _ _ => N6
          rename ∀ p ∈ news, _ => hl6
          rename (_ != _) = true => hne6
          have hfd : f < rf p ext := by assumption
          have hx : (p.drop f.toNat).take 1 ≠ ext := by
            rw [hsl] at hne6
            intro h; rw [h] at hne6; simp at hne6
          have e0 : spl p sep alt ext = (p.take (rf p ext).toNat, p.drop (rf p ext).toNat) := by
            unfold spl; rw [if_pos]; exact ⟨hlt', f.toNat, by omega, by omega, hx⟩
          have ret' := ret
          rw [e0] at ret'
          refine leaveK_ F6 N6 fun Fb Nb => ?_
          rw [show Txt.rfind (S p) (S ext) = rf p ext from rfl, slice_to p hd0, slice_from p hd0] at Nb
          exact ret' _ _ _ _ _ Fb Nb hl6
        · rename Fr g1 L1 _ _ => F6
          rename News g1 L1 _ _ => N6
          rename (_ != _) = false => hne6
          have hfd : f < rf p ext := by assumption
          have hx : (p.drop f.toNat).take 1 = ext := by
            rw [hsl] at hne6
            have := bne_eq_false_iff_eq.mp hne6
            exact S_inj.mp this
          refine ksw_end (f + 1, ?t1) F6 N6 (fun _ h => h) trivial ?hk1 ?hr1 ⟨?_, ?_, ?_⟩ ?_
          case hk1 => (intro q hq; rw [List.mem_singleton.mp hq]; rfl)
          case hr1 =>
            intro z h2 h3
            have h2' : z ≠ Str.ofString "filenameIndex" := h2 _ (List.mem_singleton.mpr rfl)
            simp [kstB, h2']
          · show sepIx p sep alt + 1 ≤ f + 1; omega
          · show f + 1 ≤ rf p ext; omega
          · intro k h1 h2
            have h2' : (k : Int) < f + 1 := h2
            by_cases hkf : (k : Int) < f
            · exact hf3 k h1 hkf
            · have : k = f.toNat := by omega
              rw [this]; exact hx
          · show (rf p ext - (f + 1)).toNat < (rf p ext - f).toNat; omega
        · rename Fr g1 L1 _ _ => F6
          rename News g1 L1 _ _ => N6
          rename ∀ p ∈ news, _ => hl6
          rename ¬ _ => hnlt
          have hnlt' : ¬ f < rf p ext := hnlt
          have e0 : spl p sep alt ext = (p, []) := by
            unfold spl; rw [if_neg]; rintro ⟨-, k, hk1, hk2, hk3⟩; exact hk3 (hf3 k hk1 (by omega))
          have ret' := ret
          rw [e0] at ret'
          refine leaveK_ F6 N6 fun Fb Nb => ?_
          rw [slice_to p (Int.le_refl 0)] at Nb
          exact ret' _ _ _ _ _ Fb Nb hl6
    · rename Fr g1 L1 _ _ => F4
      rename News g1 L1 _ _ => N4
      rename ∀ p ∈ news, _ => hl4
      rename ¬ _ => hnlt
      have e0 : spl p sep alt ext = (p, []) := by
        unfold spl; rw [if_neg]; rintro ⟨h1, -⟩; exact hnlt h1
      have ret' := ret
      rw [e0] at ret'
      refine leaveK_ F4 N4 fun Fb Nb => ?_
      rw [slice_to p (Int.le_refl 0)] at Nb
      exact ret' _ _ _ _ _ Fb Nb hl4
end Mine
end

section
open PySem PySem.W PyProof.Rows
namespace Mine
local macro_rules | `(tactic| walk_at "enterC") => `(tactic| (refine' code_defC ?k1 ?k2 ?k3 ?k4 ?k5 ?kA ?kF ?kK ?k6 ?k7 ?k8 ?k9 ?kB ?kD ?_ ?c2 ?c3 ?c4; (case kA => exact rfl); (case kF => exact rfl); (case kK => assumption); (case k1 => k_asm); (case k2 => k_asm); (case k3 => k_asm); (case k4 => k_asm); (case k5 => k_asm); (case k6 => k_is); (case k7 => k_is); (case k8 => ktr_room); (case k9 => exact BindsTo.of_eq rfl); (case kB => exact rfl); (case kD => decide +kernel); (case c2 => exact rfl); (case c3 => exact rfl); (case c4 => exact rfl); k_whole; intro g' L' h' tk' cells' FG' F' N' Y' B' X' T' l1; (try k_lt l1); k_cells Y'; (try simp only [List.cons_append, List.nil_append] at N'); (try dsimp only); (try k_lift B'); (try k_fold)))
local macro_rules | `(tactic| size_fits) => `(tactic| ((simp only [S_len, PySem.sizeLine_eq]); omega))
local macro_rules | `(tactic| walk_at "stop") => `(tactic| first
  | (with_reducible show wpAny _ _ (exec (Stmt.For _ _ _ _ _) _) _ _ _)
  | (with_reducible show wpAny _ _ (exec (Stmt.While _ _ _ _) _) _ _ _)
  | (with_reducible show wpAny _ _ (eval (Expr.ListComp _ _ _ _) _) _ _ _)
  | (with_reducible show wpAny _ _ (pyIter _) _ _ _)
  | (with_reducible show CTurn _ _ _ _ _ _ _ _ _ _ _ _ _ _ _)
  | (with_reducible show CEnd _ _ _ _ _ _ _ _)
  | (with_reducible show LeaveK _ _ _ _ _ _ _))
local macro_rules | `(tactic| walk_at "ws") => `(tactic| repeat' (first | (k_unfold; (try dsimp only)) | ((fail_if_success (walk_at "stop")); walk1) | ((fail_if_success (walk_at "stop")); dsimp only; walk1) | (leave1; walk_say "STEP leave1"; try dsimp only)))

theorem gs_textsP {P : Nat → Prop} : ∀ {gs : List (Option Value)}, (∀ (j : Nat) (g : Option Value), gs[j]? = some g → ∃ (c : Nat) (t : Tok), P c ∧ g = some (Value.str (S [c]) t)) → ∃ cs : List Nat, cs.length = gs.length ∧ (∀ c ∈ cs, P c) ∧ StrsAre (gs.filterMap id) ((cs.map fun c => [c]).map S)
  | [], _ => ⟨[], rfl, by simp, .nil⟩
  | g :: gs, k => by
    obtain ⟨c, t, hp, e⟩ := k 0 g rfl
    subst e
    obtain ⟨cs, e1, e3, e2⟩ := gs_textsP (gs := gs) fun j g hj => k (j + 1) g (by simpa using hj)
    exact ⟨c :: cs, by simp [e1], by simpa using ⟨hp, e3⟩, .cons _ t e2⟩
theorem item_two {prog : Program} {w : World} {A : Around} {E : Value → Shared → Prop} {s : Shared} {value slice : Expr} {c₁ c₂ : Nat} {t u : Tok} {z : Int} {Q : Value → Shared → Prop}
    (h : ∀ c t k, (c = c₁ ∨ c = c₂) → Q (.str (S [c]) t) { s with toks := k })
    (hs : ∀ z, subscripted slice false (.str (S [c₁, c₂]) t) (.int z u) = operate [.str (S [c₁, c₂]) t, .int z u] (getItem (.str (S [c₁, c₂]) t) (.int z u)))
    (ht : ∀ r, letTemporaryGo value (.str (S [c₁, c₂]) t) r = pure ()) :
    wpAny (model prog w) A (subscriptTail value slice (.str (S [c₁, c₂]) t) (.int (z.fmod 2) u)) Q E s := by
  have hl : (S [c₁, c₂]).length = 2 := rfl
  have h1 : z.fmod 2 = 0 ∨ z.fmod 2 = 1 := by
    have := Int.fmod_nonneg_of_pos z (show (0:Int) < 2 by decide)
    have := Int.fmod_lt_of_pos z (show (0:Int) < 2 by decide)
    omega
  rcases h1 with h1 | h1
  · rw [h1]
    refine item_str (by decide) (by rw [hl]; decide) (by rw [hl]; decide) (fun _ => ?_) (hs 0) ht
    exact h c₁ _ _ (.inl rfl)
  · rw [h1]
    refine item_str (by decide) (by rw [hl]; decide) (by rw [hl]; decide) (fun _ => ?_) (hs 1) ht
    exact h c₂ _ _ (.inr rfl)
theorem word10 {w : World} {mean : ExcName → Option Value} {mg mb : Str → Option Value} (dp un : Nat) (gd : Option (List Code)) (cn : Str) (cs : Scope) (a : Addr) (ccd : Value) (cl : List (Str × Addr)) (outer : List Env) (A₀ : Around) (base h₀ : Heap) (L : Addr) (m : Str → Option Value) (news : List (Addr × Obj)) (s : Shared)
    (Q E : Value → Shared → Prop) (q : Int) (c₁ c₂ : Nat) (tq tl : Tok)
    (B : Below A₀ base outer h₀) (F : Fr h₀ L s.heap m) (X : (hd10.heap_39 w.params).In h₀) (N : News h₀ L s.heap news) (T : Top hd10.view_39 (looseW hd10.view_39 []) mean mg mb h₀) (hk : cs.kind = .function)
    (hd : dp + 1 < recursionLimit) (hu : un + 8 < cLine)
    (ret : ∀ wd t h' tk', wd.length ≤ 2 → (∀ c ∈ wd, c = c₁ ∨ c = c₂) → Fr h₀ L h' m → News h₀ L h' news → Q (.str (S wd) t) { s with heap := h', toks := tk' }) :
    wpAny (model PySem.Challenge.rw_dm0122_10.row.prog w) (ktrTop dp un gd cn cs L a ccd cl outer) (call (.ref 26) [.int q tq, .str (S [c₁, c₂]) tl]) Q E s := by
  revert T; revert X; k_fill; intro X T
  refine wpAny_call ?_
  k_dflt (walk_at "enterC")
  walk_at "ws"
  refine ListComp_E rfl rfl (by decide) ?_
  walk_at "ws"
  rename_i g1 L1 h1 tk1 FG1 F1 B1 X1 T1 l1 o1 o2 d1 d2 N1 h2 tk2 t1 u1 v1 R2 F2 N2 K2
  have hq0 : 0 ≤ q.fmod 3 := Int.fmod_nonneg_of_pos q (by decide)
  have hq3 : q.fmod 3 < 3 := Int.fmod_lt_of_pos q (by decide)
  have hd1 : o1.data = .cell (some (.str (S [c₁, c₂]) tl)) := d1
  have hd2 : o2.data = .cell (some (.int q tq)) := d2
  refine csrc_range (n := (q.fmod 3).toNat) 0 (q.fmod 3) (fun i g => ∃ c t, (c = c₁ ∨ c = c₂) ∧ g = some (Value.str (S [c]) t)) rfl (by decide) rfl rfl F2 N2 R2 ?hsm ?hnn ?hsz ?_ (cfin_expr ?_)
  case hsm => exact small_one (by decide) (by decide) (by omega) (by omega)
  case hnn => rw [rangeSize_nat]; simp
  case hsz => rw [PySem.sizeLine_eq]; omega
  · intro i hi I oI C oC D oD m₃ h tk E' ⟨t, hm3⟩ hC F3 N3 hoff
    refine wpAny_tests_nil ?_
    rw [if_pos rfl]
    walk_at "ws"
    refine item_two ?_ (by intro _; with_unfolding_all rfl) (by intro _; with_unfolding_all rfl)
    intro c t' k hc
    dsimp only
    walk_at "ws"
    exact CEnd.intro F3 N3 (fun _ h => h) ⟨c, _, hc, rfl⟩
  · intro D h tk gs Fd Nd hlt hgl hG
    dsimp only
    walk_at "ws"
    obtain ⟨wd, hwl, hwc, hst⟩ := gs_textsP (P := fun c => c = c₁ ∨ c = c₂) hG
    have hw2 : wd.length ≤ 2 := by omega
    rw [show Str.ofString "" = S [] from by decide +kernel]
    refine join_L Nd (.head _) hst (by decide) ?_ ?_
    · have := jn_sum [] (wd.map fun c => [c])
      rw [jn_nil, flat_ones] at this
      rw [List.length_map]; omega
    intro t' k'
    dsimp only
    rw [jn_nil, flat_ones]
    walk_at "ws"
    exact leaveK_ Fd Nd fun Fb Nb => ret _ _ _ _ hw2 hwc Fb (news_sub Nb fun _ h => .tail _ (.tail _ (.tail _ h)))
end Mine
end

section
open PySem PySem.W PyProof.Rows
namespace Mine
local macro_rules | `(tactic| size_fits) => `(tactic| ((simp only [PySem.Str.length_append, S_len, PySem.sizeLine_eq, List.length_append]); omega))
local macro_rules | `(tactic| walk_at "stop") => `(tactic| first
  | (with_reducible show wpAny _ _ (exec (Stmt.For _ _ _ _ _) _) _ _ _)
  | (with_reducible show wpAny _ _ (exec (Stmt.While _ _ _ _) _) _ _ _)
  | (with_reducible show wpAny _ _ (eval (Expr.ListComp _ _ _ _) _) _ _ _)
  | (with_reducible show wpAny _ _ (pyIter _) _ _ _)
  | (with_reducible show CTurn _ _ _ _ _ _ _ _ _ _ _ _ _ _ _)
  | (with_reducible show CEnd _ _ _ _ _ _ _ _)
  | (with_reducible show wpAny _ _ (subscriptTail _ (Expr.Slice _ _ _ _) (Value.ref _) (Value.ref _)) _ _ _)
  | (with_reducible show wpAny _ _ (subscriptTail _ _ (Value.ref _) (Value.int _ _)) _ _ _)
  | (with_reducible show wpAny _ _ (call (Value.builtin "str.join") _) _ _ _)
  | (with_reducible show LeaveK _ _ _ _ _ _ _))
local macro_rules | `(tactic| walk_at "ws") => `(tactic| repeat' (first | (k_unfold; (try dsimp only)) | ((fail_if_success (walk_at "stop")); walk1) | ((fail_if_success (walk_at "stop")); dsimp only; walk1) | (leave1; walk_say "STEP leave1"; try dsimp only)))

theorem news_5 {h₀ h : Heap} {L : Addr} {x a b c d : Addr × Obj} {news : List (Addr × Obj)} (N : News h₀ L h (x :: a :: b :: c :: d :: news)) : News h₀ L h (x :: news) := news_sub N fun p hp => by
  rcases List.mem_cons.mp hp with rfl | hp
  · exact .head _
  · exact .tail _ (.tail _ (.tail _ (.tail _ (.tail _ hp))))
theorem due10 {w : World} {mean : ExcName → Option Value} {mg mb : Str → Option Value} (dp un : Nat) (gd : Option (List Code)) (cn : Str) (cs : Scope) (a : Addr) (ccd : Value) (cl : List (Str × Addr)) (outer : List Env) (A₀ : Around) (base h₀ : Heap) (L : Addr) (m : Str → Option Value) (news : List (Addr × Obj)) (s : Shared)
    (Q E : Value → Shared → Prop) (P : Addr) (n : Nat) (l : List PR) (r : PR) (hl : Sub (ledP P n (l ++ [r])) news) (hok : ∀ r' ∈ l ++ [r], r'.Ok) (hlen : (txN (nmsOf (l ++ [r]))).length + l.length ≤ 1000) (hws : ∀ r' ∈ l ++ [r], r'.ws.length ≤ 1000)
    (B : Below A₀ base outer h₀) (F : Fr h₀ L s.heap m) (X : (hd10.heap_39 w.params).In h₀) (N : News h₀ L s.heap news) (T : Top hd10.view_39 (looseW hd10.view_39 []) mean mg mb h₀) (hk : cs.kind = .function)
    (hd : dp + 1 < recursionLimit) (hu : un + 8 < cLine)
    (ret : ∀ d t1 t2 h' tk', Fr h₀ L h' m → News h₀ L h' ((d, ({ cls := .type "tuple", data := .seq #[.str (S (dueN (nmsOf l) (r.sep, r.ws)).1) t1, .str (S (dueN (nmsOf l) (r.sep, r.ws)).2) t2] } : Obj)) :: news) → (∀ q ∈ news, q.1 < d) → Q (.ref d) { s with heap := h', toks := tk' }) :
    wpAny (model PySem.Challenge.rw_dm0122_10.row.prog w) (ktrTop dp un gd cn cs L a ccd cl outer) (call (.ref 31) [.ref P]) Q E s := by
  revert T; revert X; k_fill; intro X T
  refine wpAny_call ?_
  k_dflt ktr_enter
  rename_i g1 L1 h1 FG1 F1 N1 B1 X1 T1
  walk_at "ws"
  have hPm0 : (P, W.listOf ((l ++ [r]).map fun r => Value.ref r.q).toArray n) ∈ news := hl _ (.head _)
  have hPm : (P, W.listOf ((l.map fun r => Value.ref r.q) ++ [Value.ref r.q]).toArray n) ∈ news := by simpa using hPm0
  have hqm : (r.q, W.listOf #[r.sv, .ref r.w] r.nq) ∈ news := hl _ (by rw [ledP_eq, bodyP_app, bodyP_cons]; simp)
  have hwm : (r.w, W.listOf r.vs.toArray r.nw) ∈ news := hl _ (by rw [ledP_eq, bodyP_app, bodyP_cons]; simp)
  refine item_last N1 hPm ?_
  walk_at "ws"
  rename Fr g1 L1 _ _ => F2
  rename News g1 L1 _ _ => N2
  obtain ⟨⟨tsv, hsv⟩, hvs⟩ := hok r (by simp)
  rw [hsv] at F2
  have htl : (txN (nmsOf (l ++ [r]))).length = (txN (nmsOf l)).length + r.sep.length + r.ws.flatten.length := by
    rw [nmsOf_app, txN_app, List.length_append]
    show _ + (txN [(r.sep, r.ws)]).length = _
    rw [txN_one, List.length_append]; dsimp only; omega
  have hrw : r.ws.length ≤ 1000 := hws r (by simp)
  have hvl : r.vs.length = r.ws.length := by have := hvs.length; simpa using this
  have hdl : r.ws.dropLast.flatten.length ≤ r.ws.flatten.length := by
    by_cases h0 : r.ws = []
    · rw [h0]; simp
    · conv => rhs; rw [← List.dropLast_concat_getLast h0]
      rw [List.flatten_append, List.length_append]; omega
  have hdr : (r.ws.drop (r.ws.length - 1)).flatten.length ≤ r.ws.flatten.length := by
    conv => rhs; rw [← List.take_append_drop (r.ws.length - 1) r.ws]
    rw [List.flatten_append, List.length_append]; omega
  refine ListComp_E (cl := []) rfl rfl (by decide) ?_
  walk_at "ws"
  k_dflt (refine kms_slice_lit F2 N2 ⟨_, (N2 _ hPm).1, rfl, _, rfl⟩ .none (.int _ _) (zs := l.map fun r => Value.ref r.q) ?sle ?_ ?sls ?slt ?slz)
  case sle => simp [kms_pick, kms_lo, kms_hi]
  case sls => with_unfolding_all rfl
  case slt => kmk_pure
  case slz => (rw [List.size_toArray, PySem.sizeLine_eq]; simp; omega)
  intro D1 h3 F3 N3 hlt3
  dsimp only
  walk_at "ws"
  have hsl : ∀ r ∈ l, Sub r.led news := fun r hr p hp => hl p (List.mem_cons_of_mem _ (List.mem_flatMap.mpr ⟨r, by simp [hr], hp⟩))
  have hP : ∀ (i : Nat) (v : Value), (l.map fun r => Value.ref r.q)[i]? = some v → ∃ r, l[i]? = some r ∧ v = .ref r.q := by
    intro i v hv
    rw [List.getElem?_map] at hv
    cases e : l[i]? with
    | none => rw [e] at hv; cases hv
    | some r => rw [e] at hv; cases hv; exact ⟨r, rfl, rfl⟩
  refine csrc_list (Bd := fun i m₃ => ∃ r, l[i]? = some r ∧ m₃ (Str.ofString "front") = some r.sv ∧ m₃ (Str.ofString "rest") = some (.ref r.w)) (G := fun i g => ∃ r t, l[i]? = some r ∧ g = some (.str (S (r.sep ++ r.ws.flatten)) t)) rfl (by decide) rfl F3 N3 (.head _) ?_ ?_ ?_ ?_ (cfin_expr ?_)
  · rw [List.length_map, PySem.sizeLine_eq]; omega
  · intro I i v s' Q E' hv hit hq
    obtain ⟨r, _, rfl⟩ := hP i v hv
    exact wpAny_letOwnedTupleGo_listiter hit hq
  · intro i v C h tk m' E' hv h1 h2 h3 h4 h5 h6
    refine wpAny_mono (bind_pair (P := fun i v => (l.map fun r => Value.ref r.q)[i]? = some v) rfl rfl rfl rfl (by decide) (fun i v₁ v₂ => ∃ r, l[i]? = some r ∧ v₁ = r.sv ∧ v₂ = .ref r.w) ?_ i v C h tk m' E' hv h1 h2 h3 h4 h5 h6) ?_ fun _ _ e => e
    · intro i v hv
      obtain ⟨r, hr, rfl⟩ := hP i v hv
      exact ⟨r.q, r.sv, .ref r.w, r.nq, rfl, .tail _ (hsl r (List.mem_of_getElem? hr) _ (.head _)), r, hr, rfl, rfl⟩
    · rintro _ s₃ ⟨h₃, tk₃, m₃, e, hn₃, hk₃, v₁, v₂, ⟨r, hr, rfl, rfl⟩, e1, e2⟩
      exact ⟨h₃, tk₃, m₃, e, hn₃, hk₃, r, hr, e1, e2⟩
  · intro i hi
    unfold CTurn
    rintro I oI C oC D oD m₃ h tk E' ⟨r, hr, hm1, hm2⟩ hC F4 N4 hoff
    refine wpAny_tests_nil ?_
    rw [if_pos rfl]
    have hrm := List.mem_of_getElem? hr
    obtain ⟨⟨ts, hsv⟩, hvs⟩ := hok r (by simp [hrm])
    rw [hsv] at hm1
    have hmem := hsl r hrm _ (.tail _ (.head _))
    have hrl : r.sep.length + r.ws.flatten.length ≤ (txN (nmsOf l)).length := txN_mem (List.mem_map_of_mem (f := fun r : PR => (r.sep, r.ws)) hrm)
    have hj1 := flat_sum r.ws
    have hj2 := hws r (by simp [hrm])
    walk_at "ws"
    rw [show Str.ofString "" = S [] from by decide +kernel]
    refine join_L N4 (.tail _ (.tail _ (.tail _ (.tail _ hmem)))) hvs (by decide) (by omega) ?_
    intro t' k
    dsimp only
    rw [jn_nil]
    walk_at "ws"
    exact CEnd.intro F4 N4 (fun _ h => h) ⟨r, _, hr, by rw [S_app]⟩
  · intro D h tk gs Fd Nd hlt hgl hG
    dsimp only
    walk_at "ws"
    rw [List.length_map] at hgl
    have hst : StrsAre (gs.filterMap id) ((l.map fun r => r.sep ++ r.ws.flatten).map S) := by
      refine gs_strs (by rw [hgl, List.length_map]) ?_
      intro j g hj
      obtain ⟨r, t, h1, h2⟩ := hG j g hj
      exact ⟨_, t, by rw [List.getElem?_map, h1]; rfl, h2⟩
    have htx : jn [] (l.map fun r => r.sep ++ r.ws.flatten) = txN (nmsOf l) := by
      rw [jn_nil]; simp [txN, nmsOf, List.flatMap]; rfl
    rw [show Str.ofString "" = S [] from by decide +kernel]
    refine join_L Nd (.head _) hst (by decide) ?_ ?_
    · have := jn_sum [] (l.map fun r => r.sep ++ r.ws.flatten)
      rw [htx] at this
      rw [List.length_map]; omega
    intro t' k
    dsimp only
    rw [htx]
    walk_at "ws"
    rename Fr g1 L1 _ _ => F5
    rename News g1 L1 _ _ => N5
    k_dflt (refine kms_slice_lit F5 N5 ⟨_, (N5 _ (.tail _ (.tail _ hwm))).1, rfl, _, rfl⟩ .none (.int _ _) (zs := r.vs.dropLast) ?sle ?_ ?sls ?slt ?slz)
    case sle => simp [kms_pick, kms_lo, kms_hi, List.dropLast_eq_take]
    case sls => with_unfolding_all rfl
    case slt => kmk_pure
    case slz => (rw [List.size_toArray, PySem.sizeLine_eq]; omega)
    intro D2 h6 F6 N6 hlt6
    dsimp only
    walk_at "ws"
    have hf1 := flat_sum r.ws.dropLast
    have hf2 := flat_sum (r.ws.drop (r.ws.length - 1))
    have hvs1 : StrsAre r.vs.dropLast (r.ws.dropLast.map S) := by rw [List.map_dropLast]; exact strs_dropLast hvs
    have hvs2 : StrsAre (r.vs.drop (r.ws.length - 1)) ((r.ws.drop (r.ws.length - 1)).map S) := by rw [List.map_drop]; exact strs_drop _ hvs
    refine join_L N6 (.head _) hvs1 (by decide) (by rw [List.length_dropLast]; omega) ?_
    intro t6 k6
    dsimp only
    rw [jn_nil]
    walk_at "ws"
    k_dflt (refine kms_slice_lit F6 N6 ⟨_, (N6 _ (.tail _ (.tail _ (.tail _ hwm)))).1, rfl, _, rfl⟩ (.int _ _) .none (zs := r.vs.drop (r.ws.length - 1)) ?sle ?_ ?sls ?slt ?slz)
    case sle => (rw [← hvl]; simp [kms_pick, kms_lo, kms_hi]; rw [List.take_of_length_le]; simp)
    case sls => with_unfolding_all rfl
    case slt => kmk_pure
    case slz => (rw [List.size_toArray, PySem.sizeLine_eq]; omega)
    intro D3 h7 F7 N7 hlt7
    dsimp only
    walk_at "ws"
    refine join_L N7 (.head _) hvs2 (by decide) (by rw [List.length_drop]; omega) ?_
    intro t7 k7
    dsimp only
    rw [jn_nil]
    walk_at "ws"
    rename Fr g1 L1 _ _ => F8
    rename News g1 L1 _ _ => N8
    rename_i hlt8
    rw [S_app, S_app] at N8
    exact leaveK_ F8 N8 fun Fb Nb => ret _ _ _ _ _ Fb (news_5 Nb) (ktn_ltOf hlt8.2.2.2.2)
end Mine
end

section
open PySem PySem.W PyProof.Rows
namespace Mine
def defBody (p : Program) (n : Nat) : List Stmt := match p.main.body[n]? with
  | some (.FunctionDef (body := b) ..) => b
  | _ => []
def defScope (p : Program) (n : Nat) : Scope := match p.main.body[n]? with
  | some (.FunctionDef (scope := b) ..) => b
  | _ => default
def forOf (l : List Stmt) (k : Nat) : List Stmt := match l[k]? with
  | some (.For (body := b) ..) => b
  | _ => []
def thenOf (l : List Stmt) (k : Nat) : List Stmt := match l[k]? with
  | some (.If (body := b) ..) => b
  | _ => []
def elseOf (l : List Stmt) (k : Nat) : List Stmt := match l[k]? with
  | some (.If (orelse := b) ..) => b
  | _ => []
def loop10 : List Stmt := forOf (defBody PySem.Challenge.pw_dm0122_10 5) 4
def kind0 : List Stmt := thenOf loop10 5
def kind5 : List Stmt := thenOf (elseOf loop10 5) 0
def kindE : List Stmt := elseOf (elseOf loop10 5) 0
def scope10 : Scope := defScope PySem.Challenge.pw_dm0122_10 5
abbrev env10 (L fa : Addr) (cA : Value) : Env := envOf (Str.ofString "law") scope10 L fa cA
/-- the names on the heap -/
structure Hold (P : Addr) (seps : List Nat) (own all : List (Addr × Obj)) (n : Nat) (l : List PR) (i : Nat) : Prop where
  ok : ∀ r ∈ l, r.Ok
  ne : l ≠ []
  rows : ∀ p ∈ nmsOf l, RowOk seps p
  len : (txN (nmsOf l)).length ≤ 4 + 5 * i
  mine : Sub own all
  led : Sub (ledP P n l) all
  off : ∀ q ∈ own, ∀ p ∈ P :: adrP l, q.1 ≠ p
  top : P ∉ adrP l
theorem bodyP_sub {l : List PR} {all : List (Addr × Obj)} {P : Addr} {n : Nat} (h : Sub (ledP P n l) all) : Sub (bodyP l) all := fun p hp => h p (.tail _ hp)
theorem hold_upd {P : Addr} {o₀ : Obj} {seps : List Nat} {own all : List (Addr × Obj)} {l : List PR} {i n : Nat} (ok : ∀ r ∈ l, r.Ok) (ne : l ≠ []) (rows : ∀ p ∈ nmsOf l, RowOk seps p) (len : (txN (nmsOf l)).length ≤ 4 + 5 * i)
    (hP : (P, o₀) ∈ all) (ho : Sub own all) (hb : Sub (bodyP l) all) (off : ∀ q ∈ own, ∀ p ∈ P :: adrP l, q.1 ≠ p) (top : P ∉ adrP l) :
    Hold P seps own (upd P (W.listOf (l.map fun r => Value.ref r.q).toArray n) all) n l i := by
  refine ⟨ok, ne, rows, len, fun p hp => mem_upd_ne (ho p hp) (off p hp P (.head _)), ?_, off, top⟩
  intro p hp
  rcases List.mem_cons.mp hp with rfl | hp
  · exact mem_upd_self hP
  · exact mem_upd_ne (hb p hp) fun e => top (e ▸ mem_adrP hp)
theorem nms_last {l : List PR} {r : PR} : nmsOf (l ++ [r]) = nmsOf l ++ [(r.sep, r.ws)] := by simp [nmsOf]
theorem tx_last {l : List PR} {r : PR} : txN (nmsOf (l ++ [r])) = txN (nmsOf l) ++ (r.sep ++ r.ws.flatten) := by rw [nms_last, txN_app, txN_one]
/-- a turn is done -/
def TurnEnd (s₁ : Shared) (P : Addr) (own : List (Addr × Obj)) (av lv : Value) (seps : List Nat) (i : Nat) (f : Flow) (s' : Shared) : Prop :=
  f = .next ∧ ∃ h tk m all n l tp, s' = { s₁ with heap := h, toks := tk } ∧ Fr s₁.heap s₁.heap.objs.size h m ∧ News s₁.heap s₁.heap.objs.size h all ∧ Hold P seps own all n l i ∧
    m (Str.ofString "names") = some (.ref P) ∧ m (Str.ofString "path") = some (.str (S (txN (nmsOf l))) tp) ∧ m (Str.ofString "altsep") = some av ∧ m (Str.ofString "letters") = some lv
end Mine
end

section
open PySem PySem.W PyProof.Rows
namespace Mine
theorem strip_bare (p : List Nat) : Txt.stripChars (S p) (S [46]) = S [] ↔ ∀ x ∈ p, x = 46 := by
  unfold Txt.stripChars
  rw [PyProof.Rows.stripBy_eq]
  have hl := lo_facts (S [46]).cps.contains (S p)
  generalize hlo : stripLo (S [46]).cps.contains true (S p) = lo at hl
  have hh := hi_facts (S [46]).cps.contains (S p) lo hl.1
  generalize hhi : stripHi (S [46]).cps.contains true (S p) lo = hi at hh
  rw [S_len] at hl hh
  have hg : ∀ c, (S [46]).cps.contains c = true ↔ c = 46 := by intro c; simp [S]
  have hd : ∀ k (h : k < p.length), (S p).cps.getD k 0 = p[k] := by intro k h; simp [S, Array.getD, h]
  have hlen : (Builtin.Str.strSub (S p) lo hi).length = min hi p.length - lo := by simp [Builtin.Str.strSub, Str.length, S]; omega
  constructor
  · intro e
    rw [e, S_len] at hlen
    have hlen : 0 = min hi p.length - lo := hlen
    have h1 : hi = lo := by omega
    have h2 : lo = p.length := by
      rcases hl.2.2 with h | h
      · exact h
      · by_cases h3 : lo < p.length
        · have := hh.2.2.1 lo (by omega) h3
          rw [h] at this; cases this
        · omega
    intro x hx
    obtain ⟨k, hk, rfl⟩ := List.mem_iff_getElem.mp hx
    have := hl.2.1 k (by omega)
    rw [hg, hd k hk] at this
    exact this
  · intro h
    have h1 : lo = p.length := by
      rcases hl.2.2 with h2 | h2
      · exact h2
      · by_cases h3 : lo < p.length
        · rw [hd lo h3, h _ (List.getElem_mem h3), (hg 46).mpr rfl] at h2; cases h2
        · omega
    have h2 : hi = lo := by omega
    rw [h2, h1]
    simp [Builtin.Str.strSub, S]
theorem add_U {prog : Program} {w : World} {A : Around} {E : Value → Shared → Prop} {s : Shared} {h₀ : Heap} {L D D' : Addr} {m : Str → Option Value} {all : List (Addr × Obj)} {xs ys : List Value} {n n' : Nat} {Q : Value → Shared → Prop} (F : Fr h₀ L s.heap m) (N : News h₀ L s.heap all)
    (h1 : (D, W.listOf xs.toArray n) ∈ all) (h2 : (D', W.listOf ys.toArray n') ∈ all) (hsz : xs.length + ys.length ≤ 1000000)
    (h : ∀ R h', Fr h₀ L h' m → News h₀ L h' ((R, W.listOf (xs ++ ys).toArray 0) :: all) → (∀ p ∈ all, p.1 < R) → Q (.ref R) { s with heap := h' }) :
    wpAny (model prog w) A (binaryOp .Add (.ref D) (.ref D')) Q E s := by
  refine P.add_list (N _ h1).1 (N _ h2).1 ?_ (by simp [PySem.sizeLine_eq]; omega)
  have up : ∀ b o, s.heap.get? b = some o → (s.heap.push { cls := .type "list", data := .seq (xs.toArray ++ ys.toArray) }).get? b = some o := fun _ _ e => Heap.get?_push_of_some _ e
  refine h _ _ (F.keeps up) ?_ fun p hp => Heap.lt_size (N p hp).1
  intro p hp
  rcases List.mem_cons.mp hp with rfl | hp
  · refine ⟨?_, ?_, next_is_new F⟩
    · have := Heap.get?_push_size s.heap (o := { cls := .type "list", data := .seq (xs.toArray ++ ys.toArray) }) rfl
      simpa [W.listOf] using this
    · exact Ne.symm (Nat.ne_of_lt F.ns.lt)
  · exact N.grown up p hp
theorem hold_snoc {P : Addr} {o₀ : Obj} {seps : List Nat} {own all : List (Addr × Obj)} {l : List PR} {r : PR} {i n : Nat} (hP : (P, o₀) ∈ all) (ho : Sub own all) (hb : Sub (bodyP l) all) (ok : ∀ r ∈ l, r.Ok) (rows : ∀ p ∈ nmsOf l, RowOk seps p)
    (off : ∀ q ∈ own, ∀ p ∈ P :: adrP l, q.1 ≠ p) (top : P ∉ adrP l) (hr : Sub r.led all) (hrok : r.Ok) (hrow : RowOk seps (r.sep, r.ws)) (hq : r.q ≠ P) (hw : r.w ≠ P) (hoq : ∀ q ∈ own, q.1 ≠ r.q) (how : ∀ q ∈ own, q.1 ≠ r.w)
    (len : (txN (nmsOf l)).length + r.sep.length + r.ws.flatten.length ≤ 4 + 5 * i) :
    Hold P seps own (upd P (W.listOf ((l.map fun r => Value.ref r.q) ++ [Value.ref r.q]).toArray n) all) n (l ++ [r]) i := by
  have e : adrP (l ++ [r]) = adrP l ++ [r.q, r.w] := by rw [adrP_app]; rfl
  have := hold_upd (P := P) (seps := seps) (own := own) (all := all) (l := l ++ [r]) (i := i) (n := n) ?_ (by simp) ?_ ?_ hP ho ?_ ?_ ?_
  · simpa using this
  · intro r' h
    rcases List.mem_append.mp h with h | h
    · exact ok r' h
    · rw [List.mem_singleton.mp h]; exact hrok
  · intro p h
    rw [nms_last] at h
    rcases List.mem_append.mp h with h | h
    · exact rows p h
    · rw [List.mem_singleton.mp h]; exact hrow
  · rw [tx_last]; simp only [List.length_append]; omega
  · intro p hp
    rw [bodyP_app] at hp
    rcases List.mem_append.mp hp with hp | hp
    · exact hb p hp
    · exact hr p (by simpa [bodyP] using hp)
  · intro q hq' p hp
    rw [e, ← List.cons_append] at hp
    rcases List.mem_append.mp hp with hp | hp
    · exact off q hq' p hp
    · have : p = r.q ∨ p = r.w := by simpa using hp
      rcases this with rfl | rfl
      · exact hoq q hq'
      · exact how q hq'
  · rw [e, List.mem_append]
    rintro (h | h)
    · exact top h
    · have : P = r.q ∨ P = r.w := by simpa using h
      rcases this with h | h
      · exact hq h.symm
      · exact hw h.symm
theorem Hold.up {P : Addr} {seps : List Nat} {own all : List (Addr × Obj)} {l : List PR} {i n : Nat} (H : Hold P seps own all n l i) : Hold P seps own all n l (i + 1) := ⟨H.ok, H.ne, H.rows, by have := H.len; omega, H.mine, H.led, H.off, H.top⟩
/-- the last row and those before it -/
theorem Hold.parts {P : Addr} {seps : List Nat} {own all : List (Addr × Obj)} {l : List PR} {r : PR} {i n : Nat} (H : Hold P seps own all n (l ++ [r]) i) :
    (∀ r ∈ l, r.Ok) ∧ (∀ p ∈ nmsOf l, RowOk seps p) ∧ RowOk seps (r.sep, r.ws) ∧ r.Ok ∧ Sub (bodyP l) all ∧ (∀ q ∈ own, ∀ p ∈ P :: adrP l, q.1 ≠ p) ∧ P ∉ adrP l ∧ (∀ q ∈ own, q.1 ≠ r.w) ∧ r.w ≠ P ∧ (P, W.listOf ((l.map fun r => Value.ref r.q) ++ [Value.ref r.q]).toArray n) ∈ all ∧ (r.q, W.listOf #[r.sv, .ref r.w] r.nq) ∈ all ∧ (r.w, W.listOf r.vs.toArray r.nw) ∈ all ∧
    (txN (nmsOf l)).length + r.sep.length + r.ws.flatten.length ≤ 4 + 5 * i ∧ l.length ≤ 4 + 5 * i ∧ r.ws.length ≤ 4 + 5 * i ∧ (∀ r' ∈ l ++ [r], r'.ws.length ≤ 4 + 5 * i) := by
  have e : adrP (l ++ [r]) = adrP l ++ [r.q, r.w] := by rw [adrP_app]; rfl
  have hl := H.len
  rw [tx_last] at hl
  simp only [List.length_append] at hl
  have hrow : RowOk seps (r.sep, r.ws) := H.rows _ (by rw [nms_last]; simp)
  have h1 := rows_len H.rows
  have hws : ∀ r' ∈ l ++ [r], r'.ws.length ≤ 4 + 5 * i := by
    intro r' hr'
    have hm : (r'.sep, r'.ws) ∈ nmsOf (l ++ [r]) := List.mem_map_of_mem (f := fun r : PR => (r.sep, r.ws)) hr'
    have h3 : r'.ws.length ≤ r'.ws.flatten.length := (row_len (H.rows _ hm)).2
    have h4 := txN_mem hm
    have h5 := H.len
    dsimp only at h4
    omega
  refine ⟨fun r' h => H.ok r' (by simp [h]), fun p h => H.rows p (by rw [nms_last]; simp [h]), hrow, H.ok r (by simp), fun p hp => H.led p (.tail _ (by show p ∈ bodyP (l ++ [r]); rw [bodyP_app]; exact List.mem_append_left _ hp)), ?_, ?_, ?_, ?_, ?_, ?_, ?_, by omega, ?_, hws r (by simp), hws⟩
  · intro q hq p hp
    refine H.off q hq p ?_
    rw [e, ← List.cons_append]; exact List.mem_append_left _ hp
  · intro h; exact H.top (by rw [e]; exact List.mem_append_left _ h)
  · intro q hq; exact H.off q hq r.w (by rw [e]; simp)
  · intro h; exact H.top (by rw [e, ← h]; simp)
  · have := H.led _ (.head _); simpa using this
  · exact H.led _ (by rw [ledP_eq, bodyP_app, bodyP_cons]; simp)
  · exact H.led _ (by rw [ledP_eq, bodyP_app, bodyP_cons]; simp)
  · have h2 : (nmsOf (l ++ [r])).length = l.length + 1 := by simp [nmsOf]
    have := H.len
    omega
end Mine
end

section
open PySem PySem.W PyProof.Rows
namespace Mine
local macro_rules | `(tactic| size_fits) => `(tactic| ((simp only [PySem.Str.length_append, S_len, PySem.sizeLine_eq, List.length_append, List.length_replicate, List.length_cons, List.length_nil]); omega))
local macro_rules | `(tactic| walk_at "stop") => `(tactic| first
  | (with_reducible show wpAny _ _ (exec (Stmt.For _ _ _ _ _) _) _ _ _)
  | (with_reducible show wpAny _ _ (exec (Stmt.While _ _ _ _) _) _ _ _)
  | (with_reducible show wpAny _ _ (eval (Expr.ListComp _ _ _ _) _) _ _ _)
  | (with_reducible show wpAny _ _ (eval (Expr.IfExp _ _ _ _) _) _ _ _)
  | (with_reducible show wpAny _ _ (pyIter _) _ _ _)
  | (with_reducible show CTurn _ _ _ _ _ _ _ _ _ _ _ _ _ _ _)
  | (with_reducible show CEnd _ _ _ _ _ _ _ _)
  | (with_reducible show GEnd _ _ _ _ _ _ _)
  | (with_reducible show ite _ _ _)
  | (with_reducible show wpAny _ _ (call (Value.builtin "list.append") _) _ _ _)
  | (with_reducible show wpAny _ _ (call (Value.builtin "str.join") _) _ _ _)
  | (with_reducible show wpAny _ _ (call (Value.ref _) _) _ _ _)
  | (with_reducible show wpAny _ _ (subscriptTail _ _ (Value.ref _) (Value.int _ _)) _ _ _)
  | (with_reducible show wpAny _ _ (subscriptTail _ (Expr.Slice _ _ _ _) (Value.ref _) (Value.ref _)) _ _ _)
  | (with_reducible show wpAny _ _ (getMethod (Value.ref _) (Str.ofString "pop") _) _ _ _)
  | (with_reducible show wpAny _ _ (compareOp _ (Value.ref _) (Value.ref _)) _ _ _)
  | (with_reducible show wpAny _ _ (binaryOp Operator.Mult (Value.str _ _) _) _ _ _)
  | (with_reducible show wpAny _ _ (binaryOp Operator.Add (Value.ref _) _) _ _ _)
  | (with_reducible show TurnEnd _ _ _ _ _ _ _ _ _)
  | (with_reducible show LeaveK _ _ _ _ _ _ _))
local macro_rules | `(tactic| walk_at "GPost") => `(tactic| (dsimp only [GPost]))
local macro_rules | `(tactic| walk_at "ws") => `(tactic| repeat' (first | (k_unfold; (try dsimp only)) | ((fail_if_success (walk_at "stop")); walk1) | ((fail_if_success (walk_at "stop")); dsimp only; walk1) | (leave1; walk_say "STEP leave1"; try dsimp only)))
def SepEnd (s₁ : Shared) (h : Heap) (seps : List Nat) (v : Value) (s' : Shared) : Prop := (∃ c t, c ∈ seps ∧ v = .str (S [c]) t) ∧ ∃ tk, s' = { s₁ with heap := h, toks := tk }
local macro_rules | `(tactic| walk_at "wx") => `(tactic| repeat' (first | (k_unfold; (try dsimp only)) | ((fail_if_success (with_reducible show SepEnd _ _ _ _ _)); walk1) | ((fail_if_success (with_reducible show SepEnd _ _ _ _ _)); dsimp only; walk1)))
theorem dots_three {prog : Program} {w : World} {A : Around} {E : Value → Shared → Prop} {s : Shared} {t u : Tok} {z : Int} {Q : Value → Shared → Prop}
    (h : ∀ k t tk, k ≤ 2 → Q (.str (S (List.replicate k 46)) t) { s with toks := tk }) :
    wpAny (model prog w) A (binaryOp .Mult (.str (S [46]) t) (.int (z.fmod 3) u)) Q E s := by
  have h1 : z.fmod 3 = 0 ∨ z.fmod 3 = 1 ∨ z.fmod 3 = 2 := by
    have := Int.fmod_nonneg_of_pos z (show (0:Int) < 3 by decide)
    have := Int.fmod_lt_of_pos z (show (0:Int) < 3 by decide)
    omega
  rcases h1 with h1 | h1 | h1 <;> rw [h1]
  · refine SB.mul (mulOk_of 16 1048576 (by decide) (by decide) (by decide) (by decide) (by decide)) fun t' k => ?_
    rw [show Txt.mul (S [46]) 0 = S (List.replicate 0 46) from by decide +kernel]
    exact h 0 _ _ (by decide)
  · refine SB.mul (mulOk_of 16 1048576 (by decide) (by decide) (by decide) (by decide) (by decide)) fun t' k => ?_
    rw [show Txt.mul (S [46]) 1 = S (List.replicate 1 46) from by decide +kernel]
    exact h 1 _ _ (by decide)
  · refine SB.mul (mulOk_of 16 1048576 (by decide) (by decide) (by decide) (by decide) (by decide)) fun t' k => ?_
    rw [show Txt.mul (S [46]) 2 = S (List.replicate 2 46) from by decide +kernel]
    exact h 2 _ _ (by decide)
theorem kind0_ok {w : World} {mean : ExcName → Option Value} {mg mb : Str → Option Value} (s₁ : Shared) (fa : Addr) (cA : Value) (E : Value → Shared → Prop) (K0 : Below callerA s₁.heap [] s₁.heap) (T : Top hd10.view_39 (looseW hd10.view_39 []) mean mg mb s₁.heap) (KX : (hd10.heap_39 w.params).In s₁.heap)
    {P : Addr} {own all : List (Addr × Obj)} {n : Nat} {l : List PR} {alt : List Nat} {av : Value} {tl tp tq : Tok} {m : Str → Option Value} {h : Heap} {tk i c₁ c₂ : Nat} {q : Int}
    (halt : (alt = [] ∧ av = .none) ∨ (alt = [92] ∧ ∃ t, av = .str (S [92]) t)) (hlet : ∀ c, c = c₁ ∨ c = c₂ → c ≠ 46 ∧ c ∉ 47 :: alt) (H : Hold P (47 :: alt) own all n l i) (hi : i ≤ 24)
    (F : Fr s₁.heap s₁.heap.objs.size h m) (N : News s₁.heap s₁.heap.objs.size h all)
    (hm1 : m (Str.ofString "names") = some (.ref P)) (hm2 : m (Str.ofString "path") = some (.str (S (txN (nmsOf l))) tp)) (hm3 : m (Str.ofString "altsep") = some av) (hm4 : m (Str.ofString "letters") = some (.str (S [c₁, c₂]) tl)) (hm5 : m (Str.ofString "q") = some (.int q tq)) :
    wpAny (model PySem.Challenge.rw_dm0122_10.row.prog w) (callerA.deeper (env10 s₁.heap.objs.size fa cA)) (execs kind0 (env10 s₁.heap.objs.size fa cA))
      (TurnEnd s₁ P own av (.str (S [c₁, c₂]) tl) (47 :: alt) (i + 1)) E { s₁ with heap := h, toks := tk } := by
  revert KX; k_fill; intro KX
  unfold env10
  conv in (kind0) => whnf
  simp only [show scope10 = defScope PySem.Challenge.pw_dm0122_10 5 from rfl]
  conv in (occs := *) (defScope PySem.Challenge.pw_dm0122_10 5) => all_goals whnf
  have F9 := fr_show [(Str.ofString "names", .ref P), (Str.ofString "path", .str (S (txN (nmsOf l))) tp), (Str.ofString "altsep", av), (Str.ofString "letters", .str (S [c₁, c₂]) tl), (Str.ofString "q", .int q tq)] F (by simp [hm1, hm2, hm3, hm4, hm5])
  clear F
  have hln := H.len
  have hPm : (P, W.listOf (l.map fun r => Value.ref r.q).toArray n) ∈ all := H.led _ (.head _)
  have hll : l.length ≤ 200 := by
    have h1 := rows_len H.rows
    have h2 : (nmsOf l).length = l.length := by simp [nmsOf]
    omega
  walk_at "ws"
  refine wpAny_mono (Q := SepEnd s₁ h (47 :: alt)) ?_ ?_ (fun _ _ e => e)
  · rcases halt with ⟨rfl, rfl⟩ | ⟨rfl, ta, rfl⟩
    · walk_at "wx"
      all_goals first
        | (rw [show Str.ofString "\\" = S [92] from by decide +kernel]; exact ⟨⟨_, _, by decide, rfl⟩, _, rfl⟩)
        | (rw [show Str.ofString "/" = S [47] from by decide +kernel]; exact ⟨⟨_, _, by decide, rfl⟩, _, rfl⟩)
        | trace_state
    · walk_at "wx"
      all_goals first
        | (rw [show Str.ofString "\\" = S [92] from by decide +kernel]; exact ⟨⟨_, _, by decide, rfl⟩, _, rfl⟩)
        | (rw [show Str.ofString "/" = S [47] from by decide +kernel]; exact ⟨⟨_, _, by decide, rfl⟩, _, rfl⟩)
        | trace_state
  rintro sv s' ⟨⟨c, tsep, hc, rfl⟩, tk4, rfl⟩
  walk_at "ws"
  rw [show Str.ofString "." = S [46] from by decide +kernel]
  refine dots_three ?_
  intro k t5 tk5 hk
  have hkl : (List.replicate k 46).length = k := List.length_replicate
  dsimp only
  walk_at "ws"
  rename Fr s₁.heap s₁.heap.objs.size _ _ => F5
  rename News s₁.heap s₁.heap.objs.size _ _ => N5
  k_dflt (refine word10 _ _ _ _ _ _ _ _ _ _ _ _ _ _ _ _ _ _ _ c₁ c₂ _ _ K0 F5 KX N5 T rfl ?hdp ?hun ?_)
  case hdp => ktr_room
  case hun => ktr_units
  intro wd t6 h6 tk6 hw2 hwc F6 N6
  dsimp only
  have hwr : Wrd (47 :: alt) wd := ⟨fun h => (hlet 46 (hwc 46 h)).1 rfl, fun c hc => (hlet c (hwc c hc)).2⟩
  walk_at "ws"
  rename Fr s₁.heap s₁.heap.objs.size _ _ => F7
  rename News s₁.heap s₁.heap.objs.size _ _ => N7
  rename_i tn kn an hn wB hB1 hwB qB hB2 hqB
  rw [S_app, S_app] at F7 N7
  obtain ⟨nm, hnm⟩ : ∃ nm, nm = [c] ++ List.replicate k 46 ++ wd := ⟨_, rfl⟩
  have hnl : nm.length ≤ 5 := by rw [hnm]; simp; omega
  have hnr : RowOk (47 :: alt) (nm, []) := by rw [hnm]; simpa using row_new hc hwr
  rw [← hnm] at F7 N7
  refine append_U F7 N7 (.tail _ (.tail _ hPm)) (by simp; omega) ?_
  intro h8 F8 N8
  dsimp only
  walk_at "ws"
  rename Fr s₁.heap s₁.heap.objs.size _ _ => F10
  rename News s₁.heap s₁.heap.objs.size _ _ => N10
  have ea : S (txN (nmsOf l)) ++ S nm = S (txN (nmsOf (l ++ [⟨qB, wB, 0, 0, .str (S nm) tn, [], nm, []⟩]))) := by
    rw [tx_last, S_app]; simp
  have e1 : @LT.lt Nat _ wB qB := hqB.1
  have hwBn : ∀ p ∈ all, @LT.lt Nat _ p.1 wB := hwB
  have ePw := hwBn _ hPm
  dsimp only at ePw
  rw [ea] at F10
  have Hs := hold_snoc (P := P) (seps := 47 :: alt) (own := own) (l := l) (r := ⟨qB, wB, 0, 0, .str (S nm) tn, [], nm, []⟩) (i := i + 1) (n := n + 1) (all := (qB, W.listOf #[.str (S nm) tn, .ref wB] 0) :: (wB, W.listOf #[] 0) :: all) (.tail _ (.tail _ hPm)) (fun p hp => .tail _ (.tail _ (H.mine p hp))) (fun p hp => .tail _ (.tail _ (H.led p (.tail _ hp)))) H.ok H.rows H.off H.top ?_ ⟨⟨_, rfl⟩, .nil⟩ hnr ?_ ?_ ?_ ?_ ?_
  · refine ⟨rfl, _, _, _, _, n + 1, l ++ [⟨qB, wB, 0, 0, .str (S nm) tn, [], nm, []⟩], _, rfl, F10, ?_, Hs, rfl, rfl, rfl, rfl⟩
    simpa using N10
  · intro p hp
    have : p = (qB, W.listOf #[.str (S nm) tn, .ref wB] 0) ∨ p = (wB, W.listOf #[] 0) := by simpa [PR.led] using hp
    rcases this with rfl | rfl
    · exact .head _
    · exact .tail _ (.head _)
  · show @Ne Nat qB P; omega
  · show @Ne Nat wB P; omega
  · intro q hq
    have := hwBn q (H.mine q hq)
    show @Ne Nat q.1 qB; omega
  · intro q hq
    have := hwBn q (H.mine q hq)
    show @Ne Nat q.1 wB; omega
  · show _ + nm.length + 0 ≤ _; omega
end Mine
end

section
open PySem PySem.W PyProof.Rows
namespace Mine
local macro_rules | `(tactic| size_fits) => `(tactic| ((simp only [PySem.Str.length_append, S_len, PySem.sizeLine_eq, List.length_append, List.length_replicate, List.length_cons, List.length_nil]); omega))
local macro_rules | `(tactic| walk_at "stop") => `(tactic| first
  | (with_reducible show wpAny _ _ (exec (Stmt.For _ _ _ _ _) _) _ _ _)
  | (with_reducible show wpAny _ _ (exec (Stmt.While _ _ _ _) _) _ _ _)
  | (with_reducible show wpAny _ _ (eval (Expr.ListComp _ _ _ _) _) _ _ _)
  | (with_reducible show wpAny _ _ (eval (Expr.IfExp _ _ _ _) _) _ _ _)
  | (with_reducible show wpAny _ _ (pyIter _) _ _ _)
  | (with_reducible show CTurn _ _ _ _ _ _ _ _ _ _ _ _ _ _ _)
  | (with_reducible show CEnd _ _ _ _ _ _ _ _)
  | (with_reducible show GEnd _ _ _ _ _ _ _)
  | (with_reducible show ite _ _ _)
  | (with_reducible show wpAny _ _ (call (Value.builtin "list.append") _) _ _ _)
  | (with_reducible show wpAny _ _ (call (Value.builtin "str.join") _) _ _ _)
  | (with_reducible show wpAny _ _ (call (Value.ref _) _) _ _ _)
  | (with_reducible show wpAny _ _ (subscriptTail _ _ (Value.ref _) (Value.int _ _)) _ _ _)
  | (with_reducible show wpAny _ _ (subscriptTail _ (Expr.Slice _ _ _ _) (Value.ref _) (Value.ref _)) _ _ _)
  | (with_reducible show wpAny _ _ (getMethod (Value.ref _) (Str.ofString "pop") _) _ _ _)
  | (with_reducible show wpAny _ _ (compareOp _ (Value.ref _) (Value.ref _)) _ _ _)
  | (with_reducible show wpAny _ _ (binaryOp Operator.Mult (Value.str _ _) _) _ _ _)
  | (with_reducible show wpAny _ _ (binaryOp Operator.Add (Value.ref _) _) _ _ _)
  | (with_reducible show TurnEnd _ _ _ _ _ _ _ _ _)
  | (with_reducible show LeaveK _ _ _ _ _ _ _))
local macro_rules | `(tactic| walk_at "GPost") => `(tactic| (dsimp only [GPost]))
local macro_rules | `(tactic| walk_at "ws") => `(tactic| repeat' (first | (k_unfold; (try dsimp only)) | ((fail_if_success (walk_at "stop")); walk1) | ((fail_if_success (walk_at "stop")); dsimp only; walk1) | (leave1; walk_say "STEP leave1"; try dsimp only)))
theorem kind5_ok {w : World} {mean : ExcName → Option Value} {mg mb : Str → Option Value} (s₁ : Shared) (fa : Addr) (cA : Value) (E : Value → Shared → Prop) (K0 : Below callerA s₁.heap [] s₁.heap) (T : Top hd10.view_39 (looseW hd10.view_39 []) mean mg mb s₁.heap) (KX : (hd10.heap_39 w.params).In s₁.heap)
    {P : Addr} {own all : List (Addr × Obj)} {n : Nat} {l : List PR} {r : PR} {alt : List Nat} {av : Value} {tl tp tq : Tok} {m : Str → Option Value} {h : Heap} {tk i c₁ c₂ : Nat}
    (halt : (alt = [] ∧ av = .none) ∨ (alt = [92] ∧ ∃ t, av = .str (S [92]) t)) (hlet : ∀ c, c = c₁ ∨ c = c₂ → c ≠ 46 ∧ c ∉ 47 :: alt) (H : Hold P (47 :: alt) own all n (l ++ [r]) i) (hi : i ≤ 24)
    (F : Fr s₁.heap s₁.heap.objs.size h m) (N : News s₁.heap s₁.heap.objs.size h all)
    (hm1 : m (Str.ofString "names") = some (.ref P)) (hm2 : m (Str.ofString "path") = some (.str (S (txN (nmsOf (l ++ [r])))) tp)) (hm3 : m (Str.ofString "altsep") = some av) (hm4 : m (Str.ofString "letters") = some (.str (S [c₁, c₂]) tl)) (hm5 : m (Str.ofString "stem") = some (.str (S r.sep) tq)) (hm6 : m (Str.ofString "endings") = some (.ref r.w)) :
    wpAny (model PySem.Challenge.rw_dm0122_10.row.prog w) (callerA.deeper (env10 s₁.heap.objs.size fa cA)) (execs kind5 (env10 s₁.heap.objs.size fa cA))
      (TurnEnd s₁ P own av (.str (S [c₁, c₂]) tl) (47 :: alt) (i + 1)) E { s₁ with heap := h, toks := tk } := by
  revert KX; k_fill; intro KX
  unfold env10
  conv in (kind5) => whnf
  simp only [show scope10 = defScope PySem.Challenge.pw_dm0122_10 5 from rfl]
  conv in (occs := *) (defScope PySem.Challenge.pw_dm0122_10 5) => all_goals whnf
  have F9 := fr_show [(Str.ofString "names", .ref P), (Str.ofString "path", .str (S (txN (nmsOf (l ++ [r])))) tp), (Str.ofString "altsep", av), (Str.ofString "letters", .str (S [c₁, c₂]) tl), (Str.ofString "stem", .str (S r.sep) tq), (Str.ofString "endings", .ref r.w)] F (by simp [hm1, hm2, hm3, hm4, hm5, hm6])
  clear F
  have hln := H.len
  obtain ⟨ok, rows, hrow, hrok, hb, off, top, how, hwP, hPm, hqm, hwm, hlen, hll, hwl, hws⟩ := H.parts
  obtain ⟨⟨tsv, hsv⟩, hvs⟩ := hrok
  have hvl : r.vs.length = r.ws.length := by have := hvs.length; simpa using this
  have hfs := flat_sum r.ws
  have hS1 : (S (txN (nmsOf (l ++ [r])))).length ≤ 124 := by rw [S_len]; omega
  have hS2 : (S r.sep ++ S r.ws.flatten).length ≤ 124 := by rw [S_app, S_len, List.length_append]; omega
  walk_at "ws"
  refine Calls.call_len_list (items := ((l.map fun r => Value.ref r.q) ++ [Value.ref r.q]).toArray) ⟨_, (N _ hPm).1, rfl, _, rfl⟩ ?_ ?_
  · simp; omega
  walk_at "ws"
  split
  · rename_i hgt
    walk_at "ws"
    rw [show Str.ofString "" = S [] from by decide +kernel]
    rename News s₁.heap s₁.heap.objs.size _ _ => N2
    refine join_L N2 hwm hvs (by decide) (by omega) ?_
    intro t3 k3
    dsimp only
    rw [jn_nil]
    walk_at "ws"
    rename Fr s₁.heap s₁.heap.objs.size _ _ => F4
    rename News s₁.heap s₁.heap.objs.size _ _ => N4
    have hne : l ≠ [] := by
      intro e
      rw [e] at hgt
      simp at hgt
    have esl : Txt.slice (S (txN (nmsOf (l ++ [r])))) none (some (((S (txN (nmsOf (l ++ [r])))).length : Int) - ((S r.sep ++ S r.ws.flatten).length : Int))) = S (txN (nmsOf l)) := by
      rw [S_app, S_len, S_len, tx_last, slice_to _ (by simp only [List.length_append]; omega)]
      congr 1
      have e : (((txN (nmsOf l) ++ (r.sep ++ r.ws.flatten)).length : Int) - ((r.sep ++ r.ws.flatten).length : Int)).toNat = (txN (nmsOf l)).length := by simp only [List.length_append]; omega
      rw [e, List.take_left]
    rw [esl] at F4
    refine kl_method N4 hPm PySem.F.slot_list_pop PySem.F.type_list_pop ?_
    dsimp only
    walk_at "ws"
    refine pop_U F4 N4 hPm (by simp; omega) ?_
    intro h13 F13 N13
    dsimp only
    walk_at "ws"
    have Hp := hold_upd (P := P) (seps := 47 :: alt) (own := own) (all := all) (l := l) (i := i + 1) (n := n + 1) ok hne rows (by omega) hPm H.mine hb off top
    exact ⟨rfl, _, _, _, _, n + 1, l, _, rfl, F13, N13, Hp, rfl, rfl, rfl, rfl⟩
  · walk_at "ws"
    rename Fr s₁.heap s₁.heap.objs.size _ _ => F3
    exact ⟨rfl, _, _, _, _, n, l ++ [r], _, rfl, F3, N, H.up, rfl, rfl, rfl, rfl⟩
end Mine
end

section
open PySem PySem.W PyProof.Rows
namespace Mine
local macro_rules | `(tactic| size_fits) => `(tactic| ((simp only [PySem.Str.length_append, S_len, PySem.sizeLine_eq, List.length_append, List.length_replicate, List.length_cons, List.length_nil]); omega))
local macro_rules | `(tactic| walk_at "stop") => `(tactic| first
  | (with_reducible show wpAny _ _ (exec (Stmt.For _ _ _ _ _) _) _ _ _)
  | (with_reducible show wpAny _ _ (exec (Stmt.While _ _ _ _) _) _ _ _)
  | (with_reducible show wpAny _ _ (eval (Expr.ListComp _ _ _ _) _) _ _ _)
  | (with_reducible show wpAny _ _ (eval (Expr.IfExp _ _ _ _) _) _ _ _)
  | (with_reducible show wpAny _ _ (pyIter _) _ _ _)
  | (with_reducible show CTurn _ _ _ _ _ _ _ _ _ _ _ _ _ _ _)
  | (with_reducible show CEnd _ _ _ _ _ _ _ _)
  | (with_reducible show GEnd _ _ _ _ _ _ _)
  | (with_reducible show ite _ _ _)
  | (with_reducible show wpAny _ _ (call (Value.builtin "list.append") _) _ _ _)
  | (with_reducible show wpAny _ _ (call (Value.builtin "str.join") _) _ _ _)
  | (with_reducible show wpAny _ _ (call (Value.ref _) _) _ _ _)
  | (with_reducible show wpAny _ _ (subscriptTail _ _ (Value.ref _) (Value.int _ _)) _ _ _)
  | (with_reducible show wpAny _ _ (subscriptTail _ (Expr.Slice _ _ _ _) (Value.ref _) (Value.ref _)) _ _ _)
  | (with_reducible show wpAny _ _ (getMethod (Value.ref _) (Str.ofString "pop") _) _ _ _)
  | (with_reducible show wpAny _ _ (compareOp _ (Value.ref _) (Value.ref _)) _ _ _)
  | (with_reducible show wpAny _ _ (binaryOp Operator.Mult (Value.str _ _) _) _ _ _)
  | (with_reducible show wpAny _ _ (binaryOp Operator.Add (Value.ref _) _) _ _ _)
  | (with_reducible show TurnEnd _ _ _ _ _ _ _ _ _)
  | (with_reducible show LeaveK _ _ _ _ _ _ _))
local macro_rules | `(tactic| walk_at "GPost") => `(tactic| (dsimp only [GPost]))
local macro_rules | `(tactic| walk_at "ws") => `(tactic| repeat' (first | (k_unfold; (try dsimp only)) | ((fail_if_success (walk_at "stop")); walk1) | ((fail_if_success (walk_at "stop")); dsimp only; walk1) | (leave1; walk_say "STEP leave1"; try dsimp only)))
/-- the edit's first half -/
def Mid1 (s₁ : Shared) (P : Addr) (own all₀ : List (Addr × Obj)) (av lv sv qv kv : Value) (seps : List Nat) (l : List PR) (r : PR) (f : Flow) (s' : Shared) : Prop :=
  f = .next ∧ ∃ h tk m all es vs D nD tp, s' = { s₁ with heap := h, toks := tk } ∧ Fr s₁.heap s₁.heap.objs.size h m ∧ News s₁.heap s₁.heap.objs.size h all ∧ Sub all₀ all ∧ (D, W.listOf vs.toArray nD) ∈ all ∧ StrsAre vs (es.map S) ∧ D ≠ P ∧ (∀ q ∈ own, q.1 ≠ D) ∧
    RowOk seps (r.sep, es) ∧ es.flatten.length ≤ r.ws.flatten.length ∧
    m (Str.ofString "names") = some (.ref P) ∧ m (Str.ofString "path") = some (.str (S (txN (nmsOf l) ++ r.sep ++ es.flatten)) tp) ∧ m (Str.ofString "altsep") = some av ∧ m (Str.ofString "letters") = some lv ∧ m (Str.ofString "stem") = some sv ∧ m (Str.ofString "endings") = some (.ref D) ∧ m (Str.ofString "q") = some qv ∧ m (Str.ofString "kind") = some kv
/-- the edit's second half -/
def Mid2 (s₁ : Shared) (P : Addr) (own all₀ : List (Addr × Obj)) (av lv : Value) (seps : List Nat) (l : List PR) (r : PR) (f : Flow) (s' : Shared) : Prop :=
  f = .next ∧ ∃ h tk m all st es vs D nD tp ts, s' = { s₁ with heap := h, toks := tk } ∧ Fr s₁.heap s₁.heap.objs.size h m ∧ News s₁.heap s₁.heap.objs.size h all ∧ Sub all₀ all ∧ (D, W.listOf vs.toArray nD) ∈ all ∧ StrsAre vs (es.map S) ∧ D ≠ P ∧ (∀ q ∈ own, q.1 ≠ D) ∧
    RowOk seps (st, es) ∧ st.length + es.flatten.length ≤ r.sep.length + r.ws.flatten.length + 5 ∧
    m (Str.ofString "names") = some (.ref P) ∧ m (Str.ofString "path") = some (.str (S (txN (nmsOf l) ++ st ++ es.flatten)) tp) ∧ m (Str.ofString "altsep") = some av ∧ m (Str.ofString "letters") = some lv ∧ m (Str.ofString "stem") = some (.str (S st) ts) ∧ m (Str.ofString "endings") = some (.ref D)
theorem kindE_ok {w : World} {mean : ExcName → Option Value} {mg mb : Str → Option Value} (s₁ : Shared) (fa : Addr) (cA : Value) (E : Value → Shared → Prop) (K0 : Below callerA s₁.heap [] s₁.heap) (T : Top hd10.view_39 (looseW hd10.view_39 []) mean mg mb s₁.heap) (KX : (hd10.heap_39 w.params).In s₁.heap)
    {P : Addr} {own all : List (Addr × Obj)} {n : Nat} {l : List PR} {r : PR} {alt : List Nat} {av : Value} {tl tp tq : Tok} {m : Str → Option Value} {h : Heap} {tk i c₁ c₂ : Nat} {q kd : Int} {tz tw t1 t2 : Tok} {rT : Addr}
    (halt : (alt = [] ∧ av = .none) ∨ (alt = [92] ∧ ∃ t, av = .str (S [92]) t)) (hlet : ∀ c, c = c₁ ∨ c = c₂ → c ≠ 46 ∧ c ∉ 47 :: alt) (H : Hold P (47 :: alt) own all n (l ++ [r]) i) (hi : i ≤ 24) (hrT : (rT, tup2 (dueN (nmsOf l) (r.sep, r.ws)).1 (dueN (nmsOf l) (r.sep, r.ws)).2 t1 t2) ∈ all)
    (F : Fr s₁.heap s₁.heap.objs.size h m) (N : News s₁.heap s₁.heap.objs.size h all)
    (hm1 : m (Str.ofString "names") = some (.ref P)) (hm2 : m (Str.ofString "path") = some (.str (S (txN (nmsOf (l ++ [r])))) tp)) (hm3 : m (Str.ofString "altsep") = some av) (hm4 : m (Str.ofString "letters") = some (.str (S [c₁, c₂]) tl)) (hm5 : m (Str.ofString "stem") = some (.str (S r.sep) tq)) (hm7 : m (Str.ofString "q") = some (.int q tz)) (hm8 : m (Str.ofString "kind") = some (.int kd tw)) (hm9 : m (Str.ofString "told") = some (.ref rT)) (hm6 : m (Str.ofString "endings") = some (.ref r.w)) :
    wpAny (model PySem.Challenge.rw_dm0122_10.row.prog w) (callerA.deeper (env10 s₁.heap.objs.size fa cA)) (execs kindE (env10 s₁.heap.objs.size fa cA))
      (TurnEnd s₁ P own av (.str (S [c₁, c₂]) tl) (47 :: alt) (i + 1)) E { s₁ with heap := h, toks := tk } := by
  revert KX; k_fill; intro KX
  unfold env10
  conv in (kindE) => whnf
  simp only [show scope10 = defScope PySem.Challenge.pw_dm0122_10 5 from rfl]
  conv in (occs := *) (defScope PySem.Challenge.pw_dm0122_10 5) => all_goals whnf
  have F9 := fr_show [(Str.ofString "names", .ref P), (Str.ofString "path", .str (S (txN (nmsOf (l ++ [r])))) tp), (Str.ofString "altsep", av), (Str.ofString "letters", .str (S [c₁, c₂]) tl), (Str.ofString "stem", .str (S r.sep) tq), (Str.ofString "endings", .ref r.w), (Str.ofString "q", .int q tz), (Str.ofString "kind", .int kd tw), (Str.ofString "told", .ref rT)] F (by simp [hm1, hm2, hm3, hm4, hm5, hm6, hm7, hm8, hm9])
  clear F
  have hln := H.len
  obtain ⟨ok, rows, hrow, hrok, hb, off, top, how, hwP, hPm, hqm, hwm, hlen, hll, hwl, hws⟩ := H.parts
  obtain ⟨⟨tsv, hsv⟩, hvs⟩ := hrok
  have hvl : r.vs.length = r.ws.length := by have := hvs.length; simpa using this
  have hfs := flat_sum r.ws
  have hS3 : (S r.sep).length ≤ 200 := by rw [S_len]; omega
  have hdl : r.ws.dropLast.flatten.length ≤ r.ws.flatten.length := by
    by_cases h0 : r.ws = []
    · rw [h0]; simp
    · conv => rhs; rw [← List.dropLast_concat_getLast h0]
      rw [List.flatten_append, List.length_append]; omega
  walk_at "ws"
  refine ite_join (Q' := Mid1 s₁ P own all av (.str (S [c₁, c₂]) tl) (.str (S r.sep) tq) (.int q tz) (.int kd tw) (47 :: alt) l r) ?_ ?_ ?_
  · intro _
    walk_at "ws"
    refine item_tupleT (l := [.str (S (dueN (nmsOf l) (r.sep, r.ws)).1) t1, .str (S (dueN (nmsOf l) (r.sep, r.ws)).2) t2]) (j := 0) ⟨_, (N _ hrT).1, rfl, _, rfl⟩ (by decide) (by decide) rfl rfl ?_
    walk_at "ws"
    rename Fr s₁.heap s₁.heap.objs.size _ _ => F2
    rename News s₁.heap s₁.heap.objs.size _ _ => N2
    k_dflt (refine kms_slice_lit F2 N2 ⟨_, (N2 _ hwm).1, rfl, _, rfl⟩ .none (.int _ _) (zs := r.vs.dropLast) ?sle ?_ ?sls ?slt ?slz)
    case sle => simp [kms_pick, kms_lo, kms_hi, List.dropLast_eq_take]
    case sls => with_unfolding_all rfl
    case slt => kmk_pure
    case slz => (rw [List.size_toArray, PySem.sizeLine_eq]; omega)
    intro D1 h3 F3 N3 hlt3
    dsimp only
    walk_at "ws"
    rename Fr s₁.heap s₁.heap.objs.size _ _ => F4
    rename News s₁.heap s₁.heap.objs.size _ _ => N4
    have hltn : ∀ p ∈ all, @LT.lt Nat _ p.1 D1 := hlt3
    refine ⟨rfl, _, _, _, _, r.ws.dropLast, r.vs.dropLast, D1, 0, _, rfl, F4, N4, fun p hp => .tail _ hp, .head _, ?_, ?_, ?_, row_drop hrow, hdl, rfl, rfl, rfl, rfl, rfl, rfl, rfl, rfl⟩
    · rw [List.map_dropLast]; exact strs_dropLast hvs
    · have := hltn _ hPm; show @Ne Nat D1 P; dsimp only at this; omega
    · intro p hp; have := hltn p (H.mine p hp); show @Ne Nat p.1 D1; omega
  · intro _
    walk_at "ws"
    refine ⟨rfl, _, _, _, _, r.ws, r.vs, r.w, r.nw, tp, rfl, F9, N, fun p hp => hp, hwm, hvs, hwP, how, hrow, Nat.le_refl _, rfl, ?_, rfl, rfl, rfl, rfl, rfl, rfl⟩
    show some (Value.str (S (txN (nmsOf (l ++ [r])))) tp) = _
    rw [tx_last, List.append_assoc]
  rintro f s' ⟨rfl, h2, tk2, m2, all2, es, vs, D, nD, tp2, rfl, F2, N2, hs2, hD2, hvs2, hDP, hDo, hrow2, hel, e1, e2, e3, e4, e5, e6, e7, e8⟩
  have F3 := fr_show [(Str.ofString "names", .ref P), (Str.ofString "path", .str (S (txN (nmsOf l) ++ r.sep ++ es.flatten)) tp2), (Str.ofString "altsep", av), (Str.ofString "letters", .str (S [c₁, c₂]) tl), (Str.ofString "stem", .str (S r.sep) tq), (Str.ofString "endings", .ref D), (Str.ofString "q", .int q tz), (Str.ofString "kind", .int kd tw)] F2 (by simp [e1, e2, e3, e4, e5, e6, e7, e8])
  clear F2 F9
  walk_at "ws"
  refine ite_join (Q' := Mid2 s₁ P own all2 av (.str (S [c₁, c₂]) tl) (47 :: alt) l r) ?_ ?_ ?_
  · intro _
    walk_at "ws"
    k_dflt (refine word10 _ _ _ _ _ _ _ _ _ _ _ _ _ _ _ _ _ _ _ c₁ c₂ _ _ K0 F3 KX N2 T rfl ?hdp ?hun ?_)
    case hdp => ktr_room
    case hun => ktr_units
    intro wd t6 h6 tk6 hw2 hwc F6 N6
    have hwr : Wrd (47 :: alt) wd := ⟨fun h => (hlet 46 (hwc 46 h)).1 rfl, fun c hc => (hlet c (hwc c hc)).2⟩
    dsimp only
    rw [show Str.ofString "." = S [46] from by decide +kernel]
    walk_at "ws"
    rename Fr s₁.heap s₁.heap.objs.size _ _ => F7
    rename News s₁.heap s₁.heap.objs.size _ _ => N7
    have esl : Txt.slice (S r.sep) (some 1) none = S (r.sep.drop 1) := slice_from r.sep (show (0 : Int) ≤ 1 by decide)
    rw [esl, show Str.ofString "" = S [] from by decide +kernel]
    rw [S_app, S_app] at F7
    have hvl2 : vs.length = es.length := by have := hvs2.length; simpa using this
    have hel2 : es.length ≤ es.flatten.length := (row_len hrow2).2
    split
    · rename_i hbb
      have hbare : Bare r.sep := (strip_bare _).mp (beq_iff_eq.mp hbb)
      obtain ⟨hes, hrowb⟩ := row_bare hrow2 hwr hbare
      have hfl : es.flatten = [] := by rw [hes]; rfl
      have ep : txN (nmsOf l) ++ r.sep ++ es.flatten ++ ([46] ++ wd) = txN (nmsOf l) ++ (r.sep ++ 46 :: wd) ++ es.flatten := by rw [hfl]; simp
      rw [ep] at F7
      walk_at "ws"
      rename Fr s₁.heap s₁.heap.objs.size _ _ => F8
      rename News s₁.heap s₁.heap.objs.size _ _ => N8
      rw [S_app] at F8
      refine ⟨rfl, _, _, _, _, r.sep ++ 46 :: wd, es, vs, D, nD, _, _, rfl, F8, N8, fun p hp => hp, hD2, hvs2, hDP, hDo, hrowb, ?_, rfl, rfl, rfl, rfl, rfl, rfl⟩
      rw [hfl]; simp; omega
    · rename_i hbb
      have hbare : ¬ Bare r.sep := fun h => hbb (beq_iff_eq.mpr ((strip_bare _).mpr h))
      have ep : txN (nmsOf l) ++ r.sep ++ es.flatten ++ ([46] ++ wd) = txN (nmsOf l) ++ r.sep ++ (es ++ [46 :: wd]).flatten := by simp
      rw [ep] at F7
      walk_at "ws"
      rename Fr s₁.heap s₁.heap.objs.size _ _ => F8
      rename News s₁.heap s₁.heap.objs.size _ _ => N8
      rename_i yB hyh hyB
      refine add_U F8 N8 (.tail _ hD2) (.head _) (by simp; omega) ?_
      intro R h9 F9 N9 hlt9
      dsimp only
      walk_at "ws"
      rename Fr s₁.heap s₁.heap.objs.size _ _ => F10
      rename News s₁.heap s₁.heap.objs.size _ _ => N10
      have hltn : ∀ p ∈ all2, @LT.lt Nat _ p.1 R := fun p hp => hlt9 p (.tail _ hp)
      refine ⟨rfl, _, _, _, _, r.sep, es ++ [46 :: wd], _, R, 0, _, _, rfl, F10, N10, fun p hp => .tail _ (.tail _ hp), .head _, ?_, ?_, ?_, row_more hrow2 hwr hbare, ?_, rfl, rfl, rfl, rfl, rfl, rfl⟩
      · rw [List.map_append]; exact hvs2.append' (.cons _ _ .nil)
      · have := hltn _ (hs2 _ hPm); show @Ne Nat R P; dsimp only at this; omega
      · intro p hp; have := hltn p (hs2 _ (H.mine p hp)); show @Ne Nat p.1 R; omega
      · simp only [List.flatten_append, List.length_append, List.flatten_cons, List.flatten_nil, List.append_nil, List.length_cons]; omega
  · intro _
    walk_at "ws"
    refine ⟨rfl, _, _, _, _, r.sep, es, vs, D, nD, _, _, rfl, F3, N2, fun p hp => hp, hD2, hvs2, hDP, hDo, hrow2, by omega, rfl, rfl, rfl, rfl, rfl, rfl⟩
  rintro f s' ⟨rfl, h4, tk4, m4, all4, st, es4, vs4, D4, nD4, tp4, ts4, rfl, F4, N4, hs4, hD4, hvs4, hDP4, hDo4, hrow4, hel4, e1, e2, e3, e4, e5, e6⟩
  have F5 := fr_show [(Str.ofString "names", .ref P), (Str.ofString "path", .str (S (txN (nmsOf l) ++ st ++ es4.flatten)) tp4), (Str.ofString "altsep", av), (Str.ofString "letters", .str (S [c₁, c₂]) tl), (Str.ofString "stem", .str (S st) ts4), (Str.ofString "endings", .ref D4)] F4 (by simp [e1, e2, e3, e4, e5, e6])
  clear F3 F4
  have hPm4 := hs4 _ (hs2 _ hPm)
  walk_at "ws"
  rename Fr s₁.heap s₁.heap.objs.size _ _ => F6
  rename News s₁.heap s₁.heap.objs.size _ _ => N6
  rename_i qB hqh hqB
  refine setItem_last F6 N6 (.tail _ hPm4) ?_
  intro h7 F7 N7
  dsimp only
  walk_at "ws"
  have hqn : ∀ p ∈ all4, @LT.lt Nat _ p.1 qB := hqB
  have hsub : Sub all ((qB, W.listOf #[.str (S st) ts4, .ref D4] 0) :: all4) := fun p hp => .tail _ (hs4 _ (hs2 _ hp))
  have Hs := hold_snoc (P := P) (seps := 47 :: alt) (own := own) (l := l) (r := ⟨qB, D4, 0, nD4, .str (S st) ts4, vs4, st, es4⟩) (i := i + 1) (n := n) (all := (qB, W.listOf #[.str (S st) ts4, .ref D4] 0) :: all4) (.tail _ hPm4) (fun p hp => hsub p (H.mine p hp)) (fun p hp => hsub p (hb p hp)) ok rows off top ?_ ⟨⟨_, rfl⟩, hvs4⟩ hrow4 ?_ hDP4 ?_ hDo4 ?_
  · refine ⟨rfl, _, _, _, _, n, l ++ [⟨qB, D4, 0, nD4, .str (S st) ts4, vs4, st, es4⟩], tp4, rfl, F7, N7, Hs, rfl, ?_, rfl, rfl⟩
    rw [tx_last, ← List.append_assoc]; rfl
  · intro p hp
    have : p = (qB, W.listOf #[.str (S st) ts4, .ref D4] 0) ∨ p = (D4, W.listOf vs4.toArray nD4) := by simpa [PR.led] using hp
    rcases this with rfl | rfl
    · exact .head _
    · exact .tail _ hD4
  · have := hqn _ hPm4; show @Ne Nat qB P; dsimp only at this; omega
  · intro q hq
    have := hqn q (hs4 _ (hs2 _ (H.mine q hq)))
    show @Ne Nat q.1 qB; omega
  · show (txN (nmsOf l)).length + st.length + es4.flatten.length ≤ _; omega
end Mine
end

section
open PySem PySem.W PyProof.Rows
namespace Mine
local macro_rules | `(tactic| size_fits) => `(tactic| ((simp only [PySem.Str.length_append, S_len, PySem.sizeLine_eq, List.length_append, List.length_replicate, List.length_cons, List.length_nil]); omega))
local macro_rules | `(tactic| walk_at "stop") => `(tactic| first
  | (with_reducible show wpAny _ _ (exec (Stmt.For _ _ _ _ _) _) _ _ _)
  | (with_reducible show wpAny _ _ (exec (Stmt.While _ _ _ _) _) _ _ _)
  | (with_reducible show wpAny _ _ (eval (Expr.ListComp _ _ _ _) _) _ _ _)
  | (with_reducible show wpAny _ _ (eval (Expr.IfExp _ _ _ _) _) _ _ _)
  | (with_reducible show wpAny _ _ (pyIter _) _ _ _)
  | (with_reducible show CTurn _ _ _ _ _ _ _ _ _ _ _ _ _ _ _)
  | (with_reducible show CEnd _ _ _ _ _ _ _ _)
  | (with_reducible show GEnd _ _ _ _ _ _ _)
  | (with_reducible show ite _ _ _)
  | (with_reducible show wpAny _ _ (call (Value.builtin "list.append") _) _ _ _)
  | (with_reducible show wpAny _ _ (call (Value.builtin "str.join") _) _ _ _)
  | (with_reducible show wpAny _ _ (call (Value.ref _) _) _ _ _)
  | (with_reducible show wpAny _ _ (subscriptTail _ _ (Value.ref _) (Value.int _ _)) _ _ _)
  | (with_reducible show wpAny _ _ (subscriptTail _ (Expr.Slice _ _ _ _) (Value.ref _) (Value.ref _)) _ _ _)
  | (with_reducible show wpAny _ _ (getMethod (Value.ref _) (Str.ofString "pop") _) _ _ _)
  | (with_reducible show wpAny _ _ (compareOp _ (Value.ref _) (Value.ref _)) _ _ _)
  | (with_reducible show wpAny _ _ (binaryOp Operator.Mult (Value.str _ _) _) _ _ _)
  | (with_reducible show wpAny _ _ (binaryOp Operator.Add (Value.ref _) _) _ _ _)
  | (with_reducible show TurnEnd _ _ _ _ _ _ _ _ _)
  | (with_reducible show LeaveK _ _ _ _ _ _ _))
local macro_rules | `(tactic| walk_at "wsi") => `(tactic| repeat' (first | (k_unfold; (try dsimp only)) | ((fail_if_success (walk_at "stopi")); walk1) | ((fail_if_success (walk_at "stopi")); dsimp only; walk1) | (leave1; walk_say "STEP leave1"; try dsimp only)))
local macro_rules | `(tactic| walk_at "stopi") => `(tactic| first
  | (with_reducible show wpAny _ _ (exec (Stmt.For _ _ _ _ _) _) _ _ _)
  | (with_reducible show wpAny _ _ (pyIter _) _ _ _)
  | (with_reducible show ite _ _ _))
local macro_rules | `(tactic| walk_at "GPost") => `(tactic| (dsimp only [GPost]))
local macro_rules | `(tactic| walk_at "ws") => `(tactic| repeat' (first | (k_unfold; (try dsimp only)) | ((fail_if_success (walk_at "stop")); walk1) | ((fail_if_success (walk_at "stop")); dsimp only; walk1) | (leave1; walk_say "STEP leave1"; try dsimp only)))

/-- the law came back True -/
def LawEnd (s₁ : Shared) (f : Flow) (s' : Shared) : Prop := ∃ h' tk' m', f = .ret (.bool true) ∧ s' = { s₁ with heap := h', toks := tk' } ∧ Fr s₁.heap s₁.heap.objs.size h' m'
theorem LawEnd.intro {s₁ : Shared} {h' : Heap} {tk' : Nat} {m' : Str → Option Value} (F : Fr s₁.heap s₁.heap.objs.size h' m') : LawEnd s₁ (.ret (.bool true)) { s₁ with heap := h', toks := tk' } := ⟨h', tk', m', rfl, rfl, F⟩
def AltEnd (s₁ : Shared) (h : Heap) (v : Value) (s' : Shared) : Prop := (∃ alt, AltV v alt ∧ ((alt = [] ∧ v = .none) ∨ (alt = [92] ∧ ∃ t, v = .str (S [92]) t))) ∧ ∃ tk, s' = { s₁ with heap := h, toks := tk }
def LetEnd (s₁ : Shared) (h : Heap) (alt : List Nat) (v : Value) (s' : Shared) : Prop := (∃ c₁ c₂ t, v = .str (S [c₁, c₂]) t ∧ ∀ c, c = c₁ ∨ c = c₂ → c ≠ 46 ∧ c ∉ 47 :: alt) ∧ ∃ tk, s' = { s₁ with heap := h, toks := tk }
/-- what stands between the edits -/
def J10 (P XA : Addr) (oX : Obj) (alt : List Nat) (av lv : Value) (i : Nat) (m : Str → Option Value) (nx : List (Addr × Obj)) : Prop :=
  ∃ n l t, nx = (XA, oX) :: ledP P n l ∧ Hold P (47 :: alt) [(XA, oX)] nx n l i ∧ m (Str.ofString "names") = some (.ref P) ∧ m (Str.ofString "path") = some (.str (S (txN (nmsOf l))) t) ∧ m (Str.ofString "altsep") = some av ∧ m (Str.ofString "letters") = some lv
theorem led_ne {PA I : Addr} {n : Nat} {l : List PR} : (∀ q ∈ ledP PA n l, q.1 ≠ I) ↔ (∀ q ∈ PA :: adrP l, q ≠ I) := by
  constructor
  · intro h q hq
    rw [← ledP_adr PA n l] at hq
    obtain ⟨p, hp, rfl⟩ := List.mem_map.mp hq
    exact h p hp
  · intro h1 q hq
    exact h1 _ (by rw [← ledP_adr PA n l]; exact List.mem_map_of_mem hq)
local macro_rules | `(tactic| walk_at "wx") => `(tactic| repeat' (first | (k_unfold; (try dsimp only)) | ((fail_if_success (with_reducible show LetEnd _ _ _ _ _)); walk1) | ((fail_if_success (with_reducible show LetEnd _ _ _ _ _)); dsimp only; walk1)))
theorem law10 : PySem.Challenge.rw_dm0122_10.Holds := hd10 (by
  k_go0
  rename_i w s₀ s₁ mg mb G Y fa o pm doc kV ho hg KX XX V GL T B TE TW bmA bmO M cA cB hcd ns hs hlay0 hL1 hr1 hl2 as1 as2 la vs as3 hL ra w1 r0 hI hr hc1 hc2 K0 hD h1 F N0
  refine wpAny_mono (Q := LawEnd s₁) ?_ ?_ (fun _ _ e => e)
  case refine_2 =>
    rintro f s' ⟨h', tk', m', rfl, rfl, F'⟩
    wrow_close
  have hlen : ns.length ≤ 63 := by omega
  have K0 : Below callerA s₁.heap [] s₁.heap := K0
  clear G Y XX V GL B TE TW M hcd hs hlay0 hL1 hr1 hl2 ra w1 r0 hr hc1 hc2 hD ho hg
  walk_at "wsi"
  rename Fr s₁.heap s₁.heap.objs.size _ _ => F1
  rename News s₁.heap s₁.heap.objs.size _ _ => N1
  rename_i hp1 tkp1 tp1
  refine ite_join (Q' := AltEnd s₁ hp1) ?_ ?_ ?_
  · intro _
    walk_at "wsi"
    rw [show Str.ofString "\\" = S [92] from by decide +kernel]
    exact ⟨⟨[92], .inr ⟨_, rfl⟩, .inr ⟨rfl, _, rfl⟩⟩, _, rfl⟩
  · intro _
    walk_at "wsi"
    exact ⟨⟨[], .inl ⟨rfl, rfl⟩, .inl ⟨rfl, rfl⟩⟩, _, rfl⟩
  rintro av s' ⟨⟨alt, hav, halt⟩, tk2, rfl⟩
  clear F N0
  walk_at "ws"
  rename Fr s₁.heap s₁.heap.objs.size _ _ => F1
  rename News s₁.heap s₁.heap.objs.size _ _ => N1
  rename_i hp3
  refine wpAny_mono (Q := LetEnd s₁ hp3 alt) ?_ ?_ (fun _ _ e => e)
  · rcases halt with ⟨rfl, rfl⟩ | ⟨rfl, ta, rfl⟩
    · walk_at "wx"
      all_goals first
        | contradiction
        | (rw [show Str.ofString "x\\" = S [120, 92] from by decide +kernel]; exact ⟨⟨120, 92, _, rfl, by rintro c (rfl | rfl) <;> decide⟩, _, rfl⟩)
        | trace_state
    · walk_at "wx"
      all_goals first
        | (rw [show Str.ofString "xy" = S [120, 121] from by decide +kernel]; exact ⟨⟨120, 121, _, rfl, by rintro c (rfl | rfl) <;> decide⟩, _, rfl⟩)
        | (rename (_ == _) = false => hcc; exact absurd hcc (by decide +kernel))
        | trace_state
  rintro lv s' ⟨⟨c₁, c₂, tl, rfl, hlet⟩, tk4, rfl⟩
  walk_at "ws"
  rename Fr s₁.heap s₁.heap.objs.size _ _ => F6
  rename News s₁.heap s₁.heap.objs.size _ _ => N6
  refine For_invVF F6 rfl rfl ?_
  walk_at "ws"
  rename_i wA hAh hwA qA hBh hqA PA hCh hPA hDh hEh
  rw [show Str.ofString "/a.b" = S [47, 97, 46, 98] from by decide +kernel] at F6
  rw [show Str.ofString "/a" = S [47, 97] from by decide +kernel, show Str.ofString ".b" = S [46, 98] from by decide +kernel] at N6
  walk1
  walk_at "ws"
  rename Fr s₁.heap s₁.heap.objs.size _ _ => F7
  rename News s₁.heap s₁.heap.objs.size _ _ => N7
  rename_i XA wsX hXh hIX hCX hLX hltX
  have hone : OneAlt alt := by
    rcases halt with ⟨rfl, _⟩ | ⟨rfl, _⟩
    · exact .inl rfl
    · exact .inr ⟨_, rfl⟩
  have h46 : 46 ∉ 47 :: alt := by rcases halt with ⟨rfl, _⟩ | ⟨rfl, _⟩ <;> decide
  have hal : alt.length ≤ 1 := by rcases halt with ⟨rfl, _⟩ | ⟨rfl, _⟩ <;> decide
  have hw97 : Wrd (47 :: alt) [97] := by rcases halt with ⟨rfl, _⟩ | ⟨rfl, _⟩ <;> exact ⟨by decide, by decide⟩
  have hw98 : Wrd (47 :: alt) [98] := by rcases halt with ⟨rfl, _⟩ | ⟨rfl, _⟩ <;> exact ⟨by decide, by decide⟩
  have hwX : wsX.length ≤ 24 := by rw [hIX.length]; omega
  obtain ⟨ta, tb, N7'⟩ : ∃ ta tb, News s₁.heap s₁.heap.objs.size hXh ((XA, W.listOf wsX.toArray 0) :: ledP PA 0 [⟨qA, wA, 0, 0, .str (S [47, 97]) ta, [.str (S [46, 98]) tb], [47, 97], [[46, 98]]⟩]) := ⟨_, _, N7⟩
  clear N7
  rename News s₁.heap s₁.heap.objs.size _ _ => N7
  refine forList (J10 PA XA (W.listOf wsX.toArray 0) alt av (.str (S [c₁, c₂]) tl)) rfl F7 N7 (.head _) ((XA, W.listOf wsX.toArray 0) :: ledP PA 0 [⟨qA, wA, 0, 0, .str (S [47, 97]) ta, [.str (S [46, 98]) tb], [47, 97], [[46, 98]]⟩]) ?_ ?_ ?_ ?_
  · exact fun p hp => hp
  · have e1 : @LT.lt Nat _ wA qA := hqA
    have e2 : @LT.lt Nat _ qA PA := hPA.1
    have e3 : @LT.lt Nat _ PA XA := hltX.1
    refine ⟨0, _, _, rfl, ⟨?_, by simp, ?_, by simp [txN, nmsOf], ?_, ?_, ?_, ?_⟩, rfl, rfl, rfl, rfl⟩
    · intro r hr
      rw [List.mem_singleton.mp hr]
      exact ⟨⟨_, rfl⟩, .cons _ _ .nil⟩
    · intro p hp
      rw [show p = ([47, 97], [[46, 98]]) by simpa [nmsOf] using hp]
      exact ⟨⟨47, [], [97], rfl, by simp, by simp, hw97, by simp⟩, fun e he => ⟨[98], by simpa using he, hw98⟩⟩
    · intro p hp; rw [List.mem_singleton.mp hp]; exact .head _
    · exact fun p hp => .tail _ hp
    · intro q hq p hp
      rw [List.mem_singleton.mp hq]
      have hp' : p = PA ∨ p = qA ∨ p = wA := by simpa [adrP] using hp
      show @Ne Nat XA p
      rcases hp' with rfl | rfl | rfl <;> omega
    · intro hp
      have hp' : PA = qA ∨ PA = wA := by simpa [adrP] using hp
      have hp' : @Eq Nat PA qA ∨ @Eq Nat PA wA := hp'
      omega
  · rintro i v m₁ nx h tk own₀ I hv ⟨n, l0, tp, rfl, H0, hm1, hm2, hm3, hm4⟩ ⟨oI, hIo⟩ hof hnI F8 N8
    obtain ⟨xv, tx, rfl⟩ : ∃ xv tx, v = .int xv tx := by
      have hlt : i < (List.take 24 ns).length := by rw [← hIX.length]; exact (List.getElem?_eq_some_iff.mp hv).1
      obtain ⟨tx, hx⟩ := hIX.get i _ (List.getElem?_eq_getElem hlt)
      rw [hv] at hx
      exact ⟨_, tx, Option.some.inj hx⟩
    have hi : i ≤ 24 := by have := (List.getElem?_eq_some_iff.mp hv).1; omega
    have F9 := fr_turn [(Str.ofString "names", .ref PA), (Str.ofString "path", .str (S (txN (nmsOf l0))) tp), (Str.ofString "altsep", av), (Str.ofString "letters", .str (S [c₁, c₂]) tl)] F8 (by simp [hm1, hm2, hm3, hm4])
    obtain ⟨all, hall⟩ : ∃ all, all = own₀ ++ (XA, W.listOf wsX.toArray 0) :: ledP PA n l0 := ⟨_, rfl⟩
    rw [← hall] at N8
    obtain ⟨own, hown⟩ : ∃ own, own = (XA, W.listOf wsX.toArray 0) :: own₀ := ⟨_, rfl⟩
    have H : Hold PA (47 :: alt) own all n l0 i := by
      refine ⟨H0.ok, H0.ne, H0.rows, H0.len, ?_, ?_, ?_, H0.top⟩
      · intro p hp
        rw [hown] at hp; rw [hall]
        rcases List.mem_cons.mp hp with rfl | hp
        · exact List.mem_append_right _ (.head _)
        · exact List.mem_append_left _ hp
      · intro p hp; rw [hall]; exact List.mem_append_right _ (.tail _ hp)
      · intro q hq p hp
        have hX := H0.off _ (.head _) p hp
        rw [hown] at hq
        rcases List.mem_cons.mp hq with rfl | hq
        · exact hX
        · intro e
          rcases hof q hq with h | h
          · exact (led_ne (n := n)).mp (fun q hq => hnI q (.tail _ hq)) p hp (e ▸ h)
          · exact hX (h ▸ e)
    have hIown : (I, oI) ∈ own := by rw [hown]; exact .tail _ hIo
    have hXown : (XA, W.listOf wsX.toArray 0) ∈ own := by rw [hown]; exact .head _
    obtain ⟨l, r, rfl⟩ : ∃ l r, l0 = l ++ [r] := by
      rcases List.eq_nil_or_concat l0 with h | ⟨a, b, h⟩
      · exact absurd h H.ne
      · exact ⟨a, b, by rw [h, List.concat_eq_append]⟩
    obtain ⟨ok, rows, hrow, hrok, hb, off, top, how, hwP, hPm, hqm, hwm, hlen', hll, hwl, hws⟩ := H.parts
    obtain ⟨⟨tsv, hsv⟩, hvs⟩ := hrok
    have hln := H.len
    have hspl : spl (txN (nmsOf (l ++ [r]))) [47] alt [46] = dueN (nmsOf l) (r.sep, r.ws) := by rw [nms_last]; exact spl_names hone h46 hrow
    clear F8 F7 N7
    walk_at "ws"
    rw [show Str.ofString "/" = S [47] from by decide +kernel, show Str.ofString "." = S [46] from by decide +kernel]
    k_dflt (refine splitext_str _ _ _ _ _ _ _ _ _ _ _ _ _ _ _ _ _ _ (txN (nmsOf (l ++ [r]))) [47] [46] alt av _ _ _ hav (by omega) (by omega) K0 F9 KX N8 T rfl ?hdp ?hun ?_)
    case hdp => ktr_room
    case hun => ktr_units
    rw [hspl]
    intro rT t1 t2 h10 tk10 F10 N10 hlt10
    dsimp only
    walk_at "ws"
    rename Fr s₁.heap s₁.heap.objs.size _ _ => F11
    rename News s₁.heap s₁.heap.objs.size _ _ => N11
    k_dflt (refine due10 _ _ _ _ _ _ _ _ _ _ _ _ _ _ _ _ _ _ PA n l r (fun p hp => .tail _ (H.led p hp)) H.ok (by omega) (fun r' hr' => by have := hws r' hr'; omega) K0 F11 KX N11 T rfl ?hdp ?hun ?_)
    case hdp => ktr_room
    case hun => ktr_units
    intro rD t3 t4 h12 tk12 F12 N12 hlt12
    dsimp only
    walk_at "ws"
    refine ne_tup2 N12 (.tail _ (.head _)) (.head _) ?_ ?_
    · have := cLine_is
      simp only [units_in1, units_deeper, Around.mark_units, units_caller]; omega
    rw [decide_eq_true (show (dueN (nmsOf l) (r.sep, r.ws)).1 = (dueN (nmsOf l) (r.sep, r.ws)).1 ∧ (dueN (nmsOf l) (r.sep, r.ws)).2 = (dueN (nmsOf l) (r.sep, r.ws)).2 from ⟨rfl, rfl⟩)]
    walk_at "ws"
    rw [if_neg (by decide)]
    obtain ⟨all2, hall2⟩ : ∃ all2, all2 = (rD, tup2 (dueN (nmsOf l) (r.sep, r.ws)).1 (dueN (nmsOf l) (r.sep, r.ws)).2 t3 t4) :: (rT, tup2 (dueN (nmsOf l) (r.sep, r.ws)).1 (dueN (nmsOf l) (r.sep, r.ws)).2 t1 t2) :: all := ⟨_, rfl⟩
    have N13 : News s₁.heap s₁.heap.objs.size h12 all2 := by rw [hall2]; exact N12
    have hs2 : Sub all all2 := fun p hp => by rw [hall2]; exact .tail _ (.tail _ hp)
    have hrT : (rT, tup2 (dueN (nmsOf l) (r.sep, r.ws)).1 (dueN (nmsOf l) (r.sep, r.ws)).2 t1 t2) ∈ all2 := by rw [hall2]; exact .tail _ (.head _)
    have H2 : Hold PA (47 :: alt) own all2 n (l ++ [r]) i := ⟨H.ok, H.ne, H.rows, H.len, fun p hp => hs2 p (H.mine p hp), fun p hp => hs2 p (H.led p hp), H.off, H.top⟩
    have hPm2 := hs2 _ hPm
    have hqm2 := hs2 _ hqm
    clear N12
    try clear N11
    try clear N10
    walk_at "ws"
    refine item_last N13 hPm2 ?_
    walk_at "ws"
    rename Fr s₁.heap s₁.heap.objs.size _ _ => F14
    rename News s₁.heap s₁.heap.objs.size _ _ => N14
    rw [hsv] at F14
    refine ite_join (Q' := TurnEnd s₁ PA own av (.str (S [c₁, c₂]) tl) (47 :: alt) (i + 1)) ?_ ?_ ?_
    · intro _
      exact kind0_ok s₁ fa _ _ K0 T KX halt hlet H2 hi F14 N14 rfl rfl rfl rfl rfl
    · intro _
      walk_at "ws"
      refine ite_join (Q' := TurnEnd s₁ PA own av (.str (S [c₁, c₂]) tl) (47 :: alt) (i + 1)) ?_ ?_ ?_
      · intro _
        exact kind5_ok s₁ fa _ _ K0 T KX halt hlet H2 hi F14 N14 rfl rfl rfl rfl rfl rfl
      · intro _
        exact kindE_ok s₁ fa _ _ K0 T KX halt hlet H2 hi hrT F14 N14 rfl rfl rfl rfl rfl rfl rfl rfl rfl
      · rintro f s' ⟨rfl, hrest⟩
        walk_at "ws"
        exact ⟨rfl, hrest⟩
    · rintro f s' ⟨rfl, h15, tk15, m15, all5, n5, l5, tp5, rfl, F15, N15, H5, e1, e2, e3, e4⟩
      walk_at "ws"
      have hX5 := H5.mine _ hXown
      have hso : Sub own₀ all5 := fun p hp => H5.mine p (by rw [hown]; exact .tail _ hp)
      have hs5 : Sub ((XA, W.listOf wsX.toArray 0) :: ledP PA n5 l5) all5 := fun p hp => by
        rcases List.mem_cons.mp hp with rfl | hp
        · exact hX5
        · exact H5.led p hp
      refine GEnd.intro ((XA, W.listOf wsX.toArray 0) :: ledP PA n5 l5) F15 N15 hso hs5 ?_ ⟨n5, l5, tp5, rfl, ⟨H5.ok, H5.ne, H5.rows, H5.len, ?_, fun p hp => .tail _ hp, ?_, H5.top⟩, e1, e2, e3, e4⟩
      · intro p hp
        rcases List.mem_cons.mp hp with rfl | hp
        · exact hnI _ (.head _)
        · exact led_ne.mpr (fun q hq => (H5.off _ hIown q hq).symm) p hp
      · intro p hp; rw [List.mem_singleton.mp hp]; exact .head _
      · intro q hq p hp; rw [List.mem_singleton.mp hq]; exact H5.off _ hXown p hp
  · rintro m₁ nx h tk ⟨n, l0, tp, rfl, H0, hm1, hm2, hm3, hm4⟩ F8 N8
    obtain ⟨l, r, rfl⟩ : ∃ l r, l0 = l ++ [r] := by
      rcases List.eq_nil_or_concat l0 with h | ⟨a, b, h⟩
      · exact absurd h H0.ne
      · exact ⟨a, b, by rw [h, List.concat_eq_append]⟩
    obtain ⟨ok, rows, hrow, hrok, hb, off, top, how, hwP, hPm, hqm, hwm, hlen', hll, hwl, hws⟩ := H0.parts
    have hln := H0.len
    have hspl : spl (txN (nmsOf (l ++ [r]))) [47] alt [46] = dueN (nmsOf l) (r.sep, r.ws) := by rw [nms_last]; exact spl_names hone h46 hrow
    have F9 := fr_show [(Str.ofString "names", .ref PA), (Str.ofString "path", .str (S (txN (nmsOf (l ++ [r])))) tp), (Str.ofString "altsep", av), (Str.ofString "letters", .str (S [c₁, c₂]) tl)] F8 (by simp [hm1, hm2, hm3, hm4])
    clear F8 F7 N7
    dsimp only
    walk_at "ws"
    rw [show Str.ofString "/" = S [47] from by decide +kernel, show Str.ofString "." = S [46] from by decide +kernel]
    k_dflt (refine splitext_str _ _ _ _ _ _ _ _ _ _ _ _ _ _ _ _ _ _ (txN (nmsOf (l ++ [r]))) [47] [46] alt av _ _ _ hav (by omega) (by omega) K0 F9 KX N8 T rfl ?hdp ?hun ?_)
    case hdp => ktr_room
    case hun => ktr_units
    rw [hspl]
    intro rT t1 t2 h10 tk10 F10 N10 hlt10
    dsimp only
    walk_at "ws"
    k_dflt (refine due10 _ _ _ _ _ _ _ _ _ _ _ _ _ _ _ _ _ _ PA n l r (fun p hp => .tail _ (.tail _ hp)) H0.ok (by omega) (fun r' hr' => by have := hws r' hr'; omega) K0 F10 KX N10 T rfl ?hdp ?hun ?_)
    case hdp => ktr_room
    case hun => ktr_units
    intro rD t3 t4 h12 tk12 F12 N12 hlt12
    dsimp only
    walk_at "ws"
    refine eq_tup2 N12 (.tail _ (.head _)) (.head _) ?_ ?_
    · have := cLine_is
      simp only [units_in1, units_deeper, Around.mark_units, units_caller]; omega
    rw [decide_eq_true (show (dueN (nmsOf l) (r.sep, r.ws)).1 = (dueN (nmsOf l) (r.sep, r.ws)).1 ∧ (dueN (nmsOf l) (r.sep, r.ws)).2 = (dueN (nmsOf l) (r.sep, r.ws)).2 from ⟨rfl, rfl⟩)]
    walk_at "ws"
    exact LawEnd.intro F12)
end Mine
end

theorem PySem.Challenge.cw_dm0122_10_holds : PySem.Challenge.rw_dm0122_10.Holds := by
  exact Mine.law10
