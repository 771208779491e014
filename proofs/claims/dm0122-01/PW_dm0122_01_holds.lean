import PyProof.Rows.All
import Wide.All
import OpenK.AllK
import Wide.FinOn
import PySem.Challenge.RW_dm0122_01

set_option Elab.async false
set_option maxRecDepth 100000
set_option maxHeartbeats 4000000
set_option rowWalk.seconds 0
set_option linter.unusedVariables false

section
open PySem PySem.W PyProof.Rows
namespace Mine

/-- a text by its signs' numbers -/
def S (l : List Nat) : Str := ⟨l.toArray⟩
theorem S_inj {a b : List Nat} : S a = S b ↔ a = b := by
  constructor
  · intro h
    have h1 : (S a).cps = (S b).cps := by rw [h]
    have h2 : (S a).cps.toList = (S b).cps.toList := by rw [h1]
    simpa [S] using h2
  · rintro rfl; rfl
theorem S_eta (x : Str) : S x.cps.toList = x := by
  cases x; rfl
theorem S_len (l : List Nat) : (S l).length = l.length := by
  simp [S, Str.length]
theorem S_cps (l : List Nat) : (S l).cps.toList = l := by simp [S]
theorem S_app (a b : List Nat) : S a ++ S b = S (a ++ b) := by
  show Str.mk (a.toArray ++ b.toArray) = Str.mk (a ++ b).toArray
  simp

/-- y stands in p at i -/
def At (p y : List Nat) (i : Nat) : Prop := i + y.length ≤ p.length ∧ (p.drop i).take y.length = y
/-- the last place of y in p, or -1 -/
def rf (p y : List Nat) : Int := Txt.rfind (S p) (S y)
theorem at_iff (p y : List Nat) (i : Nat) : StrLaws.At (S p) (S y) (S p).length i ↔ At p y i := by
  unfold StrLaws.At At
  rw [StrLaws.subAt_eq, S_cps, S_cps, S_len, S_len, beq_iff_eq]
theorem rf_spec (p y : List Nat) : (rf p y = -1 ∧ ∀ i, ¬ At p y i) ∨ ∃ i : Nat, rf p y = (i : Int) ∧ At p y i ∧ ∀ k, i < k → ¬ At p y k := by
  have h := rfind_whole (S p) (S y)
  simp only [at_iff] at h
  exact h
theorem rf_ge (p y : List Nat) : -1 ≤ rf p y := by
  rcases rf_spec p y with ⟨h, _⟩ | ⟨i, h, _⟩ <;> omega
theorem rf_le (p y : List Nat) : rf p y + y.length ≤ p.length ∨ rf p y = -1 := by
  rcases rf_spec p y with ⟨h, _⟩ | ⟨i, h, h1, _⟩
  · exact .inr h
  · have := h1.1; omega

theorem rangeGet (l : List Nat) (a : Nat) : ∀ n, a + n ≤ l.length → (List.map (fun k : Nat => ((a : Int) + 1 * (k : Int)).toNat) (List.range n)).filterMap (fun i => l.toArray[i]?) = (l.drop a).take n := by
  intro n
  induction n with
  | zero => intro _; simp
  | succ n ih =>
    intro h
    rw [List.range_succ, List.map_append, List.filterMap_append, ih (by omega), List.take_add_one]
    congr 1
    have e : ((a : Int) + 1 * (n : Int)).toNat = a + n := by omega
    simp only [List.map_cons, List.map_nil, e]
    have h2 : a + n < l.length := by omega
    simp [h2]
theorem sliceGet (l : List Nat) (a b : Nat) (hb : b ≤ l.length) : ((sliceRange (a : Int) (b : Int) 1).filterMap (fun i => l.toArray[i]?)) = (l.take b).drop a := by
  unfold sliceRange
  dsimp only
  rw [if_pos (by decide)]
  by_cases h : (a : Int) < (b : Int)
  · rw [if_pos h]
    have e : (((b : Int) - (a : Int) + 1 - 1) / 1).toNat = b - a := by omega
    rw [e, rangeGet l a (b - a) (by omega), List.take_drop]
    congr 2
    omega
  · rw [if_neg h]
    have : (l.take b).drop a = [] := List.drop_eq_nil_of_le (by rw [List.length_take]; omega)
    rw [this]; simp
theorem sliceLen (a b : Nat) : (sliceRange (a : Int) (b : Int) 1).length = b - a := by
  unfold sliceRange
  dsimp only
  rw [if_pos (by decide), List.length_map, List.length_range]
  by_cases h : (a : Int) < (b : Int)
  · rw [if_pos h]; omega
  · rw [if_neg h]; omega
theorem slice_gen (l : List Nat) (lo hi : Option Int) (a b : Nat) (hb : b ≤ l.length) (e : Builtin.Str.strSliceIndices lo hi 1 l.length = sliceRange (a : Int) (b : Int) 1) : Txt.slice (S l) lo hi = S ((l.take b).drop a) := by
  unfold Txt.slice
  rw [S_len, e]
  split
  · rename_i h
    rw [sliceLen] at h
    have h' : b - a = l.length := by simpa using h
    have hb' : b = l.length := by omega
    by_cases ha : a = 0
    · subst ha; rw [hb']; simp
    · have : l.length = 0 := by omega
      have : l = [] := List.length_eq_zero_iff.mp this
      subst this; simp
  · show Str.mk ((List.filterMap (fun i => l.toArray[i]?) (sliceRange (a : Int) (b : Int) 1)).toArray) = _
    rw [sliceGet l a b hb]; rfl
theorem take_min {α : Type} (l : List α) (n : Nat) : l.take (min n l.length) = l.take n := by
  by_cases h : n ≤ l.length
  · rw [Nat.min_eq_left h]
  · rw [Nat.min_eq_right (by omega), List.take_length, List.take_of_length_le (by omega)]
theorem slice_to (l : List Nat) {d : Int} (h : 0 ≤ d) : Txt.slice (S l) none (some d) = S (l.take d.toNat) := by
  rw [slice_gen l none (some d) 0 (min d.toNat l.length) (Nat.min_le_right _ _)]
  · rw [List.drop_zero, take_min]
  · unfold Builtin.Str.strSliceIndices
    dsimp only
    rw [if_pos (show (1 : Int) > 0 by decide), if_pos (show (1 : Int) > 0 by decide), if_neg (by omega)]
    congr 1; omega
theorem slice_from (l : List Nat) {d : Int} (h : 0 ≤ d) : Txt.slice (S l) (some d) none = S (l.drop d.toNat) := by
  rw [slice_gen l (some d) none (min d.toNat l.length) l.length (Nat.le_refl _)]
  · congr 1
    rw [List.take_length]
    by_cases hd : d.toNat ≤ l.length
    · rw [Nat.min_eq_left hd]
    · rw [Nat.min_eq_right (by omega), List.drop_length, List.drop_eq_nil_of_le (by omega)]
  · unfold Builtin.Str.strSliceIndices
    dsimp only
    rw [if_pos (show (1 : Int) > 0 by decide), if_pos (show (1 : Int) > 0 by decide), if_neg (by omega)]
    congr 1; omega
theorem slice_mid (l : List Nat) {a b : Int} (h : 0 ≤ a) (h' : 0 ≤ b) : Txt.slice (S l) (some a) (some b) = S ((l.take b.toNat).drop a.toNat) := by
  rw [slice_gen l (some a) (some b) (min a.toNat l.length) (min b.toNat l.length) (Nat.min_le_right _ _)]
  · congr 1
    rw [take_min]
    by_cases hd : a.toNat ≤ l.length
    · rw [Nat.min_eq_left hd]
    · rw [Nat.min_eq_right (by omega), List.drop_eq_nil_of_le (by rw [List.length_take]; omega), List.drop_eq_nil_of_le (by rw [List.length_take]; omega)]
  · unfold Builtin.Str.strSliceIndices
    dsimp only
    rw [if_pos (show (1 : Int) > 0 by decide), if_pos (show (1 : Int) > 0 by decide), if_neg (by omega), if_neg (by omega)]
    congr 1 <;> omega
theorem fm_map {α β : Type} (f : α → Option β) (g : α → β) : ∀ l : List α, (∀ x ∈ l, f x = some (g x)) → l.filterMap f = l.map g
  | [], _ => rfl
  | a :: l, h => by
    rw [List.filterMap_cons, h a (.head _), List.map_cons, fm_map f g l fun x hx => h x (.tail _ hx)]
theorem rev_get (l : List Nat) : ∀ n, n ≤ l.length → ((List.range n).map (fun k : Nat => (((n : Int) - 1) + -1 * (k : Int)).toNat)).filterMap (fun i => l.toArray[i]?) = (l.take n).reverse := by
  intro n hn
  apply List.ext_getElem?
  intro i
  have h1 : ((List.range n).map (fun k : Nat => (((n : Int) - 1) + -1 * (k : Int)).toNat)).filterMap (fun i => l.toArray[i]?) = (List.range n).map (fun k : Nat => l.getD (n - 1 - k) 0) := by
    rw [List.filterMap_map]
    apply fm_map
    intro k hk
    have hk : k < n := List.mem_range.mp hk
    have e : (((n : Int) - 1) + -1 * (k : Int)).toNat = n - 1 - k := by omega
    simp only [Function.comp, e]
    have h2 : n - 1 - k < l.length := by omega
    simp [h2]
  rw [h1]
  by_cases hi : i < n
  · rw [List.getElem?_map, List.getElem?_range hi, List.getElem?_reverse (by rw [List.length_take]; omega)]
    have h2 : n - 1 - i < l.length := by omega
    have h3 : min n l.length - 1 - i = n - 1 - i := by omega
    rw [List.length_take, h3, List.getElem?_take_of_lt (by omega)]
    simp [h2]
  · rw [List.getElem?_eq_none (by simp; omega), List.getElem?_eq_none (by simp; omega)]
theorem sliceBy_rev (l : List Nat) (t : Tok) : Txt.sliceBy (S l) none none (-1, t) = S l.reverse := by
  unfold Txt.sliceBy
  rw [if_neg (by simp)]
  show Str.mk ((Builtin.Str.strSliceIndices none none (-1) (S l).length).filterMap (fun i => l.toArray[i]?)).toArray = _
  rw [S_len]
  have e : Builtin.Str.strSliceIndices none none (-1) l.length = (List.range l.length).map (fun k : Nat => (((l.length : Int) - 1) + -1 * (k : Int)).toNat) := by
    unfold Builtin.Str.strSliceIndices sliceRange
    dsimp only
    simp only [show ¬ ((-1 : Int) > 0) by decide, if_false]
    congr 2
    by_cases h : ((l.length : Int) - 1) > -1
    · rw [if_pos h, show (- -1 : Int) = 1 from rfl]; omega
    · rw [if_neg h]; omega
  rw [e, rev_get l l.length (Nat.le_refl _), List.take_length]
  rfl
end Mine
end

section
open PySem PySem.W PyProof.Rows
namespace Mine
/-- altsep: None or a text -/
def AltV (v : Value) (alt : List Nat) : Prop := (v = .none ∧ alt = []) ∨ ∃ t, v = .str (S alt) t

section
variable {prog : Program} {w : World} {M : Model} {A : Around} {E : Value → Shared → Prop} {s : Shared}
theorem truthy_alt {Q : Bool → Shared → Prop} {v : Value} {alt : List Nat} (h : AltV v alt) (hl : alt.length ≤ 1000000) (hq : ∀ k, Q (decide (alt ≠ [])) { s with toks := k }) : wpAny (model prog w) A (truthy v) Q E s := by
  rcases h with ⟨rfl, rfl⟩ | ⟨t, rfl⟩
  · exact wpAny_pure (hq s.toks)
  · refine KXt.truthy (b := decide (alt ≠ [])) ?_ (by rw [S_len]; omega) hq
    rw [S_len]
    cases alt <;> simp
    omega
theorem ite_join {α : Type} {c : Prop} [Decidable c] {t1 t2 : Sem α} {Q Q' : α → Shared → Prop} (h1 : c → wpAny M A t1 Q' E s) (h2 : ¬ c → wpAny M A t2 Q' E s) (h : ∀ f s', Q' f s' → Q f s') :
    if c then wpAny M A t1 Q E s else wpAny M A t2 Q E s := by
  split
  · exact wpAny_mono (h1 ‹_›) h fun _ _ e => e
  · exact wpAny_mono (h2 ‹_›) h fun _ _ e => e
end
/-- what a stretch of code leaves behind: the frame's names ps, the ledger -/
def Left (h₀ : Heap) (L : Addr) (s : Shared) (news : List (Addr × Obj)) (R : (Str → Option Value) → Prop) (s' : Shared) : Prop :=
  ∃ h tk m, s' = { s with heap := h, toks := tk } ∧ Fr h₀ L h m ∧ News h₀ L h news ∧ R m
theorem fr_show {h₀ h : Heap} {L : Addr} {m : Str → Option Value} (ps : List (Str × Value)) (F : Fr h₀ L h m) (hps : ∀ p ∈ ps, m p.1 = some p.2) : Fr h₀ L h (kstB m ps) := by
  have e : kstB m ps = m := funext fun z => kstB_eq hps fun _ => rfl
  rw [e]; exact F
theorem Left.intro {h₀ : Heap} {L : Addr} {s : Shared} {news : List (Addr × Obj)} {R : (Str → Option Value) → Prop} {h : Heap} {tk : Nat} {m : Str → Option Value} (F : Fr h₀ L h m) (N : News h₀ L h news) (r : R m) : Left h₀ L s news R { s with heap := h, toks := tk } := ⟨h, tk, m, rfl, F, N, r⟩
end Mine
end

section
open PySem PySem.W PyProof.Rows PySem.Calls
namespace Mine
/-- a part of a ledger -/
abbrev Sub (a b : List (Addr × Obj)) : Prop := ∀ p ∈ a, p ∈ b
theorem news_sub {h₀ h : Heap} {L : Addr} {a b : List (Addr × Obj)} (N : News h₀ L h b) (hs : Sub a b) : News h₀ L h a := fun p hp => N p (hs p hp)
/-- the ledger with the object at d changed -/
def upd (d : Addr) (o : Obj) (l : List (Addr × Obj)) : List (Addr × Obj) := l.map fun p => if p.1 = d then (d, o) else p
theorem upd_ok {h₀ h h' : Heap} {L d : Addr} {m : Str → Option Value} {all : List (Addr × Obj)} {o o' : Obj} (F : Fr h₀ L h m) (N : News h₀ L h all) (hm : (d, o) ∈ all) (hs : Heap.SameBut d h h') (hd : h'.get? d = some o') :
    Fr h₀ L h' m ∧ News h₀ L h' (upd d o' all) := ⟨F.change hs (N _ hm).2.1 (N _ hm).2.2, N.update hm hs hd⟩
theorem mem_upd_self {d : Addr} {o o' : Obj} {all : List (Addr × Obj)} (hm : (d, o) ∈ all) : (d, o') ∈ upd d o' all :=
  List.mem_map.mpr ⟨(d, o), hm, by simp⟩
theorem mem_upd_ne {d : Addr} {o' : Obj} {p : Addr × Obj} {all : List (Addr × Obj)} (hm : p ∈ all) (hne : p.1 ≠ d) : p ∈ upd d o' all :=
  List.mem_map.mpr ⟨p, hm, by simp [hne]⟩
theorem sub_upd {d : Addr} {o o' : Obj} {all led led' : List (Addr × Obj)} (hm : (d, o) ∈ all) (hs : Sub led all) (h : ∀ p ∈ led', p = (d, o') ∨ (p ∈ led ∧ p.1 ≠ d)) : Sub led' (upd d o' all) := by
  intro p hp
  rcases h p hp with rfl | ⟨h1, h2⟩
  · exact mem_upd_self hm
  · exact mem_upd_ne (hs p h1) h2

section texts
/-- a joined text -/
def jn (sep : List Nat) : List (List Nat) → List Nat
  | [] => []
  | [x] => x
  | x :: y :: r => x ++ sep ++ jn sep (y :: r)
theorem join_S (sep : List Nat) : ∀ ws : List (List Nat), Txt.join (S sep) (ws.map S) = S (jn sep ws) := by
  have h : ∀ ws : List (List Nat), Str.join (S sep) (ws.map S) = S (jn sep ws) := by
    intro ws
    induction ws with
    | nil => rfl
    | cons x r ih =>
      cases r with
      | nil => rfl
      | cons y r =>
        show S x ++ S sep ++ Str.join (S sep) ((y :: r).map S) = S (x ++ sep ++ jn sep (y :: r))
        rw [ih, S_app, S_app]
  intro ws
  rw [← h]
  exact StrLaws.glued_eq_join _ _

theorem jn_sum (sep : List Nat) : ∀ ws : List (List Nat), (ws.map List.length).sum ≤ (jn sep ws).length
  | [] => by simp [jn]
  | [x] => by simp [jn]
  | x :: y :: r => by
    have := jn_sum sep (y :: r)
    simp only [List.map_cons, List.sum_cons, jn, List.length_append] at *
    omega
theorem jn_count (c : Nat) : ∀ ws : List (List Nat), ws.length ≤ (jn [c] ws).length + 1
  | [] => by simp [jn]
  | [x] => by simp [jn]
  | x :: y :: r => by
    have := jn_count c (y :: r)
    simp only [jn, List.length_append, List.length_cons, List.length_nil] at *
    omega
theorem jn_nil : ∀ ws : List (List Nat), jn [] ws = ws.flatten
  | [] => rfl
  | [x] => by simp [jn]
  | x :: y :: r => by
    rw [jn, jn_nil (y :: r)]; simp
theorem lensS (ws : List (List Nat)) : ((ws.map S).map Str.length) = ws.map List.length := by
  rw [List.map_map]
  exact List.map_congr_left fun w _ => S_len w
theorem join_L {prog : Program} {w : World} {A : Around} {E : Value → Shared → Prop} {s : Shared} {h₀ : Heap} {L D : Addr} {all : List (Addr × Obj)} {vs : List Value} {ws : List (List Nat)} {n : Nat} {sep : List Nat} {t : Tok} {Q : Value → Shared → Prop} (N : News h₀ L s.heap all) (hm : (D, W.listOf vs.toArray n) ∈ all) (hv : StrsAre vs (ws.map S)) (hsep : sep.length ≤ 16) (hw : (ws.map List.length).sum + ws.length ≤ 1048576)
    (h : ∀ t' k, Q (.str (S (jn sep ws)) t') { s with toks := k }) : wpAny (model prog w) A (call (.builtin "str.join") [.str (S sep) t, .ref D]) Q E s := by
  refine join_listW (items := vs.toArray) (ys := ws.map S) ⟨_, (N _ hm).1, rfl, n, rfl⟩ (by simpa using hv) (by rw [S_len]; exact hsep) ?_ ?_
  · have e : ((ws.map S).map (·.length)) = ws.map List.length := lensS ws
    rw [e, List.length_map]; exact hw
  · intro t' k
    rw [join_S]; exact h t' k
theorem strs_get : ∀ {vs : List Value} {ys : List Str}, StrsAre vs ys → ∀ (i : Nat) (y : Str), ys[i]? = some y → ∃ t, vs[i]? = some (Value.str y t)
  | _, _, .nil, i, y, h => by simp at h
  | _, _, .cons z t r, 0, y, h => ⟨t, by simp at h; subst h; rfl⟩
  | _, _, .cons z t r, i + 1, y, h => by
    obtain ⟨t', e⟩ := strs_get r i y (by simpa using h)
    exact ⟨t', by simpa using e⟩
theorem strs_snoc : ∀ {vs : List Value} {ys : List Str} {y : Str}, StrsAre vs (ys ++ [y]) → ∃ us t, vs = us ++ [Value.str y t] ∧ StrsAre us ys
  | _, [], y, h => by
    cases h with
    | cons z t r => cases r; exact ⟨[], t, rfl, .nil⟩
  | _, z :: ys, y, h => by
    cases h with
    | cons z t r =>
      obtain ⟨us, t', e, h'⟩ := strs_snoc r
      exact ⟨Value.str z t :: us, t', by rw [e]; rfl, .cons z t h'⟩
theorem strs_of : ∀ {vs : List Value} {ys : List Str}, vs.length = ys.length → (∀ (i : Nat) (y : Str), ys[i]? = some y → ∃ t, vs[i]? = some (Value.str y t)) → StrsAre vs ys
  | [], [], _, _ => .nil
  | [], _ :: _, h, _ => by simp at h
  | _ :: _, [], h, _ => by simp at h
  | v :: vs, y :: ys, h, k => by
    obtain ⟨t, e⟩ := k 0 y rfl
    have : v = Value.str y t := by simpa using e
    subst this
    exact .cons y t (strs_of (by simpa using h) fun i z hz => by
      obtain ⟨t', e'⟩ := k (i + 1) z (by simpa using hz)
      exact ⟨t', by simpa using e'⟩)
theorem gs_strs : ∀ {gs : List (Option Value)} {tl : List (List Nat)}, gs.length = tl.length → (∀ (j : Nat) (g : Option Value), gs[j]? = some g → ∃ (v : List Nat) (t : Tok), tl[j]? = some v ∧ g = some (Value.str (S v) t)) → StrsAre (gs.filterMap id) (tl.map S)
  | [], [], _, _ => .nil
  | [], _ :: _, h, _ => by simp at h
  | _ :: _, [], h, _ => by simp at h
  | g :: gs, v :: tl, h, k => by
    obtain ⟨v', t, e1, e2⟩ := k 0 g rfl
    have : v = v' := by simpa using e1
    subst this
    subst e2
    have ih := gs_strs (gs := gs) (tl := tl) (by simpa using h) fun j g hj => by
      obtain ⟨v', t', a, b⟩ := k (j + 1) g (by simpa using hj)
      exact ⟨v', t', by simpa using a, b⟩
    exact .cons _ t ih
end texts
section lists
variable {prog : Program} {w : World} {A : Around} {E : Value → Shared → Prop} {s : Shared} {h₀ : Heap} {L D : Addr} {m : Str → Option Value} {all : List (Addr × Obj)} {its : Array Value} {n : Nat}
theorem append_U {x : Value} {Q : Value → Shared → Prop} (F : Fr h₀ L s.heap m) (N : News h₀ L s.heap all) (hm : (D, W.listOf its n) ∈ all) (hsz : its.size ≤ 1000000)
    (h : ∀ h', Fr h₀ L h' m → News h₀ L h' (upd D (W.listOf (its.push x) (n + 1)) all) → Q .none { s with heap := h' }) :
    wpAny (model prog w) A (call (.builtin "list.append") [.ref D, x]) Q E s :=
  append_at (N _ hm).1 (fun h' hs hd => by
    obtain ⟨F', N'⟩ := upd_ok F N hm hs hd
    exact h h' F' N') (by rw [PySem.sizeLine_eq]; omega)
theorem item_U {value slice : Expr} {k : Int} {u : Tok} {v : Value} {Q : Value → Shared → Prop} (N : News h₀ L s.heap all) (hm : (D, W.listOf its n) ∈ all) (h0 : 0 ≤ k) (hfit : k < 2 ^ 62) (hx : its[k.toNat]? = some v) (h : Q v s)
    (hs : subscripted slice false (.ref D) (.int k u) = operate [.ref D, .int k u] (getItem (.ref D) (.int k u)) := by with_unfolding_all rfl) :
    wpAny (model prog w) A (subscriptTail value slice (.ref D) (.int k u)) Q E s := by
  have hl : s.heap.IsList D its := ⟨_, (N _ hm).1, rfl, n, rfl⟩
  exact tail_any hl.typeIs slot_list_getitem.lookup (wpAny_getItem_list hl h0 (by omega) hx h) hs
theorem item_last {value slice : Expr} {xs : List Value} {u : Tok} {v : Value} {Q : Value → Shared → Prop} (N : News h₀ L s.heap all) (hm : (D, W.listOf (xs ++ [v]).toArray n) ∈ all) (h : Q v s)
    (hs : subscripted slice false (.ref D) (.int (-1) u) = operate [.ref D, .int (-1) u] (getItem (.ref D) (.int (-1) u)) := by with_unfolding_all rfl) :
    wpAny (model prog w) A (subscriptTail value slice (.ref D) (.int (-1) u)) Q E s := by
  have hl : s.heap.IsList D (xs ++ [v]).toArray := ⟨_, (N _ hm).1, rfl, n, rfl⟩
  refine tail_any hl.typeIs slot_list_getitem.lookup (wpAny_getItem_list_neg hl (by decide) ?_ (by decide) ?_ h) hs
  · simp; omega
  · have e : (-1 + ((xs ++ [v]).toArray.size : Int)).toNat = xs.length := by simp; omega
    rw [e]; simp
theorem getItem_last {xs : List Value} {u : Tok} {v : Value} {Q : Value → Shared → Prop} (N : News h₀ L s.heap all) (hm : (D, W.listOf (xs ++ [v]).toArray n) ∈ all) (h : Q v s) :
    wpAny (model prog w) A (getItem (.ref D) (.int (-1) u)) Q E s := by
  have hl : s.heap.IsList D (xs ++ [v]).toArray := ⟨_, (N _ hm).1, rfl, n, rfl⟩
  refine wpAny_getItem_list_neg hl (by decide) ?_ (by decide) ?_ h
  · simp; omega
  · have e : (-1 + ((xs ++ [v]).toArray.size : Int)).toNat = xs.length := by simp; omega
    rw [e]; simp
theorem map_U {its' : Array Value} {n' : Nat} (f : Array Value → Array Value) (F : Fr h₀ L s.heap m) (N : News h₀ L s.heap all) (hm : (D, W.listOf its n) ∈ all) (he : f its = its') (hn : (if its'.size == its.size then n else n + 1) = n') :
    Fr h₀ L (s.heap.update D (Obj.mapSeq f)) m ∧ News h₀ L (s.heap.update D (Obj.mapSeq f)) (upd D (W.listOf its' n') all) := by
  have q := PySem.IsL.update (N _ hm).1 f
  rw [he, hn] at q
  exact upd_ok F N hm (Heap.SameBut.update ..) q
theorem setItem_last {xs : List Value} {u : Tok} {v v' : Value} {Q : Unit → Shared → Prop} (F : Fr h₀ L s.heap m) (N : News h₀ L s.heap all) (hm : (D, W.listOf (xs ++ [v]).toArray n) ∈ all)
    (h : ∀ h', Fr h₀ L h' m → News h₀ L h' (upd D (W.listOf (xs ++ [v']).toArray n) all) → Q () { s with heap := h' }) :
    wpAny (model prog w) A (setItem (.ref D) (.int (-1) u) v') Q E s := by
  have e : (-1 + ((xs ++ [v]).toArray.size : Int)).toNat = xs.length := by simp; omega
  refine ki_setBack (N _ hm).1 (by decide) (by simp; omega) (by decide) ?_
  rw [e]
  obtain ⟨F', N'⟩ := map_U (its' := (xs ++ [v']).toArray) (n' := n) (·.setIfInBounds xs.length v') F N hm (by apply Array.toList_inj.mp; simp) (by simp)
  exact h _ F' N'
theorem setItem_U {xs : List Value} {k : Int} {u : Tok} {v' : Value} {Q : Unit → Shared → Prop} (F : Fr h₀ L s.heap m) (N : News h₀ L s.heap all) (hm : (D, W.listOf xs.toArray n) ∈ all) (h0 : 0 ≤ k) (h1 : k < xs.length) (hfit : k < 2 ^ 62)
    (h : ∀ h', Fr h₀ L h' m → News h₀ L h' (upd D (W.listOf (xs.set k.toNat v').toArray n) all) → Q () { s with heap := h' }) :
    wpAny (model prog w) A (setItem (.ref D) (.int k u) v') Q E s := by
  refine ki_setAt (N _ hm).1 h0 (by omega) (by rw [List.size_toArray]; exact h1) ?_
  obtain ⟨F', N'⟩ := map_U (its' := (xs.set k.toNat v').toArray) (n' := n) (·.setIfInBounds k.toNat v') F N hm (by apply Array.toList_inj.mp; simp) (by simp)
  exact h _ F' N'
theorem pop_U {xs : List Value} {v : Value} {Q : Value → Shared → Prop} (F : Fr h₀ L s.heap m) (N : News h₀ L s.heap all) (hm : (D, W.listOf (xs ++ [v]).toArray n) ∈ all) (hsz : xs.length ≤ 1000000)
    (h : ∀ h', Fr h₀ L h' m → News h₀ L h' (upd D (W.listOf xs.toArray (n + 1)) all) → Q v { s with heap := h' }) :
    wpAny (model prog w) A (call (.builtin "list.pop") [.ref D]) Q E s := by
  obtain ⟨F', N'⟩ := map_U (its' := xs.toArray) (n' := n + 1) (fun ys => ys.eraseIdxIfInBounds ((xs ++ [v]).toArray.size - 1)) F N hm (by apply Array.toList_inj.mp; simp [Array.eraseIdxIfInBounds]; exact (kl_eraseL xs [] v).trans (List.append_nil _)) (by simp)
  exact call_meets PySem.F.slot_list_pop ⟨_, (N _ hm).1, rfl⟩ PySem.F.entry_list_pop (PySem.F.args_list_pop_1 _) (PySem.MeetsSeq.list_pop_last D _ n v (by simp) (by simp [PySem.sizeLine_eq]; omega)) ⟨(N _ hm).1, h _ F' N'⟩
theorem pop0_U {xs : List Value} {v : Value} {u : Tok} {Q : Value → Shared → Prop} (F : Fr h₀ L s.heap m) (N : News h₀ L s.heap all) (hm : (D, W.listOf (v :: xs).toArray n) ∈ all) (hsz : xs.length ≤ 1000000)
    (h : ∀ h', Fr h₀ L h' m → News h₀ L h' (upd D (W.listOf xs.toArray (n + 1)) all) → Q v { s with heap := h' }) :
    wpAny (model prog w) A (call (.builtin "list.pop") [.ref D, .int 0 u]) Q E s := by
  obtain ⟨F', N'⟩ := map_U (its' := xs.toArray) (n' := n + 1) (fun ys => ys.eraseIdxIfInBounds 0) F N hm (by apply Array.toList_inj.mp; simp [Array.eraseIdxIfInBounds]) (by simp)
  exact call_meets PySem.F.slot_list_pop ⟨_, (N _ hm).1, rfl⟩ PySem.F.entry_list_pop (PySem.F.args_list_pop_2 _ _) (PySem.MeetsSeq.list_pop_at D _ n 0 u 0 v (by decide) (by simp [seqIndex?]) (by simp) (by simp [PySem.sizeLine_eq]; omega)) ⟨(N _ hm).1, h _ F' N'⟩
end lists
section setting
variable {prog : Program} {w : World} {A : Around} {E : Value → Shared → Prop} {s : Shared} {h₀ : Heap} {L D : Addr} {m : Str → Option Value} {all : List (Addr × Obj)} {n : Nat}
theorem in_sep (seps : List Nat) (c : Nat) : (Builtin.Str.occurrences (S seps) (S [c]) 0 (S seps).length 1).isEmpty = !decide (c ∈ seps) := by
  have h := StrLaws.found_one (S seps) c
  rw [S_cps] at h
  have e : (S [c] : Str) = ⟨#[c]⟩ := rfl
  rw [e, ← h, Bool.not_not]
end setting
/-- a turn's frame, its names shown -/
theorem fr_turn {h₀ h : Heap} {L : Addr} {m : Str → Option Value} {x : Str} {v : Value} (ps : List (Str × Value)) (F : Fr h₀ L h (fun y => if y = x then some v else m y)) (hps : ∀ p ∈ ps, m p.1 = some p.2) : Fr h₀ L h (fun y => if y = x then some v else kstB m ps y) := by
  have e : kstB m ps = m := funext fun z => kstB_eq hps fun _ => rfl
  rw [e]; exact F
section loops
variable {prog : Program} {w : World} {A : Around} {E : Value → Shared → Prop} {s : Shared} {env : Env} {h₀ : Heap} {x : Str} {body : List Stmt} {Q : Flow → Shared → Prop}
/-- a turn's end: the frame, the ledger's part that the loop speaks of -/
def GEnd (h₀ : Heap) (L I : Addr) (J : (Str → Option Value) → List (Addr × Obj) → Prop) (own : List (Addr × Obj)) (s s₂ : Shared) : Prop :=
  ∃ h' tk m' all nx, s₂ = { s with heap := h', toks := tk } ∧ Fr h₀ L h' m' ∧ News h₀ L h' all ∧ Sub own all ∧ Sub nx all ∧ (∀ p ∈ nx, p.1 ≠ I) ∧ J m' nx
def GPost (h₀ : Heap) (L I : Addr) (J : (Str → Option Value) → List (Addr × Obj) → Prop) (own : List (Addr × Obj)) (s : Shared) (Q : Flow → Shared → Prop) (f : Flow) (s₂ : Shared) : Prop :=
  match f with
  | .ret v => Q (.ret v) s₂
  | .brk => Q .next s₂
  | _ => GEnd h₀ L I J own s s₂
theorem GEnd.intro {L I : Addr} {J : (Str → Option Value) → List (Addr × Obj) → Prop} {own all : List (Addr × Obj)} {h' : Heap} {tk : Nat} {m' : Str → Option Value} (nx : List (Addr × Obj)) (F : Fr h₀ L h' m') (N : News h₀ L h' all) (ho : Sub own all) (hn : Sub nx all) (hI : ∀ p ∈ nx, p.1 ≠ I) (hj : J m' nx) :
    GEnd h₀ L I J own s { s with heap := h', toks := tk } := ⟨h', tk, m', all, nx, rfl, F, N, ho, hn, hI, hj⟩

theorem loopG {I : Addr} {fp : List Addr} {n : Nat} {P : Nat → Value → Prop} {St : Nat → Heap → Prop} {m₀ : Str → Option Value} {news : List (Addr × Obj)} (J : Nat → (Str → Option Value) → List (Addr × Obj) → Prop)
    (W : Walks prog w A I fp [I] n P St) (hIo : ∀ i h, St i h → ∃ o, h.get? I = some o) (hLf : env.locals ∉ fp) (hI₀ : h₀.get? I = none) (hnI : ∀ p ∈ news, p.1 ≠ I) (hst : St 0 s.heap) (F : Fr h₀ env.locals s.heap m₀) (N : News h₀ env.locals s.heap news) (hj : J 0 m₀ news)
    (turn : ∀ i v m₁ nx h tk own, i < n → P i v → J i m₁ nx → (∃ o, (I, o) ∈ own) → (∀ p ∈ own, p.1 ∈ fp) → (∀ p ∈ nx, p.1 ≠ I) → Fr h₀ env.locals h (fun y => if y = x then some v else m₁ y) → News h₀ env.locals h (own ++ nx) →
      wpAny (model prog w) A (execs body env) (GPost h₀ env.locals I (J (i + 1)) own s Q) E { s with heap := h, toks := tk })
    (done : ∀ m₁ nx h tk, J n m₁ nx → Fr h₀ env.locals h m₁ → News h₀ env.locals h nx → Q .next { s with heap := h, toks := tk }) :
    LoopAtV prog w A h₀ env x body Q E (.ref I) s := by
  have hIf : I ∈ fp := W.sub I (List.mem_singleton.mpr rfl)
  refine ⟨I, fp, [I], n, P, St, m₀, news, J, rfl, W, hLf, (fun b hb => by rw [List.mem_singleton.mp hb]; exact hI₀), (fun p hp hq => hnI p hp (List.mem_singleton.mp hq)), hst, F, N, hj, ?_, ?_⟩
  · rintro i v m₁ nx s₁ own ⟨h1, tk1, rfl⟩ hin hP hJ hoff hof _ hfp hst' F₁ N₁
    obtain ⟨oI, hoI⟩ := hIo _ _ hst'
    have hIown : (I, oI) ∈ own := hfp I hIf hI₀ _ hoI
    refine wpAny_mono (turn i v m₁ nx h1 tk1 own hin hP hJ ⟨oI, hIown⟩ hof (fun p hp hq => hoff p hp (List.mem_singleton.mpr hq)) F₁ N₁) (fun f s₂ p => ?_) fun _ _ e => e
    have fin : GEnd h₀ env.locals I (J (i + 1)) own s s₂ → LoopStepU h₀ env.locals [I] own (J (i + 1)) { s with heap := h1, toks := tk1 } .next s₂ := by
      rintro ⟨h', tk, m', all, nx', e, F', N', ho, hn, hI, hm⟩
      exact ⟨rfl, h', tk, m', nx', e, F', fun p hp => N' p ((List.mem_append.mp hp).elim (ho p) (hn p)), fun p hp hq => hI p hp (List.mem_singleton.mp hq), hm⟩
    cases f with
    | ret v => exact .ret p
    | brk => exact .brk p
    | next => exact .next (fin p)
    | cont => exact .cont (fin p)
  · rintro h' tk m' news' F' N' _ hJ
    exact done m' news' h' tk hJ F' N'

theorem forStr {p : List Nat} {tx : Tok} {m₀ : Str → Option Value} {news : List (Addr × Obj)} (J : Nat → (Str → Option Value) → List (Addr × Obj) → Prop)
    (hh : A.handled = none) (F : Fr h₀ env.locals s.heap m₀) (N : News h₀ env.locals s.heap news) (hj : J 0 m₀ news)
    (turn : ∀ i c t m₁ nx h tk own I, p[i]? = some c → J i m₁ nx → (∃ o, (I, o) ∈ own) → (∀ q ∈ own, q.1 = I) → (∀ q ∈ nx, q.1 ≠ I) → Fr h₀ env.locals h (fun y => if y = x then some (.str (S [c]) t) else m₁ y) → News h₀ env.locals h (own ++ nx) →
      wpAny (model prog w) A (execs body env) (GPost h₀ env.locals I (J (i + 1)) own s Q) E { s with heap := h, toks := tk })
    (done : ∀ m₁ nx h tk, J p.length m₁ nx → Fr h₀ env.locals h m₁ → News h₀ env.locals h nx → Q .next { s with heap := h, toks := tk }) :
    wpAny (model prog w) A (pyIter (.str (S p) tx)) (fun it s₂ => LoopAtV prog w A h₀ env x body Q E it s₂) E s := by
  have hsz : (S p).cps.size = p.length := by simp [S]
  have key : ∀ (o : Obj) (St : Nat → Heap → Prop), Walks prog w A s.heap.objs.size [s.heap.objs.size] [s.heap.objs.size] (S p).cps.size (SignAt (S p)) St → St 0 (s.heap.push o) → (∀ i h, St i h → ∃ o, h.get? s.heap.objs.size = some o) →
      LoopAtV prog w A h₀ env x body Q E (.ref s.heap.objs.size) { s with heap := s.heap.push o } := by
    intro o St W hst hst0
    rw [hsz] at W
    refine loopG J W hst0 ?_ (next_is_new F) (fun p hp => Nat.ne_of_lt (Heap.lt_size (N p hp).1)) hst (F.push _) (N.grown fun _ _ e => Heap.get?_push_of_some _ e) hj ?_ ?_
    · intro hm; exact absurd F.ns.lt ((List.mem_singleton.mp hm) ▸ Nat.lt_irrefl _)
    · rintro i v m₁ nx h tk own hi ⟨c, u, hc, rfl⟩ hJ hI hof hnI F₁ N₁
      exact turn i c u m₁ nx h tk own _ (by simpa [S] using hc) hJ hI (fun q hq => List.mem_singleton.mp (hof q hq)) hnI F₁ N₁
    · intro m₁ nx h tk hJ F₁ N₁
      exact done m₁ nx h tk hJ F₁ N₁
  cases ha : (S p).cps.all (· < 128)
  · exact wpAny_pyIter_wide ha (key _ _ (Walks.strWide hh _ (S p) tx) ⟨_, Heap.get?_push_size _ rfl, rfl, rfl⟩ (fun i h st => by obtain ⟨o, e, _⟩ := st; exact ⟨o, e⟩))
  · exact wpAny_pyIter_ascii ha (key _ _ (Walks.strAscii hh _ (S p) tx) ⟨_, Heap.get?_push_size _ rfl, rfl, rfl⟩ (fun i h st => by obtain ⟨o, e, _⟩ := st; exact ⟨o, e⟩))

theorem forRange {r : Addr} {n : Nat} {t₀ u₀ v₀ : Tok} {m₀ : Str → Option Value} {news : List (Addr × Obj)} (a : Int) (b : Int) (J : Nat → (Str → Option Value) → List (Addr × Obj) → Prop)
    (hh : A.handled = none) (hr : IsRange s.heap r a b 1 t₀ u₀ v₀) (hsmall : Builtin.Range.small a b 1 = true) (hn : Builtin.Range.rangeSize a b 1 = (n : Int)) (F : Fr h₀ env.locals s.heap m₀) (N : News h₀ env.locals s.heap news) (hj : J 0 m₀ news)
    (turn : ∀ i t m₁ nx h tk own I, i < n → J i m₁ nx → (∃ o, (I, o) ∈ own) → (∀ q ∈ own, q.1 = I) → (∀ q ∈ nx, q.1 ≠ I) → Fr h₀ env.locals h (fun y => if y = x then some (.int (a + (i : Int)) t) else m₁ y) → News h₀ env.locals h (own ++ nx) →
      wpAny (model prog w) A (execs body env) (GPost h₀ env.locals I (J (i + 1)) own s Q) E { s with heap := h, toks := tk })
    (done : ∀ m₁ nx h tk, J n m₁ nx → Fr h₀ env.locals h m₁ → News h₀ env.locals h nx → Q .next { s with heap := h, toks := tk }) :
    wpAny (model prog w) A (pyIter (.ref r)) (fun it s₂ => LoopAtV prog w A h₀ env x body Q E it s₂) E s := by
  refine wpAny_pyIter_range hr hsmall ?_
  have W : Walks prog w A s.heap.objs.size [s.heap.objs.size] [s.heap.objs.size] n (fun i v => i < n ∧ ∃ t, v = .int (a + i * 1) t)
      (fun i h => IsRangeIter h s.heap.objs.size (a + (i : Nat) * 1) ((n : Int) - (i : Nat)) 1) := (Walks.range hh _ a 1 n).bound
  refine loopG J W (fun i h st => ⟨_, st⟩) ?_ (next_is_new F) (fun p hp => Nat.ne_of_lt (Heap.lt_size (N p hp).1)) (by show IsRangeIter _ _ _ _ _; rw [hn]; simpa using Heap.get?_push_size _ rfl) (F.push _) (N.grown fun _ _ e => Heap.get?_push_of_some _ e) hj ?_ ?_
  · intro hm; exact absurd F.ns.lt ((List.mem_singleton.mp hm) ▸ Nat.lt_irrefl _)
  · rintro i v m₁ nx h tk own hi ⟨_, t, rfl⟩ hJ hI hof hnI F₁ N₁
    rw [Int.mul_one] at F₁
    exact turn i t m₁ nx h tk own _ hi hJ hI (fun q hq => List.mem_singleton.mp (hof q hq)) hnI F₁ N₁
  · intro m₁ nx h tk hJ F₁ N₁
    exact done m₁ nx h tk hJ F₁ N₁

/-- a loop over a list of the ledger, which stays as it is -/
theorem forList {l : Addr} {its : List Value} {c : Nat} {m₀ : Str → Option Value} {news : List (Addr × Obj)} (J : Nat → (Str → Option Value) → List (Addr × Obj) → Prop)
    (hh : A.handled = none) (F : Fr h₀ env.locals s.heap m₀) (N : News h₀ env.locals s.heap news) (hl : (l, W.listOf its.toArray c) ∈ news) (led : List (Addr × Obj)) (hled : Sub led news) (hj : J 0 m₀ led)
    (turn : ∀ i v m₁ nx h tk own I, its[i]? = some v → J i m₁ nx → (∃ o, (I, o) ∈ own) → (∀ q ∈ own, q.1 = I ∨ q.1 = l) → (∀ q ∈ nx, q.1 ≠ I) → Fr h₀ env.locals h (fun y => if y = x then some v else m₁ y) → News h₀ env.locals h (own ++ nx) →
      wpAny (model prog w) A (execs body env) (GPost h₀ env.locals I (J (i + 1)) own s Q) E { s with heap := h, toks := tk })
    (done : ∀ m₁ nx h tk, J its.length m₁ nx → Fr h₀ env.locals h m₁ → News h₀ env.locals h nx → Q .next { s with heap := h, toks := tk }) :
    wpAny (model prog w) A (pyIter (.ref l)) (fun it s₂ => LoopAtV prog w A h₀ env x body Q E it s₂) E s := by
  have hls : s.heap.IsList l its.toArray := ⟨_, (N _ hl).1, rfl, c, rfl⟩
  have hlt : l < s.heap.objs.size := Heap.lt_size (N _ hl).1
  refine wpAny_pyIter_list hls ?_
  have W := Walks.list (prog := prog) (w := w) hh s.heap.objs.size l (Nat.ne_of_lt hlt) its.toArray
  have hsz : its.toArray.size = its.length := by simp
  rw [hsz] at W
  have hnw : ∀ p ∈ led, p.1 ≠ s.heap.objs.size := fun p hp => Nat.ne_of_lt (Heap.lt_size (N p (hled p hp)).1)
  refine loopG J W (fun i h st => by obtain ⟨o, e, _⟩ := st.1; exact ⟨o, e⟩) ?_ (next_is_new F) hnw ⟨⟨_, Heap.get?_push_size _ rfl, rfl, rfl⟩, hls.push _⟩ (F.push _) ((news_sub N hled).grown fun _ _ e => Heap.get?_push_of_some _ e) hj ?_ ?_
  · intro hm
    rcases List.mem_cons.mp hm with e | hm
    · exact absurd F.ns.lt (e ▸ Nat.lt_irrefl _)
    · exact (N _ hl).2.1 (List.mem_singleton.mp hm).symm
  · rintro i v m₁ nx h tk own hi hP hJ hI hof hnI F₁ N₁
    exact turn i v m₁ nx h tk own _ (by simpa using hP) hJ hI (fun q hq => by simpa using hof q hq) hnI F₁ N₁
  · intro m₁ nx h tk hJ F₁ N₁
    exact done m₁ nx h tk hJ F₁ N₁
/-- a loop over a list that stood ahead of the call -/
theorem forBase {l : Addr} {its : List Value} {m₀ : Str → Option Value} {news : List (Addr × Obj)} (J : Nat → (Str → Option Value) → List (Addr × Obj) → Prop)
    (hh : A.handled = none) (F : Fr h₀ env.locals s.heap m₀) (N : News h₀ env.locals s.heap news) (hl : h₀.IsList l its.toArray) (hj : J 0 m₀ news)
    (turn : ∀ i v m₁ nx h tk own I, its[i]? = some v → J i m₁ nx → (∃ o, (I, o) ∈ own) → (∀ q ∈ own, q.1 = I ∨ q.1 = l) → (∀ q ∈ nx, q.1 ≠ I) → Fr h₀ env.locals h (fun y => if y = x then some v else m₁ y) → News h₀ env.locals h (own ++ nx) →
      wpAny (model prog w) A (execs body env) (GPost h₀ env.locals I (J (i + 1)) own s Q) E { s with heap := h, toks := tk })
    (done : ∀ m₁ nx h tk, J its.length m₁ nx → Fr h₀ env.locals h m₁ → News h₀ env.locals h nx → Q .next { s with heap := h, toks := tk }) :
    wpAny (model prog w) A (pyIter (.ref l)) (fun it s₂ => LoopAtV prog w A h₀ env x body Q E it s₂) E s := by
  have hls : s.heap.IsList l its.toArray := hl.at fun o e => F.keep l o e
  obtain ⟨ol, hol, _⟩ := id hl
  have hlt : l < h₀.objs.size := Heap.lt_size hol
  have hne : l ≠ s.heap.objs.size := Nat.ne_of_lt (Nat.lt_trans (Nat.lt_of_lt_of_le hlt F.above) F.ns.lt)
  refine wpAny_pyIter_list hls ?_
  have W := Walks.list (prog := prog) (w := w) hh s.heap.objs.size l hne its.toArray
  have hsz : its.toArray.size = its.length := by simp
  rw [hsz] at W
  refine loopG J W (fun i h st => by obtain ⟨o, e, _⟩ := st.1; exact ⟨o, e⟩) ?_ (next_is_new F) (fun p hp => Nat.ne_of_lt (Heap.lt_size (N p hp).1)) ⟨⟨_, Heap.get?_push_size _ rfl, rfl, rfl⟩, hls.push _⟩ (F.push _) (N.grown fun _ _ e => Heap.get?_push_of_some _ e) hj ?_ ?_
  · intro hm
    rcases List.mem_cons.mp hm with e | hm
    · exact absurd F.ns.lt (e ▸ Nat.lt_irrefl _)
    · exact absurd (Nat.lt_of_lt_of_le hlt F.above) ((List.mem_singleton.mp hm) ▸ Nat.lt_irrefl _)
  · rintro i v m₁ nx h tk own hi hP hJ hI hof hnI F₁ N₁
    exact turn i v m₁ nx h tk own _ (by simpa using hP) hJ hI (fun q hq => by simpa using hof q hq) hnI F₁ N₁
  · intro m₁ nx h tk hJ F₁ N₁
    exact done m₁ nx h tk hJ F₁ N₁
end loops
end Mine
end

section
open PySem PySem.W PyProof.Rows PySem.Calls
namespace Mine
open PyProof.Rows.LCg
section comp
variable {prog : Program} {w : World} {A : Around} {E : Value → Shared → Prop} {s : Shared} {env : Env} {h₀ : Heap} {L : Addr} {m : Str → Option Value}

abbrev testsOf (ifs : List Expr) (env : Env) : Sem Bool := forIn ifs true fun c r => if r = true then do let ok ← isTrue c env (eval c env); pure (ForInStep.yield ok) else pure (ForInStep.yield r)

theorem compLoop_all {elt target iter : Expr} {ifs : List Expr} {scope : Scope} {pos : Pos} {it acc : Value} {env : Env} {R : Result → Shared → Prop} (I : Nat → Shared → Prop)
    (turn : ∀ n s, I n s → wpAny (model prog w) A (pyNext it) (fun r s₁ => match r with
      | none => R (.ok .next) s₁
      | some v => wpAny (model prog w) A (letOwnedTupleGo target it v) (fun _ s₁' => wpAny (model prog w) A (assign target env v) (fun _ s₂ =>
          wpAny (model prog w) A (testsOf ifs env) (fun ok s₃ =>
            if ok = true then wpAny (model prog w) A (eval elt env) (fun x s₄ =>
              wpAny (model prog w) A (call (.builtin "list.append") [acc, x]) (fun _ s₅ => ∃ m, m < n ∧ I m s₅) (notedBy (model prog w) A env fun e s' => R (.error e) s') s₄) (notedBy (model prog w) A env fun e s' => R (.error e) s') s₃
            else ∃ m, m < n ∧ I m s₃) (notedBy (model prog w) A env fun e s' => R (.error e) s') s₂) (notedBy (model prog w) A env fun e s' => R (.error e) s') s₁') (notedBy (model prog w) A env fun e s' => R (.error e) s') s₁) (notedBy (model prog w) A env fun e s' => R (.error e) s') s)
    (n : Nat) (h : I n s) : codeAny (model prog w) A (.compLoop (.ListComp elt [⟨target, iter, ifs, 0⟩] scope pos) 0 it acc env) R s := by
  refine codeAny_loop rfl I (fun n s hI => ?_) n h
  show wpAny _ A ((compTurn (.ListComp elt [⟨target, iter, ifs, 0⟩] scope pos) 0 it acc env).onRaise (fun x => do noteFrame x env; theTreesLotGoes x)) _ _ s
  refine wpAny_noted ?_
  rw [compTurn_list]
  refine wpAny_bind (wpAny_standAt (wpAny_bind (wpAny_mono (turn n s hI) (fun r s₁ h₁ => ?_) fun _ _ h' => h')))
  cases r with
  | none => exact wpAny_pure h₁
  | some v =>
    refine wpAny_bind (wpAny_mono h₁ (fun _ s₁' h₁' => ?_) fun _ _ h' => h')
    refine wpAny_bind (wpAny_mono h₁' (fun _ s₂ h₂ => wpAny_bind (wpAny_mono h₂ (fun ok s₃ h₃ => ?_) fun _ _ h' => h')) fun _ _ h' => h')
    cases ok with
    | false => exact wpAny_pure ⟨rfl, h₃⟩
    | true =>
      exact wpAny_bind (wpAny_bind (wpAny_mono h₃ (fun x s₄ h₄ => wpAny_bind (wpAny_mono h₄ (fun _ s₅ h₅ => wpAny_pure (wpAny_pure ⟨rfl, h₅⟩)) fun _ _ h' => h')) fun _ _ h' => h'))

/-- an element's end: all that stood stands -/
def CEnd (h₀ : Heap) (L : Addr) (m : Str → Option Value) (s : Shared) (led : List (Addr × Obj)) (G : Option Value → Prop) (y : Option Value) (s₂ : Shared) : Prop :=
  ∃ h' tk, s₂ = { s with heap := h', toks := tk } ∧ Fr h₀ L h' m ∧ News h₀ L h' led ∧ G y
theorem CEnd.intro {led all : List (Addr × Obj)} {G : Option Value → Prop} {y : Option Value} {h' : Heap} {tk : Nat} (F : Fr h₀ L h' m) (N : News h₀ L h' all) (hs : Sub led all) (g : G y) : CEnd h₀ L m s led G y { s with heap := h', toks := tk } := ⟨h', tk, rfl, F, news_sub N hs, g⟩

/-- one turn of a comprehension behind its target's binding -/
def CTurn (prog : Program) (w : World) (A : Around) (h₀ : Heap) (L : Addr) (m : Str → Option Value) (env : Env) (elt : Expr) (ifs : List Expr) (scope : Scope) (cl : List (Str × Addr)) (s : Shared) (news : List (Addr × Obj)) (B : (Str → Option Value) → Prop) (G : Option Value → Prop) : Prop :=
  ∀ I oI C oC D oD m₃ h tk (E' : Value → Shared → Prop), B m₃ → NsObj oC m₃ → Fr h₀ L h m → News h₀ L h ((I, oI) :: (C, oC) :: (D, oD) :: news) → (∀ p ∈ news, p.1 ≠ C) →
    wpAny (model prog w) A (testsOf ifs (compEnvC scope cl C env)) (fun ok s₄ => if ok = true then wpAny (model prog w) A (eval elt (compEnvC scope cl C env)) (fun y => CEnd h₀ L m s ((I, oI) :: (C, oC) :: (D, oD) :: news) G (some y)) E' s₄ else CEnd h₀ L m s ((I, oI) :: (C, oC) :: (D, oD) :: news) G none s₄) E' { s with heap := h, toks := tk }

theorem comp_block {elt iter target : Expr} {ifs : List Expr} {scope : Scope} {cl : List (Str × Addr)} {pos : Pos} {s₂ : Shared} {I : Addr} {fp : List Addr} {n : Nat} {P : Nat → Value → Prop} {St : Nat → Heap → Prop} {news : List (Addr × Obj)}
    (Bd : Nat → (Str → Option Value) → Prop) (G : Nat → Option Value → Prop) {RR : Value → Addr → Result → Shared → Prop}
    (W : Walks prog w A I fp [I] n P St) (hsz : n ≤ sizeLine) (hIo : ∀ i h, St i h → ∃ o, h.get? I = some o)
    (hSt : ∀ i h h' o, St i h → h.get? I = some o → h'.get? I = some o → (∀ b o, h₀.get? b = some o → h'.get? b = some o) → News h₀ L h' news → St i h')
    (ht : ∀ i v s' (Q : Unit → Shared → Prop) (E' : Value → Shared → Prop), P i v → St (i + 1) s'.heap → Q () s' → wpAny (model prog w) A (letOwnedTupleGo target (.ref I) v) Q E' s')
    (hcell : ∀ y ∈ scope.names, y.2 ≠ .cell) (hkind : scope.kind = .function) (hst : St 0 s₂.heap) (hfp : ∀ b ∈ fp, b < s₂.heap.objs.size)
    (F : Fr h₀ L s₂.heap m) (N : News h₀ L s₂.heap news) (hIL : L ≠ I) (hI₀ : h₀.get? I = none) (off : ∀ p ∈ news, p.1 ≠ I)
    (hass : ∀ i v C h tk m' (E' : Value → Shared → Prop), P i v → h.Ns C m' → Fr h₀ L h m → News h₀ L h news → C ≠ L → h₀.get? C = none → (∀ p ∈ news, p.1 ≠ C) →
      wpAny (model prog w) A (assign target (compEnvC scope cl C env) v) (fun _ s₃ => ∃ h₃ tk₃ m₃, s₃ = { s₂ with heap := h₃, toks := tk₃ } ∧ h₃.Ns C m₃ ∧ (∀ b o, b ≠ C → h.get? b = some o → h₃.get? b = some o) ∧ Bd i m₃) E' { s₂ with heap := h, toks := tk })
    (turn : ∀ i, i < n → CTurn prog w A h₀ L m env elt ifs scope cl s₂ news (Bd i) (G i))
    (hRR : ∀ D C h tk m' (gs : List (Option Value)), Fr h₀ L h m → News h₀ L h ((D, lst (gs.filterMap id)) :: news) → h.Ns C m' → h₀.get? C = none → h₀.get? D = none → C ≠ L → D ≠ L → C ≠ D → (∀ p ∈ news, p.1 ≠ C) → (∀ p ∈ news, p.1 < D) → gs.length = n → (∀ j g, gs[j]? = some g → G j g) → RR (.ref D) C (.ok .next) { s₂ with heap := h, toks := tk }) :
    wpAny (model prog w) A (newList []) (fun acc s₃ => wpAny (model prog w) A (newFunctionEnv scope env.globals cl [] env.qual none .none (some env)) (fun cenv s₄ =>
      codeAny (model prog w) A (.compStart (.ListComp elt [⟨target, iter, ifs, 0⟩] scope pos) 0 (.ref I) acc { cenv with scope := relabel scope env }) (RR acc cenv.locals) s₄) E s₃) E s₂ := by
  refine wpAny_newObj_type (wpAny_newFunctionEnv hcell (by intro y hy; simp at hy) (fun h₁ hns₁ hsb₁ => ?_) hkind)
  dsimp only at hns₁ hsb₁ ⊢
  generalize hH2 : s₂.heap.push { cls := .type "list", dict := none, data := .seq ([] : List Value).toArray } = H2 at hns₁ hsb₁ ⊢
  have hC : H2.objs.size = s₂.heap.objs.size + 1 := by rw [← hH2, Heap.size_push]
  generalize hCe : H2.objs.size = C at hns₁ hsb₁ hC ⊢
  generalize hDe : s₂.heap.objs.size = D at hC hfp ⊢
  have hC : @Eq Nat C (D + 1) := hC
  have hDC : @Ne Nat D C := by omega
  have hIlt : @LT.lt Nat _ I D := hfp I (W.sub I (List.mem_singleton.mpr rfl))
  have hDf : D ∉ fp := fun hm => Nat.lt_irrefl _ (hfp _ hm)
  have hCf : C ∉ fp := fun hm => by have : @LT.lt Nat _ C D := hfp _ hm; omega
  have old : ∀ b o, s₂.heap.get? b = some o → h₁.get? b = some o := fun b o e => hsb₁.extBut b o (by have : @LT.lt Nat _ b s₂.heap.objs.size := Heap.lt_size e; show @Ne Nat b C; omega) (Heap.get?_push_of_some _ (hH2 ▸ Heap.get?_push_of_some _ e))
  have hacc : h₁.get? D = some (lst []) := hsb₁.extBut _ _ hDC (Heap.get?_push_of_some _ (hH2 ▸ hDe ▸ Heap.get?_push_size _ rfl))
  have hst₁ : St 0 h₁ := W.frame _ _ _ hst fun b _ o e => old b o e
  have fresh₀ : ∀ a, D ≤ a → h₀.get? a = none := fun a ha => by
    cases e : h₀.get? a with
    | none => rfl
    | some o' => have : @LT.lt Nat _ a s₂.heap.objs.size := Heap.lt_size (F.keep a o' e); have : @LE.le Nat _ D a := ha; omega
  have hD₀ : h₀.get? D = none := fresh₀ _ (Nat.le_refl _)
  have hC₀ : h₀.get? C = none := fresh₀ _ (by show @LE.le Nat _ D C; omega)
  have hLlt : @LT.lt Nat _ L D := by have : @LT.lt Nat _ L s₂.heap.objs.size := F.ns.lt; omega
  have hDL : @Ne Nat D L := by omega
  have hCL : @Ne Nat C L := by omega
  have hCI : @Ne Nat C I := by omega
  have hDI : @Ne Nat D I := by omega
  have hlt : ∀ p ∈ news, p.1 < D := fun p hp => by have : @LT.lt Nat _ p.1 s₂.heap.objs.size := Heap.lt_size (N p hp).1; show @LT.lt Nat _ p.1 D; omega
  have offC : ∀ p ∈ news, p.1 ≠ C := fun p hp => by have : @LT.lt Nat _ p.1 D := hlt p hp; show @Ne Nat p.1 C; omega
  have offD : ∀ p ∈ news, p.1 ≠ D := fun p hp => by have : @LT.lt Nat _ p.1 D := hlt p hp; show @Ne Nat p.1 D; omega
  have loop : ∀ s₃ : Shared, s₃ = { s₂ with heap := h₁, toks := s₂.toks + ([] : List (Str × Value)).length } →
      codeAny (model prog w) A (.compLoop (.ListComp elt [⟨target, iter, ifs, 0⟩] scope pos) 0 (.ref I) (.ref D) (compEnvC scope cl C env)) (RR (.ref D) C) s₃ := by
    rintro s₃ rfl
    refine compLoop_all
      (fun k s' => ∃ h' tk gs m', s' = { s₂ with heap := h', toks := tk } ∧ gs.length ≤ n ∧ k = n + 1 - gs.length ∧ St gs.length h' ∧ Fr h₀ L h' m ∧ h'.Ns C m' ∧ News h₀ L h' ((D, lst (gs.filterMap id)) :: news) ∧ (∀ j g, gs[j]? = some g → G j g)) ?_ (n + 1)
      ⟨h₁, _, [], _, rfl, Nat.zero_le _, rfl, hst₁, F.keeps old, hns₁, fun p hp => ?_, by simp⟩
    · rintro k s' ⟨h', tk, gs, m', rfl, hi, rfl, hst', F', hn', N', hG⟩
      by_cases hlt' : gs.length < n
      · refine W.item gs.length _ _ _ hlt' hst' fun v h₂ tk₂ hPv hst₂ hk₂ => ?_
        have kI : ∀ b o, b ≠ I → h'.get? b = some o → h₂.get? b = some o := fun b o hb e => hk₂ b o (by simpa using hb) e
        have F₂ : Fr h₀ L h₂ m := fr_but F' hk₂ hIL hI₀
        have N₂ : News h₀ L h₂ ((D, lst (gs.filterMap id)) :: news) := news_but N' hk₂ fun p hp => by
          rcases List.mem_cons.mp hp with rfl | hp
          · exact hDI
          · exact off p hp
        refine ht gs.length v _ _ _ hPv hst₂ ?_
        refine wpAny_mono (hass gs.length v C h₂ tk₂ _ _ hPv (hn'.at' fun o e => kI _ o hCI e) F₂ (fun p hp => N₂ p (.tail _ hp)) hCL hC₀ offC) (fun _ s₃ h₃ => ?_) fun _ _ e => e
        obtain ⟨h₃, tk₃, m₃, rfl, hn₃, hk₃, hB⟩ := h₃
        have hst₃ : St (gs.length + 1) h₃ := W.frame _ _ _ hst₂ fun b hb o e => hk₃ b o (fun q => hCf (q ▸ hb)) e
        obtain ⟨oI, heI⟩ := hIo _ _ hst₃
        obtain ⟨oC, heC, hoC⟩ := ns_obj hn₃
        have F₃ : Fr h₀ L h₃ m := ⟨F₂.ns.at' fun o e => hk₃ L o (Ne.symm hCL) e, fun b o e => hk₃ b o (fun q => by rw [q, hC₀] at e; cases e) (F₂.keep b o e), F₂.above⟩
        have N₃ : News h₀ L h₃ ((I, oI) :: (C, oC) :: (D, lst (gs.filterMap id)) :: news) := fun p hp => by
          rcases List.mem_cons.mp hp with rfl | hp
          · exact ⟨heI, Ne.symm hIL, hI₀⟩
          · rcases List.mem_cons.mp hp with rfl | hp
            · exact ⟨heC, hCL, hC₀⟩
            · refine ⟨hk₃ _ _ ?_ (N₂ p hp).1, (N₂ p hp).2⟩
              rcases List.mem_cons.mp hp with rfl | hp
              · exact hDC
              · exact offC p hp
        refine wpAny_mono (turn gs.length hlt' I oI C oC D _ m₃ h₃ tk₃ _ hB hoC F₃ N₃ offC) (fun ok s₄ h₄ => ?_) fun _ _ e => e
        have back : ∀ {y : Option Value} {s₅ : Shared}, CEnd h₀ L m s₂ ((I, oI) :: (C, oC) :: (D, lst (gs.filterMap id)) :: news) (G gs.length) y s₅ → ∃ h₅ tk₅, s₅ = { s₂ with heap := h₅, toks := tk₅ } ∧ Fr h₀ L h₅ m ∧ St (gs.length + 1) h₅ ∧ h₅.Ns C m₃ ∧ h₅.get? D = some (lst (gs.filterMap id)) ∧ News h₀ L h₅ news ∧ (∀ j g, (gs ++ [y])[j]? = some g → G j g) := by
          rintro y s₅ ⟨h₅, tk₅, rfl, F₅, N₅, g₅⟩
          refine ⟨h₅, tk₅, rfl, F₅, hSt _ _ _ _ hst₃ heI (N₅ _ (.head _)).1 F₅.keep (fun p hp => N₅ p (.tail _ (.tail _ (.tail _ hp)))), hoC.ns (N₅ _ (.tail _ (.head _))).1, (N₅ _ (.tail _ (.tail _ (.head _)))).1, fun p hp => N₅ p (.tail _ (.tail _ (.tail _ hp))), ?_⟩
          intro j g hj
          rcases Nat.lt_trichotomy j gs.length with h | h | h
          · exact hG j g (by rwa [List.getElem?_append_left h] at hj)
          · subst h; simp at hj; subst hj; exact g₅
          · have hnone : (gs ++ [y])[j]? = none := List.getElem?_eq_none (by rw [List.length_append, List.length_singleton]; omega)
            rw [hnone] at hj; cases hj
        cases ok with
        | false =>
          simp only [Bool.false_eq_true, if_false] at h₄ ⊢
          obtain ⟨h₅, tk₅, rfl, F₅, hst₅, hn₅, hD₅, N₅, hG₅⟩ := back h₄
          refine ⟨n + 1 - (gs.length + 1), by omega, h₅, tk₅, gs ++ [none], m₃, rfl, by simp; omega, by simp, by simpa using hst₅, F₅, hn₅, ?_, hG₅⟩
          intro p hp
          rcases List.mem_cons.mp hp with rfl | hp
          · exact ⟨by simpa using hD₅, hDL, hD₀⟩
          · exact N₅ p hp
        | true =>
          simp only [if_true] at h₄ ⊢
          refine wpAny_mono h₄ (fun y s₅ h₅' => ?_) fun _ _ e => e
          obtain ⟨h₅, tk₅, rfl, F₅, hst₅, hn₅, hD₅, N₅, hG₅⟩ := back h₅'
          have hlen : (gs.filterMap id).length ≤ n := Nat.le_trans (List.length_filterMap_le _ _) hi
          refine append_at (hsz := by show (gs.filterMap id).toArray.size ≤ sizeLine; rw [List.size_toArray]; exact Nat.le_trans hlen hsz) hD₅ fun h₆ hs₆ hD₆ => ?_
          refine ⟨n + 1 - (gs.length + 1), by omega, h₆, tk₅, gs ++ [some y], m₃, rfl, by simp; omega, by simp, ?_, F₅.change hs₆ hDL hD₀, hn₅.sameBut hs₆ (Ne.symm hDC), ?_, hG₅⟩
          · rw [List.length_append, List.length_singleton]
            exact W.frame _ _ _ hst₅ fun b hb o e => hs₆.extBut b o (fun q => hDf (q ▸ hb)) e
          · intro p hp
            rcases List.mem_cons.mp hp with rfl | hp
            · refine ⟨?_, hDL, hD₀⟩
              rw [List.filterMap_append]
              exact hD₆.trans (congrArg some (lst_snoc (gs.filterMap id) y))
            · exact ⟨hs₆.extBut _ _ (offD p hp) (N₅ p hp).1, (N₅ p hp).2⟩
      · obtain hin : gs.length = n := by omega
        rw [hin] at hst'
        refine W.done _ _ _ hst' fun h₂ tk₂ hk₂ => ?_
        have kI : ∀ b o, b ≠ I → h'.get? b = some o → h₂.get? b = some o := fun b o hb e => hk₂ b o (by simpa using hb) e
        exact hRR _ _ h₂ tk₂ _ gs (fr_but F' hk₂ hIL hI₀) (news_but N' hk₂ fun p hp => by
          rcases List.mem_cons.mp hp with rfl | hp
          · exact hDI
          · exact off p hp) (hn'.at' fun o e => kI _ o hCI e) hC₀ hD₀ hCL hDL (Ne.symm hDC) offC hlt hin hG
    · rcases List.mem_cons.mp hp with rfl | hp
      · exact ⟨hacc, hDL, hD₀⟩
      · exact ⟨old _ _ (N p hp).1, (N p hp).2⟩
  exact codeAny_compStart_list (loop _ rfl) (W.self 0 _ _ _ hst₁ (loop _ rfl))

/-- the comprehension's block behind its source's iterator -/
abbrev CBlock (prog : Program) (w : World) (A : Around) (E : Value → Shared → Prop) (env : Env) (elt target iter : Expr) (ifs : List Expr) (scope : Scope) (cl : List (Str × Addr)) (pos : Pos) (RR : Value → Addr → Result → Shared → Prop) (it : Value) (s₂ : Shared) : Prop :=
  wpAny (model prog w) A (newList []) (fun acc s₃ => wpAny (model prog w) A (newFunctionEnv scope env.globals cl [] env.qual none .none (some env)) (fun cenv s₄ =>
      codeAny (model prog w) A (.compStart (.ListComp elt [⟨target, iter, ifs, 0⟩] scope pos) 0 it acc { cenv with scope := relabel scope env }) (RR acc cenv.locals) s₄) E s₃) E s₂
def CFin (h₀ : Heap) (L : Addr) (m : Str → Option Value) (s₁ : Shared) (n : Nat) (G : Nat → Option Value → Prop) (news : List (Addr × Obj)) (RR : Value → Addr → Result → Shared → Prop) : Prop :=
  ∀ D C h tk m' (gs : List (Option Value)), Fr h₀ L h m → News h₀ L h ((D, lst (gs.filterMap id)) :: news) → h.Ns C m' → h₀.get? C = none → h₀.get? D = none → C ≠ L → D ≠ L → C ≠ D → (∀ p ∈ news, p.1 ≠ C) → (∀ p ∈ news, p.1 < D) → gs.length = n → (∀ j g, gs[j]? = some g → G j g) → RR (.ref D) C (.ok .next) { s₁ with heap := h, toks := tk }

theorem cfin_expr {n : Nat} {G : Nat → Option Value → Prop} {news : List (Addr × Obj)} {Q : Value → Shared → Prop}
    (fin : ∀ D h tk (gs : List (Option Value)), Fr h₀ L h m → News h₀ L h ((D, lst (gs.filterMap id)) :: news) → (∀ p ∈ news, p.1 < D) → gs.length = n → (∀ j g, gs[j]? = some g → G j g) → Q (.ref D) { s with heap := h, toks := tk }) :
    CFin h₀ L m s n G news (fun acc C => compPost (model prog w) A E none Q acc C) := by
  intro D C h tk m' gs F' N' hn hC₀ hD₀ hCL hDL hCD offC hlt hl hG
  refine ⟨m', hn, fun h'' hs'' => fin D h'' tk gs (F'.change hs'' hCL hC₀) (fun p hp => ?_) hlt hl hG⟩
  refine ⟨hs''.extBut _ _ ?_ (N' p hp).1, (N' p hp).2⟩
  rcases List.mem_cons.mp hp with rfl | hp
  · exact Ne.symm hCD
  · exact offC p hp
theorem cfin_assign {y : Str} {py : Pos} {n : Nat} {G : Nat → Option Value → Prop} {news : List (Addr × Obj)} {Q : Flow → Shared → Prop} (hy : env.kindOf y = some .local) (hp : (env.scope.kind == .class || (env.scope.kind == .module && env.locals != env.globals)) = false)
    (fin : ∀ D h tk (gs : List (Option Value)), Fr h₀ env.locals h (fun z => if z = y then some (.ref D) else m z) → News h₀ env.locals h ((D, lst (gs.filterMap id)) :: news) → (∀ p ∈ news, p.1 < D) → gs.length = n → (∀ j g, gs[j]? = some g → G j g) → Q .next { s with heap := h, toks := tk }) :
    CFin h₀ env.locals m s n G news (fun acc C => compPost (model prog w) A E (some (assign (.Name y py) env)) (fun _ s' => Q .next s') acc C) := by
  intro D C h tk m' gs F' N' hn hC₀ hD₀ hCL hDL hCD offC hlt hl hG
  show wpAny _ A (assign (.Name y py) env (.ref D)) _ _ _
  refine wpAny_assign_Name (wpAny_storeName_local hy F'.ns (fun h₂ hn₂ hs₂ => ?_) hp)
  have hL₀ : h₀.get? env.locals = none := Heap.get?_none_of_le F'.above
  have F₂ : Fr h₀ env.locals h₂ (fun z => if z = y then some (.ref D) else m z) := ⟨hn₂, fun b o e => hs₂.extBut b o (fun q => by rw [q, hL₀] at e; cases e) (F'.keep b o e), F'.above⟩
  refine ⟨m', hn.sameBut hs₂ hCL, fun h'' hs'' => fin D h'' _ gs (F₂.change hs'' hCL hC₀) (fun p hp => ?_) hlt hl hG⟩
  have z : h₂.get? p.1 = some p.2 := hs₂.extBut _ _ (N' p hp).2.1 (N' p hp).1
  refine ⟨hs''.extBut _ _ ?_ z, (N' p hp).2⟩
  rcases List.mem_cons.mp hp with rfl | hp
  · exact Ne.symm hCD
  · exact offC p hp

theorem ListComp_E {elt target iter : Expr} {ifs : List Expr} {scope : Scope} {cl : List (Str × Addr)} {pos : Pos} {Q : Value → Shared → Prop}
    (hclos : closureFor scope env = pure cl) (hkind : scope.kind = .function) (hnames : ∀ y ∈ scope.names, y.2 = .local → scope.names.lookup y.1 = some .local)
    (h : wpAny (model prog w) A (eval iter env) (fun xv s₁ => wpAny (model prog w) A (pyIter xv) (fun it s₂ => CBlock prog w A E env elt target iter ifs scope cl pos (fun acc C => compPost (model prog w) A E none Q acc C) it s₂) E s₁) E s)
    (hs : ∀ x, foldedSetIterable iter env x = pure x := by intro _; rfl) :
    wpAny (model prog w) A (eval (.ListComp elt [⟨target, iter, ifs, 0⟩] scope pos) env) Q E s := by
  rw [eval_ListComp]
  exact wpAny_comprehension_free (use := none) rfl hs hclos hkind hnames h
theorem ListComp_A {elt target iter : Expr} {ifs : List Expr} {y : Str} {py : Pos} {scope : Scope} {cl : List (Str × Addr)} {pos spos : Pos} {Q : Flow → Shared → Prop}
    (hsw : swapsWith (.ListComp elt [⟨target, iter, ifs, 0⟩] scope pos) (some (.Name y py)) spos.line env = pure true)
    (hclos : closureFor scope env = pure cl) (hkind : scope.kind = .function) (hnames : ∀ y ∈ scope.names, y.2 = .local → scope.names.lookup y.1 = some .local)
    (h : wpAny (model prog w) A (eval iter env) (fun xv s₁ => wpAny (model prog w) A (pyIter xv) (fun it s₂ => CBlock prog w A E env elt target iter ifs scope cl pos (fun acc C => compPost (model prog w) A E (some (assign (.Name y py) env)) (fun _ s' => Q .next s') acc C) it s₂) E s₁) E s)
    (hs : ∀ x, foldedSetIterable iter env x = pure x := by intro _; rfl) :
    wpAny (model prog w) A (exec (.Assign [.Name y py] (.ListComp elt [⟨target, iter, ifs, 0⟩] scope pos) spos) env) Q E s := by
  rw [exec_Assign_Name_used _ _ _ _ hsw]
  refine wpAny_bind (wpAny_standAt (wpAny_bind ?_))
  show wpAny _ A (do let _ ← comprehension (.ListComp elt [⟨target, iter, ifs, 0⟩] scope pos) scope env _ (newList []) false (eval iter env) (some (assign (.Name y py) env))) _ _ s
  exact wpAny_bind (wpAny_mono (wpAny_comprehension_free (use := some (assign (.Name y py) env)) (Q := fun _ s' => Q .next s') rfl hs hclos hkind hnames h) (fun _ s' hq => wpAny_pure (wpAny_pure hq)) fun _ _ e => e)

/-- the target's binding: a name -/
theorem bind_name {scope : Scope} {cl : List (Str × Addr)} {x : Str} {px : Pos} {P : Nat → Value → Prop} {s₂ : Shared} {news : List (Addr × Obj)} (hkind : scope.kind = .function) (hx : scope.names.lookup x = some .local) :
    ∀ i v C h tk m' (E' : Value → Shared → Prop), P i v → h.Ns C m' → Fr h₀ L h m → News h₀ L h news → C ≠ L → h₀.get? C = none → (∀ p ∈ news, p.1 ≠ C) →
      wpAny (model prog w) A (assign (.Name x px) (compEnvC scope cl C env) v) (fun _ s₃ => ∃ h₃ tk₃ m₃, s₃ = { s₂ with heap := h₃, toks := tk₃ } ∧ h₃.Ns C m₃ ∧ (∀ b o, b ≠ C → h.get? b = some o → h₃.get? b = some o) ∧ ∃ v, P i v ∧ m₃ x = some v) E' { s₂ with heap := h, toks := tk } := by
  intro i v C h tk m' E' hP hn _ _ _ _ _
  refine wpAny_assign_Name (wpAny_storeName_local (lookup_relabel_local hx) hn (fun h₃ hn₃ hs₃ => ?_) (by simp [compEnvC, relabel, hkind]))
  exact ⟨h₃, _, _, rfl, hn₃, fun b o hb e => hs₃.extBut b o hb e, v, hP, by simp⟩
/-- a pair of names, out of a list of two -/
theorem bind_pair {scope : Scope} {cl : List (Str × Addr)} {x x₂ : Str} {px px₂ tp : Pos} {kk : Nat} {P : Nat → Value → Prop} {s₂ : Shared} {news : List (Addr × Obj)} (hh : A.handled = none) (hkind : scope.kind = .function) (hx : scope.names.lookup x = some .local) (hx₂ : scope.names.lookup x₂ = some .local) (hxx : x ≠ x₂) (B2 : Nat → Value → Value → Prop)
    (hP : ∀ i v, P i v → ∃ t v₁ v₂ n, v = .ref t ∧ (t, W.listOf #[v₁, v₂] n) ∈ news ∧ B2 i v₁ v₂) :
    ∀ i v C h tk m' (E' : Value → Shared → Prop), P i v → h.Ns C m' → Fr h₀ L h m → News h₀ L h news → C ≠ L → h₀.get? C = none → (∀ p ∈ news, p.1 ≠ C) →
      wpAny (model prog w) A (assign (.Tuple [.Name x px, .Name x₂ px₂] kk tp) (compEnvC scope cl C env) v) (fun _ s₃ => ∃ h₃ tk₃ m₃, s₃ = { s₂ with heap := h₃, toks := tk₃ } ∧ h₃.Ns C m₃ ∧ (∀ b o, b ≠ C → h.get? b = some o → h₃.get? b = some o) ∧
        ∃ v₁ v₂, B2 i v₁ v₂ ∧ m₃ x = some v₁ ∧ m₃ x₂ = some v₂) E' { s₂ with heap := h, toks := tk } := by
  intro i v C h tk m' E' hPv hn F N hCL hC₀ hoff
  obtain ⟨t, v₁, v₂, n, rfl, hm, hb2⟩ := hP i v hPv
  have hl : h.IsList t #[v₁, v₂] := ⟨_, (N _ hm).1, rfl, n, rfl⟩
  rw [arm_assign_Tuple]
  refine wpAny_bind (wpAny_standAt ?_)
  unfold unpack
  refine wpAny_bind (wpAny_holding (kun_itemsOf (s := { s₂ with heap := h, toks := tk }) (items := #[v₁, v₂]) hh hl fun h' he => ?_))
  have hn' : h'.Ns C m' := by
    refine hn.at' fun o e => he C o (Nat.ne_of_lt (Heap.lt_size e)) e
  have hk' : ∀ b o, h.get? b = some o → h'.get? b = some o := fun b o e => he b o (Nat.ne_of_lt (Heap.lt_size e)) e
  show wpAny _ _ (holding [v₂] (assign (.Name x px) (compEnvC scope cl C env) v₁) >>= fun _ => (holding [] (assign (.Name x₂ px₂) (compEnvC scope cl C env) v₂) >>= fun _ => pure ())) _ _ _
  have hp : ((compEnvC scope cl C env).scope.kind == .class || ((compEnvC scope cl C env).scope.kind == .module && (compEnvC scope cl C env).locals != (compEnvC scope cl C env).globals)) = false := by simp [compEnvC, relabel, hkind]
  refine wpAny_bind (wpAny_holding (wpAny_assign_Name (wpAny_storeName_local (lookup_relabel_local hx) hn' (fun h₃ hn₃ hs₃ => ?_) hp)))
  refine wpAny_bind (wpAny_holding (wpAny_assign_Name (wpAny_storeName_local (lookup_relabel_local hx₂) hn₃ (fun h₄ hn₄ hs₄ => wpAny_pure ?_) hp)))
  exact ⟨h₄, _, _, rfl, hn₄, fun b o hb e => hs₄.extBut b o hb (hs₃.extBut b o hb (hk' b o e)), v₁, v₂, hb2, by simp [hxx], by simp⟩

theorem csrc_list {elt target iter : Expr} {ifs : List Expr} {scope : Scope} {cl : List (Str × Addr)} {pos : Pos} {RR : Value → Addr → Result → Shared → Prop} {news : List (Addr × Obj)} {ax : Addr} {its : List Value} {c : Nat} (Bd : Nat → (Str → Option Value) → Prop) (G : Nat → Option Value → Prop)
    (hh : A.handled = none) (hcell : ∀ y ∈ scope.names, y.2 ≠ .cell) (hkind : scope.kind = .function) (F : Fr h₀ L s.heap m) (N : News h₀ L s.heap news) (hm : (ax, W.listOf its.toArray c) ∈ news) (hsz : its.length ≤ sizeLine)
    (ht : ∀ I i v s' (Q : Unit → Shared → Prop) (E' : Value → Shared → Prop), its[i]? = some v → s'.heap.IsListIter I ax (i + 1) → Q () s' → wpAny (model prog w) A (letOwnedTupleGo target (.ref I) v) Q E' s')
    (hass : ∀ i v C h tk m' (E' : Value → Shared → Prop), its[i]? = some v → h.Ns C m' → Fr h₀ L h m → News h₀ L h news → C ≠ L → h₀.get? C = none → (∀ p ∈ news, p.1 ≠ C) →
      wpAny (model prog w) A (assign target (compEnvC scope cl C env) v) (fun _ s₃ => ∃ h₃ tk₃ m₃, s₃ = { s with heap := h₃, toks := tk₃ } ∧ h₃.Ns C m₃ ∧ (∀ b o, b ≠ C → h.get? b = some o → h₃.get? b = some o) ∧ Bd i m₃) E' { s with heap := h, toks := tk })
    (turn : ∀ i, i < its.length → CTurn prog w A h₀ L m env elt ifs scope cl s news (Bd i) (G i))
    (fin : CFin h₀ L m s its.length G news RR) :
    wpAny (model prog w) A (pyIter (.ref ax)) (fun it s₂ => CBlock prog w A E env elt target iter ifs scope cl pos RR it s₂) E s := by
  have hl : s.heap.IsList ax its.toArray := ⟨_, (N _ hm).1, rfl, c, rfl⟩
  have hlt : ax < s.heap.objs.size := Heap.lt_size (N _ hm).1
  refine wpAny_pyIter_list hl ?_
  have up : ∀ b o, s.heap.get? b = some o → (s.heap.push { cls := .type "list_iterator", data := .fields #[.ref ax, .int 0 0] }).get? b = some o := fun b o e => Heap.get?_push_of_some _ e
  have W := Walks.list (prog := prog) (w := w) hh s.heap.objs.size ax (Nat.ne_of_lt hlt) its.toArray
  have hs1 : its.toArray.size = its.length := by simp
  rw [hs1] at W
  refine comp_block Bd G W hsz (fun i h st => by obtain ⟨o, e, _⟩ := st.1; exact ⟨o, e⟩) ?_ ?_ hcell hkind ⟨⟨_, Heap.get?_push_size _ rfl, rfl, rfl⟩, hl.push _⟩ (fun b hb => ?_)
    (F.keeps up) (N.grown up) (Nat.ne_of_lt F.ns.lt) (next_is_new F) (fun p hp => Nat.ne_of_lt (Heap.lt_size (N p hp).1)) ?_ turn fin
  · intro i h h' o st e e' _ N'
    refine ⟨?_, _, (N' _ hm).1, rfl, c, rfl⟩
    obtain ⟨o', q, r⟩ := st.1
    rw [e] at q; cases q
    exact ⟨o, e', r⟩
  · intro i v s' Q E' hP hst hQ
    exact ht _ i v s' Q E' (by simpa using hP) hst.1 hQ
  · show b < (s.heap.push _).objs.size
    rw [Heap.size_push]
    rcases List.mem_cons.mp hb with rfl | hb
    · exact Nat.lt_succ_self _
    · rw [List.mem_singleton.mp hb]; exact Nat.lt_succ_of_lt hlt
  · intro i v C h tk m' E' hP
    exact hass i v C h tk m' E' (by simpa using hP)
theorem csrc_base {elt target iter : Expr} {ifs : List Expr} {scope : Scope} {cl : List (Str × Addr)} {pos : Pos} {RR : Value → Addr → Result → Shared → Prop} {news : List (Addr × Obj)} {ax : Addr} {its : List Value} (Bd : Nat → (Str → Option Value) → Prop) (G : Nat → Option Value → Prop)
    (hh : A.handled = none) (hcell : ∀ y ∈ scope.names, y.2 ≠ .cell) (hkind : scope.kind = .function) (F : Fr h₀ L s.heap m) (N : News h₀ L s.heap news) (hb : h₀.IsList ax its.toArray) (hsz : its.length ≤ sizeLine)
    (ht : ∀ I i v s' (Q : Unit → Shared → Prop) (E' : Value → Shared → Prop), its[i]? = some v → s'.heap.IsListIter I ax (i + 1) → Q () s' → wpAny (model prog w) A (letOwnedTupleGo target (.ref I) v) Q E' s')
    (hass : ∀ i v C h tk m' (E' : Value → Shared → Prop), its[i]? = some v → h.Ns C m' → Fr h₀ L h m → News h₀ L h news → C ≠ L → h₀.get? C = none → (∀ p ∈ news, p.1 ≠ C) →
      wpAny (model prog w) A (assign target (compEnvC scope cl C env) v) (fun _ s₃ => ∃ h₃ tk₃ m₃, s₃ = { s with heap := h₃, toks := tk₃ } ∧ h₃.Ns C m₃ ∧ (∀ b o, b ≠ C → h.get? b = some o → h₃.get? b = some o) ∧ Bd i m₃) E' { s with heap := h, toks := tk })
    (turn : ∀ i, i < its.length → CTurn prog w A h₀ L m env elt ifs scope cl s news (Bd i) (G i))
    (fin : CFin h₀ L m s its.length G news RR) :
    wpAny (model prog w) A (pyIter (.ref ax)) (fun it s₂ => CBlock prog w A E env elt target iter ifs scope cl pos RR it s₂) E s := by
  have hl : s.heap.IsList ax its.toArray := hb.at fun o e => F.keep ax o e
  have hlt : ax < s.heap.objs.size := by obtain ⟨_, e, _⟩ := hl; exact Heap.lt_size e
  refine wpAny_pyIter_list hl ?_
  have up : ∀ b o, s.heap.get? b = some o → (s.heap.push { cls := .type "list_iterator", data := .fields #[.ref ax, .int 0 0] }).get? b = some o := fun b o e => Heap.get?_push_of_some _ e
  have W := Walks.list (prog := prog) (w := w) hh s.heap.objs.size ax (Nat.ne_of_lt hlt) its.toArray
  have hs1 : its.toArray.size = its.length := by simp
  rw [hs1] at W
  refine comp_block Bd G W hsz (fun i h st => by obtain ⟨o, e, _⟩ := st.1; exact ⟨o, e⟩) ?_ ?_ hcell hkind ⟨⟨_, Heap.get?_push_size _ rfl, rfl, rfl⟩, hl.push _⟩ (fun b hb => ?_)
    (F.keeps up) (N.grown up) (Nat.ne_of_lt F.ns.lt) (next_is_new F) (fun p hp => Nat.ne_of_lt (Heap.lt_size (N p hp).1)) ?_ turn fin
  · intro i h h' o st e e' k N'
    refine ⟨?_, hb.at fun o e => k _ _ e⟩
    obtain ⟨o', q, r⟩ := st.1
    rw [e] at q; cases q
    exact ⟨o, e', r⟩
  · intro i v s' Q E' hP hst hQ
    exact ht _ i v s' Q E' (by simpa using hP) hst.1 hQ
  · show b < (s.heap.push _).objs.size
    rw [Heap.size_push]
    rcases List.mem_cons.mp hb with rfl | hb
    · exact Nat.lt_succ_self _
    · rw [List.mem_singleton.mp hb]; exact Nat.lt_succ_of_lt hlt
  · intro i v C h tk m' E' hP
    exact hass i v C h tk m' E' (by simpa using hP)
theorem csrc_range {elt iter : Expr} {ifs : List Expr} {x : Str} {px : Pos} {scope : Scope} {cl : List (Str × Addr)} {pos : Pos} {RR : Value → Addr → Result → Shared → Prop} {news : List (Addr × Obj)} {r : Addr} {t₀ u₀ v₀ : Tok} {n : Nat} (a b : Int) (G : Nat → Option Value → Prop)
    (hh : A.handled = none) (hcell : ∀ y ∈ scope.names, y.2 ≠ .cell) (hkind : scope.kind = .function) (hx : scope.names.lookup x = some .local) (F : Fr h₀ L s.heap m) (N : News h₀ L s.heap news) (hr : IsRange s.heap r a b 1 t₀ u₀ v₀) (hsmall : Builtin.Range.small a b 1 = true) (hn : Builtin.Range.rangeSize a b 1 = (n : Int)) (hsz : n ≤ sizeLine)
    (turn : ∀ i, i < n → CTurn prog w A h₀ L m env elt ifs scope cl s news (fun m₃ => ∃ t, m₃ x = some (.int (a + (i : Int)) t)) (G i))
    (fin : CFin h₀ L m s n G news RR) :
    wpAny (model prog w) A (pyIter (.ref r)) (fun it s₂ => CBlock prog w A E env elt (.Name x px) iter ifs scope cl pos RR it s₂) E s := by
  refine wpAny_pyIter_range hr hsmall ?_
  have hb := bind_name (prog := prog) (w := w) (A := A) (env := env) (h₀ := h₀) (L := L) (m := m) (cl := cl) (px := px) (P := fun (i : Nat) (v : Value) => ∃ t, v = .int (a + (i : Int)) t) (s₂ := s) (news := news) hkind hx
  refine comp_block (fun i m₃ => ∃ t, m₃ x = some (.int (a + (i : Int)) t)) G (range_walks hh a n) hsz (fun i h st => ⟨_, st⟩) ?_ ?_ hcell hkind (by show IsRangeIter _ _ _ _ _; rw [hn]; simpa using Heap.get?_push_size _ rfl) (fun b hb => ?_)
    (F.keeps fun _ _ e => Heap.get?_push_of_some _ e) (N.grown fun _ _ e => Heap.get?_push_of_some _ e) (Nat.ne_of_lt F.ns.lt) (next_is_new F) (fun p hp => Nat.ne_of_lt (Heap.lt_size (N p hp).1)) ?_ turn fin
  · intro i h h' o st e e' _ _
    have st' : h.get? _ = some _ := st
    show h'.get? _ = some _
    rw [e', ← e]; exact st'
  · intro i v s' Q E' _ _ hQ
    exact wpAny_pure hQ
  · rw [List.mem_singleton.mp hb]
    show s.heap.objs.size < (s.heap.push _).objs.size
    rw [Heap.size_push]; exact Nat.lt_succ_self _
  · intro i v C h tk m' E' hP h1 h2 h3 h4 h5 h6
    refine wpAny_mono (hb i v C h tk m' E' hP h1 h2 h3 h4 h5 h6) ?_ fun _ _ e => e
    rintro _ s₃ ⟨h₃, tk₃, m₃, e, hn₃, hk₃, v', ⟨t, rfl⟩, hv⟩
    exact ⟨h₃, tk₃, m₃, e, hn₃, hk₃, t, hv⟩
theorem csrc_str {elt iter : Expr} {ifs : List Expr} {x : Str} {px : Pos} {scope : Scope} {cl : List (Str × Addr)} {pos : Pos} {RR : Value → Addr → Result → Shared → Prop} {news : List (Addr × Obj)} {p : List Nat} {tx : Tok} (G : Nat → Option Value → Prop)
    (hh : A.handled = none) (hcell : ∀ y ∈ scope.names, y.2 ≠ .cell) (hkind : scope.kind = .function) (hx : scope.names.lookup x = some .local) (F : Fr h₀ L s.heap m) (N : News h₀ L s.heap news) (hsz : p.length ≤ sizeLine)
    (turn : ∀ i, i < p.length → CTurn prog w A h₀ L m env elt ifs scope cl s news (fun m₃ => ∃ c t, p[i]? = some c ∧ m₃ x = some (.str (S [c]) t)) (G i))
    (fin : CFin h₀ L m s p.length G news RR) :
    wpAny (model prog w) A (pyIter (.str (S p) tx)) (fun it s₂ => CBlock prog w A E env elt (.Name x px) iter ifs scope cl pos RR it s₂) E s := by
  have hs1 : (S p).cps.size = p.length := by simp [S]
  have hb := bind_name (prog := prog) (w := w) (A := A) (env := env) (h₀ := h₀) (L := L) (m := m) (cl := cl) (px := px) (P := SignAt (S p)) (s₂ := s) (news := news) hkind hx
  have key : ∀ (o : Obj) (St : Nat → Heap → Prop), Walks prog w A s.heap.objs.size [s.heap.objs.size] [s.heap.objs.size] (S p).cps.size (SignAt (S p)) St → St 0 (s.heap.push o) → (∀ i h, St i h → ∃ o, h.get? s.heap.objs.size = some o) →
      CBlock prog w A E env elt (.Name x px) iter ifs scope cl pos RR (.ref s.heap.objs.size) { s with heap := s.heap.push o } := by
    intro o St W hst hst0
    rw [hs1] at W
    refine comp_block (fun i m₃ => ∃ c t, p[i]? = some c ∧ m₃ x = some (.str (S [c]) t)) G W hsz hst0 ?_ ?_ hcell hkind hst (fun b hb => ?_)
      (F.keeps fun _ _ e => Heap.get?_push_of_some _ e) (N.grown fun _ _ e => Heap.get?_push_of_some _ e) (Nat.ne_of_lt F.ns.lt) (next_is_new F) (fun p hp => Nat.ne_of_lt (Heap.lt_size (N p hp).1)) ?_ turn fin
    · intro i h h' o st e e' _ _
      refine W.frame i h h' st fun b hb o' ho' => ?_
      rw [List.mem_singleton.mp hb] at ho' ⊢
      rw [e] at ho'; cases ho'; exact e'
    · intro i v s' Q E' _ _ hQ
      exact wpAny_pure hQ
    · rw [List.mem_singleton.mp hb]
      show s.heap.objs.size < (s.heap.push _).objs.size
      rw [Heap.size_push]; exact Nat.lt_succ_self _
    · intro i v C h tk m' E' hP h1 h2 h3 h4 h5 h6
      refine wpAny_mono (hb i v C h tk m' E' hP h1 h2 h3 h4 h5 h6) ?_ fun _ _ e => e
      rintro _ s₃ ⟨h₃, tk₃, m₃, e, hn₃, hk₃, v', ⟨c, u, hc, rfl⟩, hv⟩
      exact ⟨h₃, tk₃, m₃, e, hn₃, hk₃, c, u, by simpa [S] using hc, hv⟩
  cases ha : (S p).cps.all (· < 128)
  · exact wpAny_pyIter_wide ha (key _ _ (Walks.strWide hh _ (S p) tx) ⟨_, Heap.get?_push_size _ rfl, rfl, rfl⟩ (fun i h st => by obtain ⟨o, e, _⟩ := st; exact ⟨o, e⟩))
  · exact wpAny_pyIter_ascii ha (key _ _ (Walks.strAscii hh _ (S p) tx) ⟨_, Heap.get?_push_size _ rfl, rfl, rfl⟩ (fun i h st => by obtain ⟨o, e, _⟩ := st; exact ⟨o, e⟩))
/-- over ints of a list of the ledger -/
theorem csrc_ints {elt iter : Expr} {ifs : List Expr} {x : Str} {px : Pos} {scope : Scope} {cl : List (Str × Addr)} {pos : Pos} {RR : Value → Addr → Result → Shared → Prop} {news : List (Addr × Obj)} {ax : Addr} {vs : List Value} {ns : List Int} {c : Nat} (G : Nat → Option Value → Prop)
    (hh : A.handled = none) (hcell : ∀ y ∈ scope.names, y.2 ≠ .cell) (hkind : scope.kind = .function) (hx : scope.names.lookup x = some .local) (F : Fr h₀ L s.heap m) (N : News h₀ L s.heap news) (hm : (ax, W.listOf vs.toArray c) ∈ news) (hi : IntsAre vs ns) (hsz : ns.length ≤ sizeLine)
    (turn : ∀ i k, ns[i]? = some k → CTurn prog w A h₀ L m env elt ifs scope cl s news (fun m₃ => ∃ t, m₃ x = some (.int k t)) (G i))
    (fin : CFin h₀ L m s ns.length G news RR) :
    wpAny (model prog w) A (pyIter (.ref ax)) (fun it s₂ => CBlock prog w A E env elt (.Name x px) iter ifs scope cl pos RR it s₂) E s := by
  have hl : vs.length = ns.length := hi.length
  rw [← hl] at fin hsz
  refine csrc_list (fun i m₃ => ∃ k t, ns[i]? = some k ∧ m₃ x = some (.int k t)) G hh hcell hkind F N hm hsz ?_ ?_ ?_ fin
  · intro I i v s' Q E' _ _ hq
    exact wpAny_pure hq
  · intro i v C h tk m' E' hP h1 h2 h3 h4 h5 h6
    refine wpAny_mono (bind_name (P := fun i v => vs[i]? = some v) hkind hx i v C h tk m' E' hP h1 h2 h3 h4 h5 h6) ?_ fun _ _ e => e
    rintro _ s₃ ⟨h₃, tk₃, m₃, e, hn₃, hk₃, v', hv', hv⟩
    have hlt : i < ns.length := by rw [← hl]; exact (List.getElem?_eq_some_iff.mp hv').1
    obtain ⟨t, ht⟩ := hi.get i ns[i] (by simp [hlt])
    rw [hv'] at ht
    cases ht
    exact ⟨h₃, tk₃, m₃, e, hn₃, hk₃, ns[i], t, by simp [hlt], hv⟩
  · intro i hi' I oI C oC D oD m₃ h tk E' hB
    obtain ⟨k, t, hk, hv⟩ := hB
    exact turn i k hk I oI C oC D oD m₃ h tk E' ⟨t, hv⟩
end comp
theorem gs_texts : ∀ {gs : List (Option Value)}, (∀ (j : Nat) (g : Option Value), gs[j]? = some g → ∃ (c : Nat) (t : Tok), g = some (Value.str (S [c]) t)) → ∃ cs : List Nat, cs.length = gs.length ∧ StrsAre (gs.filterMap id) ((cs.map fun c => [c]).map S)
  | [], _ => ⟨[], rfl, .nil⟩
  | g :: gs, k => by
    obtain ⟨c, t, e⟩ := k 0 g rfl
    subst e
    obtain ⟨cs, e1, e2⟩ := gs_texts (gs := gs) fun j g hj => k (j + 1) g (by simpa using hj)
    exact ⟨c :: cs, by simp [e1], .cons _ t e2⟩
theorem flat_ones (cs : List Nat) : (cs.map fun c => [c]).flatten = cs := by
  induction cs with
  | nil => rfl
  | cons c cs ih => simp [ih]
end Mine
end

section
open PySem PySem.W PyProof.Rows PySem.Calls
namespace Mine
open PyProof.Rows.LCg
section
variable {prog : Program} {w : World} {A : Around} {E : Value → Shared → Prop} {s : Shared} {env : Env} {h₀ : Heap} {x : Str} {body : List Stmt} {Q : Flow → Shared → Prop}
/-- a turn's end where the target is a cell and the ledger stays -/
def CStep (h₀ : Heap) (L : Addr) (led : List (Addr × Obj)) (J : (Str → Option Value) → Prop) (s s₂ : Shared) : Prop :=
  ∃ h' tk m', s₂ = { s with heap := h', toks := tk } ∧ Fr h₀ L h' m' ∧ News h₀ L h' led ∧ J m'
theorem CStep.intro {L : Addr} {led all : List (Addr × Obj)} {J : (Str → Option Value) → Prop} {h' : Heap} {tk : Nat} {m' : Str → Option Value} (F : Fr h₀ L h' m') (N : News h₀ L h' all) (hs : Sub led all) (hj : J m') : CStep h₀ L led J s { s with heap := h', toks := tk } := ⟨h', tk, m', rfl, F, news_sub N hs, hj⟩
def CPost (h₀ : Heap) (L : Addr) (led : List (Addr × Obj)) (J : (Str → Option Value) → Prop) (s : Shared) (Q : Flow → Shared → Prop) (f : Flow) (s₂ : Shared) : Prop :=
  match f with
  | .ret v => Q (.ret v) s₂
  | .brk => Q .next s₂
  | _ => CStep h₀ L led J s s₂
theorem loopC {px : Pos} {I c : Addr} {oc₀ : Obj} {v₀ : Option Value} {n : Nat} {P : Nat → Value → Prop} {St : Nat → Heap → Prop} {m₀ : Str → Option Value} {news : List (Addr × Obj)} (J : Nat → (Str → Option Value) → Prop)
    (W : Walks prog w A I [I] [I] n P St) (hIo : ∀ i h, St i h → ∃ o, h.get? I = some o) (hk : env.scope.kind = .function) (hx : env.kindOf x = some .cell) (hc : env.cells.lookup x = some c) (hE : PassesOwn (model prog w) A env E)
    (hIL : env.locals ≠ I) (hI₀ : h₀.get? I = none) (hcI : c ≠ I) (hnI : ∀ p ∈ news, p.1 ≠ I) (hnc : ∀ p ∈ news, p.1 ≠ c) (hst : St 0 s.heap) (F : Fr h₀ env.locals s.heap m₀) (N : News h₀ env.locals s.heap ((c, oc₀) :: news)) (hd : oc₀.data = .cell v₀) (hj : J 0 m₀)
    (turn : ∀ i v m₁ h tk oI oc, i < n → P i v → J i m₁ → oc.data = .cell (some v) → Fr h₀ env.locals h m₁ → News h₀ env.locals h ((I, oI) :: (c, oc) :: news) →
      wpAny (model prog w) A (execs body env) (CPost h₀ env.locals ((I, oI) :: (c, oc) :: news) (J (i + 1)) s Q) E { s with heap := h, toks := tk })
    (done : ∀ m₁ h tk oc, J n m₁ → Fr h₀ env.locals h m₁ → News h₀ env.locals h ((c, oc) :: news) → Q .next { s with heap := h, toks := tk }) :
    codeAny (model prog w) A (.forLoop (.Name x px) (.ref I) body [] env) (fun r s' => match r with | .ok f => Q f s' | .error e => cameBackBy (model prog w) A env E e s') s := by
  refine codeAny_forLoop
    (fun k s' => ∃ h' tk m' oc u i, s' = { s with heap := h', toks := tk } ∧ St i h' ∧ Fr h₀ env.locals h' m' ∧ News h₀ env.locals h' ((c, oc) :: news) ∧ oc.data = .cell u ∧ J i m' ∧ i ≤ n ∧ k = n + 1 - i) ?_ (n + 1)
    ⟨s.heap, s.toks, m₀, oc₀, v₀, 0, rfl, hst, F, N, hd, hj, Nat.zero_le _, rfl⟩
  rintro k s' ⟨h', tk, m', oc, u, i, rfl, hst', F', N', hd', hJ, hi, rfl⟩
  have hNI : ∀ p ∈ (c, oc) :: news, p.1 ≠ I := fun p hp => by
    rcases List.mem_cons.mp hp with rfl | hp
    · exact hcI
    · exact hnI p hp
  by_cases hlt : i < n
  · refine W.item i _ _ _ hlt hst' fun v h₁ tk₁ hP hst₁ hk₁ => ?_
    have F₁ : Fr h₀ env.locals h₁ m' := fr_but F' hk₁ hIL hI₀
    have N₁ : News h₀ env.locals h₁ ((c, oc) :: news) := news_but N' hk₁ hNI
    have hm := N₁ _ (.head _)
    refine wpAny_assign_Name (wpAny_storeName_cell hk hx hc ⟨oc, hm.1, hd'⟩ fun h₂ hv hs => ?_)
    obtain ⟨oc', ho', hd2⟩ := hv
    have F₂ : Fr h₀ env.locals h₂ m' := ⟨F₁.ns.sameBut hs (Ne.symm hm.2.1), fun b ob e => (hs.2 b (fun q => by rw [q, hm.2.2] at e; cases e)).trans (F₁.keep b ob e), F₁.above⟩
    obtain ⟨oI, hoI⟩ := hIo _ _ hst₁
    have hoI2 : h₂.get? I = some oI := (hs.2 I (Ne.symm hcI)).trans hoI
    have N₂ : News h₀ env.locals h₂ ((I, oI) :: (c, oc') :: news) := fun p hp => by
      rcases List.mem_cons.mp hp with rfl | hp
      · exact ⟨hoI2, Ne.symm hIL, hI₀⟩
      · rcases List.mem_cons.mp hp with rfl | hp
        · exact ⟨ho', hm.2⟩
        · have := N₁ p (.tail _ hp)
          exact ⟨(hs.2 p.1 (hnc p hp)).trans this.1, this.2⟩
    have fin : ∀ s₃, CStep h₀ env.locals ((I, oI) :: (c, oc') :: news) (J (i + 1)) s s₃ → ∃ m, m < n + 1 - i ∧ ∃ h' tk m' oc u i, s₃ = { s with heap := h', toks := tk } ∧ St i h' ∧ Fr h₀ env.locals h' m' ∧ News h₀ env.locals h' ((c, oc) :: news) ∧ oc.data = .cell u ∧ J i m' ∧ i ≤ n ∧ m = n + 1 - i := by
      rintro s₃ ⟨h₃, tk₃, m₃, rfl, F₃, N₃, hJ₃⟩
      refine ⟨n + 1 - (i + 1), by omega, h₃, tk₃, m₃, oc', _, i + 1, rfl, ?_, F₃, fun p hp => N₃ p (.tail _ hp), hd2, hJ₃, hlt, rfl⟩
      refine W.frame _ _ _ hst₁ fun b hb o e => ?_
      rw [List.mem_singleton.mp hb] at e ⊢
      rw [hoI] at e; cases e
      exact (N₃ _ (.head _)).1
    refine wpAny_mono (wpAny_passesOwn hE (turn i v m' h₂ tk₁ oI oc' hlt hP hJ hd2 F₂ N₂)) (fun f s₃ h₃ => ?_) fun _ _ e => e
    cases f with
    | ret v => exact h₃
    | brk => exact h₃
    | cont => exact fin s₃ h₃
    | next => exact fin s₃ h₃
  · obtain rfl : i = n := by omega
    refine W.done _ _ _ hst' fun h₁ tk₁ hk₁ => ?_
    exact wpAny_execs_nil (done m' h₁ tk₁ oc hJ (fr_but F' hk₁ hIL hI₀) (news_but N' hk₁ hNI))
/-- a for over a range, the target a cell -/
theorem forCell {px pos : Pos} {iter : Expr} {c : Addr} {oc₀ : Obj} {v₀ : Option Value} {n : Nat} {a b : Int} {m₀ : Str → Option Value} {news : List (Addr × Obj)} (J : Nat → (Str → Option Value) → Prop) (_F : Fr h₀ env.locals s.heap m₀)
    (hh : A.handled = none) (hk : env.scope.kind = .function) (hx : env.kindOf x = some .cell) (hc : env.cells.lookup x = some c) (hE : PassesOwn (model prog w) A env E)
    (hsmall : Builtin.Range.small a b 1 = true) (hn : Builtin.Range.rangeSize a b 1 = (n : Int)) (hnc : ∀ p ∈ news, p.1 ≠ c) (hd : oc₀.data = .cell v₀) (hj : J 0 m₀)
    (iterIs : wpAny (model prog w) A (eval iter env) (fun xv s₁ => ∃ r t₀ u₀ v₁ h tk, xv = .ref r ∧ s₁ = { s with heap := h, toks := tk } ∧ IsRange h r a b 1 t₀ u₀ v₁ ∧ Fr h₀ env.locals h m₀ ∧ News h₀ env.locals h ((c, oc₀) :: news)) E s)
    (turn : ∀ (i : Nat) t m₁ h tk I oI oc, i < n → J i m₁ → oc.data = .cell (some (.int (a + (i : Int)) t)) → Fr h₀ env.locals h m₁ → News h₀ env.locals h ((I, oI) :: (c, oc) :: news) →
      wpAny (model prog w) A (execs body env) (CPost h₀ env.locals ((I, oI) :: (c, oc) :: news) (J (i + 1)) s Q) E { s with heap := h, toks := tk })
    (done : ∀ m₁ h tk oc, J n m₁ → Fr h₀ env.locals h m₁ → News h₀ env.locals h ((c, oc) :: news) → Q .next { s with heap := h, toks := tk })
    (hs : ∀ x, foldedSetIterable iter env x = pure x := by intro _; rfl) :
    wpAny (model prog w) A (exec (.For (.Name x px) iter body [] pos) env) Q E s := by
  refine wpAny_For (wpAny_mono iterIs ?_ fun _ _ e => e) hs
  rintro xv s₁ ⟨r, t₀, u₀, v₁, h, tk, rfl, rfl, hr, F, N⟩
  refine wpAny_pyIter_range hr hsmall ?_
  have W : Walks prog w A h.objs.size [h.objs.size] [h.objs.size] n (fun i v => i < n ∧ ∃ t, v = .int (a + i * 1) t)
      (fun i h' => IsRangeIter h' h.objs.size (a + (i : Nat) * 1) ((n : Int) - (i : Nat)) 1) := (Walks.range hh _ a 1 n).bound
  have F1 := F
  refine loopC J W (fun i h st => ⟨_, st⟩) hk hx hc hE (Nat.ne_of_lt F.ns.lt) (next_is_new F1) (Nat.ne_of_lt (Heap.lt_size (N _ (.head _)).1)) (fun p hp => Nat.ne_of_lt (Heap.lt_size (N p (.tail _ hp)).1)) hnc (by show IsRangeIter _ _ _ _ _; rw [hn]; simpa using Heap.get?_push_size _ rfl) (F.push _) (N.grown fun _ _ e => Heap.get?_push_of_some _ e) hd hj ?_ ?_
  · rintro i v m₁ h1 tk1 oI oc hi ⟨_, t, rfl⟩ hJ hd2 F₁ N₁
    rw [Int.mul_one] at hd2
    exact turn i t m₁ h1 tk1 _ oI oc hi hJ hd2 F₁ N₁
  · intro m₁ h1 tk1 oc hJ F₁ N₁
    exact done m₁ h1 tk1 oc hJ F₁ N₁
end
end Mine
end

section
open PySem PySem.W PyProof.Rows PySem.Calls
set_option linter.unusedVariables false
namespace Mine
open PyProof.Rows.LCg
section
variable {prog : Program} {w : World} {A : Around} {E : Value → Shared → Prop} {s : Shared} {env : Env} {h₀ : Heap} {x : Str} {body : List Stmt} {Q : Flow → Shared → Prop}
theorem store_U {c : Addr} {oc : Obj} {v₀ : Option Value} {v : Value} {m : Str → Option Value} {all : List (Addr × Obj)} {Q : Unit → Shared → Prop} {L : Addr} (hL : env.locals = L) (hk : env.scope.kind = .function) (hx : env.kindOf x = some .cell) (hc : env.cells.lookup x = some c) (F : Fr h₀ L s.heap m) (N : News h₀ L s.heap all) (hm : (c, oc) ∈ all) (hd : oc.data = .cell v₀)
    (h : ∀ h' oc', oc'.data = .cell (some v) → Fr h₀ L h' m → News h₀ L h' (upd c oc' all) → Q () { s with heap := h' }) : wpAny (model prog w) A (storeName env x v) Q E s := by
  refine wpAny_storeName_cell hk hx hc ⟨oc, (N _ hm).1, hd⟩ fun h₂ hv hs => ?_
  obtain ⟨oc', ho', hd2⟩ := hv
  obtain ⟨F', N'⟩ := upd_ok F N hm hs ho'
  exact h h₂ oc' hd2 F' N'
/-- a turn's end where the target is a cell and the ledger changes -/
def DStep (h₀ : Heap) (L I c : Addr) (oI oc : Obj) (J : (Str → Option Value) → List (Addr × Obj) → Prop) (s s₂ : Shared) : Prop :=
  ∃ h' tk m' all nx, s₂ = { s with heap := h', toks := tk } ∧ Fr h₀ L h' m' ∧ News h₀ L h' all ∧ (I, oI) ∈ all ∧ (c, oc) ∈ all ∧ Sub nx all ∧ (∀ p ∈ nx, p.1 ≠ I ∧ p.1 ≠ c) ∧ J m' nx
theorem DStep.intro {L I c : Addr} {oI oc : Obj} {all : List (Addr × Obj)} {J : (Str → Option Value) → List (Addr × Obj) → Prop} {h' : Heap} {tk : Nat} {m' : Str → Option Value} (nx : List (Addr × Obj)) (F : Fr h₀ L h' m') (N : News h₀ L h' all) (hI : (I, oI) ∈ all) (hc : (c, oc) ∈ all) (hs : Sub nx all) (hn : ∀ p ∈ nx, p.1 ≠ I ∧ p.1 ≠ c) (hj : J m' nx) : DStep h₀ L I c oI oc J s { s with heap := h', toks := tk } := ⟨h', tk, m', all, nx, rfl, F, N, hI, hc, hs, hn, hj⟩
def DPost (h₀ : Heap) (L I c : Addr) (oI oc : Obj) (J : (Str → Option Value) → List (Addr × Obj) → Prop) (s : Shared) (Q : Flow → Shared → Prop) (f : Flow) (s₂ : Shared) : Prop :=
  match f with
  | .ret v => Q (.ret v) s₂
  | .brk => Q .next s₂
  | _ => DStep h₀ L I c oI oc J s s₂
theorem loopD {px : Pos} {I c : Addr} {oc₀ : Obj} {v₀ : Option Value} {n : Nat} {P : Nat → Value → Prop} {St : Nat → Heap → Prop} {m₀ : Str → Option Value} {news : List (Addr × Obj)} (J : Nat → (Str → Option Value) → List (Addr × Obj) → Prop)
    (W : Walks prog w A I [I] [I] n P St) (hIo : ∀ i h, St i h → ∃ o, h.get? I = some o) (hk : env.scope.kind = .function) (hx : env.kindOf x = some .cell) (hc : env.cells.lookup x = some c) (hE : PassesOwn (model prog w) A env E)
    (hIL : env.locals ≠ I) (hI₀ : h₀.get? I = none) (hcI : c ≠ I) (hn : ∀ p ∈ news, p.1 ≠ I ∧ p.1 ≠ c) (hst : St 0 s.heap) (F : Fr h₀ env.locals s.heap m₀) (N : News h₀ env.locals s.heap ((c, oc₀) :: news)) (hd : oc₀.data = .cell v₀) (hj : J 0 m₀ news)
    (turn : ∀ i v m₁ nx h tk oI oc, i < n → P i v → J i m₁ nx → (∀ p ∈ nx, p.1 ≠ I ∧ p.1 ≠ c) → oc.data = .cell (some v) → Fr h₀ env.locals h m₁ → News h₀ env.locals h ((I, oI) :: (c, oc) :: nx) →
      wpAny (model prog w) A (execs body env) (DPost h₀ env.locals I c oI oc (J (i + 1)) s Q) E { s with heap := h, toks := tk })
    (done : ∀ m₁ nx h tk oc u, J n m₁ nx → (∀ p ∈ nx, p.1 ≠ c) → oc.data = .cell u → Fr h₀ env.locals h m₁ → News h₀ env.locals h ((c, oc) :: nx) → Q .next { s with heap := h, toks := tk }) :
    codeAny (model prog w) A (.forLoop (.Name x px) (.ref I) body [] env) (fun r s' => match r with | .ok f => Q f s' | .error e => cameBackBy (model prog w) A env E e s') s := by
  refine codeAny_forLoop
    (fun k s' => ∃ h' tk m' nx oc u i, s' = { s with heap := h', toks := tk } ∧ St i h' ∧ Fr h₀ env.locals h' m' ∧ News h₀ env.locals h' ((c, oc) :: nx) ∧ (∀ p ∈ nx, p.1 ≠ I ∧ p.1 ≠ c) ∧ oc.data = .cell u ∧ J i m' nx ∧ i ≤ n ∧ k = n + 1 - i) ?_ (n + 1)
    ⟨s.heap, s.toks, m₀, news, oc₀, v₀, 0, rfl, hst, F, N, hn, hd, hj, Nat.zero_le _, rfl⟩
  rintro k s' ⟨h', tk, m', nx, oc, u, i, rfl, hst', F', N', hn', hd', hJ, hi, rfl⟩
  have hNI : ∀ p ∈ (c, oc) :: nx, p.1 ≠ I := fun p hp => by
    rcases List.mem_cons.mp hp with rfl | hp
    · exact hcI
    · exact (hn' p hp).1
  by_cases hlt : i < n
  · refine W.item i _ _ _ hlt hst' fun v h₁ tk₁ hP hst₁ hk₁ => ?_
    have F₁ : Fr h₀ env.locals h₁ m' := fr_but F' hk₁ hIL hI₀
    have N₁ : News h₀ env.locals h₁ ((c, oc) :: nx) := news_but N' hk₁ hNI
    have hm := N₁ _ (.head _)
    refine wpAny_assign_Name (wpAny_storeName_cell hk hx hc ⟨oc, hm.1, hd'⟩ fun h₂ hv hs => ?_)
    obtain ⟨oc', ho', hd2⟩ := hv
    have F₂ : Fr h₀ env.locals h₂ m' := ⟨F₁.ns.sameBut hs (Ne.symm hm.2.1), fun b ob e => (hs.2 b (fun q => by rw [q, hm.2.2] at e; cases e)).trans (F₁.keep b ob e), F₁.above⟩
    obtain ⟨oI, hoI⟩ := hIo _ _ hst₁
    have hoI2 : h₂.get? I = some oI := (hs.2 I (Ne.symm hcI)).trans hoI
    have N₂ : News h₀ env.locals h₂ ((I, oI) :: (c, oc') :: nx) := fun p hp => by
      rcases List.mem_cons.mp hp with rfl | hp
      · exact ⟨hoI2, Ne.symm hIL, hI₀⟩
      · rcases List.mem_cons.mp hp with rfl | hp
        · exact ⟨ho', hm.2⟩
        · have := N₁ p (.tail _ hp)
          exact ⟨(hs.2 p.1 (hn' p hp).2).trans this.1, this.2⟩
    have fin : ∀ s₃, DStep h₀ env.locals I c oI oc' (J (i + 1)) s s₃ → ∃ m, m < n + 1 - i ∧ ∃ h' tk m' nx oc u i, s₃ = { s with heap := h', toks := tk } ∧ St i h' ∧ Fr h₀ env.locals h' m' ∧ News h₀ env.locals h' ((c, oc) :: nx) ∧ (∀ p ∈ nx, p.1 ≠ I ∧ p.1 ≠ c) ∧ oc.data = .cell u ∧ J i m' nx ∧ i ≤ n ∧ m = n + 1 - i := by
      rintro s₃ ⟨h₃, tk₃, m₃, all₃, nx₃, rfl, F₃, N₃, hI₃, hc₃, hs₃, hn₃, hJ₃⟩
      refine ⟨n + 1 - (i + 1), by omega, h₃, tk₃, m₃, nx₃, oc', _, i + 1, rfl, ?_, F₃, fun p hp => ?_, hn₃, hd2, hJ₃, hlt, rfl⟩
      · refine W.frame _ _ _ hst₁ fun b hb o e => ?_
        rw [List.mem_singleton.mp hb] at e ⊢
        rw [hoI] at e; cases e
        exact (N₃ _ hI₃).1
      · rcases List.mem_cons.mp hp with rfl | hp
        · exact N₃ _ hc₃
        · exact N₃ p (hs₃ p hp)
    refine wpAny_mono (wpAny_passesOwn hE (turn i v m' nx h₂ tk₁ oI oc' hlt hP hJ hn' hd2 F₂ N₂)) (fun f s₃ h₃ => ?_) fun _ _ e => e
    cases f with
    | ret v => exact h₃
    | brk => exact h₃
    | cont => exact fin s₃ h₃
    | next => exact fin s₃ h₃
  · obtain rfl : i = n := by omega
    refine W.done _ _ _ hst' fun h₁ tk₁ hk₁ => ?_
    exact wpAny_execs_nil (done m' nx h₁ tk₁ oc u hJ (fun p hp => (hn' p hp).2) hd' (fr_but F' hk₁ hIL hI₀) (news_but N' hk₁ hNI))
/-- a for over a text, the target a cell -/
theorem forStrD {px pos : Pos} {iter : Expr} {c : Addr} {oc₀ : Obj} {v₀ : Option Value} {p : List Nat} {tx : Tok} {m₀ : Str → Option Value} {news : List (Addr × Obj)} {L : Addr} (hL : env.locals = L) (J : Nat → (Str → Option Value) → List (Addr × Obj) → Prop)
    (hh : A.handled = none) (hk : env.scope.kind = .function) (hx : env.kindOf x = some .cell) (hc : env.cells.lookup x = some c) (hE : PassesOwn (model prog w) A env E)
    (hn : ∀ q ∈ news, q.1 ≠ c) (hd : oc₀.data = .cell v₀) (hj : J 0 m₀ news)
    (iterIs : wpAny (model prog w) A (eval iter env) (fun xv s₁ => ∃ h tk, xv = .str (S p) tx ∧ s₁ = { s with heap := h, toks := tk } ∧ Fr h₀ L h m₀ ∧ News h₀ L h ((c, oc₀) :: news)) E s)
    (turn : ∀ i d t m₁ nx h tk I oI oc, p[i]? = some d → J i m₁ nx → (∀ q ∈ nx, q.1 ≠ I ∧ q.1 ≠ c) → oc.data = .cell (some (.str (S [d]) t)) → Fr h₀ L h m₁ → News h₀ L h ((I, oI) :: (c, oc) :: nx) →
      wpAny (model prog w) A (execs body env) (DPost h₀ L I c oI oc (J (i + 1)) s Q) E { s with heap := h, toks := tk })
    (done : ∀ m₁ nx h tk oc u, J p.length m₁ nx → (∀ q ∈ nx, q.1 ≠ c) → oc.data = .cell u → Fr h₀ L h m₁ → News h₀ L h ((c, oc) :: nx) → Q .next { s with heap := h, toks := tk })
    (hs : ∀ x, foldedSetIterable iter env x = pure x := by intro _; rfl) :
    wpAny (model prog w) A (exec (.For (.Name x px) iter body [] pos) env) Q E s := by
  subst hL
  refine wpAny_For (wpAny_mono iterIs ?_ fun _ _ e => e) hs
  rintro xv s₁ ⟨h, tk, rfl, rfl, F, N⟩
  have hsz : (S p).cps.size = p.length := by simp [S]
  have key : ∀ (o : Obj) (St : Nat → Heap → Prop), Walks prog w A h.objs.size [h.objs.size] [h.objs.size] (S p).cps.size (SignAt (S p)) St → St 0 (h.push o) → (∀ i h', St i h' → ∃ o, h'.get? h.objs.size = some o) →
      codeAny (model prog w) A (.forLoop (.Name x px) (.ref h.objs.size) body [] env) (fun r s' => match r with | .ok f => Q f s' | .error e => cameBackBy (model prog w) A env E e s') { s with heap := h.push o, toks := tk } := by
    intro o St W hst hst0
    rw [hsz] at W
    refine loopD (v₀ := v₀) J W hst0 hk hx hc hE (Nat.ne_of_lt F.ns.lt) (next_is_new F) (Nat.ne_of_lt (Heap.lt_size (N _ (.head _)).1)) (fun q hq => ⟨Nat.ne_of_lt (Heap.lt_size (N q (.tail _ hq)).1), hn q hq⟩) hst (F.push _) (N.grown fun _ _ e => Heap.get?_push_of_some _ e) hd hj ?_ ?_
    · rintro i v m₁ nx h1 tk1 oI oc hi ⟨d, u, hd1, rfl⟩ hJ hnx hd2 F₁ N₁
      exact turn i d u m₁ nx h1 tk1 _ oI oc (by simpa [S] using hd1) hJ hnx hd2 F₁ N₁
    · intro m₁ nx h1 tk1 oc u hJ hnx hd2 F₁ N₁
      exact done m₁ nx h1 tk1 oc u hJ hnx hd2 F₁ N₁
  cases ha : (S p).cps.all (· < 128)
  · exact wpAny_pyIter_wide ha (key _ _ (Walks.strWide hh _ (S p) tx) ⟨_, Heap.get?_push_size _ rfl, rfl, rfl⟩ (fun i h st => by obtain ⟨o, e, _⟩ := st; exact ⟨o, e⟩))
  · exact wpAny_pyIter_ascii ha (key _ _ (Walks.strAscii hh _ (S p) tx) ⟨_, Heap.get?_push_size _ rfl, rfl, rfl⟩ (fun i h st => by obtain ⟨o, e, _⟩ := st; exact ⟨o, e⟩))
end
end Mine
end

section
open PySem PySem.W PyProof.Rows PySem.Calls
set_option linter.unusedVariables false
namespace Mine
section
variable {prog : Program} {w : World} {A : Around} {E : Value → Shared → Prop} {s : Shared} {env : Env} {h₀ : Heap} {x : Str} {body : List Stmt} {Q : Flow → Shared → Prop}
/-- loopG, the iterator's kind told to the turn -/
theorem loopH {I : Addr} {fp : List Addr} {n : Nat} {P : Nat → Value → Prop} {St : Nat → Heap → Prop} {m₀ : Str → Option Value} {news : List (Addr × Obj)} (K : Obj → Prop) (J : Nat → (Str → Option Value) → List (Addr × Obj) → Prop)
    (W : Walks prog w A I fp [I] n P St) (hIo : ∀ i h, St i h → ∃ o, h.get? I = some o ∧ K o) (hLf : env.locals ∉ fp) (hI₀ : h₀.get? I = none) (hnI : ∀ p ∈ news, p.1 ≠ I) (hst : St 0 s.heap) (F : Fr h₀ env.locals s.heap m₀) (N : News h₀ env.locals s.heap news) (hj : J 0 m₀ news)
    (turn : ∀ i v m₁ nx h tk own, i < n → P i v → J i m₁ nx → (∃ o, (I, o) ∈ own ∧ K o) → (∀ p ∈ own, p.1 ∈ fp) → (∀ p ∈ nx, p.1 ≠ I) → Fr h₀ env.locals h (fun y => if y = x then some v else m₁ y) → News h₀ env.locals h (own ++ nx) →
      wpAny (model prog w) A (execs body env) (GPost h₀ env.locals I (J (i + 1)) own s Q) E { s with heap := h, toks := tk })
    (done : ∀ m₁ nx h tk, J n m₁ nx → Fr h₀ env.locals h m₁ → News h₀ env.locals h nx → Q .next { s with heap := h, toks := tk }) :
    LoopAtV prog w A h₀ env x body Q E (.ref I) s := by
  have hIf : I ∈ fp := W.sub I (List.mem_singleton.mpr rfl)
  refine ⟨I, fp, [I], n, P, St, m₀, news, J, rfl, W, hLf, (fun b hb => by rw [List.mem_singleton.mp hb]; exact hI₀), (fun p hp hq => hnI p hp (List.mem_singleton.mp hq)), hst, F, N, hj, ?_, ?_⟩
  · rintro i v m₁ nx s₁ own ⟨h1, tk1, rfl⟩ hin hP hJ hoff hof _ hfp hst' F₁ N₁
    obtain ⟨oI, hoI, hKI⟩ := hIo _ _ hst'
    have hIown : (I, oI) ∈ own := hfp I hIf hI₀ _ hoI
    refine wpAny_mono (turn i v m₁ nx h1 tk1 own hin hP hJ ⟨oI, hIown, hKI⟩ hof (fun p hp hq => hoff p hp (List.mem_singleton.mpr hq)) F₁ N₁) (fun f s₂ p => ?_) fun _ _ e => e
    have fin : GEnd h₀ env.locals I (J (i + 1)) own s s₂ → LoopStepU h₀ env.locals [I] own (J (i + 1)) { s with heap := h1, toks := tk1 } .next s₂ := by
      rintro ⟨h', tk, m', all, nx', e, F', N', ho, hn, hI, hm⟩
      exact ⟨rfl, h', tk, m', nx', e, F', fun p hp => N' p ((List.mem_append.mp hp).elim (ho p) (hn p)), fun p hp hq => hI p hp (List.mem_singleton.mp hq), hm⟩
    cases f with
    | ret v => exact .ret p
    | brk => exact .brk p
    | next => exact .next (fin p)
    | cont => exact .cont (fin p)
  · rintro h' tk m' news' F' N' _ hJ
    exact done m' news' h' tk hJ F' N'
/-- forRange, the iterator's kind told to the turn -/
theorem forRangeK {r : Addr} {n : Nat} {t₀ u₀ v₀ : Tok} {m₀ : Str → Option Value} {news : List (Addr × Obj)} (a : Int) (b : Int) (J : Nat → (Str → Option Value) → List (Addr × Obj) → Prop)
    (hh : A.handled = none) (hr : IsRange s.heap r a b 1 t₀ u₀ v₀) (hsmall : Builtin.Range.small a b 1 = true) (hn : Builtin.Range.rangeSize a b 1 = (n : Int)) (F : Fr h₀ env.locals s.heap m₀) (N : News h₀ env.locals s.heap news) (hj : J 0 m₀ news)
    (turn : ∀ i t m₁ nx h tk own I, i < n → J i m₁ nx → (∃ o, (I, o) ∈ own ∧ o.cls = .type "range_iterator" ∧ ∃ fs, o.data = .fields fs) → (∀ q ∈ own, q.1 = I) → (∀ q ∈ nx, q.1 ≠ I) → Fr h₀ env.locals h (fun y => if y = x then some (.int (a + (i : Int)) t) else m₁ y) → News h₀ env.locals h (own ++ nx) →
      wpAny (model prog w) A (execs body env) (GPost h₀ env.locals I (J (i + 1)) own s Q) E { s with heap := h, toks := tk })
    (done : ∀ m₁ nx h tk, J n m₁ nx → Fr h₀ env.locals h m₁ → News h₀ env.locals h nx → Q .next { s with heap := h, toks := tk }) :
    wpAny (model prog w) A (pyIter (.ref r)) (fun it s₂ => LoopAtV prog w A h₀ env x body Q E it s₂) E s := by
  refine wpAny_pyIter_range hr hsmall ?_
  have W : Walks prog w A s.heap.objs.size [s.heap.objs.size] [s.heap.objs.size] n (fun i v => i < n ∧ ∃ t, v = .int (a + i * 1) t)
      (fun i h => IsRangeIter h s.heap.objs.size (a + (i : Nat) * 1) ((n : Int) - (i : Nat)) 1) := (Walks.range hh _ a 1 n).bound
  refine loopH (fun o => o.cls = .type "range_iterator" ∧ ∃ fs, o.data = .fields fs) J W (fun i h st => ⟨_, st, rfl, _, rfl⟩) ?_ (next_is_new F) (fun p hp => Nat.ne_of_lt (Heap.lt_size (N p hp).1)) (by show IsRangeIter _ _ _ _ _; rw [hn]; simpa using Heap.get?_push_size _ rfl) (F.push _) (N.grown fun _ _ e => Heap.get?_push_of_some _ e) hj ?_ ?_
  · intro hm; exact absurd F.ns.lt ((List.mem_singleton.mp hm) ▸ Nat.lt_irrefl _)
  · rintro i v m₁ nx h tk own hi ⟨_, t, rfl⟩ hJ hI hof hnI F₁ N₁
    rw [Int.mul_one] at F₁
    exact turn i t m₁ nx h tk own _ hi hJ hI (fun q hq => List.mem_singleton.mp (hof q hq)) hnI F₁ N₁
  · intro m₁ nx h tk hJ F₁ N₁
    exact done m₁ nx h tk hJ F₁ N₁
end
end Mine
end

section
namespace Mine
open PySem PySem.W PyProof.Rows
open_top hd01 for PySem.Challenge.rw_dm0122_01
end Mine
end

section
open PySem PySem.W PyProof.Rows PySem.Calls
set_option linter.unusedVariables false
namespace Mine
open PySem.Builtin ObjectAttr
theorem ve_has : typeHasDict (Value.type "ValueError") = true := by decide +kernel
section
variable {prog : Program} {w : World} {A : Around} {E : Value → Shared → Prop} {h : Heap} {g : Array GenState} {d : Drawn} {t : Nat} {os : OsState} {x : Addr} {o : Obj} {vs : Array Value} {name : Str} {v : Value}
theorem ve_store0 {tk : Tok} {Q : Fin → Shared → Prop} (hx : h.get? x = some o) (hc : o.cls = .type "ValueError") (hv : o.data = .fields vs) (hd : o.dict = none) (hB : typeLookup (.type "ValueError") name = pure none)
    (hq : ∀ h' tk', h'.get? x = some { o with dict := some h.objs.size } → h'.Ns1 h.objs.size (fun y => if y = name then some v else none) → (∀ b ob, b ≠ x → h.get? b = some ob → h'.get? b = some ob) → Q (.done (.ret .none)) ⟨h', g, d, tk', os⟩) :
    wpAny (model prog w) A (Builtin.«object.__setattr__» ⟨[.ref x, .str name tk, v], []⟩) Q E ⟨h, g, d, t, os⟩ := by
  have SF := PySem.F.store_ValueError
  have hm := SF.mro
  have hpass := SF.passes (.ref x)
  rw [osa_eq, refuse_eq]
  repeat (first | (rw [hpass]) | (rw [hm]) | (rw [hB]) | (with_reducible refine wpAny_loadPart_at hx ?_; rw [hc]) | wp_step)
  rw [hd]
  dsimp only
  rw [ve_has, if_neg (by decide), hv]
  dsimp only
  have hx₁ : (h.push { cls := .type "dict", data := .dict #[] }).get? x = some o := Heap.get?_push_of_some _ hx
  have hxs : x ≠ h.objs.size := Nat.ne_of_lt (Heap.lt_size hx)
  refine wpAny_bind (wpAny_alloc' ?_)
  refine wpAny_bind (wpAny_update' hx₁ ?_)
  have hup : ((h.push { cls := .type "dict", data := .dict #[] }).update x fun o => { cls := o.cls, dict := some h.objs.size, data := o.data, slots := o.slots }).get? x = some { o with dict := some h.objs.size } := by
    refine Heap.get?_update_self _ hx₁ ?_
    obtain ⟨oc, od, odt, osl⟩ := o
    cases hv; rfl
  have hgd : ((h.push { cls := .type "dict", data := .dict #[] }).update x fun o => { cls := o.cls, dict := some h.objs.size, data := o.data, slots := o.slots }).get? h.objs.size = some { cls := .type "dict", data := .dict #[] } :=
    (Heap.get?_update_ne _ _ _ _ hxs.symm).trans (Heap.get?_push_at rfl rfl)
  have hkeep : ∀ b ob, b ≠ x → h.get? b = some ob → ((h.push { cls := .type "dict", data := .dict #[] }).update x fun o => { cls := o.cls, dict := some h.objs.size, data := o.data, slots := o.slots }).get? b = some ob := fun b ob hb e =>
    (Heap.get?_update_ne _ _ _ _ hb).trans (Heap.get?_push_of_some _ e)
  generalize ((h.push { cls := .type "dict", data := .dict #[] }).update x fun o => { cls := o.cls, dict := some h.objs.size, data := o.data, slots := o.slots }) = H at hup hgd hkeep ⊢
  have hnd : H.Ns h.objs.size (fun _ => none) := ⟨_, #[], _, hgd, rfl, fun e he => absurd he (by simp), fun _ => rfl⟩
  show wpAny _ _ (pure (some h.objs.size)) _ _ _
  refine wpAny_pure ?_
  show wpAny _ _ (storeInDict h.objs.size (.str name tk) name v) _ _ _
  unfold storeInDict newKeyGuard
  refine wpAny_bind (wpAny_pure (wpAny_bind (wpAny_nsSet1 (Heap.Ns1.of_empty hnd) fun h' hn' hs => ?_)))
  obtain ⟨oD, esD, epD, hoD, hdD, hcD⟩ := hn'.count (Within.cons name v Within.nil)
  refine wpAny_bind (wpAny_lookBehind hoD (by rw [hdD]; exact pastItsLine_dict (Nat.le_trans hcD (by rw [List.length_cons, List.length_nil, sizeLine_eq]; omega))) ?_)
  exact wpAny_pure (hq h' _ ((hs.2 x hxs).trans hup) hn' fun b ob hb e => (hs.2 b (Nat.ne_of_lt (Heap.lt_size e))).trans (hkeep b ob hb e))
theorem ve_store1 {tk : Tok} {Q : Fin → Shared → Prop} {dx : Addr} {mA : Str → Option Value} {ns : List Str} (hx : h.get? x = some o) (hc : o.cls = .type "ValueError") (hd : o.dict = some dx) (hn : h.Ns1 dx mA) (hw : Within mA ns) (hsz : ns.length ≤ 1000) (hB : typeLookup (.type "ValueError") name = pure none)
    (hq : ∀ h' tk', h'.Ns1 dx (fun y => if y = name then some v else mA y) → Heap.SameBut dx h h' → Q (.done (.ret .none)) ⟨h', g, d, tk', os⟩) :
    wpAny (model prog w) A (Builtin.«object.__setattr__» ⟨[.ref x, .str name tk, v], []⟩) Q E ⟨h, g, d, t, os⟩ := by
  have SF := PySem.F.store_ValueError
  have hm := SF.mro
  have hpass := SF.passes (.ref x)
  rw [osa_eq, refuse_eq]
  repeat (first | (rw [hpass]) | (rw [hm]) | (rw [hB]) | (with_reducible refine wpAny_loadPart_at hx ?_; rw [hc]) | wp_step)
  rw [hd]
  refine wpAny_pure ?_
  show wpAny _ _ (storeInDict dx (.str name tk) name v) _ _ _
  unfold storeInDict newKeyGuard
  refine wpAny_bind (wpAny_pure (wpAny_bind (wpAny_nsSet1 hn fun h' hn' hs => ?_)))
  obtain ⟨oD, esD, epD, hoD, hdD, hcD⟩ := hn'.count (Within.cons name v hw)
  refine wpAny_bind (wpAny_lookBehind hoD (by rw [hdD]; exact pastItsLine_dict (Nat.le_trans hcD (by rw [List.length_cons, sizeLine_eq]; omega))) ?_)
  exact wpAny_pure (hq h' _ hn' hs)
/-- a field of a ValueError stored -/
theorem ve_set {Q : Unit → Shared → Prop} (hx : h.get? x = some o) (hc : o.cls = .type "ValueError")
    (hq : ∀ tk t' (R : Fin → Shared → Prop), (∀ h' tk', (Q () ⟨h', g, d, tk', os⟩ → R (.done (.ret .none)) ⟨h', g, d, tk', os⟩)) → wpAny (model prog w) A.in1 (Builtin.«object.__setattr__» ⟨[.ref x, .str name tk, v], []⟩) R (fun _ _ => False) ⟨h, g, d, t', os⟩) :
    wpAny (model prog w) A (setAttr (.ref x) name v) Q E ⟨h, g, d, t, os⟩ := by
  have SF := PySem.F.store_ValueError
  have hT : (⟨h, g, d, t + 1, os⟩ : Shared).TypeIs (.ref x) "ValueError" := ⟨_, hx, hc⟩
  unfold setAttr
  refine wpAny_bind (wpAny_mkText (wpAny_bind (wpAny_callSpecial?_slot hT SF.slot (wpAny_call ?_))))
  refine codeAny_call_builtin SF.slot.plain SF.entry (SF.slot.check _ _ _ _ _ _ _ _ hT (SF.args _ _ _) ?_)
  exact wpAny_mono (hq t (t + 1) _ fun h' tk' z => wpAny_pure z) (fun _ _ z => z) fun _ _ z => z.elim
/-- a field of a ValueError read -/
theorem ve_entry {tk : Tok} {Q : Fin → Shared → Prop} {dx : Addr} {mA : Str → Option Value} (hx : h.get? x = some o) (hc : o.cls = .type "ValueError") (hv : o.data = .fields vs) (hd : o.dict = some dx) (hn : h.Ns dx mA) (hB : typeLookup (.type "ValueError") name = pure none) (hm : mA name = some v)
    (hq : Q (.done (.ret v)) ⟨h, g, d, t, os⟩) : wpAny (model prog w) A (Builtin.«object.__getattribute__» ⟨[.ref x, .str name tk], []⟩) Q E ⟨h, g, d, t, os⟩ := by
  have hT : (⟨h, g, d, t, os⟩ : Shared).TypeIs (.ref x) "ValueError" := ⟨_, hx, hc⟩
  repeat (any_goals (first | assumption | (with_reducible refine wpAny_nsGet hn ?_; rw [hm]) | wp_step))
  rw [hv]
  dsimp only
  unfold instanceDict
  refine wpAny_bind (wpAny_loadPart_at hx ?_)
  rw [hc]
  dsimp only
  rw [hd]
  refine wpAny_pure ?_
  refine wpAny_nsGet hn ?_
  rw [hm]
  refine wpAny_bind (wpAny_rule (wpAny_pure ?_))
  exact wpAny_pure hq
theorem ve_by {tk : Tok} {fill expr : Bool} {dx : Addr} {mA : Str → Option Value} {z : Int} {u : Tok} {Q : Value → Shared → Prop} (hx : h.get? x = some o) (hc : o.cls = .type "ValueError") (hv : o.data = .fields vs) (hd : o.dict = some dx) (hn : h.Ns dx mA) (hB : typeLookup (.type "ValueError") name = pure none) (hm : mA name = some (.int z u))
    (hq : Q (.int z u) ⟨h, g, d, t, os⟩) : wpAny (model prog w) A (getAttrBy (.ref x) (.str name tk) fill expr) Q E ⟨h, g, d, t, os⟩ := by
  have FX := PySem.F.attr_ValueError
  have hT : (⟨h, g, d, t, os⟩ : Shared).TypeIs (.ref x) "ValueError" := ⟨_, hx, hc⟩
  have f2 := FX.ga.lookup
  have f3 := FX.ga.bind (.ref x)
  have hx0 : (expr && onTheHeap (Value.builtin "BaseException.__getattribute__")) = false := by cases expr <;> rfl
  repeat (any_goals (first | assumption | wp_step))
  refine codeAny_call_builtin FX.ga.plain PySem.F.entry_bexc_ga (FX.ga.check _ _ _ _ _ _ _ _ hT (PySem.F.args_bexc_ga _ _) (ve_entry hx hc hv hd hn hB hm ?_))
  repeat (any_goals (first | assumption | wp_step))
theorem ve_get {expr : Bool} {dx : Addr} {mA : Str → Option Value} {z : Int} {u : Tok} {Q : Value → Shared → Prop} (hx : h.get? x = some o) (hc : o.cls = .type "ValueError") (hv : o.data = .fields vs) (hd : o.dict = some dx) (hn : h.Ns dx mA) (hB : typeLookup (.type "ValueError") name = pure none) (hm : mA name = some (.int z u))
    (hq : Q (.int z u) ⟨h, g, d, t + 1, os⟩) : wpAny (model prog w) A (getAttr (.ref x) name expr) Q E ⟨h, g, d, t, os⟩ := by
  unfold getAttr
  repeat (any_goals (first | assumption | with_reducible apply ve_by hx hc hv hd hn hB hm | wp_step))
end
theorem lk_dev : typeLookup (.type "ValueError") (Str.ofString "st_dev") = pure none := by rw [typeLookup_type, builtinLookup_eq_fast]; kernel_rfl
theorem lk_ino : typeLookup (.type "ValueError") (Str.ofString "st_ino") = pure none := by rw [typeLookup_type, builtinLookup_eq_fast]; kernel_rfl
end Mine
end

section
open PySem PySem.W PyProof.Rows
set_option linter.unusedVariables false
namespace Mine
local macro_rules | `(tactic| size_fits) => `(tactic| ((simp only [PySem.sizeLine_eq, List.size_toArray, List.length_cons, List.length_nil]); omega))
local macro_rules | `(tactic| walk_at "stop") => `(tactic| first
  | (with_reducible show wpAny _ _ (exec (Stmt.For _ _ _ _ _) _) _ _ _)
  | (with_reducible show wpAny _ _ (exec (Stmt.While _ _ _ _) _) _ _ _)
  | (with_reducible show wpAny _ _ (call (Value.type "ValueError") _) _ _ _)
  | (with_reducible show wpAny _ _ (exec (Stmt.Assign [Expr.Attribute _ _ _] _ _) _) _ _ _)
  | (with_reducible show wpAny _ _ (setAttr _ _ _) _ _ _)
  | (with_reducible show wpAny _ _ (getAttr (Value.ref _) _ _) _ _ _)
  | (with_reducible show wpAny _ _ (eval (Expr.ListComp _ _ _ _) _) _ _ _)
  | (with_reducible show wpAny _ _ (pyIter _) _ _ _)
  | (with_reducible show LeaveK _ _ _ _ _ _ _))
local macro_rules | `(tactic| walk_at "ws") => `(tactic| repeat' (first | (k_unfold; (try dsimp only)) | ((fail_if_success (walk_at "stop")); walk1) | ((fail_if_success (walk_at "stop")); dsimp only; walk1) | (leave1; walk_say "STEP leave1"; try dsimp only)))
open PyProof.Rows.LCg
section
variable {prog : Program} {w : World} {A : Around} {E : Value → Shared → Prop} {h h₀ : Heap} {g : Array GenState} {d : Drawn} {t : Nat} {os : OsState} {L x : Addr} {o : Obj} {vs : Array Value} {name : Str} {v : Value} {m : Str → Option Value} {news : List (Addr × Obj)}
theorem made_led {h' : Heap} {e : Addr} (F : Fr h₀ L h m) (N : News h₀ L h news) (M : Heap.MadeExc h h' e "ValueError" []) :
    Fr h₀ L h' m ∧ (∀ q ∈ news, q.1 ≠ e) ∧ ∃ t, News h₀ L h' ((e, ({ cls := .type "ValueError", data := .fields #[.ref t, .none, .none, .none, .bool false, .none] } : Obj)) :: news) := by
  obtain ⟨t, ht, _⟩ := M.there
  obtain ⟨oL, eL, _⟩ := ns_obj F.ns
  have hn := M.new
  refine ⟨F.keeps M.keeps, fun q hq e' => ?_, t, fun p hp => ?_⟩
  · have := (N q hq).1; rw [e', hn] at this; cases this
  · rcases List.mem_cons.mp hp with rfl | hp
    · refine ⟨ht, fun e' => ?_, ?_⟩
      · have e' : e = L := e'
        rw [← e', hn] at eL; cases eL
      · cases q : h₀.get? e with
        | none => rfl
        | some ob => have := F.keep e ob q; rw [hn] at this; cases this
    · exact N.grown M.keeps p hp
theorem setVE0 {Q : Unit → Shared → Prop} (F : Fr h₀ L h m) (N : News h₀ L h ((x, o) :: news)) (hoff : ∀ q ∈ news, q.1 ≠ x) (hc : o.cls = .type "ValueError") (hv : o.data = .fields vs) (hd : o.dict = none) (hB : typeLookup (.type "ValueError") name = pure none)
    (hq : ∀ h' tk' dx od, (∃ es ep, od.data = .dict es ep ∧ StrKeys es ∧ UniqKeys es ∧ ∀ n, nsFind es n = if n = name then some v else none) → Fr h₀ L h' m → News h₀ L h' ((x, { o with dict := some dx }) :: (dx, od) :: news) → (∀ q ∈ (x, o) :: news, q.1 ≠ dx) → Q () ⟨h', g, d, tk', os⟩) :
    wpAny (model prog w) A (setAttr (.ref x) name v) Q E ⟨h, g, d, t, os⟩ := by
  have hN := N _ (.head _)
  have hx : h.get? x = some o := hN.1
  refine ve_set hx hc fun tk t' R hR => ve_store0 hx hc hv hd hB fun h' tk' e1 e2 e3 => hR _ _ ?_
  obtain ⟨od, es, ep, q1, q2, q3, q4, q5⟩ := e2
  have hne : ∀ q ∈ (x, o) :: news, q.1 ≠ h.objs.size := fun q hq => Nat.ne_of_lt (Heap.lt_size (N q hq).1)
  refine hq h' tk' h.objs.size od ⟨es, ep, q2, q3, q4, q5⟩ ⟨F.ns.at' fun ob e => e3 L ob (Ne.symm hN.2.1) e, fun b ob e => e3 b ob (fun q => by rw [q] at e; rw [hN.2.2] at e; cases e) (F.keep b ob e), F.above⟩ (fun p hp => ?_) hne
  rcases List.mem_cons.mp hp with rfl | hp
  · exact ⟨e1, hN.2⟩
  · rcases List.mem_cons.mp hp with rfl | hp
    · exact ⟨q1, Ne.symm (Nat.ne_of_lt F.ns.lt), next_is_new F⟩
    · have := N p (.tail _ hp)
      exact ⟨e3 p.1 p.2 (hoff p hp) this.1, this.2⟩
theorem setVE1 {Q : Unit → Shared → Prop} {dx : Addr} {od : Obj} {mA : Str → Option Value} {ns : List Str} (F : Fr h₀ L h m) (N : News h₀ L h ((x, o) :: (dx, od) :: news)) (hxd : x ≠ dx) (hoff : ∀ q ∈ news, q.1 ≠ dx) (hc : o.cls = .type "ValueError") (hd : o.dict = some dx)
    (hn : ∃ es ep, od.data = .dict es ep ∧ StrKeys es ∧ UniqKeys es ∧ ∀ n, nsFind es n = mA n) (hw : Within mA ns) (hsz : ns.length ≤ 1000) (hB : typeLookup (.type "ValueError") name = pure none)
    (hq : ∀ h' tk' od', (∃ es ep, od'.data = .dict es ep ∧ StrKeys es ∧ ∀ n, nsFind es n = if n = name then some v else mA n) → Fr h₀ L h' m → News h₀ L h' ((x, o) :: (dx, od') :: news) → Q () ⟨h', g, d, tk', os⟩) :
    wpAny (model prog w) A (setAttr (.ref x) name v) Q E ⟨h, g, d, t, os⟩ := by
  have hN := N _ (.head _)
  have hD := N _ (.tail _ (.head _))
  have hx : h.get? x = some o := hN.1
  obtain ⟨es, ep, p1, p2, p3, p4⟩ := hn
  refine ve_set hx hc fun tk t' R hR => ve_store1 hx hc hd ⟨od, es, ep, hD.1, p1, p2, p3, p4⟩ hw hsz hB fun h' tk' e1 e2 => hR _ _ ?_
  obtain ⟨od', es', ep', q1, q2, q3, q4, q5⟩ := e1
  refine hq h' tk' od' ⟨es', ep', q2, q3, q5⟩ (F.change e2 hD.2.1 hD.2.2) (fun p hp => ?_)
  rcases List.mem_cons.mp hp with rfl | hp
  · exact ⟨(e2.2 x hxd).trans hx, hN.2⟩
  · rcases List.mem_cons.mp hp with rfl | hp
    · exact ⟨q1, hD.2⟩
    · have := N p (.tail _ (.tail _ hp))
      exact ⟨(e2.2 p.1 (hoff p hp)).trans this.1, this.2⟩
end
/-- a stat buffer -/
def BufOk (dx : Addr) (oe od : Obj) (a b : Int) : Prop := oe.cls = .type "ValueError" ∧ oe.dict = some dx ∧ (∃ vs, oe.data = .fields vs) ∧ ∃ t u, NsObj od (fun y => if y = Str.ofString "st_ino" then some (.int b u) else if y = Str.ofString "st_dev" then some (.int a t) else none)
theorem buffer01 {w : World} {mean : ExcName → Option Value} {mg mb : Str → Option Value} (dp un : Nat) (gd : Option (List Code)) (cn : Str) (cs : Scope) (a : Addr) (ccd : Value) (cl : List (Str × Addr)) (outer : List Env) (A₀ : Around) (base h₀ : Heap) (L : Addr) (m : Str → Option Value) (news : List (Addr × Obj)) (s : Shared)
    (Q E : Value → Shared → Prop) (dev ino : Int) (td ti : Tok) (hdv : 0 ≤ dev ∧ dev ≤ 1) (hin : 0 ≤ ino ∧ ino ≤ 1000)
    (B : Below A₀ base outer h₀) (F : Fr h₀ L s.heap m) (X : (hd01.heap_39 w.params).In h₀) (N : News h₀ L s.heap news) (T : Top hd01.view_39 (looseW hd01.view_39 []) mean mg mb h₀) (hk : cs.kind = .function)
    (hd : dp + 1 < recursionLimit) (hu : un + 8 < cLine)
    (ret : ∀ e dx oe od h' tk', BufOk dx oe od (1000000000 * dev) (1000000000 + ino) → (∀ q ∈ news, q.1 ≠ e ∧ q.1 ≠ dx) → e ≠ dx → Fr h₀ L h' m → News h₀ L h' ((e, oe) :: (dx, od) :: news) → Q (.ref e) { s with heap := h', toks := tk' }) :
    wpAny (model PySem.Challenge.rw_dm0122_01.row.prog w) (ktrTop dp un gd cn cs L a ccd cl outer) (call (.ref 28) [.int dev td, .int ino ti]) Q E s := by
  revert T; revert X; k_fill; intro X T
  refine wpAny_call ?_
  k_dflt ktr_enter
  rename_i g1 L1 h1 FG1 F1 N1 B1 X1 T1
  walk_at "ws"
  refine wpAny_call_exc PySem.F.excCall_ValueError ?_ (by simp)
  intro h2 e M2
  obtain ⟨F2, hne, t0, N2⟩ := made_led F1 N1 M2
  dsimp only
  walk_at "ws"
  refine plainObj_wpAny_Assign_Attribute ?_
  walk_at "ws"
  rename Fr g1 L1 _ _ => F3
  rename News g1 L1 _ _ => N3
  refine setVE0 F3 N3 hne rfl rfl rfl lk_dev ?_
  intro h4 tk4 dx od hod F4 N4 hdx
  dsimp only
  walk_at "ws"
  refine plainObj_wpAny_Assign_Attribute ?_
  walk_at "ws"
  rename Fr g1 L1 _ _ => F5
  rename News g1 L1 _ _ => N5
  refine setVE1 (ns := [Str.ofString "st_dev"]) F5 N5 (hdx _ (.head _)) (fun q hq => hdx q (.tail _ hq)) rfl rfl hod ?_ (by decide) lk_ino ?_
  · exact Within.cons _ _ Within.nil
  intro h6 tk6 od6 hod6 F6 N6
  dsimp only
  walk_at "ws"
  dsimp only
  walk_at "ws"
  obtain ⟨es, ep, q1, q2, q3⟩ := hod6
  have hb : BufOk dx ({ cls := .type "ValueError", dict := some dx, data := .fields #[.ref t0, .none, .none, .none, .bool false, .none] } : Obj) od6 (1000000000 * dev) (1000000000 + ino) := ⟨rfl, rfl, ⟨_, rfl⟩, _, _, es, ep, q1, q2, q3⟩
  exact leaveK_ F6 N6 fun Fb Nb => ret e dx _ od6 _ _ hb (fun q hq => ⟨hne q hq, hdx q (.tail _ hq)⟩) (hdx _ (.head _)) Fb Nb
end Mine
end

section
open PySem PySem.W PyProof.Rows
set_option linter.unusedVariables false
namespace Mine
local macro_rules | `(tactic| size_fits) => `(tactic| ((simp only [PySem.sizeLine_eq, List.size_toArray, List.length_cons, List.length_nil]); omega))
local macro_rules | `(tactic| walk_at "stop") => `(tactic| first
  | (with_reducible show wpAny _ _ (exec (Stmt.For _ _ _ _ _) _) _ _ _)
  | (with_reducible show wpAny _ _ (exec (Stmt.While _ _ _ _) _) _ _ _)
  | (with_reducible show wpAny _ _ (call (Value.type "ValueError") _) _ _ _)
  | (with_reducible show wpAny _ _ (exec (Stmt.Assign [Expr.Attribute _ _ _] _ _) _) _ _ _)
  | (with_reducible show wpAny _ _ (setAttr _ _ _) _ _ _)
  | (with_reducible show wpAny _ _ (getAttr (Value.ref _) _ _) _ _ _)
  | (with_reducible show wpAny _ _ (eval (Expr.ListComp _ _ _ _) _) _ _ _)
  | (with_reducible show wpAny _ _ (pyIter _) _ _ _)
  | (with_reducible show LeaveK _ _ _ _ _ _ _))
local macro_rules | `(tactic| walk_at "ws") => `(tactic| repeat' (first | (k_unfold; (try dsimp only)) | ((fail_if_success (walk_at "stop")); walk1) | ((fail_if_success (walk_at "stop")); dsimp only; walk1) | (leave1; walk_say "STEP leave1"; try dsimp only)))
theorem same01 {w : World} {mean : ExcName → Option Value} {mg mb : Str → Option Value} (dp un : Nat) (gd : Option (List Code)) (cn : Str) (cs : Scope) (a : Addr) (ccd : Value) (cl : List (Str × Addr)) (outer : List Env) (A₀ : Around) (base h₀ : Heap) (L : Addr) (m : Str → Option Value) (news : List (Addr × Obj)) (s : Shared)
    (Q E : Value → Shared → Prop) (e1 d1 e2 d2 : Addr) (o1 p1 o2 p2 : Obj) (a1 b1 a2 b2 : Int) (hb1 : BufOk d1 o1 p1 a1 b1) (hb2 : BufOk d2 o2 p2 a2 b2) (m1 : (e1, o1) ∈ news) (m2 : (d1, p1) ∈ news) (m3 : (e2, o2) ∈ news) (m4 : (d2, p2) ∈ news)
    (B : Below A₀ base outer h₀) (F : Fr h₀ L s.heap m) (X : (hd01.heap_39 w.params).In h₀) (N : News h₀ L s.heap news) (T : Top hd01.view_39 (looseW hd01.view_39 []) mean mg mb h₀) (hk : cs.kind = .function)
    (hd : dp + 1 < recursionLimit) (hu : un + 8 < cLine)
    (ret : ∀ h' tk', Fr h₀ L h' m → News h₀ L h' news → Q (.bool (decide (b1 = b2 ∧ a1 = a2))) { s with heap := h', toks := tk' }) :
    wpAny (model PySem.Challenge.rw_dm0122_01.row.prog w) (ktrTop dp un gd cn cs L a ccd cl outer) (call (.ref 21) [.ref e1, .ref e2]) Q E s := by
  revert T; revert X; k_fill; intro X T
  refine wpAny_call ?_
  k_dflt ktr_enter
  rename_i g1 L1 h1 FG1 F1 N1 B1 X1 T1
  walk_at "ws"
  obtain ⟨c1, f1, ⟨vs1, v1⟩, t1, u1, n1⟩ := hb1
  obtain ⟨c2, f2, ⟨vs2, v2⟩, t2, u2, n2⟩ := hb2
  refine ve_get (z := b1) (u := u1) (N1 _ m1).1 c1 v1 f1 (n1.ns (N1 _ m2).1) lk_ino rfl ?_
  walk_at "ws"
  refine ve_get (z := b2) (u := u2) (N1 _ m3).1 c2 v2 f2 (n2.ns (N1 _ m4).1) lk_ino rfl ?_
  walk_at "ws"
  · rename b1 = b2 => hb
    refine ve_get (z := a1) (u := t1) (N1 _ m1).1 c1 v1 f1 (n1.ns (N1 _ m2).1) lk_dev rfl ?_
    walk_at "ws"
    refine ve_get (z := a2) (u := t2) (N1 _ m3).1 c2 v2 f2 (n2.ns (N1 _ m4).1) lk_dev rfl ?_
    walk_at "ws"
    dsimp only
    walk_at "ws"
    have e : (a1 == a2) = decide (b1 = b2 ∧ a1 = a2) := by
      by_cases h : a1 = a2 <;> simp [h, hb]
    rw [e]
    exact leaveK_ F1 N1 fun Fb Nb => ret _ _ Fb Nb
  · rename b1 ≠ b2 => hb
    dsimp only
    walk_at "ws"
    have e : (b1 == b2) = decide (b1 = b2 ∧ a1 = a2) := by simp [hb]
    rw [e]
    exact leaveK_ F1 N1 fun Fb Nb => ret _ _ Fb Nb
end Mine
end

section
open PySem PySem.W PyProof.Rows
set_option linter.unusedVariables false
namespace Mine
/-- a row: step, device, inode number -/
abbrev Row := Int × Int × Int
def RowOk (k : Int) (r : Row) : Prop := 0 ≤ r.1 ∧ r.1 < k ∧ 0 ≤ r.2.1 ∧ r.2.1 ≤ 1 ∧ 1 ≤ r.2.2 ∧ r.2.2 ≤ r.1 + 1
def Inv (k : Int) (rs : List (Option Row)) : Prop := rs.length = 5 ∧ (∀ r, some r ∈ rs → RowOk k r) ∧ ∀ r r', some r ∈ rs → some r' ∈ rs → (r.1 = r'.1 ↔ r.2 = r'.2)
theorem inv_sub {k : Int} {rs rs' : List (Option Row)} (h : Inv k rs) (hl : rs'.length = 5) (hs : ∀ r, some r ∈ rs' → some r ∈ rs) : Inv k rs' :=
  ⟨hl, fun r hr => h.2.1 r (hs r hr), fun r r' hr hr' => h.2.2 r r' (hs r hr) (hs r' hr')⟩
theorem inv_up {k : Int} {rs : List (Option Row)} (h : Inv k rs) : Inv (k + 1) rs := ⟨h.1, fun r hr => by
  obtain ⟨a, b, c⟩ := h.2.1 r hr
  exact ⟨a, by omega, c⟩, h.2.2⟩
theorem mem_set {rs : List (Option Row)} {i : Nat} {o : Option Row} {r : Row} (h : some r ∈ rs.set i o) : some r ∈ rs ∨ some r = o := List.mem_or_eq_of_mem_set h
theorem inv_none {k : Int} {rs : List (Option Row)} (h : Inv k rs) (i : Nat) : Inv k (rs.set i none) :=
  inv_sub h (by rw [List.length_set]; exact h.1) fun r hr => (mem_set hr).resolve_right (fun e => nomatch e)
theorem inv_put {k : Int} {rs : List (Option Row)} (h : Inv k rs) (i : Nat) {o : Option Row} (ho : o ∈ rs) : Inv k (rs.set i o) :=
  inv_sub h (by rw [List.length_set]; exact h.1) fun r hr => (mem_set hr).elim id fun e => e ▸ ho
theorem inv_swap {k : Int} {rs : List (Option Row)} (h : Inv k rs) (a b : Nat) {oa ob : Option Row} (ha : oa ∈ rs) (hb : ob ∈ rs) : Inv k ((rs.set a ob).set b oa) :=
  inv_sub h (by rw [List.length_set, List.length_set]; exact h.1) fun r hr => (mem_set hr).elim (fun hr => (mem_set hr).elim id fun e => e ▸ hb) fun e => e ▸ ha
theorem inv_new {k : Int} {rs : List (Option Row)} (h : Inv k rs) (i : Nat) {dev ino : Int} (hk : 0 ≤ k) (hd0 : 0 ≤ dev) (hd1 : dev ≤ 1) (hi1 : 1 ≤ ino) (hik : ino ≤ k + 1) (hfree : ∀ r, some r ∈ rs → r.2.1 = dev → r.2.2 ≠ ino) : Inv (k + 1) (rs.set i (some (k, dev, ino))) := by
  refine ⟨by rw [List.length_set]; exact h.1, fun r hr => ?_, fun r r' hr hr' => ?_⟩
  · rcases mem_set hr with hr | e
    · exact (inv_up h).2.1 r hr
    · cases e; exact ⟨hk, by show k < k + 1; omega, hd0, hd1, hi1, hik⟩
  · have key : ∀ r : Row, some r ∈ rs → (r.1 = k ↔ r.2 = (dev, ino)) := by
      intro r hr
      have hlt := (h.2.1 r hr).2.1
      constructor
      · intro e; omega
      · intro e
        exact absurd (by rw [e]) (hfree r hr (by rw [e]))
    rcases mem_set hr with hr | e <;> rcases mem_set hr' with hr' | e'
    · exact h.2.2 r r' hr hr'
    · cases e'; exact key r hr
    · cases e
      have := key r' hr'
      exact ⟨fun e => (this.mp e.symm).symm, fun e => (this.mpr e.symm).symm⟩
    · cases e; cases e'; simp
/-- what samestat tells -/
theorem inv_same {k : Int} {rs : List (Option Row)} (h : Inv k rs) {r r' : Row} (hr : some r ∈ rs) (hr' : some r' ∈ rs) : (1000000000 + r.2.2 = 1000000000 + r'.2.2 ∧ 1000000000 * r.2.1 = 1000000000 * r'.2.1) ↔ r.1 = r'.1 := by
  rw [h.2.2 r r' hr hr']
  constructor
  · rintro ⟨a, b⟩
    exact Prod.ext (by omega) (by omega)
  · intro e; rw [e]; exact ⟨rfl, rfl⟩
end Mine
end

section
open PySem PySem.W PyProof.Rows
set_option linter.unusedVariables false
namespace Mine
local macro_rules | `(tactic| walk_at "enterC") => `(tactic| (refine' code_defC ?k1 ?k2 ?k3 ?k4 ?k5 ?kA ?kF ?kK ?k6 ?k7 ?k8 ?k9 ?kB ?kD ?_ ?c2 ?c3 ?c4; (case kA => exact rfl); (case kF => exact rfl); (case kK => assumption); (case k1 => k_asm); (case k2 => k_asm); (case k3 => k_asm); (case k4 => k_asm); (case k5 => k_asm); (case k6 => k_is); (case k7 => k_is); (case k8 => ktr_room); (case k9 => exact BindsTo.of_eq rfl); (case kB => exact rfl); (case kD => decide +kernel); (case c2 => exact rfl); (case c3 => exact rfl); (case c4 => exact rfl); k_whole; intro g' L' h' tk' cells' FG' F' N' Y' B' X' T' l1; (try k_lt l1); k_cells Y'; (try simp only [List.cons_append, List.nil_append] at N'); (try dsimp only); (try k_lift B'); (try k_fold)))
local macro_rules | `(tactic| size_fits) => `(tactic| ((simp only [PySem.sizeLine_eq, List.size_toArray, List.length_cons, List.length_nil]); omega))
local macro_rules | `(tactic| walk_at "stop") => `(tactic| first
  | (with_reducible show wpAny _ _ (exec (Stmt.For _ _ _ _ _) _) _ _ _)
  | (with_reducible show wpAny _ _ (exec (Stmt.While _ _ _ _) _) _ _ _)
  | (with_reducible show wpAny _ _ (call (Value.type "ValueError") _) _ _ _)
  | (with_reducible show wpAny _ _ (exec (Stmt.Assign [Expr.Attribute _ _ _] _ _) _) _ _ _)
  | (with_reducible show wpAny _ _ (setAttr _ _ _) _ _ _)
  | (with_reducible show wpAny _ _ (getAttr (Value.ref _) _ _) _ _ _)
  | (with_reducible show ite _ _ _)
  | (with_reducible show wpAny _ _ (call (Value.ref _) _) _ _ _)
  | (with_reducible show wpAny _ _ (exec (Stmt.Assign _ (Expr.ListComp _ _ _ _) _) _) _ _ _)
  | (with_reducible show wpAny _ _ (subscriptTail _ _ (Value.ref _) (Value.int _ _)) _ _ _)
  | (with_reducible show wpAny _ _ (setItem (Value.ref _) _ _) _ _ _)
  | (with_reducible show wpAny _ _ (storeName _ (Str.ofString "dev") _) _ _ _)
  | (with_reducible show wpAny _ _ (eval (Expr.ListComp _ _ _ _) _) _ _ _)
  | (with_reducible show wpAny _ _ (pyIter _) _ _ _)
  | (with_reducible show LeaveK _ _ _ _ _ _ _))
local macro_rules | `(tactic| walk_at "ws") => `(tactic| repeat' (first | (k_unfold; (try dsimp only)) | ((fail_if_success (walk_at "stop")); walk1) | ((fail_if_success (walk_at "stop")); dsimp only; walk1) | (leave1; walk_say "STEP leave1"; try dsimp only)))
/-- a slot of names -/
def SlotOk (P : Addr) (all : List (Addr × Obj)) (v : Value) : Option Row → Prop
  | none => v = .none
  | some r => ∃ q e dx oe od n t1 t2 t3, v = .ref q ∧ (q, W.listOf [Value.int r.1 t1, .ref e, .int r.2.1 t2, .int r.2.2 t3].toArray n) ∈ all ∧ (e, oe) ∈ all ∧ (dx, od) ∈ all ∧ BufOk dx oe od (1000000000 * r.2.1) (1000000000 + r.2.2) ∧ q ≠ P ∧ e ≠ P ∧ dx ≠ P
def SlotsOk (P : Addr) (all : List (Addr × Obj)) (vals : List Value) (rs : List (Option Row)) : Prop := vals.length = rs.length ∧ ∀ (j : Nat) v r, vals[j]? = some v → rs[j]? = some r → SlotOk P all v r
theorem SlotOk.sub {P : Addr} {all all' : List (Addr × Obj)} {v : Value} {r : Option Row} (h : SlotOk P all v r) (hs : ∀ p ∈ all, p.1 ≠ P → p ∈ all') : SlotOk P all' v r := by
  cases r with
  | none => exact h
  | some r =>
    obtain ⟨q, e, dx, oe, od, n, t1, t2, t3, h1, h2, h3, h4, h5, h6, h7, h8⟩ := h
    exact ⟨q, e, dx, oe, od, n, t1, t2, t3, h1, hs _ h2 h6, hs _ h3 h7, hs _ h4 h8, h5, h6, h7, h8⟩
theorem SlotsOk.sub {P : Addr} {all all' : List (Addr × Obj)} {vals : List Value} {rs : List (Option Row)} (h : SlotsOk P all vals rs) (hs : ∀ p ∈ all, p.1 ≠ P → p ∈ all') : SlotsOk P all' vals rs := ⟨h.1, fun j v r hv hr => (h.2 j v r hv hr).sub hs⟩
theorem SlotsOk.set {P : Addr} {all : List (Addr × Obj)} {vals : List Value} {rs : List (Option Row)} (h : SlotsOk P all vals rs) (i : Nat) {v : Value} {r : Option Row} (hv : SlotOk P all v r) : SlotsOk P all (vals.set i v) (rs.set i r) := by
  refine ⟨by rw [List.length_set, List.length_set]; exact h.1, fun j v' r' h1 h2 => ?_⟩
  by_cases hij : i = j
  · subst hij
    rw [List.getElem?_set_self (by have := (List.getElem?_eq_some_iff.mp h1).1; rw [List.length_set] at this; exact this)] at h1
    rw [List.getElem?_set_self (by have := (List.getElem?_eq_some_iff.mp h2).1; rw [List.length_set] at this; exact this)] at h2
    cases h1; cases h2; exact hv
  · rw [List.getElem?_set_ne hij] at h1 h2
    exact h.2 j v' r' h1 h2
theorem SlotsOk.get {P : Addr} {all : List (Addr × Obj)} {vals : List Value} {rs : List (Option Row)} (h : SlotsOk P all vals rs) {i : Nat} (hi : i < rs.length) : ∃ v r, vals[i]? = some v ∧ rs[i]? = some r ∧ SlotOk P all v r ∧ r ∈ rs := by
  have h1 : vals[i]? = some (vals[i]'(by rw [h.1]; exact hi)) := List.getElem?_eq_getElem _
  have h2 : rs[i]? = some rs[i] := List.getElem?_eq_getElem hi
  exact ⟨_, _, h1, h2, h.2 i _ _ h1 h2, List.getElem_mem hi⟩
end Mine
end

section
open PySem PySem.W PyProof.Rows
set_option linter.unusedVariables false
namespace Mine
local macro_rules | `(tactic| walk_at "enterC") => `(tactic| (refine' code_defC ?k1 ?k2 ?k3 ?k4 ?k5 ?kA ?kF ?kK ?k6 ?k7 ?k8 ?k9 ?kB ?kD ?_ ?c2 ?c3 ?c4; (case kA => exact rfl); (case kF => exact rfl); (case kK => assumption); (case k1 => k_asm); (case k2 => k_asm); (case k3 => k_asm); (case k4 => k_asm); (case k5 => k_asm); (case k6 => k_is); (case k7 => k_is); (case k8 => ktr_room); (case k9 => exact BindsTo.of_eq rfl); (case kB => exact rfl); (case kD => decide +kernel); (case c2 => exact rfl); (case c3 => exact rfl); (case c4 => exact rfl); k_whole; intro g' L' h' tk' cells' FG' F' N' Y' B' X' T' l1; (try k_lt l1); k_cells Y'; (try simp only [List.cons_append, List.nil_append] at N'); (try dsimp only); (try k_lift B'); (try k_fold)))
local macro_rules | `(tactic| size_fits) => `(tactic| ((simp only [PySem.sizeLine_eq, List.size_toArray, List.length_cons, List.length_nil]); omega))
local macro_rules | `(tactic| walk_at "stop") => `(tactic| first
  | (with_reducible show wpAny _ _ (exec (Stmt.For _ _ _ _ _) _) _ _ _)
  | (with_reducible show wpAny _ _ (exec (Stmt.While _ _ _ _) _) _ _ _)
  | (with_reducible show wpAny _ _ (call (Value.type "ValueError") _) _ _ _)
  | (with_reducible show wpAny _ _ (exec (Stmt.Assign [Expr.Attribute _ _ _] _ _) _) _ _ _)
  | (with_reducible show wpAny _ _ (setAttr _ _ _) _ _ _)
  | (with_reducible show wpAny _ _ (getAttr (Value.ref _) _ _) _ _ _)
  | (with_reducible show ite _ _ _)
  | (with_reducible show wpAny _ _ (call (Value.ref _) _) _ _ _)
  | (with_reducible show wpAny _ _ (exec (Stmt.Assign _ (Expr.ListComp _ _ _ _) _) _) _ _ _)
  | (with_reducible show wpAny _ _ (subscriptTail _ _ (Value.ref _) (Value.int _ _)) _ _ _)
  | (with_reducible show wpAny _ _ (setItem (Value.ref _) _ _) _ _ _)
  | (with_reducible show wpAny _ _ (storeName _ (Str.ofString "dev") _) _ _ _)
  | (with_reducible show wpAny _ _ (eval (Expr.ListComp _ _ _ _) _) _ _ _)
  | (with_reducible show wpAny _ _ (pyIter _) _ _ _)
  | (with_reducible show LeaveK _ _ _ _ _ _ _))
local macro_rules | `(tactic| walk_at "ws") => `(tactic| repeat' (first | (k_unfold; (try dsimp only)) | ((fail_if_success (walk_at "stop")); walk1) | ((fail_if_success (walk_at "stop")); dsimp only; walk1) | (leave1; walk_say "STEP leave1"; try dsimp only)))
theorem cfin_assignR {prog : Program} {w : World} {A : Around} {E : Value → Shared → Prop} {s : Shared} {env : Env} {h₀ : Heap} {L : Addr} {m : Str → Option Value} {y : Str} {py : Pos} {n : Nat} {G : Nat → Option Value → Prop} {news : List (Addr × Obj)} {R : Shared → Prop} (hL : env.locals = L) (hy : env.kindOf y = some .local) (hp : (env.scope.kind == .class || (env.scope.kind == .module && env.locals != env.globals)) = false)
    (fin : ∀ D h tk (gs : List (Option Value)), Fr h₀ L h (fun z => if z = y then some (.ref D) else m z) → News h₀ L h ((D, LCg.lst (gs.filterMap id)) :: news) → (∀ p ∈ news, p.1 < D) → gs.length = n → (∀ j g, gs[j]? = some g → G j g) → R { s with heap := h, toks := tk }) :
    CFin h₀ L m s n G news (fun acc C => compPost (model prog w) A E (some (assign (.Name y py) env)) (fun _ s' => R s') acc C) := by
  subst hL
  exact cfin_assign (Q := fun _ s' => R s') hy hp fin
theorem taken_of {dv : Int} : ∀ {gs : List (Option Value)} {rs : List (Option Row)}, gs.length = rs.length → (∀ (j : Nat) (g : Option Value), gs[j]? = some g → ∃ r, rs[j]? = some r ∧ ((∃ r', r = some r' ∧ r'.2.1 = dv ∧ ∃ t, g = some (Value.int r'.2.2 t)) ∨ (g = none ∧ ∀ r', r = some r' → r'.2.1 ≠ dv))) →
    ∃ tn, IntsAre (gs.filterMap id) tn ∧ (∀ r', some r' ∈ rs → r'.2.1 = dv → r'.2.2 ∈ tn) ∧ ∀ z ∈ tn, ∃ r', some r' ∈ rs ∧ r'.2.2 = z
  | [], [], _, _ => ⟨[], .nil, by simp, by simp⟩
  | [], _ :: _, h, _ => by simp at h
  | _ :: _, [], h, _ => by simp at h
  | g :: gs, r :: rs, h, k => by
    obtain ⟨tn, h1, h2, h3⟩ := taken_of (dv := dv) (gs := gs) (rs := rs) (by simpa using h) fun j g hj => by
      obtain ⟨c, a, b⟩ := k (j + 1) g (by simpa using hj)
      exact ⟨c, by simpa using a, b⟩
    obtain ⟨r0, e1, e2⟩ := k 0 g rfl
    have : r = r0 := by simpa using e1
    subst this
    rcases e2 with ⟨r', rfl, hd, t, rfl⟩ | ⟨rfl, hn⟩
    · refine ⟨r'.2.2 :: tn, .cons _ t h1, ?_, ?_⟩
      · intro q hq hqd
        rcases List.mem_cons.mp hq with e | hq
        · cases e; exact .head _
        · exact .tail _ (h2 q hq hqd)
      · intro z hz
        rcases List.mem_cons.mp hz with rfl | hz
        · exact ⟨r', .head _, rfl⟩
        · obtain ⟨q, a, b⟩ := h3 z hz
          exact ⟨q, .tail _ a, b⟩
    · refine ⟨tn, h1, ?_, ?_⟩
      · intro q hq hqd
        rcases List.mem_cons.mp hq with e | hq
        · exact absurd hqd (hn q e.symm)
        · exact h2 q hq hqd
      · intro z hz
        obtain ⟨q, a, b⟩ := h3 z hz
        exact ⟨q, .tail _ a, b⟩
/-- a step is done -/
def StepQ (g1 : Heap) (L1 : Addr) (s : Shared) (P : Addr) (k : Int) (news : List (Addr × Obj)) (f : Flow) (s' : Shared) : Prop :=
  f = .next ∧ ∃ h tk m vals rs n all, s' = { s with heap := h, toks := tk } ∧ Fr g1 L1 h m ∧ News g1 L1 h all ∧ Inv (k + 1) rs ∧ SlotsOk P all vals rs ∧ (P, W.listOf vals.toArray n) ∈ all ∧ ∀ q ∈ news, q.1 ≠ P → q ∈ all
theorem step01 {w : World} {mean : ExcName → Option Value} {mg mb : Str → Option Value} (dp un : Nat) (gd : Option (List Code)) (cn : Str) (cs : Scope) (a : Addr) (ccd : Value) (cl : List (Str × Addr)) (outer : List Env) (A₀ : Around) (base h₀ : Heap) (L : Addr) (m : Str → Option Value) (news : List (Addr × Obj)) (s : Shared)
    (Q E : Value → Shared → Prop) (P : Addr) (n : Nat) (vals : List Value) (rs : List (Option Row)) (x k : Int) (tx tk : Tok) (hP : (P, W.listOf vals.toArray n) ∈ news) (hS : SlotsOk P news vals rs) (hI : Inv k rs) (hk0 : 0 ≤ k) (hk1 : k ≤ 100)
    (B : Below A₀ base outer h₀) (F : Fr h₀ L s.heap m) (X : (hd01.heap_39 w.params).In h₀) (N : News h₀ L s.heap news) (T : Top hd01.view_39 (looseW hd01.view_39 []) mean mg mb h₀) (hk : cs.kind = .function)
    (hd : dp + 3 < recursionLimit) (hu : un + 64 < cLine)
    (ret : ∀ h' tk' vals' rs' n' all', Inv (k + 1) rs' → SlotsOk P all' vals' rs' → (P, W.listOf vals'.toArray n') ∈ all' → (∀ q ∈ news, q.1 ≠ P → q ∈ all') → Fr h₀ L h' m → News h₀ L h' all' → Q .none { s with heap := h', toks := tk' }) :
    wpAny (model PySem.Challenge.rw_dm0122_01.row.prog w) (ktrTop dp un gd cn cs L a ccd cl outer) (call (.ref 33) [.ref P, .int x tx, .int k tk]) Q E s := by
  revert T; revert X; k_fill; intro X T
  refine wpAny_call ?_
  k_dflt (walk_at "enterC")
  walk_at "ws"
  rename Fr _ _ _ _ => F1
  rename News _ _ _ _ => N1
  rename_i g1 L1 h1 tk1 FG1 B1 X1 T1 l1 o1 d1 h2 h3
  have hd1 : o1.data = .cell none := d1
  have l1n : ∀ q ∈ news, @LT.lt Nat _ q.1 L1 := l1
  have hPL : @LT.lt Nat _ P L1 := l1n _ hP
  refine store_U rfl rfl rfl rfl F1 N1 (.head _) hd1 ?_
  intro h4 od hod F4 N4
  have N5 : News g1 L1 h4 ((L1 + 1, od) :: news) := news_sub N4 (by
    intro p hp
    rcases List.mem_cons.mp hp with rfl | hp
    · exact mem_upd_self (o := o1) (.head _)
    · exact mem_upd_ne (.tail _ hp) (by have := l1n p hp; show @Ne Nat p.1 (L1 + 1); omega))
  clear N4
  have hS5 : SlotsOk P ((L1 + 1, od) :: news) vals rs := hS.sub fun p hp _ => .tail _ hp
  have hvl : vals.length = 5 := by rw [hS.1]; exact hI.1
  obtain ⟨av, hav⟩ : ∃ av, av = (x.fdiv 4).fmod 5 := ⟨_, rfl⟩
  obtain ⟨bv, hbv⟩ : ∃ bv, bv = (x.fdiv 20).fmod 5 := ⟨_, rfl⟩
  obtain ⟨dv, hdv⟩ : ∃ dv, dv = (x.fdiv 100).fmod 2 := ⟨_, rfl⟩
  have ha0 : 0 ≤ av := by rw [hav]; exact Int.fmod_nonneg_of_pos _ (by decide)
  have ha5 : av < 5 := by rw [hav]; exact Int.fmod_lt_of_pos _ (by decide)
  have hb0 : 0 ≤ bv := by rw [hbv]; exact Int.fmod_nonneg_of_pos _ (by decide)
  have hb5 : bv < 5 := by rw [hbv]; exact Int.fmod_lt_of_pos _ (by decide)
  have hdv0 : 0 ≤ dv := by rw [hdv]; exact Int.fmod_nonneg_of_pos _ (by decide)
  have hdv2 : dv < 2 := by rw [hdv]; exact Int.fmod_lt_of_pos _ (by decide)
  rw [← hav, ← hbv] at F4
  rw [← hdv] at hod
  obtain ⟨va, ra, hva, hra', hsa, hra⟩ := hS5.get (i := av.toNat) (by rw [hI.1]; omega)
  obtain ⟨vb, rb, hvb, hrb', hsb, hrb⟩ := hS5.get (i := bv.toNat) (by rw [hI.1]; omega)
  dsimp only
  walk_at "ws"
  refine ite_join (Q' := StepQ g1 L1 s P k news) ?_ ?_ ?_
  · intro _
    walk_at "ws"
    refine setItem_U F4 N5 (.tail _ hP) ha0 (by omega) (by omega) ?_
    intro h6 F6 N60
    have hS6 : SlotsOk P (upd P (W.listOf (vals.set av.toNat .none).toArray n) ((L1 + 1, od) :: news)) (vals.set av.toNat .none) (rs.set av.toNat none) := (hS5.sub fun p hp hne => mem_upd_ne hp hne).set _ rfl
    have hI6 := inv_none hI av.toNat
    generalize hvs6 : vals.set av.toNat .none = vals6 at N60 hS6
    generalize hrs6 : rs.set av.toNat none = rs6 at hS6 hI6
    have N6 : News g1 L1 h6 ((L1 + 1, od) :: (P, W.listOf vals6.toArray n) :: upd P (W.listOf vals6.toArray n) ((L1 + 1, od) :: news)) := fun p hp => by
      rcases List.mem_cons.mp hp with rfl | hp
      · exact N60 _ (mem_upd_ne (.head _) (by show @Ne Nat (L1 + 1) P; omega))
      · rcases List.mem_cons.mp hp with rfl | hp
        · exact N60 _ (mem_upd_self (.tail _ hP))
        · exact N60 p hp
    dsimp only
    walk_at "ws"
    refine ListComp_A rfl rfl rfl (by decide) ?_
    walk_at "ws"
    have hv6 : vals6.length = 5 := by rw [hS6.1]; exact hI6.1
    refine csrc_list (its := vals6) (Bd := fun j m₃ => ∃ v r, vals6[j]? = some v ∧ rs6[j]? = some r ∧ m₃ (Str.ofString "row") = some v) (G := fun j g => ∃ r, rs6[j]? = some r ∧ ((∃ r', r = some r' ∧ r'.2.1 = dv ∧ ∃ t, g = some (Value.int r'.2.2 t)) ∨ (g = none ∧ ∀ r', r = some r' → r'.2.1 ≠ dv))) rfl (by decide) rfl F6 N6 (.tail _ (.head _)) (by rw [hv6, PySem.sizeLine_eq]; omega) ?_ ?_ ?_ (cfin_assignR rfl rfl rfl ?_)
    · intro I i v s' Q E' hv hit hq
      exact wpAny_pure hq
    · intro j v C h tk m' E' hv h1 h2 h3 h4 h5 h6
      refine wpAny_mono (bind_name (P := fun j v => vals6[j]? = some v) rfl rfl j v C h tk m' E' hv h1 h2 h3 h4 h5 h6) ?_ fun _ _ e => e
      rintro _ s₃ ⟨h₃, tk₃, m₃, e, hn₃, hk₃, v', hv', hm⟩
      have hj : j < rs6.length := by rw [← hS6.1]; exact (List.getElem?_eq_some_iff.mp hv').1
      exact ⟨h₃, tk₃, m₃, e, hn₃, hk₃, v', rs6[j], hv', List.getElem?_eq_getElem hj, hm⟩
    · intro j hj
      unfold CTurn
      rintro I3 oI3 C oC D2 oD2 m₃ h2 tk2 E' ⟨v, r, hv, hr, hm3⟩ hC F7 N7 hoff
      have hsl := hS6.2 j v r hv hr
      refine wpAny_tests_one ?_
      cases r with
      | none =>
        have hv' : v = .none := hsl
        subst hv'
        walk_at "ws"
        rw [if_neg (by decide)]
        (try walk_at "ws")
        rw [if_neg (by decide)]
        exact CEnd.intro F7 N7 (fun _ h => h) ⟨none, hr, .inr ⟨rfl, fun r' e => nomatch e⟩⟩
      | some r =>
        obtain ⟨q, e, dx, oe, oq, nq, t1, t2, t3, rfl, q1, q2, q3, q4, q5, q6, q7⟩ := hsl
        walk_at "ws"
        rw [if_pos rfl]
        walk_at "ws"
        refine item_U N7 (.tail _ (.tail _ (.tail _ (.tail _ (.tail _ q1))))) (by decide) (by decide) (v := .int r.2.1 t2) rfl ?_
        walk_at "ws"
        by_cases hrd : r.2.1 = dv
        · rw [if_pos (by simp [hrd])]
          walk_at "ws"
          rw [if_pos rfl]
          walk_at "ws"
          refine item_U N7 (.tail _ (.tail _ (.tail _ (.tail _ (.tail _ q1))))) (by decide) (by decide) (v := .int r.2.2 t3) rfl ?_
          exact CEnd.intro F7 N7 (fun _ h => h) ⟨some r, hr, .inl ⟨r, rfl, hrd, t3, rfl⟩⟩
        · rw [if_neg (by simp [hrd])]
          rw [if_neg (by decide)]
          exact CEnd.intro F7 N7 (fun _ h => h) ⟨some r, hr, .inr ⟨rfl, fun r' e' => by cases e'; exact hrd⟩⟩
    · intro D h7 tk7 gs Fd Nd hlt hgl hG
      obtain ⟨tn, hin, htn1, htn2⟩ := taken_of (by rw [hgl, hS6.1]) hG
      have htl : (gs.filterMap id).length ≤ 5 := by
        have := List.length_filterMap_le id gs
        rw [hgl, hv6] at this; exact this
      generalize gs.filterMap id = tv at Nd hin htl
      have hle : ∀ z ∈ tn, z ≤ k := by
        intro z hz
        obtain ⟨r', a1, a2⟩ := htn2 z hz
        obtain ⟨_, b2, _, _, _, b6⟩ := hI6.2.1 r' a1
        omega
      dsimp only
      walk_at "ws"
      rename Fr g1 L1 _ _ => F8
      rename News g1 L1 _ _ => N8
      refine ksw_while (σ := Int × Tok) (fun _ => (D, LCg.lst tv) :: (L1 + 1, od) :: (P, W.listOf vals6.toArray n) :: upd P (W.listOf vals6.toArray n) ((L1 + 1, od) :: news)) (fun c => [(Str.ofString "ino", .int c.1 c.2)]) (fun _ => True) [] (fun c => 1 ≤ c.1 ∧ c.1 ≤ k + 1) (fun c => (k + 2 - c.1).toNat) (1, ?t0) F8 N8 trivial ?hk ?_ ?_
      case hk => (intro q hq; rw [List.mem_singleton.mp hq]; rfl)
      · exact ⟨by show (1 : Int) ≤ 1; decide, by show (1 : Int) ≤ k + 1; omega⟩
      · rintro ⟨f, tf⟩ u h5 tk5 - ⟨hf1, hf2⟩ F9 N9
        dsimp only at F9 N9 hf1 hf2
        walk_at "ws"
        by_cases hmem : f ∈ tn
        · rw [if_pos (by simpa using hmem)]
          have hfk := hle f hmem
          walk_at "ws"
          rename Fr g1 L1 _ _ => F10
          rename News g1 L1 _ _ => N10
          refine ksw_end (f + 1, ?t1) F10 N10 (fun _ h => h) trivial ?hk1 ?hr1 ⟨?_, ?_⟩ ?_
          case hk1 => (intro q hq; rw [List.mem_singleton.mp hq]; rfl)
          case hr1 =>
            intro z h2 h3
            have h2' : z ≠ Str.ofString "ino" := h2 _ (List.mem_singleton.mpr rfl)
            unfold kstB
            simp only [if_neg h2']
            first
              | rfl
              | (unfold kstB; simp [h2'])
              | simp [kstB, h2']
          · show 1 ≤ f + 1; omega
          · show f + 1 ≤ k + 1; omega
          · show (k + 2 - (f + 1)).toNat < (k + 2 - f).toNat; omega
        · rw [if_neg (by simpa using hmem)]
          walk_at "ws"
          rename Fr g1 L1 _ _ => F10
          rename News g1 L1 _ _ => N10
          k_dflt (refine buffer01 _ _ _ _ _ _ _ _ _ _ _ _ _ _ _ _ _ _ dv f _ _ ⟨hdv0, by omega⟩ ⟨by omega, by omega⟩ B1 F10 X1 N10 T1 rfl ?hdp ?hun ?_)
          case hdp => ktr_room
          case hun => ktr_units
          intro e7 dx7 oe7 od7 h7 tk7 hb7 hne7 hed7 F11 N11
          dsimp only
          walk_at "ws"
          rename Fr g1 L1 _ _ => F12
          rename News g1 L1 _ _ => N12
          rename_i lN hN12 hltN
          have hlP : P ≠ lN := Nat.ne_of_lt hltN.2.2.2.2.1
          have hPn := hne7 (P, W.listOf vals6.toArray n) (.tail _ (.tail _ (.head _)))
          have hfree : ∀ r, some r ∈ rs6 → r.2.1 = dv → r.2.2 ≠ f := fun r hr hrd e => hmem (e ▸ htn1 r hr hrd)
          refine setItem_U F12 N12 (.tail _ (.tail _ (.tail _ (.tail _ (.tail _ (.head _)))))) ha0 (by omega) (by omega) ?_
          intro h13 F13 N13
          dsimp only
          walk_at "ws"
          refine ⟨rfl, _, _, _, vals6.set av.toNat (.ref lN), rs6.set av.toNat (some (k, dv, f)), n, _, rfl, F13, N13, inv_new hI6 _ hk0 hdv0 (by omega) hf1 hf2 hfree, ?_, mem_upd_self (.tail _ (.tail _ (.tail _ (.tail _ (.tail _ (.head _)))))), fun q hq hne => mem_upd_ne (.tail _ (.tail _ (.tail _ (.tail _ (.tail _ (.tail _ (mem_upd_ne (.tail _ hq) hne))))))) hne⟩
          refine (hS6.sub fun p hp hne => mem_upd_ne (.tail _ (.tail _ (.tail _ (.tail _ (.tail _ (.tail _ hp)))))) hne).set _ ⟨lN, e7, dx7, oe7, od7, 0, _, _, _, rfl, mem_upd_ne (.head _) (Ne.symm hlP), mem_upd_ne (.tail _ (.head _)) (Ne.symm hPn.1), mem_upd_ne (.tail _ (.tail _ (.head _))) (Ne.symm hPn.2), hb7, Ne.symm hlP, Ne.symm hPn.1, Ne.symm hPn.2⟩
  · intro _
    walk_at "ws"
    refine ite_join (Q' := StepQ g1 L1 s P k news) ?_ ?_ ?_
    · intro _
      walk_at "ws"
      refine item_U N5 (.tail _ hP) ha0 (by omega) (v := va) (by simpa using hva) ?_
      cases ra with
      | none =>
        have hva' : va = .none := hsa
        subst hva'
        walk_at "ws"
        rw [if_pos rfl]
        walk_at "ws"
        rename Fr g1 L1 _ _ => F5
        rename News g1 L1 _ _ => N6
        refine setItem_U F5 N6 (.tail _ hP) hb0 (by omega) (by omega) ?_
        intro h6 F6 N6
        dsimp only
        walk_at "ws"
        refine ⟨rfl, _, _, _, vals.set bv.toNat .none, rs.set bv.toNat none, n, _, rfl, F6, N6, inv_up (inv_none hI _), ?_, mem_upd_self (.tail _ hP), fun q hq hne => mem_upd_ne (.tail _ hq) hne⟩
        exact (hS5.sub fun p hp hne => mem_upd_ne hp hne).set _ rfl
      | some r =>
        have hsa0 := hsa
        obtain ⟨q, e, dx, oe, oq, nq, t1, t2, t3, rfl, q1, q2, q3, q4, q5, q6, q7⟩ := hsa
        obtain ⟨r1, r2, r3, r4, r5, r6⟩ := hI.2.1 r hra
        walk_at "ws"
        rw [if_neg (by decide)]
        walk_at "ws"
        rename Fr g1 L1 _ _ => F5
        rename News g1 L1 _ _ => N6
        refine item_U N6 q1 (by decide) (by decide) (v := .int r.1 t1) rfl ?_
        walk_at "ws"
        refine item_U N6 q1 (by decide) (by decide) (v := .int r.2.1 t2) rfl ?_
        walk_at "ws"
        refine item_U N6 q1 (by decide) (by decide) (v := .int r.2.2 t3) rfl ?_
        walk_at "ws"
        k_dflt (refine buffer01 _ _ _ _ _ _ _ _ _ _ _ _ _ _ _ _ _ _ r.2.1 r.2.2 _ _ ⟨r3, r4⟩ ⟨by omega, by omega⟩ B1 F5 X1 N6 T1 rfl ?hdp ?hun ?_)
        case hdp => ktr_room
        case hun => ktr_units
        intro e7 dx7 oe7 od7 h7 tk7 hb7 hne7 hed7 F7 N7
        dsimp only
        walk_at "ws"
        refine item_U N7 (.tail _ (.tail _ q1)) (by decide) (by decide) (v := .int r.2.1 t2) rfl ?_
        walk_at "ws"
        refine item_U N7 (.tail _ (.tail _ q1)) (by decide) (by decide) (v := .int r.2.2 t3) rfl ?_
        walk_at "ws"
        rename Fr g1 L1 _ _ => F8
        rename News g1 L1 _ _ => N8
        rename_i lN hN8 hltN
        have hlP : P ≠ lN := Nat.ne_of_lt (ktn_ltOf hltN.2.2.2 _ hP)
        have hPn := hne7 (P, W.listOf vals.toArray n) (.tail _ hP)
        refine setItem_U F8 N8 (.tail _ (.tail _ (.tail _ (.tail _ hP)))) hb0 (by omega) (by omega) ?_
        intro h9 F9 N9
        dsimp only
        walk_at "ws"
        have hup : ∀ p ∈ (L1 + 1, od) :: news, p.1 ≠ P → p ∈ upd P (W.listOf (vals.set bv.toNat (.ref lN)).toArray n) ((lN, W.listOf #[Value.int r.1 t1, .ref e7, .int r.2.1 t2, .int r.2.2 t3] 0) :: (e7, oe7) :: (dx7, od7) :: (L1 + 1, od) :: news) := fun p hp hne => mem_upd_ne (.tail _ (.tail _ (.tail _ hp))) hne
        refine ⟨rfl, _, _, _, vals.set bv.toNat (.ref lN), rs.set bv.toNat (some r), n, _, rfl, F9, N9, inv_up (inv_put hI _ hra), ?_, mem_upd_self (.tail _ (.tail _ (.tail _ (.tail _ hP)))), fun q hq hne => hup q (.tail _ hq) hne⟩
        refine (hS5.sub hup).set _ ⟨lN, e7, dx7, oe7, od7, 0, t1, t2, t3, rfl, mem_upd_ne (.head _) (Ne.symm hlP), mem_upd_ne (.tail _ (.head _)) (Ne.symm hPn.1), mem_upd_ne (.tail _ (.tail _ (.head _))) (Ne.symm hPn.2), hb7, Ne.symm hlP, Ne.symm hPn.1, Ne.symm hPn.2⟩
    · intro _
      walk_at "ws"
      refine ite_join (Q' := StepQ g1 L1 s P k news) ?_ ?_ ?_
      · intro _
        walk_at "ws"
        refine setItem_U F4 N5 (.tail _ hP) ha0 (by omega) (by omega) ?_
        intro h6 F6 N6
        dsimp only
        walk_at "ws"
        refine ⟨rfl, _, _, _, vals.set av.toNat .none, rs.set av.toNat none, n, _, rfl, F6, N6, inv_up (inv_none hI _), ?_, mem_upd_self (.tail _ hP), fun q hq hne => mem_upd_ne (.tail _ hq) hne⟩
        exact (hS5.sub fun p hp hne => mem_upd_ne hp hne).set _ rfl
      · intro _
        walk_at "ws"
        refine item_U N5 (.tail _ hP) hb0 (by omega) (v := vb) (by simpa using hvb) ?_
        walk_at "ws"
        refine item_U N5 (.tail _ hP) ha0 (by omega) (v := va) (by simpa using hva) ?_
        walk_at "ws"
        rename Fr g1 L1 _ _ => F5
        rename News g1 L1 _ _ => N60
        have N6 : News g1 L1 _ ((L1 + 1, od) :: news) := news_sub N60 (fun _ h => .tail _ h)
        clear N60
        refine setItem_U F5 N6 (.tail _ hP) ha0 (by omega) (by omega) ?_
        intro h6 F6 N6
        dsimp only
        walk_at "ws"
        refine setItem_U F6 N6 (mem_upd_self (.tail _ hP)) hb0 (by rw [List.length_set]; omega) (by omega) ?_
        intro h7 F7 N7
        dsimp only
        walk_at "ws"
        have hup : ∀ p ∈ (L1 + 1, od) :: news, p.1 ≠ P → p ∈ upd P (W.listOf ((vals.set av.toNat vb).set bv.toNat va).toArray n) (upd P (W.listOf (vals.set av.toNat vb).toArray n) ((L1 + 1, od) :: news)) := fun p hp hne => mem_upd_ne (mem_upd_ne hp hne) hne
        refine ⟨rfl, _, _, _, (vals.set av.toNat vb).set bv.toNat va, (rs.set av.toNat rb).set bv.toNat ra, n, _, rfl, F7, N7, inv_up (inv_swap hI _ _ hra hrb), ?_, mem_upd_self (mem_upd_self (.tail _ hP)), fun q hq hne => hup q (.tail _ hq) hne⟩
        exact ((hS5.sub hup).set _ (hsb.sub hup)).set _ (hsa.sub hup)
      · rintro f s' ⟨rfl, hrest⟩
        walk_at "ws"
        exact ⟨rfl, hrest⟩
    · rintro f s' ⟨rfl, hrest⟩
      walk_at "ws"
      exact ⟨rfl, hrest⟩
  · rintro f s' ⟨rfl, h9, tk9, m9, vals9, rs9, n9, all9, rfl, F9, N9, i1, i2, i3, i4⟩
    dsimp only
    walk_at "ws"
    exact leaveK_ F9 N9 fun Fb Nb => ret _ _ vals9 rs9 n9 all9 i1 i2 i3 i4 Fb Nb
end Mine
end

section
open PySem PySem.W PyProof.Rows
set_option linter.unusedVariables false
namespace Mine
def defBody (p : Program) (n : Nat) : List Stmt := match p.main.body[n]? with
  | some (.FunctionDef (body := b) ..) => b
  | _ => []
def defScope (p : Program) (n : Nat) : Scope := match p.main.body[n]? with
  | some (.FunctionDef (scope := b) ..) => b
  | _ => default
def forOf (l : List Stmt) (k : Nat) : List Stmt := match l[k]? with
  | some (.For (body := b) ..) => b
  | _ => []
def turn01 : List Stmt := forOf (defBody PySem.Challenge.pw_dm0122_01 5) 2
def outer01 : List Stmt := forOf turn01 2
def inner01 : List Stmt := forOf outer01 0
def scope01 : Scope := defScope PySem.Challenge.pw_dm0122_01 5
abbrev env01 (L fa : Addr) (cA : Value) : Env := envOf (Str.ofString "law") scope01 L fa cA
local macro_rules | `(tactic| size_fits) => `(tactic| ((simp only [PySem.sizeLine_eq, List.size_toArray, List.length_cons, List.length_nil]); omega))
local macro_rules | `(tactic| walk_at "stop") => `(tactic| first
  | (with_reducible show wpAny _ _ (exec (Stmt.For _ _ _ _ _) _) _ _ _)
  | (with_reducible show wpAny _ _ (exec (Stmt.While _ _ _ _) _) _ _ _)
  | (with_reducible show ite _ _ _)
  | (with_reducible show wpAny _ _ (call (Value.ref _) _) _ _ _)
  | (with_reducible show wpAny _ _ (exec (Stmt.Assign _ (Expr.ListComp _ _ _ _) _) _) _ _ _)
  | (with_reducible show wpAny _ _ (subscriptTail _ _ (Value.ref _) (Value.int _ _)) _ _ _)
  | (with_reducible show wpAny _ _ (pyIter _) _ _ _)
  | (with_reducible show GEnd _ _ _ _ _ _ _)
  | (with_reducible show wpAny _ _ (call (Value.builtin "len") [Value.ref _]) _ _ _)
  | (with_reducible show LeaveK _ _ _ _ _ _ _))
local macro_rules | `(tactic| walk_at "GPost") => `(tactic| (dsimp only [GPost]))
local macro_rules | `(tactic| walk_at "ws") => `(tactic| repeat' (first | (k_unfold; (try dsimp only)) | ((fail_if_success (walk_at "stop")); walk1) | ((fail_if_success (walk_at "stop")); dsimp only; walk1) | (leave1; walk_say "STEP leave1"; try dsimp only)))
/-- a pair of rows was looked at -/
def PairEnd (s₁ : Shared) (m : Str → Option Value) (all : List (Addr × Obj)) (f : Flow) (s' : Shared) : Prop :=
  f = .next ∧ ∃ h tk, s' = { s₁ with heap := h, toks := tk } ∧ Fr s₁.heap s₁.heap.objs.size h m ∧ News s₁.heap s₁.heap.objs.size h all
theorem pair_ok {w : World} {mean : ExcName → Option Value} {mg mb : Str → Option Value} (s₁ : Shared) (fa : Addr) (cA : Value) (E : Value → Shared → Prop) (K0 : Below callerA s₁.heap [] s₁.heap) (T : Top hd01.view_39 (looseW hd01.view_39 []) mean mg mb s₁.heap) (KX : (hd01.heap_39 w.params).In s₁.heap)
    {P R : Addr} {n i j : Nat} {k : Int} {all : List (Addr × Obj)} {rv : List Value} {rs : List (Option Row)} {ri rj : Row} {vi vj : Value} {ti tj : Tok} {m : Str → Option Value} {h : Heap} {tk : Nat}
    (hR : (R, W.listOf rv.toArray n) ∈ all) (hi : rv[i]? = some vi) (hj : rv[j]? = some vj) (hi5 : i ≤ 5) (hj5 : j ≤ 5) (hsi : SlotOk P all vi (some ri)) (hsj : SlotOk P all vj (some rj)) (hI : Inv k rs) (hri : some ri ∈ rs) (hrj : some rj ∈ rs)
    (F : Fr s₁.heap s₁.heap.objs.size h m) (N : News s₁.heap s₁.heap.objs.size h all)
    (hm1 : m (Str.ofString "rows") = some (.ref R)) (hm2 : m (Str.ofString "i") = some (.int i ti)) (hm3 : m (Str.ofString "j") = some (.int j tj)) :
    wpAny (model PySem.Challenge.rw_dm0122_01.row.prog w) (callerA.deeper (env01 s₁.heap.objs.size fa cA)) (execs inner01 (env01 s₁.heap.objs.size fa cA))
      (PairEnd s₁ m all) E { s₁ with heap := h, toks := tk } := by
  revert KX; k_fill; intro KX
  unfold env01
  conv in (inner01) => whnf
  simp only [show scope01 = defScope PySem.Challenge.pw_dm0122_01 5 from rfl]
  conv in (occs := *) (defScope PySem.Challenge.pw_dm0122_01 5) => all_goals whnf
  obtain ⟨qi, ei, di, oei, odi, ni, ai1, ai2, ai3, rfl, i1, i2, i3, i4, -, -, -⟩ := hsi
  obtain ⟨qj, ej, dj, oej, odj, nj, aj1, aj2, aj3, rfl, j1, j2, j3, j4, -, -, -⟩ := hsj
  have hsame := inv_same hI hrj hri
  have hkb : kstB m [(Str.ofString "rows", .ref R), (Str.ofString "i", .int i ti), (Str.ofString "j", .int j tj)] = m := funext fun z => kstB_eq (by simp [hm1, hm2, hm3]) fun _ => rfl
  have F9 := fr_show [(Str.ofString "rows", .ref R), (Str.ofString "i", .int i ti), (Str.ofString "j", .int j tj)] F (by simp [hm1, hm2, hm3])
  clear F
  walk_at "ws"
  refine item_U N hR (by omega) (by omega) (v := .ref qj) (by simpa using hj) ?_
  walk_at "ws"
  refine item_U N j1 (by decide) (by decide) (v := .ref ej) rfl ?_
  walk_at "ws"
  refine item_U N hR (by omega) (by omega) (v := .ref qi) (by simpa using hi) ?_
  walk_at "ws"
  refine item_U N i1 (by decide) (by decide) (v := .ref ei) rfl ?_
  walk_at "ws"
  k_dflt (refine same01 _ _ _ _ _ _ _ _ _ _ _ _ _ _ _ _ _ _ ej dj ei di oej odj oei odi _ _ _ _ j4 i4 j2 j3 i2 i3 K0 F9 KX N T rfl ?hdp ?hun ?_)
  case hdp => ktr_room
  case hun => ktr_units
  intro h1 tk1 F1 N1
  dsimp only
  walk_at "ws"
  refine item_U N1 hR (by omega) (by omega) (v := .ref qj) (by simpa using hj) ?_
  walk_at "ws"
  refine item_U N1 j1 (by decide) (by decide) (v := .int rj.1 aj1) rfl ?_
  walk_at "ws"
  refine item_U N1 hR (by omega) (by omega) (v := .ref qi) (by simpa using hi) ?_
  walk_at "ws"
  refine item_U N1 i1 (by decide) (by decide) (v := .int ri.1 ai1) rfl ?_
  walk_at "ws"
  rw [if_neg (by
    by_cases hx : rj.1 = ri.1
    · rw [decide_eq_true (hsame.mpr hx), hx]; simp
    · rw [decide_eq_false (fun a => hx (hsame.mp a))]; simp [hx])]
  walk_at "ws"
  rw [hkb] at F1
  exact ⟨rfl, _, _, rfl, F1, N1⟩
/-- what is known of the rows -/
def RowsAre (P : Addr) (all : List (Addr × Obj)) (rs : List (Option Row)) (rv : List Value) : Prop := ∀ (j : Nat) v, rv[j]? = some v → ∃ r, SlotOk P all v (some r) ∧ some r ∈ rs
def RowEnd (s₁ : Shared) (P D R : Addr) (all : List (Addr × Obj)) (f : Flow) (s' : Shared) : Prop :=
  f = .next ∧ ∃ h tk m all', s' = { s₁ with heap := h, toks := tk } ∧ Fr s₁.heap s₁.heap.objs.size h m ∧ News s₁.heap s₁.heap.objs.size h all' ∧ Sub all all' ∧ m (Str.ofString "rows") = some (.ref R) ∧ m (Str.ofString "names") = some (.ref P) ∧ m (Str.ofString "steps") = some (.ref D)
/-- a fact that the walk shall not see -/
def Hid (p : Prop) : Prop := p
def JI (P D R : Addr) (i : Int) (ti : Tok) (all : List (Addr × Obj)) (j : Nat) (m : Str → Option Value) (nx : List (Addr × Obj)) : Prop :=
  Sub all nx ∧ m (Str.ofString "rows") = some (.ref R) ∧ m (Str.ofString "names") = some (.ref P) ∧ m (Str.ofString "steps") = some (.ref D) ∧ m (Str.ofString "i") = some (.int i ti)
theorem row_ok {w : World} {mean : ExcName → Option Value} {mg mb : Str → Option Value} (s₁ : Shared) (fa : Addr) (cA : Value) (K0 : Below callerA s₁.heap [] s₁.heap) (T : Top hd01.view_39 (looseW hd01.view_39 []) mean mg mb s₁.heap) (KX : (hd01.heap_39 w.params).In s₁.heap)
    {P D R : Addr} {n i : Nat} {k : Int} {all : List (Addr × Obj)} {rv : List Value} {rs : List (Option Row)} {ti : Tok} {m : Str → Option Value} {h : Heap} {tk : Nat}
    (hR : (R, W.listOf rv.toArray n) ∈ all) (hi : i < rv.length) (hl : rv.length ≤ 5) (hS : RowsAre P all rs rv) (hI : Inv k rs)
    (F : Fr s₁.heap s₁.heap.objs.size h m) (N : News s₁.heap s₁.heap.objs.size h all)
    (hm1 : m (Str.ofString "rows") = some (.ref R)) (hm2 : m (Str.ofString "names") = some (.ref P)) (hm3 : m (Str.ofString "steps") = some (.ref D)) (hm4 : m (Str.ofString "i") = some (.int i ti)) :
    wpAny (model PySem.Challenge.rw_dm0122_01.row.prog w) (callerA.deeper (env01 s₁.heap.objs.size fa cA)) (execs outer01 (env01 s₁.heap.objs.size fa cA))
      (RowEnd s₁ P D R all) (fun _ _ => False) { s₁ with heap := h, toks := tk } := by
  have KX1 := KX
  revert KX; k_fill; intro KX
  unfold env01
  conv in (outer01) => whnf
  simp only [show scope01 = defScope PySem.Challenge.pw_dm0122_01 5 from rfl]
  conv in (occs := *) (defScope PySem.Challenge.pw_dm0122_01 5) => all_goals whnf
  have F9 := fr_show [(Str.ofString "rows", .ref R), (Str.ofString "names", .ref P), (Str.ofString "steps", .ref D), (Str.ofString "i", .int i ti)] F (by simp [hm1, hm2, hm3, hm4])
  clear F
  have hh : Hid (i < rv.length ∧ rv.length ≤ 5) := ⟨hi, hl⟩
  have hi6 : i ≤ 1000 := by omega
  clear hi hl
  walk_at "ws"
  refine For_invVF F9 rfl rfl ?_
  walk_at "ws"
  obtain ⟨hi, hl⟩ : i < rv.length ∧ rv.length ≤ 5 := hh
  rename Fr s₁.heap s₁.heap.objs.size _ _ => F2
  rename News s₁.heap s₁.heap.objs.size _ _ => N2
  rename IsRange _ _ _ _ _ _ _ _ => R2
  refine forRange (n := i) 0 i (JI P D R i ti all) rfl R2 ?hsm ?hnn F2 N2 ?hj ?_ ?_
  case hsm => exact small_one (by decide) (by decide) (by omega) (by omega)
  case hnn => rw [rangeSize_nat]; omega
  case hj => exact ⟨fun p hp => (by first | exact hp | exact .tail _ hp), rfl, rfl, rfl, rfl⟩
  · rintro j t m₁ nx h3 tk3 own I hj ⟨hsub, e1, e2, e3, e4⟩ ⟨oI, hIo⟩ hof hnI F3 N3
    rw [Int.zero_add] at F3
    obtain ⟨ri, hsi, hri⟩ := hS i rv[i] (List.getElem?_eq_getElem hi)
    have hjl : j < rv.length := by omega
    obtain ⟨rj, hsj, hrj⟩ := hS j rv[j] (List.getElem?_eq_getElem hjl)
    refine wpAny_mono (pair_ok s₁ fa cA _ K0 T KX1 (P := P) (R := R) (i := i) (j := j) (all := own ++ nx) (List.mem_append_right _ (hsub _ hR)) (List.getElem?_eq_getElem hi) (List.getElem?_eq_getElem hjl) (by omega) (by omega) (hsi.sub fun p hp _ => List.mem_append_right _ (hsub p hp)) (hsj.sub fun p hp _ => List.mem_append_right _ (hsub p hp)) hI hri hrj F3 N3 e1 e4 rfl) ?_ fun _ _ e => e
    rintro f s' ⟨rfl, h4, tk4, rfl, F4, N4⟩
    exact GEnd.intro nx F4 N4 (fun p hp => List.mem_append_left _ hp) (fun p hp => List.mem_append_right _ hp) hnI ⟨hsub, e1, e2, e3, e4⟩
  · rintro m₁ nx h3 tk3 ⟨hsub, e1, e2, e3, e4⟩ F3 N3
    walk_at "ws"
    exact ⟨rfl, _, _, _, _, rfl, F3, N3, hsub, e1, e2, e3⟩
end Mine
end

section
open PySem PySem.W PyProof.Rows
set_option linter.unusedVariables false
namespace Mine
local macro_rules | `(tactic| size_fits) => `(tactic| ((simp only [PySem.sizeLine_eq, List.size_toArray, List.length_cons, List.length_nil]); omega))
local macro_rules | `(tactic| walk_at "stop") => `(tactic| first
  | (with_reducible show wpAny _ _ (exec (Stmt.For _ _ _ _ _) _) _ _ _)
  | (with_reducible show wpAny _ _ (exec (Stmt.While _ _ _ _) _) _ _ _)
  | (with_reducible show ite _ _ _)
  | (with_reducible show wpAny _ _ (call (Value.ref _) _) _ _ _)
  | (with_reducible show wpAny _ _ (exec (Stmt.Assign _ (Expr.ListComp _ _ _ _) _) _) _ _ _)
  | (with_reducible show wpAny _ _ (subscriptTail _ _ (Value.ref _) (Value.int _ _)) _ _ _)
  | (with_reducible show wpAny _ _ (pyIter _) _ _ _)
  | (with_reducible show CEnd _ _ _ _ _ _ _ _)
  | (with_reducible show GEnd _ _ _ _ _ _ _)
  | (with_reducible show wpAny _ _ (call (Value.builtin "len") [Value.ref _]) _ _ _)
  | (with_reducible show LeaveK _ _ _ _ _ _ _))
local macro_rules | `(tactic| walk_at "GPost") => `(tactic| (dsimp only [GPost]))
local macro_rules | `(tactic| walk_at "ws") => `(tactic| repeat' (first | (k_unfold; (try dsimp only)) | ((fail_if_success (walk_at "stop")); walk1) | ((fail_if_success (walk_at "stop")); dsimp only; walk1) | (leave1; walk_say "STEP leave1"; try dsimp only)))
theorem len_U1 {prog : Program} {w : World} {A : Around} {E : Value → Shared → Prop} {s : Shared} {h₀ : Heap} {L D : Addr} {all : List (Addr × Obj)} {vs : List Value} {n : Nat} {Q : Value → Shared → Prop} (N : News h₀ L s.heap all) (hm : (D, W.listOf vs.toArray n) ∈ all) (hsz : vs.length ≤ 1000000)
    (h : ∀ t k, Q (.int (vs.length : Int) t) { s with toks := k }) : wpAny (model prog w) A (call (.builtin "len") [.ref D]) Q E s := by
  have hl : s.heap.IsList D vs.toArray := ⟨_, (N _ hm).1, rfl, n, rfl⟩
  refine len_list hl (by rw [List.size_toArray]; omega) ?_
  rw [List.size_toArray]; exact h _ _
/-- a step was gone, the rows were looked at -/
def TurnEnd (s₁ : Shared) (P D : Addr) (k : Int) (all : List (Addr × Obj)) (f : Flow) (s' : Shared) : Prop :=
  f = .next ∧ ∃ h tk m all' vals rs n, s' = { s₁ with heap := h, toks := tk } ∧ Fr s₁.heap s₁.heap.objs.size h m ∧ News s₁.heap s₁.heap.objs.size h all' ∧ Inv (k + 1) rs ∧ SlotsOk P all' vals rs ∧ (P, W.listOf vals.toArray n) ∈ all' ∧ (∀ q ∈ all, q.1 ≠ P → q ∈ all') ∧ m (Str.ofString "names") = some (.ref P) ∧ m (Str.ofString "steps") = some (.ref D)
def JO (P D R : Addr) (all : List (Addr × Obj)) (i : Nat) (m : Str → Option Value) (nx : List (Addr × Obj)) : Prop :=
  Sub all nx ∧ m (Str.ofString "rows") = some (.ref R) ∧ m (Str.ofString "names") = some (.ref P) ∧ m (Str.ofString "steps") = some (.ref D)
theorem rows_of {P : Addr} {all : List (Addr × Obj)} {rs : List (Option Row)} {gs : List (Option Value)} (h : ∀ (j : Nat) g, gs[j]? = some g → ∀ v, g = some v → ∃ r, SlotOk P all v (some r) ∧ some r ∈ rs) : RowsAre P all rs (gs.filterMap id) := by
  intro j v hv
  obtain ⟨g, hg, e⟩ := List.mem_filterMap.mp (List.mem_of_getElem? hv)
  obtain ⟨i, hi⟩ := List.getElem?_of_mem hg
  exact h i g hi v e
theorem turn_ok {w : World} {mean : ExcName → Option Value} {mg mb : Str → Option Value} (s₁ : Shared) (fa : Addr) (cA : Value) (K0 : Below callerA s₁.heap [] s₁.heap) (T : Top hd01.view_39 (looseW hd01.view_39 []) mean mg mb s₁.heap) (KX : (hd01.heap_39 w.params).In s₁.heap)
    {P D : Addr} {n nD i : Nat} {x : Int} {all : List (Addr × Obj)} {vals ws : List Value} {rs : List (Option Row)} {ti tx : Tok} {m : Str → Option Value} {h : Heap} {tk : Nat}
    (hP : (P, W.listOf vals.toArray n) ∈ all) (hD : (D, W.listOf ws.toArray nD) ∈ all) (hx : ws[i]? = some (.int x tx)) (hi : i ≤ 50) (hS : SlotsOk P all vals rs) (hI : Inv (i : Int) rs)
    (F : Fr s₁.heap s₁.heap.objs.size h m) (N : News s₁.heap s₁.heap.objs.size h all)
    (hm1 : m (Str.ofString "names") = some (.ref P)) (hm2 : m (Str.ofString "steps") = some (.ref D)) (hm3 : m (Str.ofString "step") = some (.int i ti)) :
    wpAny (model PySem.Challenge.rw_dm0122_01.row.prog w) (callerA.deeper (env01 s₁.heap.objs.size fa cA)) (execs turn01 (env01 s₁.heap.objs.size fa cA))
      (TurnEnd s₁ P D i all) (fun _ _ => False) { s₁ with heap := h, toks := tk } := by
  have KX1 := KX
  revert KX; k_fill; intro KX
  unfold env01
  conv in (turn01) => whnf
  simp only [show scope01 = defScope PySem.Challenge.pw_dm0122_01 5 from rfl]
  conv in (occs := *) (defScope PySem.Challenge.pw_dm0122_01 5) => all_goals whnf
  have F9 := fr_show [(Str.ofString "names", .ref P), (Str.ofString "steps", .ref D), (Str.ofString "step", .int i ti)] F (by simp [hm1, hm2, hm3])
  clear F
  walk_at "ws"
  refine item_U N hD (by omega) (by omega) (v := .int x tx) (by simpa using hx) ?_
  walk_at "ws"
  k_dflt (refine step01 _ _ _ _ _ _ _ _ _ _ _ _ _ _ _ _ _ _ P n vals rs x i tx ti hP hS hI (by omega) (by omega) K0 F9 KX N T rfl ?hdp ?hun ?_)
  case hdp => ktr_room
  case hun => ktr_units
  intro h1 tk1 vals1 rs1 n1 all1 hI1 hS1 hP1 hk1 F1 N1
  have hv1 : vals1.length = 5 := by rw [hS1.1]; exact hI1.1
  dsimp only
  walk_at "ws"
  refine ListComp_A rfl rfl rfl (by decide) ?_
  walk_at "ws"
  refine csrc_list (its := vals1) (Bd := fun j m₃ => ∃ v r, vals1[j]? = some v ∧ rs1[j]? = some r ∧ m₃ (Str.ofString "row") = some v) (G := fun j g => ∀ v, g = some v → ∃ r, SlotOk P all1 v (some r) ∧ some r ∈ rs1) rfl (by decide) rfl F1 N1 hP1 (by rw [hv1, PySem.sizeLine_eq]; omega) ?_ ?_ ?_ (cfin_assignR rfl rfl rfl ?_)
  · intro I i v s' Q E' hv hit hq
    exact wpAny_pure hq
  · intro j v C h tk m' E' hv h1 h2 h3 h4 h5 h6
    refine wpAny_mono (bind_name (P := fun j v => vals1[j]? = some v) rfl rfl j v C h tk m' E' hv h1 h2 h3 h4 h5 h6) ?_ fun _ _ e => e
    rintro _ s₃ ⟨h₃, tk₃, m₃, e, hn₃, hk₃, v', hv', hm⟩
    have hj : j < rs1.length := by rw [← hS1.1]; exact (List.getElem?_eq_some_iff.mp hv').1
    exact ⟨h₃, tk₃, m₃, e, hn₃, hk₃, v', rs1[j], hv', List.getElem?_eq_getElem hj, hm⟩
  · intro j hj
    unfold CTurn
    rintro I3 oI3 C oC D2 oD2 m₃ h2 tk2 E' ⟨v, r, hv, hr, hm3⟩ hC F7 N7 hoff
    have hsl := hS1.2 j v r hv hr
    refine wpAny_tests_one ?_
    cases r with
    | none =>
      have hv' : v = .none := hsl
      subst hv'
      walk_at "ws"
      rw [if_neg (by decide)]
      exact CEnd.intro F7 N7 (fun _ h => h) (fun v e => nomatch e)
    | some r =>
      have hsl0 := hsl
      obtain ⟨q, e, dx, oe, oq, nq, t1, t2, t3, rfl, q1, q2, q3, q4, q5, q6, q7⟩ := hsl
      walk_at "ws"
      rw [if_pos rfl]
      walk_at "ws"
      exact CEnd.intro F7 N7 (fun _ h => h) (fun v e => by cases e; exact ⟨r, hsl0, List.mem_of_getElem? hr⟩)
  · intro R h7 tk7 gs Fd Nd hlt hgl hG
    have hrows := rows_of hG
    have hrl : (gs.filterMap id).length ≤ 5 := by
      have := List.length_filterMap_le id gs
      rw [hgl, hv1] at this; exact this
    generalize gs.filterMap id = rv at Nd hrows hrl
    have hh : Hid (rv.length ≤ 5) := hrl
    have hrl : rv.length ≤ 1000 := by omega
    have hne : R ≠ P := fun e => Nat.lt_irrefl _ (e ▸ hlt _ hP1)
    dsimp only
    walk_at "ws"
    refine For_invVF Fd rfl rfl ?_
    walk_at "ws"
    refine len_U1 Nd (.head _) (by omega) ?_
    intro tl kl
    dsimp only
    walk_at "ws"
    rename Fr s₁.heap s₁.heap.objs.size _ _ => F2
    rename News s₁.heap s₁.heap.objs.size _ _ => N2
    rename IsRange _ _ _ _ _ _ _ _ => R2
    have hrl : rv.length ≤ 5 := hh
    refine forRange (n := rv.length) 0 rv.length (JO P D R ((R, LCg.lst rv) :: all1)) rfl R2 ?hsm ?hnn F2 N2 ?hj ?_ ?_
    case hsm => exact small_one (by decide) (by decide) (by omega) (by omega)
    case hnn => rw [rangeSize_nat]; omega
    case hj => exact ⟨fun p hp => (by first | exact hp | exact .tail _ hp), rfl, rfl, rfl⟩
    · rintro j t m₁ nx h3 tk3 own I hj ⟨hsub, e1, e2, e3⟩ ⟨oI, hIo⟩ hof hnI F3 N3
      rw [Int.zero_add] at F3
      have hS3 : RowsAre P (own ++ nx) rs1 rv := fun j v hv => by
        obtain ⟨r, a1, a2⟩ := hrows j v hv
        exact ⟨r, a1.sub fun p hp _ => List.mem_append_right _ (hsub p (.tail _ hp)), a2⟩
      refine wpAny_mono (row_ok s₁ fa cA K0 T KX1 (P := P) (D := D) (R := R) (i := j) (all := own ++ nx) (List.mem_append_right _ (hsub _ (.head _))) hj hrl hS3 hI1 F3 N3 e1 e2 e3 rfl) ?_ fun _ _ e => e
      rintro f s' ⟨rfl, h4, tk4, m4, all4, rfl, F4, N4, hs4, a1, a2, a3⟩
      exact GEnd.intro nx F4 N4 (fun p hp => hs4 p (List.mem_append_left _ hp)) (fun p hp => hs4 p (List.mem_append_right _ hp)) hnI ⟨hsub, a1, a2, a3⟩
    · rintro m₁ nx h3 tk3 ⟨hsub, e1, e2, e3⟩ F3 N3
      walk_at "ws"
      exact ⟨rfl, _, _, _, nx, vals1, rs1, n1, rfl, F3, N3, hI1, hS1.sub fun p hp _ => hsub p (.tail _ hp), hsub _ (.tail _ hP1), fun q hq hqP => hsub q (.tail _ (hk1 q hq hqP)), e2, e3⟩
end Mine
end

section
open PySem PySem.W PyProof.Rows
set_option linter.unusedVariables false
namespace Mine
local macro_rules | `(tactic| size_fits) => `(tactic| ((simp only [PySem.sizeLine_eq, List.size_toArray, List.length_cons, List.length_nil]); omega))
local macro_rules | `(tactic| walk_at "stop") => `(tactic| first
  | (with_reducible show wpAny _ _ (exec (Stmt.For _ _ _ _ _) _) _ _ _)
  | (with_reducible show wpAny _ _ (exec (Stmt.While _ _ _ _) _) _ _ _)
  | (with_reducible show wpAny _ _ (call (Value.type "ValueError") _) _ _ _)
  | (with_reducible show wpAny _ _ (exec (Stmt.Assign [Expr.Attribute _ _ _] _ _) _) _ _ _)
  | (with_reducible show wpAny _ _ (setAttr _ _ _) _ _ _)
  | (with_reducible show wpAny _ _ (getAttr (Value.ref _) _ _) _ _ _)
  | (with_reducible show ite _ _ _)
  | (with_reducible show wpAny _ _ (call (Value.ref _) _) _ _ _)
  | (with_reducible show wpAny _ _ (exec (Stmt.Assign _ (Expr.ListComp _ _ _ _) _) _) _ _ _)
  | (with_reducible show wpAny _ _ (subscriptTail _ _ (Value.ref _) (Value.int _ _)) _ _ _)
  | (with_reducible show wpAny _ _ (setItem (Value.ref _) _ _) _ _ _)
  | (with_reducible show wpAny _ _ (storeName _ (Str.ofString "dev") _) _ _ _)
  | (with_reducible show wpAny _ _ (eval (Expr.ListComp _ _ _ _) _) _ _ _)
  | (with_reducible show wpAny _ _ (pyIter _) _ _ _)
  | (with_reducible show GEnd _ _ _ _ _ _ _)
  | (with_reducible show wpAny _ _ (call (Value.builtin "len") [Value.ref _]) _ _ _)
  | (with_reducible show LeaveK _ _ _ _ _ _ _))
local macro_rules | `(tactic| walk_at "GPost") => `(tactic| (dsimp only [GPost]))
local macro_rules | `(tactic| walk_at "ws") => `(tactic| repeat' (first | (k_unfold; (try dsimp only)) | ((fail_if_success (walk_at "stop")); walk1) | ((fail_if_success (walk_at "stop")); dsimp only; walk1) | (leave1; walk_say "STEP leave1"; try dsimp only)))
/-- the law came back True -/
def LawEnd (s₁ : Shared) (f : Flow) (s' : Shared) : Prop := ∃ h' tk' m', f = .ret (.bool true) ∧ s' = { s₁ with heap := h', toks := tk' } ∧ Fr s₁.heap s₁.heap.objs.size h' m'
theorem LawEnd.intro {s₁ : Shared} {h' : Heap} {tk' : Nat} {m' : Str → Option Value} (F : Fr s₁.heap s₁.heap.objs.size h' m') : LawEnd s₁ (.ret (.bool true)) { s₁ with heap := h', toks := tk' } := ⟨h', tk', m', rfl, rfl, F⟩
def J01 (P D : Addr) (oD : Obj) (i : Nat) (m : Str → Option Value) (nx : List (Addr × Obj)) : Prop :=
  ∃ vals rs n, P ≠ D ∧ (P, W.listOf vals.toArray n) ∈ nx ∧ (D, oD) ∈ nx ∧ SlotsOk P nx vals rs ∧ Inv (i : Int) rs ∧ m (Str.ofString "names") = some (.ref P) ∧ m (Str.ofString "steps") = some (.ref D)
/-- the loop's iterator is none of the slots' objects -/
theorem slots_off {h₀ h : Heap} {L P I : Addr} {oI : Obj} {all : List (Addr × Obj)} {vals : List Value} {rs : List (Option Row)} (N : News h₀ L h all) (hI : (I, oI) ∈ all) (hc : oI.cls = .type "range_iterator") (hf : ∃ fs, oI.data = .fields fs) (hS : SlotsOk P all vals rs) :
    SlotsOk P (all.filter fun p => decide (p.1 ≠ I)) vals rs := by
  refine ⟨hS.1, fun j v r hv hr => ?_⟩
  have hs := hS.2 j v r hv hr
  cases r with
  | none => exact hs
  | some r =>
    obtain ⟨q, e, dx, oe, od, n, t1, t2, t3, h1, h2, h3, h4, h5, h6, h7, h8⟩ := hs
    have same : ∀ p ∈ all, p.1 = I → p.2 = oI := fun p hp e => by
      have a := (N p hp).1
      have b := (N _ hI).1
      rw [e] at a
      rw [a] at b
      exact Option.some.inj b
    refine ⟨q, e, dx, oe, od, n, t1, t2, t3, h1, List.mem_filter.mpr ⟨h2, decide_eq_true fun x => ?_⟩, List.mem_filter.mpr ⟨h3, decide_eq_true fun x => ?_⟩, List.mem_filter.mpr ⟨h4, decide_eq_true fun x => ?_⟩, h5, h6, h7, h8⟩
    · have y := same _ h2 x
      rw [← y] at hc
      exact absurd hc (by simp)
    · have y := same _ h3 x
      rw [← y] at hc
      have hc : oe.cls = _ := hc
      rw [h5.1] at hc
      exact absurd hc (by simp)
    · have y := same _ h4 x
      obtain ⟨fs, hf⟩ := hf
      obtain ⟨-, -, -, t, u, es, ep, hd, -⟩ := h5
      rw [← y] at hf
      have hf : od.data = _ := hf
      rw [hd] at hf
      cases hf
theorem inv_start : Inv 0 [none, none, none, none, none] := ⟨rfl, fun r hr => by simp at hr, fun r r' hr => by simp at hr⟩
theorem j_start {P D : Addr} {oD : Obj} {m : Str → Option Value} {nx : List (Addr × Obj)} (hlt : @LT.lt Nat _ P D) (hP : (P, W.listOf #[Value.none, .none, .none, .none, .none] 0) ∈ nx) (hD : (D, oD) ∈ nx) (e1 : m (Str.ofString "names") = some (.ref P)) (e2 : m (Str.ofString "steps") = some (.ref D)) : J01 P D oD 0 m nx := by
  refine ⟨[.none, .none, .none, .none, .none], [none, none, none, none, none], 0, Nat.ne_of_lt hlt, hP, hD, ⟨rfl, ?_⟩, inv_start, e1, e2⟩
  intro j v r h1 h2
  have hj : j < 5 := (List.getElem?_eq_some_iff.mp h1).1
  have : j = 0 ∨ j = 1 ∨ j = 2 ∨ j = 3 ∨ j = 4 := by omega
  rcases this with rfl | rfl | rfl | rfl | rfl <;> (cases h1; cases h2; rfl)
theorem law01 : PySem.Challenge.rw_dm0122_01.Holds := hd01 (by
  k_go0
  rename_i w s₀ s₁ mg mb G Y fa o pm doc kV ho hg KX XX V GL T B TE TW bmA bmO M cA cB hcd ns hs hlay0 hL1 hr1 hl2 as1 as2 la vs as3 hL ra w1 r0 hI hr hc1 hc2 K0 hD h1 F N0
  refine wpAny_mono (E := fun _ _ => False) (Q := LawEnd s₁) ?h1 ?h2 ?h3
  case h3 => exact fun _ _ e => False.elim e
  case h2 =>
    rintro f s' ⟨h', tk', m', rfl, rfl, F'⟩
    wrow_close
  have hlen : ns.length ≤ 63 := by omega
  have K0 : Below callerA s₁.heap [] s₁.heap := K0
  clear G Y XX V GL B TE TW M hcd hs hlay0 hL1 hr1 hl2 ra w1 r0 hr hc1 hc2 hD ho hg
  walk_at "ws"
  rename Fr s₁.heap s₁.heap.objs.size _ _ => F1
  rename News s₁.heap s₁.heap.objs.size _ _ => N1
  rename_i D ws hD1 hIws hltD hD2
  have hwe : ws.length = ([0, 104, 41] ++ List.take 16 ns).length := hIws.length
  have hget : ∀ i z, ([0, 104, 41] ++ List.take 16 ns)[i]? = some z → ∃ t, ws[i]? = some (Value.int z t) := fun i z hz => hIws.get i z hz
  refine For_invVF F1 rfl rfl ?_
  walk_at "ws"
  have hwl : ws.length ≤ 19 := by rw [hwe]; simp; omega
  refine len_U1 N1 (.head _) (by omega) ?_
  intro tl kl
  dsimp only
  walk_at "ws"
  rename Fr s₁.heap s₁.heap.objs.size _ _ => F2
  rename News s₁.heap s₁.heap.objs.size _ _ => N2
  rename IsRange _ _ _ _ _ _ _ _ => R2
  rw [← hwe] at R2
  refine forRangeK (n := ws.length) 0 ws.length (J01 _ D (W.listOf ws.toArray 0)) rfl R2 ?hsm ?hnn F2 N2 (j_start hltD.2.2 (.tail _ (.tail _ (.tail _ (.head _)))) (.head _) rfl rfl) ?_ ?_
  case hsm => exact small_one (by decide) (by decide) (by omega) (by omega)
  case hnn => rw [rangeSize_nat]; omega
  · rintro i t m₁ nx h tk own I hi ⟨vals, rs, n, hPD, hPx, hDx, hS, hInv, e1, e2⟩ ⟨oI, hIo, hc, hf⟩ hof hnI F3 N3
    rw [Int.zero_add] at F3
    have hi2 : i < ([0, 104, 41] ++ List.take 16 ns).length := by rw [← hwe]; exact hi
    obtain ⟨tx, hx⟩ := hget i _ (List.getElem?_eq_getElem hi2)
    refine wpAny_mono (turn_ok s₁ fa _ K0 T KX (all := own ++ nx) (List.mem_append_right _ hPx) (List.mem_append_right _ hDx) hx (by omega) (hS.sub fun p hp _ => List.mem_append_right _ hp) hInv F3 N3 e1 e2 rfl) ?_ fun _ _ e => e
    rintro f s' ⟨rfl, h4, tk4, m4, all4, vals4, rs4, n4, rfl, F4, N4, hI4, hS4, hP4, hk4, a1, a2⟩
    have ho : Sub own all4 := fun p hp => hk4 p (List.mem_append_left _ hp) (by rw [hof p hp]; exact Ne.symm (hnI _ hPx))
    have hPI := hnI _ hPx
    have hDI := hnI _ hDx
    have e : ((i + 1 : Nat) : Int) = (i : Int) + 1 := by omega
    exact GEnd.intro (all4.filter fun p => decide (p.1 ≠ I)) F4 N4 ho (fun p hp => (List.mem_filter.mp hp).1) (fun p hp => of_decide_eq_true (List.mem_filter.mp hp).2)
      ⟨vals4, rs4, n4, hPD, List.mem_filter.mpr ⟨hP4, decide_eq_true hPI⟩, List.mem_filter.mpr ⟨hk4 _ (List.mem_append_right _ hDx) (Ne.symm hPD), decide_eq_true hDI⟩, slots_off N4 (ho _ hIo) hc hf hS4, by rw [e]; exact hI4, a1, a2⟩
  · rintro m₁ nx h tk _ F3 N3
    walk_at "ws"
    exact LawEnd.intro F3)
end Mine
end

theorem PySem.Challenge.cw_dm0122_01_holds : PySem.Challenge.rw_dm0122_01.Holds := by
  exact Mine.law01
