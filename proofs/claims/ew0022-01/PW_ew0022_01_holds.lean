import PyProof.Rows.All
import Wide.All
import OpenK.AllK
import Wide.FinOn
import PySem.Challenge.RW_ew0022_01
set_option Elab.async false
set_option maxRecDepth 100000
set_option maxHeartbeats 8000000
set_option linter.unusedSimpArgs false
set_option linter.unusedVariables false
namespace Mine
section
open PySem PySem.W PyProof.Rows
open_top hd for PySem.Challenge.rw_ew0022_01
end
open PySem PySem.W PyProof.Rows PySem.Calls PySem.Spec
section
set_option maxHeartbeats 8000000
def someW (x y z : Str) : List Str := [Str.ofString "x", Str.ofString " ", Str.ofString ":a", Str.ofString "--", Str.ofString "?", Str.ofString "%s", Str.ofString "%(a)s", Str.ofString "E", Str.ofString "é", Str.ofString "%", Str.ofString ":1", x, y, z]
def someIt (x y z : Str) (n : Int) : Nat → Int × Str
  | 0 => (n, Str.ofString "")
  | k + 1 => ((someIt x y z n k).1.fdiv 7, (someIt x y z n k).2 ++ (someW x y z).getD (((someIt x y z n k).1.fdiv 7).fmod 14).toNat Str.empty)
def someF (x y z : Str) (n : Int) : Str := (someIt x y z n (n.fmod 4 - 0).toNat).2
theorem someW_len {x y z : Str} (hx : x.length ≤ 2) (hy : y.length ≤ 2) (hz : z.length ≤ 2) (i : Nat) : ((someW x y z).getD i Str.empty).length ≤ 5 := by
  rw [List.getD_eq_getElem?_getD]
  cases e : (someW x y z)[i]? with
  | none => decide
  | some r =>
    have hm := List.mem_of_getElem? e
    simp only [someW, List.mem_cons, List.not_mem_nil, or_false] at hm
    rcases hm with rfl | rfl | rfl | rfl | rfl | rfl | rfl | rfl | rfl | rfl | rfl | rfl | rfl | rfl <;> first | (show _ ≤ 5; decide) | ((simp only [Option.getD_some]); omega)
theorem some_strs {t0 t1 t2 t3 t4 t5 t6 t7 t8 t9 ta tb tc td : Tok} {x y z : Str} : StrsAre [Value.str (Str.ofString "x") t0, Value.str (Str.ofString " ") t1, Value.str (Str.ofString ":a") t2, Value.str (Str.ofString "--") t3, Value.str (Str.ofString "?") t4, Value.str (Str.ofString "%s") t5, Value.str (Str.ofString "%(a)s") t6, Value.str (Str.ofString "E") t7, Value.str (Str.ofString "é") t8, Value.str (Str.ofString "%") t9, Value.str (Str.ofString ":1") ta, Value.str x tb, Value.str y tc, Value.str z td] (someW x y z) := by
  unfold someW
  repeat constructor
theorem some_add {prog : Program} {w : World} {A : Around} {E : Value → Shared → Prop} {s : Shared} {h₀ : Heap} {L : Addr} {m : Str → Option Value} {news : List (Addr × Obj)} {l b : Addr} {vs ws : List Value} {na nb : Nat} {Q : Value → Shared → Prop} {K : Frag} (F : Fr h₀ L s.heap m) (N : News h₀ L s.heap news) (X : K.In h₀)
    (hl : K.lookup l = some { cls := .type "list", data := .seq vs.toArray na }) (hb : (b, listOf ws.toArray nb) ∈ news)
    (h : ∀ D h', Fr h₀ L h' m → News h₀ L h' ((D, { cls := .type "list", data := .seq (vs ++ ws).toArray }) :: news) → (∀ p ∈ news, p.1 < D) → Q (.ref D) { s with heap := h' }) (hsz : vs.length + ws.length ≤ 1000) :
    wpAny (model prog w) A (binaryOp .Add (.ref l) (.ref b)) Q E s :=
  add_lists F N (listIn X F hl) ⟨_, (N _ hb).1, rfl, nb, rfl⟩ (fun h' F' N' => h _ h' F' N' fun p hp => Heap.lt_size (N p hp).1) (Nat.le_trans hsz (by decide))
theorem some_item {prog : Program} {w : World} {A : Around} {E : Value → Shared → Prop} {s : Shared} {h₀ : Heap} {L l : Addr} {news : List (Addr × Obj)} {value slice : PySem.Expr} {vs : List Value} {n : Nat} {x y z : Str} {i : Int} {u : Tok} {Q : Value → Shared → Prop}
    (N : News h₀ L s.heap news) (hp : (l, listOf vs.toArray n) ∈ news) (hw : StrsAre vs (someW x y z)) (hx : x.length ≤ 2 ∧ y.length ≤ 2 ∧ z.length ≤ 2)
    (h : ∀ t', ((someW x y z).getD (i.fmod 14).toNat Str.empty).length ≤ 5 → Q (.str ((someW x y z).getD (i.fmod 14).toNat Str.empty) t') s)
    (hs : subscripted slice false (.ref l) (.int (i.fmod 14) u) = operate [.ref l, .int (i.fmod 14) u] (getItem (.ref l) (.int (i.fmod 14) u)) := by with_unfolding_all rfl) :
    wpAny (model prog w) A (subscriptTail value slice (.ref l) (.int (i.fmod 14) u)) Q E s := by
  have h0 : 0 ≤ i.fmod 14 := Int.fmod_nonneg_of_pos _ (by decide)
  have h1 : i.fmod 14 < 14 := Int.fmod_lt_of_pos _ (by decide)
  exact KTb.item_list ⟨_, (N _ hp).1, rfl, n, rfl⟩ hw h0 (by show _ < ((14 : Nat) : Int); omega) (by omega) (fun t' _ => h t' (someW_len hx.1 hx.2.1 hx.2.2 _)) hs
theorem some_start {x y z : Str} {n : Int} (h0 : 0 ≤ n) (h1 : n < 1000000000) : n = (someIt x y z n ([] : List Int).length).1 ∧ Str.ofString "" = (someIt x y z n ([] : List Int).length).2 ∧ 0 ≤ n ∧ n < 1000000000 ∧ (Str.ofString "").length ≤ 5 * ([] : List Int).length :=
  ⟨rfl, rfl, h0, h1, by decide⟩
theorem some_turn {x y z f : Str} {n a v : Int} {pre : List Int} (h1 : a = (someIt x y z n pre.length).1) (h2 : f = (someIt x y z n pre.length).2) (h3 : 0 ≤ a) (h4 : a < 1000000000) (h5 : f.length ≤ 5 * pre.length)
    (h6 : ((someW x y z).getD ((a.fdiv 7).fmod 14).toNat Str.empty).length ≤ 5) :
    a.fdiv 7 = (someIt x y z n (pre ++ [v]).length).1 ∧ f ++ (someW x y z).getD ((a.fdiv 7).fmod 14).toNat Str.empty = (someIt x y z n (pre ++ [v]).length).2 ∧ 0 ≤ a.fdiv 7 ∧ a.fdiv 7 < 1000000000 ∧ (f ++ (someW x y z).getD ((a.fdiv 7).fmod 14).toNat Str.empty).length ≤ 5 * (pre ++ [v]).length := by
  rw [List.length_append, Str.length_append]
  subst h1 h2
  have e := Int.fdiv_eq_ediv_of_nonneg (someIt x y z n pre.length).1 (b := 7) (by decide)
  refine ⟨rfl, rfl, by rw [e]; omega, by rw [e]; omega, ?_⟩
  simp only [List.length_cons, List.length_nil] at *
  omega
local macro_rules | `(tactic| walk_at "binaryOp Add ref ref") => `(tactic| (k_here; (with_reducible show wpAny _ _ (binaryOp _ (Value.ref _) (Value.ref _)) _ _ _); k_dflt (refine' some_add ?F ?N ?X ?a ?b ?_ ?z; (case F => k_asm); (case N => k_asm); (case X => k_asm); (case a => k_is); (case b => k_mem); (case z => exact Nat.le_of_ble_eq_true rfl)); intro D' h' F' N' l1; (try k_lt l1); (try dsimp only [List.cons_append, List.nil_append] at N')))
local macro_rules | `(tactic| walk_at "subscriptTail") => `(tactic| (k_here; (with_reducible show wpAny _ _ (subscriptTail _ _ (Value.ref _) (Value.int (Int.fmod _ 14) _)) _ _ _); k_dflt (refine' some_item ?N ?p ?w ?x ?_ ?s; (case N => k_asm); (case p => k_mem); (case w => exact some_strs); (case x => assumption); (case s => with_unfolding_all rfl)); intro t' hlen'))
theorem some_ok {w : World} {loose : List Str} {mean : ExcName → Option Value} {mg mb : Str → Option Value}
  {dp un : Nat} {gd : Option (List Code)} {cn : Str} {cs : Scope} {a : Addr} {ccd : Value} {cl : List (Str × Addr)} {outer : List Env} {A₀ : Around} {base h₀ : Heap} {L : Addr} {m : Str → Option Value} {s : Shared} {Q E : Value → Shared → Prop}
  {news : List (Addr × Obj)} {l : Addr} {x y z : Str} {tx ty tz : Tok} {nn : Nat} {n : Int} {tn : Tok}
  (B : Below A₀ base outer h₀) (F : Fr h₀ L s.heap m) (X : (hd.heap_39 w.params).In h₀) (N : News h₀ L s.heap news) (hl : (l, listOf [Value.str x tx, Value.str y ty, Value.str z tz].toArray nn) ∈ news)
  (T : Top topProg loose mean mg mb h₀) (hk : cs.kind = .function) (hdp : dp + 3 < recursionLimit) (hun : un + 24 < cLine)
  (hn0 : 0 ≤ n) (hn1 : n < 1000000000) (hx : x.length ≤ 2 ∧ y.length ≤ 2 ∧ z.length ≤ 2)
  (hret : ∀ t h' tk', Fr h₀ L h' m → News h₀ L h' news → (someF x y z n).length ≤ 15 → Q (.str (someF x y z n) t) { s with heap := h', toks := tk' }) :
  wpAny (model PySem.Challenge.rw_ew0022_01.row.prog w) (ktrTop dp un gd cn cs L a ccd cl outer) (call (.ref 121) [.int n tn, .ref l]) Q E s := by
  have N₁ : News h₀ L s.heap ((l, listOf [Value.str x tx, Value.str y ty, Value.str z tz].toArray nn) :: news) := fun p hp => by
    rcases List.mem_cons.mp hp with rfl | hp
    · exact N _ hl
    · exact N p hp
  have hret' : ∀ r t h' tk' news', r = someF x y z n → r.length ≤ 15 → Fr h₀ L h' m → News h₀ L h' news' → (∀ p ∈ news, p ∈ news') → Q (.str r t) { s with heap := h', toks := tk' } := by
    rintro r t h' tk' news' rfl hr F' N' hs
    exact hret t h' tk' F' (fun p hp => N' p (hs p hp)) hr
  clear hret N hl
  w_top off; k_with_none; revert X; k_fill; intro X
  (refine wpAny_call ?_)
  k_dflt cell_enter
  k_with "state" => (first | exact some_start (by assumption) (by assumption) | exact some_turn (by assumption) (by assumption) (by assumption) (by assumption) (by assumption) (by assumption))
  k_with "pyIter ref" => k_state (fun pre a f => a = (someIt x y z n pre.length).1 ∧ f = (someIt x y z n pre.length).2 ∧ 0 ≤ a ∧ a < 1000000000 ∧ f.length ≤ 5 * pre.length) "number" "found"
  w_strict (k_steps; all_goals (refine hret' _ _ _ _ _ ?_ ?_ (by assumption) (by assumption) ?_))
  · rename_i h1 h2 h3 h4 h5 _ _ _ _
    rw [h2, rangeKs_length]; rfl
  · rename_i h1 h2 h3 h4 h5 _ _ _ _
    rw [rangeKs_length] at h5
    have := Int.fmod_lt_of_pos n (b := 4) (by decide)
    omega
  · intro p hp
    exact .tail _ (.tail _ (.tail _ hp))
end
section
set_option maxHeartbeats 8000000
def textTab : List Str := [Str.ofString "select", Str.ofString "x::text", Str.ofString "y := 3", Str.ofString "(a - b)", Str.ofString "f(1, 2)", Str.ofString "E", Str.ofString "$1"]
def textF (k n : Int) : Str :=
  if k = 0 then Str.ofString "'" ++ someF (Str.ofString "''") (Str.ofString "$$") (Str.ofString "\"") n ++ Str.ofString "'"
  else if k = 1 then Str.ofString "E'" ++ someF (Str.ofString "\\'") (Str.ofString "$$") (Str.ofString "\"") n ++ Str.ofString "'"
  else if k = 2 then Str.ofString "\"" ++ someF (Str.ofString "\"\"") (Str.ofString "$$") (Str.ofString "'") n ++ Str.ofString "\""
  else if k = 3 then Str.ofString "--" ++ someF (Str.ofString "'") (Str.ofString "$$") (Str.ofString "\"") n ++ Str.ofString "\n"
  else if k = 4 then Str.ofString "$$x" ++ Txt.replace (someF (Str.ofString "'") (Str.ofString "\"") (Str.ofString "$") n) (Str.ofString "$") (Str.ofString "") ++ Str.ofString "$$"
  else textTab.getD (n.fmod 7).toNat Str.empty
theorem dele_free (c : Nat) (l : List Nat) (h : c ∉ l) : l.filter (· != c) = l := by
  rw [List.filter_eq_self]
  intro a ha
  simp only [bne_iff_ne, ne_eq]
  rintro rfl
  exact h ha
theorem dele_join (c : Nat) : ∀ parts : List Str, (∀ p ∈ parts, c ∉ p.cps.toList) → (Str.join ⟨#[c]⟩ parts).cps.toList.filter (· != c) = (Str.join ⟨#[]⟩ parts).cps.toList
  | [], _ => rfl
  | [p], h => dele_free c _ (h p (List.mem_singleton.mpr rfl))
  | p :: q :: r, h => by
    have ih := dele_join c (q :: r) fun a ha => h a (List.mem_cons_of_mem _ ha)
    show (p ++ ⟨#[c]⟩ ++ Str.join ⟨#[c]⟩ (q :: r)).cps.toList.filter (· != c) = (p ++ ⟨#[]⟩ ++ Str.join ⟨#[]⟩ (q :: r)).cps.toList
    simp only [Str.cps_append, Array.toList_append, List.filter_append]
    rw [ih, dele_free c _ (h p (List.mem_cons_self ..))]
    simp
theorem replace_del (x : Str) (c : Nat) : (Txt.replace x ⟨#[c]⟩ ⟨#[]⟩).cps.toList = x.cps.toList.filter (· != c) := by
  rw [StrLaws.replace_one, ← dele_join c _ (StrLaws.split_free x c), StrLaws.join_split]
theorem replace_del_len (x : Str) : (Txt.replace x (Str.ofString "$") (Str.ofString "")).length ≤ x.length := by
  rw [show Str.ofString "$" = (⟨#[36]⟩ : Str) from by decide +kernel, show Str.ofString "" = (⟨#[]⟩ : Str) from by decide +kernel]
  show (Txt.replace x ⟨#[36]⟩ ⟨#[]⟩).cps.size ≤ x.cps.size
  rw [← Array.length_toList, replace_del, ← Array.length_toList]
  exact List.length_filter_le _ _
theorem text_replace {prog : Program} {w : World} {A : Around} {E : Value → Shared → Prop} {s : Shared} {x : Str} {t u v : Tok} {Q : Value → Shared → Prop} (hu : @LT.lt Nat _ 0 u) (huv : @LT.lt Nat _ u v) (hx : x.length ≤ 15)
    (h : ∀ t' k, (Txt.replace x (Str.ofString "$") (Str.ofString "")).length ≤ 15 → Q (.str (Txt.replace x (Str.ofString "$") (Str.ofString "")) t') { s with toks := k }) :
    wpAny (model prog w) A (call (.builtin "str.replace") [.str x t, .str (Str.ofString "$") u, .str (Str.ofString "") v]) Q E s :=
  SC.replaceW (Nat.ne_of_gt hu) (Nat.ne_of_gt (Nat.lt_trans hu huv)) (Nat.ne_of_lt huv) (by decide +kernel) (by omega) (by decide +kernel) fun t' k => h t' k (Nat.le_trans (replace_del_len x) hx)
theorem glue3_len {a b c : Str} (ha : a.length ≤ 3) (hb : b.length ≤ 15) (hc : c.length ≤ 2) : (a ++ b ++ c).length ≤ 20 := by
  rw [Str.length_append, Str.length_append]; omega
theorem textTab_len (i : Nat) : (textTab.getD i Str.empty).length ≤ 20 := by
  rw [List.getD_eq_getElem?_getD]
  cases e : textTab[i]? with
  | none => decide
  | some r =>
    have hm := List.mem_of_getElem? e
    simp only [textTab, List.mem_cons, List.not_mem_nil, or_false] at hm
    rcases hm with rfl | rfl | rfl | rfl | rfl | rfl | rfl <;> (show _ ≤ 20; decide)
local macro_rules | `(tactic| walk_at "call builtin:str.replace") => `(tactic| ((with_reducible show wpAny _ _ (call (Value.builtin "str.replace") [Value.str _ _, Value.str _ _, Value.str _ _]) _ _ _); (try dsimp only at *); refine text_replace (by omega) (by omega) (by assumption) ?_; intro t9 k9 hl9))
local macro_rules | `(tactic| walk_at "call ref") => `(tactic| (k_here; (with_reducible show wpAny _ _ (call (Value.ref _) [Value.int _ _, Value.ref _]) _ _ _); (refine wpAny_with_toks (Nat.le_refl _) ?_); k_dflt (refine' some_ok ?cB ?cF ?cX ?cN ?cl ?cT ?ck ?cd ?cu ?cn ?cm ?cx ?_; (case cB => k_asm); (case cF => k_asm); (case cX => k_asm); (case cN => k_asm); (case cl => k_mem); (case cT => k_asm); (case ck => exact rfl); (case cd => ktr_room); (case cu => ktr_units); (case cn => assumption); (case cm => assumption); (case cx => exact ⟨by decide, by decide, by decide⟩)); intro t9 h9 tk9 F9 N9 hl9 hT9))
local macro_rules | `(tactic| walk_at "zz dummy") => `(tactic| fail)
theorem text_ok {w : World} {loose : List Str} {mean : ExcName → Option Value} {mg mb : Str → Option Value}
  {dp un : Nat} {gd : Option (List Code)} {cn : Str} {cs : Scope} {a : Addr} {ccd : Value} {cl : List (Str × Addr)} {outer : List Env} {A₀ : Around} {base h₀ : Heap} {L : Addr} {m : Str → Option Value} {s : Shared} {Q E : Value → Shared → Prop}
  {news : List (Addr × Obj)} {k n : Int} {tk tn : Tok}
  (B : Below A₀ base outer h₀) (F : Fr h₀ L s.heap m) (X : (hd.heap_39 w.params).In h₀) (N : News h₀ L s.heap news)
  (T : Top topProg loose mean mg mb h₀) (hk : cs.kind = .function) (hdp : dp + 6 < recursionLimit) (hun : un + 48 < cLine)
  (hk0 : 0 ≤ k) (hk1 : k < 6) (hn0 : 0 ≤ n) (hn1 : n < 1000000000)
  (hret : ∀ r t h' tk' news', r = textF k n → r.length ≤ 20 → Fr h₀ L h' m → News h₀ L h' news' → (∀ p ∈ news, p ∈ news') → Q (.str r t) { s with heap := h', toks := tk' }) :
  wpAny (model PySem.Challenge.rw_ew0022_01.row.prog w) (ktrTop dp un gd cn cs L a ccd cl outer) (call (.ref 128) [.int k tk, .int n tn]) Q E s := by
  w_top off; k_with_none; revert X; k_fill; intro X
  (refine wpAny_call ?_)
  k_dflt cell_enter
  k_with "table" => skip
  w_strict (k_steps; all_goals (refine hret _ _ _ _ _ ?_ ?_ (by assumption) (by assumption) ?_))
  all_goals (first | (intro p hp; first | exact hp | exact .tail _ hp | exact .tail _ (.tail _ hp); done) | skip)
  all_goals (first | (unfold textF textTab; repeat' split; all_goals (first | rfl | omega); done) | skip)
  all_goals (first | exact glue3_len (by decide +kernel) (by assumption) (by decide +kernel) | exact textTab_len _)
end
section
set_option maxHeartbeats 4000000
structure Low (news : List (Addr × Obj)) (d : Addr) : Prop where
  lt : ∀ p ∈ news, @LT.lt Nat _ p.1 d
  gt : ∀ p ∈ news, @LT.lt Nat _ 108 p.1
theorem low_ne {news : List (Addr × Obj)} {B d : Addr} (h : Low news B) (hd : @Eq Nat d 108 ∨ @LE.le Nat _ B d) : ∀ p ∈ news, p.1 ≠ d := by
  intro p hp e
  have h1 := h.lt p hp
  have h2 := h.gt p hp
  rcases hd with hd | hd
  · exact absurd (e.trans hd) (Nat.ne_of_gt h2)
  · exact absurd (e ▸ h1) (Nat.not_lt.mpr hd)
theorem allLt_to {d : Nat} {l : List (Addr × Obj)} (h : AllLt d l) : ∀ p ∈ l, @LT.lt Nat _ p.1 d := by
  induction l with
  | nil => intro p hp; cases hp
  | cons q r ih =>
    intro p hp
    rcases List.mem_cons.mp hp with rfl | hp
    · exact h.1
    · exact ih h.2 p hp
theorem low_of {news : List (Addr × Obj)} {d : Addr} (h : AllLt d news) (hg : ∀ p ∈ news, @LT.lt Nat _ 108 p.1) : Low news d := ⟨allLt_to h, hg⟩
def lamQ : Str := Str.ofString "convert_paramstyle.<locals>.<lambda>"
structure CodeIs (oc : Obj) (q : Str) : Prop where
  is : ∃ vs t, oc.data = .fields vs ∧ vs[1]? = some (.str q t)
structure TabS (ps : Array Value) (news : List (Addr × Obj)) : Prop where
  triples : TriplesOk ps.toList
  lam : ∀ (pos : Pos) cv, pos.line = 63 → codeAmong pos ps.toList = some cv → ∃ c oc, cv = .ref c ∧ (c, oc) ∈ news ∧ CodeIs oc lamQ
theorem codeAmong_other {pos pos' : Pos} {c : Value} (hne : pos.line ≠ pos'.line) : ∀ l : List Value, TriplesOk l → codeAmong pos (l ++ [rawInt pos'.line, rawInt pos'.col, c]) = codeAmong pos l := by
  intro l h
  fun_induction TriplesOk l with
  | case1 =>
    simp only [List.nil_append, codeAmong, rawInt]
    rw [if_neg]
    simp only [Bool.and_eq_true, beq_iff_eq, not_and]
    intro e
    exact absurd (by omega : pos.line = pos'.line) hne
  | case2 a t b u x rest ih =>
    simp only [List.cons_append, codeAmong]
    split
    · rfl
    · exact ih h
  | case3 l h1 h2 => exact h.elim
theorem codeAmong_keep {pos pos' : Pos} {c cv : Value} : ∀ l : List Value, TriplesOk l → codeAmong pos l = some cv → codeAmong pos (l ++ [rawInt pos'.line, rawInt pos'.col, c]) = some cv := by
  intro l h
  fun_induction TriplesOk l with
  | case1 => intro e; cases e
  | case2 a t b u x rest ih =>
    intro e
    simp only [List.cons_append, codeAmong] at e ⊢
    split at e
    · rename_i hc; rw [if_pos hc]; exact e
    · rename_i hc; rw [if_neg hc]; exact ih h e
  | case3 l h1 h2 => exact h.elim
theorem codeAmong_new {pos pos' : Pos} {c cv : Value} : ∀ l : List Value, TriplesOk l → codeAmong pos l = none → codeAmong pos (l ++ [rawInt pos'.line, rawInt pos'.col, c]) = some cv → cv = c := by
  intro l h
  fun_induction TriplesOk l with
  | case1 =>
    intro _ e
    simp only [List.nil_append, codeAmong, rawInt] at e
    split at e
    · exact (Option.some.inj e).symm
    · cases e
  | case2 a t b u x rest ih =>
    intro e e2
    simp only [List.cons_append, codeAmong] at e e2
    split at e
    · cases e
    · rename_i hc; rw [if_neg hc] at e2; exact ih h e e2
  | case3 l h1 h2 => exact h.elim
theorem TabS.mono {ps : Array Value} {news news' : List (Addr × Obj)} (h : TabS ps news) (hs : ∀ p ∈ news, p ∈ news') : TabS ps news' :=
  ⟨h.triples, fun pos cv e1 e2 => let ⟨c, oc, a, b, d⟩ := h.lam pos cv e1 e2; ⟨c, oc, a, hs _ b, d⟩⟩
theorem TabS.snocL {ps : Array Value} {news : List (Addr × Obj)} {pos : Pos} {c : Addr} {oc : Obj} (h : TabS ps news) (hl : pos.line = 63) (hq : CodeIs oc lamQ) :
    TabS (ps ++ #[rawInt pos.line, rawInt pos.col, .ref c]) ((c, oc) :: news) := by
  have e : (ps ++ #[rawInt pos.line, rawInt pos.col, .ref c]).toList = ps.toList ++ [rawInt pos.line, rawInt pos.col, .ref c] := by simp
  refine ⟨by rw [e]; exact TriplesOk_snoc _ _ _ _ h.triples, fun p cv e1 e2 => ?_⟩
  · rw [e] at e2
    cases q : codeAmong p ps.toList with
    | some cv' =>
      obtain ⟨c', oc', a, b, d⟩ := h.lam p cv' e1 q
      refine ⟨c', oc', ?_, .tail _ b, d⟩
      rw [← a]
      have : codeAmong p (ps.toList ++ [rawInt pos.line, rawInt pos.col, .ref c]) = some cv' := codeAmong_keep _ h.triples q
      rw [this] at e2
      exact (Option.some.inj e2).symm
    | none =>
      rcases codeAmong_new (pos' := pos) (c := .ref c) _ h.triples q e2 with rfl
      exact ⟨c, oc, rfl, .head _, hq⟩
theorem TabS.snocG {ps : Array Value} {news : List (Addr × Obj)} {pos : Pos} {c : Addr} (h : TabS ps news) (hl : pos.line ≠ 63) : TabS (ps ++ #[rawInt pos.line, rawInt pos.col, .ref c]) news := by
  have e : (ps ++ #[rawInt pos.line, rawInt pos.col, .ref c]).toList = ps.toList ++ [rawInt pos.line, rawInt pos.col, .ref c] := by simp
  refine ⟨by rw [e]; exact TriplesOk_snoc _ _ _ _ h.triples, fun p cv e1 e2 => ?_⟩
  rw [e, codeAmong_other (by rw [e1]; exact fun q => hl q.symm) _ h.triples] at e2
  exact h.lam p cv e1 e2
theorem conv_lam {M : Model} {A : Around} {E : Value → Shared → Prop} {s : Shared} {h₀ : Heap} {L a : Addr} {m mg mb : Str → Option Value} {cn : Str} {cs : Scope} {ccd : Value} {cl : List (Str × Addr)} {news : List (Addr × Obj)}
  {p : Program} {loose : List Str} {mean : ExcName → Option Value} {name : Str} {params : Arguments} {body : PySem.Expr} {scope : Scope} {ps : Array Value} {pos : Pos} {firstLine : Nat} {o1 o2 o3 : Addr} {x1 x2 x3 : Obj} {Q : Value → Shared → Prop}
  (F : Fr h₀ L s.heap m) (N : News h₀ L s.heap ((o1, x1) :: (o2, x2) :: (o3, x3) :: (108, tabObj ps) :: news)) (T : Top p loose mean mg mb h₀) (C : CodeHd h₀ 112 108) (hcd : ccd = .ref 112) (hS : TabS ps news) (hlow : Low news L) (hL : @LT.lt Nat _ 108 L)
  (h1 : @LT.lt Nat _ L o1) (h2 : @LT.lt Nat _ L o2) (h3 : @LT.lt Nat _ L o3) (hcl : closureFor scope (envX cn cs L a ccd cl) = pure []) (hl : pos.line = 63)
  (h : ∀ f c' oc ctv ps' h' tk, Fr h₀ L h' m → News h₀ L h' ((f, kla_obj name lamQ params body scope [] ((mg "__name__").getD .none) c' ctv) :: (c', oc) :: (o1, x1) :: (o2, x2) :: (o3, x3) :: (108, tabObj ps') :: news) → CodeIs oc lamQ → TabS ps' ((c', oc) :: news) →
    (@LT.lt Nat _ c' L ∨ @LT.lt Nat _ o1 c' ∧ @LT.lt Nat _ o2 c' ∧ @LT.lt Nat _ o3 c') → @LT.lt Nat _ 108 c' → (@LT.lt Nat _ o1 f ∧ @LT.lt Nat _ o2 f ∧ @LT.lt Nat _ o3 f ∧ @LT.lt Nat _ c' f ∧ @LT.lt Nat _ 108 f ∧ @LT.lt Nat _ L f) → Q (.ref f) { s with heap := h', toks := tk }) :
  wpAny M A (makeFunction name lamQ params (.expr body) scope (envX cn cs L a ccd cl) [] [] [] pos firstLine) Q E s := by
  cases hc : codeAmong pos ps.toList with
  | none =>
    have ne : ∀ (d : Nat), @LT.lt Nat _ L d → (d : Nat) ≠ 108 := fun d hd e => by omega
    have U : UpdF 108 (tabObj ps) ((o1, x1) :: (o2, x2) :: (o3, x3) :: (108, tabObj ps) :: news) (fun o' => (o1, x1) :: (o2, x2) :: (o3, x3) :: (108, o') :: news) :=
      .tail (ne o1 h1) (.tail (ne o2 h2) (.tail (ne o3 h3) (.head (low_ne hlow (.inl rfl)))))
    refine kla_nest F N T C hcd U hS.triples hc hcl fun f c' oc vs t ctv h' tk F' N' hd hv hlt hlt2 => ?_
    have k1 := hlt _ (.head _)
    have k2 := hlt _ (.tail _ (.head _))
    have k3 := hlt _ (.tail _ (.tail _ (.head _)))
    have k4 := hlt _ (.tail _ (.tail _ (.tail _ (.head _))))
    have k1 : @LT.lt Nat _ o1 c' := k1
    have k2 : @LT.lt Nat _ o2 c' := k2
    have k3 : @LT.lt Nat _ o3 c' := k3
    have k4 : @LT.lt Nat _ 108 c' := k4
    have k5 : @LT.lt Nat _ c' f := hlt2
    exact h f c' oc ctv _ h' tk F' N' ⟨vs, t, hd, hv⟩ (hS.snocL hl ⟨vs, t, hd, hv⟩) (.inr ⟨k1, k2, k3⟩) k4 ⟨by omega, by omega, by omega, k5, by omega, by omega⟩
  | some cv =>
    obtain ⟨c', oc, rfl, hm, hq⟩ := hS.lam pos cv hl hc
    refine kla_hit F N T C hcd (.tail _ (.tail _ (.tail _ (.head _)))) hS.triples hc hcl fun f ctv h' tk F' N' hlt => ?_
    have k0 := hlow.lt _ hm
    have k00 := hlow.gt _ hm
    have k1 : @LT.lt Nat _ o1 f := hlt _ (.head _)
    have k2 : @LT.lt Nat _ o2 f := hlt _ (.tail _ (.head _))
    have k3 : @LT.lt Nat _ o3 f := hlt _ (.tail _ (.tail _ (.head _)))
    have k4 : @LT.lt Nat _ 108 f := hlt _ (.tail _ (.tail _ (.tail _ (.head _))))
    have k5 : @LT.lt Nat _ c' f := hlt _ (.tail _ (.tail _ (.tail _ (.tail _ hm))))
    refine h f c' oc ctv ps h' tk F' (fun q hq => ?_) hq (hS.mono fun q hq => .tail _ hq) (.inl k0) k00 ⟨k1, k2, k3, k5, k4, by omega⟩
    rcases List.mem_cons.mp hq with rfl | hq
    · exact N' _ (.head _)
    · rcases List.mem_cons.mp hq with rfl | hq
      · exact N' _ (.tail _ (.tail _ (.tail _ (.tail _ (.tail _ hm)))))
      · exact N' _ (.tail _ hq)
local macro_rules | `(tactic| walk_at "eval Lambda") => `(tactic| (k_here; k_dflt (refine' kla_eval ?d0 ?_; (case d0 => exact rfl)); k_dflt (refine' conv_lam ?cF ?cN ?cT ?cC ?ccd ?cS ?cw ?cL ?c1 ?c2 ?c3 ?ccl ?cl ?_; (case cF => k_asm); (case cN => k_asm); (case cT => k_asm); (case ccd => exact rfl); (case cC => kn_code); (case cS => assumption); (case cw => assumption); (case cL => omega); (case c1 => omega); (case c2 => omega); (case c3 => omega); (case ccl => exact rfl); (case cl => exact rfl)); intro f' c' oc' ct' ps' h' tk' F' N' hq' hS' ho' h8' hf'))
local macro_rules | `(tactic| k_room) => `(tactic| ktr_room)
local macro_rules | `(tactic| k_units) => `(tactic| ktr_units)
local macro_rules | `(tactic| k_all) => `(tactic| (refine low_ne (by assumption) ?_; (try dsimp only); omega))
theorem map_slot_init : Slot "map" "__init__" "object.__init__" :=
  .of (owner := "object") (n := "__init__") (by rw [typeLookup_type, builtinLookup_eq_fast]; kernel_rfl) (by decide +kernel) (by decide +kernel) (by decide +kernel)
    (by first | exact .inl (by decide +kernel) | exact .inr (by decide +kernel)) (by rw [isSubtype_type]; kernel_rfl)
theorem map_slot_next : Slot "map" "__next__" "map.__next__" :=
  .of (owner := "map") (n := "__next__") (by rw [typeLookup_type, builtinLookup_eq_fast]; kernel_rfl) (by decide +kernel) (by decide +kernel) (by decide +kernel)
    (by first | exact .inl (by decide +kernel) | exact .inr (by decide +kernel)) (by rw [isSubtype_type]; kernel_rfl)
theorem map_mro : mroOf (.type "map") = pure [.type "map", .type "object"] := by rw [mroOf_type]; kernel_rfl
theorem map_lookup_new : typeLookup (.type "map") "__new__" = pure (some (.builtin "map.__new__")) := by rw [typeLookup_type, builtinLookup_eq_fast]; kernel_rfl
theorem map_called : TypeCalled "map" "map.__new__" "object.__init__" :=
  ⟨by decide +kernel, by decide +kernel, ⟨_, _, map_mro⟩, madeBy_type map_mro map_lookup_new (by decide +kernel), by decide +kernel, by rw [isSubtype_type]; kernel_rfl, map_slot_init⟩
theorem map_typeCall (a b : Value) : checkTypeCall "map" ⟨[a, b], []⟩ = pure () := by kernel_rfl
theorem map_newCall (a b : Value) : checkBuiltinCall "map.__new__" ⟨[.type "map", a, b], []⟩ = pure () := by kernel_rfl
theorem map_entry_new : entryFor table "map.__new__" = some Builtin.«map.__new__» := entryFor_of_tree (by kernel_rfl)
theorem map_entry_next : entryFor table "map.__next__" = some Builtin.«map.__next__» := entryFor_of_tree (by kernel_rfl)
theorem map_args_next (a : Value) : argsOk "map.__next__" ⟨[a], []⟩ := by unfold argsOk; kernel_rfl
theorem map_plain_new : plainId "map.__new__" = true := by decide +kernel
theorem map_sub : isSubtype (.type "map") (.type "map") = pure true := by rw [isSubtype_type]; kernel_rfl
theorem map_isType : isType (.type "map") = pure true := by first | rfl | kernel_rfl
abbrev mapObj (T : Addr) (f : Value) : Obj := { cls := .type "map", data := .fields #[.ref T, f] }
abbrev tup1 (v : Value) : Obj := { cls := .type "tuple", data := .seq #[v] }
def MapMade (Q : Value → Shared → Prop) (f v : Value) (s' : Shared) : Prop :=
  Q (.ref (s'.heap.push (tup1 v)).objs.size) { s' with heap := (s'.heap.push (tup1 v)).push (mapObj s'.heap.objs.size f) }
section
variable {prog : Program} {w : World} {A : Around} {E : Value → Shared → Prop} {s : Shared}
theorem map_code_new {Q₁ : Value → Shared → Prop} {f x : Value} (h : wpAny (model prog w) A.in1 (pyIter x) (MapMade Q₁ f) E s) :
    codeAny (model prog w) A (.call (.builtin "map.__new__") ⟨[.type "map", f, x], []⟩) (wants Q₁ E) s := by
  refine codeAny_of_tree ?_
  show wpAny _ A.in1 (do checkBuiltinCall "map.__new__" ⟨[.type "map", f, x], []⟩; again (.builtin "map.__new__" ⟨[.type "map", f, x], []⟩)) _ _ s
  refine wpAny_bind (wpAny_of_eq (map_newCall _ _) (wpAny_pure ⟨plainId_quiet map_plain_new _, codeAny_builtin map_entry_new ?_⟩))
  rw [Around.under_plainId map_plain_new _]
  have hsub := map_sub
  have hty := map_isType
  unfold Builtin.«map.__new__» Builtin.SmallTypes.newClass
  refine wpAny_bind (wpAny_bind (wpAny_of_eq hty ?_))
  simp only [Bool.not_true, Bool.false_eq_true, if_false]
  refine wpAny_bind (wpAny_of_eq hsub ?_)
  simp only [Bool.not_true, Bool.false_eq_true, if_false]
  refine wpAny_pure ?_
  unfold Builtin.SmallTypes.refuseKeywords
  simp only [List.isEmpty_nil, if_true]
  refine wpAny_bind (wpAny_pure ?_)
  rw [if_neg (by simp)]
  unfold Builtin.SmallTypes.iterAll
  simp only [List.drop_succ_cons, List.drop_zero]
  refine wpAny_bind (wpAny_bind ?_)
  rw [List.forIn_cons]
  refine wpAny_bind (wpAny_bind (wpAny_holding (wpAny_mono h (fun v s' hv => ?_) fun _ _ e => e)))
  refine wpAny_pure ?_
  refine wpAny_pure ?_
  refine wpAny_pure ?_
  refine wpAny_bind (wpAny_newObj_type ?_ (by show (1 : Nat) ≤ sizeLine; decide +kernel))
  unfold Builtin.SmallTypes.newRecord
  refine wpAny_bind (wpAny_newObj_type ?_ (by size_fits))
  exact wpAny_pure hv
theorem call_map {Q : Value → Shared → Prop} {f x : Value} (h : wpAny (model prog w) A.in1.in1 (pyIter x) (MapMade Q f) E s) :
    wpAny (model prog w) A (call (.type "map") [f, x]) Q E s := by
  refine callType_codes (Q₁ := fun obj s₁ => s₁.TypeIs obj "map" ∧ Q obj s₁) map_called (map_typeCall _ _) F.entry_object_init
    (map_code_new (wpAny_mono h (fun v s' hv => ⟨⟨_, Heap.get?_push_size _ rfl, rfl⟩, hv⟩) fun _ _ e => e)) fun obj s₁ h₁ => ?_
  exact ⟨h₁.1, F.args_object_init_3 obj _ _, object_init_meets map_called.init.lookup map_called.made (by decide) prog w A.in1 _ s₁ ⟨h₁.1, rfl, h₁.2⟩⟩
theorem map_made {Q : Value → Shared → Prop} {f v : Value} {h₀ : Heap} {L : Addr} {m : Str → Option Value} {news : List (Addr × Obj)} (F : Fr h₀ L s.heap m) (N : News h₀ L s.heap news)
    (h : ∀ (T M : Addr) h', Fr h₀ L h' m → News h₀ L h' ((M, mapObj T f) :: (T, tup1 v) :: news) → (∀ p ∈ news, p.1 < T) → @LT.lt Nat _ T M → Q (.ref M) { s with heap := h' }) : MapMade Q f v s := by
  have F1 := F.push (tup1 v)
  have N1 := N.push F (tup1 v) rfl
  have e : (s.heap.push (tup1 v)).objs.size = s.heap.objs.size + 1 := Heap.size_push ..
  have N2 := N1.push F1 (mapObj s.heap.objs.size f) rfl
  exact h _ _ _ (F1.push _) N2 (fun p hp => Heap.lt_size (N p hp).1) (by show s.heap.objs.size < (s.heap.push (tup1 v)).objs.size; rw [e]; exact Nat.lt_succ_self _)
theorem map_iter {Q : Value → Shared → Prop} {f : Value} {K : Frag} {x C : Addr} {ox : Obj} {od : Option Obj} {g : Value} {h₀ : Heap} {L : Addr} {m : Str → Option Value}
    (F : Fr h₀ L s.heap m) (X₀ : K.In h₀) (I : InstAt s.heap x ox C od) (hs : findIn K (.ref C) "__next__" = some (some g)) (h : MapMade Q f (.ref x) s) : OwitIt (model prog w) A (MapMade Q f) E (.ref x) s := owit_it F X₀ I hs h
end
local macro_rules | `(tactic| walk_at "call type:map") => `(tactic| (k_here; (with_reducible show wpAny _ _ (call (Value.type "map") [_, Value.ref _]) _ _ _); refine call_map ?_; k_dflt (refine' owit_iter ?cF ?cX ?cI ?chs ?chf ?_; (case cF => k_asm); (case cX => k_asm); (case cI => k_inst); (case chs => k_is); (case chf => k_is); k_whole)))
local macro_rules | `(tactic| walk_at "MapMade") => `(tactic| (k_dflt (refine' map_made ?cF ?cN ?_; (case cF => k_asm); (case cN => k_asm)); intro T' M' h' F' N' l1 l2; (try k_lt l1); (try k_lt2 l2)))
def MapNext (prog : Program) (w : World) (A : Around) (M : Addr) (T : Addr) (f : Value) (Q : Value → Shared → Prop) (E : Value → Shared → Prop) (v : Value) (s' : Shared) : Prop :=
  s'.heap.get? M = some (mapObj T f) ∧ wpAny (model prog w) A.in1.in1 (call f [v]) Q E s'
section
variable {prog : Program} {w : World} {A : Around} {E : Value → Shared → Prop} {s : Shared}
theorem next_args (a : Value) : argsOk "next" ⟨[a], []⟩ := by unfold argsOk; kernel_rfl
theorem next_entry : entryFor table "next" = some Builtin.«next» := entryFor_of_fast (by kernel_rfl)
theorem next_map {Q : Value → Shared → Prop} {K : Frag} {M T x C fn : Addr} {f : Value} {ox : Obj} {od : Option Obj} {h₀ : Heap} {L : Addr} {m : Str → Option Value} {news : List (Addr × Obj)}
    (F : Fr h₀ L s.heap m) (N : News h₀ L s.heap news) (X₀ : K.In h₀) (hM : (M, mapObj T f) ∈ news) (hT : (T, tup1 (.ref x)) ∈ news) (I : InstAt s.heap x ox C od)
    (hs : findIn K (.ref C) "__next__" = some (some (.ref fn))) (hf : isFn K (.ref fn) = true)
    (h : wpAny (model prog w) A.in1.in1 (call (.ref fn) [.ref x]) (MapNext prog w A M T f Q E) E s) :
    wpAny (model prog w) A (call (.builtin "next") [.ref M]) Q E s := by
  have hTy : s.TypeIs (.ref M) "map" := ⟨_, (N _ hM).1, rfl⟩
  refine call_function_entry (by decide +kernel) (by decide +kernel) next_entry (next_args _) ?_
  unfold Builtin.«next»
  refine wpAny_bind (m := someArgs "next" 1 2 _) (wpAny_of_eq (a := [Value.ref M]) (by first | rfl | kernel_rfl!) ?_)
  dsimp only
  refine wpAny_bind (wpAny_specialOf (name := Str.ofString "__next__") hTy map_slot_next.lookup ?_)
  refine wpAny_ite_split (fun hab => absurd hab (by decide)) (fun _ => ?_)
  refine wpAny_bind (wpAny_callSpecial?_slot (name := Str.ofString "__next__") hTy map_slot_next (wpAny_call_entry map_slot_next hTy map_entry_next ?_ (map_args_next _)))
  unfold Builtin.«map.__next__»
  refine wpAny_bind (wpAny_pure ?_)
  refine wpAny_bind (wpAny_field (N _ hM).1 rfl (i := 0) rfl ?_)
  refine wpAny_bind (wpAny_seqItems (N _ hT).1 rfl ?_)
  dsimp only
  rw [List.forIn_toArray, List.forIn_cons]
  have step : wpAny (model prog w) A.in1.in1 (Builtin.SmallTypes.nextOf (.ref x)) (MapNext prog w A M T f Q E) E s := by
    unfold Builtin.SmallTypes.nextOf
    exact wpAny_bind (special_fn (name := "__next__") (args := []) (X₀.keeps F.keep) I hs (beq_iff_eq.mp hf) (wpAny_mono h (fun v s' hv => wpAny_pure hv) fun _ _ e => e))
  refine wpAny_bind (wpAny_bind (wpAny_bind (wpAny_holding (wpAny_mono step (fun v s' hv => ?_) fun _ _ e => e))))
  refine wpAny_pure (wpAny_pure ?_)
  refine wpAny_bind (wpAny_field hv.1 rfl (i := 1) rfl ?_)
  refine wpAny_bind (wpAny_holding (wpAny_mono hv.2 (fun r s'' hr => ?_) fun _ _ e => e))
  refine wpAny_bind (wpAny_letGo ?_)
  exact wpAny_pure ⟨r, rfl, wpAny_pure ⟨r, rfl, hr⟩⟩
end
structure CS where
  style : Str
  state : Int
  qe : Bool
  pe : Bool
  ph : List Str
  out : List Str
  cnt : Int
  prev : Option Str
def optVal (o : Option Str) (t : Tok) : Value := match o with
  | none => .none
  | some a => .str a t
def dollar (n : Int) : Str := Str.ofString "$" ++ Str.ofString (toString n)
def notCE (o : Option Str) : Bool := !(o == some (Str.ofString ":") || o == some (Str.ofString "="))
def nameEnd (o : Option Str) : Bool := match o with
  | none => true
  | some b => !Txt.isalnum b && b != Str.ofString "_"
def phAdd (ph : List Str) (c : Str) : List Str := ph.dropLast ++ [ph.getLastD Str.empty ++ c]
def phEnd (st : CS) : CS :=
  if (st.ph.dropLast).contains (st.ph.getLastD Str.empty) then { st with state := 0, out := st.out ++ [dollar (((st.ph.dropLast).idxOf (st.ph.getLastD Str.empty) : Int) + 1)], ph := st.ph.dropLast }
  else { st with state := 0, out := st.out ++ [dollar (st.ph.length : Int)] }
def cOut (c : Str) (nx : Option Str) (st : CS) : Option CS :=
  if c == Str.ofString "'" then some { st with out := st.out ++ [c], state := if st.prev == some (Str.ofString "E") then 3 else 1 }
  else if c == Str.ofString "\"" then some { st with out := st.out ++ [c], state := 2 }
  else if c == Str.ofString "-" then some { st with out := st.out ++ [c], state := if st.prev == some (Str.ofString "-") then 5 else st.state }
  else if c == Str.ofString "$" then some { st with out := st.out ++ [c], state := if st.prev == some (Str.ofString "$") then 6 else st.state }
  else if st.style == Str.ofString "qmark" && c == Str.ofString "?" then some { st with out := st.out ++ [dollar st.cnt], cnt := st.cnt + 1 }
  else if st.style == Str.ofString "numeric" && (c == Str.ofString ":" && (notCE nx && st.prev != some (Str.ofString ":"))) then some { st with out := st.out ++ [Str.ofString "$"] }
  else if st.style == Str.ofString "named" && (c == Str.ofString ":" && (notCE nx && st.prev != some (Str.ofString ":"))) then some { st with state := 4, ph := st.ph ++ [Str.ofString ""] }
  else if st.style == Str.ofString "pyformat" && (c == Str.ofString "%" && nx == some (Str.ofString "(")) then some { st with state := 4, ph := st.ph ++ [Str.ofString ""] }
  else if (st.style == Str.ofString "format" || st.style == Str.ofString "pyformat") && c == Str.ofString "%" then
    if st.pe then some { st with style := Str.ofString "format", pe := false, out := st.out ++ [c] }
    else if nx == some (Str.ofString "%") then some { st with style := Str.ofString "format", pe := true }
    else if nx == some (Str.ofString "s") then some { st with style := Str.ofString "format", state := 4, out := st.out ++ [dollar st.cnt], cnt := st.cnt + 1 }
    else none
  else some { st with out := st.out ++ [c] }
def cPn (c : Str) (nx : Option Str) (st : CS) : CS :=
  if st.style == Str.ofString "named" then
    if nameEnd nx then phEnd { st with ph := phAdd st.ph c } else { st with ph := phAdd st.ph c }
  else if st.style == Str.ofString "pyformat" then
    if st.prev == some (Str.ofString ")") && c == Str.ofString "s" then phEnd st
    else if c == Str.ofString "(" || c == Str.ofString ")" then st
    else { st with ph := phAdd st.ph c }
  else if st.style == Str.ofString "format" then { st with state := 0 }
  else st
def cStep0 (c : Str) (nx : Option Str) (st : CS) : Option CS :=
  if st.state = 0 then cOut c nx st
  else if st.state = 1 then
    some (if c == Str.ofString "'" then
      (if st.qe then { st with qe := false, out := st.out ++ [c] }
       else if nx == some (Str.ofString "'") then { st with qe := true, out := st.out ++ [c] }
       else { st with state := 0, out := st.out ++ [c] })
     else { st with out := st.out ++ [c] })
  else if st.state = 2 then some { st with state := if c == Str.ofString "\"" then 0 else st.state, out := st.out ++ [c] }
  else if st.state = 3 then some { st with state := if c == Str.ofString "'" && st.prev != some (Str.ofString "\\") then 0 else st.state, out := st.out ++ [c] }
  else if st.state = 6 then some { st with state := if c == Str.ofString "$" && st.prev == some (Str.ofString "$") then 0 else st.state, out := st.out ++ [c] }
  else if st.state = 4 then some (cPn c nx st)
  else if st.state = 5 then some { st with state := if c == Str.ofString "\n" then 0 else st.state, out := st.out ++ [c] }
  else some st
def cStep (c : Str) (nx : Option Str) (st : CS) : Option CS := (cStep0 c nx st).map fun st' => { st' with prev := some c }
def cTake (l : List Str) (st : CS) : Nat → Option CS
  | 0 => some st
  | i + 1 => (cTake l st i).bind fun st' => match l[i]? with
    | some c => cStep c l[i + 1]? st'
    | none => none
def cStart (style : Str) : CS := { style, state := 0, qe := false, pe := false, ph := [], out := [], cnt := 1, prev := none }
abbrev instO (dd : Addr) (cnt : Int) (tc : Tok) (v2 v3 : Value) : Obj := { cls := .ref 101, dict := some dd, slots := #[some (.int cnt tc), some v2, some v3] }
abbrev turnVals (st : CS) (ts tst tp : Tok) (consts : List (Str × Value)) : List (Str × Value) := (Str.ofString "style", Value.str st.style ts) :: (Str.ofString "state", Value.int st.state tst) :: (Str.ofString "in_quote_escape", Value.bool st.qe) :: (Str.ofString "in_param_escape", Value.bool st.pe) :: (Str.ofString "prev_c", optVal st.prev tp) :: consts
structure LoopOn where
  consts : List (Str × Value)
  M : Addr
  mo : Obj
  T : Addr
  to : Obj
  x : Addr
  dd : Addr
  d1 : Obj
  f : Addr
  fo : Obj
  c' : Addr
  co : Obj
  lO : Addr
  lP : Addr
  rest : List (Addr × Obj)
  v2 : Value
  v3 : Value
abbrev LoopOn.led (P : LoopOn) (cnt : Int) (tc : Tok) (outV phV : List Value) (nO nP : Nat) (tail : List (Addr × Obj)) : List (Addr × Obj) :=
  (P.M, P.mo) :: (P.T, P.to) :: (P.x, instO P.dd cnt tc P.v2 P.v3) :: (P.dd, P.d1) :: (P.f, P.fo) :: (P.c', P.co) :: (P.lO, listOf outV.toArray nO) :: (P.lP, listOf phV.toArray nP) :: tail
def Same (m : Str → Option Value) (ps : List (Str × Value)) : Prop := ∀ p ∈ ps, m p.1 = some p.2
def ConvJ (P : LoopOn) (l : List Str) (st0 : CS) (i : Nat) (m : Str → Option Value) (nx : List (Addr × Obj)) : Prop :=
  ∃ st ts tst tp tc outV phV nO nP, cTake l st0 i = some st ∧ StrsAre outV st.out ∧ StrsAre phV st.ph ∧ nx = P.led st.cnt tc outV phV nO nP P.rest ∧ Same m (turnVals st ts tst tp P.consts)
def ConvNext (h₀ : Heap) (L : Addr) (P : LoopOn) (own : List (Addr × Obj)) (r : Option CS) (s₁ s₂ : Shared) : Prop :=
  ∃ h' tk m' news' st ts tst tp tc outV phV nO nP, s₂ = { s₁ with heap := h', toks := tk } ∧ Fr h₀ L h' m' ∧ News h₀ L h' news' ∧ r = some st ∧ StrsAre outV st.out ∧ StrsAre phV st.ph ∧ (∀ p ∈ P.led st.cnt tc outV phV nO nP (P.rest ++ own), p ∈ news') ∧ Same m' (turnVals st ts tst tp P.consts)
def ConvEnd (h₀ : Heap) (L : Addr) (P : LoopOn) (own : List (Addr × Obj)) (r : Option CS) (s₁ : Shared) (Q : Flow → Shared → Prop) (fl : Flow) (s₂ : Shared) : Prop :=
  match fl with
  | .ret v => Q (.ret v) s₂
  | .brk => Q .next s₂
  | _ => ConvNext h₀ L P own r s₁ s₂
section
variable {prog : Program} {w : World} {A : Around} {E : Value → Shared → Prop} {s : Shared} {env : Env} {h₀ : Heap} {body : List Stmt} {Q : Flow → Shared → Prop} {L : Addr}
theorem conv_same {m₁ : Str → Option Value} {ps : List (Str × Value)} (h : Same m₁ ps) (v1 v0 : Value) :
    (fun y => if y = Str.ofString "c" then some v1 else if y = Str.ofString "i" then some v0 else m₁ y) = fun y => if y = Str.ofString "c" then some v1 else if y = Str.ofString "i" then some v0 else kstB m₁ ps y := by
  funext y
  rw [kstB_eq h fun _ => rfl]
theorem conv_loop {xv : Value} {l : List Str} {x0 : Str} {m₀ : Str → Option Value} {tc0 : Tok} {n0 n1 : Nat} {ts0 tst0 : Tok} (P : LoopOn)
    (S : PairSrcL prog w A E h₀ L ItemKind.str l xv s m₀ (P.led (cStart x0).cnt tc0 [] [] n0 n1 P.rest)) (hL : env.locals = L)
    (c1 : m₀ (Str.ofString "style") = some (.str x0 ts0)) (c2 : m₀ (Str.ofString "state") = some (.int 0 tst0)) (c3 : m₀ (Str.ofString "in_quote_escape") = some (.bool false)) (c4 : m₀ (Str.ofString "in_param_escape") = some (.bool false)) (c5 : m₀ (Str.ofString "prev_c") = some .none)
    (c6 : Same m₀ P.consts)
    (hoff : ∀ p ∈ P.rest, p.1 ≠ P.x ∧ p.1 ≠ P.lO ∧ p.1 ≠ P.lP)
    (turn : ∀ (i : Nat) c st ti u ts tst tp tc outV phV nO nP (um : Str → Option Value) h tk own, l[i]? = some c → cTake l (cStart x0) i = some st → StrsAre outV st.out → StrsAre phV st.ph →
      (∀ p ∈ P.rest ++ own, p.1 ≠ P.x) → (∀ p ∈ P.rest ++ own, p.1 ≠ P.lO) → (∀ p ∈ P.rest ++ own, p.1 ≠ P.lP) →
      Fr h₀ L h (fun y => if y = Str.ofString "c" then some (.str c u) else if y = Str.ofString "i" then some (.int i ti) else kstB um (turnVals st ts tst tp P.consts) y) →
      News h₀ L h (P.led st.cnt tc outV phV nO nP (P.rest ++ own)) →
      wpAny (model prog w) A (execs body env) (ConvEnd h₀ L P own (cStep c l[i + 1]? st) { s with heap := h, toks := tk } Q) E { s with heap := h, toks := tk })
    (done : ∀ st ts tst tp tc outV phV nO nP (um : Str → Option Value) h tk, cTake l (cStart x0) l.length = some st → StrsAre outV st.out → StrsAre phV st.ph →
      Fr h₀ L h (kstB um (turnVals st ts tst tp P.consts)) → News h₀ L h (P.led st.cnt tc outV phV nO nP P.rest) → Q .next { s with heap := h, toks := tk }) :
    wpAny (model prog w) A (pyIter xv) (fun it s₂ => PairAt3 prog w A h₀ env (Str.ofString "i") (Str.ofString "c") body Q E it s₂) E s := by
  subst hL
  have h0 : Same m₀ (turnVals (cStart x0) ts0 tst0 0 P.consts) := by
    intro p hp
    simp only [turnVals, List.mem_cons] at hp
    rcases hp with rfl | rfl | rfl | rfl | rfl | hp
    · exact c1
    · exact c2
    · exact c3
    · exact c4
    · exact c5
    · exact c6 p hp
  refine S env rfl _ _ body Q (ConvJ P l (cStart x0)) ⟨(cStart x0), ts0, tst0, 0, tc0, [], [], n0, n1, rfl, .nil, .nil, rfl, h0⟩ ?_ ?_
  · rintro i c ti v m₁ news₁ s₁ own ⟨h, tk, rfl⟩ hi ⟨u, rfl⟩ ⟨st, ts, tst, tp, tc, outV, phV, nO, nP, hst, hO, hP, rfl, hS⟩ hadr hown F₁ N₁
    rw [conv_same hS] at F₁
    have off : ∀ d, d ∈ [P.x, P.lO, P.lP] → (∀ p ∈ P.rest, p.1 ≠ d) → ∀ p ∈ P.rest ++ own, p.1 ≠ d := by
      intro d hd hr p hp
      rcases List.mem_append.mp hp with hp | hp
      · exact hr p hp
      · simp only [List.mem_cons, List.not_mem_nil, or_false] at hd
        rcases hd with rfl | rfl | rfl
        · exact hown p hp _ (.tail _ (.tail _ (.head _)))
        · exact hown p hp _ (.tail _ (.tail _ (.tail _ (.tail _ (.tail _ (.tail _ (.head _)))))))
        · exact hown p hp _ (.tail _ (.tail _ (.tail _ (.tail _ (.tail _ (.tail _ (.tail _ (.head _))))))))
    have N₂ : News h₀ env.locals h (P.led st.cnt tc outV phV nO nP (P.rest ++ own)) := fun p hp => N₁ p (by
      simp only [LoopOn.led, List.mem_cons, List.mem_append] at hp ⊢
      grind)
    refine wpAny_mono (turn i c st ti u ts tst tp tc outV phV nO nP m₁ h tk own hi hst hO hP (off _ (by simp) fun p hp => (hoff p hp).1) (off _ (by simp) fun p hp => (hoff p hp).2.1) (off _ (by simp) fun p hp => (hoff p hp).2.2) F₁ N₂) (fun fl s₂ hc => ?_) fun _ _ e => e
    have fin : ConvNext h₀ env.locals P own (cStep c l[i + 1]? st) { s with heap := h, toks := tk } s₂ → LoopStep2 h₀ env.locals own (P.led st.cnt tc outV phV nO nP P.rest) (ConvJ P l (cStart x0) (i + 1)) { s with heap := h, toks := tk } .next s₂ := by
      rintro ⟨h', tk', m', news', st', ts', tst', tp', tc', outV', phV', nO', nP', rfl, F', N', hr, hO', hP', hm, hS'⟩
      refine LoopStep2.intro F' (news₂ := P.led st'.cnt tc' outV' phV' nO' nP' P.rest) (fun p hp => N' p (hm p ?_)) rfl ⟨st', ts', tst', tp', tc', outV', phV', nO', nP', ?_, hO', hP', rfl, hS'⟩
      · simp only [LoopOn.led, List.mem_cons, List.mem_append] at hp ⊢
        grind
      · show (cTake l (cStart x0) i).bind _ = _
        rw [hst, Option.bind_some, hi]
        exact hr
    cases fl with
    | ret v => exact hc
    | brk => exact hc
    | next => exact fin hc
    | cont => exact fin hc
  · rintro h' tk m' news' F' N' hadr ⟨st, ts, tst, tp, tc, outV, phV, nO, nP, hst, hO, hP, rfl, hS⟩
    have em : m' = kstB m' (turnVals st ts tst tp P.consts) := by
      funext y
      rw [kstB_eq hS fun _ => rfl]
    rw [em] at F'
    exact done st ts tst tp tc outV phV nO nP m' h' tk hst hO hP F' N'
end
noncomputable def convDef : List Stmt × Scope := match (PySem.Challenge.pw_ew0022_01.main.body.drop 10).head? with
  | some (PySem.Stmt.FunctionDef _ _ b _ _ _ sc _ _ _) => (b, sc)
  | _ => ([], default)
noncomputable def convBody : List Stmt := match (convDef.1.drop 14).head? with
  | some (PySem.Stmt.For _ _ b _ _) => b
  | _ => []
noncomputable def convScope : Scope := convDef.2
noncomputable def lamExpr : PySem.Expr := match (convDef.1.drop 11).head? with
  | some (PySem.Stmt.Assign _ (PySem.Expr.Call _ (e :: _) _ _) _) => e
  | _ => default
noncomputable def lamParams : Arguments := match lamExpr with
  | .Lambda p _ _ _ => p
  | _ => default
noncomputable def lamBody : PySem.Expr := match lamExpr with
  | .Lambda _ b _ _ => b
  | _ => default
noncomputable def lamScope : Scope := match lamExpr with
  | .Lambda _ _ s _ => s
  | _ => default
noncomputable abbrev lamO (pm : Value) (c' : Addr) (ctv : Value) : Obj := kla_obj (Str.ofString "<lambda>") lamQ lamParams lamBody lamScope [] pm c' ctv
local macro_rules | `(tactic| walk_at "zz dummy") => `(tactic| fail)
theorem lam_call {w : World} {loose : List Str} {mean : ExcName → Option Value} {mg mb : Str → Option Value}
  {dp un : Nat} {gd : Option (List Code)} {cn : Str} {cs : Scope} {a : Addr} {ccd : Value} {cl : List (Str × Addr)} {outer : List Env} {A₀ : Around} {base h₀ : Heap} {L : Addr} {m : Str → Option Value} {s : Shared} {Q E : Value → Shared → Prop}
  {news : List (Addr × Obj)} {f c' : Addr} {oc : Obj} {pm ctv : Value} {n : Int} {tn : Tok}
  (B : Below A₀ base outer h₀) (F : Fr h₀ L s.heap m) (X : (hd.heap_39 w.params).In h₀) (N : News h₀ L s.heap news) (T : Top topProg loose mean mg mb h₀) (hk : cs.kind = .function) (hdp : dp + 10 < recursionLimit) (hun : un + 60 < cLine)
  (hf : (f, lamO pm c' ctv) ∈ news) (hc : (c', oc) ∈ news) (hq : CodeIs oc lamQ) (hn0 : 0 ≤ n) (hn1 : n < 1000000)
  (hret : ∀ r t h' tk', r = dollar n → Fr h₀ L h' m → News h₀ L h' news → Q (.str r t) { s with heap := h', toks := tk' }) :
  wpAny (model PySem.Challenge.rw_ew0022_01.row.prog w) (ktrTop dp un gd cn cs L a ccd cl outer) (call (.ref f) [.int n tn]) Q E s := by
  w_top off; k_with_none; revert X; k_fill; intro X
  obtain ⟨vs9, t9, d9, e9⟩ := hq.is
  refine wpAny_call ?_
  k_dflt (refine' kla_code B F X N T rfl rfl hk hf (codeRec_news N hc d9 e9) ?k8 ?k9 ?kB ?_ ?c2 ?c3 ?c4 ?c5; (case k8 => ktr_room); (case k9 => exact rfl); (case c5 => decide); (case kB => exact locs rfl); (case c2 => exact rfl); (case c3 => exact rfl); (case c4 => exact rfl))
  intro g' L' h' FG' F' N' B' X' T'
  (conv in lamBody => whnf)
  (conv in (occs := *) lamScope => all_goals whnf)
  (try dsimp only)
  (try k_fold)
  w_strict (k_steps; all_goals (exact hret _ _ _ _ rfl (by assumption) (by assumption)))
noncomputable abbrev convLed (M T x dd f c' lO lP : Addr) (co : Obj) (pm ctv v2 : Value) (t3 : Tok) (cnt : Int) (tc : Tok) (outV phV : List Value) (nO nP : Nat) (tail : List (Addr × Obj)) : List (Addr × Obj) :=
  (M, mapObj T (.ref f)) :: (T, tup1 (.ref x)) :: (x, instO dd cnt tc v2 (.int 1 t3)) :: (dd, dictOf [] 0) :: (f, lamO pm c' ctv) :: (c', co) :: (lO, listOf outV.toArray nO) :: (lP, listOf phV.toArray nP) :: tail
structure Ords (L M T x dd f c' lO lP : Addr) : Prop where
  k1 : @LT.lt Nat _ L lP
  k2 : @LT.lt Nat _ lP lO
  k3 : @LT.lt Nat _ lO f
  k4 : @LT.lt Nat _ c' L ∨ @LT.lt Nat _ lO c'
  k5 : @LT.lt Nat _ c' f
  k6 : @LT.lt Nat _ f dd
  k7 : @LT.lt Nat _ dd x
  k8 : @LT.lt Nat _ x T
  k9 : @LT.lt Nat _ T M
local macro_rules | `(tactic| k_all) => `(tactic| assumption)
local macro_rules | `(tactic| walk_at "MapNext") => `(tactic| (refine ⟨(News.get (by k_asm) (by k_mem)), ?_⟩))
local macro_rules | `(tactic| walk_at "call ref") => `(tactic| (k_here; (with_reducible show wpAny _ _ (call (Value.ref _) [Value.int _ _]) _ _ _); k_dflt (refine' lam_call ?cB ?cF ?cX ?cN ?cT ?ck ?cd ?cu ?cf ?cc ?cq ?c0 ?c1 ?_; (case cB => k_asm); (case cF => k_asm); (case cX => k_asm); (case cN => k_asm); (case cT => k_asm); (case ck => first | exact rfl | assumption); (case cd => ktr_room); (case cu => ktr_units); (case cf => k_mem); (case cc => k_mem); (case cq => assumption); (case c0 => omega); (case c1 => omega)); intro r9 t9 h9 tk9 e9 F9 N9))
theorem conv_next {w : World} {loose : List Str} {mean : ExcName → Option Value} {mg mb : Str → Option Value}
  {dp un : Nat} {gd : Option (List Code)} {cn : Str} {cs : Scope} {a : Addr} {ccd : Value} {cl : List (Str × Addr)} {outer : List Env} {A₀ : Around} {base h₀ : Heap} {L : Addr} {m : Str → Option Value} {s : Shared} {Q E : Value → Shared → Prop}
  {M T x dd f c' lO lP : Addr} {co : Obj} {pm ctv v2 : Value} {t3 : Tok} {cnt : Int} {tc : Tok} {outV phV : List Value} {nO nP : Nat} {tail : List (Addr × Obj)}
  (B : Below A₀ base outer h₀) (F : Fr h₀ L s.heap m) (X : (hd.heap_39 w.params).In h₀) (N : News h₀ L s.heap (convLed M T x dd f c' lO lP co pm ctv v2 t3 cnt tc outV phV nO nP tail)) (Tp : Top topProg loose mean mg mb h₀) (hk : cs.kind = .function) (hdp : dp + 20 < recursionLimit) (hun : un + 100 < cLine)
  (hO : Ords L M T x dd f c' lO lP) (hoff : ∀ p ∈ tail, p.1 ≠ x) (hq : CodeIs co lamQ) (hn0 : 0 ≤ cnt) (hn1 : cnt < 1000000)
  (hret : ∀ r t tc' h' tk', r = dollar cnt → Fr h₀ L h' m → News h₀ L h' (convLed M T x dd f c' lO lP co pm ctv v2 t3 (cnt + 1) tc' outV phV nO nP tail) → Q (.str r t) { s with heap := h', toks := tk' }) :
  wpAny (model PySem.Challenge.rw_ew0022_01.row.prog w) (ktrTop dp un gd cn cs L a ccd cl outer) (call (.builtin "next") [.ref M]) Q E s := by
  obtain ⟨k1, k2, k3, k4, k5, k6, k7, k8, k9⟩ := hO
  revert X; k_fill; intro X
  k_dflt (refine' next_map F N X ?c1 ?c2 ?cI ?chs ?chf ?_; (case c1 => k_mem); (case c2 => k_mem); (case cI => k_inst); (case chs => k_is); (case chf => k_is); k_whole)
  refine wpAny_call ?_
  k_dflt cell_enter
  w_strict (k_steps; all_goals (exact hret _ _ _ _ _ (by assumption) (by assumption) (by assumption)))
def NextIs (l : List Str) (i : Nat) (s : Shared) (v : Value) (s' : Shared) : Prop := ∃ tk t', v = optVal l[i + 1]? t' ∧ s' = { s with toks := tk }
section
variable {prog : Program} {w : World} {A : Around} {E : Value → Shared → Prop} {s : Shared}
theorem conv_join {M : Model} {env : Env} {test body orelse : PySem.Expr} {pos : Pos} {Q : Value → Shared → Prop} {l : List Str} {i : Nat} {c : Str} (_hi : l[i]? = some c)
    (h : wpAny M A (isTrue test env (eval test env)) (fun b s₂ => if b then wpAny M A (eval body env) (NextIs l i s) E s₂ else wpAny M A (eval orelse env) (NextIs l i s) E s₂) E s)
    (hq : ∀ t' tk, Q (optVal l[i + 1]? t') { s with toks := tk }) : wpAny M A (eval (.IfExp test body orelse pos) env) Q E s :=
  wpAny_mono (IfExp_ h) (fun v s' hv => by obtain ⟨tk, t', rfl, rfl⟩ := hv; exact hq t' tk) fun _ _ e => e
theorem next_some {q : Str} {i : Nat} {t tk : Tok} (h : (i : Int) + 1 < (q.length : Int)) : NextIs (signs q) i s (.str (Txt.item q ((i : Int) + 1)) t) { s with toks := tk } := by
  refine ⟨tk, t, ?_, rfl⟩
  have h' : i + 1 < q.cps.size := by have : i + 1 < q.length := by omega
                                     exact this
  have e : (signs q)[i + 1]? = some (Txt.item q ((i : Int) + 1)) := by
    unfold signs
    rw [List.getElem?_map, List.getElem?_eq_getElem (by simpa using h')]
    rw [item_meets ⟨by omega, h⟩]
    have e2 : ((i : Int) + 1).toNat = i + 1 := by omega
    rw [e2]
    simp [Array.getD, h']
  rw [e]
  rfl
theorem next_none {q : Str} {i : Nat} {tk : Tok} (h : ¬ (i : Int) + 1 < (q.length : Int)) : NextIs (signs q) i s .none { s with toks := tk } := by
  refine ⟨tk, 0, ?_, rfl⟩
  have e : (signs q)[i + 1]? = none := List.getElem?_eq_none (by rw [signs_length]; omega)
  rw [e]
  rfl
theorem conv_eqOpt {o : Option Str} {b : Str} {t u : Tok} {Q : Value → Shared → Prop} (h : Q (.bool (o == some b)) s) : wpAny (model prog w) A (compareOp .Eq (optVal o t) (.str b u)) Q E s := by
  cases o with
  | none => exact EqNone.eq_none_str h
  | some a => exact eq_str (by have e : (some a == some b) = (a == b) := rfl
                               rw [e] at h; exact h)
theorem conv_neOpt {o : Option Str} {b : Str} {t u : Tok} {Q : Value → Shared → Prop} (h : Q (.bool (o != some b)) s) : wpAny (model prog w) A (compareOp .NotEq (optVal o t) (.str b u)) Q E s := by
  cases o with
  | none => exact EqNone.ne_none_str h
  | some a => exact ne_str (by have e : (some a != some b) = (a != b) := rfl
                               rw [e] at h; exact h)
theorem conv_append {D : Addr} {vs : List Value} {n : Nat} {v : Value} {h₀ : Heap} {L : Addr} {m : Str → Option Value} {news news' : List (Addr × Obj)} {Q : Value → Shared → Prop} (F : Fr h₀ L s.heap m) (N : News h₀ L s.heap news)
    (U : Upd D (listOf vs.toArray n) (listOf (vs ++ [v]).toArray (n + 1)) news news') (hz : vs.length ≤ 200000) (h : ∀ h', Fr h₀ L h' m → News h₀ L h' news' → Q .none { s with heap := h' }) : wpAny (model prog w) A (call (.builtin "list.append") [.ref D, v]) Q E s := by
  have e : (vs ++ [v]).toArray = vs.toArray.push v := by simp
  rw [e] at U
  exact append_K F N U h (by rw [List.size_toArray, sizeLine_eq]; omega)
theorem strs_snoc : ∀ {vs : List Value} {xs : List Str} {a : Str} {t : Tok}, StrsAre vs xs → StrsAre (vs ++ [.str a t]) (xs ++ [a]) := by
  intro vs xs a t h
  induction h with
  | nil => exact .cons _ _ .nil
  | cons x t' r ih => exact .cons _ _ ih
end
end
section
set_option maxHeartbeats 3000000
abbrev convConsts (t0 t1 t2 t3 t4 t5 t6 tq : Tok) (q : Str) (lP lO M : Addr) : List (Str × Value) :=
  [(Str.ofString "OUTSIDE", Value.int 0 t0), (Str.ofString "INSIDE_SQ", Value.int 1 t1), (Str.ofString "INSIDE_QI", Value.int 2 t2), (Str.ofString "INSIDE_ES", Value.int 3 t3), (Str.ofString "INSIDE_PN", Value.int 4 t4), (Str.ofString "INSIDE_CO", Value.int 5 t5), (Str.ofString "INSIDE_DQ", Value.int 6 t6), (Str.ofString "query", Value.str q tq), (Str.ofString "placeholders", Value.ref lP), (Str.ofString "output_query", Value.ref lO), (Str.ofString "param_idx", Value.ref M)]
noncomputable abbrev convP (consts : List (Str × Value)) (M T x dd f c' lO lP : Addr) (co : Obj) (pm ctv v2 : Value) (t3 : Tok) (rest : List (Addr × Obj)) : LoopOn :=
  ⟨consts, M, mapObj T (.ref f), T, tup1 (.ref x), x, dd, dictOf [] 0, f, lamO pm c' ctv, c', co, lO, lP, rest, v2, .int 1 t3⟩
structure Bnd (st : CS) : Prop where
  out : st.out.length ≤ 100000
  ph : st.ph.length ≤ 100000
  c1 : 1 ≤ st.cnt
  c2 : st.cnt ≤ 100001
  phl : ∀ p ∈ st.ph, p.length ≤ 100000
theorem conv_leaf {h₀ h' : Heap} {L : Addr} {own news' : List (Addr × Obj)} {r : Option CS} {s : Shared} {Q : Flow → Shared → Prop} {tk' : Nat} {m' : Str → Option Value} {consts : List (Str × Value)} {M T x dd f c' lO lP : Addr} {co : Obj} {pm ctv v2 : Value} {t3 : Tok} {rest : List (Addr × Obj)}
    {style' : Str} {state' cnt' : Int} {qe' pe' : Bool} {ph' out' : List Str} {c : Str} {ts tst tp tc : Tok} {outV phV : List Value} {nO nP : Nat}
    (F : Fr h₀ L h' m') (N : News h₀ L h' news') (h1 : m' (Str.ofString "style") = some (.str style' ts)) (h2 : m' (Str.ofString "state") = some (.int state' tst)) (h3 : m' (Str.ofString "in_quote_escape") = some (.bool qe')) (h4 : m' (Str.ofString "in_param_escape") = some (.bool pe'))
    (h5 : m' (Str.ofString "prev_c") = some (.str c tp)) (hc : Same m' consts)
    (hm : ∀ p ∈ convLed M T x dd f c' lO lP co pm ctv v2 t3 cnt' tc outV phV nO nP (rest ++ own), p ∈ news')
    (hO : StrsAre outV out') (hP : StrsAre phV ph') (hr : r = some ⟨style', state', qe', pe', ph', out', cnt', some c⟩) :
    ConvEnd h₀ L (convP consts M T x dd f c' lO lP co pm ctv v2 t3 rest) own r s Q .next { s with heap := h', toks := tk' } := by
  refine ⟨h', tk', m', news', ⟨style', state', qe', pe', ph', out', cnt', some c⟩, ts, tst, tp, tc, outV, phV, nO, nP, rfl, F, N, hr, hO, hP, hm, ?_⟩
  intro p hp
  simp only [turnVals, List.mem_cons] at hp
  rcases hp with rfl | rfl | rfl | rfl | rfl | hp
  · exact h1
  · exact h2
  · exact h3
  · exact h4
  · exact h5
  · exact hc p hp
theorem led_mem {M T x dd f c' lO lP : Addr} {co : Obj} {pm ctv v2 : Value} {t3 : Tok} {cnt' : Int} {tc : Tok} {outV phV : List Value} {nO nP : Nat} {tail news' : List (Addr × Obj)}
    (a1 : (M, mapObj T (.ref f)) ∈ news') (a2 : (T, tup1 (.ref x)) ∈ news') (a3 : (x, instO dd cnt' tc v2 (.int 1 t3)) ∈ news') (a4 : (dd, dictOf [] 0) ∈ news') (a5 : (f, lamO pm c' ctv) ∈ news') (a6 : (c', co) ∈ news') (a7 : (lO, listOf outV.toArray nO) ∈ news') (a8 : (lP, listOf phV.toArray nP) ∈ news') (a9 : ∀ p ∈ tail, p ∈ news') :
    ∀ p ∈ convLed M T x dd f c' lO lP co pm ctv v2 t3 cnt' tc outV phV nO nP tail, p ∈ news' := by
  intro p hp
  simp only [convLed, List.mem_cons] at hp
  rcases hp with rfl | rfl | rfl | rfl | rfl | rfl | rfl | rfl | hp
  · exact a1
  · exact a2
  · exact a3
  · exact a4
  · exact a5
  · exact a6
  · exact a7
  · exact a8
  · exact a9 p hp
section
variable {c x : Str} {nx prev : Option Str} {qe pe : Bool} {ph out : List Str} {cnt : Int}
theorem cStep_0 : cStep c nx ⟨x, 0, qe, pe, ph, out, cnt, prev⟩ = (cOut c nx ⟨x, 0, qe, pe, ph, out, cnt, prev⟩).map fun st' => { st' with prev := some c } := rfl
theorem cStep_1 : cStep c nx ⟨x, 1, qe, pe, ph, out, cnt, prev⟩ = some { (if c == Str.ofString "'" then
      (if qe then ⟨x, 1, false, pe, ph, out ++ [c], cnt, prev⟩
       else if nx == some (Str.ofString "'") then ⟨x, 1, true, pe, ph, out ++ [c], cnt, prev⟩
       else ⟨x, 0, qe, pe, ph, out ++ [c], cnt, prev⟩)
     else ⟨x, 1, qe, pe, ph, out ++ [c], cnt, prev⟩ : CS) with prev := some c } := rfl
theorem cStep_2 : cStep c nx ⟨x, 2, qe, pe, ph, out, cnt, prev⟩ = some ⟨x, if c == Str.ofString "\"" then 0 else 2, qe, pe, ph, out ++ [c], cnt, some c⟩ := rfl
theorem cStep_3 : cStep c nx ⟨x, 3, qe, pe, ph, out, cnt, prev⟩ = some ⟨x, if c == Str.ofString "'" && prev != some (Str.ofString "\\") then 0 else 3, qe, pe, ph, out ++ [c], cnt, some c⟩ := rfl
theorem cStep_6 : cStep c nx ⟨x, 6, qe, pe, ph, out, cnt, prev⟩ = some ⟨x, if c == Str.ofString "$" && prev == some (Str.ofString "$") then 0 else 6, qe, pe, ph, out ++ [c], cnt, some c⟩ := rfl
theorem cStep_4 : cStep c nx ⟨x, 4, qe, pe, ph, out, cnt, prev⟩ = some { cPn c nx ⟨x, 4, qe, pe, ph, out, cnt, prev⟩ with prev := some c } := rfl
theorem cStep_5 : cStep c nx ⟨x, 5, qe, pe, ph, out, cnt, prev⟩ = some ⟨x, if c == Str.ofString "\n" then 0 else 5, qe, pe, ph, out ++ [c], cnt, some c⟩ := rfl
end
section
open PySem.MeetsSeq
theorem index_loop_none (l : Addr) (items : Array Value) (n : Nat) (x : Str) (t : Tok) (e : Value → Bool) (he : ∀ y, y ∈ items → EqGives y (.str x t) (e y)) (upto : Int) (hupto : (items.size : Int) < upto)
    (hx : (reprText x).length ≤ 2000000) (k : Nat) :
    ∀ i : Nat, items.size - i = k → i ≤ items.size → (∀ m (hm : m < items.size), i ≤ m → e items[m] = false) → Meets (Builtin.«list.index.loop» ⟨[.ref l, .str x t, rawInt i, rawInt upto], []⟩)
      (fun A R s => s.heap.get? l = some { cls := .type "list", dict := none, data := .seq items n, slots := #[] } ∧ raisesNew "ValueError" A R s) := by
  induction k with
  | zero =>
    intro i hk hij hno prog w A R s h
    obtain ⟨hp, g, d, tk, os⟩ := s; obtain ⟨hl, h⟩ := h
    wp_walk using wpAny_loadPart' hl
    have hi : (if (i : Int) < upto then items[((i : Nat) : Int).toNat]? else none) = none := by
      split
      · simp; omega
      · rfl
    rw [hi]
    have hz1 : (reprText x).length ≤ sizeLine := Nat.le_trans hx (by rw [sizeLine_eq]; decide)
    have hz2 : (reprText x ++ Str.ofString " is not in list").length ≤ sizeLine := by
      have : (reprText x ++ Str.ofString " is not in list").length = (reprText x).length + 15 := by
        show ((reprText x).cps ++ (Str.ofString " is not in list").cps).size = _
        rw [Array.size_append]
        rfl
      rw [this, sizeLine_eq]
      exact Nat.le_trans (Nat.add_le_add_right hx 15) (by decide)
    dsimp only
    refine wpAny_bind (wpAny_rule ?_)
    refine wpAny_bind (wpAny_pyRepr_str ?_ hz1)
    generalize reprText x ++ Str.ofString " is not in list" = msg at hz2 ⊢
    unfold Builtin.List.listRaiseStr
    refine wpAny_bind (wpAny_mkStr (wpAny_bind ?_) hz2)
    unfold newExc newTuple
    refine wpAny_bind (wpAny_newObj_type ?_)
    refine wpAny_bind (m := firstArgMember _ _) (wpAny_of_eq (a := Value.none) (by simp only [firstArgMember, plainExc_ValueError.first]; rfl) ?_)
    rw [plainExc_ValueError.own]
    refine wpAny_newObj_type ?_
    unfold raiseNew
    refine wpAny_bind (wpAny_handled ?_)
    have hh : A.in1.handled = none := h.1
    rw [hh]
    first
      | refine wpAny_throw ?_
      | refine wpAny_bind (wpAny_pure (wpAny_throw ?_))
    exact h.2 _ _ _ ⟨fun b o hb => Heap.get?_push_of_some _ (Heap.get?_push_of_some _ hb), Heap.get?_none_of_le (by simp), _, .ref hp.objs.size, Heap.get?_push_size _ rfl, rfl, by simp⟩
  | succ k ih =>
    intro i hk hij hno prog w A R s h
    obtain ⟨hp, g, d, tk, os⟩ := s; obtain ⟨hl, h⟩ := h
    have hlt : i < items.size := by omega
    have hst : (i : Int) < upto := by omega
    wp_walk using wpAny_loadPart' hl
    have hi : (if (i : Int) < upto then items[((i : Nat) : Int).toNat]? else none) = some items[i] := by simp [hst, hlt]
    have hc : ((i : Int) + 1) = ((i + 1 : Nat) : Int) := by push_cast; rfl
    rw [hi]
    refine wpAny_bind (he _ (Array.getElem_mem hlt) prog w _ _ _ _ ?_)
    rw [hno i hlt (Nat.le_refl _)]
    wp_walk
    rw [hc]
    exact ⟨plainId_quiet plain_index_loop _, codeAny_builtin entry_index_loop (by
      rw [Around.under_plainId plain_index_loop _]
      exact ih (i + 1) (by omega) (by omega) (fun m hm h1 => hno m hm (by omega)) prog w A R _ ⟨hl, h⟩)⟩
theorem list_index_none (l : Addr) (items : Array Value) (n : Nat) (x : Str) (t : Tok) (e : Value → Bool) (he : ∀ y, y ∈ items → EqGives y (.str x t) (e y)) (hsmall : (items.size : Int) < 2 ^ 63 - 1)
    (hx : (reprText x).length ≤ 2000000) (hno : ∀ m (hm : m < items.size), e items[m] = false) :
    Meets (Builtin.«list.index» ⟨[.ref l, .str x t], []⟩)
      (fun A R s => s.heap.get? l = some { cls := .type "list", dict := none, data := .seq items n, slots := #[] } ∧ raisesNew "ValueError" A R s) := by
  intro prog w A R s h
  obtain ⟨hp, g, d, tk, os⟩ := s; obtain ⟨hl, h⟩ := h
  wp_walk using wpAny_loadPart' hl
  have a1 : ((fun i : Int => if i < 0 then max 0 (i + (items.size : Int)) else i) ((none : Option Int).getD 0)) = ((0 : Nat) : Int) := by simp
  have a2 : ((fun i : Int => if i < 0 then max 0 (i + (items.size : Int)) else i) ((none : Option Int).getD (2 ^ 63 - 1))) = 2 ^ 63 - 1 := by simp
  rw [a1, a2]
  exact ⟨plainId_quiet plain_index_loop _, codeAny_builtin entry_index_loop (by
    rw [Around.under_plainId plain_index_loop _]
    exact index_loop_none l items n x t e he (2 ^ 63 - 1) hsmall hx _ 0 rfl (Nat.zero_le _) (fun m hm _ => hno m hm) prog w A R _ ⟨hl, h⟩)⟩
end
section
variable {prog : Program} {w : World} {A : Around} {E : Value → Shared → Prop} {s : Shared}
theorem strs_get {vs : List Value} {xs : List Str} (h : StrsAre vs xs) : ∀ m (h1 : m < vs.length) (h2 : m < xs.length), ∃ t, vs[m] = .str xs[m] t := by
  induction h with
  | nil => intro m h1; cases h1
  | cons a t r ih =>
    intro m h1 h2
    cases m with
    | zero => exact ⟨t, rfl⟩
    | succ m => exact ih m (Nat.lt_of_succ_lt_succ h1) (Nat.lt_of_succ_lt_succ h2)
theorem idxOf_le : ∀ (xs : List Str) (i : Nat) (h : i < xs.length), xs.idxOf xs[i] ≤ i
  | a :: r, 0, _ => by simp
  | a :: r, i + 1, h => by
    show (a :: r).idxOf (r[i]'(Nat.lt_of_succ_lt_succ h)) ≤ i + 1
    rw [List.idxOf_cons]
    have := idxOf_le r i (Nat.lt_of_succ_lt_succ h)
    cases (a == r[i]'(Nat.lt_of_succ_lt_succ h)) with
    | true => exact Nat.zero_le _
    | false => simpa using this
theorem index_strs {D : Addr} {vs : List Value} {xs : List Str} {n : Nat} {k : Str} {t : Tok} {h₀ : Heap} {L : Addr} {news : List (Addr × Obj)} {Q : Value → Shared → Prop} (hh : A.handled = none) (N : News h₀ L s.heap news) (hm : (D, listOf vs.toArray n) ∈ news) (hS : StrsAre vs xs) (hz : xs.length ≤ 200000) (hx : (reprText k).length ≤ 2000000)
    (h1 : k ∈ xs → Q (.int (xs.idxOf k : Nat) s.toks) { s with toks := s.toks + 1 })
    (h2 : k ∉ xs → ∀ h' tk e, Heap.NewExc s.heap h' e "ValueError" → E (.ref e) { s with heap := h', toks := tk }) : wpAny (model prog w) A (call (.builtin "list.index") [.ref D, .str k t]) Q E s := by
  have hlen := hS.length
  by_cases hk : k ∈ xs
  · have hlt := List.idxOf_lt_length_iff.mpr hk
    refine call_meets PySem.F.slot_list_index ⟨_, (N _ hm).1, rfl⟩ PySem.F.entry_list_index (PySem.F.args_list_index_2 _ _)
      (MeetsSeq.list_index D vs.toArray n (.str k t) (isStrOf k) (fun y hy => eq_isStrOf k t hS y (by simpa using hy)) (xs.idxOf k) (by simpa [hlen] using hlt) (by omega) ?_ ?_) ⟨(N _ hm).1, h1 hk⟩
    · obtain ⟨t', e⟩ := strs_get hS (xs.idxOf k) (by omega) hlt
      have e1 : vs.toArray[xs.idxOf k]'(by simpa [hlen] using hlt) = .str xs[xs.idxOf k] t' := by simpa using e
      rw [e1]
      show (xs[xs.idxOf k] == k) = true
      rw [List.getElem_idxOf hlt]
      exact beq_self_eq_true k
    · intro i hi hlt2
      have hi2 : i < xs.length := by omega
      obtain ⟨t', e⟩ := strs_get hS i (by simpa using hi) hi2
      have e1 : vs.toArray[i] = .str xs[i] t' := by simpa using e
      rw [e1]
      show (xs[i] == k) = false
      rw [beq_eq_false_iff_ne]
      intro e2
      have h3 : xs.idxOf k ≤ i := by
        have : xs.idxOf xs[i] ≤ i := idxOf_le xs i hi2
        rw [e2] at this
        exact this
      exact absurd hlt2 (Nat.not_lt.mpr h3)
  · refine call_meets PySem.F.slot_list_index ⟨_, (N _ hm).1, rfl⟩ PySem.F.entry_list_index (PySem.F.args_list_index_2 _ _)
      (list_index_none D vs.toArray n k t (isStrOf k) (fun y hy => eq_isStrOf k t hS y (by simpa using hy)) (by rw [List.size_toArray]; omega) hx ?_) ⟨(N _ hm).1, hh, h2 hk⟩
    intro i hi
    have hi2 : i < xs.length := by have : i < vs.length := by simpa using hi
                                   omega
    obtain ⟨t', e⟩ := strs_get hS i (by simpa using hi) hi2
    have e1 : vs.toArray[i] = .str xs[i] t' := by simpa using e
    rw [e1]
    show (xs[i] == k) = false
    rw [beq_eq_false_iff_ne]
    intro e2
    exact hk (e2 ▸ List.getElem_mem hi2)
end
section
variable {prog : Program} {w : World} {A : Around} {E : Value → Shared → Prop} {s : Shared} {h₀ : Heap} {L D : Addr} {m : Str → Option Value} {news news' : List (Addr × Obj)} {n : Nat}
theorem slice_init (items : Array Value) (h : 1 ≤ items.size) : slicePick items none (some (-1)) none = (items.toList.take (items.size - 1)).toArray := by
  rw [← slicePick_upto items (items.size - 1) (by omega)]
  have e : sliceBounds none (some (-1)) none items.size = sliceBounds none (some ((items.size - 1 : Nat) : Int)) none items.size := by
    simp only [sliceBounds, Option.getD_none, show (1 : Int) > 0 by decide, if_true]
    have h2 : ¬ (((items.size - 1 : Nat) : Int) < 0) := by omega
    have h3 : ((-1 : Int) < 0) := by decide
    simp only [h2, h3, if_true, if_false]
    congr 1
    congr 1
    omega
  unfold slicePick
  rw [e]
theorem last_getItem {vs : List Value} {v : Value} {t : Tok} {Q : Value → Shared → Prop} (N : News h₀ L s.heap news) (hm : (D, listOf (vs ++ [v]).toArray n) ∈ news) (hz : vs.length ≤ 200000) (h : Q v s) :
    wpAny (model prog w) A (getItem (.ref D) (.int (-1) t)) Q E s := by
  have e : (vs ++ [v]).toArray.size = vs.length + 1 := by simp
  refine wpAny_getItem_list_neg (PySem.IsL.isList (n := n) (N _ hm).1) (by decide) (by rw [e]; omega) (by decide) ?_ h
  rw [e]
  have : ((-1 : Int) + ((vs.length + 1 : Nat) : Int)).toNat = vs.length := by omega
  rw [this]
  simp
theorem last_sub {vs : List Value} {v : Value} {t : Tok} {value slice : PySem.Expr} {Q : Value → Shared → Prop} (N : News h₀ L s.heap news) (hm : (D, listOf (vs ++ [v]).toArray n) ∈ news) (hz : vs.length ≤ 200000) (h : Q v s)
    (hb : subscripted slice false (.ref D) (.int (-1) t) = operate [.ref D, .int (-1) t] (getItem (.ref D) (.int (-1) t))) : wpAny (model prog w) A (subscriptTail value slice (.ref D) (.int (-1) t)) Q E s :=
  tail_any (PySem.IsL.isList (n := n) (N _ hm).1).typeIs slot_list_getitem.lookup (last_getItem N hm hz h) hb
theorem len_last {vs : List Value} {v : Value} {k : Nat} {Q : Value → Shared → Prop} (N : News h₀ L s.heap news) (hm : (D, listOf (vs ++ [v]).toArray n) ∈ news) (hz : vs.length ≤ 200000) (hk : vs.length = k) (h : Q (.int ((k : Int) + 1) (s.toks + 1)) { s with toks := s.toks + 1 + 1 }) :
    wpAny (model prog w) A (call (.builtin "len") [.ref D]) Q E s := by
  have e : (vs ++ [v]).toArray.size = k + 1 := by simp [hk]
  refine len_list (PySem.IsL.isList (n := n) (N _ hm).1) (by rw [e]; omega) ?_
  have e9 : ((k + 1 : Nat) : Int) = (k : Int) + 1 := by push_cast; rfl
  rw [e, e9]
  exact h
theorem setAt_neg {l : Addr} {items : Array Value} {k : Int} {t : Tok} {v : Value} {Q : Unit → Shared → Prop} (ho : s.heap.get? l = some (listOf items n)) (h0 : k < 0) (hfit : -(2 ^ 63) ≤ k) (hn : -(items.size : Int) ≤ k)
    (hQ : Q () { s with heap := s.heap.update l (Obj.mapSeq (·.setIfInBounds (k + items.size).toNat v)) }) : wpAny (model prog w) A (setItem (.ref l) (.int k t) v) Q E s := by
  have hl : s.heap.IsList l items := PySem.IsL.isList (n := n) ho
  unfold setItem
  try with_reducible refine wpAny_holding ?_
  first | refine wpAny_bind (wpAny_pure ?_) | skip
  refine wpAny_bind (wpAny_sequenceKey hl.typeIs (by decide) ?_)
  refine wpAny_bind (wpAny_callSpecial?_slot (name := Str.ofString "__setitem__") hl.typeIs slot_list_setitem
    (wpAny_call_entry slot_list_setitem hl.typeIs entry_list_setitem ?_ (args_list_setitem _ _ _)))
  show wpAny _ _ (Builtin.List.listSubscript? (.int k t) >>= _) _ _ s
  refine wpAny_bind (wpAny_listSubscript_int (fitsIndex_neg h0 hfit) ?_)
  clear hfit
  have hidx := seqIndex_neg h0 hn
  obtain ⟨j, rfl⟩ : ∃ j : Nat, k = Int.negSucc j := by
    cases k with
    | ofNat n => exact absurd h0 (Int.not_lt.mpr (Int.natCast_nonneg n))
    | negSucc n => exact ⟨n, rfl⟩
  have hj : (Int.negSucc j + items.size).toNat < items.size := by omega
  have hx' : items[(Int.negSucc j + items.size).toNat]? = some items[(Int.negSucc j + items.size).toNat] := Array.getElem?_eq_getElem hj
  show wpAny _ _ ((Builtin.List.listItems (.ref l) >>= fun xs => pure ((seqIndex? (Int.negSucc j) xs.size).bind fun i => xs[i]?.map (i, ·))) >>= _) _ _ s
  refine wpAny_bind (wpAny_bind ?_)
  show wpAny _ _ (seqItems? (.ref l) >>= _) _ _ s
  refine wpAny_bind (wpAny_seqItems ho rfl (wpAny_pure (wpAny_pure ?_)))
  rw [hidx]
  simp only [Option.bind_some, hx', Option.map_some]
  show wpAny _ _ (setSeqItemAt l (Int.negSucc j + items.size).toNat v >>= _) _ _ s
  refine wpAny_bind (wpAny_setSeqItemAt ho rfl ?_)
  first
    | exact wpAny_bind (wpAny_pure (wpAny_pure ⟨.none, rfl, wpAny_pure hQ⟩))
    | exact wpAny_pure ⟨.none, rfl, wpAny_pure hQ⟩
theorem last_setItem {vs : List Value} {v v' : Value} {t : Tok} {Q : Unit → Shared → Prop} (F : Fr h₀ L s.heap m) (N : News h₀ L s.heap news) (U : Upd D (listOf (vs ++ [v]).toArray n) (listOf (vs ++ [v']).toArray n) news news') (hz : vs.length ≤ 200000)
    (h : ∀ h', Fr h₀ L h' m → News h₀ L h' news' → Q () { s with heap := h' }) : wpAny (model prog w) A (setItem (.ref D) (.int (-1) t) v') Q E s := by
  obtain ⟨pre, post, rfl, rfl, a, b⟩ := U.split
  have z := N (D, listOf (vs ++ [v]).toArray n) (List.mem_append.mpr (.inr (.head _)))
  have e : (vs ++ [v]).toArray.size = vs.length + 1 := by simp
  have e2 : ((-1 : Int) + ((vs ++ [v]).toArray.size : Int)).toNat = vs.length := by rw [e]; omega
  refine setAt_neg z.1 (by decide) (by decide) (by rw [e]; omega) (h _ (F.change (Heap.SameBut.update ..) z.2.1 z.2.2) (ki_turn _ N a b ?_ ?_))
  · show (vs ++ [v]).toArray.setIfInBounds _ v' = (vs ++ [v']).toArray
    rw [e2]
    apply Array.toList_inj.mp
    simp
  · simp
theorem last_delItem {vs : List Value} {v : Value} {t : Tok} {Q : Unit → Shared → Prop} (F : Fr h₀ L s.heap m) (N : News h₀ L s.heap news) (U : Upd D (listOf (vs ++ [v]).toArray n) (listOf vs.toArray (n + 1)) news news') (hz : vs.length ≤ 200000)
    (h : ∀ h', Fr h₀ L h' m → News h₀ L h' news' → Q () { s with heap := h' }) : wpAny (model prog w) A (delItem (.ref D) (.int (-1) t)) Q E s := by
  obtain ⟨pre, post, rfl, rfl, a, b⟩ := U.split
  have z := N (D, listOf (vs ++ [v]).toArray n) (List.mem_append.mpr (.inr (.head _)))
  have e : (vs ++ [v]).toArray.size = vs.length + 1 := by simp
  have e2 : ((-1 : Int) + ((vs ++ [v]).toArray.size : Int)).toNat = vs.length := by rw [e]; omega
  refine P.delItem_list (n := n) (k := vs.length) z.1 (fitsIndex_neg (by decide) (by decide)) ?_ (h _ (F.change (Heap.SameBut.update ..) z.2.1 z.2.2) (ki_turn _ N a b ?_ ?_)) (by rw [e, sizeLine_eq]; omega)
  · rw [seqIndex_neg (by decide) (by rw [e]; omega), e2]
  · show (vs ++ [v]).toArray.eraseIdxIfInBounds vs.length = vs.toArray
    apply Array.toList_inj.mp
    have e4 : (vs ++ [v]).eraseIdx vs.length = vs := by
      rw [List.eraseIdx_append_of_length_le (Nat.le_refl _)]
      simp
    simp [e4]
  · simp
theorem init_slice {vs : List Value} {v : Value} {l : Addr} {value slice : PySem.Expr} {t : Tok} {Q : Value → Shared → Prop} (F : Fr h₀ L s.heap m) (N : News h₀ L s.heap news) (hm : (l, listOf (vs ++ [v]).toArray n) ∈ news) (hz : vs.length ≤ 200000)
    (h : ∀ D h', Fr h₀ L h' m → News h₀ L h' ((D, listOf vs.toArray 0) :: news) → (∀ p ∈ news, @LT.lt Nat _ p.1 D) → Q (.ref D) { s with heap := h' })
    (hs : subscripted slice false (.ref l) (.ref s.heap.objs.size) = operate [.ref s.heap.objs.size, .ref l] (getItem (.ref l) (.ref s.heap.objs.size))) (ht : ∀ r, letTemporaryGo value (.ref l) r = pure ()) :
    wpAny (model prog w) A (subscriptTail value slice (.ref l) (.ref s.heap.objs.size)) Q E { s with heap := s.heap.push { cls := .type "slice", data := .fields #[.none, .int (-1) t, .none] } } := by
  have e : (vs ++ [v]).toArray.size = vs.length + 1 := by simp
  refine kmk_slice F N (PySem.IsL.isList (n := n) (N _ hm).1) .none (.int _ _) (fun D' h' F' N' l1 => h D' h' F' ?_ l1) hs ht (by rw [e, sizeLine_eq]; omega)
  rw [slice_init _ (by rw [e]; omega), e] at N'
  have e3 : ((vs ++ [v]).toArray.toList.take (vs.length + 1 - 1)).toArray = vs.toArray := by simp
  rw [e3] at N'
  exact N'
end
section
variable {prog : Program} {w : World} {A A₀ : Around} {E : Value → Shared → Prop} {s' : Shared} {base g h : Heap} {outer : List Env} {L a e : Addr} {m : Str → Option Value} {cn : Str} {cs : Scope} {ccd : Value} {cl : List (Str × Addr)}
  {b₀ : Stmt} {suite : List Stmt} {pos np : Pos} {rest : List ExceptHandler} {Q : Flow → Shared → Prop} {news : List (Addr × Obj)} {KF : Frag}
  {p : Program} {loose : List Str} {mean : ExcName → Option Value} {mg mb : Str → Option Value} {x : Str} {X T' : String}
theorem noted_firstX {M : Model} {base' : Heap} {env : Env} {oe : Obj} {vs : Array Value} {a0 : Value} {Q : Unit → Shared → Prop}
    (hfr : A.frames = some (env :: outer)) (hl : s'.heap.FunFrames base' (env :: outer)) (hf : env.frame = some L)
    (he : s'.heap.get? e = some oe) (hkb : base'.StaysIn s'.heap) (hen : base'.get? e = none) (hd : oe.data = .fields vs) (h1 : vs[1]? = some .none) (h0 : vs[0]? = some a0)
    (h : ∀ h', Heap.LeftW base' (env :: outer) e oe.cls a0 s'.heap h' → Q () { s' with heap := h' }) : wpAny M A (noteFrame (.ref e) env) (fun _ s₂ => wpAny M A (setFlight (.ref e) none) Q E s₂) E s' := by
  unfold noteFrame
  simp only [hf]
  refine wpAny_bind (wpAny_field he hd h1 ?_)
  rw [if_neg (by decide)]
  exact wpAny_newEntryW hfr hl hf he hkb hen hd (Array.getElem?_eq_some_iff.mp h1).1 h0 h
theorem caughtX_new (K : Below A₀ base outer g) (hA : A.frames = some (envX cn cs L a ccd cl :: outer)) (hx : Heap.NewExc h s'.heap e X) (F : Fr g L h m) (N : News g L h news) (XB : KF.In base) (TB : Top p loose mean mg mb base)
    (D : KtsDicts (outer.filterMap (·.frame)) g)
    (ex : nsIn KF mainGlobals x = some none) (hv : bootBuiltins x = some (.type T')) (hn' : x ≠ "__name__")
    (hexc : isSubtype (.type T') (.type "BaseException") = pure true) (hnt : isSubtype (.type ((Manifest.find? T').elim "type" fun y => y.metatype)) (.type "tuple") = pure false) (hsub : isSubtype (.type X) (.type T') = pure true)
    (k : ∀ h' g', KtsTurn (outer.filterMap (·.frame)) g g' → Fr g' L h' m → News g' L h' news → Below A₀ base outer g' → KF.In g' → Top p loose mean mg mb g' → KtsDicts (outer.filterMap (·.frame)) g' →
      wpAny (model prog w) (A.mark (some (.ref e))) (execs (b₀ :: suite) (envX cn cs L a ccd cl)) Q E { s' with heap := h' })
    (hk : cs.kind = .function) (hx' : (envX cn cs L a ccd cl).kindOf x = some .globalImplicit := by rfl) (hd : (x == ("__debug__" : Str)) = false := by decide)
    (hE : PassesOwnAt (model prog w) (A.mark (some (.ref e))) A (envX cn cs L a ccd cl) E) :
    wpAny (model prog w) A (noteFrame (.ref e) (envX cn cs L a ccd cl))
      (fun _ s₂ => wpAny (model prog w) A (setFlight (.ref e) none) (fun _ s₃ =>
        wpAny (model prog w) A (handleBy (.ref e) (envX cn cs L a ccd cl) (.ExceptHandler (some (.Name x np)) none (b₀ :: suite) pos :: rest)) Q E s₃) E s₂) E s' := by
  have K' := pushX (env := envX cn cs L a ccd cl) K F rfl hk
  have hin : ∀ env ∈ (envX cn cs L a ccd cl :: outer), ∀ b, env.frame = some b → b ∈ (envX cn cs L a ccd cl :: outer).filterMap (·.frame) := fun env he b hb => List.mem_filterMap.mpr ⟨env, he, hb⟩
  have hBG : ∀ b o, h.get? b = some o → b ∉ (envOf cn cs L a ccd :: outer).filterMap (·.frame) → (hideAll h ((envX cn cs L a ccd cl :: outer).filterMap (·.frame))).get? b = some o := fun b o q nm => hideAll_get _ q nm
  have hl : ∀ q ∈ news, (hideAll h ((envX cn cs L a ccd cl :: outer).filterMap (·.frame))).get? q.1 = some q.2 := fun q hq => by
    refine hideAll_get _ (N q hq).1 fun hm => ?_
    obtain ⟨env, he, hf⟩ := List.mem_filterMap.mp hm
    rcases List.mem_cons.mp he with rfl | he
    · exact (N q hq).2.1 (Option.some.inj hf).symm
    · obtain ⟨o, ho, _⟩ := (K.frames.mem (List.mem_filterMap.mpr ⟨env, he, hf⟩)).2
      rw [(N q hq).2.2] at ho; cases ho
  obtain ⟨ob, tp, he, hcls, hdt⟩ := hx.there
  have hen : (hideAll h ((envX cn cs L a ccd cl :: outer).filterMap (·.frame))).get? e = none := by
    cases q : (hideAll h ((envX cn cs L a ccd cl :: outer).filterMap (·.frame))).get? e with
    | none => rfl
    | some o => have := of_hideAll _ q; rw [hx.new] at this; cases this
  refine noted_firstX (a0 := tp) hA ((funFrames_hide K'.frames hin).of_keeps fun b o hb _ => ⟨o, hx.keeps b o hb, rfl⟩) rfl he (fun b o hb => hx.keeps b o (of_hideAll _ hb)) hen hdt rfl rfl fun h₅ hL => ?_
  obtain ⟨k1, k2, k3, k4⟩ := hL
  have hsm₅ : h.UpToSlots h₅ := (Heap.UpToSlots.of_keeps hx.keeps).trans k4
  obtain ⟨g₅, T₅, F₅, K₅⟩ := kts_ground (name := cn) (scope := cs) (a := a) (cd := ccd) K F hBG k1 hsm₅
  have X₅ : KF.In g₅ := XB.keeps K₅.stays
  have P₅ : TopRead p loose mg mb g₅ := topRead_of (TB.keeps K₅.stays)
  obtain ⟨ob', hob, hobc⟩ := k3.at.there
  refine wpAny_handleBy_builtin (X := X) (T := T') (b := true) hexc hnt hsub (nameX_B F₅ X₅ P₅ ex hv hn' ⟨rfl, ⟨ob', hob, hobc.trans hcls⟩, ?_⟩ hk hx' hd)
  refine lands_againW ⟨k1, hen, k2, k3⟩ fun h₆ hfl₆ hsm₆ => ?_
  obtain ⟨g₆, T₆, F₆, K₆⟩ := kts_ground (name := cn) (scope := cs) (a := a) (cd := ccd) K F hBG hfl₆.1 (hsm₅.trans hsm₆)
  have Nl : News g₆ L h₆ news := fun q hq => ⟨hfl₆.1 _ _ (hl q hq), (N q hq).2.1, T₆.none_ _ (N q hq).2.2⟩
  exact wpAny_passesOwnAt hE (k h₆ g₆ T₆ F₆ Nl K₆ (XB.keeps K₆.stays) (TB.keeps K₆.stays) (D.turn T₆))
end
def StepG (G : Heap → Prop) (L : Addr) (own news₁ : List (Addr × Obj)) (Jn : (Str → Option Value) → List (Addr × Obj) → Prop) (s₁ : Shared) (Qr : Value → Shared → Prop) (Qb : Shared → Prop) (f : Flow) (s₂ : Shared) : Prop :=
  match f with
  | .ret v => Qr v s₂
  | .brk => Qb s₂
  | _ => ∃ g h' tk m₂ news₂, s₂ = { s₁ with heap := h', toks := tk } ∧ G g ∧ Fr g L h' m₂ ∧ News g L h' (own ++ news₂) ∧ news₂.map (·.1) = news₁.map (·.1) ∧ Jn m₂ news₂
section
variable {prog : Program} {w : World} {A : Around} {s : Shared} {env : Env}
theorem forLoop_G {R : Result → Shared → Prop} {xi xc : Str} {pk pv pt : Pos} {x1 : Nat} {body : List Stmt} {I : Addr} {fp wr : List Addr} {n : Nat} {Pt : Nat → Array Value → Prop} {St : Nat → Heap → Prop} {Mid : Nat → Addr → Heap → Prop}
    {P2 : Nat → Value → Value → Prop} {m : Str → Option Value} {news : List (Addr × Obj)} {G : Heap → Prop} {g₀ : Heap} (hh : A.handled = none) (W : WalksT prog w A I fp wr n Pt St Mid) (h2 : ∀ i vals, Pt i vals → ∃ v0 v1, vals = #[v0, v1] ∧ P2 i v0 v1)
    (hxi : env.kindOf xi = some .local) (hxc : env.kindOf xc = some .local)
    (hp : (env.scope.kind == .class || (env.scope.kind == .module && env.locals != env.globals)) = false)
    (hLf : env.locals ∉ fp) (hG : ∀ g, G g → ∀ b ∈ fp, g.get? b = none) (hnw : ∀ p ∈ news, p.1 ∉ wr)
    (hst : St 0 s.heap) (g0 : G g₀) (F : Fr g₀ env.locals s.heap m) (N : News g₀ env.locals s.heap news)
    (J : Nat → (Str → Option Value) → List (Addr × Obj) → Prop) (h0 : J 0 m news)
    (step : ∀ g i v0 v1 m₁ news₁ s₁ own, G g → (∃ h tk, s₁ = { s with heap := h, toks := tk }) → i < n → P2 i v0 v1 → J i m₁ news₁ → news₁.map (·.1) = news.map (·.1) → (∀ p ∈ own, p.1 ∈ fp) →
      Fr g env.locals s₁.heap (fun y => if y = xc then some v1 else if y = xi then some v0 else m₁ y) → News g env.locals s₁.heap (own ++ news₁) →
      wpAny (model prog w) A (execs body env) (StepG G env.locals own news₁ (J (i + 1)) s₁ (fun v s' => R (.ok (.ret v)) s') fun s' => R (.ok .next) s') (notedBy (model prog w) A env fun e s' => R (.error e) s') s₁)
    (hR : ∀ g h' tk m' news', G g → Fr g env.locals h' m' → News g env.locals h' news' → news'.map (·.1) = news.map (·.1) → J n m' news' → R (.ok .next) { s with heap := h', toks := tk }) :
    codeAny (model prog w) A (.forLoop (.Tuple [.Name xi pk, .Name xc pv] x1 pt) (.ref I) body [] env) R s := by
  have hLw : env.locals ∉ wr := fun h => hLf (W.sub _ h)
  have old : ∀ g, G g → ∀ b o, g.get? b = some o → b ∉ wr := fun g hg b o e hb => by rw [hG g hg b (W.sub _ hb)] at e; cases e
  have hnw' : ∀ news' : List (Addr × Obj), news'.map (·.1) = news.map (·.1) → ∀ p ∈ news', p.1 ∉ wr := fun news' ha p hp => by
    have : p.1 ∈ news.map (·.1) := ha ▸ List.mem_map.mpr ⟨p, hp, rfl⟩
    obtain ⟨q, hq, e⟩ := List.mem_map.mp this
    exact e ▸ hnw q hq
  refine codeAny_forLoop_any
    (fun k s' => ∃ g h' tk m' news' i, s' = { s with heap := h', toks := tk } ∧ G g ∧ St i h' ∧ Fr g env.locals h' m' ∧ News g env.locals h' news' ∧ news'.map (·.1) = news.map (·.1) ∧ J i m' news' ∧ i ≤ n ∧ k = n + 1 - i) ?_ (n + 1)
    ⟨g₀, s.heap, s.toks, m, news, 0, rfl, g0, hst, F, N, rfl, h0, Nat.zero_le _, rfl⟩
  rintro k s' ⟨g, H, tk, m', news', i, rfl, gg, hst', F', N', ha', hJ, hi, rfl⟩
  have next : ∀ h₁ : Heap, (∀ b o, b ∉ wr → H.get? b = some o → h₁.get? b = some o) → Fr g env.locals h₁ m' ∧ News g env.locals h₁ news' := fun h₁ hk₁ =>
    ⟨⟨F'.ns.at' fun o e => hk₁ _ o hLw e, fun b o e => hk₁ b o (old g gg b o e) (F'.keep b o e), F'.above⟩, fun p hp => ⟨hk₁ _ _ (hnw' news' ha' p hp) (N' p hp).1, (N' p hp).2⟩⟩
  by_cases hlt : i < n
  · refine W.item i _ _ _ hlt hst' fun T vals h₁ tk₁ hPt _ hT hMid hk₁ => ?_
    obtain ⟨v0, v1, rfl, hP2⟩ := h2 i vals hPt
    refine W.go _ x1 pt i T _ _ _ hMid fun h₂ hst₂ hk₂ => ?_
    have ht₂ : h₂.IsTuple T #[v0, v1] := hT.at fun o e => hk₂ T o (W.apart i T h₁ hMid) e
    refine wpAny_assign_Tuple hh ht₂ rfl rfl fun h₃ hx₃ => ?_
    replace hx₃ : Heap.ExtBut h₂.objs.size h₂ h₃ := hx₃
    have up₃ : ∀ b o, h₂.get? b = some o → h₃.get? b = some o := fun b o x => hx₃ b o (Nat.ne_of_lt (Heap.lt_size x)) x
    obtain ⟨F₃, N₃⟩ := next h₃ fun b o hb x => up₃ b o (hk₂ b o hb (hk₁ b o hb x))
    show wpAny _ A (do holding [v1] (assign (.Name xi pk) env v0); do holding [] (assign (.Name xc pv) env v1); pure ()) _ _ _
    refine wpAny_bind (wpAny_holding (wpAny_assign_Name (wpAny_storeName_local hxi F₃.ns (fun h₄ hn₄ hs₄ => ?_) hp)))
    replace hs₄ : Heap.SameBut env.locals h₃ h₄ := hs₄
    have F₄ := F₃.set hn₄ hs₄
    refine wpAny_bind (wpAny_holding (wpAny_assign_Name (wpAny_storeName_local hxc F₄.ns (fun h₅ hn₅ hs₅ => wpAny_pure ?_) hp)))
    replace hs₅ : Heap.SameBut env.locals h₄ h₅ := hs₅
    have F₅ := F₄.set hn₅ hs₅
    have N₅ : News g env.locals h₅ news' := (N₃.set hs₄).set hs₅
    have hst₅ : St (i + 1) h₅ := W.frame _ _ _ hst₂ fun b hb o e => hs₅.extBut b o (fun q => hLf (q ▸ hb)) (hs₄.extBut b o (fun q => hLf (q ▸ hb)) (up₃ b o e))
    have fin : ∀ s₃, (∃ g' h' tk m₂ news₂, s₃ = { ({ s with heap := h₅, toks := tk₁ } : Shared) with heap := h', toks := tk } ∧ G g' ∧ Fr g' env.locals h' m₂ ∧ News g' env.locals h' (ownOf g fp h₅ ++ news₂) ∧ news₂.map (·.1) = news'.map (·.1) ∧ J (i + 1) m₂ news₂) →
        ∃ k', k' < n + 1 - i ∧ ∃ g h' tk m' news' i, s₃ = { s with heap := h', toks := tk } ∧ G g ∧ St i h' ∧ Fr g env.locals h' m' ∧ News g env.locals h' news' ∧ news'.map (·.1) = news.map (·.1) ∧ J i m' news' ∧ i ≤ n ∧ k' = n + 1 - i := by
      rintro s₃ ⟨g₆, h₆', tk₆, m₂, news₂, rfl, gg₆, F₆, N₆, ha₆, hJ₆⟩
      refine ⟨n + 1 - (i + 1), by omega, g₆, h₆', tk₆, m₂, news₂, i + 1, rfl, gg₆, ?_, F₆, N₆.right, ha₆.trans ha', hJ₆, hlt, rfl⟩
      exact W.frame _ _ _ hst₅ fun b hb o e => (N₆ _ (List.mem_append_left _ (mem_ownOf hb (hG g gg b hb) e))).1
    refine wpAny_mono (step g i v0 v1 m' news' _ (ownOf g fp h₅) gg ⟨_, _, rfl⟩ hlt hP2 hJ ha' ownOf_sub F₅ ((news_ownOf hLf).append N₅)) (fun f s₃ h₆ => ?_) fun _ _ e => e
    cases f with
    | ret v => exact h₆
    | brk => exact h₆
    | cont => exact fin _ h₆
    | next => exact fin _ h₆
  · have hin : i = n := by omega
    subst hin
    refine W.done _ _ _ hst' fun h₁ tk₁ hk₁ => wpAny_execs_nil ?_
    obtain ⟨F₁, N₁⟩ := next h₁ hk₁
    exact hR g h₁ tk₁ m' news' gg F₁ N₁ ha' hJ
theorem enum_G {E : Value → Shared → Prop} {Q : Flow → Shared → Prop} {xi xc : Str} {pk pv pt : Pos} {x1 : Nat} {body : List Stmt} {x : Str} {t : Tok} {m : Str → Option Value} {news : List (Addr × Obj)} {G : Heap → Prop} {g₀ : Heap} (hh : A.handled = none)
    (hxi : env.kindOf xi = some .local) (hxc : env.kindOf xc = some .local)
    (hp : (env.scope.kind == .class || (env.scope.kind == .module && env.locals != env.globals)) = false)
    (hG : ∀ g, G g → ∀ b, g₀.get? b = none → g.get? b = none) (g0 : G g₀) (F : Fr g₀ env.locals s.heap m) (N : News g₀ env.locals s.heap news)
    (J : Nat → (Str → Option Value) → List (Addr × Obj) → Prop) (h0 : J 0 m news)
    (step : ∀ g i a ti u m₁ news₁ s₁ own, G g → (∃ h tk, s₁ = { s with heap := h, toks := tk }) → (signs x)[i]? = some a → J i m₁ news₁ → news₁.map (·.1) = news.map (·.1) → (∀ p ∈ own, ∀ q ∈ news, p.1 ≠ q.1) →
      Fr g env.locals s₁.heap (fun y => if y = xc then some (.str a u) else if y = xi then some (.int (i : Nat) ti) else m₁ y) → News g env.locals s₁.heap (own ++ news₁) →
      wpAny (model prog w) A (execs body env) (StepG G env.locals own news₁ (J (i + 1)) s₁ (fun v s' => Q (.ret v) s') fun s' => Q .next s') E s₁)
    (done : ∀ g h' tk m' news', G g → Fr g env.locals h' m' → News g env.locals h' news' → news'.map (·.1) = news.map (·.1) → J (signs x).length m' news' → Q .next { s with heap := h', toks := tk })
    (hE : PassesOwn (model prog w) A env E) :
    wpAny (model prog w) A (call (.type "enumerate") [.str x t]) (fun xv s₁ => wpAny (model prog w) A (pyIter xv) (fun it s₂ => codeAny (model prog w) A (.forLoop (.Tuple [.Name xi pk, .Name xc pv] x1 pt) it body [] env) (fun r s' => match r with | .ok f => Q f s' | .error e => cameBackBy (model prog w) A env E e s') s₂) E s₁) E s := by
  have hLs : env.locals < s.heap.objs.size := F.ns.lt
  have hab : g₀.objs.size ≤ env.locals := F.above
  refine call_enumerate_str fun h' he hit hsz hk => ?_
  have F' : Fr g₀ env.locals h' m := ⟨F.ns.keeps hk, fun b o e => hk b o (F.keep b o e), F.above⟩
  have N' : News g₀ env.locals h' news := fun p hp => ⟨hk _ _ (N p hp).1, (N p hp).2⟩
  have side1 : s.heap.objs.size + 1 ∉ [s.heap.objs.size] := fun hm => Nat.succ_ne_self _ (List.mem_singleton.mp hm)
  have side2 : env.locals ∉ [s.heap.objs.size + 1, s.heap.objs.size] := fun hm => by
    rcases List.mem_cons.mp hm with e | hm
    · exact Nat.ne_of_lt (Nat.lt_succ_of_lt hLs) e
    · exact Nat.ne_of_lt hLs (List.mem_singleton.mp hm)
  have side3 : ∀ b ∈ [s.heap.objs.size + 1, s.heap.objs.size], ∀ q ∈ news, b ≠ q.1 := fun b hb q hq e => by
    have hq1 : q.1 < s.heap.objs.size := Heap.lt_size (N q hq).1
    rcases List.mem_cons.mp hb with e1 | hb
    · exact Nat.ne_of_gt (Nat.lt_succ_of_lt hq1) (e1.symm.trans e)
    · exact Nat.ne_of_gt hq1 ((List.mem_singleton.mp hb).symm.trans e)
  have side4 : ∀ g, G g → ∀ b ∈ [s.heap.objs.size + 1, s.heap.objs.size], g.get? b = none := fun g gg b hb => by
    refine hG g gg b (Heap.get?_none_of_le ?_)
    rcases List.mem_cons.mp hb with rfl | hb
    · exact Nat.le_trans hab (Nat.le_of_lt (Nat.lt_succ_of_lt hLs))
    · rw [List.mem_singleton.mp hb]; exact Nat.le_trans hab (Nat.le_of_lt hLs)
  refine wpAny_pyIter_enum he ?_
  have go : ∀ {St : Nat → Heap → Prop}, Draws prog w A.in1 s.heap.objs.size [s.heap.objs.size] x.cps.size (fun i v => ∃ c u, x.cps[i]? = some c ∧ v = .str ⟨#[c]⟩ u) St → St 0 h' →
      codeAny (model prog w) A (.forLoop (.Tuple [.Name xi pk, .Name xc pv] x1 pt) (.ref (s.heap.objs.size + 1)) body [] env) (fun r s' => match r with | .ok f => Q f s' | .error e => cameBackBy (model prog w) A env E e s') { s with heap := h' } := by
    intro St D hst
    refine forLoop_G (P2 := fun i v0 v1 => ∃ ti, v0 = .int (i : Nat) ti ∧ ∃ c u, x.cps[i]? = some c ∧ v1 = .str ⟨#[c]⟩ u) hh (WalksT.enumerateD D _ (Nat.succ_ne_self _) side1 (by simp)) ?_ hxi hxc hp side2 side4 ?_ ⟨⟨_, he⟩, hst⟩ g0 F' N' J h0 ?_ ?_
    · rintro i vals ⟨ti, y, hP, rfl⟩
      exact ⟨_, _, rfl, ti, rfl, hP⟩
    · intro p hp hb
      exact side3 _ hb p hp rfl
    · rintro g i v0 v1 m₁ news₁ s₁ own gg hs₁ _ ⟨ti, rfl, c, u, hc, rfl⟩ hJ ha hsub F₁ N₁
      exact wpAny_passesOwn hE (step g i _ ti u m₁ news₁ s₁ own gg hs₁ (signs_get hc) hJ ha (fun p hp q hq => side3 _ (hsub p hp) q hq) F₁ N₁)
    · intro g h'' tk m' news' gg F'' N'' ha hJ
      refine done g h'' tk m' news' gg F'' N'' ha ?_
      rw [signs_length]
      exact hJ
  cases ha : x.cps.all (· < 128)
  · exact go (Draws.strWide (A := A.in1) hh s.heap.objs.size x t) (by simpa [strIterType, ha] using hit)
  · exact go (Draws.strAscii (A := A.in1) hh s.heap.objs.size x t) (by simpa [strIterType, ha] using hit)
end
def ConvEndT (A₀ : Around) (base : Heap) (outer : List Env) (h₀ : Heap) (L : Addr) (P : LoopOn) (own : List (Addr × Obj)) (r : Option CS) (s₁ : Shared) (Q : Flow → Shared → Prop) (fl : Flow) (s₂ : Shared) : Prop :=
  ∃ g', KtsTurn (outer.filterMap (·.frame)) h₀ g' ∧ Below A₀ base outer g' ∧ ConvEnd g' L P own r s₁ Q fl s₂
theorem convEndT_intro {A₀ : Around} {base : Heap} {outer : List Env} {h₀ g' : Heap} {L : Addr} {P : LoopOn} {own : List (Addr × Obj)} {r : Option CS} {s₁ : Shared} {Q : Flow → Shared → Prop} {fl : Flow} {s₂ : Shared}
    (t : KtsTurn (outer.filterMap (·.frame)) h₀ g') (b : Below A₀ base outer g') (l : ConvEnd g' L P own r s₁ Q fl s₂) : ConvEndT A₀ base outer h₀ L P own r s₁ Q fl s₂ := ⟨g', t, b, l⟩
section
variable {prog : Program} {w : World} {A A₀ : Around} {E : Value → Shared → Prop} {s : Shared} {env : Env} {base h₀ : Heap} {outer : List Env} {body : List Stmt} {Q : Flow → Shared → Prop} {L : Addr}
theorem convEndT_of {P : LoopOn} {own : List (Addr × Obj)} {r : Option CS} {s₁ s₂ : Shared} {fl : Flow} (b : Below A₀ base outer h₀) (l : ConvEnd h₀ L P own r s₁ Q fl s₂) : ConvEndT A₀ base outer h₀ L P own r s₁ Q fl s₂ := ⟨h₀, KtsTurn.refl, b, l⟩
theorem conv_loopT {x : Str} {t : Tok} {x0 : Str} {m₀ : Str → Option Value} {tc0 : Tok} {n0 n1 : Nat} {ts0 tst0 : Tok} {pk pv pt : Pos} {x1 : Nat} (P : LoopOn) (hh : A.handled = none) (hL : env.locals = L)
    (hxi : env.kindOf (Str.ofString "i") = some .local) (hxc : env.kindOf (Str.ofString "c") = some .local)
    (hp : (env.scope.kind == .class || (env.scope.kind == .module && env.locals != env.globals)) = false)
    (B : Below A₀ base outer h₀) (D : KtsDicts (outer.filterMap (·.frame)) h₀) (F : Fr h₀ L s.heap m₀) (N : News h₀ L s.heap (P.led (cStart x0).cnt tc0 [] [] n0 n1 P.rest))
    (c1 : m₀ (Str.ofString "style") = some (.str x0 ts0)) (c2 : m₀ (Str.ofString "state") = some (.int 0 tst0)) (c3 : m₀ (Str.ofString "in_quote_escape") = some (.bool false)) (c4 : m₀ (Str.ofString "in_param_escape") = some (.bool false)) (c5 : m₀ (Str.ofString "prev_c") = some .none)
    (c6 : Same m₀ P.consts)
    (hoff : ∀ p ∈ P.rest, p.1 ≠ P.x ∧ p.1 ≠ P.lO ∧ p.1 ≠ P.lP)
    (turn : ∀ (g : Heap) (i : Nat) c st ti u ts tst tp tc outV phV nO nP (um : Str → Option Value) h tk own, KtsTurn (outer.filterMap (·.frame)) h₀ g → Below A₀ base outer g → KtsDicts (outer.filterMap (·.frame)) g → (signs x)[i]? = some c → cTake (signs x) (cStart x0) i = some st → StrsAre outV st.out → StrsAre phV st.ph →
      (∀ p ∈ P.rest ++ own, p.1 ≠ P.x) → (∀ p ∈ P.rest ++ own, p.1 ≠ P.lO) → (∀ p ∈ P.rest ++ own, p.1 ≠ P.lP) →
      Fr g L h (fun y => if y = Str.ofString "c" then some (.str c u) else if y = Str.ofString "i" then some (.int i ti) else kstB um (turnVals st ts tst tp P.consts) y) →
      News g L h (P.led st.cnt tc outV phV nO nP (P.rest ++ own)) →
      wpAny (model prog w) A (execs body env) (ConvEndT A₀ base outer g L P own (cStep c (signs x)[i + 1]? st) { s with heap := h, toks := tk } Q) E { s with heap := h, toks := tk })
    (done : ∀ g st ts tst tp tc outV phV nO nP (um : Str → Option Value) h tk, KtsTurn (outer.filterMap (·.frame)) h₀ g → Below A₀ base outer g → KtsDicts (outer.filterMap (·.frame)) g → cTake (signs x) (cStart x0) (signs x).length = some st → StrsAre outV st.out → StrsAre phV st.ph →
      Fr g L h (kstB um (turnVals st ts tst tp P.consts)) → News g L h (P.led st.cnt tc outV phV nO nP P.rest) → Q .next { s with heap := h, toks := tk })
    (hE : PassesOwn (model prog w) A env E) :
    wpAny (model prog w) A (call (.type "enumerate") [.str x t]) (fun xv s₁ => wpAny (model prog w) A (pyIter xv) (fun it s₂ => codeAny (model prog w) A (.forLoop (.Tuple [.Name (Str.ofString "i") pk, .Name (Str.ofString "c") pv] x1 pt) it body [] env) (fun r s' => match r with | .ok f => Q f s' | .error e => cameBackBy (model prog w) A env E e s') s₂) E s₁) E s := by
  subst hL
  have h0 : Same m₀ (turnVals (cStart x0) ts0 tst0 0 P.consts) := by
    intro p hp
    simp only [turnVals, List.mem_cons] at hp
    rcases hp with rfl | rfl | rfl | rfl | rfl | hp
    · exact c1
    · exact c2
    · exact c3
    · exact c4
    · exact c5
    · exact c6 p hp
  refine enum_G (G := fun g => KtsTurn (outer.filterMap (·.frame)) h₀ g ∧ Below A₀ base outer g) hh hxi hxc hp (fun g gg b hb => gg.1.none_ b hb) ⟨KtsTurn.refl, B⟩ F N (ConvJ P (signs x) (cStart x0)) ⟨(cStart x0), ts0, tst0, 0, tc0, [], [], n0, n1, rfl, .nil, .nil, rfl, h0⟩ ?_ ?_ hE
  · rintro g i c ti u m₁ news₁ s₁ own ⟨gT, gB⟩ ⟨h, tk, rfl⟩ hi ⟨st, ts, tst, tp, tc, outV, phV, nO, nP, hst, hO, hP, rfl, hS⟩ hadr hown F₁ N₁
    rw [conv_same hS] at F₁
    have off : ∀ d, d ∈ [P.x, P.lO, P.lP] → (∀ p ∈ P.rest, p.1 ≠ d) → ∀ p ∈ P.rest ++ own, p.1 ≠ d := by
      intro d hd hr p hp
      rcases List.mem_append.mp hp with hp | hp
      · exact hr p hp
      · simp only [List.mem_cons, List.not_mem_nil, or_false] at hd
        rcases hd with rfl | rfl | rfl
        · exact hown p hp _ (.tail _ (.tail _ (.head _)))
        · exact hown p hp _ (.tail _ (.tail _ (.tail _ (.tail _ (.tail _ (.tail _ (.head _)))))))
        · exact hown p hp _ (.tail _ (.tail _ (.tail _ (.tail _ (.tail _ (.tail _ (.tail _ (.head _))))))))
    have N₂ : News g env.locals h (P.led st.cnt tc outV phV nO nP (P.rest ++ own)) := fun p hp => N₁ p (by
      simp only [LoopOn.led, List.mem_cons, List.mem_append] at hp ⊢
      grind)
    refine wpAny_mono (turn g i c st ti u ts tst tp tc outV phV nO nP m₁ h tk own gT gB (D.turn gT) hi hst hO hP (off _ (by simp) fun p hp => (hoff p hp).1) (off _ (by simp) fun p hp => (hoff p hp).2.1) (off _ (by simp) fun p hp => (hoff p hp).2.2) F₁ N₂) (fun fl s₂ hc => ?_) fun _ _ e => e
    obtain ⟨g', gT', gB', hc⟩ := hc
    have fin : ConvNext g' env.locals P own (cStep c (signs x)[i + 1]? st) { s with heap := h, toks := tk } s₂ → StepG (fun g => KtsTurn (outer.filterMap (·.frame)) h₀ g ∧ Below A₀ base outer g) env.locals own (P.led st.cnt tc outV phV nO nP P.rest) (ConvJ P (signs x) (cStart x0) (i + 1)) { s with heap := h, toks := tk } (fun v s' => Q (.ret v) s') (fun s' => Q .next s') .next s₂ := by
      rintro ⟨h', tk', m', news', st', ts', tst', tp', tc', outV', phV', nO', nP', rfl, F', N', hr, hO', hP', hm, hS'⟩
      refine ⟨g', h', tk', m', P.led st'.cnt tc' outV' phV' nO' nP' P.rest, rfl, ⟨gT.trans gT', gB'⟩, F', fun p hp => N' p (hm p ?_), rfl, ⟨st', ts', tst', tp', tc', outV', phV', nO', nP', ?_, hO', hP', rfl, hS'⟩⟩
      · simp only [LoopOn.led, List.mem_cons, List.mem_append] at hp ⊢
        grind
      · show (cTake (signs x) (cStart x0) i).bind _ = _
        rw [hst, Option.bind_some, hi]
        exact hr
    cases fl with
    | ret v => exact hc
    | brk => exact hc
    | next => exact fin hc
    | cont => exact fin hc
  · rintro g h' tk m' news' ⟨gT, gB⟩ F' N' hadr ⟨st, ts, tst, tp, tc, outV, phV, nO, nP, hst, hO, hP, rfl, hS⟩
    have em : m' = kstB m' (turnVals st ts tst tp P.consts) := by
      funext y
      rw [kstB_eq hS fun _ => rfl]
    rw [em] at F'
    exact done g st ts tst tp tc outV phV nO nP m' h' tk gT gB (D.turn gT) hst hO hP F' N'
end
def LeaveT (A₀ : Around) (base : Heap) (outer : List Env) (fs : List Addr) (h₀ : Heap) (L : Addr) (m : Str → Option Value) (g : Heap) (R : Result → Shared → Prop) (v : Value) (s' : Shared) : Prop :=
  ∃ g' L' m' news', KtsTurn fs g g' ∧ Fr g' L' s'.heap m' ∧ News g' L' s'.heap news' ∧ ∀ h₀', KtsTurn (outer.filterMap (·.frame)) h₀ h₀' → Fr h₀' L s'.heap m → News h₀' L s'.heap news' → Below A₀ base outer h₀' → R (.ok (.ret v)) s'
section
variable {prog : Program} {w : World} {A₀ A : Around} {s : Shared} {base h₀ : Heap} {outer : List Env} {L a : Addr} {m : Str → Option Value} {cn : Str} {cs : Scope} {ccd : Value} {news : List (Addr × Obj)} {K : Frag} {p : Program} {loose : List Str} {mean : ExcName → Option Value} {mg mb : Str → Option Value}
  {R : Result → Shared → Prop} {name qual : Str} {params : Arguments} {body : List Stmt} {scope : Scope} {dV kV doc pm cdv ct oc : Value} {an od : Option Addr} {osl : Array (Option Value)} {f : Addr} {args : Args} {binds : List (Str × Value)}
theorem code_defT (B : Below A₀ base outer h₀) (F : Fr h₀ L s.heap m) (X₀ : K.In h₀) (N : News h₀ L s.heap news) (T : Top p loose mean mg mb h₀) (D : KtsDicts (outer.filterMap (·.frame)) h₀) (hA : A.frames = some (envOf cn cs L a ccd :: outer)) (hke : cs.kind = .function)
    (ho : K.lookup f = some ⟨oc, od, .func (fnOf name qual params body scope dV kV doc pm an cdv ct), osl⟩) (hcd : codeIn K cdv qual = true) (hroom : A.depth < recursionLimit)
    (hbind : BindsTo s (fnOf name qual params body scope dV kV doc pm an cdv ct) args binds) (hkind : (binds.all fun y => scope.names.lookup y.1 == some .local || scope.names.lookup y.1 == some .cell) = true)
    (hnd : ((cellsFrom 0 scope.names []).map (·.1)).Nodup)
    (h : ∀ g L' h₁ tk cells, Fr h₀ L g m → Fr g L' h₁ (bindL (envOfC qual scope L' f cdv).kindOf binds fun _ => none) → News g L' h₁ (cells ++ news) →
      CellsAre (bindC (envOfC qual scope L' f cdv).kindOf binds fun _ => none) (cellsFrom (L' + 1) scope.names []) cells → Below A base (envOf cn cs L a ccd :: outer) g → K.In g → Top p loose mean mg mb g → KtsDicts ((envOf cn cs L a ccd :: outer).filterMap (·.frame)) g → (∀ p ∈ news, p.1 < L') →
      wpAny (model prog w) (A.deeper (envOfC qual scope L' f cdv)) (execs body (envOfC qual scope L' f cdv))
        (fun fl s' => LeaveT A₀ base outer ((envOf cn cs L a ccd :: outer).filterMap (·.frame)) h₀ L m g R (match fl with | .ret v => v | _ => .none) s')
        (fun e s' => wpAny (model prog w) (A.deeper (envOfC qual scope L' f cdv)) (leaving (envOfC qual scope L' f cdv) e) (fun _ s'' => R (.error e) s'') (fun e' s'' => R (.error e') s'') s')
        { s with heap := h₁, toks := tk })
    (hco : scope.isCoroutine = false) (hgen : scope.isGenerator = false) (hk : scope.kind = .function) : codeAny (model prog w) A (.call (.ref f) args) R s := by
  obtain ⟨oL, es, ep, hLg, hLd, hN, hNs, st, BG⟩ := kts_enter B F N hA hke
  have FG : Fr h₀ L (hideAll s.heap (news.map (·.1))) m := ⟨hN _ hLg, st, F.above⟩
  have X := X₀.keeps F.keep
  refine codeAny_call_function hroom (X _ _ ho) rfl hco hgen rfl (codeRec_of X hcd) (hbind _ _ _ _ ?_)
  refine wpAny_newFunctionEnv_cells hk (kindsX hkind _) fun env' he s' x => ?_
  subst he
  refine ⟨(T.nolimit.keeps F.keep).keeps x.toInCall.keep, codeAny_func ?_⟩
  obtain ⟨h₁, tk, rfl, _⟩ := x.done
  have hk₁ := x.toInCall.keep
  obtain ⟨cells, NC, Y⟩ := Cl.news (h₀ := s.heap) (Nat.le_refl _) fun n c hm => ⟨x.cell n c (lookup_of_mem_nodup (cellsFrom_names scope.names 0 (s.heap.objs.size + 1) [] [] rfl ▸ hnd) hm), x.above n c hm⟩
  refine wpAny_mono (h _ s.heap.objs.size h₁ tk cells FG ⟨x.toInCall.ns, fun b o e => hk₁ b o (of_hideAll _ e), Nat.le_of_eq (hideAll_size _ _)⟩ (fun p hp => ?_) Y BG (X₀.keeps st) (T.keeps st) (fun b hb => ?_) (fun p hp => Heap.lt_size (N p hp).1)) (fun fl s' hl => ?_) fun _ _ y => y
  · rcases List.mem_append.mp hp with hp | hp
    · refine ⟨(NC p hp).1, (NC p hp).2.1, ?_⟩
      cases q : (hideAll s.heap (news.map (·.1))).get? p.1 with
      | none => rfl
      | some o => have := of_hideAll _ q; rw [(NC p hp).2.2] at this; cases this
    · exact ⟨hk₁ _ _ (N p hp).1, Nat.ne_of_lt (Heap.lt_size (N p hp).1), hideAll_none _ (List.mem_map_of_mem hp)⟩
  · rcases kts_mem hb with rfl | hb
    · exact ⟨oL, es, ep, hLg, hLd⟩
    · obtain ⟨o, es', n', ho', hd'⟩ := D b hb
      exact ⟨o, es', n', st b o ho', hd'⟩
  have nL₀ : h₀.get? L = none := kts_self F
  obtain ⟨g', L', m', news', T', F', N', k⟩ := hl
  obtain ⟨sl, hs⟩ := T'.up hLg
  obtain ⟨T₁, S₁⟩ := kts_turn_at (h := s'.heap) (fs := outer.filterMap (·.frame)) (g := h₀)
    (fun b hb => by
      obtain ⟨_, o, ho', _⟩ := B.frames.mem hb
      exact ⟨o, ho'⟩)
    (fun b o e nmem => F'.keep b o (T'.other b o (st b o e) (fun q => by
      rcases kts_mem q with z | z
      · rw [z, nL₀] at e
        cases e
      · exact nmem z)))
    (fun b o e hm => by
      obtain ⟨sl', hs'⟩ := T'.up (st b o e)
      exact ⟨sl', F'.keep _ _ hs'⟩)
  have B₃ : Below A₀ base outer (ktsHeap s'.heap (outer.filterMap (·.frame)) h₀) := ⟨B.stack, fun b o e => T₁.other b o (B.stays b o e) (fun hm => by
    rw [(B.frames.mem hm).1] at e
    cases e), B.frames.of_keeps fun b o e _ => by
    obtain ⟨sl', hs'⟩ := T₁.up e
    exact ⟨_, hs', rfl⟩⟩
  refine k _ T₁ ⟨hNs sl _ (F'.keep _ _ hs), S₁, by rw [T₁.size]; exact F.above⟩ (fun p hp => ⟨(N' p hp).1, fun q => ?_, ?_⟩) B₃
  · have := (N' p hp).2.2; rw [q, hs] at this; cases this
  · refine T₁.none_ _ ?_
    cases q : h₀.get? p.1 with
    | none => rfl
    | some o =>
      obtain ⟨sl', hs'⟩ := T'.up (st _ _ q)
      have := (N' p hp).2.2
      rw [hs'] at this
      cases this
theorem leaveT_ {fs : List Addr} {g g' : Heap} {L' : Addr} {m' : Str → Option Value} {news' : List (Addr × Obj)} {v : Value} {s' : Shared} (T' : KtsTurn fs g g') (F' : Fr g' L' s'.heap m') (N' : News g' L' s'.heap news')
    (k : ∀ h₀', KtsTurn (outer.filterMap (·.frame)) h₀ h₀' → Fr h₀' L s'.heap m → News h₀' L s'.heap news' → Below A₀ base outer h₀' → R (.ok (.ret v)) s') : LeaveT A₀ base outer fs h₀ L m g R v s' := ⟨g', L', m', news', T', F', N', k⟩
theorem leave_raiseSX {M : Model} {A : Around} {E : Value → Shared → Prop} {s' : Shared} {base g g₀ h : Heap} {outer : List Env} {L e : Addr} {m : Str → Option Value} {env : Env} {Q : Unit → Shared → Prop} {news : List (Addr × Obj)} {cls : Value} {vs : List Value}
    (K : Below A base outer g) (hx : Heap.MadeExcOf h s'.heap e cls vs) (F : Fr g L h m) (N : News g L h news) (T0 : KtsTurn (outer.filterMap (·.frame)) g₀ g) (hf : env.frame = some L) (hk : env.scope.kind = .function)
    (hQ : ∀ h' t, RaisedS base g₀ outer e cls t vs news h' → g₀.UpToSlots h' → Q () { s' with heap := h' }) :
    wpAny M (A.deeper env) (leaving env (.ref e)) Q E s' := by
  have K' := pushX K F hf hk
  have hin : ∀ v ∈ env :: outer, ∀ b, v.frame = some b → b ∈ (env :: outer).filterMap (·.frame) := fun v hv b hb => List.mem_filterMap.mpr ⟨v, hv, hb⟩
  have mem : ∀ b, b ∈ (env :: outer).filterMap (·.frame) → b = L ∨ b ∈ outer.filterMap (·.frame) := fun b hm => by
    obtain ⟨v, hv, hvf⟩ := List.mem_filterMap.mp hm
    rcases List.mem_cons.mp hv with rfl | hv
    · exact .inl (Option.some.inj (hvf.symm.trans hf))
    · exact .inr (List.mem_filterMap.mpr ⟨v, hv, hvf⟩)
  have st : base.StaysIn (hideAll h ((env :: outer).filterMap (·.frame))) := fun b o q => hideAll_get _ (K'.stays b o q) fun hm => by
    rw [(K'.frames.mem hm).1] at q; cases q
  have sg : ∀ b o, g₀.get? b = some o → b ∉ outer.filterMap (·.frame) → (hideAll h ((env :: outer).filterMap (·.frame))).get? b = some o := fun b o q nm => by
    have q1 := T0.other b o q nm
    refine hideAll_get _ (F.keep b o q1) fun hm => ?_
    rcases mem b hm with z | z
    · rw [z, kts_self F] at q1
      cases q1
    · exact nm z
  have none0 : ∀ b, g.get? b = none → g₀.get? b = none := fun b e => by
    cases q : g₀.get? b with
    | none => rfl
    | some o =>
      obtain ⟨sl, hs⟩ := T0.up q
      rw [e] at hs
      cases hs
  have hl : ∀ q ∈ news, (hideAll h ((env :: outer).filterMap (·.frame))).get? q.1 = some q.2 ∧ g₀.get? q.1 = none ∧ base.get? q.1 = none := fun q hq => by
    refine ⟨hideAll_get _ (N q hq).1 fun hm => ?_, none0 _ (N q hq).2.2, fresh_of_stays K.stays (N q hq).2.2⟩
    rcases mem _ hm with z | z
    · exact (N q hq).2.1 z
    · obtain ⟨o, ho, _⟩ := (K.frames.mem z).2
      rw [(N q hq).2.2] at ho; cases ho
  have up0 : g₀.UpToSlots g := fun b o e _ => T0.up e
  exact wpAny_leaves_madeW K'.stack hf (fun b o q => of_hideAll _ q) (funFrames_hide K'.frames hin) hx fun h' t x1 x2 x3 x4 =>
    hQ h' t ⟨⟨_, st, sg, hl, x1, x3⟩, x2⟩ (up0.trans (((Heap.UpToSlots.of_keeps F.keep).trans (Heap.UpToSlots.of_keeps hx.keeps)).trans x4))
end
def cellO (v : Value) : Obj := { cls := .type "cell", data := .cell (some v) }
structure ArgsOk (prog : Program) (w : World) (d : Addr) (od : Obj) (val : Str → Value) (names : List Str) : Prop where
  get : ∀ (A : Around) (E : Value → Shared → Prop) (s : Shared) (Q : Value → Shared → Prop) (p : Str) (tp : Tok), A.handled = none → s.heap.get? d = some od → p ∈ names → (∀ h' tk, (∀ b o, s.heap.get? b = some o → h'.get? b = some o) → Q (val p) { s with heap := h', toks := tk }) →
    ∀ p1 p2, wpAny (model prog w) A (subscriptTail (.Name (Str.ofString "args") p1) (.Name (Str.ofString "p") p2) (.ref d) (.str p tp)) Q E s
section
variable {prog : Program} {w : World} {A A₀ : Around} {E : Value → Shared → Prop} {s : Shared} {base h₀ : Heap} {outer : List Env} {L : Addr} {m mg mb : Str → Option Value} {news : List (Addr × Obj)} {p : Program} {loose : List Str} {mean : ExcName → Option Value}
theorem gen_code {M : Model} {g : Obj → List (Addr × Obj)} {env : Env} {ps : Array Value} {news0 : List (Addr × Obj)} {pos : Pos} {qn : Str} {scope : Scope} {Q : Value → Shared → Prop} {c P : Addr}
    (F : Fr h₀ L s.heap m) (N : News h₀ L s.heap news) (C : CodeHd h₀ c P) (U : UpdF P (tabObj ps) news g) (hS : TabS ps news0) (hl : pos.line ≠ 63) (hc : env.code = .ref c)
    (h : ∀ code ps' h' tk, TabS ps' news0 → Fr h₀ L h' m → News h₀ L h' (g (tabObj ps')) → s.heap.objs.size ≤ h'.objs.size → (∀ b o, b ≠ P → s.heap.get? b = some o → h'.get? b = some o) → Q code { s with heap := h', toks := tk }) :
    wpAny M A (genexprCode env pos qn scope) Q E s := by
  obtain ⟨own, rest, rfl, hgr, h1, h2⟩ := U.split
  have hm := N (P, tabObj ps) (List.mem_append_right _ (.head _))
  have C' := C.keeps F.keep
  cases hnf : codeAmong pos ps.toList with
  | none =>
    refine wpAny_genexprCodeX hc (C'.code hm.1 hS.triples) (C'.tab hm.1) hnf fun c' h' tk hx hge hlt _ _ htb _ => ?_
    have old : ∀ b o, h₀.get? b = some o → h'.get? b = some o := fun b o e => hx b o (fun q => by rw [q, hm.2.2] at e; cases e) (F.keep b o e)
    refine h _ _ h' tk (hS.snocG (c := c') hl) ⟨F.ns.extBut hx hm.2.1.symm, old, F.above⟩ (fun q hq => ?_) (Nat.le_trans hge (Nat.le_of_lt hlt)) hx
    rw [hgr] at hq
    rcases List.mem_append.mp hq with hq | hq
    · have n := N q (List.mem_append_left _ hq)
      exact ⟨hx _ _ (h1 q hq) n.1, n.2⟩
    · rcases List.mem_cons.mp hq with rfl | hq
      · exact ⟨htb.2, hm.2⟩
      · have n := N q (List.mem_append_right _ (.tail _ hq))
        exact ⟨hx _ _ (h2 q hq) n.1, n.2⟩
  | some cv =>
    obtain ⟨o, vs, file, tf, flags, tg, inF, text, tt, op, ho, hd, h11, _, _, _, _, hop, hpd, _, _⟩ := id (C'.code hm.1 hS.triples)
    unfold genexprCode codeAt
    rw [hc, if_neg (show ¬ ((Value.ref c == Value.none) = true) from Bool.false_ne_true)]
    refine wpAny_bind (wpAny_fieldsOf ho hd ?_)
    rw [h11]
    refine wpAny_bind (wpAny_fieldsOf hop hpd ?_)
    rw [hnf]
    refine wpAny_pure (h cv ps s.heap s.toks hS F ?_ (Nat.le_refl _) fun _ _ _ e => e)
    rw [hgr]
    exact N
def GenReady (prog : Program) (w : World) (A : Around) (h₀ : Heap) (L : Addr) (news : List (Addr × Obj)) (vs : List Value) (a : Addr) (s : Shared) : Prop :=
  ∃ fp wr g St F n, WalksS prog w A.in4 a fp wr (GenOnlyQ g) n F St ∧ St 0 s ∧ (∀ i s', St i s' → s'.TypeIs (.ref a) "generator") ∧ a ∈ fp ∧ (∀ b ∈ fp, b < s.heap.objs.size) ∧ L ∉ wr ∧ (∀ b ∈ wr, h₀.get? b = none) ∧ (∀ q ∈ news, q.1 ∉ wr) ∧ (∀ acc, ItemsOf F acc n → acc = vs.toArray) ∧ n ≤ 200000
theorem gen_tuple {a : Addr} {vs : List Value} {Q : Value → Shared → Prop} (F : Fr h₀ L s.heap m) (N : News h₀ L s.heap news) (G : GenReady prog w A h₀ L news vs a s)
    (h : ∀ D s', (AllBare s.gens → AllBare s'.gens) → s'.drawn = s.drawn → s'.os = s.os → Fr h₀ L s'.heap m → News h₀ L s'.heap ((D, { cls := .type "tuple", data := .seq vs.toArray }) :: news) → (∀ q ∈ news, @LT.lt Nat _ q.1 D) → Q (.ref D) s') :
    wpAny (model prog w) A (call (.type "tuple") [.ref a]) Q E s := by
  obtain ⟨fp, wr, g, St, Fi, n, W, hst, hT, hI, hfp, hL, hwr, hnw, hacc, hn⟩ := G
  refine call_tuple_gen (hsz := by rw [sizeLine_eq]; omega) W.in4_3 hT hst hfp hI fun s' acc hm hac => ?_
  rw [hacc acc hac]
  have F' : Fr h₀ L s'.heap m := ⟨F.ns.at' fun o e => hm.heap L o hL e, fun b o e => hm.heap b o (fun hb => by rw [hwr b hb] at e; cases e) (F.keep b o e), F.above⟩
  have N' : News h₀ L s'.heap news := fun q hq => ⟨hm.heap _ _ (hnw q hq) (N q hq).1, (N q hq).2⟩
  have hbare : AllBare s.gens → AllBare s'.gens := fun hb => AllBare.movedS hb hm
  refine h s'.heap.objs.size { s' with heap := s'.heap.push { cls := .type "tuple", data := .seq vs.toArray } } hbare hm.drawn hm.os (F'.push _) ?_ fun q hq => Heap.lt_size (N' q hq).1
  have N1 := News.push F' N' { cls := .type "tuple", data := .seq vs.toArray }
  exact N1
theorem conv_gen {cn : Str} {cs : Scope} {a cA : Addr} {ccd : Value} {cl : List (Str × Addr)} {g : Obj → List (Addr × Obj)} {ps : Array Value} {news0 : List (Addr × Obj)} {pos p1 p2 p3 px pl : Pos} {scope : Scope} {Q : Value → Shared → Prop} {c P d lP : Addr} {od oc : Obj} {val : Str → Value} {phV : List Value} {ph names : List Str} {nP : Nat}
    (F : Fr h₀ L s.heap m) (N : News h₀ L s.heap news) (T : Top p loose mean mg mb h₀) (C : CodeHd h₀ c P) (U : UpdF P (tabObj ps) news g) (hS : TabS ps news0) (hl : pos.line ≠ 63) (hcd : ccd = .ref c) (hh : A.handled = none) (hroom : A.depth < recursionLimit)
    (hv : m (Str.ofString "placeholders") = some (.ref lP)) (hlP : ∀ q, (lP, listOf phV.toArray nP) ∈ g q) (hcA : ∀ q, (cA, oc) ∈ g q) (hoc : oc.data = .cell (some (.ref d))) (hd : ∀ q, (d, od) ∈ g q)
    (hP : StrsAre phV ph) (hA : ArgsOk prog w d od val names) (hsub : ∀ x ∈ ph, x ∈ names) (hz : ph.length ≤ 200000)
    (hco : scope.isCoroutine = false) (hclos : closureFor scope (envX cn cs L a ccd cl) = pure [(Str.ofString "args", cA)]) (hcell : ∀ y ∈ scope.names, y.2 ≠ .cell) (h0 : scope.names.lookup (".0" : Str) = some NameKind.local)
    (hx : scope.names.lookup (Str.ofString "p") = some .local) (hxa : scope.names.lookup (Str.ofString "args") = some .free) (hkind : scope.kind = .function)
    (hk : cs.kind = .function) (hpk : (envX cn cs L a ccd cl).kindOf (Str.ofString "placeholders") = some .local)
    (h : ∀ a' ps' s', TabS ps' news0 → (AllBare s.gens → AllBare s'.gens) → s'.drawn = s.drawn → s'.os = s.os → Fr h₀ L s'.heap m → News h₀ L s'.heap (g (tabObj ps')) → GenReady prog w A h₀ L (g (tabObj ps')) (ph.map val) a' s' → Q (.ref a') s') :
    wpAny (model prog w) A (eval (.GeneratorExp (.Subscript (.Name (Str.ofString "args") p1) (.Name (Str.ofString "p") p2) p3) [⟨.Name (Str.ofString "p") px, .Name (Str.ofString "placeholders") pl, [], 0⟩] scope pos) (envX cn cs L a ccd cl)) Q E s := by
  obtain ⟨bm, ob, b1, b2, b3, b4, b5, b6⟩ := T.bmain
  obtain ⟨own, rest, rfl, hgr, u1, u2⟩ := U.split
  have hself : g (tabObj ps) = own ++ (P, tabObj ps) :: rest := hgr _
  have nlP := N _ (hself ▸ hlP (tabObj ps))
  refine wpAny_GeneratorExp_walksQD hh hco hclos hcell h0 hx hkind hroom ?_ (by intro x; rfl)
  refine nameX_L F hv ?_ hk hpk
  have hL1 : s.heap.IsList lP phV.toArray := PySem.IsL.isList (n := nP) nlP.1
  refine wpAny_pyIter_list hL1 ?_
  have Fp := F.push { cls := .type "list_iterator", data := .fields #[.ref lP, .int 0 0] }
  have Np : News h₀ L (s.heap.push { cls := .type "list_iterator", data := .fields #[.ref lP, .int 0 0] }) (own ++ (P, tabObj ps) :: rest) := N.grown fun _ _ e => Heap.get?_push_of_some _ e
  refine ⟨T.nolimit.keeps Fp.keep, ?_⟩
  refine gen_code (s := { s with heap := s.heap.push { cls := .type "list_iterator", data := .fields #[.ref lP, .int 0 0] } }) Fp Np C U hS hl (by exact hcd) fun code ps' h' tk hS' F' N' hsz hk' => ?_
  have hgs := T.g.keeps F'.keep
  refine wpAny_builtinsFor hgs b1 b2 (F'.keep _ _ b3) b4 b5 b6 ?_
  have nP' := N _ (List.mem_append_right own (List.Mem.head rest))
  have hIP : s.heap.objs.size ≠ P := Nat.ne_of_gt (Heap.lt_size nP'.1)
  have hlPI : lP ≠ s.heap.objs.size := Nat.ne_of_lt (Heap.lt_size nlP.1)
  have hit : h'.IsListIter s.heap.objs.size lP 0 := ⟨_, hk' _ _ hIP (Heap.get?_push_size _ rfl), rfl, rfl⟩
  have hli : h'.IsList lP phV.toArray := PySem.IsL.isList (n := nP) (N' _ (hlP _)).1
  have hsz1 : s.heap.objs.size + 1 ≤ h'.objs.size := by rw [Heap.size_push] at hsz; exact hsz
  have hstat : cStatics < s.heap.objs.size := let ⟨_, hn, _⟩ := T.nolimit.keeps F.keep; hn.lt
  refine ⟨s.heap.objs.size, [s.heap.objs.size, lP], [s.heap.objs.size], phV.toArray.size, _, _, fun _ => true, fun i y => ∃ x, ph[i]? = some x ∧ y = val x, rfl, (fun A' hA' => Walks.list hA' _ _ hlPI phV.toArray), ⟨hit, hli⟩, ?_, T.nolimit.keeps F'.keep, ?_, fun href hhref => ⟨?_, ?_⟩, ?_⟩
  · intro b hb
    rcases List.mem_cons.mp hb with rfl | hb
    · exact hsz1
    · rw [List.mem_singleton.mp hb]; exact Heap.lt_size (N' _ (hlP _)).1
  · intro hb
    exact Nat.ne_of_lt hstat (List.mem_singleton.mp hb)
  · intro A' E' i v s₂ m₂ _ _ _ _ _ _ _
    exact wpAny_pure ⟨rfl, _, _, rfl, fun _ _ e => e⟩
  · intro A' E' i v s₂ m₂ hA' _ _ hPi _ hn hm hkp
    have hi : i < ph.length := by
      have := (Array.getElem?_eq_some_iff.mp hPi).1
      have e := hP.length
      simp at this
      omega
    obtain ⟨tv, ev⟩ := strs_get hP i (by rw [hP.length]; exact hi) hi
    have ev2 : v = .str ph[i] tv := by
      have := (Array.getElem?_eq_some_iff.mp hPi).2
      rw [← this]
      simpa using ev
    subst ev2
    have up : ∀ b o, b ≠ s.heap.objs.size → h'.get? b = some o → s₂.heap.get? b = some o := fun b o hb e => hkp b (List.mem_range.mpr (Heap.lt_size e)) (fun hm => hb (List.mem_singleton.mp hm)) o (hhref b o e)
    have nA := N' _ (hcA (tabObj ps'))
    have nA0 := N _ (hself ▸ hcA (tabObj ps))
    have nd := N' _ (hd (tabObj ps'))
    have nd0 := N _ (hself ▸ hd (tabObj ps))
    refine Subscript_ ?_
    refine wpAny_Name (wpAny_loadName_free (c := cA) (v := .ref d) hkind hxa rfl ⟨oc, up _ _ (Nat.ne_of_lt (Heap.lt_size nA0.1)) nA.1, hoc⟩ ?_) (by decide)
    refine wpAny_Name (wpAny_loadName_local hkind hx hn hm ?_) (by decide)
    refine hA.get A' E' s₂ _ _ tv hA' (up _ _ (Nat.ne_of_lt (Heap.lt_size nd0.1)) nd.1) (hsub _ (List.getElem_mem hi)) (fun h₃ tk₃ hk₃ => ?_) _ _
    exact ⟨⟨ph[i], by simp, rfl⟩, h₃, tk₃, rfl, hk₃⟩
  · intro a' h₅ tk₅ gs hgb hag hsz₅ hk₅ W hat
    have F₅ : Fr h₀ L h₅ m := F'.keeps hk₅
    refine h a' ps' _ hS' (fun hb => AllBare.push hb hgb) rfl rfl F₅ (N'.grown fun _ _ e => hk₅ _ _ e) ⟨_, _, _, _, _, _, W, hat, (fun i s' st => st.1.typeIs), List.mem_cons_self, ?_, ?_, ?_, ?_, ?_, ?_⟩
    · intro b hb
      show b < h₅.objs.size
      rw [hsz₅]
      rcases List.mem_cons.mp hb with rfl | hb
      · exact Nat.lt_succ_self _
      · rcases List.mem_cons.mp hb with rfl | hb
        · exact Nat.lt_succ_of_lt hag
        · exact Nat.lt_succ_of_lt (Nat.lt_trans (List.mem_range.mp hb) hag)
    · intro hb
      have hLs := F.ns.lt
      rcases List.mem_cons.mp hb with e | hb
      · exact Nat.lt_irrefl _ (e ▸ Nat.lt_of_lt_of_le hLs (Nat.le_of_succ_le hsz1))
      · exact Nat.ne_of_lt hLs (List.mem_singleton.mp hb)
    · intro b hb
      refine Heap.get?_none_of_le (Nat.le_trans F.above (Nat.le_trans (Nat.le_of_lt F.ns.lt) ?_))
      rcases List.mem_cons.mp hb with rfl | hb
      · exact Nat.le_of_succ_le hsz1
      · rw [List.mem_singleton.mp hb]; exact Nat.le_refl _
    · intro q hq hb
      have hq1 : q.1 < s.heap.objs.size := by
        rw [hgr] at hq
        rcases List.mem_append.mp hq with hq | hq
        · exact Heap.lt_size (N q (List.mem_append_left _ hq)).1
        · rcases List.mem_cons.mp hq with rfl | hq
          · exact Heap.lt_size nP'.1
          · exact Heap.lt_size (N q (List.mem_append_right _ (.tail _ hq))).1
      rcases List.mem_cons.mp hb with e | hb
      · exact Nat.lt_irrefl _ (Nat.lt_of_lt_of_le (e ▸ hq1) (Nat.le_of_succ_le hsz1))
      · exact Nat.ne_of_lt hq1 (List.mem_singleton.mp hb)
    · intro acc hac
      have hpass : passing (fun _ => true) phV.toArray.size 0 = List.range ph.length := by
        unfold passing
        simp [hP.length]
      rw [hpass] at hac
      obtain ⟨hac1, hac2⟩ := hac
      apply Array.ext
      · rw [hac1]; simp
      · intro i hi1 hi2
        obtain ⟨j, hj, x, hx2, e⟩ := hac2 i acc[i] (by simp [hi1])
        have hj2 : j = i := by
          have hi3 : i < ph.length := by rw [hac1] at hi1; simpa using hi1
          rw [List.getElem?_range hi3] at hj
          exact (Option.some.inj hj).symm
        subst hj2
        rw [e]
        have := (List.getElem?_eq_some_iff.mp hx2).2
        simp [this]
    · have hpass : passing (fun _ => true) phV.toArray.size 0 = List.range ph.length := by
        unfold passing
        rw [List.drop_zero, List.filter_eq_self.mpr (fun _ _ => rfl)]
        simp [hP.length]
      rw [hpass, List.length_range]
      exact hz
end
theorem News.sub1 {h₀ h : Heap} {L : Addr} {p : Addr × Obj} {news : List (Addr × Obj)} (N : News h₀ L h (p :: news)) : News h₀ L h news := fun q hq => N q (.tail _ hq)
theorem sign_beq (b k : Nat) : ((⟨#[b]⟩ : Str) == ⟨#[k]⟩) = decide (b = k) := by
  by_cases h : b = k
  · subst h; simp
  · rw [decide_eq_false h]
    rw [beq_eq_false_iff_ne]
    intro e
    exact h (by simpa using e)
section
variable {prog : Program} {w : World} {A : Around} {E : Value → Shared → Prop} {s : Shared}
theorem conv_notin {o : Option Str} {c : Str} {t u : Tok} {Q : Value → Shared → Prop} (hcol : (c == Str.ofString ":") = true → ∃ b, o = some ⟨#[b]⟩) (hc : (c == Str.ofString ":") = true) (h : Q (.bool (notCE o)) s) :
    wpAny (model prog w) A (compareOp .NotIn (optVal o t) (.str (Str.ofString ":=") u)) Q E s := by
  obtain ⟨b, rfl⟩ := hcol hc
  refine notIn_str ?_
  rw [StrLaws.found_one]
  have e : decide (b ∈ (Str.ofString ":=").cps.toList) = (b == 58 || b == 61) := by
    rw [show (Str.ofString ":=").cps.toList = [58, 61] from by decide +kernel]
    simp
    rfl
  have e2 : notCE (some ⟨#[b]⟩) = !(b == 58 || b == 61) := by
    unfold notCE
    rw [show Str.ofString ":" = (⟨#[58]⟩ : Str) from by decide +kernel, show Str.ofString "=" = (⟨#[61]⟩ : Str) from by decide +kernel]
    show (!((⟨#[b]⟩ : Str) == ⟨#[58]⟩ || (⟨#[b]⟩ : Str) == ⟨#[61]⟩)) = _
    rw [sign_beq, sign_beq]
    rfl
  rw [e, ← e2]
  exact h
theorem conv_inPar {c : Str} {t u : Tok} {Q : Value → Shared → Prop} (hc : ∃ b, c = ⟨#[b]⟩) (h : Q (.bool (c == Str.ofString "(" || c == Str.ofString ")")) s) :
    wpAny (model prog w) A (compareOp .In (.str c t) (.str (Str.ofString "()") u)) Q E s := by
  obtain ⟨b, rfl⟩ := hc
  refine in_str ?_
  rw [StrLaws.found_one]
  have e : decide (b ∈ (Str.ofString "()").cps.toList) = (b == 40 || b == 41) := by
    rw [show (Str.ofString "()").cps.toList = [40, 41] from by decide +kernel]
    simp
    rfl
  have e2 : ((⟨#[b]⟩ : Str) == Str.ofString "(" || (⟨#[b]⟩ : Str) == Str.ofString ")") = (b == 40 || b == 41) := by
    rw [show Str.ofString "(" = (⟨#[40]⟩ : Str) from by decide +kernel, show Str.ofString ")" = (⟨#[41]⟩ : Str) from by decide +kernel]
    rw [sign_beq, sign_beq]
    rfl
  rw [e, ← e2]
  exact h
end
theorem sb_qmark_qmark : (Str.ofString "qmark" == Str.ofString "qmark") = true := by decide +kernel
theorem sb_qmark_numeric : (Str.ofString "qmark" == Str.ofString "numeric") = false := by decide +kernel
theorem sb_qmark_format : (Str.ofString "qmark" == Str.ofString "format") = false := by decide +kernel
theorem sb_qmark_named : (Str.ofString "qmark" == Str.ofString "named") = false := by decide +kernel
theorem sb_qmark_pyformat : (Str.ofString "qmark" == Str.ofString "pyformat") = false := by decide +kernel
theorem sb_numeric_qmark : (Str.ofString "numeric" == Str.ofString "qmark") = false := by decide +kernel
theorem sb_numeric_numeric : (Str.ofString "numeric" == Str.ofString "numeric") = true := by decide +kernel
theorem sb_numeric_format : (Str.ofString "numeric" == Str.ofString "format") = false := by decide +kernel
theorem sb_numeric_named : (Str.ofString "numeric" == Str.ofString "named") = false := by decide +kernel
theorem sb_numeric_pyformat : (Str.ofString "numeric" == Str.ofString "pyformat") = false := by decide +kernel
theorem sb_format_qmark : (Str.ofString "format" == Str.ofString "qmark") = false := by decide +kernel
theorem sb_format_numeric : (Str.ofString "format" == Str.ofString "numeric") = false := by decide +kernel
theorem sb_format_format : (Str.ofString "format" == Str.ofString "format") = true := by decide +kernel
theorem sb_format_named : (Str.ofString "format" == Str.ofString "named") = false := by decide +kernel
theorem sb_format_pyformat : (Str.ofString "format" == Str.ofString "pyformat") = false := by decide +kernel
theorem sb_named_qmark : (Str.ofString "named" == Str.ofString "qmark") = false := by decide +kernel
theorem sb_named_numeric : (Str.ofString "named" == Str.ofString "numeric") = false := by decide +kernel
theorem sb_named_format : (Str.ofString "named" == Str.ofString "format") = false := by decide +kernel
theorem sb_named_named : (Str.ofString "named" == Str.ofString "named") = true := by decide +kernel
theorem sb_named_pyformat : (Str.ofString "named" == Str.ofString "pyformat") = false := by decide +kernel
theorem sb_pyformat_qmark : (Str.ofString "pyformat" == Str.ofString "qmark") = false := by decide +kernel
theorem sb_pyformat_numeric : (Str.ofString "pyformat" == Str.ofString "numeric") = false := by decide +kernel
theorem sb_pyformat_format : (Str.ofString "pyformat" == Str.ofString "format") = false := by decide +kernel
theorem sb_pyformat_named : (Str.ofString "pyformat" == Str.ofString "named") = false := by decide +kernel
theorem sb_pyformat_pyformat : (Str.ofString "pyformat" == Str.ofString "pyformat") = true := by decide +kernel
theorem conv_raise {prog : Program} {w : World} {A : Around} {E : Value → Shared → Prop} {s : Shared} {h₀ : Heap} {mg : Str → Option Value} {env : Env} {x msg : Str} {C : Addr} {B newId initId : String} {bm : List Value} {np cpos pos pc : Pos} {kk : Nat} {Q : Flow → Shared → Prop}
    (O : OwnCls x C bm newId mg h₀) (FB : ExcBaseFacts B newId initId bm) (hh : A.handled = none) (keep : ∀ b o, h₀.get? b = some o → s.heap.get? b = some o)
    (hn : ∀ Q' : Value → Shared → Prop, Q' (.ref C) s → wpAny (model prog w) A (eval (.Name x np) env) Q' E s)
    (h : ∀ h' e t, Heap.MadeExcOf s.heap h' e (.ref C) [.str msg t] → E (.ref e) { s with heap := h', toks := s.toks + 1 }) :
    wpAny (model prog w) A (exec (.Raise (some (.Call (.Name x np) [.Constant (.str msg) kk pc] [] cpos)) none pos) env) Q E s := by
  obtain ⟨tl, N, nm, q, bs, hdct, sn, sub, ab, col, dd, k0, k1, k2, k3, k5, mN, hC, hN, hni, T⟩ := O.obj
  refine wpAny_Raise_call_subT (C := C) (nm := nm) (q := q) (N := N) (bs := bs) (bm := tl) (hdct := hdct) (sn := sn) (sub := sub) (ab := ab) (col := col) (dd := dd) (k0 := k0) (k1 := k1) (k2 := k2) (k3 := k3) (k5 := k5)
    FB (mN := mN) (T.hasType FB.hasBase) hh rfl hni (hn _ ⟨rfl, ?_⟩)
  refine Calls.evalArgs_plain (spliced_more (wpAny_Constant_str (spliced_none ⟨rfl, by show 1 ≤ sizeLine; decide +kernel, keep _ _ hC, hN.keeps keep, T.keeps keep, ?_⟩)))
  intro h' e hx
  exact h h' e _ hx
theorem leave_raiseX {M : Model} {A : Around} {E : Value → Shared → Prop} {s' : Shared} {base g h : Heap} {outer : List Env} {L e : Addr} {m : Str → Option Value} {env : Env} {Q : Unit → Shared → Prop} {news : List (Addr × Obj)} {cls : Value} {vs : List Value}
    (K : Below A base outer g) (hx : Heap.MadeExcOf h s'.heap e cls vs) (F : Fr g L h m) (N : News g L h news) (hf : env.frame = some L) (hk : env.scope.kind = .function)
    (hQ : ∀ h' t, RaisedK base outer e cls t vs news h' → g.UpToSlots h' → Q () { s' with heap := h' }) :
    wpAny M (A.deeper env) (leaving env (.ref e)) Q E s' := by
  have B1 := pushX K F hf hk
  let fs := (env :: outer).filterMap (·.frame)
  have inF : ∀ v ∈ env :: outer, ∀ b, v.frame = some b → b ∈ fs := fun v hv b hb => List.mem_filterMap.mpr ⟨v, hv, hb⟩
  have keepB : base.StaysIn (hideAll h fs) := by
    intro b o q
    refine hideAll_get _ (B1.stays b o q) fun hm => ?_
    have z := (B1.frames.mem hm).1
    rw [q] at z
    cases z
  have keepN : ∀ q ∈ news, (hideAll h fs).get? q.1 = some q.2 ∧ base.get? q.1 = none := by
    intro q hq
    have n := N q hq
    refine ⟨hideAll_get _ n.1 fun hm => ?_, fresh_of_stays K.stays n.2.2⟩
    obtain ⟨v, hv, hvf⟩ := List.mem_filterMap.mp hm
    cases hv with
    | head => exact n.2.1 (Option.some.inj (hf.symm.trans hvf)).symm
    | tail _ hv =>
      obtain ⟨o, ho, _⟩ := (K.frames.mem (List.mem_filterMap.mpr ⟨v, hv, hvf⟩)).2
      rw [n.2.2] at ho
      cases ho
  refine wpAny_leaves_madeW B1.stack hf (fun b o q => of_hideAll _ q) (funFrames_hide B1.frames inF) hx fun h' t a1 a2 a3 a4 => ?_
  exact hQ h' t ⟨⟨_, keepB, keepN, a1, a3⟩, a2⟩ (((Heap.UpToSlots.of_keeps F.keep).trans (Heap.UpToSlots.of_keeps hx.keeps)).trans a4)
theorem conv_join2 {M : Model} {A : Around} {E : Value → Shared → Prop} {s : Shared} {env : Env} {test body orelse : PySem.Expr} {pos : Pos} {Q : Value → Shared → Prop} {l : List Str} {i : Nat} {c : Str} (_hi : l[i]? = some c)
    (h : wpAny M A (isTrue test env (eval test env)) (fun b s₂ => if b then wpAny M A (eval body env) (NextIs l i s) E s₂ else wpAny M A (eval orelse env) (NextIs l i s) E s₂) E s)
    (h0 : l[i + 1]? = none → ∀ tk, Q .none { s with toks := tk }) (h1 : ∀ b, l[i + 1]? = some b → ∀ t' tk, Q (.str b t') { s with toks := tk }) : wpAny M A (eval (.IfExp test body orelse pos) env) Q E s :=
  wpAny_mono (IfExp_ h) (fun v s' hv => by
    obtain ⟨tk, t', rfl, rfl⟩ := hv
    cases e : l[i + 1]? with
    | none => exact h0 e tk
    | some b => exact h1 b e t' tk) fun _ _ e => e
theorem strs_last {vs : List Value} {xs : List Str} (h : StrsAre vs xs) (hne : xs ≠ []) : ∃ vi pi pl tl, vs = vi ++ [.str pl tl] ∧ xs = pi ++ [pl] ∧ StrsAre vi pi := by
  induction h with
  | nil => exact absurd rfl hne
  | cons a t r ih =>
    rename_i vs' xs'
    by_cases e : xs' = []
    · subst e
      cases r
      exact ⟨[], [], a, t, rfl, rfl, .nil⟩
    · obtain ⟨vi, pi, pl, tl, rfl, rfl, k⟩ := ih e
      exact ⟨.str a t :: vi, a :: pi, pl, tl, rfl, rfl, .cons a t k⟩
theorem phAdd_snoc {pi : List Str} {pl c : Str} : phAdd (pi ++ [pl]) c = pi ++ [pl ++ c] := by simp [phAdd]
theorem phEnd_in {x : Str} {n0 cnt : Int} {qe pe : Bool} {pi out : List Str} {pl : Str} {prev : Option Str} (h : pl ∈ pi) :
    phEnd ⟨x, n0, qe, pe, pi ++ [pl], out, cnt, prev⟩ = ⟨x, 0, qe, pe, pi, out ++ [dollar ((pi.idxOf pl : Int) + 1)], cnt, prev⟩ := by
  simp [phEnd, h]
theorem phEnd_out {x : Str} {n0 cnt : Int} {qe pe : Bool} {pi out : List Str} {pl : Str} {prev : Option Str} (h : pl ∉ pi) :
    phEnd ⟨x, n0, qe, pe, pi ++ [pl], out, cnt, prev⟩ = ⟨x, 0, qe, pe, pi ++ [pl], out ++ [dollar ((pi.length : Int) + 1)], cnt, prev⟩ := by
  simp [phEnd, h]
structure CInv (x : Str) (i : Nat) (st : CS) : Prop where
  sty : st.style = x ∨ (x = Str.ofString "pyformat" ∧ st.style = Str.ofString "format")
  sta : st.state = 0 ∨ st.state = 1 ∨ st.state = 2 ∨ st.state = 3 ∨ st.state = 4 ∨ st.state = 5 ∨ st.state = 6
  out : st.out.length ≤ i
  ph : st.ph.length ≤ i
  c1 : 1 ≤ st.cnt
  c2 : st.cnt ≤ i + 1
  phl : ∀ p ∈ st.ph, p.length ≤ i
  phc : ∀ p ∈ st.ph, ∀ b ∈ p.cps.toList, b < 16 ^ 8
  st4 : st.state = 4 → st.style = Str.ofString "named" ∨ st.style = Str.ofString "pyformat" ∨ st.style = Str.ofString "format"
  ne4 : st.state = 4 → st.style ≠ Str.ofString "format" → st.ph ≠ []
theorem CInv.start (x : Str) : CInv x 0 (cStart x) :=
  ⟨.inl rfl, .inl rfl, Nat.le_refl _, Nat.le_refl _, Int.le_refl _, Int.le_refl _, (fun _ h => nomatch h), (fun _ h => nomatch h), (fun h => by cases h), fun h => by cases h⟩
theorem CInv.same {x : Str} {i : Nat} {st st' : CS} (h : CInv x i st) (e1 : st'.style = st.style) (e2 : st'.state = st.state ∨ st'.state = 0) (e3 : st'.out.length ≤ st.out.length + 1) (e4 : st'.ph = st.ph) (e5 : st'.cnt = st.cnt) : CInv x (i + 1) st' := by
  refine ⟨e1 ▸ h.sty, ?_, by have := h.out; omega, by rw [e4]; have := h.ph; omega, by rw [e5]; exact h.c1, by rw [e5]; have := h.c2; push_cast; omega, ?_, by rw [e4]; exact h.phc, ?_, ?_⟩
  · rcases e2 with e | e
    · rw [e]; exact h.sta
    · exact .inl e
  · rw [e4]; intro p hp; have := h.phl p hp; omega
  · intro e
    rcases e2 with e' | e'
    · rw [e1]; exact h.st4 (e' ▸ e)
    · rw [e'] at e; cases e
  · intro e
    rcases e2 with e' | e'
    · rw [e1, e4]; exact h.ne4 (e' ▸ e)
    · rw [e'] at e; cases e
theorem CInv.state {x : Str} {i : Nat} {st st' : CS} (h : CInv x i st) (e1 : st'.style = st.style) (e2 : st'.state ≠ 4) (e2' : st'.state = 0 ∨ st'.state = 1 ∨ st'.state = 2 ∨ st'.state = 3 ∨ st'.state = 4 ∨ st'.state = 5 ∨ st'.state = 6) (e3 : st'.out.length ≤ st.out.length + 1) (e4 : st'.ph = st.ph) (e5 : st'.cnt = st.cnt ∨ st'.cnt = st.cnt + 1) : CInv x (i + 1) st' := by
  refine ⟨e1 ▸ h.sty, e2', by have := h.out; omega, by rw [e4]; have := h.ph; omega, ?_, ?_, ?_, by rw [e4]; exact h.phc, fun e => absurd e e2, fun e => absurd e e2⟩
  · have := h.c1; rcases e5 with e | e <;> omega
  · have := h.c2; push_cast; rcases e5 with e | e <;> omega
  · rw [e4]; intro p hp; have := h.phl p hp; omega
theorem signs_chars {q : Str} {i : Nat} {c : Str} (h : (signs q)[i]? = some c) : ∃ b, c = ⟨#[b]⟩ ∧ b ∈ q.cps.toList := by
  unfold signs at h
  rw [List.getElem?_map, Option.map_eq_some_iff] at h
  obtain ⟨b, hb, rfl⟩ := h
  exact ⟨b, rfl, List.mem_of_getElem? hb⟩
theorem empty_cps : (Str.ofString "").cps.toList = [] := by decide +kernel
theorem empty_len : (Str.ofString "").length = 0 := by decide +kernel
theorem append_cps (a b : Str) : (a ++ b).cps.toList = a.cps.toList ++ b.cps.toList := by
  show (a.cps ++ b.cps).toList = _
  simp
theorem append_len (a b : Str) : (a ++ b).length = a.length + b.length := by
  show (a.cps ++ b.cps).size = _
  simp [Str.length]
theorem mem_phAdd {ph : List Str} {c p : Str} (hne : ph ≠ []) (h : p ∈ phAdd ph c) : p ∈ ph ∨ ∃ r ∈ ph, p = r ++ c := by
  unfold phAdd at h
  rcases List.mem_append.mp h with h | h
  · exact .inl (List.dropLast_subset _ h)
  · refine .inr ⟨ph.getLastD Str.empty, ?_, List.mem_singleton.mp h⟩
    rw [List.getLastD_eq_getLast?, List.getLast?_eq_some_getLast hne]
    exact List.getLast_mem hne
theorem len_phAdd {ph : List Str} {c : Str} (hne : ph ≠ []) : (phAdd ph c).length = ph.length := by
  unfold phAdd
  rw [List.length_append, List.length_dropLast]
  have := List.length_pos_iff.mpr hne
  simp
  omega
theorem CInv.phEnd {x : Str} {i : Nat} {st : CS} (hsty : st.style = x ∨ (x = Str.ofString "pyformat" ∧ st.style = Str.ofString "format")) (hout : st.out.length ≤ i) (hph : st.ph.length ≤ i) (hc1 : 1 ≤ st.cnt) (hc2 : st.cnt ≤ i + 1)
    (hphl : ∀ p ∈ st.ph, p.length ≤ i + 1) (hphc : ∀ p ∈ st.ph, ∀ b ∈ p.cps.toList, b < 16 ^ 8) (pr : Option Str) : CInv x (i + 1) { Mine.phEnd st with prev := pr } := by
  unfold Mine.phEnd
  split
  · refine ⟨hsty, .inl rfl, ?_, ?_, hc1, by show st.cnt ≤ _; push_cast; omega, ?_, ?_, (fun e => by cases e), (fun e => by cases e)⟩
    · show (st.out ++ [_]).length ≤ _; simp; omega
    · show st.ph.dropLast.length ≤ _; rw [List.length_dropLast]; omega
    · intro p hp; exact hphl p (List.dropLast_subset _ hp)
    · intro p hp; exact hphc p (List.dropLast_subset _ hp)
  · refine ⟨hsty, .inl rfl, ?_, ?_, hc1, by show st.cnt ≤ _; push_cast; omega, ?_, hphc, (fun e => by cases e), (fun e => by cases e)⟩
    · show (st.out ++ [_]).length ≤ _; simp; omega
    · show st.ph.length ≤ _; omega
    · intro p hp; exact hphl p hp
theorem CInv.step {x q c : Str} {i : Nat} {st st' : CS} {nx : Option Str} (hq : ∀ b ∈ q.cps.toList, b < 16 ^ 8) (h : CInv x i st) (hc : (signs q)[i]? = some c) (hs : cStep c nx st = some st') : CInv x (i + 1) st' := by
  obtain ⟨b, hcb, hb⟩ := signs_chars hc
  have hcl : c.length = 1 := by rw [hcb]; rfl
  have hcc : ∀ d ∈ c.cps.toList, d < 16 ^ 8 := by
    rw [hcb]
    intro d hd
    have : d = b := by simpa using hd
    rw [this]
    exact hq b hb
  obtain ⟨x0, state0, qe0, pe0, ph0, out0, cnt0, prev0⟩ := st
  have hsta := h.sta
  dsimp only at hsta
  rcases hsta with rfl | rfl | rfl | rfl | rfl | rfl | rfl
  · rw [cStep_0, Option.map_eq_some_iff] at hs
    obtain ⟨st1, h1, rfl⟩ := hs
    unfold cOut at h1
    dsimp only at h1
    have hsty := h.sty
    have hout := h.out
    have hph := h.ph
    have hc1 := h.c1
    have hc2 := h.c2
    have hphl := h.phl
    have hphc := h.phc
    dsimp only at hsty hout hph hc1 hc2 hphl hphc
    have new4 : ∀ (y : Str), (y = Str.ofString "named" ∨ y = Str.ofString "pyformat") → x0 = y → CInv x (i + 1) ⟨x0, 4, qe0, pe0, ph0 ++ [Str.ofString ""], out0, cnt0, some c⟩ := by
      rintro y hy rfl
      refine ⟨hsty, by simp, by show out0.length ≤ _; omega, by show (ph0 ++ [_]).length ≤ _; simp; omega, hc1, by show cnt0 ≤ _; push_cast; omega, ?_, ?_, (fun _ => by rcases hy with e | e <;> simp [e]), (fun _ _ => by simp)⟩
      · intro p hp
        rcases List.mem_append.mp hp with hp | hp
        · have := hphl p hp; omega
        · rw [List.mem_singleton.mp hp, empty_len]; omega
      · intro p hp
        rcases List.mem_append.mp hp with hp | hp
        · exact hphc p hp
        · rw [List.mem_singleton.mp hp, empty_cps]; intro d hd; cases hd
    have fmt : (x0 == Str.ofString "format" || x0 == Str.ofString "pyformat") = true → ∀ (n : Int) (pe' : Bool) (out' : List Str) (cnt' : Int), (n = 0 ∨ n = 4) → out'.length ≤ out0.length + 1 → (cnt' = cnt0 ∨ cnt' = cnt0 + 1) → CInv x (i + 1) ⟨Str.ofString "format", n, qe0, pe', ph0, out', cnt', some c⟩ := by
      intro hf n pe' out' cnt' hn ho hcn
      refine ⟨?_, by rcases hn with rfl | rfl <;> simp, by show out'.length ≤ _; omega, by show ph0.length ≤ _; omega, by show 1 ≤ cnt'; omega, by show cnt' ≤ _; push_cast; omega, ?_, hphc, (fun _ => by simp), (fun _ e => absurd rfl e)⟩
      · simp only [Bool.or_eq_true, beq_iff_eq] at hf
        rcases hsty with e | ⟨e1, e2⟩
        · rcases hf with e3 | e3
          · left; rw [← e, e3]
          · right; exact ⟨by rw [← e, e3], rfl⟩
        · exact .inr ⟨e1, rfl⟩
      · intro p hp; have := hphl p hp; omega
    have plain : ∀ (n : Int) (out' : List Str) (cnt' : Int), (n = 0 ∨ n = 1 ∨ n = 2 ∨ n = 3 ∨ n = 5 ∨ n = 6) → out'.length ≤ out0.length + 1 → (cnt' = cnt0 ∨ cnt' = cnt0 + 1) → CInv x (i + 1) ⟨x0, n, qe0, pe0, ph0, out', cnt', some c⟩ := by
      intro n out' cnt' hn ho hcn
      refine ⟨hsty, by rcases hn with rfl | rfl | rfl | rfl | rfl | rfl <;> simp, by show out'.length ≤ _; omega, by show ph0.length ≤ _; omega, by show 1 ≤ cnt'; omega, by show cnt' ≤ _; push_cast; omega, ?_, hphc, (fun e => by rcases hn with rfl | rfl | rfl | rfl | rfl | rfl <;> cases e), (fun e => by rcases hn with rfl | rfl | rfl | rfl | rfl | rfl <;> cases e)⟩
      intro p hp; have := hphl p hp; omega
    by_cases g0 : (c == Str.ofString "'") = true
    · rw [if_pos g0] at h1
      obtain rfl := Option.some.inj h1
      exact plain _ _ _ (by split <;> simp) (by simp) (by simp)
    rw [if_neg g0] at h1
    by_cases g1 : (c == Str.ofString "\"") = true
    · rw [if_pos g1] at h1
      obtain rfl := Option.some.inj h1
      exact plain _ _ _ (by simp) (by simp) (by simp)
    rw [if_neg g1] at h1
    by_cases g2 : (c == Str.ofString "-") = true
    · rw [if_pos g2] at h1
      obtain rfl := Option.some.inj h1
      exact plain _ _ _ (by split <;> simp) (by simp) (by simp)
    rw [if_neg g2] at h1
    by_cases g3 : (c == Str.ofString "$") = true
    · rw [if_pos g3] at h1
      obtain rfl := Option.some.inj h1
      exact plain _ _ _ (by split <;> simp) (by simp) (by simp)
    rw [if_neg g3] at h1
    by_cases g4 : (x0 == Str.ofString "qmark" && c == Str.ofString "?") = true
    · rw [if_pos g4] at h1
      obtain rfl := Option.some.inj h1
      exact plain _ _ _ (by simp) (by simp) (by simp)
    rw [if_neg g4] at h1
    by_cases g5 : (x0 == Str.ofString "numeric" && (c == Str.ofString ":" && (notCE nx && prev0 != some (Str.ofString ":")))) = true
    · rw [if_pos g5] at h1
      obtain rfl := Option.some.inj h1
      exact plain _ _ _ (by simp) (by simp) (by simp)
    rw [if_neg g5] at h1
    by_cases g6 : (x0 == Str.ofString "named" && (c == Str.ofString ":" && (notCE nx && prev0 != some (Str.ofString ":")))) = true
    · rw [if_pos g6] at h1
      obtain rfl := Option.some.inj h1
      exact new4 (Str.ofString "named") (by simp) (beq_iff_eq.mp (Bool.and_eq_true_iff.mp g6).1)
    rw [if_neg g6] at h1
    by_cases g7 : (x0 == Str.ofString "pyformat" && (c == Str.ofString "%" && nx == some (Str.ofString "("))) = true
    · rw [if_pos g7] at h1
      obtain rfl := Option.some.inj h1
      exact new4 (Str.ofString "pyformat") (by simp) (beq_iff_eq.mp (Bool.and_eq_true_iff.mp g7).1)
    rw [if_neg g7] at h1
    by_cases g8 : ((x0 == Str.ofString "format" || x0 == Str.ofString "pyformat") && c == Str.ofString "%") = true
    · rw [if_pos g8] at h1
      have hf := (Bool.and_eq_true_iff.mp g8).1
      by_cases g9 : pe0 = true
      · rw [if_pos g9] at h1
        obtain rfl := Option.some.inj h1
        exact fmt hf _ _ _ _ (by simp) (by simp) (by simp)
      rw [if_neg g9] at h1
      by_cases ga : (nx == some (Str.ofString "%")) = true
      · rw [if_pos ga] at h1
        obtain rfl := Option.some.inj h1
        exact fmt hf _ _ _ _ (by simp) (by simp) (by simp)
      rw [if_neg ga] at h1
      by_cases gb : (nx == some (Str.ofString "s")) = true
      · rw [if_pos gb] at h1
        obtain rfl := Option.some.inj h1
        exact fmt hf _ _ _ _ (by simp) (by simp) (by simp)
      rw [if_neg gb] at h1
      cases h1
    rw [if_neg g8] at h1
    obtain rfl := Option.some.inj h1
    exact plain _ _ _ (by simp) (by simp) (by simp)
  · rw [cStep_1] at hs
    obtain rfl := Option.some.inj hs
    refine CInv.state h ?_ ?_ ?_ ?_ ?_ ?_ <;> (repeat' split) <;> simp
  · rw [cStep_2] at hs
    obtain rfl := Option.some.inj hs
    refine CInv.state h ?_ ?_ ?_ ?_ ?_ ?_ <;> (try dsimp only) <;> (repeat' split) <;> simp
  · rw [cStep_3] at hs
    obtain rfl := Option.some.inj hs
    refine CInv.state h ?_ ?_ ?_ ?_ ?_ ?_ <;> (try dsimp only) <;> (repeat' split) <;> simp
  · rw [cStep_4] at hs
    obtain rfl := Option.some.inj hs
    have hsty := h.sty
    have hout := h.out
    have hph := h.ph
    have hc1 := h.c1
    have hc2 := h.c2
    have hphl := h.phl
    have hphc := h.phc
    have hst4 := h.st4 rfl
    have hne4 := h.ne4 rfl
    dsimp only at hsty hout hph hc1 hc2 hphl hphc hst4 hne4
    have add : x0 ≠ Str.ofString "format" → (phAdd ph0 c).length ≤ i ∧ (∀ p ∈ phAdd ph0 c, p.length ≤ i + 1) ∧ (∀ p ∈ phAdd ph0 c, ∀ d ∈ p.cps.toList, d < 16 ^ 8) ∧ phAdd ph0 c ≠ [] := by
      intro hf
      have hne := hne4 hf
      refine ⟨by rw [len_phAdd hne]; exact hph, fun p hp => ?_, fun p hp => ?_, by simp [phAdd]⟩
      · rcases mem_phAdd hne hp with hp | ⟨r, hr, rfl⟩
        · have := hphl p hp; omega
        · rw [append_len, hcl]; have := hphl r hr; omega
      · rcases mem_phAdd hne hp with hp | ⟨r, hr, rfl⟩
        · exact hphc p hp
        · intro d hd
          rw [append_cps] at hd
          rcases List.mem_append.mp hd with hd | hd
          · exact hphc r hr d hd
          · exact hcc d hd
    have keep : x0 ≠ Str.ofString "format" → CInv x (i + 1) ⟨x0, 4, qe0, pe0, phAdd ph0 c, out0, cnt0, some c⟩ := by
      intro hf
      obtain ⟨a1, a2, a3, a4⟩ := add hf
      exact ⟨hsty, by simp, by show out0.length ≤ _; omega, by show (phAdd ph0 c).length ≤ _; omega, hc1, by show cnt0 ≤ _; push_cast; omega, a2, a3, (fun _ => hst4), fun _ _ => a4⟩
    unfold cPn
    dsimp only
    split
    · rename_i e
      have hf : x0 ≠ Str.ofString "format" := by
        rw [beq_iff_eq.mp e]; decide +kernel
      obtain ⟨a1, a2, a3, a4⟩ := add hf
      split
      · exact CInv.phEnd (st := ⟨x0, 4, qe0, pe0, phAdd ph0 c, out0, cnt0, prev0⟩) hsty hout a1 hc1 hc2 a2 a3 _
      · exact keep hf
    · split
      · rename_i e
        have hf : x0 ≠ Str.ofString "format" := by
          rw [beq_iff_eq.mp e]; decide +kernel
        split
        · exact CInv.phEnd (st := ⟨x0, 4, qe0, pe0, ph0, out0, cnt0, prev0⟩) hsty hout hph hc1 hc2 (fun p hp => by have := hphl p hp; omega) hphc _
        · split
          · exact ⟨hsty, by simp, by show out0.length ≤ _; omega, by show ph0.length ≤ _; omega, hc1, by show cnt0 ≤ _; push_cast; omega, (fun p hp => by have := hphl p hp; omega), hphc, (fun _ => hst4), fun _ _ => hne4 hf⟩
          · exact keep hf
      · split
        · exact ⟨hsty, by simp, by show out0.length ≤ _; omega, by show ph0.length ≤ _; omega, hc1, by show cnt0 ≤ _; push_cast; omega, (fun p hp => by have := hphl p hp; omega), hphc, (fun e => by cases e), fun e => by cases e⟩
        · exact ⟨hsty, by simp, by show out0.length ≤ _; omega, by show ph0.length ≤ _; omega, hc1, by show cnt0 ≤ _; push_cast; omega, (fun p hp => by have := hphl p hp; omega), hphc, (fun _ => hst4), fun _ => hne4⟩
  · rw [cStep_5] at hs
    obtain rfl := Option.some.inj hs
    refine CInv.state h ?_ ?_ ?_ ?_ ?_ ?_ <;> (try dsimp only) <;> (repeat' split) <;> simp
  · rw [cStep_6] at hs
    obtain rfl := Option.some.inj hs
    refine CInv.state h ?_ ?_ ?_ ?_ ?_ ?_ <;> (try dsimp only) <;> (repeat' split) <;> simp
theorem cTake_inv {x q : Str} (hq : ∀ b ∈ q.cps.toList, b < 16 ^ 8) : ∀ (i : Nat) (st : CS), cTake (signs q) (cStart x) i = some st → CInv x i st := by
  intro i
  induction i with
  | zero => intro st h; obtain rfl := Option.some.inj h; exact CInv.start x
  | succ i ih =>
    intro st h
    obtain ⟨st1, h1, h2⟩ := Option.bind_eq_some_iff.mp (show (cTake (signs q) (cStart x) i).bind _ = some st from h)
    cases hc : (signs q)[i]? with
    | none => rw [hc] at h2; cases h2
    | some c =>
      rw [hc] at h2
      exact (ih st1 h1).step hq hc h2
end
section
set_option maxHeartbeats 3000000
section
local macro_rules | `(tactic| k_all) => `(tactic| assumption)
local macro_rules | `(tactic| walk_at "eval IfExp") => `(tactic| ((with_reducible show wpAny _ _ (eval (Expr.IfExp (Expr.Compare (Expr.BinOp _ _ _ _) _ _ _) (Expr.Subscript _ _ _) (Expr.Constant _ _ _) _) _) _ _ _); k_here; refine conv_join (l := signs _) (by assumption) ?_ ?_; rotate_left; intro t8 k8; rotate_left))
local macro_rules | `(tactic| walk_at "NextIs") => `(tactic| first | exact next_some (by omega) | exact next_none (by omega))
local macro_rules | `(tactic| walk_at "compareOp") => `(tactic| ((with_reducible show wpAny _ _ (compareOp _ (optVal _ _) (Value.str _ _)) _ _ _); first | refine conv_eqOpt ?_ | refine conv_neOpt ?_))
local macro_rules | `(tactic| walk_at "call builtin:list.append") => `(tactic| (k_here; (with_reducible show wpAny _ _ (call (Value.builtin _) [Value.ref _, _]) _ _ _); k_dflt (refine' conv_append ?cF ?cN ?cU ?cz ?_; (case cF => k_asm); (case cN => k_asm); (case cU => k_upd); (case cz => omega); k_whole); intro h' F' N'))
local macro_rules | `(tactic| walk_at "exec If") => `(tactic| refine wpAny_If ?_)
local macro_rules | `(tactic| k_room) => `(tactic| ktr_room)
local macro_rules | `(tactic| k_units) => `(tactic| ktr_units)
theorem turn1 {w : World} {loose : List Str} {mean : ExcName → Option Value} {mg mb : Str → Option Value}
  {dp un : Nat} {gd : Option (List Code)} {outer : List Env} {A₀ : Around} {base h₀ : Heap} {L : Addr} {s : Shared} {Q : Flow → Shared → Prop} {E : Value → Shared → Prop}
  {M T x dd f c' lO lP : Addr} {co : Obj} {pm ctv v2 : Value} {t3 : Tok} {tc : Tok} {outV phV : List Value} {nO nP : Nat} {rest own : List (Addr × Obj)} {s0 s1 s2 s3 s4 s5 s6 tq : Tok} {q c : Str} {i : Nat} {st : CS} {u ti ts tst tp : Tok} {um : Str → Option Value}
  (B : Below A₀ base outer h₀) (F : Fr h₀ L s.heap (fun y => if y = Str.ofString "c" then some (.str c u) else if y = Str.ofString "i" then some (.int i ti) else kstB um (turnVals st ts tst tp (convConsts s0 s1 s2 s3 s4 s5 s6 tq q lP lO M)) y))
  (X : (hd.heap_39 w.params).In h₀) (N : News h₀ L s.heap (convLed M T x dd f c' lO lP co pm ctv v2 t3 st.cnt tc outV phV nO nP (rest ++ own))) (Tp : Top topProg loose mean mg mb h₀) (hdp : dp + 30 < recursionLimit) (hun : un + 200 < cLine)
  (hOr : Ords L M T x dd f c' lO lP) (hx : ∀ p ∈ rest ++ own, p.1 ≠ x) (hlO : ∀ p ∈ rest ++ own, p.1 ≠ lO) (hlP : ∀ p ∈ rest ++ own, p.1 ≠ lP) (hq : CodeIs co lamQ) (hlen : q.length ≤ 100000) (hi : (signs q)[i]? = some c) (hO : StrsAre outV st.out) (hP : StrsAre phV st.ph) (hb : Bnd st) (hst : st.state = 1) :
  wpAny (model PySem.Challenge.rw_ew0022_01.row.prog w) (ktrTop dp un gd (Str.ofString "convert_paramstyle") convScope L 113 (.ref 112) [(Str.ofString "args", L + 1)] outer) (execs convBody (envX (Str.ofString "convert_paramstyle") convScope L 113 (.ref 112) [(Str.ofString "args", L + 1)])) (ConvEnd h₀ L (convP (convConsts s0 s1 s2 s3 s4 s5 s6 tq q lP lO M) M T x dd f c' lO lP co pm ctv v2 t3 rest) own (cStep c (signs q)[i + 1]? st) s Q) E s := by
  have hi' : i < q.length := by rw [← signs_length]; exact (List.getElem?_eq_some_iff.mp hi).1
  obtain ⟨k1, k2, k3, k4, k5, k6, k7, k8, k9⟩ := hOr
  obtain ⟨x0, state0, qe0, pe0, ph0, out0, cnt0, prev0⟩ := st
  obtain rfl : state0 = 1 := hst
  have hoV : outV.length ≤ 100000 := by rw [hO.length]; exact hb.out
  have hpV : phV.length ≤ 100000 := by rw [hP.length]; exact hb.ph
  w_top off; k_with_none; revert X; k_fill; intro X
  (conv in convBody => whnf)
  (conv in (occs := *) convScope => all_goals whnf)
  (try dsimp only [kstB, turnVals] at F)
  (try dsimp only at N hO hP)
  (try k_fold)
  w_strict (k_steps)
  all_goals ((try subst_vars); rw [cStep_1]; simp only [*, if_true, if_false, Bool.false_eq_true, Bool.and_true, Bool.and_false, Bool.true_and, Bool.false_and, Bool.or_true, Bool.or_false, Bool.true_or, Bool.false_or]; (refine' conv_leaf ?cF ?cN ?c1 ?c2 ?c3 ?c4 ?c5 ?c6 ?cm ?cO ?cP ?cr; (case cr => exact rfl); (case cF => k_asm); (case cN => k_asm); (case c1 => exact rfl); (case c2 => exact rfl); (case c3 => exact rfl); (case c4 => exact rfl); (case c5 => exact rfl); (case c6 => (intro p hp; simp only [convConsts, List.mem_cons, List.not_mem_nil, or_false] at hp; rcases hp with rfl | rfl | rfl | rfl | rfl | rfl | rfl | rfl | rfl | rfl | rfl <;> kernel_rfl)); (case cm => (refine' led_mem ?a1 ?a2 ?a3 ?a4 ?a5 ?a6 ?a7 ?a8 ?a9; (case a1 => k_mem); (case a2 => k_mem); (case a3 => k_mem); (case a4 => k_mem); (case a5 => k_mem); (case a6 => k_mem); (case a7 => k_mem); (case a8 => k_mem); (case a9 => (intro p hp; repeat (first | exact hp | refine List.Mem.tail _ ?_))))); (case cO => first | assumption | exact strs_snoc (by assumption)); (case cP => first | assumption | exact strs_snoc (by assumption))))
end
section
local macro_rules | `(tactic| k_all) => `(tactic| assumption)
local macro_rules | `(tactic| walk_at "eval IfExp") => `(tactic| ((with_reducible show wpAny _ _ (eval (Expr.IfExp (Expr.Compare (Expr.BinOp _ _ _ _) _ _ _) (Expr.Subscript _ _ _) (Expr.Constant _ _ _) _) _) _ _ _); k_here; refine conv_join (l := signs _) (by assumption) ?_ ?_; rotate_left; intro t8 k8; rotate_left))
local macro_rules | `(tactic| walk_at "NextIs") => `(tactic| first | exact next_some (by omega) | exact next_none (by omega))
local macro_rules | `(tactic| walk_at "compareOp") => `(tactic| ((with_reducible show wpAny _ _ (compareOp _ (optVal _ _) (Value.str _ _)) _ _ _); first | refine conv_eqOpt ?_ | refine conv_neOpt ?_))
local macro_rules | `(tactic| walk_at "call builtin:list.append") => `(tactic| (k_here; (with_reducible show wpAny _ _ (call (Value.builtin _) [Value.ref _, _]) _ _ _); k_dflt (refine' conv_append ?cF ?cN ?cU ?cz ?_; (case cF => k_asm); (case cN => k_asm); (case cU => k_upd); (case cz => omega); k_whole); intro h' F' N'))
local macro_rules | `(tactic| walk_at "exec If") => `(tactic| refine wpAny_If ?_)
local macro_rules | `(tactic| k_room) => `(tactic| ktr_room)
local macro_rules | `(tactic| k_units) => `(tactic| ktr_units)
local macro_rules | `(tactic| walk_at "zz dummy") => `(tactic| fail)
theorem turn2 {w : World} {loose : List Str} {mean : ExcName → Option Value} {mg mb : Str → Option Value}
  {dp un : Nat} {gd : Option (List Code)} {outer : List Env} {A₀ : Around} {base h₀ : Heap} {L : Addr} {s : Shared} {Q : Flow → Shared → Prop} {E : Value → Shared → Prop}
  {M T x dd f c' lO lP : Addr} {co : Obj} {pm ctv v2 : Value} {t3 : Tok} {tc : Tok} {outV phV : List Value} {nO nP : Nat} {rest own : List (Addr × Obj)} {s0 s1 s2 s3 s4 s5 s6 tq : Tok} {q c : Str} {i : Nat} {st : CS} {u ti ts tst tp : Tok} {um : Str → Option Value}
  (B : Below A₀ base outer h₀) (F : Fr h₀ L s.heap (fun y => if y = Str.ofString "c" then some (.str c u) else if y = Str.ofString "i" then some (.int i ti) else kstB um (turnVals st ts tst tp (convConsts s0 s1 s2 s3 s4 s5 s6 tq q lP lO M)) y))
  (X : (hd.heap_39 w.params).In h₀) (N : News h₀ L s.heap (convLed M T x dd f c' lO lP co pm ctv v2 t3 st.cnt tc outV phV nO nP (rest ++ own))) (Tp : Top topProg loose mean mg mb h₀) (hdp : dp + 30 < recursionLimit) (hun : un + 200 < cLine)
  (hOr : Ords L M T x dd f c' lO lP) (hx : ∀ p ∈ rest ++ own, p.1 ≠ x) (hlO : ∀ p ∈ rest ++ own, p.1 ≠ lO) (hlP : ∀ p ∈ rest ++ own, p.1 ≠ lP) (hq : CodeIs co lamQ) (hlen : q.length ≤ 100000) (hi : (signs q)[i]? = some c) (hO : StrsAre outV st.out) (hP : StrsAre phV st.ph) (hb : Bnd st) (hst : st.state = 2) :
  wpAny (model PySem.Challenge.rw_ew0022_01.row.prog w) (ktrTop dp un gd (Str.ofString "convert_paramstyle") convScope L 113 (.ref 112) [(Str.ofString "args", L + 1)] outer) (execs convBody (envX (Str.ofString "convert_paramstyle") convScope L 113 (.ref 112) [(Str.ofString "args", L + 1)])) (ConvEnd h₀ L (convP (convConsts s0 s1 s2 s3 s4 s5 s6 tq q lP lO M) M T x dd f c' lO lP co pm ctv v2 t3 rest) own (cStep c (signs q)[i + 1]? st) s Q) E s := by
  have hi' : i < q.length := by rw [← signs_length]; exact (List.getElem?_eq_some_iff.mp hi).1
  obtain ⟨k1, k2, k3, k4, k5, k6, k7, k8, k9⟩ := hOr
  obtain ⟨x0, state0, qe0, pe0, ph0, out0, cnt0, prev0⟩ := st
  obtain rfl : state0 = 2 := hst
  have hoV : outV.length ≤ 100000 := by rw [hO.length]; exact hb.out
  have hpV : phV.length ≤ 100000 := by rw [hP.length]; exact hb.ph
  revert X; k_fill; intro X
  (conv in convBody => whnf)
  (conv in (occs := *) convScope => all_goals whnf)
  (try dsimp only [kstB, turnVals] at F)
  (try dsimp only at N hO hP)
  (try k_fold)
  w_strict (k_steps)
  all_goals ((try subst_vars); rw [cStep_2]; simp only [*, if_true, if_false, Bool.false_eq_true, Bool.and_true, Bool.and_false, Bool.true_and, Bool.false_and, Bool.or_true, Bool.or_false, Bool.true_or, Bool.false_or]; (refine' conv_leaf ?cF ?cN ?c1 ?c2 ?c3 ?c4 ?c5 ?c6 ?cm ?cO ?cP ?cr; (case cr => exact rfl); (case cF => k_asm); (case cN => k_asm); (case c1 => exact rfl); (case c2 => exact rfl); (case c3 => exact rfl); (case c4 => exact rfl); (case c5 => exact rfl); (case c6 => (intro p hp; simp only [convConsts, List.mem_cons, List.not_mem_nil, or_false] at hp; rcases hp with rfl | rfl | rfl | rfl | rfl | rfl | rfl | rfl | rfl | rfl | rfl <;> kernel_rfl)); (case cm => (refine' led_mem ?a1 ?a2 ?a3 ?a4 ?a5 ?a6 ?a7 ?a8 ?a9; (case a1 => k_mem); (case a2 => k_mem); (case a3 => k_mem); (case a4 => k_mem); (case a5 => k_mem); (case a6 => k_mem); (case a7 => k_mem); (case a8 => k_mem); (case a9 => (intro p hp; repeat (first | exact hp | refine List.Mem.tail _ ?_))))); (case cO => first | assumption | exact strs_snoc (by assumption)); (case cP => first | assumption | exact strs_snoc (by assumption))))
end
section
local macro_rules | `(tactic| k_all) => `(tactic| assumption)
local macro_rules | `(tactic| walk_at "eval IfExp") => `(tactic| ((with_reducible show wpAny _ _ (eval (Expr.IfExp (Expr.Compare (Expr.BinOp _ _ _ _) _ _ _) (Expr.Subscript _ _ _) (Expr.Constant _ _ _) _) _) _ _ _); k_here; refine conv_join (l := signs _) (by assumption) ?_ ?_; rotate_left; intro t8 k8; rotate_left))
local macro_rules | `(tactic| walk_at "NextIs") => `(tactic| first | exact next_some (by omega) | exact next_none (by omega))
local macro_rules | `(tactic| walk_at "compareOp") => `(tactic| ((with_reducible show wpAny _ _ (compareOp _ (optVal _ _) (Value.str _ _)) _ _ _); first | refine conv_eqOpt ?_ | refine conv_neOpt ?_))
local macro_rules | `(tactic| walk_at "call builtin:list.append") => `(tactic| (k_here; (with_reducible show wpAny _ _ (call (Value.builtin _) [Value.ref _, _]) _ _ _); k_dflt (refine' conv_append ?cF ?cN ?cU ?cz ?_; (case cF => k_asm); (case cN => k_asm); (case cU => k_upd); (case cz => omega); k_whole); intro h' F' N'))
local macro_rules | `(tactic| walk_at "exec If") => `(tactic| refine wpAny_If ?_)
local macro_rules | `(tactic| k_room) => `(tactic| ktr_room)
local macro_rules | `(tactic| k_units) => `(tactic| ktr_units)
theorem turn3 {w : World} {loose : List Str} {mean : ExcName → Option Value} {mg mb : Str → Option Value}
  {dp un : Nat} {gd : Option (List Code)} {outer : List Env} {A₀ : Around} {base h₀ : Heap} {L : Addr} {s : Shared} {Q : Flow → Shared → Prop} {E : Value → Shared → Prop}
  {M T x dd f c' lO lP : Addr} {co : Obj} {pm ctv v2 : Value} {t3 : Tok} {tc : Tok} {outV phV : List Value} {nO nP : Nat} {rest own : List (Addr × Obj)} {s0 s1 s2 s3 s4 s5 s6 tq : Tok} {q c : Str} {i : Nat} {st : CS} {u ti ts tst tp : Tok} {um : Str → Option Value}
  (B : Below A₀ base outer h₀) (F : Fr h₀ L s.heap (fun y => if y = Str.ofString "c" then some (.str c u) else if y = Str.ofString "i" then some (.int i ti) else kstB um (turnVals st ts tst tp (convConsts s0 s1 s2 s3 s4 s5 s6 tq q lP lO M)) y))
  (X : (hd.heap_39 w.params).In h₀) (N : News h₀ L s.heap (convLed M T x dd f c' lO lP co pm ctv v2 t3 st.cnt tc outV phV nO nP (rest ++ own))) (Tp : Top topProg loose mean mg mb h₀) (hdp : dp + 30 < recursionLimit) (hun : un + 200 < cLine)
  (hOr : Ords L M T x dd f c' lO lP) (hx : ∀ p ∈ rest ++ own, p.1 ≠ x) (hlO : ∀ p ∈ rest ++ own, p.1 ≠ lO) (hlP : ∀ p ∈ rest ++ own, p.1 ≠ lP) (hq : CodeIs co lamQ) (hlen : q.length ≤ 100000) (hi : (signs q)[i]? = some c) (hO : StrsAre outV st.out) (hP : StrsAre phV st.ph) (hb : Bnd st) (hst : st.state = 3) :
  wpAny (model PySem.Challenge.rw_ew0022_01.row.prog w) (ktrTop dp un gd (Str.ofString "convert_paramstyle") convScope L 113 (.ref 112) [(Str.ofString "args", L + 1)] outer) (execs convBody (envX (Str.ofString "convert_paramstyle") convScope L 113 (.ref 112) [(Str.ofString "args", L + 1)])) (ConvEnd h₀ L (convP (convConsts s0 s1 s2 s3 s4 s5 s6 tq q lP lO M) M T x dd f c' lO lP co pm ctv v2 t3 rest) own (cStep c (signs q)[i + 1]? st) s Q) E s := by
  have hi' : i < q.length := by rw [← signs_length]; exact (List.getElem?_eq_some_iff.mp hi).1
  obtain ⟨k1, k2, k3, k4, k5, k6, k7, k8, k9⟩ := hOr
  obtain ⟨x0, state0, qe0, pe0, ph0, out0, cnt0, prev0⟩ := st
  obtain rfl : state0 = 3 := hst
  have hoV : outV.length ≤ 100000 := by rw [hO.length]; exact hb.out
  have hpV : phV.length ≤ 100000 := by rw [hP.length]; exact hb.ph
  revert X; k_fill; intro X
  (conv in convBody => whnf)
  (conv in (occs := *) convScope => all_goals whnf)
  (try dsimp only [kstB, turnVals] at F)
  (try dsimp only at N hO hP)
  (try k_fold)
  w_strict (k_steps)
  all_goals ((try subst_vars); rw [cStep_3]; simp only [*, if_true, if_false, Bool.false_eq_true, Bool.and_true, Bool.and_false, Bool.true_and, Bool.false_and, Bool.or_true, Bool.or_false, Bool.true_or, Bool.false_or]; (refine' conv_leaf ?cF ?cN ?c1 ?c2 ?c3 ?c4 ?c5 ?c6 ?cm ?cO ?cP ?cr; (case cr => exact rfl); (case cF => k_asm); (case cN => k_asm); (case c1 => exact rfl); (case c2 => exact rfl); (case c3 => exact rfl); (case c4 => exact rfl); (case c5 => exact rfl); (case c6 => (intro p hp; simp only [convConsts, List.mem_cons, List.not_mem_nil, or_false] at hp; rcases hp with rfl | rfl | rfl | rfl | rfl | rfl | rfl | rfl | rfl | rfl | rfl <;> kernel_rfl)); (case cm => (refine' led_mem ?a1 ?a2 ?a3 ?a4 ?a5 ?a6 ?a7 ?a8 ?a9; (case a1 => k_mem); (case a2 => k_mem); (case a3 => k_mem); (case a4 => k_mem); (case a5 => k_mem); (case a6 => k_mem); (case a7 => k_mem); (case a8 => k_mem); (case a9 => (intro p hp; repeat (first | exact hp | refine List.Mem.tail _ ?_))))); (case cO => first | assumption | exact strs_snoc (by assumption)); (case cP => first | assumption | exact strs_snoc (by assumption))))
end
section
local macro_rules | `(tactic| k_all) => `(tactic| assumption)
local macro_rules | `(tactic| walk_at "eval IfExp") => `(tactic| ((with_reducible show wpAny _ _ (eval (Expr.IfExp (Expr.Compare (Expr.BinOp _ _ _ _) _ _ _) (Expr.Subscript _ _ _) (Expr.Constant _ _ _) _) _) _ _ _); k_here; refine conv_join (l := signs _) (by assumption) ?_ ?_; rotate_left; intro t8 k8; rotate_left))
local macro_rules | `(tactic| walk_at "NextIs") => `(tactic| first | exact next_some (by omega) | exact next_none (by omega))
local macro_rules | `(tactic| walk_at "compareOp") => `(tactic| ((with_reducible show wpAny _ _ (compareOp _ (optVal _ _) (Value.str _ _)) _ _ _); first | refine conv_eqOpt ?_ | refine conv_neOpt ?_))
local macro_rules | `(tactic| walk_at "call builtin:list.append") => `(tactic| (k_here; (with_reducible show wpAny _ _ (call (Value.builtin _) [Value.ref _, _]) _ _ _); k_dflt (refine' conv_append ?cF ?cN ?cU ?cz ?_; (case cF => k_asm); (case cN => k_asm); (case cU => k_upd); (case cz => omega); k_whole); intro h' F' N'))
local macro_rules | `(tactic| walk_at "exec If") => `(tactic| refine wpAny_If ?_)
local macro_rules | `(tactic| k_room) => `(tactic| ktr_room)
local macro_rules | `(tactic| k_units) => `(tactic| ktr_units)
local macro_rules | `(tactic| walk_at "zz dummy") => `(tactic| fail)
theorem turn5 {w : World} {loose : List Str} {mean : ExcName → Option Value} {mg mb : Str → Option Value}
  {dp un : Nat} {gd : Option (List Code)} {outer : List Env} {A₀ : Around} {base h₀ : Heap} {L : Addr} {s : Shared} {Q : Flow → Shared → Prop} {E : Value → Shared → Prop}
  {M T x dd f c' lO lP : Addr} {co : Obj} {pm ctv v2 : Value} {t3 : Tok} {tc : Tok} {outV phV : List Value} {nO nP : Nat} {rest own : List (Addr × Obj)} {s0 s1 s2 s3 s4 s5 s6 tq : Tok} {q c : Str} {i : Nat} {st : CS} {u ti ts tst tp : Tok} {um : Str → Option Value}
  (B : Below A₀ base outer h₀) (F : Fr h₀ L s.heap (fun y => if y = Str.ofString "c" then some (.str c u) else if y = Str.ofString "i" then some (.int i ti) else kstB um (turnVals st ts tst tp (convConsts s0 s1 s2 s3 s4 s5 s6 tq q lP lO M)) y))
  (X : (hd.heap_39 w.params).In h₀) (N : News h₀ L s.heap (convLed M T x dd f c' lO lP co pm ctv v2 t3 st.cnt tc outV phV nO nP (rest ++ own))) (Tp : Top topProg loose mean mg mb h₀) (hdp : dp + 30 < recursionLimit) (hun : un + 200 < cLine)
  (hOr : Ords L M T x dd f c' lO lP) (hx : ∀ p ∈ rest ++ own, p.1 ≠ x) (hlO : ∀ p ∈ rest ++ own, p.1 ≠ lO) (hlP : ∀ p ∈ rest ++ own, p.1 ≠ lP) (hq : CodeIs co lamQ) (hlen : q.length ≤ 100000) (hi : (signs q)[i]? = some c) (hO : StrsAre outV st.out) (hP : StrsAre phV st.ph) (hb : Bnd st) (hst : st.state = 5) :
  wpAny (model PySem.Challenge.rw_ew0022_01.row.prog w) (ktrTop dp un gd (Str.ofString "convert_paramstyle") convScope L 113 (.ref 112) [(Str.ofString "args", L + 1)] outer) (execs convBody (envX (Str.ofString "convert_paramstyle") convScope L 113 (.ref 112) [(Str.ofString "args", L + 1)])) (ConvEnd h₀ L (convP (convConsts s0 s1 s2 s3 s4 s5 s6 tq q lP lO M) M T x dd f c' lO lP co pm ctv v2 t3 rest) own (cStep c (signs q)[i + 1]? st) s Q) E s := by
  have hi' : i < q.length := by rw [← signs_length]; exact (List.getElem?_eq_some_iff.mp hi).1
  obtain ⟨k1, k2, k3, k4, k5, k6, k7, k8, k9⟩ := hOr
  obtain ⟨x0, state0, qe0, pe0, ph0, out0, cnt0, prev0⟩ := st
  obtain rfl : state0 = 5 := hst
  have hoV : outV.length ≤ 100000 := by rw [hO.length]; exact hb.out
  have hpV : phV.length ≤ 100000 := by rw [hP.length]; exact hb.ph
  revert X; k_fill; intro X
  (conv in convBody => whnf)
  (conv in (occs := *) convScope => all_goals whnf)
  (try dsimp only [kstB, turnVals] at F)
  (try dsimp only at N hO hP)
  (try k_fold)
  w_strict (k_steps)
  all_goals ((try subst_vars); rw [cStep_5]; simp only [*, if_true, if_false, Bool.false_eq_true, Bool.and_true, Bool.and_false, Bool.true_and, Bool.false_and, Bool.or_true, Bool.or_false, Bool.true_or, Bool.false_or]; (refine' conv_leaf ?cF ?cN ?c1 ?c2 ?c3 ?c4 ?c5 ?c6 ?cm ?cO ?cP ?cr; (case cr => exact rfl); (case cF => k_asm); (case cN => k_asm); (case c1 => exact rfl); (case c2 => exact rfl); (case c3 => exact rfl); (case c4 => exact rfl); (case c5 => exact rfl); (case c6 => (intro p hp; simp only [convConsts, List.mem_cons, List.not_mem_nil, or_false] at hp; rcases hp with rfl | rfl | rfl | rfl | rfl | rfl | rfl | rfl | rfl | rfl | rfl <;> kernel_rfl)); (case cm => (refine' led_mem ?a1 ?a2 ?a3 ?a4 ?a5 ?a6 ?a7 ?a8 ?a9; (case a1 => k_mem); (case a2 => k_mem); (case a3 => k_mem); (case a4 => k_mem); (case a5 => k_mem); (case a6 => k_mem); (case a7 => k_mem); (case a8 => k_mem); (case a9 => (intro p hp; repeat (first | exact hp | refine List.Mem.tail _ ?_))))); (case cO => first | assumption | exact strs_snoc (by assumption)); (case cP => first | assumption | exact strs_snoc (by assumption))))
end
section
local macro_rules | `(tactic| k_all) => `(tactic| assumption)
local macro_rules | `(tactic| walk_at "eval IfExp") => `(tactic| ((with_reducible show wpAny _ _ (eval (Expr.IfExp (Expr.Compare (Expr.BinOp _ _ _ _) _ _ _) (Expr.Subscript _ _ _) (Expr.Constant _ _ _) _) _) _ _ _); k_here; refine conv_join (l := signs _) (by assumption) ?_ ?_; rotate_left; intro t8 k8; rotate_left))
local macro_rules | `(tactic| walk_at "NextIs") => `(tactic| first | exact next_some (by omega) | exact next_none (by omega))
local macro_rules | `(tactic| walk_at "compareOp") => `(tactic| ((with_reducible show wpAny _ _ (compareOp _ (optVal _ _) (Value.str _ _)) _ _ _); first | refine conv_eqOpt ?_ | refine conv_neOpt ?_))
local macro_rules | `(tactic| walk_at "call builtin:list.append") => `(tactic| (k_here; (with_reducible show wpAny _ _ (call (Value.builtin _) [Value.ref _, _]) _ _ _); k_dflt (refine' conv_append ?cF ?cN ?cU ?cz ?_; (case cF => k_asm); (case cN => k_asm); (case cU => k_upd); (case cz => omega); k_whole); intro h' F' N'))
local macro_rules | `(tactic| walk_at "exec If") => `(tactic| refine wpAny_If ?_)
local macro_rules | `(tactic| k_room) => `(tactic| ktr_room)
local macro_rules | `(tactic| k_units) => `(tactic| ktr_units)
theorem turn6 {w : World} {loose : List Str} {mean : ExcName → Option Value} {mg mb : Str → Option Value}
  {dp un : Nat} {gd : Option (List Code)} {outer : List Env} {A₀ : Around} {base h₀ : Heap} {L : Addr} {s : Shared} {Q : Flow → Shared → Prop} {E : Value → Shared → Prop}
  {M T x dd f c' lO lP : Addr} {co : Obj} {pm ctv v2 : Value} {t3 : Tok} {tc : Tok} {outV phV : List Value} {nO nP : Nat} {rest own : List (Addr × Obj)} {s0 s1 s2 s3 s4 s5 s6 tq : Tok} {q c : Str} {i : Nat} {st : CS} {u ti ts tst tp : Tok} {um : Str → Option Value}
  (B : Below A₀ base outer h₀) (F : Fr h₀ L s.heap (fun y => if y = Str.ofString "c" then some (.str c u) else if y = Str.ofString "i" then some (.int i ti) else kstB um (turnVals st ts tst tp (convConsts s0 s1 s2 s3 s4 s5 s6 tq q lP lO M)) y))
  (X : (hd.heap_39 w.params).In h₀) (N : News h₀ L s.heap (convLed M T x dd f c' lO lP co pm ctv v2 t3 st.cnt tc outV phV nO nP (rest ++ own))) (Tp : Top topProg loose mean mg mb h₀) (hdp : dp + 30 < recursionLimit) (hun : un + 200 < cLine)
  (hOr : Ords L M T x dd f c' lO lP) (hx : ∀ p ∈ rest ++ own, p.1 ≠ x) (hlO : ∀ p ∈ rest ++ own, p.1 ≠ lO) (hlP : ∀ p ∈ rest ++ own, p.1 ≠ lP) (hq : CodeIs co lamQ) (hlen : q.length ≤ 100000) (hi : (signs q)[i]? = some c) (hO : StrsAre outV st.out) (hP : StrsAre phV st.ph) (hb : Bnd st) (hst : st.state = 6) :
  wpAny (model PySem.Challenge.rw_ew0022_01.row.prog w) (ktrTop dp un gd (Str.ofString "convert_paramstyle") convScope L 113 (.ref 112) [(Str.ofString "args", L + 1)] outer) (execs convBody (envX (Str.ofString "convert_paramstyle") convScope L 113 (.ref 112) [(Str.ofString "args", L + 1)])) (ConvEnd h₀ L (convP (convConsts s0 s1 s2 s3 s4 s5 s6 tq q lP lO M) M T x dd f c' lO lP co pm ctv v2 t3 rest) own (cStep c (signs q)[i + 1]? st) s Q) E s := by
  have hi' : i < q.length := by rw [← signs_length]; exact (List.getElem?_eq_some_iff.mp hi).1
  obtain ⟨k1, k2, k3, k4, k5, k6, k7, k8, k9⟩ := hOr
  obtain ⟨x0, state0, qe0, pe0, ph0, out0, cnt0, prev0⟩ := st
  obtain rfl : state0 = 6 := hst
  have hoV : outV.length ≤ 100000 := by rw [hO.length]; exact hb.out
  have hpV : phV.length ≤ 100000 := by rw [hP.length]; exact hb.ph
  revert X; k_fill; intro X
  (conv in convBody => whnf)
  (conv in (occs := *) convScope => all_goals whnf)
  (try dsimp only [kstB, turnVals] at F)
  (try dsimp only at N hO hP)
  (try k_fold)
  w_strict (k_steps)
  all_goals ((try subst_vars); rw [cStep_6]; simp only [*, if_true, if_false, Bool.false_eq_true, Bool.and_true, Bool.and_false, Bool.true_and, Bool.false_and, Bool.or_true, Bool.or_false, Bool.true_or, Bool.false_or]; (refine' conv_leaf ?cF ?cN ?c1 ?c2 ?c3 ?c4 ?c5 ?c6 ?cm ?cO ?cP ?cr; (case cr => exact rfl); (case cF => k_asm); (case cN => k_asm); (case c1 => exact rfl); (case c2 => exact rfl); (case c3 => exact rfl); (case c4 => exact rfl); (case c5 => exact rfl); (case c6 => (intro p hp; simp only [convConsts, List.mem_cons, List.not_mem_nil, or_false] at hp; rcases hp with rfl | rfl | rfl | rfl | rfl | rfl | rfl | rfl | rfl | rfl | rfl <;> kernel_rfl)); (case cm => (refine' led_mem ?a1 ?a2 ?a3 ?a4 ?a5 ?a6 ?a7 ?a8 ?a9; (case a1 => k_mem); (case a2 => k_mem); (case a3 => k_mem); (case a4 => k_mem); (case a5 => k_mem); (case a6 => k_mem); (case a7 => k_mem); (case a8 => k_mem); (case a9 => (intro p hp; repeat (first | exact hp | refine List.Mem.tail _ ?_))))); (case cO => first | assumption | exact strs_snoc (by assumption)); (case cP => first | assumption | exact strs_snoc (by assumption))))
end
section
local macro_rules | `(tactic| k_all) => `(tactic| assumption)
local macro_rules | `(tactic| walk_at "eval IfExp") => `(tactic| ((with_reducible show wpAny _ _ (eval (Expr.IfExp (Expr.Compare (Expr.BinOp _ _ _ _) _ _ _) (Expr.Subscript _ _ _) (Expr.Constant _ _ _) _) _) _ _ _); k_here; refine conv_join (l := signs _) (by assumption) ?_ ?_; rotate_left; intro t8 k8; rotate_left))
local macro_rules | `(tactic| walk_at "NextIs") => `(tactic| first | exact next_some (by omega) | exact next_none (by omega))
local macro_rules | `(tactic| walk_at "compareOp") => `(tactic| ((with_reducible show wpAny _ _ (compareOp _ (optVal _ _) (Value.str _ _)) _ _ _); first | refine conv_eqOpt ?_ | refine conv_neOpt ?_))
local macro_rules | `(tactic| walk_at "call builtin:list.append") => `(tactic| (k_here; (with_reducible show wpAny _ _ (call (Value.builtin _) [Value.ref _, _]) _ _ _); k_dflt (refine' conv_append ?cF ?cN ?cU ?cz ?_; (case cF => k_asm); (case cN => k_asm); (case cU => k_upd); (case cz => omega); k_whole); intro h' F' N'))
local macro_rules | `(tactic| walk_at "exec If") => `(tactic| refine wpAny_If ?_)
local macro_rules | `(tactic| k_room) => `(tactic| ktr_room)
local macro_rules | `(tactic| k_units) => `(tactic| ktr_units)
local macro_rules | `(tactic| walk_at "compareOp") => `(tactic| ((with_reducible show wpAny _ _ (compareOp .NotIn (optVal _ _) (Value.str _ _)) _ _ _); refine conv_notin (by assumption) (by assumption) ?_))
local macro_rules | `(tactic| walk_at "call builtin:next") => `(tactic| (k_here; (with_reducible show wpAny _ _ (call (Value.builtin "next") [Value.ref _]) _ _ _); k_dflt (refine' conv_next ?cB ?cF ?cX ?cN ?cT ?ck ?cd ?cu ?cO ?coff ?cq ?c0 ?c1 ?_; (case cB => k_asm); (case cF => k_asm); (case cX => k_asm); (case cN => first | assumption | exact Mine.News.sub1 (by assumption)); (case cT => k_asm); (case ck => exact rfl); (case cd => ktr_room); (case cu => ktr_units); (case cO => assumption); (case coff => assumption); (case cq => assumption); (case c0 => omega); (case c1 => omega)); intro r9 t9 tc9 h9 tk9 e9 F9 N9))
local macro_rules | `(tactic| walk_at "execs nil") => `(tactic| (k_here; refine wpAny_execs_nil ?_))
local macro_rules | `(tactic| walk_at "execs cons") => `(tactic| (k_here; refine wpAny_execs_cons ?_))
theorem turn0_qmark {w : World} {loose : List Str} {mean : ExcName → Option Value} {mg mb : Str → Option Value}
  {dp un : Nat} {gd : Option (List Code)} {outer : List Env} {A₀ : Around} {base h₀ : Heap} {L : Addr} {s : Shared} {Q : Flow → Shared → Prop} {E : Value → Shared → Prop}
  {M T x dd f c' lO lP : Addr} {co : Obj} {pm ctv v2 : Value} {t3 : Tok} {tc : Tok} {outV phV : List Value} {nO nP : Nat} {rest own : List (Addr × Obj)} {s0 s1 s2 s3 s4 s5 s6 tq : Tok} {q c : Str} {i : Nat} {st : CS} {u ti ts tst tp : Tok} {um : Str → Option Value}
  (B : Below A₀ base outer h₀) (F : Fr h₀ L s.heap (fun y => if y = Str.ofString "c" then some (.str c u) else if y = Str.ofString "i" then some (.int i ti) else kstB um (turnVals st ts tst tp (convConsts s0 s1 s2 s3 s4 s5 s6 tq q lP lO M)) y))
  (X : (hd.heap_39 w.params).In h₀) (N : News h₀ L s.heap (convLed M T x dd f c' lO lP co pm ctv v2 t3 st.cnt tc outV phV nO nP (rest ++ own))) (Tp : Top topProg loose mean mg mb h₀) (hdp : dp + 30 < recursionLimit) (hun : un + 200 < cLine)
  (hOr : Ords L M T x dd f c' lO lP) (hx : ∀ p ∈ rest ++ own, p.1 ≠ x) (hlO : ∀ p ∈ rest ++ own, p.1 ≠ lO) (hlP : ∀ p ∈ rest ++ own, p.1 ≠ lP) (hq : CodeIs co lamQ) (hlen : q.length ≤ 100000) (hi : (signs q)[i]? = some c) (hO : StrsAre outV st.out) (hP : StrsAre phV st.ph) (hb : Bnd st) (hst : st.state = 0) (hsty : st.style = Str.ofString "qmark") (hcol : (c == Str.ofString ":") = true → ∃ b, (signs q)[i + 1]? = some ⟨#[b]⟩) :
  wpAny (model PySem.Challenge.rw_ew0022_01.row.prog w) (ktrTop dp un gd (Str.ofString "convert_paramstyle") convScope L 113 (.ref 112) [(Str.ofString "args", L + 1)] outer) (execs convBody (envX (Str.ofString "convert_paramstyle") convScope L 113 (.ref 112) [(Str.ofString "args", L + 1)])) (ConvEnd h₀ L (convP (convConsts s0 s1 s2 s3 s4 s5 s6 tq q lP lO M) M T x dd f c' lO lP co pm ctv v2 t3 rest) own (cStep c (signs q)[i + 1]? st) s Q) E s := by
  have hi' : i < q.length := by rw [← signs_length]; exact (List.getElem?_eq_some_iff.mp hi).1
  obtain ⟨k1, k2, k3, k4, k5, k6, k7, k8, k9⟩ := id hOr
  obtain ⟨x0, state0, qe0, pe0, ph0, out0, cnt0, prev0⟩ := st
  obtain rfl : state0 = 0 := hst
  obtain rfl : x0 = Str.ofString "qmark" := hsty
  have hoV : outV.length ≤ 100000 := by rw [hO.length]; exact hb.out
  have hpV : phV.length ≤ 100000 := by rw [hP.length]; exact hb.ph
  have hc0 : 0 ≤ cnt0 := Int.le_trans (by decide) hb.c1
  have hc1 : cnt0 < 1000000 := Int.lt_of_le_of_lt hb.c2 (by decide)
  revert X; k_fill; intro X
  (conv in convBody => whnf)
  (conv in (occs := *) convScope => all_goals whnf)
  (try dsimp only [kstB, turnVals] at F)
  (try dsimp only at N hO hP)
  (try k_fold)
  w_strict (k_steps)
  all_goals ((try subst_vars); rw [cStep_0]; simp only [*, cOut, Option.map_some, sb_qmark_qmark, sb_qmark_numeric, sb_qmark_format, sb_qmark_named, sb_qmark_pyformat, sb_numeric_qmark, sb_numeric_numeric, sb_numeric_format, sb_numeric_named, sb_numeric_pyformat, sb_format_qmark, sb_format_numeric, sb_format_format, sb_format_named, sb_format_pyformat, sb_named_qmark, sb_named_numeric, sb_named_format, sb_named_named, sb_named_pyformat, sb_pyformat_qmark, sb_pyformat_numeric, sb_pyformat_format, sb_pyformat_named, sb_pyformat_pyformat, if_true, if_false, Bool.false_eq_true, Bool.and_true, Bool.and_false, Bool.true_and, Bool.false_and, Bool.or_true, Bool.or_false, Bool.true_or, Bool.false_or]; (refine' conv_leaf ?cF ?cN ?c1 ?c2 ?c3 ?c4 ?c5 ?c6 ?cm ?cO ?cP ?cr; (case cr => exact rfl); (case cF => k_asm); (case cN => k_asm); (case c1 => exact rfl); (case c2 => exact rfl); (case c3 => exact rfl); (case c4 => exact rfl); (case c5 => exact rfl); (case c6 => (intro p hp; simp only [convConsts, List.mem_cons, List.not_mem_nil, or_false] at hp; rcases hp with rfl | rfl | rfl | rfl | rfl | rfl | rfl | rfl | rfl | rfl | rfl <;> kernel_rfl)); (case cm => (refine' led_mem ?a1 ?a2 ?a3 ?a4 ?a5 ?a6 ?a7 ?a8 ?a9; (case a1 => k_mem); (case a2 => k_mem); (case a3 => k_mem); (case a4 => k_mem); (case a5 => k_mem); (case a6 => k_mem); (case a7 => k_mem); (case a8 => k_mem); (case a9 => (intro p hp; repeat (first | exact hp | refine List.Mem.tail _ ?_))))); (case cO => first | assumption | exact strs_snoc (by assumption)); (case cP => first | assumption | exact strs_snoc (by assumption))))
end
section
local macro_rules | `(tactic| k_all) => `(tactic| assumption)
local macro_rules | `(tactic| walk_at "eval IfExp") => `(tactic| ((with_reducible show wpAny _ _ (eval (Expr.IfExp (Expr.Compare (Expr.BinOp _ _ _ _) _ _ _) (Expr.Subscript _ _ _) (Expr.Constant _ _ _) _) _) _ _ _); k_here; refine conv_join (l := signs _) (by assumption) ?_ ?_; rotate_left; intro t8 k8; rotate_left))
local macro_rules | `(tactic| walk_at "NextIs") => `(tactic| first | exact next_some (by omega) | exact next_none (by omega))
local macro_rules | `(tactic| walk_at "compareOp") => `(tactic| ((with_reducible show wpAny _ _ (compareOp _ (optVal _ _) (Value.str _ _)) _ _ _); first | refine conv_eqOpt ?_ | refine conv_neOpt ?_))
local macro_rules | `(tactic| walk_at "call builtin:list.append") => `(tactic| (k_here; (with_reducible show wpAny _ _ (call (Value.builtin _) [Value.ref _, _]) _ _ _); k_dflt (refine' conv_append ?cF ?cN ?cU ?cz ?_; (case cF => k_asm); (case cN => k_asm); (case cU => k_upd); (case cz => omega); k_whole); intro h' F' N'))
local macro_rules | `(tactic| walk_at "exec If") => `(tactic| refine wpAny_If ?_)
local macro_rules | `(tactic| k_room) => `(tactic| ktr_room)
local macro_rules | `(tactic| k_units) => `(tactic| ktr_units)
local macro_rules | `(tactic| walk_at "compareOp") => `(tactic| ((with_reducible show wpAny _ _ (compareOp .NotIn (optVal _ _) (Value.str _ _)) _ _ _); refine conv_notin (by assumption) (by assumption) ?_))
local macro_rules | `(tactic| walk_at "call builtin:next") => `(tactic| (k_here; (with_reducible show wpAny _ _ (call (Value.builtin "next") [Value.ref _]) _ _ _); k_dflt (refine' conv_next ?cB ?cF ?cX ?cN ?cT ?ck ?cd ?cu ?cO ?coff ?cq ?c0 ?c1 ?_; (case cB => k_asm); (case cF => k_asm); (case cX => k_asm); (case cN => first | assumption | exact Mine.News.sub1 (by assumption)); (case cT => k_asm); (case ck => exact rfl); (case cd => ktr_room); (case cu => ktr_units); (case cO => assumption); (case coff => assumption); (case cq => assumption); (case c0 => omega); (case c1 => omega)); intro r9 t9 tc9 h9 tk9 e9 F9 N9))
local macro_rules | `(tactic| walk_at "execs nil") => `(tactic| (k_here; refine wpAny_execs_nil ?_))
local macro_rules | `(tactic| walk_at "execs cons") => `(tactic| (k_here; refine wpAny_execs_cons ?_))
local macro_rules | `(tactic| walk_at "zz dummy") => `(tactic| fail)
theorem turn0_numeric {w : World} {loose : List Str} {mean : ExcName → Option Value} {mg mb : Str → Option Value}
  {dp un : Nat} {gd : Option (List Code)} {outer : List Env} {A₀ : Around} {base h₀ : Heap} {L : Addr} {s : Shared} {Q : Flow → Shared → Prop} {E : Value → Shared → Prop}
  {M T x dd f c' lO lP : Addr} {co : Obj} {pm ctv v2 : Value} {t3 : Tok} {tc : Tok} {outV phV : List Value} {nO nP : Nat} {rest own : List (Addr × Obj)} {s0 s1 s2 s3 s4 s5 s6 tq : Tok} {q c : Str} {i : Nat} {st : CS} {u ti ts tst tp : Tok} {um : Str → Option Value}
  (B : Below A₀ base outer h₀) (F : Fr h₀ L s.heap (fun y => if y = Str.ofString "c" then some (.str c u) else if y = Str.ofString "i" then some (.int i ti) else kstB um (turnVals st ts tst tp (convConsts s0 s1 s2 s3 s4 s5 s6 tq q lP lO M)) y))
  (X : (hd.heap_39 w.params).In h₀) (N : News h₀ L s.heap (convLed M T x dd f c' lO lP co pm ctv v2 t3 st.cnt tc outV phV nO nP (rest ++ own))) (Tp : Top topProg loose mean mg mb h₀) (hdp : dp + 30 < recursionLimit) (hun : un + 200 < cLine)
  (hOr : Ords L M T x dd f c' lO lP) (hx : ∀ p ∈ rest ++ own, p.1 ≠ x) (hlO : ∀ p ∈ rest ++ own, p.1 ≠ lO) (hlP : ∀ p ∈ rest ++ own, p.1 ≠ lP) (hq : CodeIs co lamQ) (hlen : q.length ≤ 100000) (hi : (signs q)[i]? = some c) (hO : StrsAre outV st.out) (hP : StrsAre phV st.ph) (hb : Bnd st) (hst : st.state = 0) (hsty : st.style = Str.ofString "numeric") (hcol : (c == Str.ofString ":") = true → ∃ b, (signs q)[i + 1]? = some ⟨#[b]⟩) :
  wpAny (model PySem.Challenge.rw_ew0022_01.row.prog w) (ktrTop dp un gd (Str.ofString "convert_paramstyle") convScope L 113 (.ref 112) [(Str.ofString "args", L + 1)] outer) (execs convBody (envX (Str.ofString "convert_paramstyle") convScope L 113 (.ref 112) [(Str.ofString "args", L + 1)])) (ConvEnd h₀ L (convP (convConsts s0 s1 s2 s3 s4 s5 s6 tq q lP lO M) M T x dd f c' lO lP co pm ctv v2 t3 rest) own (cStep c (signs q)[i + 1]? st) s Q) E s := by
  have hi' : i < q.length := by rw [← signs_length]; exact (List.getElem?_eq_some_iff.mp hi).1
  obtain ⟨k1, k2, k3, k4, k5, k6, k7, k8, k9⟩ := id hOr
  obtain ⟨x0, state0, qe0, pe0, ph0, out0, cnt0, prev0⟩ := st
  obtain rfl : state0 = 0 := hst
  obtain rfl : x0 = Str.ofString "numeric" := hsty
  have hoV : outV.length ≤ 100000 := by rw [hO.length]; exact hb.out
  have hpV : phV.length ≤ 100000 := by rw [hP.length]; exact hb.ph
  have hc0 : 0 ≤ cnt0 := Int.le_trans (by decide) hb.c1
  have hc1 : cnt0 < 1000000 := Int.lt_of_le_of_lt hb.c2 (by decide)
  revert X; k_fill; intro X
  (conv in convBody => whnf)
  (conv in (occs := *) convScope => all_goals whnf)
  (try dsimp only [kstB, turnVals] at F)
  (try dsimp only at N hO hP)
  (try k_fold)
  w_strict (k_steps)
  all_goals ((try subst_vars); rw [cStep_0]; simp only [*, cOut, Option.map_some, sb_qmark_qmark, sb_qmark_numeric, sb_qmark_format, sb_qmark_named, sb_qmark_pyformat, sb_numeric_qmark, sb_numeric_numeric, sb_numeric_format, sb_numeric_named, sb_numeric_pyformat, sb_format_qmark, sb_format_numeric, sb_format_format, sb_format_named, sb_format_pyformat, sb_named_qmark, sb_named_numeric, sb_named_format, sb_named_named, sb_named_pyformat, sb_pyformat_qmark, sb_pyformat_numeric, sb_pyformat_format, sb_pyformat_named, sb_pyformat_pyformat, if_true, if_false, Bool.false_eq_true, Bool.and_true, Bool.and_false, Bool.true_and, Bool.false_and, Bool.or_true, Bool.or_false, Bool.true_or, Bool.false_or]; (refine' conv_leaf ?cF ?cN ?c1 ?c2 ?c3 ?c4 ?c5 ?c6 ?cm ?cO ?cP ?cr; (case cr => exact rfl); (case cF => k_asm); (case cN => k_asm); (case c1 => exact rfl); (case c2 => exact rfl); (case c3 => exact rfl); (case c4 => exact rfl); (case c5 => exact rfl); (case c6 => (intro p hp; simp only [convConsts, List.mem_cons, List.not_mem_nil, or_false] at hp; rcases hp with rfl | rfl | rfl | rfl | rfl | rfl | rfl | rfl | rfl | rfl | rfl <;> kernel_rfl)); (case cm => (refine' led_mem ?a1 ?a2 ?a3 ?a4 ?a5 ?a6 ?a7 ?a8 ?a9; (case a1 => k_mem); (case a2 => k_mem); (case a3 => k_mem); (case a4 => k_mem); (case a5 => k_mem); (case a6 => k_mem); (case a7 => k_mem); (case a8 => k_mem); (case a9 => (intro p hp; repeat (first | exact hp | refine List.Mem.tail _ ?_))))); (case cO => first | assumption | exact strs_snoc (by assumption)); (case cP => first | assumption | exact strs_snoc (by assumption))))
end
section
local macro_rules | `(tactic| k_all) => `(tactic| assumption)
local macro_rules | `(tactic| walk_at "eval IfExp") => `(tactic| ((with_reducible show wpAny _ _ (eval (Expr.IfExp (Expr.Compare (Expr.BinOp _ _ _ _) _ _ _) (Expr.Subscript _ _ _) (Expr.Constant _ _ _) _) _) _ _ _); k_here; refine conv_join (l := signs _) (by assumption) ?_ ?_; rotate_left; intro t8 k8; rotate_left))
local macro_rules | `(tactic| walk_at "NextIs") => `(tactic| first | exact next_some (by omega) | exact next_none (by omega))
local macro_rules | `(tactic| walk_at "compareOp") => `(tactic| ((with_reducible show wpAny _ _ (compareOp _ (optVal _ _) (Value.str _ _)) _ _ _); first | refine conv_eqOpt ?_ | refine conv_neOpt ?_))
local macro_rules | `(tactic| walk_at "call builtin:list.append") => `(tactic| (k_here; (with_reducible show wpAny _ _ (call (Value.builtin _) [Value.ref _, _]) _ _ _); k_dflt (refine' conv_append ?cF ?cN ?cU ?cz ?_; (case cF => k_asm); (case cN => k_asm); (case cU => k_upd); (case cz => omega); k_whole); intro h' F' N'))
local macro_rules | `(tactic| walk_at "exec If") => `(tactic| refine wpAny_If ?_)
local macro_rules | `(tactic| k_room) => `(tactic| ktr_room)
local macro_rules | `(tactic| k_units) => `(tactic| ktr_units)
local macro_rules | `(tactic| walk_at "compareOp") => `(tactic| ((with_reducible show wpAny _ _ (compareOp .NotIn (optVal _ _) (Value.str _ _)) _ _ _); refine conv_notin (by assumption) (by assumption) ?_))
local macro_rules | `(tactic| walk_at "call builtin:next") => `(tactic| (k_here; (with_reducible show wpAny _ _ (call (Value.builtin "next") [Value.ref _]) _ _ _); k_dflt (refine' conv_next ?cB ?cF ?cX ?cN ?cT ?ck ?cd ?cu ?cO ?coff ?cq ?c0 ?c1 ?_; (case cB => k_asm); (case cF => k_asm); (case cX => k_asm); (case cN => first | assumption | exact Mine.News.sub1 (by assumption)); (case cT => k_asm); (case ck => exact rfl); (case cd => ktr_room); (case cu => ktr_units); (case cO => assumption); (case coff => assumption); (case cq => assumption); (case c0 => omega); (case c1 => omega)); intro r9 t9 tc9 h9 tk9 e9 F9 N9))
local macro_rules | `(tactic| walk_at "execs nil") => `(tactic| (k_here; refine wpAny_execs_nil ?_))
local macro_rules | `(tactic| walk_at "execs cons") => `(tactic| (k_here; refine wpAny_execs_cons ?_))
theorem turn0_named {w : World} {loose : List Str} {mean : ExcName → Option Value} {mg mb : Str → Option Value}
  {dp un : Nat} {gd : Option (List Code)} {outer : List Env} {A₀ : Around} {base h₀ : Heap} {L : Addr} {s : Shared} {Q : Flow → Shared → Prop} {E : Value → Shared → Prop}
  {M T x dd f c' lO lP : Addr} {co : Obj} {pm ctv v2 : Value} {t3 : Tok} {tc : Tok} {outV phV : List Value} {nO nP : Nat} {rest own : List (Addr × Obj)} {s0 s1 s2 s3 s4 s5 s6 tq : Tok} {q c : Str} {i : Nat} {st : CS} {u ti ts tst tp : Tok} {um : Str → Option Value}
  (B : Below A₀ base outer h₀) (F : Fr h₀ L s.heap (fun y => if y = Str.ofString "c" then some (.str c u) else if y = Str.ofString "i" then some (.int i ti) else kstB um (turnVals st ts tst tp (convConsts s0 s1 s2 s3 s4 s5 s6 tq q lP lO M)) y))
  (X : (hd.heap_39 w.params).In h₀) (N : News h₀ L s.heap (convLed M T x dd f c' lO lP co pm ctv v2 t3 st.cnt tc outV phV nO nP (rest ++ own))) (Tp : Top topProg loose mean mg mb h₀) (hdp : dp + 30 < recursionLimit) (hun : un + 200 < cLine)
  (hOr : Ords L M T x dd f c' lO lP) (hx : ∀ p ∈ rest ++ own, p.1 ≠ x) (hlO : ∀ p ∈ rest ++ own, p.1 ≠ lO) (hlP : ∀ p ∈ rest ++ own, p.1 ≠ lP) (hq : CodeIs co lamQ) (hlen : q.length ≤ 100000) (hi : (signs q)[i]? = some c) (hO : StrsAre outV st.out) (hP : StrsAre phV st.ph) (hb : Bnd st) (hst : st.state = 0) (hsty : st.style = Str.ofString "named") (hcol : (c == Str.ofString ":") = true → ∃ b, (signs q)[i + 1]? = some ⟨#[b]⟩) :
  wpAny (model PySem.Challenge.rw_ew0022_01.row.prog w) (ktrTop dp un gd (Str.ofString "convert_paramstyle") convScope L 113 (.ref 112) [(Str.ofString "args", L + 1)] outer) (execs convBody (envX (Str.ofString "convert_paramstyle") convScope L 113 (.ref 112) [(Str.ofString "args", L + 1)])) (ConvEnd h₀ L (convP (convConsts s0 s1 s2 s3 s4 s5 s6 tq q lP lO M) M T x dd f c' lO lP co pm ctv v2 t3 rest) own (cStep c (signs q)[i + 1]? st) s Q) E s := by
  have hi' : i < q.length := by rw [← signs_length]; exact (List.getElem?_eq_some_iff.mp hi).1
  obtain ⟨k1, k2, k3, k4, k5, k6, k7, k8, k9⟩ := id hOr
  obtain ⟨x0, state0, qe0, pe0, ph0, out0, cnt0, prev0⟩ := st
  obtain rfl : state0 = 0 := hst
  obtain rfl : x0 = Str.ofString "named" := hsty
  have hoV : outV.length ≤ 100000 := by rw [hO.length]; exact hb.out
  have hpV : phV.length ≤ 100000 := by rw [hP.length]; exact hb.ph
  have hc0 : 0 ≤ cnt0 := Int.le_trans (by decide) hb.c1
  have hc1 : cnt0 < 1000000 := Int.lt_of_le_of_lt hb.c2 (by decide)
  revert X; k_fill; intro X
  (conv in convBody => whnf)
  (conv in (occs := *) convScope => all_goals whnf)
  (try dsimp only [kstB, turnVals] at F)
  (try dsimp only at N hO hP)
  (try k_fold)
  w_strict (k_steps)
  all_goals ((try subst_vars); rw [cStep_0]; simp only [*, cOut, Option.map_some, sb_qmark_qmark, sb_qmark_numeric, sb_qmark_format, sb_qmark_named, sb_qmark_pyformat, sb_numeric_qmark, sb_numeric_numeric, sb_numeric_format, sb_numeric_named, sb_numeric_pyformat, sb_format_qmark, sb_format_numeric, sb_format_format, sb_format_named, sb_format_pyformat, sb_named_qmark, sb_named_numeric, sb_named_format, sb_named_named, sb_named_pyformat, sb_pyformat_qmark, sb_pyformat_numeric, sb_pyformat_format, sb_pyformat_named, sb_pyformat_pyformat, if_true, if_false, Bool.false_eq_true, Bool.and_true, Bool.and_false, Bool.true_and, Bool.false_and, Bool.or_true, Bool.or_false, Bool.true_or, Bool.false_or]; (refine' conv_leaf ?cF ?cN ?c1 ?c2 ?c3 ?c4 ?c5 ?c6 ?cm ?cO ?cP ?cr; (case cr => exact rfl); (case cF => k_asm); (case cN => k_asm); (case c1 => exact rfl); (case c2 => exact rfl); (case c3 => exact rfl); (case c4 => exact rfl); (case c5 => exact rfl); (case c6 => (intro p hp; simp only [convConsts, List.mem_cons, List.not_mem_nil, or_false] at hp; rcases hp with rfl | rfl | rfl | rfl | rfl | rfl | rfl | rfl | rfl | rfl | rfl <;> kernel_rfl)); (case cm => (refine' led_mem ?a1 ?a2 ?a3 ?a4 ?a5 ?a6 ?a7 ?a8 ?a9; (case a1 => k_mem); (case a2 => k_mem); (case a3 => k_mem); (case a4 => k_mem); (case a5 => k_mem); (case a6 => k_mem); (case a7 => k_mem); (case a8 => k_mem); (case a9 => (intro p hp; repeat (first | exact hp | refine List.Mem.tail _ ?_))))); (case cO => first | assumption | exact strs_snoc (by assumption)); (case cP => first | assumption | exact strs_snoc (by assumption))))
end
end
section
set_option maxHeartbeats 3000000
section
local macro_rules | `(tactic| k_all) => `(tactic| assumption)
local macro_rules | `(tactic| walk_at "eval IfExp") => `(tactic| ((with_reducible show wpAny _ _ (eval (Expr.IfExp (Expr.Compare (Expr.BinOp _ _ _ _) _ _ _) (Expr.Subscript _ _ _) (Expr.Constant _ _ _) _) _) _ _ _); k_here; refine conv_join (l := signs _) (by assumption) ?_ ?_; rotate_left; intro t8 k8; rotate_left))
local macro_rules | `(tactic| walk_at "NextIs") => `(tactic| first | exact next_some (by omega) | exact next_none (by omega))
local macro_rules | `(tactic| walk_at "compareOp") => `(tactic| ((with_reducible show wpAny _ _ (compareOp _ (optVal _ _) (Value.str _ _)) _ _ _); first | refine conv_eqOpt ?_ | refine conv_neOpt ?_))
local macro_rules | `(tactic| walk_at "call builtin:list.append") => `(tactic| (k_here; (with_reducible show wpAny _ _ (call (Value.builtin _) [Value.ref _, _]) _ _ _); k_dflt (refine' conv_append ?cF ?cN ?cU ?cz ?_; (case cF => k_asm); (case cN => k_asm); (case cU => k_upd); (case cz => omega); k_whole); intro h' F' N'))
local macro_rules | `(tactic| walk_at "exec If") => `(tactic| refine wpAny_If ?_)
local macro_rules | `(tactic| k_room) => `(tactic| ktr_room)
local macro_rules | `(tactic| k_units) => `(tactic| ktr_units)
local macro_rules | `(tactic| walk_at "compareOp") => `(tactic| ((with_reducible show wpAny _ _ (compareOp .NotIn (optVal _ _) (Value.str _ _)) _ _ _); refine conv_notin (by assumption) (by assumption) ?_))
local macro_rules | `(tactic| walk_at "call builtin:next") => `(tactic| (k_here; (with_reducible show wpAny _ _ (call (Value.builtin "next") [Value.ref _]) _ _ _); k_dflt (refine' conv_next ?cB ?cF ?cX ?cN ?cT ?ck ?cd ?cu ?cO ?coff ?cq ?c0 ?c1 ?_; (case cB => k_asm); (case cF => k_asm); (case cX => k_asm); (case cN => first | assumption | exact Mine.News.sub1 (by assumption)); (case cT => k_asm); (case ck => exact rfl); (case cd => ktr_room); (case cu => ktr_units); (case cO => assumption); (case coff => assumption); (case cq => assumption); (case c0 => omega); (case c1 => omega)); intro r9 t9 tc9 h9 tk9 e9 F9 N9))
local macro_rules | `(tactic| walk_at "exec Raise some none") => `(tactic| (k_here; k_dflt (refine' conv_raise ?cO PySem.F.excBase_Exception ?ch ?ck ?cn ?_; (case cO => exact own_of_in (by k_asm) (by k_asm) (by k_is) (by k_exc)); (case ch => exact rfl); (case ck => exact Fr.keep (by k_asm)); (case cn => (intro Q' hQ'; refine' nameX_K ?F ?X ?T ?e hQ' ?a ?b; (case F => k_asm); (case X => k_asm); (case T => k_asm); (case a => rfl); (case b => rfl); (case e => k_is)))); intro h' e' t' hm'))
local macro_rules | `(tactic| walk_at "execs nil") => `(tactic| (k_here; refine wpAny_execs_nil ?_))
local macro_rules | `(tactic| walk_at "execs cons") => `(tactic| (k_here; refine wpAny_execs_cons ?_))
theorem turn0_format {w : World} {loose : List Str} {mean : ExcName → Option Value} {mg mb : Str → Option Value}
  {dp un : Nat} {gd : Option (List Code)} {outer : List Env} {A₀ : Around} {base h₀ : Heap} {L : Addr} {s : Shared} {Q : Flow → Shared → Prop} {E : Value → Shared → Prop}
  {M T x dd f c' lO lP : Addr} {co : Obj} {pm ctv v2 : Value} {t3 : Tok} {tc : Tok} {outV phV : List Value} {nO nP : Nat} {rest own : List (Addr × Obj)} {s0 s1 s2 s3 s4 s5 s6 tq : Tok} {q c : Str} {i : Nat} {st : CS} {u ti ts tst tp : Tok} {um : Str → Option Value}
  (B : Below A₀ base outer h₀) (F : Fr h₀ L s.heap (fun y => if y = Str.ofString "c" then some (.str c u) else if y = Str.ofString "i" then some (.int i ti) else kstB um (turnVals st ts tst tp (convConsts s0 s1 s2 s3 s4 s5 s6 tq q lP lO M)) y))
  (X : (hd.heap_39 w.params).In h₀) (N : News h₀ L s.heap (convLed M T x dd f c' lO lP co pm ctv v2 t3 st.cnt tc outV phV nO nP (rest ++ own))) (Tp : Top topProg loose mean mg mb h₀) (hdp : dp + 30 < recursionLimit) (hun : un + 200 < cLine)
  (hOr : Ords L M T x dd f c' lO lP) (hx : ∀ p ∈ rest ++ own, p.1 ≠ x) (hlO : ∀ p ∈ rest ++ own, p.1 ≠ lO) (hlP : ∀ p ∈ rest ++ own, p.1 ≠ lP) (hq : CodeIs co lamQ) (hlen : q.length ≤ 100000) (hi : (signs q)[i]? = some c) (hO : StrsAre outV st.out) (hP : StrsAre phV st.ph) (hb : Bnd st) (hst : st.state = 0) (hsty : st.style = Str.ofString "format") (hcol : (c == Str.ofString ":") = true → ∃ b, (signs q)[i + 1]? = some ⟨#[b]⟩)
  (hE : ∀ m' news' hB tkB e h' vs, Fr h₀ L hB m' → News h₀ L hB news' → (∀ p ∈ (c', co) :: rest, p ∈ news') → Heap.MadeExcOf hB h' e (.ref 44) vs → cStep c (signs q)[i + 1]? st = none → E (.ref e) { s with heap := h', toks := tkB }) :
  wpAny (model PySem.Challenge.rw_ew0022_01.row.prog w) (ktrTop dp un gd (Str.ofString "convert_paramstyle") convScope L 113 (.ref 112) [(Str.ofString "args", L + 1)] outer) (execs convBody (envX (Str.ofString "convert_paramstyle") convScope L 113 (.ref 112) [(Str.ofString "args", L + 1)])) (ConvEnd h₀ L (convP (convConsts s0 s1 s2 s3 s4 s5 s6 tq q lP lO M) M T x dd f c' lO lP co pm ctv v2 t3 rest) own (cStep c (signs q)[i + 1]? st) s Q) E s := by
  have hi' : i < q.length := by rw [← signs_length]; exact (List.getElem?_eq_some_iff.mp hi).1
  obtain ⟨k1, k2, k3, k4, k5, k6, k7, k8, k9⟩ := id hOr
  obtain ⟨x0, state0, qe0, pe0, ph0, out0, cnt0, prev0⟩ := st
  obtain rfl : state0 = 0 := hst
  obtain rfl : x0 = Str.ofString "format" := hsty
  have hoV : outV.length ≤ 100000 := by rw [hO.length]; exact hb.out
  have hpV : phV.length ≤ 100000 := by rw [hP.length]; exact hb.ph
  have hc0 : 0 ≤ cnt0 := Int.le_trans (by decide) hb.c1
  have hc1 : cnt0 < 1000000 := Int.lt_of_le_of_lt hb.c2 (by decide)
  w_top off; k_with_none; revert X; k_fill; intro X
  (conv in convBody => whnf)
  (conv in (occs := *) convScope => all_goals whnf)
  (try dsimp only [kstB, turnVals] at F)
  (try dsimp only at N hO hP)
  (try k_fold)
  w_strict (k_steps)
  all_goals ((try subst_vars); first
    | (refine' hE _ _ _ _ _ _ _ ?cF ?cN ?cm ?cx ?cr; (case cx => assumption); (case cF => k_asm); (case cN => k_asm); (case cm => (intro p hp; rcases List.mem_cons.mp hp with rfl | hp; k_mem; (repeat (first | exact List.mem_append_left _ hp | refine List.Mem.tail _ ?_)))); (case cr => (rw [cStep_0]; simp only [*, cOut, Option.map_some, Option.map_none, sb_qmark_qmark, sb_qmark_numeric, sb_qmark_format, sb_qmark_named, sb_qmark_pyformat, sb_numeric_qmark, sb_numeric_numeric, sb_numeric_format, sb_numeric_named, sb_numeric_pyformat, sb_format_qmark, sb_format_numeric, sb_format_format, sb_format_named, sb_format_pyformat, sb_named_qmark, sb_named_numeric, sb_named_format, sb_named_named, sb_named_pyformat, sb_pyformat_qmark, sb_pyformat_numeric, sb_pyformat_format, sb_pyformat_named, sb_pyformat_pyformat, if_true, if_false, Bool.false_eq_true, Bool.and_true, Bool.and_false, Bool.true_and, Bool.false_and, Bool.or_true, Bool.or_false, Bool.true_or, Bool.false_or]; first | done | rfl)))
    | (rw [cStep_0]; simp only [*, cOut, Option.map_some, sb_qmark_qmark, sb_qmark_numeric, sb_qmark_format, sb_qmark_named, sb_qmark_pyformat, sb_numeric_qmark, sb_numeric_numeric, sb_numeric_format, sb_numeric_named, sb_numeric_pyformat, sb_format_qmark, sb_format_numeric, sb_format_format, sb_format_named, sb_format_pyformat, sb_named_qmark, sb_named_numeric, sb_named_format, sb_named_named, sb_named_pyformat, sb_pyformat_qmark, sb_pyformat_numeric, sb_pyformat_format, sb_pyformat_named, sb_pyformat_pyformat, if_true, if_false, Bool.false_eq_true, Bool.and_true, Bool.and_false, Bool.true_and, Bool.false_and, Bool.or_true, Bool.or_false, Bool.true_or, Bool.false_or]; (refine' conv_leaf ?cF ?cN ?c1 ?c2 ?c3 ?c4 ?c5 ?c6 ?cm ?cO ?cP ?cr; (case cr => exact rfl); (case cF => k_asm); (case cN => k_asm); (case c1 => exact rfl); (case c2 => exact rfl); (case c3 => exact rfl); (case c4 => exact rfl); (case c5 => exact rfl); (case c6 => (intro p hp; simp only [convConsts, List.mem_cons, List.not_mem_nil, or_false] at hp; rcases hp with rfl | rfl | rfl | rfl | rfl | rfl | rfl | rfl | rfl | rfl | rfl <;> kernel_rfl)); (case cm => (refine' led_mem ?a1 ?a2 ?a3 ?a4 ?a5 ?a6 ?a7 ?a8 ?a9; (case a1 => k_mem); (case a2 => k_mem); (case a3 => k_mem); (case a4 => k_mem); (case a5 => k_mem); (case a6 => k_mem); (case a7 => k_mem); (case a8 => k_mem); (case a9 => (intro p hp; repeat (first | exact hp | refine List.Mem.tail _ ?_))))); (case cO => first | assumption | exact strs_snoc (by assumption)); (case cP => first | assumption | exact strs_snoc (by assumption)))))
end
section
local macro_rules | `(tactic| k_all) => `(tactic| assumption)
local macro_rules | `(tactic| walk_at "eval IfExp") => `(tactic| ((with_reducible show wpAny _ _ (eval (Expr.IfExp (Expr.Compare (Expr.BinOp _ _ _ _) _ _ _) (Expr.Subscript _ _ _) (Expr.Constant _ _ _) _) _) _ _ _); k_here; refine conv_join (l := signs _) (by assumption) ?_ ?_; rotate_left; intro t8 k8; rotate_left))
local macro_rules | `(tactic| walk_at "NextIs") => `(tactic| first | exact next_some (by omega) | exact next_none (by omega))
local macro_rules | `(tactic| walk_at "compareOp") => `(tactic| ((with_reducible show wpAny _ _ (compareOp _ (optVal _ _) (Value.str _ _)) _ _ _); first | refine conv_eqOpt ?_ | refine conv_neOpt ?_))
local macro_rules | `(tactic| walk_at "call builtin:list.append") => `(tactic| (k_here; (with_reducible show wpAny _ _ (call (Value.builtin _) [Value.ref _, _]) _ _ _); k_dflt (refine' conv_append ?cF ?cN ?cU ?cz ?_; (case cF => k_asm); (case cN => k_asm); (case cU => k_upd); (case cz => omega); k_whole); intro h' F' N'))
local macro_rules | `(tactic| walk_at "exec If") => `(tactic| refine wpAny_If ?_)
local macro_rules | `(tactic| k_room) => `(tactic| ktr_room)
local macro_rules | `(tactic| k_units) => `(tactic| ktr_units)
local macro_rules | `(tactic| walk_at "compareOp") => `(tactic| ((with_reducible show wpAny _ _ (compareOp .NotIn (optVal _ _) (Value.str _ _)) _ _ _); refine conv_notin (by assumption) (by assumption) ?_))
local macro_rules | `(tactic| walk_at "call builtin:next") => `(tactic| (k_here; (with_reducible show wpAny _ _ (call (Value.builtin "next") [Value.ref _]) _ _ _); k_dflt (refine' conv_next ?cB ?cF ?cX ?cN ?cT ?ck ?cd ?cu ?cO ?coff ?cq ?c0 ?c1 ?_; (case cB => k_asm); (case cF => k_asm); (case cX => k_asm); (case cN => first | assumption | exact Mine.News.sub1 (by assumption)); (case cT => k_asm); (case ck => exact rfl); (case cd => ktr_room); (case cu => ktr_units); (case cO => assumption); (case coff => assumption); (case cq => assumption); (case c0 => omega); (case c1 => omega)); intro r9 t9 tc9 h9 tk9 e9 F9 N9))
local macro_rules | `(tactic| walk_at "exec Raise some none") => `(tactic| (k_here; k_dflt (refine' conv_raise ?cO PySem.F.excBase_Exception ?ch ?ck ?cn ?_; (case cO => exact own_of_in (by k_asm) (by k_asm) (by k_is) (by k_exc)); (case ch => exact rfl); (case ck => exact Fr.keep (by k_asm)); (case cn => (intro Q' hQ'; refine' nameX_K ?F ?X ?T ?e hQ' ?a ?b; (case F => k_asm); (case X => k_asm); (case T => k_asm); (case a => rfl); (case b => rfl); (case e => k_is)))); intro h' e' t' hm'))
local macro_rules | `(tactic| walk_at "execs nil") => `(tactic| (k_here; refine wpAny_execs_nil ?_))
local macro_rules | `(tactic| walk_at "execs cons") => `(tactic| (k_here; refine wpAny_execs_cons ?_))
local macro_rules | `(tactic| walk_at "zz dummy") => `(tactic| fail)
theorem turn0_pyformat {w : World} {loose : List Str} {mean : ExcName → Option Value} {mg mb : Str → Option Value}
  {dp un : Nat} {gd : Option (List Code)} {outer : List Env} {A₀ : Around} {base h₀ : Heap} {L : Addr} {s : Shared} {Q : Flow → Shared → Prop} {E : Value → Shared → Prop}
  {M T x dd f c' lO lP : Addr} {co : Obj} {pm ctv v2 : Value} {t3 : Tok} {tc : Tok} {outV phV : List Value} {nO nP : Nat} {rest own : List (Addr × Obj)} {s0 s1 s2 s3 s4 s5 s6 tq : Tok} {q c : Str} {i : Nat} {st : CS} {u ti ts tst tp : Tok} {um : Str → Option Value}
  (B : Below A₀ base outer h₀) (F : Fr h₀ L s.heap (fun y => if y = Str.ofString "c" then some (.str c u) else if y = Str.ofString "i" then some (.int i ti) else kstB um (turnVals st ts tst tp (convConsts s0 s1 s2 s3 s4 s5 s6 tq q lP lO M)) y))
  (X : (hd.heap_39 w.params).In h₀) (N : News h₀ L s.heap (convLed M T x dd f c' lO lP co pm ctv v2 t3 st.cnt tc outV phV nO nP (rest ++ own))) (Tp : Top topProg loose mean mg mb h₀) (hdp : dp + 30 < recursionLimit) (hun : un + 200 < cLine)
  (hOr : Ords L M T x dd f c' lO lP) (hx : ∀ p ∈ rest ++ own, p.1 ≠ x) (hlO : ∀ p ∈ rest ++ own, p.1 ≠ lO) (hlP : ∀ p ∈ rest ++ own, p.1 ≠ lP) (hq : CodeIs co lamQ) (hlen : q.length ≤ 100000) (hi : (signs q)[i]? = some c) (hO : StrsAre outV st.out) (hP : StrsAre phV st.ph) (hb : Bnd st) (hst : st.state = 0) (hsty : st.style = Str.ofString "pyformat") (hcol : (c == Str.ofString ":") = true → ∃ b, (signs q)[i + 1]? = some ⟨#[b]⟩)
  (hE : ∀ m' news' hB tkB e h' vs, Fr h₀ L hB m' → News h₀ L hB news' → (∀ p ∈ (c', co) :: rest, p ∈ news') → Heap.MadeExcOf hB h' e (.ref 44) vs → cStep c (signs q)[i + 1]? st = none → E (.ref e) { s with heap := h', toks := tkB }) :
  wpAny (model PySem.Challenge.rw_ew0022_01.row.prog w) (ktrTop dp un gd (Str.ofString "convert_paramstyle") convScope L 113 (.ref 112) [(Str.ofString "args", L + 1)] outer) (execs convBody (envX (Str.ofString "convert_paramstyle") convScope L 113 (.ref 112) [(Str.ofString "args", L + 1)])) (ConvEnd h₀ L (convP (convConsts s0 s1 s2 s3 s4 s5 s6 tq q lP lO M) M T x dd f c' lO lP co pm ctv v2 t3 rest) own (cStep c (signs q)[i + 1]? st) s Q) E s := by
  have hi' : i < q.length := by rw [← signs_length]; exact (List.getElem?_eq_some_iff.mp hi).1
  obtain ⟨k1, k2, k3, k4, k5, k6, k7, k8, k9⟩ := id hOr
  obtain ⟨x0, state0, qe0, pe0, ph0, out0, cnt0, prev0⟩ := st
  obtain rfl : state0 = 0 := hst
  obtain rfl : x0 = Str.ofString "pyformat" := hsty
  have hoV : outV.length ≤ 100000 := by rw [hO.length]; exact hb.out
  have hpV : phV.length ≤ 100000 := by rw [hP.length]; exact hb.ph
  have hc0 : 0 ≤ cnt0 := Int.le_trans (by decide) hb.c1
  have hc1 : cnt0 < 1000000 := Int.lt_of_le_of_lt hb.c2 (by decide)
  revert X; k_fill; intro X
  (conv in convBody => whnf)
  (conv in (occs := *) convScope => all_goals whnf)
  (try dsimp only [kstB, turnVals] at F)
  (try dsimp only at N hO hP)
  (try k_fold)
  w_strict (k_steps)
  all_goals ((try subst_vars); first
    | (refine' hE _ _ _ _ _ _ _ ?cF ?cN ?cm ?cx ?cr; (case cx => assumption); (case cF => k_asm); (case cN => k_asm); (case cm => (intro p hp; rcases List.mem_cons.mp hp with rfl | hp; k_mem; (repeat (first | exact List.mem_append_left _ hp | refine List.Mem.tail _ ?_)))); (case cr => (rw [cStep_0]; simp only [*, cOut, Option.map_some, Option.map_none, sb_qmark_qmark, sb_qmark_numeric, sb_qmark_format, sb_qmark_named, sb_qmark_pyformat, sb_numeric_qmark, sb_numeric_numeric, sb_numeric_format, sb_numeric_named, sb_numeric_pyformat, sb_format_qmark, sb_format_numeric, sb_format_format, sb_format_named, sb_format_pyformat, sb_named_qmark, sb_named_numeric, sb_named_format, sb_named_named, sb_named_pyformat, sb_pyformat_qmark, sb_pyformat_numeric, sb_pyformat_format, sb_pyformat_named, sb_pyformat_pyformat, if_true, if_false, Bool.false_eq_true, Bool.and_true, Bool.and_false, Bool.true_and, Bool.false_and, Bool.or_true, Bool.or_false, Bool.true_or, Bool.false_or]; first | done | rfl)))
    | (rw [cStep_0]; simp only [*, cOut, Option.map_some, sb_qmark_qmark, sb_qmark_numeric, sb_qmark_format, sb_qmark_named, sb_qmark_pyformat, sb_numeric_qmark, sb_numeric_numeric, sb_numeric_format, sb_numeric_named, sb_numeric_pyformat, sb_format_qmark, sb_format_numeric, sb_format_format, sb_format_named, sb_format_pyformat, sb_named_qmark, sb_named_numeric, sb_named_format, sb_named_named, sb_named_pyformat, sb_pyformat_qmark, sb_pyformat_numeric, sb_pyformat_format, sb_pyformat_named, sb_pyformat_pyformat, if_true, if_false, Bool.false_eq_true, Bool.and_true, Bool.and_false, Bool.true_and, Bool.false_and, Bool.or_true, Bool.or_false, Bool.true_or, Bool.false_or]; (refine' conv_leaf ?cF ?cN ?c1 ?c2 ?c3 ?c4 ?c5 ?c6 ?cm ?cO ?cP ?cr; (case cr => exact rfl); (case cF => k_asm); (case cN => k_asm); (case c1 => exact rfl); (case c2 => exact rfl); (case c3 => exact rfl); (case c4 => exact rfl); (case c5 => exact rfl); (case c6 => (intro p hp; simp only [convConsts, List.mem_cons, List.not_mem_nil, or_false] at hp; rcases hp with rfl | rfl | rfl | rfl | rfl | rfl | rfl | rfl | rfl | rfl | rfl <;> kernel_rfl)); (case cm => (refine' led_mem ?a1 ?a2 ?a3 ?a4 ?a5 ?a6 ?a7 ?a8 ?a9; (case a1 => k_mem); (case a2 => k_mem); (case a3 => k_mem); (case a4 => k_mem); (case a5 => k_mem); (case a6 => k_mem); (case a7 => k_mem); (case a8 => k_mem); (case a9 => (intro p hp; repeat (first | exact hp | refine List.Mem.tail _ ?_))))); (case cO => first | assumption | exact strs_snoc (by assumption)); (case cP => first | assumption | exact strs_snoc (by assumption)))))
end
section
local macro_rules | `(tactic| k_all) => `(tactic| assumption)
local macro_rules | `(tactic| walk_at "eval IfExp") => `(tactic| ((with_reducible show wpAny _ _ (eval (Expr.IfExp (Expr.Compare (Expr.BinOp _ _ _ _) _ _ _) (Expr.Subscript _ _ _) (Expr.Constant _ _ _) _) _) _ _ _); k_here; refine conv_join (l := signs _) (by assumption) ?_ ?_; rotate_left; intro t8 k8; rotate_left))
local macro_rules | `(tactic| walk_at "NextIs") => `(tactic| first | exact next_some (by omega) | exact next_none (by omega))
local macro_rules | `(tactic| walk_at "compareOp") => `(tactic| ((with_reducible show wpAny _ _ (compareOp _ (optVal _ _) (Value.str _ _)) _ _ _); first | refine conv_eqOpt ?_ | refine conv_neOpt ?_))
local macro_rules | `(tactic| walk_at "call builtin:list.append") => `(tactic| (k_here; (with_reducible show wpAny _ _ (call (Value.builtin _) [Value.ref _, _]) _ _ _); k_dflt (refine' conv_append ?cF ?cN ?cU ?cz ?_; (case cF => k_asm); (case cN => k_asm); (case cU => k_upd); (case cz => omega); k_whole); intro h' F' N'))
local macro_rules | `(tactic| walk_at "exec If") => `(tactic| refine wpAny_If ?_)
local macro_rules | `(tactic| k_room) => `(tactic| ktr_room)
local macro_rules | `(tactic| k_units) => `(tactic| ktr_units)
local macro_rules | `(tactic| walk_at "compareOp") => `(tactic| ((with_reducible show wpAny _ _ (compareOp .NotIn (optVal _ _) (Value.str _ _)) _ _ _); refine conv_notin (by assumption) (by assumption) ?_))
local macro_rules | `(tactic| walk_at "call builtin:next") => `(tactic| (k_here; (with_reducible show wpAny _ _ (call (Value.builtin "next") [Value.ref _]) _ _ _); k_dflt (refine' conv_next ?cB ?cF ?cX ?cN ?cT ?ck ?cd ?cu ?cO ?coff ?cq ?c0 ?c1 ?_; (case cB => k_asm); (case cF => k_asm); (case cX => k_asm); (case cN => first | assumption | exact Mine.News.sub1 (by assumption)); (case cT => k_asm); (case ck => exact rfl); (case cd => ktr_room); (case cu => ktr_units); (case cO => assumption); (case coff => assumption); (case cq => assumption); (case c0 => omega); (case c1 => omega)); intro r9 t9 tc9 h9 tk9 e9 F9 N9))
local macro_rules | `(tactic| walk_at "eval IfExp") => `(tactic| ((with_reducible show wpAny _ _ (eval (Expr.IfExp (Expr.Compare (Expr.BinOp _ _ _ _) _ _ _) (Expr.Subscript _ _ _) (Expr.Constant _ _ _) _) _) _ _ _); k_here; (refine' conv_join2 (l := signs _) ?ch ?_ ?_ ?_; (case ch => assumption)); rotate_left; intro hn8 k8; rotate_left; intro b8 hn8 t8 k8; rotate_left))
theorem turn4_format {w : World} {loose : List Str} {mean : ExcName → Option Value} {mg mb : Str → Option Value}
  {dp un : Nat} {gd : Option (List Code)} {outer : List Env} {A₀ : Around} {base h₀ : Heap} {L : Addr} {s : Shared} {Q : Flow → Shared → Prop} {E : Value → Shared → Prop}
  {M T x dd f c' lO lP : Addr} {co : Obj} {pm ctv v2 : Value} {t3 : Tok} {tc : Tok} {outV phV : List Value} {nO nP : Nat} {rest own : List (Addr × Obj)} {s0 s1 s2 s3 s4 s5 s6 tq : Tok} {q c : Str} {i : Nat} {st : CS} {u ti ts tst tp : Tok} {um : Str → Option Value}
  (B : Below A₀ base outer h₀) (F : Fr h₀ L s.heap (fun y => if y = Str.ofString "c" then some (.str c u) else if y = Str.ofString "i" then some (.int i ti) else kstB um (turnVals st ts tst tp (convConsts s0 s1 s2 s3 s4 s5 s6 tq q lP lO M)) y))
  (X : (hd.heap_39 w.params).In h₀) (N : News h₀ L s.heap (convLed M T x dd f c' lO lP co pm ctv v2 t3 st.cnt tc outV phV nO nP (rest ++ own))) (Tp : Top topProg loose mean mg mb h₀) (hdp : dp + 30 < recursionLimit) (hun : un + 200 < cLine)
  (hOr : Ords L M T x dd f c' lO lP) (hx : ∀ p ∈ rest ++ own, p.1 ≠ x) (hlO : ∀ p ∈ rest ++ own, p.1 ≠ lO) (hlP : ∀ p ∈ rest ++ own, p.1 ≠ lP) (hq : CodeIs co lamQ) (hlen : q.length ≤ 100000) (hi : (signs q)[i]? = some c) (hO : StrsAre outV st.out) (hP : StrsAre phV st.ph) (hb : Bnd st) (hst : st.state = 4) (hsty : st.style = Str.ofString "format")  :
  wpAny (model PySem.Challenge.rw_ew0022_01.row.prog w) (ktrTop dp un gd (Str.ofString "convert_paramstyle") convScope L 113 (.ref 112) [(Str.ofString "args", L + 1)] outer) (execs convBody (envX (Str.ofString "convert_paramstyle") convScope L 113 (.ref 112) [(Str.ofString "args", L + 1)])) (ConvEnd h₀ L (convP (convConsts s0 s1 s2 s3 s4 s5 s6 tq q lP lO M) M T x dd f c' lO lP co pm ctv v2 t3 rest) own (cStep c (signs q)[i + 1]? st) s Q) E s := by
  have hi' : i < q.length := by rw [← signs_length]; exact (List.getElem?_eq_some_iff.mp hi).1
  obtain ⟨k1, k2, k3, k4, k5, k6, k7, k8, k9⟩ := id hOr
  obtain ⟨x0, state0, qe0, pe0, ph0, out0, cnt0, prev0⟩ := st
  obtain rfl : state0 = 4 := hst
  obtain rfl : x0 = Str.ofString "format" := hsty
  have hoV : outV.length ≤ 100000 := by rw [hO.length]; exact hb.out
  have hpV : phV.length ≤ 100000 := by rw [hP.length]; exact hb.ph
  have hc0 : 0 ≤ cnt0 := Int.le_trans (by decide) hb.c1
  have hc1 : cnt0 < 1000000 := Int.lt_of_le_of_lt hb.c2 (by decide)
  revert X; k_fill; intro X
  (conv in convBody => whnf)
  (conv in (occs := *) convScope => all_goals whnf)
  (try dsimp only [kstB, turnVals] at F)
  (try dsimp only at N hO hP)
  (try k_fold)
  w_strict (k_steps)
  all_goals ((try subst_vars); rw [cStep_4]; simp only [*, cPn, phEnd, sb_qmark_qmark, sb_qmark_numeric, sb_qmark_format, sb_qmark_named, sb_qmark_pyformat, sb_numeric_qmark, sb_numeric_numeric, sb_numeric_format, sb_numeric_named, sb_numeric_pyformat, sb_format_qmark, sb_format_numeric, sb_format_format, sb_format_named, sb_format_pyformat, sb_named_qmark, sb_named_numeric, sb_named_format, sb_named_named, sb_named_pyformat, sb_pyformat_qmark, sb_pyformat_numeric, sb_pyformat_format, sb_pyformat_named, sb_pyformat_pyformat, if_true, if_false, Bool.false_eq_true, Bool.and_true, Bool.and_false, Bool.true_and, Bool.false_and, Bool.or_true, Bool.or_false, Bool.true_or, Bool.false_or]; (refine' conv_leaf ?cF ?cN ?c1 ?c2 ?c3 ?c4 ?c5 ?c6 ?cm ?cO ?cP ?cr; (case cr => exact rfl); (case cF => k_asm); (case cN => k_asm); (case c1 => exact rfl); (case c2 => exact rfl); (case c3 => exact rfl); (case c4 => exact rfl); (case c5 => exact rfl); (case c6 => (intro p hp; simp only [convConsts, List.mem_cons, List.not_mem_nil, or_false] at hp; rcases hp with rfl | rfl | rfl | rfl | rfl | rfl | rfl | rfl | rfl | rfl | rfl <;> kernel_rfl)); (case cm => (refine' led_mem ?a1 ?a2 ?a3 ?a4 ?a5 ?a6 ?a7 ?a8 ?a9; (case a1 => k_mem); (case a2 => k_mem); (case a3 => k_mem); (case a4 => k_mem); (case a5 => k_mem); (case a6 => k_mem); (case a7 => k_mem); (case a8 => k_mem); (case a9 => (intro p hp; repeat (first | exact hp | refine List.Mem.tail _ ?_))))); (case cO => first | assumption | exact strs_snoc (by assumption)); (case cP => first | assumption | exact strs_snoc (by assumption))))
end
end
section
set_option maxHeartbeats 3000000
section
local macro_rules | `(tactic| k_all) => `(tactic| assumption)
local macro_rules | `(tactic| walk_at "eval IfExp") => `(tactic| ((with_reducible show wpAny _ _ (eval (Expr.IfExp (Expr.Compare (Expr.BinOp _ _ _ _) _ _ _) (Expr.Subscript _ _ _) (Expr.Constant _ _ _) _) _) _ _ _); k_here; refine conv_join (l := signs _) (by assumption) ?_ ?_; rotate_left; intro t8 k8; rotate_left))
local macro_rules | `(tactic| walk_at "NextIs") => `(tactic| first | exact next_some (by omega) | exact next_none (by omega))
local macro_rules | `(tactic| walk_at "compareOp") => `(tactic| ((with_reducible show wpAny _ _ (compareOp _ (optVal _ _) (Value.str _ _)) _ _ _); first | refine conv_eqOpt ?_ | refine conv_neOpt ?_))
local macro_rules | `(tactic| walk_at "call builtin:list.append") => `(tactic| (k_here; (with_reducible show wpAny _ _ (call (Value.builtin _) [Value.ref _, _]) _ _ _); k_dflt (refine' conv_append ?cF ?cN ?cU ?cz ?_; (case cF => k_asm); (case cN => k_asm); (case cU => k_upd); (case cz => omega); k_whole); intro h' F' N'))
local macro_rules | `(tactic| walk_at "exec If") => `(tactic| refine wpAny_If ?_)
local macro_rules | `(tactic| k_room) => `(tactic| ktr_room)
local macro_rules | `(tactic| k_units) => `(tactic| ktr_units)
local macro_rules | `(tactic| walk_at "compareOp") => `(tactic| ((with_reducible show wpAny _ _ (compareOp .NotIn (optVal _ _) (Value.str _ _)) _ _ _); refine conv_notin (by assumption) (by assumption) ?_))
local macro_rules | `(tactic| walk_at "call builtin:next") => `(tactic| (k_here; (with_reducible show wpAny _ _ (call (Value.builtin "next") [Value.ref _]) _ _ _); k_dflt (refine' conv_next ?cB ?cF ?cX ?cN ?cT ?ck ?cd ?cu ?cO ?coff ?cq ?c0 ?c1 ?_; (case cB => k_asm); (case cF => k_asm); (case cX => k_asm); (case cN => first | assumption | exact Mine.News.sub1 (by assumption)); (case cT => k_asm); (case ck => exact rfl); (case cd => ktr_room); (case cu => ktr_units); (case cO => assumption); (case coff => assumption); (case cq => assumption); (case c0 => omega); (case c1 => omega)); intro r9 t9 tc9 h9 tk9 e9 F9 N9))
local macro_rules | `(tactic| walk_at "eval IfExp") => `(tactic| ((with_reducible show wpAny _ _ (eval (Expr.IfExp (Expr.Compare (Expr.BinOp _ _ _ _) _ _ _) (Expr.Subscript _ _ _) (Expr.Constant _ _ _) _) _) _ _ _); k_here; (refine' conv_join2 (l := signs _) ?ch ?_ ?_ ?_; (case ch => assumption)); rotate_left; intro hn8 k8; rotate_left; intro b8 hn8 t8 k8; rotate_left))
local macro_rules | `(tactic| walk_at "getItem ref") => `(tactic| (k_here; k_dflt (refine' last_getItem ?cN ?cm ?cz ?_; (case cN => k_asm); (case cm => k_mem); (case cz => omega); k_whole)))
local macro_rules | `(tactic| walk_at "setItem ref") => `(tactic| (k_here; k_dflt (refine' last_setItem ?cF ?cN ?cU ?cz ?_; (case cF => k_asm); (case cN => k_asm); (case cU => k_upd); (case cz => omega); k_whole); intro h' F' N'))
local macro_rules | `(tactic| walk_at "delItem ref") => `(tactic| (k_here; k_dflt (refine' last_delItem ?cF ?cN ?cU ?cz ?_; (case cF => k_asm); (case cN => k_asm); (case cU => k_upd); (case cz => omega); k_whole); intro h' F' N'))
local macro_rules | `(tactic| walk_at "subscriptTail") => `(tactic| (k_here; k_dflt (refine' init_slice ?cF ?cN ?cm ?cz ?_ ?ca ?cb; (case cF => k_asm); (case cN => k_asm); (case cm => k_mem); (case cz => omega); (case ca => with_unfolding_all rfl); (case cb => (intro _; with_unfolding_all rfl)); k_whole); intro D' h' F' N' l9; have l8 := l9 _ (List.Mem.head _); clear l9; dsimp only at l8))
local macro_rules | `(tactic| walk_at "subscriptTail") => `(tactic| (k_here; (with_reducible show wpAny _ _ (subscriptTail _ (Expr.UnaryOp _ _ _) (Value.ref _) (Value.int _ _)) _ _ _); k_dflt (refine' last_sub ?cN ?cm ?cz ?_ ?ca; (case cN => k_asm); (case cm => k_mem); (case cz => omega); (case ca => with_unfolding_all rfl); k_whole)))
local macro_rules | `(tactic| walk_at "call builtin:list.index") => `(tactic| (k_here; (with_reducible show wpAny _ _ (call (Value.builtin _) [Value.ref _, Value.str _ _]) _ _ _); k_dflt (refine' index_strs ?ch ?cN ?cm ?cS ?cz ?cx ?_ ?_; (case ch => rfl); (case cN => k_asm); (case cm => k_mem); (case cS => assumption); (case cz => omega); (case cx => assumption)); (first | (intro hin; skip) | skip)))
local macro_rules | `(tactic| walk_at "exec Try") => `(tactic| (k_here; refine wpAny_Try_except ?_))
local macro_rules | `(tactic| walk_at "noteFrame ref") => `(tactic| (k_here; (rename Heap.NewExc _ _ _ _ => nx9); k_dflt (refine' caughtX_new ?cK ?cA nx9 ?cF ?cN ?cXB ?cTB ?cD ?cex PyProof.Rows.Boot.«ValueError» ?cn PySem.F.isExc_ValueError PySem.F.notTuple_ValueError PySem.F.self_ValueError ?_ ?ck ?cx ?cd ?cE; (case cK => k_asm); (case cA => exact rfl); (case cF => k_asm); (case cN => k_asm); (case cXB => assumption); (case cTB => assumption); (case cD => assumption); (case cex => k_is); (case cn => decide); (case ck => exact rfl); (case cx => exact rfl); (case cd => decide); (case cE => ((rename ∀ e, PassesOwnAt _ (Around.mark _ (some (Value.ref e))) _ _ _ => po9); exact po9 _))); clear nx9; intro h' g' T' F' N' K' X' P' D'))
local macro_rules | `(tactic| walk_at "call builtin:len") => `(tactic| (k_here; (with_reducible show wpAny _ _ (call (Value.builtin "len") [Value.ref _]) _ _ _); k_dflt (refine' len_last ?cN ?cm ?cz ?ck ?_; (case cN => k_asm); (case cm => k_mem); (case cz => omega); (case ck => (with_reducible exact StrsAre.length (by assumption))); k_whole)))
local macro_rules | `(tactic| walk_at "compareOp In str str") => `(tactic| ((with_reducible show wpAny _ _ (compareOp .In (Value.str _ _) (Value.str (Str.ofString "()") _)) _ _ _); refine conv_inPar (by assumption) ?_))
local macro_rules | `(tactic| walk_at "compareOp") => `(tactic| ((with_reducible show wpAny _ _ (compareOp .In (Value.str _ _) (Value.str (Str.ofString "()") _)) _ _ _); refine conv_inPar (by assumption) ?_))
theorem turn4_named {w : World} {loose : List Str} {mean : ExcName → Option Value} {mg mb : Str → Option Value}
  {dp un : Nat} {gd : Option (List Code)} {outer : List Env} {A₀ : Around} {base h₀ : Heap} {L : Addr} {s : Shared} {Q : Flow → Shared → Prop} {E : Value → Shared → Prop}
  {M T x dd f c' lO lP : Addr} {co : Obj} {pm ctv v2 : Value} {t3 : Tok} {tc : Tok} {outV phV : List Value} {nO nP : Nat} {rest own : List (Addr × Obj)} {s0 s1 s2 s3 s4 s5 s6 tq : Tok} {q c : Str} {i : Nat} {st : CS} {u ti ts tst tp : Tok} {um : Str → Option Value}
  (B : Below A₀ base outer h₀) (F : Fr h₀ L s.heap (fun y => if y = Str.ofString "c" then some (.str c u) else if y = Str.ofString "i" then some (.int i ti) else kstB um (turnVals st ts tst tp (convConsts s0 s1 s2 s3 s4 s5 s6 tq q lP lO M)) y))
  (X : (hd.heap_39 w.params).In h₀) (N : News h₀ L s.heap (convLed M T x dd f c' lO lP co pm ctv v2 t3 st.cnt tc outV phV nO nP (rest ++ own))) (Tp : Top topProg loose mean mg mb h₀) (hdp : dp + 30 < recursionLimit) (hun : un + 200 < cLine)
  (hOr : Ords L M T x dd f c' lO lP) (hx : ∀ p ∈ rest ++ own, p.1 ≠ x) (hlO : ∀ p ∈ rest ++ own, p.1 ≠ lO) (hlP : ∀ p ∈ rest ++ own, p.1 ≠ lP) (hq : CodeIs co lamQ) (hlen : q.length ≤ 100000) (hi : (signs q)[i]? = some c) (hO : StrsAre outV st.out) (hP : StrsAre phV st.ph) (hb : Bnd st) (hst : st.state = 4) (hsty : st.style = Str.ofString "named") (hc9 : ∃ b, c = ⟨#[b]⟩) (hph : st.ph ≠ []) (hrep : ∀ x ∈ st.ph, (reprText (x ++ c)).length ≤ 2000000)
  (XB : (hd.heap_39 w.params).In base) (TB : Top topProg loose mean mg mb base) (D : KtsDicts (outer.filterMap (·.frame)) h₀)
  (hPO : ∀ e, PassesOwnAt (model PySem.Challenge.rw_ew0022_01.row.prog w) ((ktrTop dp un gd (Str.ofString "convert_paramstyle") convScope L 113 (.ref 112) [(Str.ofString "args", L + 1)] outer).mark (some (.ref e))) (ktrTop dp un gd (Str.ofString "convert_paramstyle") convScope L 113 (.ref 112) [(Str.ofString "args", L + 1)] outer) (envX (Str.ofString "convert_paramstyle") convScope L 113 (.ref 112) [(Str.ofString "args", L + 1)]) E) :
  wpAny (model PySem.Challenge.rw_ew0022_01.row.prog w) (ktrTop dp un gd (Str.ofString "convert_paramstyle") convScope L 113 (.ref 112) [(Str.ofString "args", L + 1)] outer) (execs convBody (envX (Str.ofString "convert_paramstyle") convScope L 113 (.ref 112) [(Str.ofString "args", L + 1)])) (ConvEndT A₀ base outer h₀ L (convP (convConsts s0 s1 s2 s3 s4 s5 s6 tq q lP lO M) M T x dd f c' lO lP co pm ctv v2 t3 rest) own (cStep c (signs q)[i + 1]? st) s Q) E s := by
  have hi' : i < q.length := by rw [← signs_length]; exact (List.getElem?_eq_some_iff.mp hi).1
  obtain ⟨k1, k2, k3, k4, k5, k6, k7, k8, k9⟩ := id hOr
  obtain ⟨x0, state0, qe0, pe0, ph0, out0, cnt0, prev0⟩ := st
  obtain rfl : state0 = 4 := hst
  obtain rfl : x0 = Str.ofString "named" := hsty
  obtain ⟨vi, pi, pl, tl, rfl, rfl, hPi⟩ := strs_last hP hph
  have hoV : outV.length ≤ 100000 := by rw [hO.length]; exact hb.out
  have hpI : pi.length + 1 ≤ 100000 := by have := hb.ph; simpa using this
  have hpV : vi.length ≤ 100000 := by rw [hPi.length]; omega
  have hpl : pl.length ≤ 100000 := hb.phl pl (by simp)
  have hrep' : (reprText (pl ++ c)).length ≤ 2000000 := hrep pl (by simp)
  have hix : List.idxOf (pl ++ c) pi ≤ 100000 := by have := List.idxOf_le_length (a := pl ++ c) (l := pi); omega
  have hcl : c.length = 1 := by obtain ⟨b, rfl⟩ := hc9; rfl
  have hc0 : 0 ≤ cnt0 := Int.le_trans (by decide) hb.c1
  have hc1 : cnt0 < 1000000 := Int.lt_of_le_of_lt hb.c2 (by decide)
  w_top off; k_with_none; revert X; k_fill; intro X
  (conv in convBody => whnf)
  (conv in (occs := *) convScope => all_goals whnf)
  (try dsimp only [kstB, turnVals] at F)
  (try dsimp only at N hO hP)
  (try k_fold)
  w_strict (k_steps)
  all_goals ((try subst_vars); rw [cStep_4]; simp only [*, cPn, phAdd_snoc, nameEnd, phEnd_in, phEnd_out, not_false_eq_true, sb_qmark_qmark, sb_qmark_numeric, sb_qmark_format, sb_qmark_named, sb_qmark_pyformat, sb_numeric_qmark, sb_numeric_numeric, sb_numeric_format, sb_numeric_named, sb_numeric_pyformat, sb_format_qmark, sb_format_numeric, sb_format_format, sb_format_named, sb_format_pyformat, sb_named_qmark, sb_named_numeric, sb_named_format, sb_named_named, sb_named_pyformat, sb_pyformat_qmark, sb_pyformat_numeric, sb_pyformat_format, sb_pyformat_named, sb_pyformat_pyformat, if_true, if_false, Bool.false_eq_true, Bool.and_true, Bool.and_false, Bool.true_and, Bool.false_and, Bool.or_true, Bool.or_false, Bool.true_or, Bool.false_or]; (refine' convEndT_intro ?xt ?xb ?xl; (case xl => (refine' conv_leaf ?cF ?cN ?c1 ?c2 ?c3 ?c4 ?c5 ?c6 ?cm ?cO ?cP ?cr; (case cr => exact rfl); (case cF => k_asm); (case cN => k_asm); (case c1 => exact rfl); (case c2 => exact rfl); (case c3 => exact rfl); (case c4 => exact rfl); (case c5 => exact rfl); (case c6 => (intro p hp; simp only [convConsts, List.mem_cons, List.not_mem_nil, or_false] at hp; rcases hp with rfl | rfl | rfl | rfl | rfl | rfl | rfl | rfl | rfl | rfl | rfl <;> kernel_rfl)); (case cm => (refine' led_mem ?a1 ?a2 ?a3 ?a4 ?a5 ?a6 ?a7 ?a8 ?a9; (case a1 => k_mem); (case a2 => k_mem); (case a3 => k_mem); (case a4 => k_mem); (case a5 => k_mem); (case a6 => k_mem); (case a7 => k_mem); (case a8 => k_mem); (case a9 => (intro p hp; repeat (first | exact hp | refine List.Mem.tail _ ?_))))); (case cO => first | assumption | exact strs_snoc (by assumption)); (case cP => first | assumption | exact strs_snoc (by assumption)))); (case xt => first | assumption | exact KtsTurn.refl); (case xb => k_asm)))
end
section
local macro_rules | `(tactic| k_all) => `(tactic| assumption)
local macro_rules | `(tactic| walk_at "eval IfExp") => `(tactic| ((with_reducible show wpAny _ _ (eval (Expr.IfExp (Expr.Compare (Expr.BinOp _ _ _ _) _ _ _) (Expr.Subscript _ _ _) (Expr.Constant _ _ _) _) _) _ _ _); k_here; refine conv_join (l := signs _) (by assumption) ?_ ?_; rotate_left; intro t8 k8; rotate_left))
local macro_rules | `(tactic| walk_at "NextIs") => `(tactic| first | exact next_some (by omega) | exact next_none (by omega))
local macro_rules | `(tactic| walk_at "compareOp") => `(tactic| ((with_reducible show wpAny _ _ (compareOp _ (optVal _ _) (Value.str _ _)) _ _ _); first | refine conv_eqOpt ?_ | refine conv_neOpt ?_))
local macro_rules | `(tactic| walk_at "call builtin:list.append") => `(tactic| (k_here; (with_reducible show wpAny _ _ (call (Value.builtin _) [Value.ref _, _]) _ _ _); k_dflt (refine' conv_append ?cF ?cN ?cU ?cz ?_; (case cF => k_asm); (case cN => k_asm); (case cU => k_upd); (case cz => omega); k_whole); intro h' F' N'))
local macro_rules | `(tactic| walk_at "exec If") => `(tactic| refine wpAny_If ?_)
local macro_rules | `(tactic| k_room) => `(tactic| ktr_room)
local macro_rules | `(tactic| k_units) => `(tactic| ktr_units)
local macro_rules | `(tactic| walk_at "compareOp") => `(tactic| ((with_reducible show wpAny _ _ (compareOp .NotIn (optVal _ _) (Value.str _ _)) _ _ _); refine conv_notin (by assumption) (by assumption) ?_))
local macro_rules | `(tactic| walk_at "call builtin:next") => `(tactic| (k_here; (with_reducible show wpAny _ _ (call (Value.builtin "next") [Value.ref _]) _ _ _); k_dflt (refine' conv_next ?cB ?cF ?cX ?cN ?cT ?ck ?cd ?cu ?cO ?coff ?cq ?c0 ?c1 ?_; (case cB => k_asm); (case cF => k_asm); (case cX => k_asm); (case cN => first | assumption | exact Mine.News.sub1 (by assumption)); (case cT => k_asm); (case ck => exact rfl); (case cd => ktr_room); (case cu => ktr_units); (case cO => assumption); (case coff => assumption); (case cq => assumption); (case c0 => omega); (case c1 => omega)); intro r9 t9 tc9 h9 tk9 e9 F9 N9))
local macro_rules | `(tactic| walk_at "eval IfExp") => `(tactic| ((with_reducible show wpAny _ _ (eval (Expr.IfExp (Expr.Compare (Expr.BinOp _ _ _ _) _ _ _) (Expr.Subscript _ _ _) (Expr.Constant _ _ _) _) _) _ _ _); k_here; (refine' conv_join2 (l := signs _) ?ch ?_ ?_ ?_; (case ch => assumption)); rotate_left; intro hn8 k8; rotate_left; intro b8 hn8 t8 k8; rotate_left))
local macro_rules | `(tactic| walk_at "getItem ref") => `(tactic| (k_here; k_dflt (refine' last_getItem ?cN ?cm ?cz ?_; (case cN => k_asm); (case cm => k_mem); (case cz => omega); k_whole)))
local macro_rules | `(tactic| walk_at "setItem ref") => `(tactic| (k_here; k_dflt (refine' last_setItem ?cF ?cN ?cU ?cz ?_; (case cF => k_asm); (case cN => k_asm); (case cU => k_upd); (case cz => omega); k_whole); intro h' F' N'))
local macro_rules | `(tactic| walk_at "delItem ref") => `(tactic| (k_here; k_dflt (refine' last_delItem ?cF ?cN ?cU ?cz ?_; (case cF => k_asm); (case cN => k_asm); (case cU => k_upd); (case cz => omega); k_whole); intro h' F' N'))
local macro_rules | `(tactic| walk_at "subscriptTail") => `(tactic| (k_here; k_dflt (refine' init_slice ?cF ?cN ?cm ?cz ?_ ?ca ?cb; (case cF => k_asm); (case cN => k_asm); (case cm => k_mem); (case cz => omega); (case ca => with_unfolding_all rfl); (case cb => (intro _; with_unfolding_all rfl)); k_whole); intro D' h' F' N' l9; have l8 := l9 _ (List.Mem.head _); clear l9; dsimp only at l8))
local macro_rules | `(tactic| walk_at "subscriptTail") => `(tactic| (k_here; (with_reducible show wpAny _ _ (subscriptTail _ (Expr.UnaryOp _ _ _) (Value.ref _) (Value.int _ _)) _ _ _); k_dflt (refine' last_sub ?cN ?cm ?cz ?_ ?ca; (case cN => k_asm); (case cm => k_mem); (case cz => omega); (case ca => with_unfolding_all rfl); k_whole)))
local macro_rules | `(tactic| walk_at "call builtin:list.index") => `(tactic| (k_here; (with_reducible show wpAny _ _ (call (Value.builtin _) [Value.ref _, Value.str _ _]) _ _ _); k_dflt (refine' index_strs ?ch ?cN ?cm ?cS ?cz ?cx ?_ ?_; (case ch => rfl); (case cN => k_asm); (case cm => k_mem); (case cS => assumption); (case cz => omega); (case cx => assumption)); (first | (intro hin; skip) | skip)))
local macro_rules | `(tactic| walk_at "exec Try") => `(tactic| (k_here; refine wpAny_Try_except ?_))
local macro_rules | `(tactic| walk_at "noteFrame ref") => `(tactic| (k_here; (rename Heap.NewExc _ _ _ _ => nx9); k_dflt (refine' caughtX_new ?cK ?cA nx9 ?cF ?cN ?cXB ?cTB ?cD ?cex PyProof.Rows.Boot.«ValueError» ?cn PySem.F.isExc_ValueError PySem.F.notTuple_ValueError PySem.F.self_ValueError ?_ ?ck ?cx ?cd ?cE; (case cK => k_asm); (case cA => exact rfl); (case cF => k_asm); (case cN => k_asm); (case cXB => assumption); (case cTB => assumption); (case cD => assumption); (case cex => k_is); (case cn => decide); (case ck => exact rfl); (case cx => exact rfl); (case cd => decide); (case cE => ((rename ∀ e, PassesOwnAt _ (Around.mark _ (some (Value.ref e))) _ _ _ => po9); exact po9 _))); clear nx9; intro h' g' T' F' N' K' X' P' D'))
local macro_rules | `(tactic| walk_at "call builtin:len") => `(tactic| (k_here; (with_reducible show wpAny _ _ (call (Value.builtin "len") [Value.ref _]) _ _ _); k_dflt (refine' len_last ?cN ?cm ?cz ?ck ?_; (case cN => k_asm); (case cm => k_mem); (case cz => omega); (case ck => (with_reducible exact StrsAre.length (by assumption))); k_whole)))
local macro_rules | `(tactic| walk_at "compareOp In str str") => `(tactic| ((with_reducible show wpAny _ _ (compareOp .In (Value.str _ _) (Value.str (Str.ofString "()") _)) _ _ _); refine conv_inPar (by assumption) ?_))
local macro_rules | `(tactic| walk_at "compareOp") => `(tactic| ((with_reducible show wpAny _ _ (compareOp .In (Value.str _ _) (Value.str (Str.ofString "()") _)) _ _ _); refine conv_inPar (by assumption) ?_))
local macro_rules | `(tactic| walk_at "zz dummy") => `(tactic| fail)
theorem turn4_pyformat {w : World} {loose : List Str} {mean : ExcName → Option Value} {mg mb : Str → Option Value}
  {dp un : Nat} {gd : Option (List Code)} {outer : List Env} {A₀ : Around} {base h₀ : Heap} {L : Addr} {s : Shared} {Q : Flow → Shared → Prop} {E : Value → Shared → Prop}
  {M T x dd f c' lO lP : Addr} {co : Obj} {pm ctv v2 : Value} {t3 : Tok} {tc : Tok} {outV phV : List Value} {nO nP : Nat} {rest own : List (Addr × Obj)} {s0 s1 s2 s3 s4 s5 s6 tq : Tok} {q c : Str} {i : Nat} {st : CS} {u ti ts tst tp : Tok} {um : Str → Option Value}
  (B : Below A₀ base outer h₀) (F : Fr h₀ L s.heap (fun y => if y = Str.ofString "c" then some (.str c u) else if y = Str.ofString "i" then some (.int i ti) else kstB um (turnVals st ts tst tp (convConsts s0 s1 s2 s3 s4 s5 s6 tq q lP lO M)) y))
  (X : (hd.heap_39 w.params).In h₀) (N : News h₀ L s.heap (convLed M T x dd f c' lO lP co pm ctv v2 t3 st.cnt tc outV phV nO nP (rest ++ own))) (Tp : Top topProg loose mean mg mb h₀) (hdp : dp + 30 < recursionLimit) (hun : un + 200 < cLine)
  (hOr : Ords L M T x dd f c' lO lP) (hx : ∀ p ∈ rest ++ own, p.1 ≠ x) (hlO : ∀ p ∈ rest ++ own, p.1 ≠ lO) (hlP : ∀ p ∈ rest ++ own, p.1 ≠ lP) (hq : CodeIs co lamQ) (hlen : q.length ≤ 100000) (hi : (signs q)[i]? = some c) (hO : StrsAre outV st.out) (hP : StrsAre phV st.ph) (hb : Bnd st) (hst : st.state = 4) (hsty : st.style = Str.ofString "pyformat") (hc9 : ∃ b, c = ⟨#[b]⟩) (hph : st.ph ≠ []) (hrep : ∀ x ∈ st.ph, (reprText x).length ≤ 2000000)
  (XB : (hd.heap_39 w.params).In base) (TB : Top topProg loose mean mg mb base) (D : KtsDicts (outer.filterMap (·.frame)) h₀)
  (hPO : ∀ e, PassesOwnAt (model PySem.Challenge.rw_ew0022_01.row.prog w) ((ktrTop dp un gd (Str.ofString "convert_paramstyle") convScope L 113 (.ref 112) [(Str.ofString "args", L + 1)] outer).mark (some (.ref e))) (ktrTop dp un gd (Str.ofString "convert_paramstyle") convScope L 113 (.ref 112) [(Str.ofString "args", L + 1)] outer) (envX (Str.ofString "convert_paramstyle") convScope L 113 (.ref 112) [(Str.ofString "args", L + 1)]) E) :
  wpAny (model PySem.Challenge.rw_ew0022_01.row.prog w) (ktrTop dp un gd (Str.ofString "convert_paramstyle") convScope L 113 (.ref 112) [(Str.ofString "args", L + 1)] outer) (execs convBody (envX (Str.ofString "convert_paramstyle") convScope L 113 (.ref 112) [(Str.ofString "args", L + 1)])) (ConvEndT A₀ base outer h₀ L (convP (convConsts s0 s1 s2 s3 s4 s5 s6 tq q lP lO M) M T x dd f c' lO lP co pm ctv v2 t3 rest) own (cStep c (signs q)[i + 1]? st) s Q) E s := by
  have hi' : i < q.length := by rw [← signs_length]; exact (List.getElem?_eq_some_iff.mp hi).1
  obtain ⟨k1, k2, k3, k4, k5, k6, k7, k8, k9⟩ := id hOr
  obtain ⟨x0, state0, qe0, pe0, ph0, out0, cnt0, prev0⟩ := st
  obtain rfl : state0 = 4 := hst
  obtain rfl : x0 = Str.ofString "pyformat" := hsty
  obtain ⟨vi, pi, pl, tl, rfl, rfl, hPi⟩ := strs_last hP hph
  have hoV : outV.length ≤ 100000 := by rw [hO.length]; exact hb.out
  have hpI : pi.length + 1 ≤ 100000 := by have := hb.ph; simpa using this
  have hpV : vi.length ≤ 100000 := by rw [hPi.length]; omega
  have hpl : pl.length ≤ 100000 := hb.phl pl (by simp)
  have hrep' : (reprText pl).length ≤ 2000000 := hrep pl (by simp)
  have hix : List.idxOf pl pi ≤ 100000 := by have := List.idxOf_le_length (a := pl) (l := pi); omega
  have hcl : c.length = 1 := by obtain ⟨b, rfl⟩ := hc9; rfl
  have hc0 : 0 ≤ cnt0 := Int.le_trans (by decide) hb.c1
  have hc1 : cnt0 < 1000000 := Int.lt_of_le_of_lt hb.c2 (by decide)
  revert X; k_fill; intro X
  (conv in convBody => whnf)
  (conv in (occs := *) convScope => all_goals whnf)
  (try dsimp only [kstB, turnVals] at F)
  (try dsimp only at N hO hP)
  (try k_fold)
  w_strict (k_steps)
  all_goals ((try subst_vars); rw [cStep_4]; simp only [*, cPn, phAdd_snoc, nameEnd, phEnd_in, phEnd_out, not_false_eq_true, sb_qmark_qmark, sb_qmark_numeric, sb_qmark_format, sb_qmark_named, sb_qmark_pyformat, sb_numeric_qmark, sb_numeric_numeric, sb_numeric_format, sb_numeric_named, sb_numeric_pyformat, sb_format_qmark, sb_format_numeric, sb_format_format, sb_format_named, sb_format_pyformat, sb_named_qmark, sb_named_numeric, sb_named_format, sb_named_named, sb_named_pyformat, sb_pyformat_qmark, sb_pyformat_numeric, sb_pyformat_format, sb_pyformat_named, sb_pyformat_pyformat, if_true, if_false, Bool.false_eq_true, Bool.and_true, Bool.and_false, Bool.true_and, Bool.false_and, Bool.or_true, Bool.or_false, Bool.true_or, Bool.false_or]; (refine' convEndT_intro ?xt ?xb ?xl; (case xl => (refine' conv_leaf ?cF ?cN ?c1 ?c2 ?c3 ?c4 ?c5 ?c6 ?cm ?cO ?cP ?cr; (case cr => exact rfl); (case cF => k_asm); (case cN => k_asm); (case c1 => exact rfl); (case c2 => exact rfl); (case c3 => exact rfl); (case c4 => exact rfl); (case c5 => exact rfl); (case c6 => (intro p hp; simp only [convConsts, List.mem_cons, List.not_mem_nil, or_false] at hp; rcases hp with rfl | rfl | rfl | rfl | rfl | rfl | rfl | rfl | rfl | rfl | rfl <;> kernel_rfl)); (case cm => (refine' led_mem ?a1 ?a2 ?a3 ?a4 ?a5 ?a6 ?a7 ?a8 ?a9; (case a1 => k_mem); (case a2 => k_mem); (case a3 => k_mem); (case a4 => k_mem); (case a5 => k_mem); (case a6 => k_mem); (case a7 => k_mem); (case a8 => k_mem); (case a9 => (intro p hp; repeat (first | exact hp | refine List.Mem.tail _ ?_))))); (case cO => first | assumption | exact strs_snoc (by assumption)); (case cP => first | assumption | exact strs_snoc (by assumption)))); (case xt => first | assumption | exact KtsTurn.refl); (case xb => k_asm)))
end
end
section
set_option maxHeartbeats 3000000
theorem conv_turn {w : World} {loose : List Str} {mean : ExcName → Option Value} {mg mb : Str → Option Value}
  {dp un : Nat} {gd : Option (List Code)} {outer : List Env} {A₀ : Around} {base h₀ : Heap} {L : Addr} {s : Shared} {Q : Flow → Shared → Prop} {E : Value → Shared → Prop}
  {M T x dd f c' lO lP : Addr} {co : Obj} {pm ctv v2 : Value} {t3 : Tok} {tc : Tok} {outV phV : List Value} {nO nP : Nat} {rest own : List (Addr × Obj)} {s0 s1 s2 s3 s4 s5 s6 tq : Tok} {q c : Str} {i : Nat} {st : CS} {u ti ts tst tp : Tok} {um : Str → Option Value}
  (B : Below A₀ base outer h₀) (F : Fr h₀ L s.heap (fun y => if y = Str.ofString "c" then some (.str c u) else if y = Str.ofString "i" then some (.int i ti) else kstB um (turnVals st ts tst tp (convConsts s0 s1 s2 s3 s4 s5 s6 tq q lP lO M)) y))
  (X : (hd.heap_39 w.params).In h₀) (N : News h₀ L s.heap (convLed M T x dd f c' lO lP co pm ctv v2 t3 st.cnt tc outV phV nO nP (rest ++ own))) (Tp : Top topProg loose mean mg mb h₀) (hdp : dp + 30 < recursionLimit) (hun : un + 200 < cLine)
  (hOr : Ords L M T x dd f c' lO lP) (hx : ∀ p ∈ rest ++ own, p.1 ≠ x) (hlO : ∀ p ∈ rest ++ own, p.1 ≠ lO) (hlP : ∀ p ∈ rest ++ own, p.1 ≠ lP) (hq : CodeIs co lamQ) (hlen : q.length ≤ 100000) (hi : (signs q)[i]? = some c) (hO : StrsAre outV st.out) (hP : StrsAre phV st.ph) (hb : Bnd st) {x0 : Str} (hinv : CInv x0 i st) (hx5 : x0 = Str.ofString "qmark" ∨ x0 = Str.ofString "numeric" ∨ x0 = Str.ofString "format" ∨ x0 = Str.ofString "named" ∨ x0 = Str.ofString "pyformat")
  (hcol : (c == Str.ofString ":") = true → ∃ b, (signs q)[i + 1]? = some ⟨#[b]⟩) (hch : ∀ b ∈ q.cps.toList, b < 16 ^ 8)
  (XB : (hd.heap_39 w.params).In base) (TB : Top topProg loose mean mg mb base) (D : KtsDicts (outer.filterMap (·.frame)) h₀)
  (hE : ∀ m' news' hB tkB e h' vs, Fr h₀ L hB m' → News h₀ L hB news' → (∀ p ∈ (c', co) :: rest, p ∈ news') → Heap.MadeExcOf hB h' e (.ref 44) vs → cStep c (signs q)[i + 1]? st = none → E (.ref e) { s with heap := h', toks := tkB })
  (hPO : ∀ e, PassesOwnAt (model PySem.Challenge.rw_ew0022_01.row.prog w) ((ktrTop dp un gd (Str.ofString "convert_paramstyle") convScope L 113 (.ref 112) [(Str.ofString "args", L + 1)] outer).mark (some (.ref e))) (ktrTop dp un gd (Str.ofString "convert_paramstyle") convScope L 113 (.ref 112) [(Str.ofString "args", L + 1)] outer) (envX (Str.ofString "convert_paramstyle") convScope L 113 (.ref 112) [(Str.ofString "args", L + 1)]) E) :
  wpAny (model PySem.Challenge.rw_ew0022_01.row.prog w) (ktrTop dp un gd (Str.ofString "convert_paramstyle") convScope L 113 (.ref 112) [(Str.ofString "args", L + 1)] outer) (execs convBody (envX (Str.ofString "convert_paramstyle") convScope L 113 (.ref 112) [(Str.ofString "args", L + 1)])) (ConvEndT A₀ base outer h₀ L (convP (convConsts s0 s1 s2 s3 s4 s5 s6 tq q lP lO M) M T x dd f c' lO lP co pm ctv v2 t3 rest) own (cStep c (signs q)[i + 1]? st) s Q) E s := by
  have hi' : i < q.length := by rw [← signs_length]; exact (List.getElem?_eq_some_iff.mp hi).1
  obtain ⟨b, hcb, hbq⟩ := signs_chars hi
  have hc9 : ∃ b, c = ⟨#[b]⟩ := ⟨b, hcb⟩
  have plain : wpAny (model PySem.Challenge.rw_ew0022_01.row.prog w) (ktrTop dp un gd (Str.ofString "convert_paramstyle") convScope L 113 (.ref 112) [(Str.ofString "args", L + 1)] outer) (execs convBody (envX (Str.ofString "convert_paramstyle") convScope L 113 (.ref 112) [(Str.ofString "args", L + 1)])) (ConvEnd h₀ L (convP (convConsts s0 s1 s2 s3 s4 s5 s6 tq q lP lO M) M T x dd f c' lO lP co pm ctv v2 t3 rest) own (cStep c (signs q)[i + 1]? st) s Q) E s →
    wpAny (model PySem.Challenge.rw_ew0022_01.row.prog w) (ktrTop dp un gd (Str.ofString "convert_paramstyle") convScope L 113 (.ref 112) [(Str.ofString "args", L + 1)] outer) (execs convBody (envX (Str.ofString "convert_paramstyle") convScope L 113 (.ref 112) [(Str.ofString "args", L + 1)])) (ConvEndT A₀ base outer h₀ L (convP (convConsts s0 s1 s2 s3 s4 s5 s6 tq q lP lO M) M T x dd f c' lO lP co pm ctv v2 t3 rest) own (cStep c (signs q)[i + 1]? st) s Q) E s :=
    fun h => wpAny_mono h (fun _ _ hl => convEndT_of B hl) fun _ _ e => e
  have hrep : ∀ y ∈ st.ph, (reprText y).length ≤ 2000000 := fun y hy => by
    have := StrLaws.reprText_len y (hinv.phc y hy)
    have := hb.phl y hy
    omega
  have hrep2 : ∀ y ∈ st.ph, (reprText (y ++ c)).length ≤ 2000000 := fun y hy => by
    have h1 := StrLaws.reprText_len (y ++ c) (fun d hd => by
      rw [append_cps] at hd
      rcases List.mem_append.mp hd with hd | hd
      · exact hinv.phc y hy d hd
      · rw [hcb] at hd
        have e : d = b := by simpa using hd
        rw [e]
        exact hch b hbq)
    have h2 : (y ++ c).length = y.length + 1 := by rw [append_len, hcb]; rfl
    have := hb.phl y hy
    omega
  have hsty5 : st.style = Str.ofString "qmark" ∨ st.style = Str.ofString "numeric" ∨ st.style = Str.ofString "format" ∨ st.style = Str.ofString "named" ∨ st.style = Str.ofString "pyformat" := by
    rcases hinv.sty with e | ⟨_, e⟩
    · rw [e]; exact hx5
    · exact .inr (.inr (.inl e))
  rcases hinv.sta with h | h | h | h | h | h | h
  · rcases hsty5 with e | e | e | e | e
    · exact plain (turn0_qmark B F X N Tp hdp hun hOr hx hlO hlP hq hlen hi hO hP hb h e hcol)
    · exact plain (turn0_numeric B F X N Tp hdp hun hOr hx hlO hlP hq hlen hi hO hP hb h e hcol)
    · exact plain (turn0_format B F X N Tp hdp hun hOr hx hlO hlP hq hlen hi hO hP hb h e hcol hE)
    · exact plain (turn0_named B F X N Tp hdp hun hOr hx hlO hlP hq hlen hi hO hP hb h e hcol)
    · exact plain (turn0_pyformat B F X N Tp hdp hun hOr hx hlO hlP hq hlen hi hO hP hb h e hcol hE)
  · exact plain (turn1 B F X N Tp hdp hun hOr hx hlO hlP hq hlen hi hO hP hb h)
  · exact plain (turn2 B F X N Tp hdp hun hOr hx hlO hlP hq hlen hi hO hP hb h)
  · exact plain (turn3 B F X N Tp hdp hun hOr hx hlO hlP hq hlen hi hO hP hb h)
  · have hf4 : Str.ofString "named" ≠ Str.ofString "format" := by decide +kernel
    have hf5 : Str.ofString "pyformat" ≠ Str.ofString "format" := by decide +kernel
    rcases hinv.st4 h with e | e | e
    · exact turn4_named B F X N Tp hdp hun hOr hx hlO hlP hq hlen hi hO hP hb h e hc9 (hinv.ne4 h (e ▸ hf4)) hrep2 XB TB D hPO
    · exact turn4_pyformat B F X N Tp hdp hun hOr hx hlO hlP hq hlen hi hO hP hb h e hc9 (hinv.ne4 h (e ▸ hf5)) hrep XB TB D hPO
    · exact plain (turn4_format B F X N Tp hdp hun hOr hx hlO hlP hq hlen hi hO hP hb h e)
  · exact plain (turn5 B F X N Tp hdp hun hOr hx hlO hlP hq hlen hi hO hP hb h)
  · exact plain (turn6 B F X N Tp hdp hun hOr hx hlO hlP hq hlen hi hO hP hb h)
end
section
set_option maxHeartbeats 3000000
local macro_rules | `(tactic| k_all) => `(tactic| assumption)
local macro_rules | `(tactic| walk_at "eval IfExp") => `(tactic| ((with_reducible show wpAny _ _ (eval (Expr.IfExp (Expr.Compare (Expr.BinOp _ _ _ _) _ _ _) (Expr.Subscript _ _ _) (Expr.Constant _ _ _) _) _) _ _ _); k_here; refine conv_join (l := signs _) (by assumption) ?_ ?_; rotate_left; intro t8 k8; rotate_left))
local macro_rules | `(tactic| walk_at "NextIs") => `(tactic| first | exact next_some (by omega) | exact next_none (by omega))
local macro_rules | `(tactic| walk_at "compareOp") => `(tactic| ((with_reducible show wpAny _ _ (compareOp _ (optVal _ _) (Value.str _ _)) _ _ _); first | refine conv_eqOpt ?_ | refine conv_neOpt ?_))
local macro_rules | `(tactic| walk_at "call builtin:list.append") => `(tactic| (k_here; (with_reducible show wpAny _ _ (call (Value.builtin _) [Value.ref _, _]) _ _ _); k_dflt (refine' conv_append ?cF ?cN ?cU ?cz ?_; (case cF => k_asm); (case cN => k_asm); (case cU => k_upd); (case cz => omega); k_whole); intro h' F' N'))
local macro_rules | `(tactic| walk_at "exec If") => `(tactic| refine wpAny_If ?_)
local macro_rules | `(tactic| k_room) => `(tactic| ktr_room)
local macro_rules | `(tactic| k_units) => `(tactic| ktr_units)
theorem news_pick {h₀ h : Heap} {L : Addr} {l tail : List (Addr × Obj)} {a b c : Addr × Obj} (N : News h₀ L h l) (h1 : a ∈ l) (h2 : b ∈ l) (h3 : c ∈ l) (h4 : ∀ p ∈ tail, p ∈ l) : News h₀ L h (a :: b :: c :: tail) := fun p hp => by
  rcases List.mem_cons.mp hp with rfl | hp
  · exact N _ h1
  rcases List.mem_cons.mp hp with rfl | hp
  · exact N _ h2
  rcases List.mem_cons.mp hp with rfl | hp
  · exact N _ h3
  exact N _ (h4 p hp)
theorem conv_joinL {prog : Program} {w : World} {A : Around} {E : Value → Shared → Prop} {s : Shared} {h₀ : Heap} {L D : Addr} {news : List (Addr × Obj)} {vs : List Value} {ys : List Str} {n : Nat} {t : Tok} {Q : Value → Shared → Prop} (N : News h₀ L s.heap news) (hm : (D, listOf vs.toArray n) ∈ news) (hi : StrsAre vs ys) (hw : (ys.map (·.length)).sum + ys.length ≤ 1048576)
    (h : ∀ t' tk, Q (.str (Txt.join (Str.ofString "") ys) t') { s with toks := tk }) : wpAny (model prog w) A (call (.builtin "str.join") [.str (Str.ofString "") t, .ref D]) Q E s :=
  join_listW (PySem.IsL.isList (n := n) (N _ hm).1) (by simpa using hi) (by decide +kernel) hw h
local macro_rules | `(tactic| walk_at "call builtin:str.join") => `(tactic| (k_here; k_dflt (refine' conv_joinL ?cN ?cm ?cS ?cW ?_; (case cN => k_asm); (case cm => k_mem); (case cS => assumption); (case cW => assumption)); intro t9 k9))
noncomputable def convRest : List Stmt := convDef.1.drop 15
abbrev tupO (vs : List Value) : Obj := { cls := .type "tuple", data := .seq vs.toArray }
theorem conv_end_qmark {w : World} {loose : List Str} {mean : ExcName → Option Value} {mg mb : Str → Option Value}
  {dp un : Nat} {gd : Option (List Code)} {outer : List Env} {A₀ : Around} {base h₀ : Heap} {L : Addr} {s : Shared} {Q : Flow → Shared → Prop} {E : Value → Shared → Prop}
  {M T x dd f c' lO lP : Addr} {co : Obj} {pm ctv v2 : Value} {t3 : Tok} {tc : Tok} {outV phV : List Value} {nO nP : Nat}  {s0 s1 s2 s3 s4 s5 s6 tq : Tok} {q : Str} {st : CS} {ts tst tp : Tok} {ps : Array Value} {news : List (Addr × Obj)} {oc : Obj} {av : Value} {um : Str → Option Value}
  (B : Below A₀ base outer h₀) (F : Fr h₀ L s.heap (kstB um (turnVals st ts tst tp (convConsts s0 s1 s2 s3 s4 s5 s6 tq q lP lO M))))
  (X : (hd.heap_39 w.params).In h₀) (N : News h₀ L s.heap (convLed M T x dd f c' lO lP co pm ctv v2 t3 st.cnt tc outV phV nO nP ((L + 1, oc) :: (108, tabObj ps) :: news))) (Tp : Top topProg loose mean mg mb h₀) (hdp : dp + 30 < recursionLimit) (hun : un + 200 < cLine)
  (hOr : Ords L M T x dd f c' lO lP) (hoc : oc.data = .cell (some av)) (hS : TabS ps ((c', co) :: news)) (hlow : Low news L) (hL8 : @LT.lt Nat _ 108 L) (hc8 : @LT.lt Nat _ 108 c') (C : CodeHd h₀ 112 108) (hq : CodeIs co lamQ) (hlen : q.length ≤ 100000) (hO : StrsAre outV st.out) (hP : StrsAre phV st.ph) (hb : Bnd st) (hsty : st.style = Str.ofString "qmark") (hW : (st.out.map (·.length)).sum + st.out.length ≤ 1048576)
  (hret : ∀ D t' s' m', s'.gens = s.gens → s'.drawn = s.drawn → s'.os = s.os → Fr h₀ L s'.heap m' → News h₀ L s'.heap ((D, tupO [.str (Txt.join (Str.ofString "") st.out) t', av]) :: (108, tabObj ps) :: (c', co) :: news) → @LT.lt Nat _ L D → Q (.ret (.ref D)) s') :
  wpAny (model PySem.Challenge.rw_ew0022_01.row.prog w) (ktrTop dp un gd (Str.ofString "convert_paramstyle") convScope L 113 (.ref 112) [(Str.ofString "args", L + 1)] outer) (execs convRest (envX (Str.ofString "convert_paramstyle") convScope L 113 (.ref 112) [(Str.ofString "args", L + 1)])) Q E s := by
  obtain ⟨k1, k2, k3, k4, k5, k6, k7, k8, k9⟩ := id hOr
  obtain ⟨x0, state0, qe0, pe0, ph0, out0, cnt0, prev0⟩ := st
  obtain rfl : x0 = _ := hsty
  have hoV : outV.length ≤ 100000 := by rw [hO.length]; exact hb.out
  w_top off; k_with_none; revert X; k_fill; intro X
  (conv in convRest => whnf)
  (conv in (occs := *) convScope => all_goals whnf)
  (try dsimp only [kstB, turnVals] at F)
  (try dsimp only at N hO hP)
  (try k_fold)
  w_strict (k_steps)
  all_goals (refine' hret _ _ _ _ rfl rfl rfl ?cF (news_pick ?cN ?c1 ?c2 ?c3 ?c4) ?c5; (case cF => k_asm); (case cN => k_asm); (case c1 => exact List.Mem.head _); (case c2 => k_mem); (case c3 => k_mem); (case c4 => (intro p hp; repeat (first | exact hp | refine List.Mem.tail _ ?_))); (case c5 => omega))
local macro_rules | `(tactic| walk_at "zz dummy") => `(tactic| fail)
theorem conv_end_numeric {w : World} {loose : List Str} {mean : ExcName → Option Value} {mg mb : Str → Option Value}
  {dp un : Nat} {gd : Option (List Code)} {outer : List Env} {A₀ : Around} {base h₀ : Heap} {L : Addr} {s : Shared} {Q : Flow → Shared → Prop} {E : Value → Shared → Prop}
  {M T x dd f c' lO lP : Addr} {co : Obj} {pm ctv v2 : Value} {t3 : Tok} {tc : Tok} {outV phV : List Value} {nO nP : Nat}  {s0 s1 s2 s3 s4 s5 s6 tq : Tok} {q : Str} {st : CS} {ts tst tp : Tok} {ps : Array Value} {news : List (Addr × Obj)} {oc : Obj} {av : Value} {um : Str → Option Value}
  (B : Below A₀ base outer h₀) (F : Fr h₀ L s.heap (kstB um (turnVals st ts tst tp (convConsts s0 s1 s2 s3 s4 s5 s6 tq q lP lO M))))
  (X : (hd.heap_39 w.params).In h₀) (N : News h₀ L s.heap (convLed M T x dd f c' lO lP co pm ctv v2 t3 st.cnt tc outV phV nO nP ((L + 1, oc) :: (108, tabObj ps) :: news))) (Tp : Top topProg loose mean mg mb h₀) (hdp : dp + 30 < recursionLimit) (hun : un + 200 < cLine)
  (hOr : Ords L M T x dd f c' lO lP) (hoc : oc.data = .cell (some av)) (hS : TabS ps ((c', co) :: news)) (hlow : Low news L) (hL8 : @LT.lt Nat _ 108 L) (hc8 : @LT.lt Nat _ 108 c') (C : CodeHd h₀ 112 108) (hq : CodeIs co lamQ) (hlen : q.length ≤ 100000) (hO : StrsAre outV st.out) (hP : StrsAre phV st.ph) (hb : Bnd st) (hsty : st.style = Str.ofString "numeric") (hW : (st.out.map (·.length)).sum + st.out.length ≤ 1048576)
  (hret : ∀ D t' s' m', s'.gens = s.gens → s'.drawn = s.drawn → s'.os = s.os → Fr h₀ L s'.heap m' → News h₀ L s'.heap ((D, tupO [.str (Txt.join (Str.ofString "") st.out) t', av]) :: (108, tabObj ps) :: (c', co) :: news) → @LT.lt Nat _ L D → Q (.ret (.ref D)) s') :
  wpAny (model PySem.Challenge.rw_ew0022_01.row.prog w) (ktrTop dp un gd (Str.ofString "convert_paramstyle") convScope L 113 (.ref 112) [(Str.ofString "args", L + 1)] outer) (execs convRest (envX (Str.ofString "convert_paramstyle") convScope L 113 (.ref 112) [(Str.ofString "args", L + 1)])) Q E s := by
  obtain ⟨k1, k2, k3, k4, k5, k6, k7, k8, k9⟩ := id hOr
  obtain ⟨x0, state0, qe0, pe0, ph0, out0, cnt0, prev0⟩ := st
  obtain rfl : x0 = _ := hsty
  have hoV : outV.length ≤ 100000 := by rw [hO.length]; exact hb.out
  revert X; k_fill; intro X
  (conv in convRest => whnf)
  (conv in (occs := *) convScope => all_goals whnf)
  (try dsimp only [kstB, turnVals] at F)
  (try dsimp only at N hO hP)
  (try k_fold)
  w_strict (k_steps)
  all_goals (refine' hret _ _ _ _ rfl rfl rfl ?cF (news_pick ?cN ?c1 ?c2 ?c3 ?c4) ?c5; (case cF => k_asm); (case cN => k_asm); (case c1 => exact List.Mem.head _); (case c2 => k_mem); (case c3 => k_mem); (case c4 => (intro p hp; repeat (first | exact hp | refine List.Mem.tail _ ?_))); (case c5 => omega))
local macro_rules | `(tactic| walk_at "zz dummy") => `(tactic| fail)
theorem conv_end_format {w : World} {loose : List Str} {mean : ExcName → Option Value} {mg mb : Str → Option Value}
  {dp un : Nat} {gd : Option (List Code)} {outer : List Env} {A₀ : Around} {base h₀ : Heap} {L : Addr} {s : Shared} {Q : Flow → Shared → Prop} {E : Value → Shared → Prop}
  {M T x dd f c' lO lP : Addr} {co : Obj} {pm ctv v2 : Value} {t3 : Tok} {tc : Tok} {outV phV : List Value} {nO nP : Nat}  {s0 s1 s2 s3 s4 s5 s6 tq : Tok} {q : Str} {st : CS} {ts tst tp : Tok} {ps : Array Value} {news : List (Addr × Obj)} {oc : Obj} {av : Value} {um : Str → Option Value}
  (B : Below A₀ base outer h₀) (F : Fr h₀ L s.heap (kstB um (turnVals st ts tst tp (convConsts s0 s1 s2 s3 s4 s5 s6 tq q lP lO M))))
  (X : (hd.heap_39 w.params).In h₀) (N : News h₀ L s.heap (convLed M T x dd f c' lO lP co pm ctv v2 t3 st.cnt tc outV phV nO nP ((L + 1, oc) :: (108, tabObj ps) :: news))) (Tp : Top topProg loose mean mg mb h₀) (hdp : dp + 30 < recursionLimit) (hun : un + 200 < cLine)
  (hOr : Ords L M T x dd f c' lO lP) (hoc : oc.data = .cell (some av)) (hS : TabS ps ((c', co) :: news)) (hlow : Low news L) (hL8 : @LT.lt Nat _ 108 L) (hc8 : @LT.lt Nat _ 108 c') (C : CodeHd h₀ 112 108) (hq : CodeIs co lamQ) (hlen : q.length ≤ 100000) (hO : StrsAre outV st.out) (hP : StrsAre phV st.ph) (hb : Bnd st) (hsty : st.style = Str.ofString "format") (hW : (st.out.map (·.length)).sum + st.out.length ≤ 1048576)
  (hret : ∀ D t' s' m', s'.gens = s.gens → s'.drawn = s.drawn → s'.os = s.os → Fr h₀ L s'.heap m' → News h₀ L s'.heap ((D, tupO [.str (Txt.join (Str.ofString "") st.out) t', av]) :: (108, tabObj ps) :: (c', co) :: news) → @LT.lt Nat _ L D → Q (.ret (.ref D)) s') :
  wpAny (model PySem.Challenge.rw_ew0022_01.row.prog w) (ktrTop dp un gd (Str.ofString "convert_paramstyle") convScope L 113 (.ref 112) [(Str.ofString "args", L + 1)] outer) (execs convRest (envX (Str.ofString "convert_paramstyle") convScope L 113 (.ref 112) [(Str.ofString "args", L + 1)])) Q E s := by
  obtain ⟨k1, k2, k3, k4, k5, k6, k7, k8, k9⟩ := id hOr
  obtain ⟨x0, state0, qe0, pe0, ph0, out0, cnt0, prev0⟩ := st
  obtain rfl : x0 = _ := hsty
  have hoV : outV.length ≤ 100000 := by rw [hO.length]; exact hb.out
  revert X; k_fill; intro X
  (conv in convRest => whnf)
  (conv in (occs := *) convScope => all_goals whnf)
  (try dsimp only [kstB, turnVals] at F)
  (try dsimp only at N hO hP)
  (try k_fold)
  w_strict (k_steps)
  all_goals (refine' hret _ _ _ _ rfl rfl rfl ?cF (news_pick ?cN ?c1 ?c2 ?c3 ?c4) ?c5; (case cF => k_asm); (case cN => k_asm); (case c1 => exact List.Mem.head _); (case c2 => k_mem); (case c3 => k_mem); (case c4 => (intro p hp; repeat (first | exact hp | refine List.Mem.tail _ ?_))); (case c5 => omega))
local macro_rules | `(tactic| k_all) => `(tactic| (refine low_ne (by assumption) ?_; (try dsimp only); omega))
local macro_rules | `(tactic| walk_at "eval GeneratorExp") => `(tactic| (k_here; k_dflt (refine' conv_gen (ph := _) ?cF ?cN ?cT ?cC ?cU ?cS ?cl ?ccd ?ch ?cr ?cv ?clP ?ccA ?coc ?cd ?cP ?cA ?csub ?cz ?cco ?ccl ?ccell ?c0 ?cx ?cxa ?ck ?chk ?cpk ?_; (case ccl => exact rfl); (case cF => k_asm); (case cN => k_asm); (case cT => k_asm); (case cC => assumption); (case cU => k_updF); (case cS => assumption); (case cl => decide); (case ccd => exact rfl); (case ch => exact rfl); (case cr => ktr_room); (case cv => exact rfl); (case clP => (intro q; k_mem)); (case ccA => (intro q; k_mem)); (case coc => assumption); (case cd => (intro q; repeat (first | assumption | refine List.Mem.tail _ ?_))); (case cP => assumption); (case cA => assumption); (case csub => assumption); (case cz => assumption); (case cco => exact rfl); (case ccell => decide); (case c0 => decide +kernel); (case cx => decide +kernel); (case cxa => decide +kernel); (case ck => exact rfl); (case chk => exact rfl); (case cpk => exact rfl)); intro a9 ps9 s9 hS9 hb9 hd9 ho9 F9 N9 G9))
local macro_rules | `(tactic| walk_at "call type:tuple") => `(tactic| (k_here; k_dflt (refine' gen_tuple ?cF ?cN ?cG ?_; (case cF => k_asm); (case cN => k_asm); (case cG => assumption)); intro D9 s9 hb9 hd9 ho9 F9 N9 l9; have l8 := l9 _ (List.Mem.head _); clear l9; dsimp only at l8))
theorem conv_end_named {w : World} {loose : List Str} {mean : ExcName → Option Value} {mg mb : Str → Option Value}
  {dp un : Nat} {gd : Option (List Code)} {outer : List Env} {A₀ : Around} {base h₀ : Heap} {L : Addr} {s : Shared} {Q : Flow → Shared → Prop} {E : Value → Shared → Prop}
  {M T x dd f c' lO lP : Addr} {co : Obj} {pm ctv v2 : Value} {t3 : Tok} {tc : Tok} {outV phV : List Value} {nO nP : Nat}  {s0 s1 s2 s3 s4 s5 s6 tq : Tok} {q : Str} {st : CS} {ts tst tp : Tok} {ps : Array Value} {news : List (Addr × Obj)} {oc : Obj} {av : Value} {um : Str → Option Value}
  (B : Below A₀ base outer h₀) (F : Fr h₀ L s.heap (kstB um (turnVals st ts tst tp (convConsts s0 s1 s2 s3 s4 s5 s6 tq q lP lO M))))
  (X : (hd.heap_39 w.params).In h₀) (N : News h₀ L s.heap (convLed M T x dd f c' lO lP co pm ctv v2 t3 st.cnt tc outV phV nO nP ((L + 1, oc) :: (108, tabObj ps) :: news))) (Tp : Top topProg loose mean mg mb h₀) (hdp : dp + 30 < recursionLimit) (hun : un + 200 < cLine)
  (hOr : Ords L M T x dd f c' lO lP) (hoc : oc.data = .cell (some av)) (hS : TabS ps ((c', co) :: news)) (hlow : Low news L) (hL8 : @LT.lt Nat _ 108 L) (hc8 : @LT.lt Nat _ 108 c') (C : CodeHd h₀ 112 108) (hq : CodeIs co lamQ) (hlen : q.length ≤ 100000) (hO : StrsAre outV st.out) (hP : StrsAre phV st.ph) (hb : Bnd st) (hsty : st.style = Str.ofString "named") (hW : (st.out.map (·.length)).sum + st.out.length ≤ 1048576)
  {d : Addr} {od : Obj} {val : Str → Value} {names : List Str} (hav : av = .ref d) (hod : (d, od) ∈ news) (hA : ArgsOk PySem.Challenge.rw_ew0022_01.row.prog w d od val names) (hsub : ∀ x ∈ st.ph, x ∈ names)
  (hret : ∀ D V t' s' m' ps', TabS ps' ((c', co) :: news) → (AllBare s.gens → AllBare s'.gens) → s'.drawn = s.drawn → s'.os = s.os → Fr h₀ L s'.heap m' → News h₀ L s'.heap ((D, tupO [.str (Txt.join (Str.ofString "") st.out) t', .ref V]) :: (V, tupO (st.ph.map val)) :: (108, tabObj ps') :: (c', co) :: news) → @LT.lt Nat _ L D → @LT.lt Nat _ L V → Q (.ret (.ref D)) s') :
  wpAny (model PySem.Challenge.rw_ew0022_01.row.prog w) (ktrTop dp un gd (Str.ofString "convert_paramstyle") convScope L 113 (.ref 112) [(Str.ofString "args", L + 1)] outer) (execs convRest (envX (Str.ofString "convert_paramstyle") convScope L 113 (.ref 112) [(Str.ofString "args", L + 1)])) Q E s := by
  obtain ⟨k1, k2, k3, k4, k5, k6, k7, k8, k9⟩ := id hOr
  obtain ⟨x0, state0, qe0, pe0, ph0, out0, cnt0, prev0⟩ := st
  obtain rfl : x0 = _ := hsty
  subst hav
  have hoV : outV.length ≤ 100000 := by rw [hO.length]; exact hb.out
  have hz9 : ph0.length ≤ 200000 := Nat.le_trans hb.ph (by decide)
  revert X; k_fill; intro X
  (conv in convRest => whnf)
  (conv in (occs := *) convScope => all_goals whnf)
  (try dsimp only [kstB, turnVals] at F)
  (try dsimp only at N hO hP)
  (try k_fold)
  w_strict (k_steps)
  all_goals (refine' hret _ _ _ _ _ _ ?cS ?cb ?cd ?co ?cF (news_pick ?cN ?c1 ?c2 ?c3 ?c4) ?c5 ?c6; (case cF => k_asm); (case cN => k_asm); (case cS => assumption); (case cb => (intro hb0; dsimp only; exact (by assumption : AllBare _ → AllBare _) ((by assumption : AllBare _ → AllBare _) hb0))); (case cd => (dsimp only; exact Eq.trans (by assumption) (by assumption))); (case co => (dsimp only; exact Eq.trans (by assumption) (by assumption))); (case c1 => exact List.Mem.head _); (case c2 => k_mem); (case c3 => k_mem); (case c4 => (intro p hp; rcases List.mem_cons.mp hp with rfl | hp; k_mem; (repeat (first | exact hp | refine List.Mem.tail _ ?_)))); (case c5 => omega); (case c6 => omega))
local macro_rules | `(tactic| walk_at "zz dummy") => `(tactic| fail)
theorem conv_end_pyformat {w : World} {loose : List Str} {mean : ExcName → Option Value} {mg mb : Str → Option Value}
  {dp un : Nat} {gd : Option (List Code)} {outer : List Env} {A₀ : Around} {base h₀ : Heap} {L : Addr} {s : Shared} {Q : Flow → Shared → Prop} {E : Value → Shared → Prop}
  {M T x dd f c' lO lP : Addr} {co : Obj} {pm ctv v2 : Value} {t3 : Tok} {tc : Tok} {outV phV : List Value} {nO nP : Nat}  {s0 s1 s2 s3 s4 s5 s6 tq : Tok} {q : Str} {st : CS} {ts tst tp : Tok} {ps : Array Value} {news : List (Addr × Obj)} {oc : Obj} {av : Value} {um : Str → Option Value}
  (B : Below A₀ base outer h₀) (F : Fr h₀ L s.heap (kstB um (turnVals st ts tst tp (convConsts s0 s1 s2 s3 s4 s5 s6 tq q lP lO M))))
  (X : (hd.heap_39 w.params).In h₀) (N : News h₀ L s.heap (convLed M T x dd f c' lO lP co pm ctv v2 t3 st.cnt tc outV phV nO nP ((L + 1, oc) :: (108, tabObj ps) :: news))) (Tp : Top topProg loose mean mg mb h₀) (hdp : dp + 30 < recursionLimit) (hun : un + 200 < cLine)
  (hOr : Ords L M T x dd f c' lO lP) (hoc : oc.data = .cell (some av)) (hS : TabS ps ((c', co) :: news)) (hlow : Low news L) (hL8 : @LT.lt Nat _ 108 L) (hc8 : @LT.lt Nat _ 108 c') (C : CodeHd h₀ 112 108) (hq : CodeIs co lamQ) (hlen : q.length ≤ 100000) (hO : StrsAre outV st.out) (hP : StrsAre phV st.ph) (hb : Bnd st) (hsty : st.style = Str.ofString "pyformat") (hW : (st.out.map (·.length)).sum + st.out.length ≤ 1048576)
  {d : Addr} {od : Obj} {val : Str → Value} {names : List Str} (hav : av = .ref d) (hod : (d, od) ∈ news) (hA : ArgsOk PySem.Challenge.rw_ew0022_01.row.prog w d od val names) (hsub : ∀ x ∈ st.ph, x ∈ names)
  (hret : ∀ D V t' s' m' ps', TabS ps' ((c', co) :: news) → (AllBare s.gens → AllBare s'.gens) → s'.drawn = s.drawn → s'.os = s.os → Fr h₀ L s'.heap m' → News h₀ L s'.heap ((D, tupO [.str (Txt.join (Str.ofString "") st.out) t', .ref V]) :: (V, tupO (st.ph.map val)) :: (108, tabObj ps') :: (c', co) :: news) → @LT.lt Nat _ L D → @LT.lt Nat _ L V → Q (.ret (.ref D)) s') :
  wpAny (model PySem.Challenge.rw_ew0022_01.row.prog w) (ktrTop dp un gd (Str.ofString "convert_paramstyle") convScope L 113 (.ref 112) [(Str.ofString "args", L + 1)] outer) (execs convRest (envX (Str.ofString "convert_paramstyle") convScope L 113 (.ref 112) [(Str.ofString "args", L + 1)])) Q E s := by
  obtain ⟨k1, k2, k3, k4, k5, k6, k7, k8, k9⟩ := id hOr
  obtain ⟨x0, state0, qe0, pe0, ph0, out0, cnt0, prev0⟩ := st
  obtain rfl : x0 = _ := hsty
  subst hav
  have hoV : outV.length ≤ 100000 := by rw [hO.length]; exact hb.out
  have hz9 : ph0.length ≤ 200000 := Nat.le_trans hb.ph (by decide)
  revert X; k_fill; intro X
  (conv in convRest => whnf)
  (conv in (occs := *) convScope => all_goals whnf)
  (try dsimp only [kstB, turnVals] at F)
  (try dsimp only at N hO hP)
  (try k_fold)
  w_strict (k_steps)
  all_goals (refine' hret _ _ _ _ _ _ ?cS ?cb ?cd ?co ?cF (news_pick ?cN ?c1 ?c2 ?c3 ?c4) ?c5 ?c6; (case cF => k_asm); (case cN => k_asm); (case cS => assumption); (case cb => (intro hb0; dsimp only; exact (by assumption : AllBare _ → AllBare _) ((by assumption : AllBare _ → AllBare _) hb0))); (case cd => (dsimp only; exact Eq.trans (by assumption) (by assumption))); (case co => (dsimp only; exact Eq.trans (by assumption) (by assumption))); (case c1 => exact List.Mem.head _); (case c2 => k_mem); (case c3 => k_mem); (case c4 => (intro p hp; rcases List.mem_cons.mp hp with rfl | hp; k_mem; (repeat (first | exact hp | refine List.Mem.tail _ ?_)))); (case c5 => omega); (case c6 => omega))
end
section
set_option maxHeartbeats 3000000
local macro_rules | `(tactic| walk_at "eval Lambda") => `(tactic| (k_here; k_dflt (refine' kla_eval ?d0 ?_; (case d0 => exact rfl)); k_dflt (refine' conv_lam ?cF ?cN ?cT ?cC ?ccd ?cS ?cw ?cL ?c1 ?c2 ?c3 ?ccl ?cl ?_; (case cF => k_asm); (case cN => k_asm); (case cT => k_asm); (case ccd => exact rfl); (case cC => kn_code); (case cS => assumption); (case cw => assumption); (case cL => omega); (case c1 => omega); (case c2 => omega); (case c3 => omega); (case ccl => exact rfl); (case cl => exact rfl)); intro f' c' oc' ct' ps' h' tk' F' N' hq' hS' ho' h8' hf'))
local macro_rules | `(tactic| k_room) => `(tactic| ktr_room)
local macro_rules | `(tactic| k_units) => `(tactic| ktr_units)
local macro_rules | `(tactic| k_all) => `(tactic| (refine low_ne (by assumption) ?_; (try dsimp only); omega))
local macro_rules | `(tactic| walk_at "call type:map") => `(tactic| (k_here; (with_reducible show wpAny _ _ (call (Value.type "map") [_, Value.ref _]) _ _ _); refine call_map ?_; k_dflt (refine' owit_iter ?cF ?cX ?cI ?chs ?chf ?_; (case cF => k_asm); (case cX => k_asm); (case cI => k_inst); (case chs => k_is); (case chf => k_is); k_whole)))
local macro_rules | `(tactic| walk_at "MapMade") => `(tactic| (k_dflt (refine' map_made ?cF ?cN ?_; (case cF => k_asm); (case cN => k_asm)); intro T' M' h' F' N' l1 l2; (try k_lt l1); (try k_lt2 l2)))
def EnumStop (P : Prop) : Prop := P
theorem enumStop {P : Prop} (h : EnumStop P) : P := h
theorem raisedS_sub {base G : Heap} {l : List Env} {e : Addr} {cls : Value} {t : Addr} {vs : List Value} {news news' : List (Addr × Obj)} {h : Heap} (R : RaisedS base G l e cls t vs news h) (hs : ∀ p ∈ news', p ∈ news) : RaisedS base G l e cls t vs news' h := by
  obtain ⟨⟨B, hB, hBG, hl, hfl, hnew⟩, htup⟩ := R
  exact ⟨⟨B, hB, hBG, fun q hq => hl q (hs q hq), hfl, hnew⟩, htup⟩
theorem cTake_none {l : List Str} {st : CS} : ∀ (j i : Nat), i ≤ j → cTake l st i = none → cTake l st j = none := by
  intro j
  induction j with
  | zero => intro i hi h; rw [Nat.le_zero.mp hi] at h; exact h
  | succ j ih =>
    intro i hi h
    rcases Nat.lt_or_ge i (j + 1) with hlt | hge
    · show (cTake l st j).bind _ = none
      rw [ih i (Nat.le_of_lt_succ hlt) h]
      rfl
    · rw [Nat.le_antisymm hge hi]; exact h
theorem cTake_step_none {l : List Str} {st st' : CS} {i : Nat} {c : Str} (h : cTake l st i = some st') (hc : l[i]? = some c) (hs : cStep c l[i + 1]? st' = none) : cTake l st l.length = none := by
  have hi : i < l.length := (List.getElem?_eq_some_iff.mp hc).1
  refine cTake_none _ (i + 1) hi ?_
  show (cTake l st i).bind _ = none
  rw [h, Option.bind_some, hc]
  exact hs
local macro_rules | `(tactic| walk_at "exec For Tuple Call") => `(tactic| (k_here; (with_reducible show wpAny _ _ (exec (Stmt.For (Expr.Tuple _ _ _) _ _ _ _) _) _ _ _); k_dflt (refine' wpAny_For ?_ ?hs; (case hs => (intro _; with_unfolding_all rfl)))))
local macro_rules | `(tactic| walk_at "call type:enumerate") => `(tactic| (k_here; refine enumStop ?_))
theorem conv_ok {w : World} {loose : List Str} {mean : ExcName → Option Value} {mg mb : Str → Option Value}
  {dp un : Nat} {gd : Option (List Code)} {cn : Str} {cs : Scope} {a : Addr} {ccd : Value} {outer : List Env} {A₀ : Around} {base h₀ : Heap} {L : Addr} {m : Str → Option Value} {s : Shared} {Q E : Value → Shared → Prop}
  {news : List (Addr × Obj)} {ps : Array Value} {x q : Str} {av : Value} {tx tq : Tok}
  (B : Below A₀ base outer h₀) (F : Fr h₀ L s.heap m) (X : (hd.heap_39 w.params).In h₀) (N : News h₀ L s.heap ((108, tabObj ps) :: news)) (hS : TabS ps news) (hG : ∀ p ∈ news, @LT.lt Nat _ 108 p.1) (C : CodeHd base 112 108)
  (T : Top topProg loose mean mg mb h₀) (XB : (hd.heap_39 w.params).In base) (TB : Top topProg loose mean mg mb base) (D : KtsDicts (outer.filterMap (·.frame)) h₀) (hk : cs.kind = .function) (hdp : dp + 40 < recursionLimit) (hun : un + 300 < cLine) (hq : q.length ≤ 100000)
  (hx5 : x = Str.ofString "qmark" ∨ x = Str.ofString "numeric" ∨ x = Str.ofString "format" ∨ x = Str.ofString "named" ∨ x = Str.ofString "pyformat") (hch : ∀ b ∈ q.cps.toList, b < 16 ^ 8)
  (hcolon : ∀ (i : Nat) (c : Str), (signs q)[i]? = some c → (c == Str.ofString ":") = true → ∃ b, (signs q)[i + 1]? = some ⟨#[b]⟩)
  (hW : ∀ st, cTake (signs q) (cStart x) (signs q).length = some st → (st.out.map (·.length)).sum + st.out.length ≤ 1048576)
  {d : Addr} {od : Obj} {val : Str → Value} {names : List Str} (hav : (x = Str.ofString "named" ∨ x = Str.ofString "pyformat") → av = .ref d ∧ (d, od) ∈ news ∧ ArgsOk PySem.Challenge.rw_ew0022_01.row.prog w d od val names ∧ ∀ st, cTake (signs q) (cStart x) (signs q).length = some st → ∀ y ∈ st.ph, y ∈ names)
  (hret : ∀ st D t' vV s' g₁ ps' c' co, cTake (signs q) (cStart x) (signs q).length = some st → TabS ps' ((c', co) :: news) → @LT.lt Nat _ 108 c' → (AllBare s.gens → AllBare s'.gens) → s'.drawn = s.drawn → s'.os = s.os → KtsTurn (outer.filterMap (·.frame)) h₀ g₁ → Below A₀ base outer g₁ → Fr g₁ L s'.heap m →
    ((st.style ≠ Str.ofString "named" ∧ st.style ≠ Str.ofString "pyformat" ∧ vV = av ∧ News g₁ L s'.heap ((D, tupO [.str (Txt.join (Str.ofString "") st.out) t', vV]) :: (108, tabObj ps') :: (c', co) :: news)) ∨
     (∃ V, vV = .ref V ∧ News g₁ L s'.heap ((D, tupO [.str (Txt.join (Str.ofString "") st.out) t', vV]) :: (V, tupO (st.ph.map val)) :: (108, tabObj ps') :: (c', co) :: news) ∧ (st.style = Str.ofString "named" ∨ st.style = Str.ofString "pyformat"))) → Q (.ref D) s')
  (hraise : cTake (signs q) (cStart x) (signs q).length = none → ∀ G h' e t vs ps' c' co tk, TabS ps' ((c', co) :: news) → @LT.lt Nat _ 108 c' → Fr h₀ L G m → RaisedS base G (envOf cn cs L a ccd :: outer) e (.ref 44) t vs ((108, tabObj ps') :: (c', co) :: news) h' → G.UpToSlots h' → E (.ref e) { s with heap := h', toks := tk }) :
  wpAny (model PySem.Challenge.rw_ew0022_01.row.prog w) (ktrTop dp un gd cn cs L a ccd [] outer) (call (.ref 113) [.str x tx, .str q tq, av]) Q E s := by
  w_top off; k_with_none; revert X; k_fill; intro X
  (refine wpAny_call ?_)
  k_dflt (refine' code_defT ?k1 ?k2 ?k3 ?k4 ?k5 ?kDd ?kA ?kK ?k6 ?k7 ?k8 ?k9 ?kB ?kD ?_ ?c2 ?c3 ?c4; (case kA => exact rfl); (case kK => assumption); (case k1 => k_asm); (case k2 => k_asm); (case k3 => k_asm); (case k4 => k_asm); (case k5 => k_asm); (case kDd => assumption); (case k6 => k_is); (case k7 => k_is); (case k8 => ktr_room); (case k9 => exact BindsTo.of_eq rfl); (case kB => exact rfl); (case kD => decide +kernel); (case c2 => exact rfl); (case c3 => exact rfl); (case c4 => exact rfl); k_whole; intro g' L' h' tk' cells' FG' F' N' Y' B' X' T' D' l1; (try k_lt l1); k_cells Y'; (try simp only [List.cons_append, List.nil_append] at N'); (try dsimp only); (try k_lift B'); (try k_fold))
  have hLow := low_of l1.2 hG
  w_strict (k_steps)
  delta EnumStop
  rename Fr g' L' _ _ => F9
  rename News g' L' _ _ => N9
  rename TabS _ (_ :: news) => hS9
  rename CodeIs _ lamQ => hq9
  k_dflt (refine' conv_loopT (convP (convConsts _ _ _ _ _ _ _ _ _ _ _ _) _ _ _ _ _ _ _ _ _ _ _ _ _ _) ?chh ?cL ?cxi ?cxc ?cp ?cB ?cD ?cF ?cN ?c1 ?c2 ?c3 ?c4 ?c5 ?c6 ?coff ?cturn ?cdone ?cE)
  case chh => exact rfl
  case cL => exact rfl
  case cxi => exact rfl
  case cxc => exact rfl
  case cp => exact rfl
  case cB => exact B'
  case cD => exact D'
  case cF => exact F9
  case cN => exact N9
  case c1 => exact rfl
  case c2 => exact rfl
  case c3 => exact rfl
  case c4 => exact rfl
  case c5 => exact rfl
  case c6 => (intro p hp; simp only [convConsts, List.mem_cons, List.not_mem_nil, or_false] at hp; rcases hp with rfl | rfl | rfl | rfl | rfl | rfl | rfl | rfl | rfl | rfl | rfl <;> exact rfl)
  case coff =>
    intro p hp
    rcases List.mem_cons.mp hp with rfl | hp
    · exact ⟨by refine neN ?_; dsimp only; omega, by refine neN ?_; dsimp only; omega, by refine neN ?_; dsimp only; omega⟩
    · rcases List.mem_cons.mp hp with rfl | hp
      · exact ⟨by refine neN ?_; dsimp only; omega, by refine neN ?_; dsimp only; omega, by refine neN ?_; dsimp only; omega⟩
      · have h1 := hLow.lt p hp
        exact ⟨by refine neN ?_; dsimp only; omega, by refine neN ?_; dsimp only; omega, by refine neN ?_; dsimp only; omega⟩
  case cE => passes_own
  case cturn =>
    intro g i c st ti u ts tst tp tc outV phV nO nP um h tk own gT gB gD hi hst hO hP hx hlO hlP Fi Ni
    have inv := cTake_inv hch i st hst
    have hib : i < q.length := by rw [← signs_length]; exact (List.getElem?_eq_some_iff.mp hi).1
    have hbnd : Bnd st := ⟨by have := inv.out; omega, by have := inv.ph; omega, inv.c1, by have := inv.c2; omega, fun p hp => by have := inv.phl p hp; omega⟩
    k_dflt (refine' conv_turn (x0 := x) gB Fi (XB.keeps gB.stays) Ni (TB.keeps gB.stays) ?t1 ?t2 ?t3 hx hlO hlP hq9 hq hi hO hP hbnd inv hx5 (hcolon i c hi) hch XB TB gD ?t4 ?t5)
    case t1 => (show dp + 1 + 30 < recursionLimit; omega)
    case t2 => ktr_units
    case t3 => (refine ⟨?_, ?_, ?_, ?_, ?_, ?_, ?_, ?_, ?_⟩ <;> omega)
    case t5 => (intro e; passes_own)
    case t4 =>
      intro m9 news9 hB tkB e9 h9 vs9 Fe Ne hmem hx9 hnone
      refine leave_raiseSX gB hx9 Fe (fun p hp => Ne p (hmem p hp)) gT rfl rfl (fun h10 t10 R U => ?_)
      refine hraise (cTake_step_none hst hi hnone) g' h10 e9 t10 vs9 _ _ _ _ hS9 (by assumption) FG' (raisedS_sub R ?_) U
      intro p hp
      rcases List.mem_cons.mp hp with rfl | hp
      · exact .tail _ (.tail _ (.head _))
      rcases List.mem_cons.mp hp with rfl | hp
      · exact .head _
      exact .tail _ (.tail _ (.tail _ hp))
  case cdone =>
    intro g st ts tst tp tc outV phV nO nP um h tk gT gB gD hst hO hP Fi Ni
    have inv := cTake_inv hch _ st hst
    have hbnd : Bnd st := ⟨by have := inv.out; rw [signs_length] at this; omega, by have := inv.ph; rw [signs_length] at this; omega, inv.c1, by have := inv.c2; rw [signs_length] at this; omega, fun p hp => by have := inv.phl p hp; rw [signs_length] at this; omega⟩
    have hsty5 : st.style = Str.ofString "qmark" ∨ st.style = Str.ofString "numeric" ∨ st.style = Str.ofString "format" ∨ st.style = Str.ofString "named" ∨ st.style = Str.ofString "pyformat" := by
      rcases inv.sty with e | ⟨_, e⟩
      · rw [e]; exact hx5
      · exact .inr (.inr (.inl e))
    have hxg : (st.style = Str.ofString "named" ∨ st.style = Str.ofString "pyformat") → (x = Str.ofString "named" ∨ x = Str.ofString "pyformat") := by
      intro h
      rcases inv.sty with e | ⟨e, _⟩
      · rw [← e]; exact h
      · exact .inr e
    rcases hsty5 with hsty | hsty | hsty | hsty | hsty
    · k_dflt (refine' conv_end_qmark gB Fi (XB.keeps gB.stays) Ni (TB.keeps gB.stays) ?t1 ?t2 ?t3 ?t4 hS9 hLow ?t5 ?t6 (C.keeps gB.stays) hq9 hq hO hP hbnd hsty (hW _ hst) ?t7)
      case t1 => (show dp + 1 + 30 < recursionLimit; omega)
      case t2 => ktr_units
      case t3 => (refine ⟨?_, ?_, ?_, ?_, ?_, ?_, ?_, ?_, ?_⟩ <;> (try dsimp only) <;> omega)
      case t4 => assumption
      case t5 => omega
      case t6 => omega
      case t7 =>
        intro D9 t9 s9 m9 hg9 hd9 ho9 Fe Ne _
        exact leaveT_ gT Fe Ne (fun g₁ T1 F1 N1 B1 => hret st D9 t9 av s9 g₁ _ _ _ hst hS9 (by omega) (fun h => by rw [hg9]; exact h) hd9 ho9 T1 B1 F1 (.inl ⟨by rw [hsty]; decide +kernel, by rw [hsty]; decide +kernel, rfl, N1⟩))
    · k_dflt (refine' conv_end_numeric gB Fi (XB.keeps gB.stays) Ni (TB.keeps gB.stays) ?t1 ?t2 ?t3 ?t4 hS9 hLow ?t5 ?t6 (C.keeps gB.stays) hq9 hq hO hP hbnd hsty (hW _ hst) ?t7)
      case t1 => (show dp + 1 + 30 < recursionLimit; omega)
      case t2 => ktr_units
      case t3 => (refine ⟨?_, ?_, ?_, ?_, ?_, ?_, ?_, ?_, ?_⟩ <;> (try dsimp only) <;> omega)
      case t4 => assumption
      case t5 => omega
      case t6 => omega
      case t7 =>
        intro D9 t9 s9 m9 hg9 hd9 ho9 Fe Ne _
        exact leaveT_ gT Fe Ne (fun g₁ T1 F1 N1 B1 => hret st D9 t9 av s9 g₁ _ _ _ hst hS9 (by omega) (fun h => by rw [hg9]; exact h) hd9 ho9 T1 B1 F1 (.inl ⟨by rw [hsty]; decide +kernel, by rw [hsty]; decide +kernel, rfl, N1⟩))
    · k_dflt (refine' conv_end_format gB Fi (XB.keeps gB.stays) Ni (TB.keeps gB.stays) ?t1 ?t2 ?t3 ?t4 hS9 hLow ?t5 ?t6 (C.keeps gB.stays) hq9 hq hO hP hbnd hsty (hW _ hst) ?t7)
      case t1 => (show dp + 1 + 30 < recursionLimit; omega)
      case t2 => ktr_units
      case t3 => (refine ⟨?_, ?_, ?_, ?_, ?_, ?_, ?_, ?_, ?_⟩ <;> (try dsimp only) <;> omega)
      case t4 => assumption
      case t5 => omega
      case t6 => omega
      case t7 =>
        intro D9 t9 s9 m9 hg9 hd9 ho9 Fe Ne _
        exact leaveT_ gT Fe Ne (fun g₁ T1 F1 N1 B1 => hret st D9 t9 av s9 g₁ _ _ _ hst hS9 (by omega) (fun h => by rw [hg9]; exact h) hd9 ho9 T1 B1 F1 (.inl ⟨by rw [hsty]; decide +kernel, by rw [hsty]; decide +kernel, rfl, N1⟩))
    · obtain ⟨ea, hod, hA, hsub⟩ := hav (hxg (by rw [hsty]; simp))
      k_dflt (refine' conv_end_named gB Fi (XB.keeps gB.stays) Ni (TB.keeps gB.stays) ?t1 ?t2 ?t3 ?t4 hS9 hLow ?t5 ?t6 (C.keeps gB.stays) hq9 hq hO hP hbnd hsty (hW _ hst) ea hod hA (hsub _ hst) ?t7)
      case t1 => (show dp + 1 + 30 < recursionLimit; omega)
      case t2 => ktr_units
      case t3 => (refine ⟨?_, ?_, ?_, ?_, ?_, ?_, ?_, ?_, ?_⟩ <;> (try dsimp only) <;> omega)
      case t4 => assumption
      case t5 => omega
      case t6 => omega
      case t7 =>
        intro D9 V9 t9 s9 m9 ps9 hT9 hg9 hd9 ho9 Fe Ne _ _
        exact leaveT_ gT Fe Ne (fun g₁ T1 F1 N1 B1 => hret st D9 t9 (.ref V9) s9 g₁ _ _ _ hst hT9 (by omega) hg9 hd9 ho9 T1 B1 F1 (.inr ⟨V9, rfl, N1, by rw [hsty]; simp⟩))
    · obtain ⟨ea, hod, hA, hsub⟩ := hav (hxg (by rw [hsty]; simp))
      k_dflt (refine' conv_end_pyformat gB Fi (XB.keeps gB.stays) Ni (TB.keeps gB.stays) ?t1 ?t2 ?t3 ?t4 hS9 hLow ?t5 ?t6 (C.keeps gB.stays) hq9 hq hO hP hbnd hsty (hW _ hst) ea hod hA (hsub _ hst) ?t7)
      case t1 => (show dp + 1 + 30 < recursionLimit; omega)
      case t2 => ktr_units
      case t3 => (refine ⟨?_, ?_, ?_, ?_, ?_, ?_, ?_, ?_, ?_⟩ <;> (try dsimp only) <;> omega)
      case t4 => assumption
      case t5 => omega
      case t6 => omega
      case t7 =>
        intro D9 V9 t9 s9 m9 ps9 hT9 hg9 hd9 ho9 Fe Ne _ _
        exact leaveT_ gT Fe Ne (fun g₁ T1 F1 N1 B1 => hret st D9 t9 (.ref V9) s9 g₁ _ _ _ hst hT9 (by omega) hg9 hd9 ho9 T1 B1 F1 (.inr ⟨V9, rfl, N1, by rw [hsty]; simp⟩))
end
section
set_option maxHeartbeats 3000000
local macro_rules | `(tactic| k_room) => `(tactic| ktr_room)
local macro_rules | `(tactic| k_units) => `(tactic| ktr_units)
local macro_rules | `(tactic| walk_at "exec Try") => `(tactic| (k_here; refine wpAny_Try_except ?_))
local macro_rules | `(tactic| walk_at "call ref") => `(tactic| (k_here; (with_reducible show wpAny _ _ (call (Value.ref 113) _) _ _ _); refine enumStop ?_))
theorem told_ok {w : World} {loose : List Str} {mean : ExcName → Option Value} {mg mb : Str → Option Value}
  {dp un : Nat} {gd : Option (List Code)} {cn : Str} {cs : Scope} {a : Addr} {ccd : Value} {A₀ : Around} {base h₀ : Heap} {L : Addr} {m : Str → Option Value} {s : Shared} {Q E : Value → Shared → Prop}
  {news : List (Addr × Obj)} {ps : Array Value} {x q : Str} {av : Value} {tx tq : Tok}
  (B : Below A₀ base [] h₀) (F : Fr h₀ L s.heap m) (X : (hd.heap_39 w.params).In h₀) (N : News h₀ L s.heap ((108, tabObj ps) :: news)) (hS : TabS ps news) (hG : ∀ p ∈ news, @LT.lt Nat _ 108 p.1) (C : CodeHd base 112 108)
  (T : Top topProg loose mean mg mb h₀) (XB : (hd.heap_39 w.params).In base) (TB : Top topProg loose mean mg mb base) (hk : cs.kind = .function) (hdp : dp + 60 < recursionLimit) (hun : un + 400 < cLine) (hq : q.length ≤ 100000)
  (hx5 : x = Str.ofString "qmark" ∨ x = Str.ofString "numeric" ∨ x = Str.ofString "format" ∨ x = Str.ofString "named" ∨ x = Str.ofString "pyformat") (hch : ∀ b ∈ q.cps.toList, b < 16 ^ 8)
  (hcolon : ∀ (i : Nat) (c : Str), (signs q)[i]? = some c → (c == Str.ofString ":") = true → ∃ b, (signs q)[i + 1]? = some ⟨#[b]⟩)
  (hW : ∀ st, cTake (signs q) (cStart x) (signs q).length = some st → (st.out.map (·.length)).sum + st.out.length ≤ 1048576)
  {d : Addr} {od : Obj} {val : Str → Value} {names : List Str} (hav : (x = Str.ofString "named" ∨ x = Str.ofString "pyformat") → av = .ref d ∧ (d, od) ∈ news ∧ ArgsOk PySem.Challenge.rw_ew0022_01.row.prog w d od val names ∧ ∀ st, cTake (signs q) (cStart x) (signs q).length = some st → ∀ y ∈ st.ph, y ∈ names)
  (hret : ∀ st D t' vV s' ps' c' co, cTake (signs q) (cStart x) (signs q).length = some st → TabS ps' ((c', co) :: news) → @LT.lt Nat _ 108 c' → (AllBare s.gens → AllBare s'.gens) → s'.drawn = s.drawn → s'.os = s.os → Fr h₀ L s'.heap m →
    ((st.style ≠ Str.ofString "named" ∧ st.style ≠ Str.ofString "pyformat" ∧ vV = av ∧ News h₀ L s'.heap ((D, tupO [.str (Txt.join (Str.ofString "") st.out) t', vV]) :: (108, tabObj ps') :: (c', co) :: news)) ∨
     (∃ V, vV = .ref V ∧ News h₀ L s'.heap ((D, tupO [.str (Txt.join (Str.ofString "") st.out) t', vV]) :: (V, tupO (st.ph.map val)) :: (108, tabObj ps') :: (c', co) :: news) ∧ (st.style = Str.ofString "named" ∨ st.style = Str.ofString "pyformat"))) → Q (.ref D) s')
  (hnone : cTake (signs q) (cStart x) (signs q).length = none → ∀ s' ps' c' co, TabS ps' ((c', co) :: news) → @LT.lt Nat _ 108 c' → (AllBare s.gens → AllBare s'.gens) → s'.drawn = s.drawn → s'.os = s.os → Fr h₀ L s'.heap m → News h₀ L s'.heap ((108, tabObj ps') :: (c', co) :: news) → Q .none s') :
  wpAny (model PySem.Challenge.rw_ew0022_01.row.prog w) (ktrTop dp un gd cn cs L a ccd [] []) (call (.ref 135) [.str x tx, .str q tq, av]) Q E s := by
  w_top off; k_with_none; revert X; k_fill; intro X
  (refine wpAny_call ?_)
  k_dflt (refine' code_defS0 ?k1 ?k2 ?k3 ?k4 ?k5 ?kA ?k6 ?k7 ?k8 ?k9 ?kB ?_ ?kK ?c2 ?c3 ?c4 ?c5; (case kA => exact rfl); (case kK => assumption); (case k1 => k_asm); (case k2 => k_asm); (case k3 => k_asm); (case k4 => k_asm); (case k5 => k_asm); (case k6 => k_is); (case k7 => k_is); (case k8 => ktr_room); (case k9 => exact BindsTo.of_eq rfl); (case kB => exact locs rfl); (case c2 => exact rfl); (case c3 => exact rfl); (case c4 => exact rfl); (case c5 => decide +kernel); k_whole; intro g' L' h' FG' F' N' B' X' T' D'; (try dsimp only); (try k_lift B'); (try k_fold))
  w_strict (k_steps)
  delta EnumStop
  rename Fr g' L' _ _ => F9
  rename News g' L' _ _ => N9
  k_dflt (refine' conv_ok B' F9 X' N9 hS hG C T' XB TB D' ?ck ?cd ?cu hq hx5 hch hcolon hW hav ?cr ?ce)
  case ck => exact rfl
  case cd => (show dp + 1 + 40 < recursionLimit; omega)
  case cu => ktr_units
  case cr =>
    intro st D9 t9 vV s9 g₁ ps9 c9 co9 hst hS9 hc9 hg9 hd9 ho9 T1 B1 F1 hN
    rcases hN with ⟨n1, n2, n3, n4⟩ | ⟨V, n1, n2, n3⟩
    · exact leaveS0_ F1 n4 T1 (fun F2 N2 => hret st D9 t9 vV s9 ps9 c9 co9 hst hS9 hc9 hg9 hd9 ho9 F2 (.inl ⟨n1, n2, n3, N2⟩))
    · exact leaveS0_ F1 n2 T1 (fun F2 N2 => hret st D9 t9 vV s9 ps9 c9 co9 hst hS9 hc9 hg9 hd9 ho9 F2 (.inr ⟨V, n1, N2, n3⟩))
  case ce =>
    intro hn0 G h9 e9 t9 vs9 ps9 c9 co9 tk9 hS9 hc9 F1 R1 U1
    k_dflt (refine' caught_SO0 R1 F1 B' U1 XB TB D' KtsTurn.refl ?ex ?q ?_)
    case ex => k_is
    case q => kts_isx
    intro h10 g10 n10 T10 F10 N10 G10 Nl10 K10 X10 P10 D10
    w_strict (k_steps)
    exact hnone hn0 _ ps9 c9 co9 hS9 hc9 (fun h => h) rfl rfl (by assumption) (by assumption)
end
section
set_option maxHeartbeats 3000000
def sg (l : List Nat) : List Str := l.map fun b => ⟨#[b]⟩
def headOr (l : List Nat) (nx : Option Str) : Option Str := match l with
  | [] => nx
  | d :: _ => some ⟨#[d]⟩
def runN : List Nat → Option Str → CS → Option CS
  | [], _, st => some st
  | c :: r, nx, st => (cStep ⟨#[c]⟩ (headOr r nx) st).bind (runN r nx)
theorem headOr_append (a b : List Nat) (nx : Option Str) : headOr (a ++ b) nx = headOr a (headOr b nx) := by
  cases a <;> rfl
theorem run_append (a b : List Nat) (nx : Option Str) : ∀ st, runN (a ++ b) nx st = (runN a (headOr b nx) st).bind (runN b nx) := by
  induction a with
  | nil => intro st; rfl
  | cons c r ih =>
    intro st
    show (cStep ⟨#[c]⟩ (headOr (r ++ b) nx) st).bind (runN (r ++ b) nx) = ((cStep ⟨#[c]⟩ (headOr r (headOr b nx)) st).bind (runN r (headOr b nx))).bind (runN b nx)
    rw [headOr_append, Option.bind_assoc]
    congr 1
    funext st'
    exact ih st'
theorem cTake_run (l : List Nat) (st : CS) : ∀ i, i ≤ l.length → cTake (sg l) st i = runN (l.take i) (headOr (l.drop i) none) st := by
  intro i
  induction i with
  | zero => intro _; rfl
  | succ i ih =>
    intro hi
    have hlt : i < l.length := hi
    show (cTake (sg l) st i).bind _ = _
    rw [ih (Nat.le_of_lt hlt), List.take_succ_eq_append_getElem hlt, run_append, List.drop_eq_getElem_cons hlt]
    congr 1
    funext st'
    have e1 : (sg l)[i]? = some ⟨#[l[i]]⟩ := by
      unfold sg
      rw [List.getElem?_map, List.getElem?_eq_getElem hlt]; rfl
    have e2 : (sg l)[i + 1]? = headOr (l.drop (i + 1)) none := by
      unfold sg
      rw [List.getElem?_map]
      cases h : l.drop (i + 1) with
      | nil =>
        rw [List.getElem?_eq_none (List.drop_eq_nil_iff.mp h)]; rfl
      | cons d r =>
        have : l[i + 1]? = some d := by
          have := congrArg List.head? h
          rwa [List.head?_drop] at this
        rw [this]; rfl
    rw [e1, e2]
    show cStep _ _ st' = (cStep _ _ st').bind fun x => some x
    simp
    rfl
theorem cTake_all (l : List Nat) (st : CS) : cTake (sg l) st (sg l).length = runN l none st := by
  have e : (sg l).length = l.length := List.length_map _
  rw [e, cTake_run l st l.length (Nat.le_refl _), List.take_length, List.drop_length]
  rfl
theorem signs_sg (q : Str) : signs q = sg q.cps.toList := rfl
def cat (out : List Str) : List Nat := out.flatMap (·.cps.toList)
theorem cat_append (a b : List Str) : cat (a ++ b) = cat a ++ cat b := by unfold cat; simp
theorem cat_sg (l : List Nat) : cat (sg l) = l := by
  induction l with
  | nil => rfl
  | cons c r ih => unfold cat sg at *; simp only [List.map_cons, List.flatMap_cons]; rw [ih]; rfl
theorem join_cat : ∀ out : List Str, (Str.join (Str.ofString "") out).cps.toList = cat out := by
  intro out
  have e0 : Str.ofString "" = (⟨#[]⟩ : Str) := by decide +kernel
  rw [e0]
  induction out with
  | nil => rfl
  | cons x r ih =>
    cases r with
    | nil => unfold cat; simp [Str.join]
    | cons y r =>
      show (x ++ ⟨#[]⟩ ++ Str.join ⟨#[]⟩ (y :: r)).cps.toList = _
      rw [Str.cps_append, Str.cps_append, Array.toList_append, ih]
      unfold cat
      simp
theorem txtJoin_cat (out : List Str) : (Txt.join (Str.ofString "") out).cps.toList = cat out := by
  show (PySem.Builtin.Str.glued (Str.ofString "") out).cps.toList = _
  rw [StrLaws.glued_eq_join]
  exact join_cat out
theorem str_ext {a b : Str} (h : a.cps.toList = b.cps.toList) : a = b := by
  cases a; cases b; simp at h; simp [h]
theorem ch (a b : Nat) : ((⟨#[a]⟩ : Str) == ⟨#[b]⟩) = (a == b) := by
  rw [Bool.eq_iff_iff]
  simp
theorem lq : Str.ofString "'" = (⟨#[39]⟩ : Str) := by decide +kernel
theorem ldq : Str.ofString "\"" = (⟨#[34]⟩ : Str) := by decide +kernel
theorem lmi : Str.ofString "-" = (⟨#[45]⟩ : Str) := by decide +kernel
theorem ldo : Str.ofString "$" = (⟨#[36]⟩ : Str) := by decide +kernel
theorem lqm : Str.ofString "?" = (⟨#[63]⟩ : Str) := by decide +kernel
theorem lco : Str.ofString ":" = (⟨#[58]⟩ : Str) := by decide +kernel
theorem lpc : Str.ofString "%" = (⟨#[37]⟩ : Str) := by decide +kernel
theorem lss : Str.ofString "s" = (⟨#[115]⟩ : Str) := by decide +kernel
theorem lpo : Str.ofString "(" = (⟨#[40]⟩ : Str) := by decide +kernel
theorem lpe : Str.ofString ")" = (⟨#[41]⟩ : Str) := by decide +kernel
theorem lnl : Str.ofString "\n" = (⟨#[10]⟩ : Str) := by decide +kernel
theorem lE : Str.ofString "E" = (⟨#[69]⟩ : Str) := by decide +kernel
theorem lbs : Str.ofString "\\" = (⟨#[92]⟩ : Str) := by decide +kernel
theorem lus : Str.ofString "_" = (⟨#[95]⟩ : Str) := by decide +kernel
theorem leq : Str.ofString "=" = (⟨#[61]⟩ : Str) := by decide +kernel
theorem lsp : Str.ofString " " = (⟨#[32]⟩ : Str) := by decide +kernel
def lastOr (l : List Nat) (p : Option Str) : Option Str := match l with
  | [] => p
  | c :: r => lastOr r (some ⟨#[c]⟩)
theorem lastOr_append (a b : List Nat) : ∀ p, lastOr (a ++ b) p = lastOr b (lastOr a p) := by
  induction a with
  | nil => intro p; rfl
  | cons c r ih => intro p; exact ih _
section
variable {x : Str} {qe pe : Bool} {ph : List Str} {cnt : Int}
theorem sg_cons (c : Nat) (r : List Nat) : sg (c :: r) = ⟨#[c]⟩ :: sg r := rfl
theorem sg_append (a b : List Nat) : sg (a ++ b) = sg a ++ sg b := List.map_append
theorem run_1 (l : List Nat) (h : ∀ c ∈ l, c ≠ 39) : ∀ nx out prev, runN l nx ⟨x, 1, qe, pe, ph, out, cnt, prev⟩ = some ⟨x, 1, qe, pe, ph, out ++ sg l, cnt, lastOr l prev⟩ := by
  induction l with
  | nil => intro nx out prev; simp [runN, sg, lastOr]
  | cons c r ih =>
    intro nx out prev
    have hc : (c == 39) = false := by simp [h c (by simp)]
    unfold runN
    rw [cStep_1, lq, ch, hc]
    simp only [Bool.false_eq_true, if_false, Option.bind_some]
    rw [ih (fun d hd => h d (by simp [hd])), sg_cons]
    simp [lastOr]
theorem run_2 (l : List Nat) (h : ∀ c ∈ l, c ≠ 34) : ∀ nx out prev, runN l nx ⟨x, 2, qe, pe, ph, out, cnt, prev⟩ = some ⟨x, 2, qe, pe, ph, out ++ sg l, cnt, lastOr l prev⟩ := by
  induction l with
  | nil => intro nx out prev; simp [runN, sg, lastOr]
  | cons c r ih =>
    intro nx out prev
    have hc : (c == 34) = false := by simp [h c (by simp)]
    unfold runN
    rw [cStep_2, ldq, ch, hc]
    simp only [Bool.false_eq_true, if_false, Option.bind_some]
    rw [ih (fun d hd => h d (by simp [hd])), sg_cons]
    simp [lastOr]
theorem run_3 (l : List Nat) (h : ∀ c ∈ l, c ≠ 39) : ∀ nx out prev, runN l nx ⟨x, 3, qe, pe, ph, out, cnt, prev⟩ = some ⟨x, 3, qe, pe, ph, out ++ sg l, cnt, lastOr l prev⟩ := by
  induction l with
  | nil => intro nx out prev; simp [runN, sg, lastOr]
  | cons c r ih =>
    intro nx out prev
    have hc : (c == 39) = false := by simp [h c (by simp)]
    unfold runN
    rw [cStep_3, lq, ch, hc]
    simp only [Bool.false_and, Bool.false_eq_true, if_false, Option.bind_some]
    rw [ih (fun d hd => h d (by simp [hd])), sg_cons]
    simp [lastOr]
theorem run_5 (l : List Nat) (h : ∀ c ∈ l, c ≠ 10) : ∀ nx out prev, runN l nx ⟨x, 5, qe, pe, ph, out, cnt, prev⟩ = some ⟨x, 5, qe, pe, ph, out ++ sg l, cnt, lastOr l prev⟩ := by
  induction l with
  | nil => intro nx out prev; simp [runN, sg, lastOr]
  | cons c r ih =>
    intro nx out prev
    have hc : (c == 10) = false := by simp [h c (by simp)]
    unfold runN
    rw [cStep_5, lnl, ch, hc]
    simp only [Bool.false_eq_true, if_false, Option.bind_some]
    rw [ih (fun d hd => h d (by simp [hd])), sg_cons]
    simp [lastOr]
theorem run_6 (l : List Nat) (h : ∀ c ∈ l, c ≠ 36) : ∀ nx out prev, runN l nx ⟨x, 6, qe, pe, ph, out, cnt, prev⟩ = some ⟨x, 6, qe, pe, ph, out ++ sg l, cnt, lastOr l prev⟩ := by
  induction l with
  | nil => intro nx out prev; simp [runN, sg, lastOr]
  | cons c r ih =>
    intro nx out prev
    have hc : (c == 36) = false := by simp [h c (by simp)]
    unfold runN
    rw [cStep_6, ldo, ch, hc]
    simp only [Bool.false_and, Bool.false_eq_true, if_false, Option.bind_some]
    rw [ih (fun d hd => h d (by simp [hd])), sg_cons]
    simp [lastOr]
/-- a word that stays in its state and is taken over as it stands -/
def Stays (n : Int) (w : List Nat) : Prop := ∀ (x : Str) (ph : List Str) (cnt : Int) nx out prev, runN w nx ⟨x, n, false, false, ph, out, cnt, prev⟩ = some ⟨x, n, false, false, ph, out ++ sg w, cnt, lastOr w prev⟩
theorem Stays.nil (n : Int) : Stays n [] := by intro x ph cnt nx out prev; simp [runN, sg, lastOr]
theorem Stays.append {n : Int} {a b : List Nat} (ha : Stays n a) (hb : Stays n b) : Stays n (a ++ b) := by
  intro x ph cnt nx out prev
  rw [run_append, ha, Option.bind_some, hb, sg_append, lastOr_append, List.append_assoc]
theorem stays_1 {l : List Nat} (h : ∀ c ∈ l, c ≠ 39) : Stays 1 l := fun _ _ _ nx out prev => run_1 l h nx out prev
theorem stays_2 {l : List Nat} (h : ∀ c ∈ l, c ≠ 34) : Stays 2 l := fun _ _ _ nx out prev => run_2 l h nx out prev
theorem stays_3 {l : List Nat} (h : ∀ c ∈ l, c ≠ 39) : Stays 3 l := fun _ _ _ nx out prev => run_3 l h nx out prev
theorem stays_5 {l : List Nat} (h : ∀ c ∈ l, c ≠ 10) : Stays 5 l := fun _ _ _ nx out prev => run_5 l h nx out prev
theorem stays_6 {l : List Nat} (h : ∀ c ∈ l, c ≠ 36) : Stays 6 l := fun _ _ _ nx out prev => run_6 l h nx out prev
theorem stays_sq : Stays 1 [39, 39] := by
  intro x ph cnt nx out prev
  simp [runN, headOr, cStep_1, lq, sg, lastOr]
theorem stays_dq : Stays 2 [34, 34] := by
  intro x ph cnt nx out prev
  simp [runN, headOr, cStep_2, cStep_0, cOut, lq, ldq, sg, lastOr]
theorem stays_bs : Stays 3 [92, 39] := by
  intro x ph cnt nx out prev
  simp [runN, headOr, cStep_3, lq, lbs, sg, lastOr]
end
theorem someIt_of {P : List Nat → Prop} (h0 : P []) (ha : ∀ a b, P a → P b → P (a ++ b)) {x y z : Str} (hw : ∀ v ∈ someW x y z, P v.cps.toList) (n : Int) : ∀ k, P (someIt x y z n k).2.cps.toList := by
  intro k
  induction k with
  | zero => show P (Str.ofString "").cps.toList; rw [empty_cps]; exact h0
  | succ k ih =>
    show P (((someIt x y z n k).2 ++ (someW x y z).getD _ Str.empty).cps.toList)
    rw [append_cps]
    refine ha _ _ ih ?_
    rw [List.getD_eq_getElem?_getD]
    cases e : (someW x y z)[(Int.fmod ((someIt x y z n k).1.fdiv 7) 14).toNat]? with
    | none => exact h0
    | some r => exact hw r (List.mem_of_getElem? e)
theorem someF_of {P : List Nat → Prop} (h0 : P []) (ha : ∀ a b, P a → P b → P (a ++ b)) {x y z : Str} (hw : ∀ v ∈ someW x y z, P v.cps.toList) (n : Int) : P (someF x y z n).cps.toList := someIt_of h0 ha hw n _
theorem someW_mem {P : List Nat → Prop} {x y z : Str} (h : ∀ v ∈ someW (Str.ofString "") (Str.ofString "") (Str.ofString ""), P v.cps.toList) (hx : P x.cps.toList) (hy : P y.cps.toList) (hz : P z.cps.toList) : ∀ v ∈ someW x y z, P v.cps.toList := by
  intro v hv
  have h' := fun v (hv : v ∈ [Str.ofString "x", Str.ofString " ", Str.ofString ":a", Str.ofString "--", Str.ofString "?", Str.ofString "%s", Str.ofString "%(a)s", Str.ofString "E", Str.ofString "é", Str.ofString "%", Str.ofString ":1"]) => h v (by
    show v ∈ [Str.ofString "x", Str.ofString " ", Str.ofString ":a", Str.ofString "--", Str.ofString "?", Str.ofString "%s", Str.ofString "%(a)s", Str.ofString "E", Str.ofString "é", Str.ofString "%", Str.ofString ":1"] ++ _
    exact List.mem_append_left _ hv)
  rcases List.mem_append.mp (show v ∈ [Str.ofString "x", Str.ofString " ", Str.ofString ":a", Str.ofString "--", Str.ofString "?", Str.ofString "%s", Str.ofString "%(a)s", Str.ofString "E", Str.ofString "é", Str.ofString "%", Str.ofString ":1"] ++ [x, y, z] from hv) with hv | hv
  · exact h' v hv
  · simp only [List.mem_cons, List.not_mem_nil, or_false] at hv
    rcases hv with rfl | rfl | rfl <;> assumption
theorem base_free : ∀ v ∈ someW (Str.ofString "") (Str.ofString "") (Str.ofString ""), ∀ c ∈ v.cps.toList, c ≠ 39 ∧ c ≠ 34 ∧ c ≠ 10 ∧ c ≠ 92 ∧ c < 1114112 := by decide +kernel
theorem stays_some0 (n : Int) : Stays 1 (someF (Str.ofString "''") (Str.ofString "$$") (Str.ofString "\"") n).cps.toList :=
  someF_of (Stays.nil 1) (fun _ _ => Stays.append) (someW_mem (fun v hv => stays_1 fun c hc => (base_free v hv c hc).1) (by rw [show (Str.ofString "''").cps.toList = [39, 39] from by decide +kernel]; exact stays_sq) (stays_1 (by decide +kernel)) (stays_1 (by decide +kernel))) n
def NoBs (w : List Nat) : Prop := ∀ p : Option Str, p ≠ some ⟨#[92]⟩ → lastOr w p ≠ some ⟨#[92]⟩
theorem NoBs.nil : NoBs [] := fun _ h => h
theorem NoBs.append {a b : List Nat} (ha : NoBs a) (hb : NoBs b) : NoBs (a ++ b) := fun p h => by rw [lastOr_append]; exact hb _ (ha _ h)
theorem noBs_of : ∀ {l : List Nat}, (∀ c ∈ l, c ≠ 92) → NoBs l
  | [], _ => NoBs.nil
  | c :: r, h => fun p _ => noBs_of (l := r) (fun d hd => h d (by simp [hd])) _ (by simp [h c (by simp)])
theorem stays_some1 (n : Int) : Stays 3 (someF (Str.ofString "\\'") (Str.ofString "$$") (Str.ofString "\"") n).cps.toList ∧ NoBs (someF (Str.ofString "\\'") (Str.ofString "$$") (Str.ofString "\"") n).cps.toList :=
  someF_of (P := fun l => Stays 3 l ∧ NoBs l) ⟨Stays.nil 3, NoBs.nil⟩ (fun _ _ a b => ⟨a.1.append b.1, a.2.append b.2⟩) (someW_mem (P := fun l => Stays 3 l ∧ NoBs l) (fun v hv => ⟨stays_3 fun c hc => (base_free v hv c hc).1, noBs_of fun c hc => (base_free v hv c hc).2.2.2.1⟩) (by
    rw [show (Str.ofString "\\'").cps.toList = [92, 39] from by decide +kernel]
    exact ⟨stays_bs, fun p _ => by simp [lastOr]⟩) ⟨stays_3 (by decide +kernel), noBs_of (by decide +kernel)⟩ ⟨stays_3 (by decide +kernel), noBs_of (by decide +kernel)⟩) n
theorem stays_some2 (n : Int) : Stays 2 (someF (Str.ofString "\"\"") (Str.ofString "$$") (Str.ofString "'") n).cps.toList :=
  someF_of (Stays.nil 2) (fun _ _ => Stays.append) (someW_mem (fun v hv => stays_2 fun c hc => (base_free v hv c hc).2.1) (by rw [show (Str.ofString "\"\"").cps.toList = [34, 34] from by decide +kernel]; exact stays_dq) (stays_2 (by decide +kernel)) (stays_2 (by decide +kernel))) n
theorem stays_some3 (n : Int) : Stays 5 (someF (Str.ofString "'") (Str.ofString "$$") (Str.ofString "\"") n).cps.toList :=
  someF_of (Stays.nil 5) (fun _ _ => Stays.append) (someW_mem (fun v hv => stays_5 fun c hc => (base_free v hv c hc).2.2.1) (stays_5 (by decide +kernel)) (stays_5 (by decide +kernel)) (stays_5 (by decide +kernel))) n
theorem small_some {x y z : Str} (hx : ∀ c ∈ x.cps.toList, c < 1114112) (hy : ∀ c ∈ y.cps.toList, c < 1114112) (hz : ∀ c ∈ z.cps.toList, c < 1114112) (n : Int) : ∀ c ∈ (someF x y z n).cps.toList, c < 1114112 :=
  someF_of (P := fun l => ∀ c ∈ l, c < 1114112) (fun _ h => nomatch h) (fun _ _ a b c hc => (List.mem_append.mp hc).elim (a c) (b c)) (someW_mem (P := fun l => ∀ c ∈ l, c < 1114112) (fun v hv c hc => (base_free v hv c hc).2.2.2.2) hx hy hz) n
/-- what may stand behind a part -/
def Behind (nx : Option Str) : Prop := nx = some ⟨#[32]⟩ ∨ nx = some ⟨#[44]⟩ ∨ nx = some ⟨#[41]⟩ ∨ nx = some ⟨#[58]⟩
def Fresh (p : Option Str) : Prop := p = none ∨ p = some ⟨#[32]⟩
def Piece (x : Str) (t nw : List Nat) (ph ph' : List Str) (cnt cnt' : Int) : Prop :=
  ∀ nx out prev, Fresh prev → Behind nx → ∃ out' p', runN t nx ⟨x, 0, false, false, ph, out, cnt, prev⟩ = some ⟨x, 0, false, false, ph', out', cnt', p'⟩ ∧ cat out' = cat out ++ nw
theorem piece_text0 {x : Str} {ph : List Str} {cnt : Int} {w : List Nat} (hw : Stays 1 w) : Piece x ([39] ++ w ++ [39]) ([39] ++ w ++ [39]) ph ph cnt cnt := by
  intro nx out prev hp hn
  have e1 : ∀ nx, runN [39] nx ⟨x, 0, false, false, ph, out, cnt, prev⟩ = some ⟨x, 1, false, false, ph, out ++ sg [39], cnt, some ⟨#[39]⟩⟩ := by
    intro nx
    rcases hp with rfl | rfl <;> simp [runN, headOr, cStep_0, cOut, lq, lE, sg]
  have e2 : ∀ out prev, runN [39] nx ⟨x, 1, false, false, ph, out, cnt, prev⟩ = some ⟨x, 0, false, false, ph, out ++ sg [39], cnt, some ⟨#[39]⟩⟩ := by
    intro out prev
    rcases hn with rfl | rfl | rfl | rfl <;> simp [runN, headOr, cStep_1, lq, sg]
  refine ⟨out ++ sg [39] ++ sg w ++ sg [39], some ⟨#[39]⟩, ?_, ?_⟩
  · rw [run_append, run_append, e1, Option.bind_some, hw, Option.bind_some, e2]
  · simp [cat_append, cat_sg]
theorem piece_text1 {x : Str} {ph : List Str} {cnt : Int} {w : List Nat} (hw : Stays 3 w) (hb : NoBs w) : Piece x ([69, 39] ++ w ++ [39]) ([69, 39] ++ w ++ [39]) ph ph cnt cnt := by
  intro nx out prev hp hn
  have e1 : ∀ nx, runN [69, 39] nx ⟨x, 0, false, false, ph, out, cnt, prev⟩ = some ⟨x, 3, false, false, ph, out ++ sg [69, 39], cnt, some ⟨#[39]⟩⟩ := by
    intro nx
    simp [runN, headOr, cStep_0, cOut, lq, lE, ldq, lmi, ldo, lqm, lco, lpc, sg]
  have e2 : ∀ out prev, prev ≠ some ⟨#[92]⟩ → runN [39] nx ⟨x, 3, false, false, ph, out, cnt, prev⟩ = some ⟨x, 0, false, false, ph, out ++ sg [39], cnt, some ⟨#[39]⟩⟩ := by
    intro out prev h
    simp [runN, headOr, cStep_3, lq, lbs, sg, h]
  refine ⟨out ++ sg [69, 39] ++ sg w ++ sg [39], some ⟨#[39]⟩, ?_, ?_⟩
  · rw [run_append, run_append, e1, Option.bind_some, hw, Option.bind_some, e2 _ _ (hb _ (by simp))]
  · simp [cat_append, cat_sg]
theorem piece_text2 {x : Str} {ph : List Str} {cnt : Int} {w : List Nat} (hw : Stays 2 w) : Piece x ([34] ++ w ++ [34]) ([34] ++ w ++ [34]) ph ph cnt cnt := by
  intro nx out prev hp hn
  have e1 : ∀ nx, runN [34] nx ⟨x, 0, false, false, ph, out, cnt, prev⟩ = some ⟨x, 2, false, false, ph, out ++ sg [34], cnt, some ⟨#[34]⟩⟩ := by
    intro nx
    simp [runN, headOr, cStep_0, cOut, lq, ldq, sg]
  have e2 : ∀ out prev, runN [34] nx ⟨x, 2, false, false, ph, out, cnt, prev⟩ = some ⟨x, 0, false, false, ph, out ++ sg [34], cnt, some ⟨#[34]⟩⟩ := by
    intro out prev
    simp [runN, headOr, cStep_2, ldq, sg]
  refine ⟨out ++ sg [34] ++ sg w ++ sg [34], some ⟨#[34]⟩, ?_, ?_⟩
  · rw [run_append, run_append, e1, Option.bind_some, hw, Option.bind_some, e2]
  · simp [cat_append, cat_sg]
theorem piece_text3 {x : Str} {ph : List Str} {cnt : Int} {w : List Nat} (hw : Stays 5 w) : Piece x ([45, 45] ++ w ++ [10]) ([45, 45] ++ w ++ [10]) ph ph cnt cnt := by
  intro nx out prev hp hn
  have e1 : ∀ nx, runN [45, 45] nx ⟨x, 0, false, false, ph, out, cnt, prev⟩ = some ⟨x, 5, false, false, ph, out ++ sg [45, 45], cnt, some ⟨#[45]⟩⟩ := by
    intro nx
    rcases hp with rfl | rfl <;> simp [runN, headOr, cStep_0, cOut, lq, ldq, lmi, sg]
  have e2 : ∀ out prev, runN [10] nx ⟨x, 5, false, false, ph, out, cnt, prev⟩ = some ⟨x, 0, false, false, ph, out ++ sg [10], cnt, some ⟨#[10]⟩⟩ := by
    intro out prev
    simp [runN, headOr, cStep_5, lnl, sg]
  refine ⟨out ++ sg [45, 45] ++ sg w ++ sg [10], some ⟨#[10]⟩, ?_, ?_⟩
  · rw [run_append, run_append, e1, Option.bind_some, hw, Option.bind_some, e2]
  · simp [cat_append, cat_sg]
theorem lastOr_free {l : List Nat} {a : Nat} (h : ∀ c ∈ l, c ≠ a) : ∀ p : Option Str, p ≠ some ⟨#[a]⟩ → lastOr l p ≠ some ⟨#[a]⟩ := by
  induction l with
  | nil => intro p hp; exact hp
  | cons c r ih =>
    intro p hp
    exact ih (fun d hd => h d (by simp [hd])) _ (by simp [h c (by simp)])
theorem piece_text4 {x : Str} {ph : List Str} {cnt : Int} {w : List Nat} (hw : ∀ c ∈ w, c ≠ 36) : Piece x ([36, 36, 120] ++ w ++ [36, 36]) ([36, 36, 120] ++ w ++ [36, 36]) ph ph cnt cnt := by
  intro nx out prev hp hn
  have e1 : ∀ nx, runN [36, 36, 120] nx ⟨x, 0, false, false, ph, out, cnt, prev⟩ = some ⟨x, 6, false, false, ph, out ++ sg [36, 36, 120], cnt, some ⟨#[120]⟩⟩ := by
    intro nx
    rcases hp with rfl | rfl <;> simp [runN, headOr, cStep_0, cStep_6, cOut, lq, ldq, lmi, ldo, sg]
  have e2 : ∀ out prev, prev ≠ some ⟨#[36]⟩ → runN [36, 36] nx ⟨x, 6, false, false, ph, out, cnt, prev⟩ = some ⟨x, 0, false, false, ph, out ++ sg [36, 36], cnt, some ⟨#[36]⟩⟩ := by
    intro out prev h
    simp [runN, headOr, cStep_6, ldo, sg, h]
  refine ⟨out ++ sg [36, 36, 120] ++ sg w ++ sg [36, 36], some ⟨#[36]⟩, ?_, ?_⟩
  · rw [run_append, run_append, e1, Option.bind_some, stays_6 hw, Option.bind_some, e2 _ _ (lastOr_free hw _ (by simp))]
  · simp [cat_append, cat_sg]
end
section
set_option maxHeartbeats 3000000
theorem piece_plain {x : Str} {ph : List Str} {cnt : Int} {i : Nat} (hi : i < 7) : Piece x (textTab.getD i Str.empty).cps.toList (textTab.getD i Str.empty).cps.toList ph ph cnt cnt := by
  intro nx out prev hp hn
  refine ⟨out ++ sg (textTab.getD i Str.empty).cps.toList, lastOr (textTab.getD i Str.empty).cps.toList prev, ?_, by rw [cat_append, cat_sg]⟩
  have hcase : i = 0 ∨ i = 1 ∨ i = 2 ∨ i = 3 ∨ i = 4 ∨ i = 5 ∨ i = 6 := by omega
  rcases hcase with rfl | rfl | rfl | rfl | rfl | rfl | rfl
  · rw [show (textTab.getD 0 Str.empty).cps.toList = [115, 101, 108, 101, 99, 116] from by decide +kernel]
    simp [runN, headOr, cStep_0, cOut, lq, ldq, lmi, ldo, lqm, lco, lpc, sg, lastOr]
  · rw [show (textTab.getD 1 Str.empty).cps.toList = [120, 58, 58, 116, 101, 120, 116] from by decide +kernel]
    simp [runN, headOr, cStep_0, cOut, notCE, lq, ldq, lmi, ldo, lqm, lco, lpc, leq, sg, lastOr]
  · rw [show (textTab.getD 2 Str.empty).cps.toList = [121, 32, 58, 61, 32, 51] from by decide +kernel]
    simp [runN, headOr, cStep_0, cOut, notCE, lq, ldq, lmi, ldo, lqm, lco, lpc, leq, sg, lastOr]
  · rw [show (textTab.getD 3 Str.empty).cps.toList = [40, 97, 32, 45, 32, 98, 41] from by decide +kernel]
    simp [runN, headOr, cStep_0, cOut, notCE, lq, ldq, lmi, ldo, lqm, lco, lpc, leq, sg, lastOr]
  · rw [show (textTab.getD 4 Str.empty).cps.toList = [102, 40, 49, 44, 32, 50, 41] from by decide +kernel]
    simp [runN, headOr, cStep_0, cOut, notCE, lq, ldq, lmi, ldo, lqm, lco, lpc, leq, sg, lastOr]
  · rw [show (textTab.getD 5 Str.empty).cps.toList = [69] from by decide +kernel]
    simp [runN, headOr, cStep_0, cOut, notCE, lq, ldq, lmi, ldo, lqm, lco, lpc, leq, sg, lastOr]
  · rw [show (textTab.getD 6 Str.empty).cps.toList = [36, 49] from by decide +kernel]
    rcases hp with rfl | rfl <;> simp [runN, headOr, cStep_0, cOut, notCE, lq, ldq, lmi, ldo, lqm, lco, lpc, leq, sg, lastOr]
structure LB where
  query : Str
  due : Str
  seen : List Str
  many : Int
def nameTab : List Str := [Str.ofString "a", Str.ofString "b", Str.ofString "ab", Str.ofString "a_1", Str.ofString "s", Str.ofString "xs"]
def behindTab : List Str := [Str.ofString "", Str.ofString ",", Str.ofString ")", Str.ofString "::int", Str.ofString " + 1"]
def seenAdd (seen : List Str) (name : Str) : List Str := if seen.any (· == name) then seen else seen ++ [name]
def lawPiece (style : Str) (kind number : Int) (b : LB) : (Str × Str) × (List Str × Int) :=
  if kind < 6 then ((textF kind number, textF kind number), (b.seen, b.many))
  else
    let name := nameTab.getD (number.fmod 6).toNat Str.empty
    if style == Str.ofString "named" then ((Str.ofString ":" ++ name, dollar ((seenAdd b.seen name).idxOf name + 1)), (seenAdd b.seen name, b.many))
    else if style == Str.ofString "pyformat" then ((Str.ofString "%(" ++ name ++ Str.ofString ")s", dollar ((seenAdd b.seen name).idxOf name + 1)), (seenAdd b.seen name, b.many))
    else if style == Str.ofString "numeric" then ((Str.ofString ":" ++ Str.ofString (toString (number.fmod 12 + 1)), dollar (number.fmod 12 + 1)), (b.seen, b.many))
    else if style == Str.ofString "format" && number.fmod 5 == 0 then ((Str.ofString "%%", Str.ofString "%"), (b.seen, b.many))
    else ((if style == Str.ofString "qmark" then Str.ofString "?" else Str.ofString "%s", dollar (b.many + 1)), (b.seen, b.many + 1))
def lawStep (style : Str) (kind number : Int) (b : LB) : LB :=
  let behind := behindTab.getD ((number.fdiv 6).fmod 5).toNat Str.empty ++ Str.ofString " "
  let p := lawPiece style kind number b
  ⟨b.query ++ p.1.1 ++ behind, b.due ++ p.1.2 ++ behind, p.2.1, p.2.2⟩
theorem behindTab_head {j : Nat} (hj : j < 5) (nx : Option Str) : Behind (headOr (behindTab.getD j Str.empty ++ Str.ofString " ").cps.toList nx) := by
  have hcase : j = 0 ∨ j = 1 ∨ j = 2 ∨ j = 3 ∨ j = 4 := by omega
  rcases hcase with rfl | rfl | rfl | rfl | rfl
  · rw [show (behindTab.getD 0 Str.empty ++ Str.ofString " ").cps.toList = [32] from by decide +kernel]; exact .inl rfl
  · rw [show (behindTab.getD 1 Str.empty ++ Str.ofString " ").cps.toList = [44, 32] from by decide +kernel]; exact .inr (.inl rfl)
  · rw [show (behindTab.getD 2 Str.empty ++ Str.ofString " ").cps.toList = [41, 32] from by decide +kernel]; exact .inr (.inr (.inl rfl))
  · rw [show (behindTab.getD 3 Str.empty ++ Str.ofString " ").cps.toList = [58, 58, 105, 110, 116, 32] from by decide +kernel]; exact .inr (.inr (.inr rfl))
  · rw [show (behindTab.getD 4 Str.empty ++ Str.ofString " ").cps.toList = [32, 43, 32, 49, 32] from by decide +kernel]; exact .inl rfl
theorem run_behind {x : Str} {ph out : List Str} {cnt : Int} {prev nx : Option Str} {j : Nat} (hj : j < 5) :
    runN (behindTab.getD j Str.empty ++ Str.ofString " ").cps.toList nx ⟨x, 0, false, false, ph, out, cnt, prev⟩ = some ⟨x, 0, false, false, ph, out ++ sg (behindTab.getD j Str.empty ++ Str.ofString " ").cps.toList, cnt, some ⟨#[32]⟩⟩ := by
  have hcase : j = 0 ∨ j = 1 ∨ j = 2 ∨ j = 3 ∨ j = 4 := by omega
  rcases hcase with rfl | rfl | rfl | rfl | rfl
  · rw [show (behindTab.getD 0 Str.empty ++ Str.ofString " ").cps.toList = [32] from by decide +kernel]
    simp [runN, headOr, cStep_0, cOut, notCE, lq, ldq, lmi, ldo, lqm, lco, lpc, leq, sg]
  · rw [show (behindTab.getD 1 Str.empty ++ Str.ofString " ").cps.toList = [44, 32] from by decide +kernel]
    simp [runN, headOr, cStep_0, cOut, notCE, lq, ldq, lmi, ldo, lqm, lco, lpc, leq, sg]
  · rw [show (behindTab.getD 2 Str.empty ++ Str.ofString " ").cps.toList = [41, 32] from by decide +kernel]
    simp [runN, headOr, cStep_0, cOut, notCE, lq, ldq, lmi, ldo, lqm, lco, lpc, leq, sg]
  · rw [show (behindTab.getD 3 Str.empty ++ Str.ofString " ").cps.toList = [58, 58, 105, 110, 116, 32] from by decide +kernel]
    simp [runN, headOr, cStep_0, cOut, notCE, lq, ldq, lmi, ldo, lqm, lco, lpc, leq, sg]
  · rw [show (behindTab.getD 4 Str.empty ++ Str.ofString " ").cps.toList = [32, 43, 32, 49, 32] from by decide +kernel]
    simp [runN, headOr, cStep_0, cOut, notCE, lq, ldq, lmi, ldo, lqm, lco, lpc, leq, sg]
theorem piece_qmark {ph : List Str} {cnt : Int} : Piece (Str.ofString "qmark") (Str.ofString "?").cps.toList (dollar cnt).cps.toList ph ph cnt (cnt + 1) := by
  intro nx out prev hp hn
  refine ⟨out ++ [dollar cnt], some ⟨#[63]⟩, ?_, by simp [cat]⟩
  rw [show (Str.ofString "?").cps.toList = [63] from by decide +kernel]
  simp [runN, headOr, cStep_0, cOut, lq, ldq, lmi, ldo, lqm]
theorem piece_format {ph : List Str} {cnt : Int} : Piece (Str.ofString "format") (Str.ofString "%s").cps.toList (dollar cnt).cps.toList ph ph cnt (cnt + 1) := by
  intro nx out prev hp hn
  refine ⟨out ++ [dollar cnt], some ⟨#[115]⟩, ?_, by simp [cat]⟩
  rw [show (Str.ofString "%s").cps.toList = [37, 115] from by decide +kernel]
  simp [runN, headOr, cStep_0, cStep_4, cOut, cPn, lq, ldq, lmi, ldo, lqm, lco, lpc, lss, sb_format_qmark, sb_format_numeric, sb_format_named, sb_format_pyformat]
theorem piece_percent {ph : List Str} {cnt : Int} : Piece (Str.ofString "format") (Str.ofString "%%").cps.toList (Str.ofString "%").cps.toList ph ph cnt cnt := by
  intro nx out prev hp hn
  refine ⟨out ++ [⟨#[37]⟩], some ⟨#[37]⟩, ?_, by rw [cat_append]; rfl⟩
  rw [show (Str.ofString "%%").cps.toList = [37, 37] from by decide +kernel]
  simp [runN, headOr, cStep_0, cOut, lq, ldq, lmi, ldo, lqm, lco, lpc, lss, sb_format_qmark, sb_format_numeric, sb_format_named, sb_format_pyformat]
theorem run_digits {ph : List Str} {cnt : Int} (l : List Nat) (h : ∀ c ∈ l, 48 ≤ c ∧ c ≤ 57) : ∀ nx out prev, runN l nx ⟨Str.ofString "numeric", 0, false, false, ph, out, cnt, prev⟩ = some ⟨Str.ofString "numeric", 0, false, false, ph, out ++ sg l, cnt, lastOr l prev⟩ := by
  induction l with
  | nil => intro nx out prev; simp [runN, sg, lastOr]
  | cons c r ih =>
    intro nx out prev
    have h1 := h c (by simp)
    unfold runN
    have e : cStep ⟨#[c]⟩ (headOr r nx) ⟨Str.ofString "numeric", 0, false, false, ph, out, cnt, prev⟩ = some ⟨Str.ofString "numeric", 0, false, false, ph, out ++ [⟨#[c]⟩], cnt, some ⟨#[c]⟩⟩ := by
      have e1 : (c == 39) = false := by simp; omega
      have e2 : (c == 34) = false := by simp; omega
      have e3 : (c == 45) = false := by simp; omega
      have e4 : (c == 36) = false := by simp; omega
      have e5 : (c == 58) = false := by simp; omega
      rw [cStep_0]
      unfold cOut
      simp only [lq, ldq, lmi, ldo, lqm, lco, lpc, ch, e1, e2, e3, e4, e5, sb_numeric_qmark, sb_numeric_named, sb_numeric_format, sb_numeric_pyformat, Bool.false_and, Bool.and_false, Bool.or_false, Bool.false_eq_true, if_false, Option.map_some]
    rw [e, Option.bind_some, ih (fun d hd => h d (by simp [hd])), sg_cons]
    simp [lastOr]
theorem piece_numeric {ph : List Str} {cnt k : Int} (h0 : 1 ≤ k) (h1 : k ≤ 12) : Piece (Str.ofString "numeric") (Str.ofString ":" ++ Str.ofString (toString k)).cps.toList (dollar k).cps.toList ph ph cnt cnt := by
  intro nx out prev hp hn
  have hd : (∃ d r, (Str.ofString (toString k)).cps.toList = d :: r) ∧ ∀ c ∈ (Str.ofString (toString k)).cps.toList, 48 ≤ c ∧ c ≤ 57 := by
    have hcase : k = 1 ∨ k = 2 ∨ k = 3 ∨ k = 4 ∨ k = 5 ∨ k = 6 ∨ k = 7 ∨ k = 8 ∨ k = 9 ∨ k = 10 ∨ k = 11 ∨ k = 12 := by omega
    rcases hcase with rfl | rfl | rfl | rfl | rfl | rfl | rfl | rfl | rfl | rfl | rfl | rfl <;> exact ⟨⟨_, _, rfl⟩, by decide +kernel⟩
  obtain ⟨⟨d, r, e⟩, hdig⟩ := hd
  refine ⟨out ++ [⟨#[36]⟩] ++ sg (Str.ofString (toString k)).cps.toList, lastOr (Str.ofString (toString k)).cps.toList (some ⟨#[58]⟩), ?_, ?_⟩
  · rw [append_cps, show (Str.ofString ":").cps.toList = [58] from by decide +kernel, run_append]
    have hh : headOr (Str.ofString (toString k)).cps.toList nx = some ⟨#[d]⟩ := by rw [e]; rfl
    have hd := hdig d (by rw [e]; simp)
    have e1 : (d == 58) = false := by simp; omega
    have e2 : (d == 61) = false := by simp; omega
    have hs : runN [58] (headOr (Str.ofString (toString k)).cps.toList nx) ⟨Str.ofString "numeric", 0, false, false, ph, out, cnt, prev⟩ = some ⟨Str.ofString "numeric", 0, false, false, ph, out ++ [⟨#[36]⟩], cnt, some ⟨#[58]⟩⟩ := by
      rw [hh]
      have e3 : d ≠ 58 := by omega
      have e4 : d ≠ 61 := by omega
      rcases hp with rfl | rfl <;> simp [runN, headOr, cStep_0, cOut, notCE, lq, ldq, lmi, ldo, lqm, lco, lpc, leq, sb_numeric_qmark, e3, e4]
    rw [hs, Option.bind_some, run_digits _ hdig]
  · unfold dollar
    rw [append_cps, cat_append, cat_append, cat_sg, ldo, List.append_assoc]
    rfl
theorem phEnd_seen {x : Str} {st : Int} {qe pe : Bool} {seen out : List Str} {nm : Str} {cnt : Int} {prev : Option Str} :
    phEnd ⟨x, st, qe, pe, seen ++ [nm], out, cnt, prev⟩ = ⟨x, 0, qe, pe, seenAdd seen nm, out ++ [dollar (((seenAdd seen nm).idxOf nm : Nat) + 1)], cnt, prev⟩ := by
  unfold phEnd seenAdd
  have e1 : (seen ++ [nm]).dropLast = seen := by simp
  have e2 : (seen ++ [nm]).getLastD Str.empty = nm := by simp
  have e3 : seen.contains nm = seen.any (· == nm) := by
    rw [Bool.eq_iff_iff]; simp [List.any_eq_true]
  simp only [e1, e2]
  cases hc : seen.any (· == nm) with
  | true => rw [e3, hc]; simp
  | false =>
    rw [e3, hc]
    have hn : nm ∉ seen := by
      intro hm
      have : seen.any (· == nm) = true := by simp [hm]
      rw [hc] at this; cases this
    have : (seen ++ [nm]).idxOf nm = seen.length := by
      rw [List.idxOf_append]
      simp [hn]
    simp [this]
theorem scat (a b : Array Nat) : (⟨a⟩ : Str) ++ (⟨b⟩ : Str) = ⟨a ++ b⟩ := rfl
theorem lem : Str.ofString "" = (⟨#[]⟩ : Str) := by decide +kernel
theorem ne97 : nameEnd (some ⟨#[97]⟩) = false := by decide +kernel
theorem ne98 : nameEnd (some ⟨#[98]⟩) = false := by decide +kernel
theorem ne95 : nameEnd (some ⟨#[95]⟩) = false := by decide +kernel
theorem ne49 : nameEnd (some ⟨#[49]⟩) = false := by decide +kernel
theorem ne115 : nameEnd (some ⟨#[115]⟩) = false := by decide +kernel
theorem ne120 : nameEnd (some ⟨#[120]⟩) = false := by decide +kernel
theorem ne_behind {nx : Option Str} (h : Behind nx) : nameEnd nx = true := by
  rcases h with rfl | rfl | rfl | rfl <;> decide +kernel
theorem piece_named {seen : List Str} {cnt : Int} {i : Nat} (hi : i < 6) : Piece (Str.ofString "named") (Str.ofString ":" ++ nameTab.getD i Str.empty).cps.toList (dollar (((seenAdd seen (nameTab.getD i Str.empty)).idxOf (nameTab.getD i Str.empty) : Nat) + 1)).cps.toList seen (seenAdd seen (nameTab.getD i Str.empty)) cnt cnt := by
  intro nx out prev hp hn
  have hne := ne_behind hn
  generalize hN : nameTab.getD i Str.empty = nm
  refine ⟨out ++ [dollar (((seenAdd seen nm).idxOf nm : Nat) + 1)], lastOr (Str.ofString ":" ++ nm).cps.toList prev, ?_, by simp [cat]⟩
  have hcase : i = 0 ∨ i = 1 ∨ i = 2 ∨ i = 3 ∨ i = 4 ∨ i = 5 := by omega
  rcases hcase with rfl | rfl | rfl | rfl | rfl | rfl
  · obtain rfl : nm = ⟨#[97]⟩ := by rw [← hN]; decide +kernel
    rw [lco]
    rcases hp with rfl | rfl <;> simp [scat, runN, headOr, cStep_0, cStep_4, cOut, cPn, notCE, lem, lq, ldq, lmi, ldo, lqm, lco, lpc, leq, sb_named_qmark, sb_named_numeric, phAdd_snoc, phEnd_seen, hne, ne97, ne98, ne95, ne49, ne115, ne120, lastOr]
  · obtain rfl : nm = ⟨#[98]⟩ := by rw [← hN]; decide +kernel
    rw [lco]
    rcases hp with rfl | rfl <;> simp [scat, runN, headOr, cStep_0, cStep_4, cOut, cPn, notCE, lem, lq, ldq, lmi, ldo, lqm, lco, lpc, leq, sb_named_qmark, sb_named_numeric, phAdd_snoc, phEnd_seen, hne, ne97, ne98, ne95, ne49, ne115, ne120, lastOr]
  · obtain rfl : nm = ⟨#[97, 98]⟩ := by rw [← hN]; decide +kernel
    rw [lco]
    rcases hp with rfl | rfl <;> simp [scat, runN, headOr, cStep_0, cStep_4, cOut, cPn, notCE, lem, lq, ldq, lmi, ldo, lqm, lco, lpc, leq, sb_named_qmark, sb_named_numeric, phAdd_snoc, phEnd_seen, hne, ne97, ne98, ne95, ne49, ne115, ne120, lastOr]
  · obtain rfl : nm = ⟨#[97, 95, 49]⟩ := by rw [← hN]; decide +kernel
    rw [lco]
    rcases hp with rfl | rfl <;> simp [scat, runN, headOr, cStep_0, cStep_4, cOut, cPn, notCE, lem, lq, ldq, lmi, ldo, lqm, lco, lpc, leq, sb_named_qmark, sb_named_numeric, phAdd_snoc, phEnd_seen, hne, ne97, ne98, ne95, ne49, ne115, ne120, lastOr]
  · obtain rfl : nm = ⟨#[115]⟩ := by rw [← hN]; decide +kernel
    rw [lco]
    rcases hp with rfl | rfl <;> simp [scat, runN, headOr, cStep_0, cStep_4, cOut, cPn, notCE, lem, lq, ldq, lmi, ldo, lqm, lco, lpc, leq, sb_named_qmark, sb_named_numeric, phAdd_snoc, phEnd_seen, hne, ne97, ne98, ne95, ne49, ne115, ne120, lastOr]
  · obtain rfl : nm = ⟨#[120, 115]⟩ := by rw [← hN]; decide +kernel
    rw [lco]
    rcases hp with rfl | rfl <;> simp [scat, runN, headOr, cStep_0, cStep_4, cOut, cPn, notCE, lem, lq, ldq, lmi, ldo, lqm, lco, lpc, leq, sb_named_qmark, sb_named_numeric, phAdd_snoc, phEnd_seen, hne, ne97, ne98, ne95, ne49, ne115, ne120, lastOr]
theorem piece_pyformat {seen : List Str} {cnt : Int} {i : Nat} (hi : i < 6) : Piece (Str.ofString "pyformat") (Str.ofString "%(" ++ nameTab.getD i Str.empty ++ Str.ofString ")s").cps.toList (dollar (((seenAdd seen (nameTab.getD i Str.empty)).idxOf (nameTab.getD i Str.empty) : Nat) + 1)).cps.toList seen (seenAdd seen (nameTab.getD i Str.empty)) cnt cnt := by
  intro nx out prev hp hn
  generalize hN : nameTab.getD i Str.empty = nm
  refine ⟨out ++ [dollar (((seenAdd seen nm).idxOf nm : Nat) + 1)], lastOr (Str.ofString "%(" ++ nm ++ Str.ofString ")s").cps.toList prev, ?_, by simp [cat]⟩
  rw [show Str.ofString "%(" = (⟨#[37, 40]⟩ : Str) from by decide +kernel, show Str.ofString ")s" = (⟨#[41, 115]⟩ : Str) from by decide +kernel]
  have hcase : i = 0 ∨ i = 1 ∨ i = 2 ∨ i = 3 ∨ i = 4 ∨ i = 5 := by omega
  rcases hcase with rfl | rfl | rfl | rfl | rfl | rfl
  · obtain rfl : nm = ⟨#[97]⟩ := by rw [← hN]; decide +kernel
    simp [scat, runN, headOr, cStep_0, cStep_4, cOut, cPn, notCE, lem, lq, ldq, lmi, ldo, lqm, lco, lpc, leq, lpo, lpe, lss, sb_pyformat_qmark, sb_pyformat_numeric, sb_pyformat_named, phAdd_snoc, phEnd_seen, lastOr]
  · obtain rfl : nm = ⟨#[98]⟩ := by rw [← hN]; decide +kernel
    simp [scat, runN, headOr, cStep_0, cStep_4, cOut, cPn, notCE, lem, lq, ldq, lmi, ldo, lqm, lco, lpc, leq, lpo, lpe, lss, sb_pyformat_qmark, sb_pyformat_numeric, sb_pyformat_named, phAdd_snoc, phEnd_seen, lastOr]
  · obtain rfl : nm = ⟨#[97, 98]⟩ := by rw [← hN]; decide +kernel
    simp [scat, runN, headOr, cStep_0, cStep_4, cOut, cPn, notCE, lem, lq, ldq, lmi, ldo, lqm, lco, lpc, leq, lpo, lpe, lss, sb_pyformat_qmark, sb_pyformat_numeric, sb_pyformat_named, phAdd_snoc, phEnd_seen, lastOr]
  · obtain rfl : nm = ⟨#[97, 95, 49]⟩ := by rw [← hN]; decide +kernel
    simp [scat, runN, headOr, cStep_0, cStep_4, cOut, cPn, notCE, lem, lq, ldq, lmi, ldo, lqm, lco, lpc, leq, lpo, lpe, lss, sb_pyformat_qmark, sb_pyformat_numeric, sb_pyformat_named, phAdd_snoc, phEnd_seen, lastOr]
  · obtain rfl : nm = ⟨#[115]⟩ := by rw [← hN]; decide +kernel
    simp [scat, runN, headOr, cStep_0, cStep_4, cOut, cPn, notCE, lem, lq, ldq, lmi, ldo, lqm, lco, lpc, leq, lpo, lpe, lss, sb_pyformat_qmark, sb_pyformat_numeric, sb_pyformat_named, phAdd_snoc, phEnd_seen, lastOr]
  · obtain rfl : nm = ⟨#[120, 115]⟩ := by rw [← hN]; decide +kernel
    simp [scat, runN, headOr, cStep_0, cStep_4, cOut, cPn, notCE, lem, lq, ldq, lmi, ldo, lqm, lco, lpc, leq, lpo, lpe, lss, sb_pyformat_qmark, sb_pyformat_numeric, sb_pyformat_named, phAdd_snoc, phEnd_seen, lastOr]
end
section
set_option maxHeartbeats 3000000
noncomputable def lawDef : List Stmt × Scope := match (PySem.Challenge.pw_ew0022_01.main.body.drop 16).head? with
  | some (PySem.Stmt.FunctionDef _ _ b _ _ _ sc _ _ _) => (b, sc)
  | _ => ([], default)
noncomputable def lawBody : List Stmt := match (lawDef.1.drop 2).head? with
  | some (PySem.Stmt.For _ _ b _ _) => b
  | _ => []
noncomputable def lawScope : Scope := lawDef.2
noncomputable def lawS1 : Stmt := match lawBody with
  | a :: _ => a
  | [] => default
noncomputable def lawS2 : Stmt := match lawBody.drop 1 with
  | a :: _ => a
  | [] => default
noncomputable def lawS3 : List Stmt := lawBody.drop 2
abbrev lawVals (x : Str) (b : LB) (S lS : Addr) (ts tq td tm : Tok) : List (Str × Value) :=
  [(Str.ofString "script", .ref S), (Str.ofString "style", .str x ts), (Str.ofString "query", .str b.query tq), (Str.ofString "due", .str b.due td), (Str.ofString "seen", .ref lS), (Str.ofString "many", .int b.many tm)]
def lawNum (n : Int) : Int := (if n < 0 then -n else n).fmod (10 ^ Int.toNat 9)
theorem lawNum_nonneg (n : Int) : 0 ≤ lawNum n := Int.fmod_nonneg_of_pos _ (by decide)
theorem lawNum_lt (n : Int) : lawNum n < 1000000000 := Int.fmod_lt_of_pos _ (by decide)
def LawNext (h₀ : Heap) (L : Addr) (x : Str) (S : Addr) (rest : List (Addr × Obj)) (b : LB) (s s' : Shared) : Prop :=
  ∃ h' tk m' lS seenV nS ts tq td tm, s' = { s with heap := h', toks := tk } ∧ Fr h₀ L h' m' ∧ Same m' (lawVals x b S lS ts tq td tm) ∧ News h₀ L h' ((lS, listOf seenV.toArray nS) :: rest) ∧ StrsAre seenV b.seen ∧ @LT.lt Nat _ 108 lS
def LawEnd (h₀ : Heap) (L : Addr) (x : Str) (S : Addr) (rest : List (Addr × Obj)) (b : LB) (s : Shared) (f : Flow) (s' : Shared) : Prop :=
  f = .next ∧ LawNext h₀ L x S rest b s s'
def LawHead (h₀ : Heap) (L : Addr) (ps : List (Str × Value)) (kd nb : Int) (rest : List (Addr × Obj)) (s : Shared) (f : Flow) (s' : Shared) : Prop :=
  f = .next ∧ ∃ h' tk m' t1 t2, s' = { s with heap := h', toks := tk } ∧ Fr h₀ L h' m' ∧ Same m' ((Str.ofString "kind", .int kd t1) :: (Str.ofString "number", .int nb t2) :: ps) ∧ News h₀ L h' rest
def LawMid (h₀ : Heap) (L : Addr) (x : Str) (S : Addr) (query due : Str) (nb : Int) (r : (Str × Str) × (List Str × Int)) (rest : List (Addr × Obj)) (s : Shared) (f : Flow) (s' : Shared) : Prop :=
  f = .next ∧ ∃ h' tk m' lS seenV nS t1 t2 t3 ts tq td tm, s' = { s with heap := h', toks := tk } ∧ Fr h₀ L h' m' ∧ Same m' ((Str.ofString "text", .str r.1.1 t1) :: (Str.ofString "new", .str r.1.2 t2) :: (Str.ofString "number", .int nb t3) :: lawVals x ⟨query, due, r.2.1, r.2.2⟩ S lS ts tq td tm) ∧ News h₀ L h' ((lS, listOf seenV.toArray nS) :: rest) ∧ StrsAre seenV r.2.1 ∧ r.1.1.length ≤ 40 ∧ r.1.2.length ≤ 40 ∧ @LT.lt Nat _ 108 lS
noncomputable abbrev lawA (L fa : Addr) (cd : Value) : Around := callerA.deeper (envOf (Str.ofString "law") lawScope L fa cd)
theorem law_add {prog : Program} {w : World} {A : Around} {E : Value → Shared → Prop} {s : Shared} {x y : Str} {t u : Tok} {n m : Nat} {Q : Value → Shared → Prop} (hx : x.length ≤ n) (hy : y.length ≤ m) (hz : n + m ≤ 100000) (h : ∀ t' k, (x ++ y).length ≤ n + m → Q (.str (x ++ y) t') { s with toks := k }) :
    wpAny (model prog w) A (binaryOp .Add (.str x t) (.str y u)) Q E s :=
  SB.add (fun t' k => h t' k (by rw [Str.length_append]; omega)) (by rw [sizeLine_eq]; omega)
theorem behind_len (i : Nat) : ([Str.ofString "", Str.ofString ",", Str.ofString ")", Str.ofString "::int", Str.ofString " + 1"].getD i Str.empty).length ≤ 5 := by
  rw [List.getD_eq_getElem?_getD]
  cases e : [Str.ofString "", Str.ofString ",", Str.ofString ")", Str.ofString "::int", Str.ofString " + 1"][i]? with
  | none => decide
  | some r =>
    have hm := List.mem_of_getElem? e
    simp only [List.mem_cons, List.not_mem_nil, or_false] at hm
    rcases hm with rfl | rfl | rfl | rfl | rfl <;> (show _ ≤ 5; decide +kernel)
theorem name_len (i : Nat) : ([Str.ofString "a", Str.ofString "b", Str.ofString "ab", Str.ofString "a_1", Str.ofString "s", Str.ofString "xs"].getD i Str.empty).length ≤ 5 := by
  rw [List.getD_eq_getElem?_getD]
  cases e : [Str.ofString "a", Str.ofString "b", Str.ofString "ab", Str.ofString "a_1", Str.ofString "s", Str.ofString "xs"][i]? with
  | none => decide
  | some r =>
    have hm := List.mem_of_getElem? e
    simp only [List.mem_cons, List.not_mem_nil, or_false] at hm
    rcases hm with rfl | rfl | rfl | rfl | rfl | rfl <;> (show _ ≤ 5; decide +kernel)
theorem head_leaf {h₀ : Heap} {L : Addr} {ps : List (Str × Value)} {kd nb : Int} {rest news' : List (Addr × Obj)} {s : Shared} {h' : Heap} {m' : Str → Option Value} {tk : Nat} {t1 t2 : Tok}
    (F : Fr h₀ L h' m') (N : News h₀ L h' news') (h1 : m' (Str.ofString "kind") = some (.int kd t1)) (h2 : m' (Str.ofString "number") = some (.int nb t2)) (h3 : Same m' ps) (hm : ∀ p ∈ rest, p ∈ news') :
    LawHead h₀ L ps kd nb rest s .next { s with heap := h', toks := tk } :=
  ⟨rfl, h', tk, m', t1, t2, rfl, F, fun p hp => by
    rcases List.mem_cons.mp hp with rfl | hp
    · exact h1
    rcases List.mem_cons.mp hp with rfl | hp
    · exact h2
    exact h3 p hp, fun p hp => N p (hm p hp)⟩
theorem end_leaf {h₀ : Heap} {L S lS : Addr} {x : Str} {b : LB} {rest news' : List (Addr × Obj)} {s : Shared} {h' : Heap} {m' : Str → Option Value} {tk : Nat} {ts tq td tm : Tok} {seenV : List Value} {nS : Nat}
    (F : Fr h₀ L h' m') (N : News h₀ L h' news') (h1 : m' (Str.ofString "script") = some (.ref S)) (h2 : m' (Str.ofString "style") = some (.str x ts)) (h3 : m' (Str.ofString "query") = some (.str b.query tq)) (h4 : m' (Str.ofString "due") = some (.str b.due td)) (h5 : m' (Str.ofString "seen") = some (.ref lS)) (h6 : m' (Str.ofString "many") = some (.int b.many tm))
    (hm : ∀ p ∈ (lS, listOf seenV.toArray nS) :: rest, p ∈ news') (hs : StrsAre seenV b.seen) (hlo : @LT.lt Nat _ 108 lS) :
    LawEnd h₀ L x S rest b s .next { s with heap := h', toks := tk } :=
  ⟨rfl, h', tk, m', lS, seenV, nS, ts, tq, td, tm, rfl, F, fun p hp => by
    simp only [lawVals, List.mem_cons, List.not_mem_nil, or_false] at hp
    rcases hp with rfl | rfl | rfl | rfl | rfl | rfl <;> assumption, fun p hp => N p (hm p hp), hs, hlo⟩
theorem mid_leaf {h₀ : Heap} {L S lS : Addr} {x query due text new : Str} {seen : List Str} {nb many : Int} {r : (Str × Str) × (List Str × Int)} {rest news' : List (Addr × Obj)} {s : Shared} {h' : Heap} {m' : Str → Option Value} {tk : Nat} {t1 t2 t3 ts tq td tm : Tok} {seenV : List Value} {nS : Nat}
    (F : Fr h₀ L h' m') (N : News h₀ L h' news') (g1 : m' (Str.ofString "text") = some (.str text t1)) (g2 : m' (Str.ofString "new") = some (.str new t2)) (g3 : m' (Str.ofString "number") = some (.int nb t3))
    (h1 : m' (Str.ofString "script") = some (.ref S)) (h2 : m' (Str.ofString "style") = some (.str x ts)) (h3 : m' (Str.ofString "query") = some (.str query tq)) (h4 : m' (Str.ofString "due") = some (.str due td)) (h5 : m' (Str.ofString "seen") = some (.ref lS)) (h6 : m' (Str.ofString "many") = some (.int many tm))
    (hm : ∀ p ∈ (lS, listOf seenV.toArray nS) :: rest, p ∈ news') (hs : StrsAre seenV seen) (hr : r = ((text, new), (seen, many))) (hl1 : text.length ≤ 40) (hl2 : new.length ≤ 40) (hlo : @LT.lt Nat _ 108 lS) :
    LawMid h₀ L x S query due nb r rest s .next { s with heap := h', toks := tk } := by
  subst hr
  exact ⟨rfl, h', tk, m', lS, seenV, nS, t1, t2, t3, ts, tq, td, tm, rfl, F, fun p hp => by
    simp only [lawVals, List.mem_cons, List.not_mem_nil, or_false] at hp
    rcases hp with rfl | rfl | rfl | rfl | rfl | rfl | rfl | rfl | rfl <;> assumption, fun p hp => N p (hm p hp), hs, hl1, hl2, hlo⟩
theorem dollar_len {n : Int} (h0 : 0 ≤ n) (h1 : n < 300) : (dollar n).length ≤ 5 := by
  have h : ∀ k : Fin 300, (dollar ((k.val : Nat) : Int)).length ≤ 5 := by decide +kernel
  have e : ((n.toNat : Nat) : Int) = n := by omega
  have := h ⟨n.toNat, by omega⟩
  rwa [e] at this
theorem name_repr (i : Nat) : (reprText ([Str.ofString "a", Str.ofString "b", Str.ofString "ab", Str.ofString "a_1", Str.ofString "s", Str.ofString "xs"].getD i Str.empty)).length ≤ 2000000 := by
  rw [List.getD_eq_getElem?_getD]
  cases e : [Str.ofString "a", Str.ofString "b", Str.ofString "ab", Str.ofString "a_1", Str.ofString "s", Str.ofString "xs"][i]? with
  | none => decide +kernel
  | some r =>
    have hm := List.mem_of_getElem? e
    simp only [List.mem_cons, List.not_mem_nil, or_false] at hm
    rcases hm with rfl | rfl | rfl | rfl | rfl | rfl <;> (show _ ≤ 2000000; decide +kernel)
theorem colon_slice {k : Int} (h0 : 1 ≤ k) (h1 : k ≤ 12) : Txt.slice (Str.ofString ":" ++ Str.ofString (toString k)) (some 1) none = Str.ofString (toString k) := by
  have hcase : k = 1 ∨ k = 2 ∨ k = 3 ∨ k = 4 ∨ k = 5 ∨ k = 6 ∨ k = 7 ∨ k = 8 ∨ k = 9 ∨ k = 10 ∨ k = 11 ∨ k = 12 := by omega
  rcases hcase with rfl | rfl | rfl | rfl | rfl | rfl | rfl | rfl | rfl | rfl | rfl | rfl <;> decide +kernel
theorem num_len {k : Int} (h0 : 1 ≤ k) (h1 : k ≤ 12) : (Str.ofString (toString k)).length ≤ 5 := by
  have hcase : k = 1 ∨ k = 2 ∨ k = 3 ∨ k = 4 ∨ k = 5 ∨ k = 6 ∨ k = 7 ∨ k = 8 ∨ k = 9 ∨ k = 10 ∨ k = 11 ∨ k = 12 := by omega
  rcases hcase with rfl | rfl | rfl | rfl | rfl | rfl | rfl | rfl | rfl | rfl | rfl | rfl <;> decide +kernel
section
variable {prog : Program} {w : World} {A : Around} {E : Value → Shared → Prop} {s : Shared} {h₀ : Heap} {L : Addr} {m : Str → Option Value} {news : List (Addr × Obj)}
theorem law_slice {k : Int} {t ui : Tok} {value slice : PySem.Expr} {Q : Value → Shared → Prop} (F : Fr h₀ L s.heap m) (N : News h₀ L s.heap news) (h0 : 1 ≤ k) (h1 : k ≤ 12)
    (h : ∀ h' t' k9, Fr h₀ L h' m → News h₀ L h' news → (Str.ofString (toString k)).length ≤ 5 → Q (.str (Str.ofString (toString k)) t') { s with heap := h', toks := k9 })
    (hs : subscripted slice false (.str (Str.ofString ":" ++ Str.ofString (toString k)) t) (.ref s.heap.objs.size) = operate [.ref s.heap.objs.size, .str (Str.ofString ":" ++ Str.ofString (toString k)) t] (getItem (.str (Str.ofString ":" ++ Str.ofString (toString k)) t) (.ref s.heap.objs.size)))
    (ht : ∀ r, letTemporaryGo value (.str (Str.ofString ":" ++ Str.ofString (toString k)) t) r = pure ()) :
    wpAny (model prog w) A (subscriptTail value slice (.str (Str.ofString ":" ++ Str.ofString (toString k)) t) (.ref s.heap.objs.size)) Q E { s with heap := s.heap.push { cls := .type "slice", data := .fields #[.int 1 ui, .none, .none] } } := by
  refine slice_strN_sn F N (fun h' t' k9 F' N' => ?_) hs ht ?_
  · rw [colon_slice h0 h1]; exact h h' t' k9 F' N' (num_len h0 h1)
  · rw [sizeLine_eq, Str.length_append]
    have := num_len h0 h1
    have e : (Str.ofString ":").length = 1 := by decide +kernel
    omega
theorem law_cat {l b : Addr} {vs ws : List Value} {n nb : Nat} {Q : Value → Shared → Prop} (F : Fr h₀ L s.heap m) (N : News h₀ L s.heap news)
    (hl : (l, listOf vs.toArray n) ∈ news) (hb : (b, listOf ws.toArray nb) ∈ news) (hz : vs.length ≤ 1000) (hw : ws.length ≤ 1000)
    (h : ∀ D h', Fr h₀ L h' m → News h₀ L h' ((D, listOf (vs ++ ws).toArray 0) :: news) → (∀ p ∈ news, p.1 < D) → Q (.ref D) { s with heap := h' }) :
    wpAny (model prog w) A (binaryOp .Add (.ref l) (.ref b)) Q E s :=
  add_lists F N ⟨_, (N _ hl).1, rfl, n, rfl⟩ ⟨_, (N _ hb).1, rfl, nb, rfl⟩ (fun h' F' N' => h _ h' F' N' fun p hp => Heap.lt_size (N p hp).1) (by rw [sizeLine_eq]; omega)
theorem law_index {D : Addr} {vs : List Value} {xs : List Str} {n : Nat} {k : Str} {t : Tok} {Q : Value → Shared → Prop} (hh : A.handled = none) (N : News h₀ L s.heap news) (hm : (D, listOf vs.toArray n) ∈ news) (hS : StrsAre vs xs) (hz : xs.length ≤ 200) (hx : (reprText k).length ≤ 2000000)
    (hk : k ∈ xs) (h : 0 ≤ ((xs.idxOf k : Nat) : Int) → ((xs.idxOf k : Nat) : Int) < 200 → Q (.int (xs.idxOf k : Nat) s.toks) { s with toks := s.toks + 1 }) : wpAny (model prog w) A (call (.builtin "list.index") [.ref D, .str k t]) Q E s :=
  index_strs hh N hm hS (by omega) hx (fun _ => h (by omega) (by have := List.idxOf_lt_length_iff.mpr hk; omega)) fun hn => absurd hk hn
end
theorem mem_any {seen : List Str} {nm : Str} (h : (seen.any fun x => x == nm) = true) : nm ∈ seen := by
  obtain ⟨a, ha, e⟩ := List.any_eq_true.mp h
  exact (beq_iff_eq.mp e) ▸ ha
theorem seenAdd_in {seen : List Str} {nm : Str} (h : (seen.any fun x => x == nm) = true) : seenAdd seen nm = seen := by
  unfold seenAdd; rw [if_pos h]
theorem seenAdd_out {seen : List Str} {nm : Str} (h : (seen.any fun x => x == nm) = false) : seenAdd seen nm = seen ++ [nm] := by
  unfold seenAdd; rw [if_neg (by rw [h]; exact Bool.false_ne_true)]
theorem strs_nil {vs : List Value} {xs : List Str} (h : StrsAre vs xs) : StrsAre (vs ++ []) xs := by rw [List.append_nil]; exact h
theorem fm12_lo (n : Int) : 1 ≤ n.fmod 12 + 1 := by have := Int.fmod_nonneg_of_pos n (b := 12) (by decide); omega
theorem fm12_hi (n : Int) : n.fmod 12 + 1 ≤ 12 := by have := Int.fmod_lt_of_pos n (b := 12) (by decide); omega
theorem lawPiece_qmark {kd nb : Int} {b : LB} (h : ¬ kd < 6) : lawPiece (Str.ofString "qmark") kd nb b = ((Str.ofString "?", dollar (b.many + 1)), (b.seen, b.many + 1)) := by
  simp [lawPiece, h, sb_qmark_qmark, sb_qmark_named, sb_qmark_pyformat, sb_qmark_numeric, sb_qmark_format]
theorem lawPiece_numeric {kd nb : Int} {b : LB} (h : ¬ kd < 6) : lawPiece (Str.ofString "numeric") kd nb b = ((Str.ofString ":" ++ Str.ofString (toString (nb.fmod 12 + 1)), dollar (nb.fmod 12 + 1)), (b.seen, b.many)) := by
  simp [lawPiece, h, sb_numeric_numeric, sb_numeric_named, sb_numeric_pyformat]
theorem lawPiece_format0 {kd nb : Int} {b : LB} (h : ¬ kd < 6) (h5 : nb.fmod 5 = 0) : lawPiece (Str.ofString "format") kd nb b = ((Str.ofString "%%", Str.ofString "%"), (b.seen, b.many)) := by
  simp [lawPiece, h, h5, sb_format_format, sb_format_named, sb_format_pyformat, sb_format_numeric]
theorem lawPiece_format1 {kd nb : Int} {b : LB} (h : ¬ kd < 6) (h5 : ¬ nb.fmod 5 = 0) : lawPiece (Str.ofString "format") kd nb b = ((Str.ofString "%s", dollar (b.many + 1)), (b.seen, b.many + 1)) := by
  simp [lawPiece, h, h5, sb_format_format, sb_format_named, sb_format_pyformat, sb_format_numeric, sb_format_qmark]
theorem lawPiece_named {kd nb : Int} {b : LB} (h : ¬ kd < 6) : lawPiece (Str.ofString "named") kd nb b = ((Str.ofString ":" ++ nameTab.getD (nb.fmod 6).toNat Str.empty, dollar ((seenAdd b.seen (nameTab.getD (nb.fmod 6).toNat Str.empty)).idxOf (nameTab.getD (nb.fmod 6).toNat Str.empty) + 1)), (seenAdd b.seen (nameTab.getD (nb.fmod 6).toNat Str.empty), b.many)) := by
  simp [lawPiece, h, sb_named_named]
theorem lawPiece_pyformat {kd nb : Int} {b : LB} (h : ¬ kd < 6) : lawPiece (Str.ofString "pyformat") kd nb b = ((Str.ofString "%(" ++ nameTab.getD (nb.fmod 6).toNat Str.empty ++ Str.ofString ")s", dollar ((seenAdd b.seen (nameTab.getD (nb.fmod 6).toNat Str.empty)).idxOf (nameTab.getD (nb.fmod 6).toNat Str.empty) + 1)), (seenAdd b.seen (nameTab.getD (nb.fmod 6).toNat Str.empty), b.many)) := by
  simp [lawPiece, h, sb_pyformat_pyformat, sb_pyformat_named]
end
section
set_option maxHeartbeats 3000000
structure LawI (x : Str) (i : Nat) (b : LB) : Prop where
  run : ∀ nx, ∃ out p, Fresh p ∧ runN b.query.cps.toList nx (cStart x) = some ⟨x, 0, false, false, b.seen, out, b.many + 1, p⟩ ∧ cat out = b.due.cps.toList
  ql : b.query.length ≤ 60 * i
  dl : b.due.length ≤ 60 * i
  small : ∀ c ∈ b.query.cps.toList, c < 1114112
  dsmall : ∀ c ∈ b.due.cps.toList, c < 1114112
  sl : b.seen.length ≤ i
  sn : ∀ y ∈ b.seen, y ∈ nameTab
  m0 : 0 ≤ b.many
  m1 : b.many ≤ i
  last : b.query.cps.toList = [] ∨ ∃ r, b.query.cps.toList = r ++ [32]
theorem LawI.start (x : Str) : LawI x 0 ⟨Str.ofString "", Str.ofString "", [], 0⟩ := by
  refine ⟨fun nx => ⟨[], none, .inl rfl, ?_, ?_⟩, ?_, ?_, ?_, ?_, ?_, ?_, ?_, ?_, ?_⟩
  · show runN (Str.ofString "").cps.toList nx (cStart x) = _
    rw [empty_cps]; rfl
  · show cat [] = (Str.ofString "").cps.toList
    rw [empty_cps]; rfl
  · show (Str.ofString "").length ≤ _; rw [empty_len]; omega
  · show (Str.ofString "").length ≤ _; rw [empty_len]; omega
  · show ∀ c ∈ (Str.ofString "").cps.toList, _; rw [empty_cps]; intro c hc; cases hc
  · show ∀ c ∈ (Str.ofString "").cps.toList, _; rw [empty_cps]; intro c hc; cases hc
  · exact Nat.le_refl _
  · intro y hy; cases hy
  · exact Int.le_refl _
  · exact Int.le_refl _
  · left; exact empty_cps
theorem someIt_len {x y z : Str} (hx : x.length ≤ 2) (hy : y.length ≤ 2) (hz : z.length ≤ 2) (n : Int) : ∀ k, (someIt x y z n k).2.length ≤ 5 * k := by
  intro k
  induction k with
  | zero => show (Str.ofString "").length ≤ _; rw [empty_len]; omega
  | succ k ih =>
    show ((someIt x y z n k).2 ++ (someW x y z).getD _ Str.empty).length ≤ _
    rw [append_len]
    have := someW_len hx hy hz (Int.fmod ((someIt x y z n k).1.fdiv 7) 14).toNat
    omega
theorem someF_len {x y z : Str} (hx : x.length ≤ 2) (hy : y.length ≤ 2) (hz : z.length ≤ 2) (n : Int) : (someF x y z n).length ≤ 15 := by
  have h := someIt_len hx hy hz n (n.fmod 4 - 0).toNat
  have h2 := Int.fmod_lt_of_pos n (b := 4) (by decide)
  show (someIt x y z n (n.fmod 4 - 0).toNat).2.length ≤ 15
  omega
/-- what a part is: it runs, it is short, it is of small signs -/
structure Part (x : Str) (t nw : Str) (ph ph' : List Str) (cnt cnt' : Int) : Prop where
  run : Piece x t.cps.toList nw.cps.toList ph ph' cnt cnt'
  tl : t.length ≤ 40
  nl : nw.length ≤ 40
  small : ∀ c ∈ t.cps.toList, c < 1114112
  nsmall : ∀ c ∈ nw.cps.toList, c < 1114112
theorem part_same {x t : Str} {ph : List Str} {cnt : Int} (h : Piece x t.cps.toList t.cps.toList ph ph cnt cnt) (hl : t.length ≤ 40) (hs : ∀ c ∈ t.cps.toList, c < 1114112) : Part x t t ph ph cnt cnt := ⟨h, hl, hl, hs, hs⟩
theorem small_glue {a b c : Str} (ha : ∀ d ∈ a.cps.toList, d < 1114112) (hb : ∀ d ∈ b.cps.toList, d < 1114112) (hc : ∀ d ∈ c.cps.toList, d < 1114112) : ∀ d ∈ (a ++ b ++ c).cps.toList, d < 1114112 := by
  intro d hd
  rw [append_cps, append_cps] at hd
  rcases List.mem_append.mp hd with hd | hd
  · rcases List.mem_append.mp hd with hd | hd
    · exact ha d hd
    · exact hb d hd
  · exact hc d hd
theorem part_text {x : Str} {ph : List Str} {cnt k n : Int} (h0 : 0 ≤ k) (h1 : k < 6) : Part x (textF k n) (textF k n) ph ph cnt cnt := by
  have hcase : k = 0 ∨ k = 1 ∨ k = 2 ∨ k = 3 ∨ k = 4 ∨ k = 5 := by omega
  rcases hcase with rfl | rfl | rfl | rfl | rfl | rfl
  · refine part_same ?_ (Nat.le_trans (glue3_len (by decide +kernel) (someF_len (by decide +kernel) (by decide +kernel) (by decide +kernel) n) (by decide +kernel)) (by decide)) (small_glue (by decide +kernel) (small_some (by decide +kernel) (by decide +kernel) (by decide +kernel) n) (by decide +kernel))
    have e : (textF 0 n).cps.toList = [39] ++ (someF (Str.ofString "''") (Str.ofString "$$") (Str.ofString "\"") n).cps.toList ++ [39] := by
      show (Str.ofString "'" ++ _ ++ Str.ofString "'").cps.toList = _
      rw [append_cps, append_cps, lq]
    rw [e]
    exact piece_text0 (stays_some0 n)
  · refine part_same ?_ (Nat.le_trans (glue3_len (by decide +kernel) (someF_len (by decide +kernel) (by decide +kernel) (by decide +kernel) n) (by decide +kernel)) (by decide)) (small_glue (by decide +kernel) (small_some (by decide +kernel) (by decide +kernel) (by decide +kernel) n) (by decide +kernel))
    have e : (textF 1 n).cps.toList = [69, 39] ++ (someF (Str.ofString "\\'") (Str.ofString "$$") (Str.ofString "\"") n).cps.toList ++ [39] := by
      show (Str.ofString "E'" ++ _ ++ Str.ofString "'").cps.toList = _
      rw [append_cps, append_cps, lq, show (Str.ofString "E'").cps.toList = [69, 39] from by decide +kernel]
    rw [e]
    exact piece_text1 (stays_some1 n).1 (stays_some1 n).2
  · refine part_same ?_ (Nat.le_trans (glue3_len (by decide +kernel) (someF_len (by decide +kernel) (by decide +kernel) (by decide +kernel) n) (by decide +kernel)) (by decide)) (small_glue (by decide +kernel) (small_some (by decide +kernel) (by decide +kernel) (by decide +kernel) n) (by decide +kernel))
    have e : (textF 2 n).cps.toList = [34] ++ (someF (Str.ofString "\"\"") (Str.ofString "$$") (Str.ofString "'") n).cps.toList ++ [34] := by
      show (Str.ofString "\"" ++ _ ++ Str.ofString "\"").cps.toList = _
      rw [append_cps, append_cps, ldq]
    rw [e]
    exact piece_text2 (stays_some2 n)
  · refine part_same ?_ (Nat.le_trans (glue3_len (by decide +kernel) (someF_len (by decide +kernel) (by decide +kernel) (by decide +kernel) n) (by decide +kernel)) (by decide)) (small_glue (by decide +kernel) (small_some (by decide +kernel) (by decide +kernel) (by decide +kernel) n) (by decide +kernel))
    have e : (textF 3 n).cps.toList = [45, 45] ++ (someF (Str.ofString "'") (Str.ofString "$$") (Str.ofString "\"") n).cps.toList ++ [10] := by
      show (Str.ofString "--" ++ _ ++ Str.ofString "\n").cps.toList = _
      rw [append_cps, append_cps, lnl, show (Str.ofString "--").cps.toList = [45, 45] from by decide +kernel]
    rw [e]
    exact piece_text3 (stays_some3 n)
  · have eq4 : textF 4 n = Str.ofString "$$x" ++ Txt.replace (someF (Str.ofString "'") (Str.ofString "\"") (Str.ofString "$") n) (Str.ofString "$") (Str.ofString "") ++ Str.ofString "$$" := rfl
    have er : (Txt.replace (someF (Str.ofString "'") (Str.ofString "\"") (Str.ofString "$") n) (Str.ofString "$") (Str.ofString "")).cps.toList = (someF (Str.ofString "'") (Str.ofString "\"") (Str.ofString "$") n).cps.toList.filter (· != 36) := by
      rw [ldo, lem]
      exact replace_del _ _
    rw [eq4]
    refine part_same ?_ (Nat.le_trans (glue3_len (by decide +kernel) (Nat.le_trans (replace_del_len _) (someF_len (by decide +kernel) (by decide +kernel) (by decide +kernel) n)) (by decide +kernel)) (by decide)) (small_glue (by decide +kernel) ?_ (by decide +kernel))
    · rw [append_cps, append_cps, er, show (Str.ofString "$$x").cps.toList = [36, 36, 120] from by decide +kernel, show (Str.ofString "$$").cps.toList = [36, 36] from by decide +kernel]
      refine piece_text4 fun c hc => ?_
      have := (List.mem_filter.mp hc).2
      simpa using this
    · rw [er]
      intro c hc
      exact small_some (by decide +kernel) (by decide +kernel) (by decide +kernel) n c (List.mem_filter.mp hc).1
  · have eq5 : textF 5 n = textTab.getD (n.fmod 7).toNat Str.empty := rfl
    rw [eq5]
    have h7 : (n.fmod 7).toNat < 7 := by
      have := Int.fmod_nonneg_of_pos n (b := 7) (by decide)
      have := Int.fmod_lt_of_pos n (b := 7) (by decide)
      omega
    refine part_same (piece_plain h7) (Nat.le_trans (textTab_len _) (by decide)) ?_
    have hsm : ∀ v ∈ textTab, ∀ c ∈ v.cps.toList, c < 1114112 := by decide +kernel
    intro c hc
    rw [List.getD_eq_getElem?_getD, List.getElem?_eq_getElem (show _ < textTab.length from h7)] at hc
    exact hsm _ (List.getElem_mem _) c hc
end
section
set_option maxHeartbeats 3000000
theorem seenAdd_len (seen : List Str) (nm : Str) : (seenAdd seen nm).length ≤ seen.length + 1 := by
  unfold seenAdd; split <;> simp
theorem seenAdd_mem {seen : List Str} {nm y : Str} (h : y ∈ seenAdd seen nm) : y ∈ seen ∨ y = nm := by
  unfold seenAdd at h
  split at h
  · exact .inl h
  · rcases List.mem_append.mp h with h | h
    · exact .inl h
    · exact .inr (List.mem_singleton.mp h)
theorem idx_lt {seen : List Str} {nm : Str} : ((seenAdd seen nm).idxOf nm : Nat) ≤ seen.length := by
  have hm : nm ∈ seenAdd seen nm := by
    unfold seenAdd
    split
    · rename_i h; exact mem_any h
    · exact List.mem_append_right _ (List.Mem.head _)
  have := List.idxOf_lt_length_iff.mpr hm
  have := seenAdd_len seen nm
  omega
theorem nameTab_mem {i : Nat} (h : i < 6) : nameTab.getD i Str.empty ∈ nameTab := by
  rw [List.getD_eq_getElem?_getD, List.getElem?_eq_getElem (show i < nameTab.length from h)]
  exact List.getElem_mem _
theorem nameTab_ok : ∀ v ∈ nameTab, v.length ≤ 5 ∧ ∀ c ∈ v.cps.toList, c < 1114112 := by decide +kernel
theorem small2 {a b : Str} (ha : ∀ d ∈ a.cps.toList, d < 1114112) (hb : ∀ d ∈ b.cps.toList, d < 1114112) : ∀ d ∈ (a ++ b).cps.toList, d < 1114112 := by
  intro d hd
  rw [append_cps] at hd
  rcases List.mem_append.mp hd with hd | hd
  · exact ha d hd
  · exact hb d hd
theorem num_small {k : Int} (h0 : 1 ≤ k) (h1 : k ≤ 12) : ∀ c ∈ (Str.ofString (toString k)).cps.toList, c < 1114112 := by
  have hcase : k = 1 ∨ k = 2 ∨ k = 3 ∨ k = 4 ∨ k = 5 ∨ k = 6 ∨ k = 7 ∨ k = 8 ∨ k = 9 ∨ k = 10 ∨ k = 11 ∨ k = 12 := by omega
  rcases hcase with rfl | rfl | rfl | rfl | rfl | rfl | rfl | rfl | rfl | rfl | rfl | rfl <;> decide +kernel
theorem dollar_small {n : Int} (h0 : 0 ≤ n) (h1 : n < 300) : ∀ c ∈ (dollar n).cps.toList, c < 1114112 := by
  have h : ∀ k : Fin 300, ∀ c ∈ (dollar ((k.val : Nat) : Int)).cps.toList, c < 1114112 := by decide +kernel
  have e : ((n.toNat : Nat) : Int) = n := by omega
  have := h ⟨n.toNat, by omega⟩
  rwa [e] at this
def Five (x : Str) : Prop := x = Str.ofString "qmark" ∨ x = Str.ofString "numeric" ∨ x = Str.ofString "format" ∨ x = Str.ofString "named" ∨ x = Str.ofString "pyformat"
theorem part_any {x : Str} {i : Nat} {b : LB} {kd nb : Int} (hx : Five x) (hb : LawI x i b) (hi : i ≤ 100) (h0 : 0 ≤ kd) (n0 : 0 ≤ nb) :
    Part x (lawPiece x kd nb b).1.1 (lawPiece x kd nb b).1.2 b.seen (lawPiece x kd nb b).2.1 (b.many + 1) ((lawPiece x kd nb b).2.2 + 1) ∧ (lawPiece x kd nb b).2.1.length ≤ i + 1 ∧ (∀ y ∈ (lawPiece x kd nb b).2.1, y ∈ nameTab) ∧ 0 ≤ (lawPiece x kd nb b).2.2 ∧ (lawPiece x kd nb b).2.2 ≤ i + 1 := by
  have m0 := hb.m0
  have m1 := hb.m1
  have sl := hb.sl
  by_cases hk : kd < 6
  · have e : lawPiece x kd nb b = ((textF kd nb, textF kd nb), (b.seen, b.many)) := if_pos hk
    rw [e]
    exact ⟨part_text h0 hk, Nat.le_succ_of_le sl, hb.sn, m0, by show b.many ≤ _; omega⟩
  have h6 : (nb.fmod 6).toNat < 6 := by
    have := Int.fmod_nonneg_of_pos nb (b := 6) (by decide)
    have := Int.fmod_lt_of_pos nb (b := 6) (by decide)
    omega
  have hnm := nameTab_mem h6
  have hno := nameTab_ok _ hnm
  have hsl := seenAdd_len b.seen (nameTab.getD (nb.fmod 6).toNat Str.empty)
  have hix := @idx_lt b.seen (nameTab.getD (nb.fmod 6).toNat Str.empty)
  have hsm : ∀ y ∈ seenAdd b.seen (nameTab.getD (nb.fmod 6).toNat Str.empty), y ∈ nameTab := fun y hy => by
    rcases seenAdd_mem hy with h | rfl
    · exact hb.sn y h
    · exact hnm
  rcases hx with rfl | rfl | rfl | rfl | rfl
  · rw [lawPiece_qmark hk]; dsimp only
    exact ⟨⟨piece_qmark, by decide +kernel, Nat.le_trans (dollar_len (by omega) (by omega)) (by decide), by decide +kernel, dollar_small (by omega) (by omega)⟩, Nat.le_succ_of_le sl, hb.sn, by show 0 ≤ b.many + 1; omega, by show b.many + 1 ≤ _; omega⟩
  · rw [lawPiece_numeric hk]
    refine ⟨⟨piece_numeric (fm12_lo nb) (fm12_hi nb), ?_, Nat.le_trans (dollar_len (by have := fm12_lo nb; omega) (by have := fm12_hi nb; omega)) (by decide), small2 (by decide +kernel) (num_small (fm12_lo nb) (fm12_hi nb)), dollar_small (by have := fm12_lo nb; omega) (by have := fm12_hi nb; omega)⟩, Nat.le_succ_of_le sl, hb.sn, m0, by show b.many ≤ _; omega⟩
    show (Str.ofString ":" ++ Str.ofString (toString (nb.fmod 12 + 1))).length ≤ 40
    rw [append_len]
    have := num_len (fm12_lo nb) (fm12_hi nb)
    have e : (Str.ofString ":").length = 1 := by decide +kernel
    omega
  · by_cases h5 : nb.fmod 5 = 0
    · rw [lawPiece_format0 hk h5]; dsimp only
      exact ⟨⟨piece_percent, by decide +kernel, by decide +kernel, by decide +kernel, by decide +kernel⟩, Nat.le_succ_of_le sl, hb.sn, m0, by show b.many ≤ _; omega⟩
    · rw [lawPiece_format1 hk h5]; dsimp only
      exact ⟨⟨piece_format, by decide +kernel, Nat.le_trans (dollar_len (by omega) (by omega)) (by decide), by decide +kernel, dollar_small (by omega) (by omega)⟩, Nat.le_succ_of_le sl, hb.sn, by show 0 ≤ b.many + 1; omega, by show b.many + 1 ≤ _; omega⟩
  · rw [lawPiece_named hk]
    refine ⟨⟨piece_named h6, ?_, Nat.le_trans (dollar_len (by omega) (by omega)) (by decide), small2 (by decide +kernel) hno.2, dollar_small (by omega) (by omega)⟩, by show (seenAdd _ _).length ≤ _; omega, hsm, m0, by show b.many ≤ _; omega⟩
    show (Str.ofString ":" ++ nameTab.getD (nb.fmod 6).toNat Str.empty).length ≤ 40
    rw [append_len]
    have e : (Str.ofString ":").length = 1 := by decide +kernel
    omega
  · rw [lawPiece_pyformat hk]
    refine ⟨⟨piece_pyformat h6, ?_, Nat.le_trans (dollar_len (by omega) (by omega)) (by decide), small_glue (by decide +kernel) hno.2 (by decide +kernel), dollar_small (by omega) (by omega)⟩, by show (seenAdd _ _).length ≤ _; omega, hsm, m0, by show b.many ≤ _; omega⟩
    show (Str.ofString "%(" ++ nameTab.getD (nb.fmod 6).toNat Str.empty ++ Str.ofString ")s").length ≤ 40
    rw [append_len, append_len]
    have e : (Str.ofString "%(").length = 2 := by decide +kernel
    have e2 : (Str.ofString ")s").length = 2 := by decide +kernel
    omega
theorem behind_any {nb : Int} : ((nb.fdiv 6).fmod 5).toNat < 5 := by
  have := Int.fmod_nonneg_of_pos (nb.fdiv 6) (b := 5) (by decide)
  have := Int.fmod_lt_of_pos (nb.fdiv 6) (b := 5) (by decide)
  omega
theorem behind_ok : ∀ v ∈ behindTab, (v ++ Str.ofString " ").length ≤ 10 ∧ ∀ c ∈ (v ++ Str.ofString " ").cps.toList, c < 1114112 := by decide +kernel
theorem behind_okN {nb : Int} : (behindTab.getD ((nb.fdiv 6).fmod 5).toNat Str.empty ++ Str.ofString " ").length ≤ 10 ∧ ∀ c ∈ (behindTab.getD ((nb.fdiv 6).fmod 5).toNat Str.empty ++ Str.ofString " ").cps.toList, c < 1114112 := by
  refine behind_ok _ ?_
  rw [List.getD_eq_getElem?_getD, List.getElem?_eq_getElem (show _ < behindTab.length from behind_any)]
  exact List.getElem_mem _
theorem LawI.step {x : Str} {i : Nat} {b : LB} {kd nb : Int} (hx : Five x) (hb : LawI x i b) (hi : i ≤ 100) (h0 : 0 ≤ kd) (n0 : 0 ≤ nb) : LawI x (i + 1) (lawStep x kd nb b) := by
  obtain ⟨P, ps, pn, pm0, pm1⟩ := part_any hx hb hi h0 n0 (kd := kd) (nb := nb)
  have hbl := @behind_okN nb
  have hj := @behind_any nb
  have tl := P.tl
  have nl := P.nl
  have ql := hb.ql
  have dl := hb.dl
  have eq : (lawStep x kd nb b).query = b.query ++ (lawPiece x kd nb b).1.1 ++ (behindTab.getD ((nb.fdiv 6).fmod 5).toNat Str.empty ++ Str.ofString " ") := rfl
  have ed : (lawStep x kd nb b).due = b.due ++ (lawPiece x kd nb b).1.2 ++ (behindTab.getD ((nb.fdiv 6).fmod 5).toNat Str.empty ++ Str.ofString " ") := rfl
  refine ⟨?_, ?_, ?_, ?_, ?_, ps, pn, pm0, by exact_mod_cast pm1, ?_⟩
  · intro nx
    obtain ⟨out, p, hp, hr, hc⟩ := hb.run (headOr (lawPiece x kd nb b).1.1.cps.toList (headOr (behindTab.getD ((nb.fdiv 6).fmod 5).toNat Str.empty ++ Str.ofString " ").cps.toList nx))
    obtain ⟨out', p', hr', hc'⟩ := P.run (headOr (behindTab.getD ((nb.fdiv 6).fmod 5).toNat Str.empty ++ Str.ofString " ").cps.toList nx) out p hp (behindTab_head hj nx)
    refine ⟨out' ++ sg (behindTab.getD ((nb.fdiv 6).fmod 5).toNat Str.empty ++ Str.ofString " ").cps.toList, some ⟨#[32]⟩, .inr rfl, ?_, ?_⟩
    · rw [eq, append_cps (b.query ++ _), append_cps b.query, run_append, run_append, hr, Option.bind_some, hr', Option.bind_some]
      exact run_behind hj
    · rw [ed, append_cps (b.due ++ _), append_cps b.due, cat_append, cat_sg, hc', hc]
  · rw [eq, append_len, append_len]; omega
  · rw [ed, append_len, append_len]; omega
  · rw [eq]; exact small_glue hb.small P.small hbl.2
  · rw [ed]; exact small_glue hb.dsmall P.nsmall hbl.2
  · right
    rw [eq, append_cps (b.query ++ _), append_cps b.query, append_cps (behindTab.getD _ _)]
    refine ⟨b.query.cps.toList ++ (lawPiece x kd nb b).1.1.cps.toList ++ (behindTab.getD ((nb.fdiv 6).fmod 5).toNat Str.empty).cps.toList, ?_⟩
    rw [lsp]
    simp
def lawIter (ns : List Int) (x : Str) : Nat → LB
  | 0 => ⟨Str.ofString "", Str.ofString "", [], 0⟩
  | i + 1 => lawStep x ((ns.getD (2 * (i : Int) + 1).toNat 0).fmod 9) (lawNum (ns.getD (2 * (i : Int) + 2).toNat 0)) (lawIter ns x i)
theorem lawIter_ok {ns : List Int} {x : Str} (hx : Five x) : ∀ i, i ≤ 100 → LawI x i (lawIter ns x i) := by
  intro i
  induction i with
  | zero => intro _; exact LawI.start x
  | succ i ih => intro hi; exact (ih (by omega)).step hx (by omega) (Int.fmod_nonneg_of_pos _ (by decide)) (lawNum_nonneg _)
end
section
set_option maxHeartbeats 3000000
structure QOk (q : Str) : Prop where
  len : q.length ≤ 100000
  ch : ∀ c ∈ q.cps.toList, c < 16 ^ 8
  colon : ∀ (i : Nat) (c : Str), (signs q)[i]? = some c → (c == Str.ofString ":") = true → ∃ b, (signs q)[i + 1]? = some ⟨#[b]⟩
theorem colon_of {q : Str} (h : q.cps.toList = [] ∨ ∃ r a, q.cps.toList = r ++ [a] ∧ a ≠ 58) (i : Nat) (c : Str) (hc : (signs q)[i]? = some c) (he : (c == Str.ofString ":") = true) : ∃ b, (signs q)[i + 1]? = some ⟨#[b]⟩ := by
  rw [signs_sg] at hc ⊢
  unfold sg at hc ⊢
  rw [List.getElem?_map] at hc ⊢
  rcases h with h | ⟨r, a, h, ha⟩
  · rw [h] at hc; cases hc
  · rw [h] at hc ⊢
    obtain ⟨d, hd, rfl⟩ := Option.map_eq_some_iff.mp hc
    have hd58 : d = 58 := by
      rw [lco, ch] at he
      simpa using he
    have hi : i < r.length := by
      rcases Nat.lt_or_ge i r.length with h | h
      · exact h
      · exfalso
        rw [List.getElem?_append_right h] at hd
        have : i - r.length = 0 := by
          have := (List.getElem?_eq_some_iff.mp hd).1
          simp at this
          omega
        rw [this] at hd
        simp at hd
        omega
    have hlt : i + 1 < (r ++ [a]).length := by simp; omega
    rw [List.getElem?_eq_getElem hlt]
    exact ⟨_, rfl⟩
theorem cat_len : ∀ out : List Str, (out.map (·.length)).sum = (cat out).length := by
  intro out
  induction out with
  | nil => rfl
  | cons x r ih =>
    unfold cat at *
    simp only [List.map_cons, List.sum_cons, List.flatMap_cons, List.length_append, ih]
    congr 1
theorem join_is {out : List Str} {d : Str} (h : cat out = d.cps.toList) : Txt.join (Str.ofString "") out = d := str_ext (by rw [txtJoin_cat, h])
/-- what the query gives: the text due and the names seen -/
theorem wide_ch {l : List Nat} (h : ∀ c ∈ l, c < 1114112) : ∀ c ∈ l, c < 16 ^ 8 := fun c hc => Nat.lt_of_lt_of_le (h c hc) (by decide)
theorem strOk_of {x : Str} (h : ∀ c ∈ x.cps.toList, c < 1114112) : PySem.PyData.strOk x = true := by
  unfold PySem.PyData.strOk
  rw [Array.all_eq_true']
  intro c hc
  exact decide_eq_true (h c (by simpa using hc))
structure QGives (x q due : Str) (seen : List Str) : Prop where
  ok : QOk q
  got : ∀ st, cTake (signs q) (cStart x) (signs q).length = some st → st.style = x ∧ Txt.join (Str.ofString "") st.out = due ∧ st.ph = seen
  runs : cTake (signs q) (cStart x) (signs q).length ≠ none
  wide : ∀ st, cTake (signs q) (cStart x) (signs q).length = some st → (st.out.map (·.length)).sum + st.out.length ≤ 1048576
  dok : PySem.PyData.strOk due = true
structure QRaises (x q : Str) : Prop where
  ok : QOk q
  raises : cTake (signs q) (cStart x) (signs q).length = none
theorem gives_of {x q due : Str} {seen : List Str} {st : CS} (ok : QOk q) (hq : q.length ≤ 1000) (hd : due.length ≤ 1000) (h : runN q.cps.toList none (cStart x) = some st) (hx : st.style = x) (hc : cat st.out = due.cps.toList) (hp : st.ph = seen) (hk : ∀ c ∈ due.cps.toList, c < 1114112) : QGives x q due seen := by
  have e : cTake (signs q) (cStart x) (signs q).length = some st := by rw [signs_sg, cTake_all, h]
  refine ⟨ok, fun st' h' => ?_, fun h' => (by rw [e] at h'; cases h'), fun st' h' => ?_, strOk_of hk⟩
  · rw [e] at h'
    obtain rfl := Option.some.inj h'
    exact ⟨hx, join_is hc, hp⟩
  · have inv := cTake_inv ok.ch _ st' h'
    rw [e] at h'
    obtain rfl := Option.some.inj h'
    have ho := inv.out
    rw [signs_length] at ho
    rw [cat_len, hc]
    have : due.cps.toList.length = due.length := by simp [Str.length]
    omega
theorem lpd : (Str.ofString "%d").cps.toList = [37, 100] := by decide +kernel
section
variable {x : Str} {i : Nat} {b : LB} (hx : Five x) (hb : LawI x i b) (hi : i ≤ 10)
include hb hi
theorem ok_query : QOk b.query := by
  have := hb.ql
  refine ⟨by omega, wide_ch hb.small, colon_of ?_⟩
  rcases hb.last with h | ⟨r, h⟩
  · exact .inl h
  · exact .inr ⟨r, 32, h, by decide⟩
theorem ok_pct : QOk (b.query ++ Str.ofString "%d") := by
  have := hb.ql
  have e : (Str.ofString "%d").length = 2 := by decide +kernel
  refine ⟨by rw [append_len]; omega, wide_ch (small2 hb.small (by decide +kernel)), colon_of (.inr ⟨b.query.cps.toList ++ [37], 100, ?_, by decide⟩)⟩
  rw [append_cps, lpd]
  simp
theorem ok_front {a : Str} (ha : a.length ≤ 10) (hs : ∀ c ∈ a.cps.toList, c < 1114112) (hl : ∃ r, a.cps.toList = r ++ [32]) : QOk (a ++ b.query) := by
  have := hb.ql
  refine ⟨by rw [append_len]; omega, wide_ch (small2 hs hb.small), colon_of (.inr ?_)⟩
  obtain ⟨r, hr⟩ := hl
  rcases hb.last with h | ⟨r2, h⟩
  · exact ⟨r, 32, by rw [append_cps, h, hr]; simp, by decide⟩
  · exact ⟨a.cps.toList ++ r2, 32, by rw [append_cps, h]; simp, by decide⟩
theorem law_first : QGives x b.query b.due b.seen := by
  obtain ⟨out, p, hp, hr, hc⟩ := hb.run none
  have := hb.ql
  have := hb.dl
  exact gives_of (ok_query hb hi) (by omega) (by omega) hr rfl hc rfl hb.dsmall
include hx
theorem law_pct (h3 : x = Str.ofString "qmark" ∨ x = Str.ofString "numeric" ∨ x = Str.ofString "named") : QGives x (b.query ++ Str.ofString "%d") (b.due ++ Str.ofString "%d") b.seen := by
  obtain ⟨out, p, hp, hr, hc⟩ := hb.run (headOr (Str.ofString "%d").cps.toList none)
  have := hb.ql
  have := hb.dl
  have e : (Str.ofString "%d").length = 2 := by decide +kernel
  have h2 : runN (Str.ofString "%d").cps.toList none ⟨x, 0, false, false, b.seen, out, b.many + 1, p⟩ = some ⟨x, 0, false, false, b.seen, out ++ [⟨#[37]⟩, ⟨#[100]⟩], b.many + 1, some ⟨#[100]⟩⟩ := by
    rw [lpd]
    rcases h3 with rfl | rfl | rfl
    · simp [runN, headOr, cStep_0, cOut, lq, ldq, lmi, ldo, lqm, lco, lpc, sb_qmark_numeric, sb_qmark_named, sb_qmark_format, sb_qmark_pyformat]
    · simp [runN, headOr, cStep_0, cOut, lq, ldq, lmi, ldo, lqm, lco, lpc, sb_numeric_qmark, sb_numeric_named, sb_numeric_format, sb_numeric_pyformat]
    · simp [runN, headOr, cStep_0, cOut, lq, ldq, lmi, ldo, lqm, lco, lpc, sb_named_qmark, sb_named_numeric, sb_named_format, sb_named_pyformat]
  refine gives_of (st := ⟨x, 0, false, false, b.seen, out ++ [⟨#[37]⟩, ⟨#[100]⟩], b.many + 1, some ⟨#[100]⟩⟩) (ok_pct hb hi) (by rw [append_len]; omega) (by rw [append_len]; omega) ?_ rfl ?_ rfl (small2 hb.dsmall (by decide +kernel))
  · rw [append_cps, run_append, hr, Option.bind_some, h2]
  · rw [append_cps, cat_append, hc, lpd]
    rfl
theorem law_pctNone (h3 : x = Str.ofString "format" ∨ x = Str.ofString "pyformat") : QRaises x (b.query ++ Str.ofString "%d") := by
  obtain ⟨out, p, hp, hr, hc⟩ := hb.run (headOr (Str.ofString "%d").cps.toList none)
  refine ⟨ok_pct hb hi, ?_⟩
  rw [signs_sg, cTake_all, append_cps, run_append, hr, Option.bind_some, lpd]
  rcases h3 with rfl | rfl
  · simp [runN, headOr, cStep_0, cOut, lq, ldq, lmi, ldo, lqm, lco, lpc, lss, sb_format_qmark, sb_format_numeric, sb_format_named, sb_format_pyformat]
  · simp [runN, headOr, cStep_0, cOut, lq, ldq, lmi, ldo, lqm, lco, lpc, lss, lpo, sb_pyformat_qmark, sb_pyformat_numeric, sb_pyformat_named, sb_pyformat_format]
end
section
variable {i : Nat} {b : LB}
theorem law_frontF (hb : LawI (Str.ofString "format") i b) (hi : i ≤ 10) : QRaises (Str.ofString "format") (Str.ofString "%(a)s " ++ b.query) := by
  have e : (Str.ofString "%(a)s ").cps.toList = [37, 40, 97, 41, 115, 32] := by decide +kernel
  refine ⟨ok_front hb hi (by decide +kernel) (by decide +kernel) ⟨[37, 40, 97, 41, 115], by decide +kernel⟩, ?_⟩
  rw [signs_sg, cTake_all, append_cps, run_append, e]
  simp [runN, headOr, cStart, cStep_0, cOut, lq, ldq, lmi, ldo, lqm, lco, lpc, lss, sb_format_qmark, sb_format_numeric, sb_format_named, sb_format_pyformat]
theorem law_frontP (hb : LawI (Str.ofString "pyformat") i b) (hi : i ≤ 10) : QRaises (Str.ofString "pyformat") (Str.ofString "% " ++ b.query) := by
  have e : (Str.ofString "% ").cps.toList = [37, 32] := by decide +kernel
  refine ⟨ok_front hb hi (by decide +kernel) (by decide +kernel) ⟨[37], by decide +kernel⟩, ?_⟩
  rw [signs_sg, cTake_all, append_cps, run_append, e]
  simp [runN, headOr, cStart, cStep_0, cOut, lq, ldq, lmi, ldo, lqm, lco, lpc, lss, lpo, sb_pyformat_qmark, sb_pyformat_numeric, sb_pyformat_named, sb_pyformat_format]
end
end
theorem text_ok2 {w : World} {loose : List Str} {mean : ExcName → Option Value} {mg mb : Str → Option Value}
  {dp un : Nat} {gd : Option (List Code)} {cn : Str} {cs : Scope} {a : Addr} {ccd : Value} {cl : List (Str × Addr)} {outer : List Env} {A₀ : Around} {base h₀ : Heap} {L : Addr} {m : Str → Option Value} {s : Shared} {Q E : Value → Shared → Prop}
  {news : List (Addr × Obj)} {k n : Int} {tk tn : Tok}
  (B : Below A₀ base outer h₀) (F : Fr h₀ L s.heap m) (X : (hd.heap_39 w.params).In h₀) (N : News h₀ L s.heap news)
  (T : Top topProg loose mean mg mb h₀) (hk : cs.kind = .function) (hdp : dp + 6 < recursionLimit) (hun : un + 48 < cLine)
  (hk0 : 0 ≤ k) (hk1 : k < 6) (hn0 : 0 ≤ n) (hn1 : n < 1000000000)
  (hret : ∀ r t h' tk', r = textF k n → r.length ≤ 20 → Fr h₀ L h' m → News h₀ L h' news → Q (.str r t) { s with heap := h', toks := tk' }) :
  wpAny (model PySem.Challenge.rw_ew0022_01.row.prog w) (ktrTop dp un gd cn cs L a ccd cl outer) (call (.ref 128) [.int k tk, .int n tn]) Q E s :=
  text_ok B F X N T hk hdp hun hk0 hk1 hn0 hn1 fun r t h' tk' _ hr hl F' N' hs => hret r t h' tk' hr hl F' fun p hp => N' p (hs p hp)
section
set_option maxHeartbeats 3000000
local macro_rules | `(tactic| k_all) => `(tactic| assumption)
local macro_rules | `(tactic| k_room) => `(tactic| ktr_room)
local macro_rules | `(tactic| k_units) => `(tactic| ktr_units)
local macro_rules | `(tactic| walk_at "call ref") => `(tactic| (k_here; (with_reducible show wpAny _ _ (call (Value.ref 128) [Value.int _ _, Value.int _ _]) _ _ _); k_dflt (refine' text_ok2 ?cB ?cF ?cX ?cN ?cT ?ck ?cd ?cu ?c0 ?c1 ?c2 ?c3 ?_; (case cB => k_asm); (case cF => k_asm); (case cX => k_asm); (case cN => k_asm); (case cT => k_asm); (case ck => exact rfl); (case cd => (show _ + 6 < recursionLimit; decide)); (case cu => ktr_units); (case c0 => first | assumption | omega); (case c1 => first | assumption | omega); (case c2 => first | assumption | omega); (case c3 => first | assumption | omega)); intro r9 t9 h9 tk9 hr9 hl9 F9 N9))
local macro_rules | `(tactic| walk_at "binaryOp Add str str") => `(tactic| (k_here; (with_reducible show wpAny _ _ (binaryOp _ (Value.str _ _) (Value.str _ _)) _ _ _); (refine' law_add ?kx ?ky ?kz ?_; (case kx => first | assumption | exact behind_len _ | exact name_len _ | (show _ ≤ 5; decide +kernel)); (case ky => first | assumption | exact behind_len _ | exact name_len _ | (show _ ≤ 5; decide +kernel)); (case kz => exact Nat.le_of_ble_eq_true rfl)); intro _ _ _))
local macro_rules | `(tactic| walk_at "zz dummy") => `(tactic| fail)
theorem lawHead {w : World} {loose : List Str} {mean : ExcName → Option Value} {mg mb : Str → Option Value} {A₀ : Around} {base h₀ : Heap} {L fa : Addr} {cd : Value} {um : Str → Option Value} {s : Shared} {E : Value → Shared → Prop}
  {rest : List (Addr × Obj)} {S lS : Addr} {vs : List Value} {ns : List Int} {b : LB} {x : Str} {k : Int} {tk ts tq td tm : Tok}
  (B : Below A₀ base [] h₀) (F : Fr h₀ L s.heap (fun y => if y = Str.ofString "k" then some (.int k tk) else kstB um (lawVals x b S lS ts tq td tm) y)) (X : (hd.heap_39 w.params).In h₀) (N : News h₀ L s.heap rest)
  (T : Top topProg loose mean mg mb h₀) (hl : h₀.IsList S vs.toArray) (hI : IntsAre vs ns) (hk0 : 0 ≤ k) (hk1 : 2 * k + 2 < (ns.length : Int)) (hn : ns.length ≤ 63) :
  wpAny (model PySem.Challenge.rw_ew0022_01.row.prog w) (callerA.deeper (envOf (Str.ofString "law") lawScope L fa cd)) (exec lawS1 (envOf (Str.ofString "law") lawScope L fa cd)) (LawHead h₀ L (lawVals x b S lS ts tq td tm) ((ns.getD (2 * k + 1).toNat 0).fmod 9) (lawNum (ns.getD (2 * k + 2).toNat 0)) rest s) E s := by
  obtain ⟨query, due, seen, many⟩ := b
  w_top off; k_with_none; revert X; k_fill; intro X
  (conv in lawS1 => whnf)
  (conv in (occs := *) lawScope => all_goals whnf)
  (try dsimp only [kstB, lawVals] at F)
  (try k_fold)
  w_strict (k_steps)
  rename News h₀ L _ (_ :: rest) => N9
  (refine' head_leaf ?cF N9 ?c1 ?c2 ?c3 (fun p hp => .tail _ hp); (case cF => k_asm); (case c1 => exact rfl); (case c2 => exact rfl))
  intro p hp
  simp only [lawVals, List.mem_cons, List.not_mem_nil, or_false] at hp
  rcases hp with rfl | rfl | rfl | rfl | rfl | rfl <;> exact rfl
end
section
set_option maxHeartbeats 3000000
local macro_rules | `(tactic| k_all) => `(tactic| assumption)
local macro_rules | `(tactic| k_room) => `(tactic| ktr_room)
local macro_rules | `(tactic| k_units) => `(tactic| ktr_units)
local macro_rules | `(tactic| walk_at "call ref") => `(tactic| (k_here; (with_reducible show wpAny _ _ (call (Value.ref 128) [Value.int _ _, Value.int _ _]) _ _ _); k_dflt (refine' text_ok2 ?cB ?cF ?cX ?cN ?cT ?ck ?cd ?cu ?c0 ?c1 ?c2 ?c3 ?_; (case cB => k_asm); (case cF => k_asm); (case cX => k_asm); (case cN => k_asm); (case cT => k_asm); (case ck => exact rfl); (case cd => (show _ + 6 < recursionLimit; decide)); (case cu => ktr_units); (case c0 => first | assumption | omega); (case c1 => first | assumption | omega); (case c2 => first | assumption | omega); (case c3 => first | assumption | omega)); intro r9 t9 h9 tk9 hr9 hl9 F9 N9))
local macro_rules | `(tactic| walk_at "binaryOp Add str str") => `(tactic| (k_here; (with_reducible show wpAny _ _ (binaryOp _ (Value.str _ _) (Value.str _ _)) _ _ _); (refine' law_add ?kx ?ky ?kz ?_; (case kx => first | assumption | exact behind_len _ | exact name_len _ | (show _ ≤ 5; decide +kernel)); (case ky => first | assumption | exact behind_len _ | exact name_len _ | (show _ ≤ 5; decide +kernel)); (case kz => exact Nat.le_of_ble_eq_true rfl)); intro _ _ _))
local macro_rules | `(tactic| walk_at "execs nil") => `(tactic| (k_here; refine wpAny_execs_nil ?_))
local macro_rules | `(tactic| walk_at "execs cons") => `(tactic| (k_here; refine wpAny_execs_cons ?_))
theorem lawTail {w : World} {loose : List Str} {mean : ExcName → Option Value} {mg mb : Str → Option Value} {A₀ : Around} {base h₀ : Heap} {L fa : Addr} {cd : Value} {um : Str → Option Value} {s : Shared} {E : Value → Shared → Prop}
  {rest : List (Addr × Obj)} {S lS : Addr} {b : LB} {x text new : Str} {nb : Int} {t1 t2 t3 ts tq td tm : Tok} {seenV : List Value} {nS : Nat}
  (B : Below A₀ base [] h₀) (F : Fr h₀ L s.heap (kstB um ((Str.ofString "text", .str text t1) :: (Str.ofString "new", .str new t2) :: (Str.ofString "number", .int nb t3) :: lawVals x b S lS ts tq td tm))) (X : (hd.heap_39 w.params).In h₀) (N : News h₀ L s.heap ((lS, listOf seenV.toArray nS) :: rest))
  (T : Top topProg loose mean mg mb h₀) (hlo : @LT.lt Nat _ 108 lS) (hseen : StrsAre seenV b.seen) (hnb0 : 0 ≤ nb) (hnb1 : nb < 1000000000) (htl : text.length ≤ 40) (hnl : new.length ≤ 40) (hql : b.query.length ≤ 2000) (hdl : b.due.length ≤ 2000) :
  wpAny (model PySem.Challenge.rw_ew0022_01.row.prog w) (callerA.deeper (envOf (Str.ofString "law") lawScope L fa cd)) (execs lawS3 (envOf (Str.ofString "law") lawScope L fa cd)) (LawEnd h₀ L x S rest ⟨b.query ++ text ++ (behindTab.getD ((nb.fdiv 6).fmod 5).toNat Str.empty ++ Str.ofString " "), b.due ++ new ++ (behindTab.getD ((nb.fdiv 6).fmod 5).toNat Str.empty ++ Str.ofString " "), b.seen, b.many⟩ s) E s := by
  obtain ⟨query, due, seen, many⟩ := b
  w_top off; k_with_none; revert X; k_fill; intro X
  (conv in lawS3 => whnf)
  (conv in (occs := *) lawScope => all_goals whnf)
  (try dsimp only [kstB, lawVals] at F)
  (try dsimp only at hseen hql hdl)
  (try k_fold)
  k_with "table" => skip
  w_strict (k_steps)
  rename News h₀ L _ (_ :: _ :: (lS, _) :: rest) => N9
  (refine' end_leaf ?cF N9 ?c1 ?c2 ?c3 ?c4 ?c5 ?c6 (fun p hp => .tail _ (.tail _ hp)) hseen hlo; (case cF => k_asm); (case c1 => exact rfl); (case c2 => exact rfl); (case c3 => exact rfl); (case c4 => exact rfl); (case c5 => exact rfl); (case c6 => exact rfl))
end
section
set_option maxHeartbeats 3000000
local macro_rules | `(tactic| k_all) => `(tactic| assumption)
local macro_rules | `(tactic| k_room) => `(tactic| ktr_room)
local macro_rules | `(tactic| k_units) => `(tactic| ktr_units)
local macro_rules | `(tactic| walk_at "call ref") => `(tactic| (k_here; (with_reducible show wpAny _ _ (call (Value.ref 128) [Value.int _ _, Value.int _ _]) _ _ _); k_dflt (refine' text_ok2 ?cB ?cF ?cX ?cN ?cT ?ck ?cd ?cu ?c0 ?c1 ?c2 ?c3 ?_; (case cB => k_asm); (case cF => k_asm); (case cX => k_asm); (case cN => k_asm); (case cT => k_asm); (case ck => exact rfl); (case cd => (show _ + 6 < recursionLimit; decide)); (case cu => ktr_units); (case c0 => first | assumption | omega); (case c1 => first | assumption | omega); (case c2 => first | assumption | omega); (case c3 => first | assumption | omega)); intro r9 t9 h9 tk9 hr9 hl9 F9 N9))
local macro_rules | `(tactic| walk_at "binaryOp Add str str") => `(tactic| (k_here; (with_reducible show wpAny _ _ (binaryOp _ (Value.str _ _) (Value.str _ _)) _ _ _); (refine' law_add ?kx ?ky ?kz ?_; (case kx => first | assumption | exact behind_len _ | exact name_len _ | (show _ ≤ 5; decide +kernel)); (case ky => first | assumption | exact behind_len _ | exact name_len _ | (show _ ≤ 5; decide +kernel)); (case kz => exact Nat.le_of_ble_eq_true rfl)); intro _ _ _))
theorem lawIf_text {w : World} {loose : List Str} {mean : ExcName → Option Value} {mg mb : Str → Option Value} {A₀ : Around} {base h₀ : Heap} {L fa : Addr} {cd : Value} {um : Str → Option Value} {s : Shared} {E : Value → Shared → Prop}
  {rest : List (Addr × Obj)} {S lS : Addr} {b : LB} {x : Str} {kd nb : Int} {t1 t2 ts tq td tm : Tok} {seenV : List Value} {nS : Nat}
  (B : Below A₀ base [] h₀) (F : Fr h₀ L s.heap (kstB um ((Str.ofString "kind", .int kd t1) :: (Str.ofString "number", .int nb t2) :: lawVals x b S lS ts tq td tm))) (X : (hd.heap_39 w.params).In h₀) (N : News h₀ L s.heap ((lS, listOf seenV.toArray nS) :: rest))
  (T : Top topProg loose mean mg mb h₀) (hlo : @LT.lt Nat _ 108 lS) (hseen : StrsAre seenV b.seen) (hk0 : 0 ≤ kd) (hk6 : kd < 6) (hnb0 : 0 ≤ nb) (hnb1 : nb < 1000000000) :
  wpAny (model PySem.Challenge.rw_ew0022_01.row.prog w) (callerA.deeper (envOf (Str.ofString "law") lawScope L fa cd)) (exec lawS2 (envOf (Str.ofString "law") lawScope L fa cd)) (LawMid h₀ L x S b.query b.due nb (lawPiece x kd nb b) rest s) E s := by
  obtain ⟨query, due, seen, many⟩ := b
  have hpc : lawPiece x kd nb ⟨query, due, seen, many⟩ = ((textF kd nb, textF kd nb), (seen, many)) := if_pos hk6
  rw [hpc]
  clear hpc
  w_top off; k_with_none; revert X; k_fill; intro X
  (conv in lawS2 => whnf)
  (conv in (occs := *) lawScope => all_goals whnf)
  (try dsimp only [kstB, lawVals] at F)
  (try dsimp only at hseen)
  (try k_fold)
  w_strict (k_steps)
  all_goals ((try subst_vars); (refine' mid_leaf (lS := lS) ?cF ?cN ?g1 ?g2 ?g3 ?c1 ?c2 ?c3 ?c4 ?c5 ?c6 (fun p hp => hp) hseen ?cr ?l1 ?l2 hlo; (case cF => k_asm); (case cN => k_asm); (case g1 => exact rfl); (case g2 => exact rfl); (case g3 => exact rfl); (case c1 => exact rfl); (case c2 => exact rfl); (case c3 => exact rfl); (case c4 => exact rfl); (case c5 => exact rfl); (case c6 => exact rfl); (case cr => exact rfl); (case l1 => omega); (case l2 => omega)))
end
section
set_option maxHeartbeats 3000000
local macro_rules | `(tactic| k_all) => `(tactic| assumption)
local macro_rules | `(tactic| k_room) => `(tactic| ktr_room)
local macro_rules | `(tactic| k_units) => `(tactic| ktr_units)
local macro_rules | `(tactic| walk_at "call ref") => `(tactic| (k_here; (with_reducible show wpAny _ _ (call (Value.ref 128) [Value.int _ _, Value.int _ _]) _ _ _); k_dflt (refine' text_ok2 ?cB ?cF ?cX ?cN ?cT ?ck ?cd ?cu ?c0 ?c1 ?c2 ?c3 ?_; (case cB => k_asm); (case cF => k_asm); (case cX => k_asm); (case cN => k_asm); (case cT => k_asm); (case ck => exact rfl); (case cd => (show _ + 6 < recursionLimit; decide)); (case cu => ktr_units); (case c0 => first | assumption | omega); (case c1 => first | assumption | omega); (case c2 => first | assumption | omega); (case c3 => first | assumption | omega)); intro r9 t9 h9 tk9 hr9 hl9 F9 N9))
local macro_rules | `(tactic| walk_at "binaryOp Add str str") => `(tactic| (k_here; (with_reducible show wpAny _ _ (binaryOp _ (Value.str _ _) (Value.str _ _)) _ _ _); (refine' law_add ?kx ?ky ?kz ?_; (case kx => first | assumption | exact behind_len _ | exact name_len _ | (show _ ≤ 5; decide +kernel)); (case ky => first | assumption | exact behind_len _ | exact name_len _ | (show _ ≤ 5; decide +kernel)); (case kz => exact Nat.le_of_ble_eq_true rfl)); intro _ _ _))
local macro_rules | `(tactic| walk_at "subscriptTail") => `(tactic| (k_here; (with_reducible show wpAny _ _ (subscriptTail _ (Expr.Slice _ _ _ _) (Value.str _ _) (Value.ref _)) _ _ _); k_dflt (refine' law_slice ?cF ?cN ?c0 ?c1 ?_ ?ca ?cb; (case cF => k_asm); (case cN => k_asm); (case c0 => exact fm12_lo _); (case c1 => exact fm12_hi _); (case ca => with_unfolding_all rfl); (case cb => (intro _; with_unfolding_all rfl)); k_whole); intro h' t' k9 F' N' l9))
local macro_rules | `(tactic| walk_at "binaryOp Add ref ref") => `(tactic| (k_here; (with_reducible show wpAny _ _ (binaryOp _ (Value.ref _) (Value.ref _)) _ _ _); k_dflt (refine' law_cat ?cF ?cN ?cl ?cb ?cz ?cw ?_; (case cF => k_asm); (case cN => k_asm); (case cl => k_mem); (case cb => k_mem); (case cz => assumption); (case cw => exact Nat.le_of_ble_eq_true rfl); k_whole); intro D' h' F' N' l1; (try k_lt l1)))
local macro_rules | `(tactic| walk_at "call builtin:list.index") => `(tactic| (k_here; (with_reducible show wpAny _ _ (call (Value.builtin _) [Value.ref _, Value.str _ _]) _ _ _); k_dflt (refine' law_index ?ch ?cN ?cm ?cS ?cz ?cx ?ck ?_; (case ch => rfl); (case cN => k_asm); (case cm => k_mem); (case cS => first | exact strs_nil (by assumption) | exact strs_snoc (by assumption)); (case cz => first | omega | (rw [List.length_append]; show _ + 1 ≤ _; omega)); (case cx => exact name_repr _); (case ck => first | exact mem_any (by assumption) | exact List.mem_append_right _ (List.Mem.head _))); intro hi0 hi1))
theorem lawIf_qmark {w : World} {loose : List Str} {mean : ExcName → Option Value} {mg mb : Str → Option Value} {A₀ : Around} {base h₀ : Heap} {L fa : Addr} {cd : Value} {um : Str → Option Value} {s : Shared} {E : Value → Shared → Prop}
  {rest : List (Addr × Obj)} {S lS : Addr} {b : LB} {kd nb : Int} {t1 t2 ts tq td tm : Tok} {seenV : List Value} {nS : Nat}
  (B : Below A₀ base [] h₀) (F : Fr h₀ L s.heap (kstB um ((Str.ofString "kind", .int kd t1) :: (Str.ofString "number", .int nb t2) :: lawVals (Str.ofString "qmark") b S lS ts tq td tm))) (X : (hd.heap_39 w.params).In h₀) (N : News h₀ L s.heap ((lS, listOf seenV.toArray nS) :: rest))
  (T : Top topProg loose mean mg mb h₀) (hlo : @LT.lt Nat _ 108 lS) (hseen : StrsAre seenV b.seen) (hsl : b.seen.length ≤ 100) (hm0 : 0 ≤ b.many) (hm1 : b.many ≤ 100) (hk6 : ¬ kd < 6) (hk9 : kd < 9) (hnb0 : 0 ≤ nb) (hnb1 : nb < 1000000000) :
  wpAny (model PySem.Challenge.rw_ew0022_01.row.prog w) (callerA.deeper (envOf (Str.ofString "law") lawScope L fa cd)) (exec lawS2 (envOf (Str.ofString "law") lawScope L fa cd)) (LawMid h₀ L (Str.ofString "qmark") S b.query b.due nb (lawPiece (Str.ofString "qmark") kd nb b) rest s) E s := by
  obtain ⟨query, due, seen, many⟩ := b
  w_top off; k_with_none; revert X; k_fill; intro X
  (conv in lawS2 => whnf)
  (conv in (occs := *) lawScope => all_goals whnf)
  (try dsimp only [kstB, lawVals] at F)
  (try dsimp only at hseen hsl hm0 hm1)
  have hvl : seenV.length ≤ 1000 := by have := hseen.length; omega
  (try k_fold)
  k_with "table" => skip
  w_strict (k_steps)
  all_goals (refine' mid_leaf ?cF ?cN ?g1 ?g2 ?g3 ?c1 ?c2 ?c3 ?c4 ?c5 ?c6 ?cm ?cs ?cr ?l1 ?l2 ?lo; (case cF => k_asm); (case cN => k_asm); (case g1 => exact rfl); (case g2 => exact rfl); (case g3 => exact rfl); (case c1 => exact rfl); (case c2 => exact rfl); (case c3 => exact rfl); (case c4 => exact rfl); (case c5 => exact rfl); (case c6 => exact rfl); (case lo => first | exact hlo | omega); (case cm => intro p hp; repeat (first | exact hp | refine List.Mem.tail _ ?_)); (case cs => exact hseen); (case cr => (rw [lawPiece_qmark hk6]; exact rfl)); (case l1 => decide +kernel); (case l2 => exact Nat.le_trans (dollar_len (by omega) (by omega)) (by decide)))
end
section
set_option maxHeartbeats 3000000
local macro_rules | `(tactic| k_all) => `(tactic| assumption)
local macro_rules | `(tactic| k_room) => `(tactic| ktr_room)
local macro_rules | `(tactic| k_units) => `(tactic| ktr_units)
local macro_rules | `(tactic| walk_at "call ref") => `(tactic| (k_here; (with_reducible show wpAny _ _ (call (Value.ref 128) [Value.int _ _, Value.int _ _]) _ _ _); k_dflt (refine' text_ok2 ?cB ?cF ?cX ?cN ?cT ?ck ?cd ?cu ?c0 ?c1 ?c2 ?c3 ?_; (case cB => k_asm); (case cF => k_asm); (case cX => k_asm); (case cN => k_asm); (case cT => k_asm); (case ck => exact rfl); (case cd => (show _ + 6 < recursionLimit; decide)); (case cu => ktr_units); (case c0 => first | assumption | omega); (case c1 => first | assumption | omega); (case c2 => first | assumption | omega); (case c3 => first | assumption | omega)); intro r9 t9 h9 tk9 hr9 hl9 F9 N9))
local macro_rules | `(tactic| walk_at "binaryOp Add str str") => `(tactic| (k_here; (with_reducible show wpAny _ _ (binaryOp _ (Value.str _ _) (Value.str _ _)) _ _ _); (refine' law_add ?kx ?ky ?kz ?_; (case kx => first | assumption | exact behind_len _ | exact name_len _ | (show _ ≤ 5; decide +kernel)); (case ky => first | assumption | exact behind_len _ | exact name_len _ | (show _ ≤ 5; decide +kernel)); (case kz => exact Nat.le_of_ble_eq_true rfl)); intro _ _ _))
local macro_rules | `(tactic| walk_at "subscriptTail") => `(tactic| (k_here; (with_reducible show wpAny _ _ (subscriptTail _ (Expr.Slice _ _ _ _) (Value.str _ _) (Value.ref _)) _ _ _); k_dflt (refine' law_slice ?cF ?cN ?c0 ?c1 ?_ ?ca ?cb; (case cF => k_asm); (case cN => k_asm); (case c0 => exact fm12_lo _); (case c1 => exact fm12_hi _); (case ca => with_unfolding_all rfl); (case cb => (intro _; with_unfolding_all rfl)); k_whole); intro h' t' k9 F' N' l9))
local macro_rules | `(tactic| walk_at "binaryOp Add ref ref") => `(tactic| (k_here; (with_reducible show wpAny _ _ (binaryOp _ (Value.ref _) (Value.ref _)) _ _ _); k_dflt (refine' law_cat ?cF ?cN ?cl ?cb ?cz ?cw ?_; (case cF => k_asm); (case cN => k_asm); (case cl => k_mem); (case cb => k_mem); (case cz => assumption); (case cw => exact Nat.le_of_ble_eq_true rfl); k_whole); intro D' h' F' N' l1; (try k_lt l1)))
local macro_rules | `(tactic| walk_at "call builtin:list.index") => `(tactic| (k_here; (with_reducible show wpAny _ _ (call (Value.builtin _) [Value.ref _, Value.str _ _]) _ _ _); k_dflt (refine' law_index ?ch ?cN ?cm ?cS ?cz ?cx ?ck ?_; (case ch => rfl); (case cN => k_asm); (case cm => k_mem); (case cS => first | exact strs_nil (by assumption) | exact strs_snoc (by assumption)); (case cz => first | omega | (rw [List.length_append]; show _ + 1 ≤ _; omega)); (case cx => exact name_repr _); (case ck => first | exact mem_any (by assumption) | exact List.mem_append_right _ (List.Mem.head _))); intro hi0 hi1))
local macro_rules | `(tactic| walk_at "zz dummy") => `(tactic| fail)
theorem lawIf_numeric {w : World} {loose : List Str} {mean : ExcName → Option Value} {mg mb : Str → Option Value} {A₀ : Around} {base h₀ : Heap} {L fa : Addr} {cd : Value} {um : Str → Option Value} {s : Shared} {E : Value → Shared → Prop}
  {rest : List (Addr × Obj)} {S lS : Addr} {b : LB} {kd nb : Int} {t1 t2 ts tq td tm : Tok} {seenV : List Value} {nS : Nat}
  (B : Below A₀ base [] h₀) (F : Fr h₀ L s.heap (kstB um ((Str.ofString "kind", .int kd t1) :: (Str.ofString "number", .int nb t2) :: lawVals (Str.ofString "numeric") b S lS ts tq td tm))) (X : (hd.heap_39 w.params).In h₀) (N : News h₀ L s.heap ((lS, listOf seenV.toArray nS) :: rest))
  (T : Top topProg loose mean mg mb h₀) (hlo : @LT.lt Nat _ 108 lS) (hseen : StrsAre seenV b.seen) (hsl : b.seen.length ≤ 100) (hm0 : 0 ≤ b.many) (hm1 : b.many ≤ 100) (hk6 : ¬ kd < 6) (hk9 : kd < 9) (hnb0 : 0 ≤ nb) (hnb1 : nb < 1000000000) :
  wpAny (model PySem.Challenge.rw_ew0022_01.row.prog w) (callerA.deeper (envOf (Str.ofString "law") lawScope L fa cd)) (exec lawS2 (envOf (Str.ofString "law") lawScope L fa cd)) (LawMid h₀ L (Str.ofString "numeric") S b.query b.due nb (lawPiece (Str.ofString "numeric") kd nb b) rest s) E s := by
  obtain ⟨query, due, seen, many⟩ := b
  w_top off; k_with_none; revert X; k_fill; intro X
  (conv in lawS2 => whnf)
  (conv in (occs := *) lawScope => all_goals whnf)
  (try dsimp only [kstB, lawVals] at F)
  (try dsimp only at hseen hsl hm0 hm1)
  have hvl : seenV.length ≤ 1000 := by have := hseen.length; omega
  (try k_fold)
  k_with "table" => skip
  w_strict (k_steps)
  all_goals (refine' mid_leaf ?cF ?cN ?g1 ?g2 ?g3 ?c1 ?c2 ?c3 ?c4 ?c5 ?c6 ?cm ?cs ?cr ?l1 ?l2 ?lo; (case cF => k_asm); (case cN => k_asm); (case g1 => exact rfl); (case g2 => exact rfl); (case g3 => exact rfl); (case c1 => exact rfl); (case c2 => exact rfl); (case c3 => exact rfl); (case c4 => exact rfl); (case c5 => exact rfl); (case c6 => exact rfl); (case lo => first | exact hlo | omega); (case cm => intro p hp; repeat (first | exact hp | refine List.Mem.tail _ ?_)); (case cs => exact hseen); (case cr => (rw [lawPiece_numeric hk6]; exact rfl)); (case l1 => (rw [Str.length_append]; exact Nat.le_trans (Nat.add_le_add (show _ ≤ 5 by decide +kernel) (num_len (fm12_lo _) (fm12_hi _))) (by decide))); (case l2 => exact Nat.le_trans (dollar_len (by have := fm12_lo nb; omega) (by have := fm12_hi nb; omega)) (by decide)))
end
section
set_option maxHeartbeats 3000000
local macro_rules | `(tactic| k_all) => `(tactic| assumption)
local macro_rules | `(tactic| k_room) => `(tactic| ktr_room)
local macro_rules | `(tactic| k_units) => `(tactic| ktr_units)
local macro_rules | `(tactic| walk_at "call ref") => `(tactic| (k_here; (with_reducible show wpAny _ _ (call (Value.ref 128) [Value.int _ _, Value.int _ _]) _ _ _); k_dflt (refine' text_ok2 ?cB ?cF ?cX ?cN ?cT ?ck ?cd ?cu ?c0 ?c1 ?c2 ?c3 ?_; (case cB => k_asm); (case cF => k_asm); (case cX => k_asm); (case cN => k_asm); (case cT => k_asm); (case ck => exact rfl); (case cd => (show _ + 6 < recursionLimit; decide)); (case cu => ktr_units); (case c0 => first | assumption | omega); (case c1 => first | assumption | omega); (case c2 => first | assumption | omega); (case c3 => first | assumption | omega)); intro r9 t9 h9 tk9 hr9 hl9 F9 N9))
local macro_rules | `(tactic| walk_at "binaryOp Add str str") => `(tactic| (k_here; (with_reducible show wpAny _ _ (binaryOp _ (Value.str _ _) (Value.str _ _)) _ _ _); (refine' law_add ?kx ?ky ?kz ?_; (case kx => first | assumption | exact behind_len _ | exact name_len _ | (show _ ≤ 5; decide +kernel)); (case ky => first | assumption | exact behind_len _ | exact name_len _ | (show _ ≤ 5; decide +kernel)); (case kz => exact Nat.le_of_ble_eq_true rfl)); intro _ _ _))
local macro_rules | `(tactic| walk_at "subscriptTail") => `(tactic| (k_here; (with_reducible show wpAny _ _ (subscriptTail _ (Expr.Slice _ _ _ _) (Value.str _ _) (Value.ref _)) _ _ _); k_dflt (refine' law_slice ?cF ?cN ?c0 ?c1 ?_ ?ca ?cb; (case cF => k_asm); (case cN => k_asm); (case c0 => exact fm12_lo _); (case c1 => exact fm12_hi _); (case ca => with_unfolding_all rfl); (case cb => (intro _; with_unfolding_all rfl)); k_whole); intro h' t' k9 F' N' l9))
local macro_rules | `(tactic| walk_at "binaryOp Add ref ref") => `(tactic| (k_here; (with_reducible show wpAny _ _ (binaryOp _ (Value.ref _) (Value.ref _)) _ _ _); k_dflt (refine' law_cat ?cF ?cN ?cl ?cb ?cz ?cw ?_; (case cF => k_asm); (case cN => k_asm); (case cl => k_mem); (case cb => k_mem); (case cz => assumption); (case cw => exact Nat.le_of_ble_eq_true rfl); k_whole); intro D' h' F' N' l1; (try k_lt l1)))
local macro_rules | `(tactic| walk_at "call builtin:list.index") => `(tactic| (k_here; (with_reducible show wpAny _ _ (call (Value.builtin _) [Value.ref _, Value.str _ _]) _ _ _); k_dflt (refine' law_index ?ch ?cN ?cm ?cS ?cz ?cx ?ck ?_; (case ch => rfl); (case cN => k_asm); (case cm => k_mem); (case cS => first | exact strs_nil (by assumption) | exact strs_snoc (by assumption)); (case cz => first | omega | (rw [List.length_append]; show _ + 1 ≤ _; omega)); (case cx => exact name_repr _); (case ck => first | exact mem_any (by assumption) | exact List.mem_append_right _ (List.Mem.head _))); intro hi0 hi1))
theorem lawIf_format {w : World} {loose : List Str} {mean : ExcName → Option Value} {mg mb : Str → Option Value} {A₀ : Around} {base h₀ : Heap} {L fa : Addr} {cd : Value} {um : Str → Option Value} {s : Shared} {E : Value → Shared → Prop}
  {rest : List (Addr × Obj)} {S lS : Addr} {b : LB} {kd nb : Int} {t1 t2 ts tq td tm : Tok} {seenV : List Value} {nS : Nat}
  (B : Below A₀ base [] h₀) (F : Fr h₀ L s.heap (kstB um ((Str.ofString "kind", .int kd t1) :: (Str.ofString "number", .int nb t2) :: lawVals (Str.ofString "format") b S lS ts tq td tm))) (X : (hd.heap_39 w.params).In h₀) (N : News h₀ L s.heap ((lS, listOf seenV.toArray nS) :: rest))
  (T : Top topProg loose mean mg mb h₀) (hlo : @LT.lt Nat _ 108 lS) (hseen : StrsAre seenV b.seen) (hsl : b.seen.length ≤ 100) (hm0 : 0 ≤ b.many) (hm1 : b.many ≤ 100) (hk6 : ¬ kd < 6) (hk9 : kd < 9) (hnb0 : 0 ≤ nb) (hnb1 : nb < 1000000000) :
  wpAny (model PySem.Challenge.rw_ew0022_01.row.prog w) (callerA.deeper (envOf (Str.ofString "law") lawScope L fa cd)) (exec lawS2 (envOf (Str.ofString "law") lawScope L fa cd)) (LawMid h₀ L (Str.ofString "format") S b.query b.due nb (lawPiece (Str.ofString "format") kd nb b) rest s) E s := by
  obtain ⟨query, due, seen, many⟩ := b
  w_top off; k_with_none; revert X; k_fill; intro X
  (conv in lawS2 => whnf)
  (conv in (occs := *) lawScope => all_goals whnf)
  (try dsimp only [kstB, lawVals] at F)
  (try dsimp only at hseen hsl hm0 hm1)
  have hvl : seenV.length ≤ 1000 := by have := hseen.length; omega
  (try k_fold)
  k_with "table" => skip
  w_strict (k_steps)
  all_goals (refine' mid_leaf ?cF ?cN ?g1 ?g2 ?g3 ?c1 ?c2 ?c3 ?c4 ?c5 ?c6 ?cm ?cs ?cr ?l1 ?l2 ?lo; (case cF => k_asm); (case cN => k_asm); (case g1 => exact rfl); (case g2 => exact rfl); (case g3 => exact rfl); (case c1 => exact rfl); (case c2 => exact rfl); (case c3 => exact rfl); (case c4 => exact rfl); (case c5 => exact rfl); (case c6 => exact rfl); (case lo => first | exact hlo | omega); (case cm => intro p hp; repeat (first | exact hp | refine List.Mem.tail _ ?_)); (case cs => exact hseen); (case cr => first | exact lawPiece_format0 hk6 (by assumption) | exact lawPiece_format1 hk6 (by assumption)); (case l1 => decide +kernel); (case l2 => first | (show _ ≤ 40; decide +kernel) | exact Nat.le_trans (dollar_len (by omega) (by omega)) (by decide)))
end
section
set_option maxHeartbeats 3000000
local macro_rules | `(tactic| k_all) => `(tactic| assumption)
local macro_rules | `(tactic| k_room) => `(tactic| ktr_room)
local macro_rules | `(tactic| k_units) => `(tactic| ktr_units)
local macro_rules | `(tactic| walk_at "call ref") => `(tactic| (k_here; (with_reducible show wpAny _ _ (call (Value.ref 128) [Value.int _ _, Value.int _ _]) _ _ _); k_dflt (refine' text_ok2 ?cB ?cF ?cX ?cN ?cT ?ck ?cd ?cu ?c0 ?c1 ?c2 ?c3 ?_; (case cB => k_asm); (case cF => k_asm); (case cX => k_asm); (case cN => k_asm); (case cT => k_asm); (case ck => exact rfl); (case cd => (show _ + 6 < recursionLimit; decide)); (case cu => ktr_units); (case c0 => first | assumption | omega); (case c1 => first | assumption | omega); (case c2 => first | assumption | omega); (case c3 => first | assumption | omega)); intro r9 t9 h9 tk9 hr9 hl9 F9 N9))
local macro_rules | `(tactic| walk_at "binaryOp Add str str") => `(tactic| (k_here; (with_reducible show wpAny _ _ (binaryOp _ (Value.str _ _) (Value.str _ _)) _ _ _); (refine' law_add ?kx ?ky ?kz ?_; (case kx => first | assumption | exact behind_len _ | exact name_len _ | (show _ ≤ 5; decide +kernel)); (case ky => first | assumption | exact behind_len _ | exact name_len _ | (show _ ≤ 5; decide +kernel)); (case kz => exact Nat.le_of_ble_eq_true rfl)); intro _ _ _))
local macro_rules | `(tactic| walk_at "subscriptTail") => `(tactic| (k_here; (with_reducible show wpAny _ _ (subscriptTail _ (Expr.Slice _ _ _ _) (Value.str _ _) (Value.ref _)) _ _ _); k_dflt (refine' law_slice ?cF ?cN ?c0 ?c1 ?_ ?ca ?cb; (case cF => k_asm); (case cN => k_asm); (case c0 => exact fm12_lo _); (case c1 => exact fm12_hi _); (case ca => with_unfolding_all rfl); (case cb => (intro _; with_unfolding_all rfl)); k_whole); intro h' t' k9 F' N' l9))
local macro_rules | `(tactic| walk_at "binaryOp Add ref ref") => `(tactic| (k_here; (with_reducible show wpAny _ _ (binaryOp _ (Value.ref _) (Value.ref _)) _ _ _); k_dflt (refine' law_cat ?cF ?cN ?cl ?cb ?cz ?cw ?_; (case cF => k_asm); (case cN => k_asm); (case cl => k_mem); (case cb => k_mem); (case cz => assumption); (case cw => exact Nat.le_of_ble_eq_true rfl); k_whole); intro D' h' F' N' l1; (try k_lt l1)))
local macro_rules | `(tactic| walk_at "call builtin:list.index") => `(tactic| (k_here; (with_reducible show wpAny _ _ (call (Value.builtin _) [Value.ref _, Value.str _ _]) _ _ _); k_dflt (refine' law_index ?ch ?cN ?cm ?cS ?cz ?cx ?ck ?_; (case ch => rfl); (case cN => k_asm); (case cm => k_mem); (case cS => first | exact strs_nil (by assumption) | exact strs_snoc (by assumption)); (case cz => first | omega | (rw [List.length_append]; show _ + 1 ≤ _; omega)); (case cx => exact name_repr _); (case ck => first | exact mem_any (by assumption) | exact List.mem_append_right _ (List.Mem.head _))); intro hi0 hi1))
local macro_rules | `(tactic| walk_at "zz dummy") => `(tactic| fail)
theorem lawIf_named {w : World} {loose : List Str} {mean : ExcName → Option Value} {mg mb : Str → Option Value} {A₀ : Around} {base h₀ : Heap} {L fa : Addr} {cd : Value} {um : Str → Option Value} {s : Shared} {E : Value → Shared → Prop}
  {rest : List (Addr × Obj)} {S lS : Addr} {b : LB} {kd nb : Int} {t1 t2 ts tq td tm : Tok} {seenV : List Value} {nS : Nat}
  (B : Below A₀ base [] h₀) (F : Fr h₀ L s.heap (kstB um ((Str.ofString "kind", .int kd t1) :: (Str.ofString "number", .int nb t2) :: lawVals (Str.ofString "named") b S lS ts tq td tm))) (X : (hd.heap_39 w.params).In h₀) (N : News h₀ L s.heap ((lS, listOf seenV.toArray nS) :: rest))
  (T : Top topProg loose mean mg mb h₀) (hlo : @LT.lt Nat _ 108 lS) (hseen : StrsAre seenV b.seen) (hsl : b.seen.length ≤ 100) (hm0 : 0 ≤ b.many) (hm1 : b.many ≤ 100) (hk6 : ¬ kd < 6) (hk9 : kd < 9) (hnb0 : 0 ≤ nb) (hnb1 : nb < 1000000000) :
  wpAny (model PySem.Challenge.rw_ew0022_01.row.prog w) (callerA.deeper (envOf (Str.ofString "law") lawScope L fa cd)) (exec lawS2 (envOf (Str.ofString "law") lawScope L fa cd)) (LawMid h₀ L (Str.ofString "named") S b.query b.due nb (lawPiece (Str.ofString "named") kd nb b) rest s) E s := by
  obtain ⟨query, due, seen, many⟩ := b
  w_top off; k_with_none; revert X; k_fill; intro X
  (conv in lawS2 => whnf)
  (conv in (occs := *) lawScope => all_goals whnf)
  (try dsimp only [kstB, lawVals] at F)
  (try dsimp only at hseen hsl hm0 hm1)
  have hvl : seenV.length ≤ 1000 := by have := hseen.length; omega
  (try k_fold)
  k_with "table" => skip
  w_strict (k_steps)
  all_goals (refine' mid_leaf ?cF ?cN ?g1 ?g2 ?g3 ?c1 ?c2 ?c3 ?c4 ?c5 ?c6 ?cm ?cs ?cr ?l1 ?l2 ?lo; (case cF => k_asm); (case cN => k_asm); (case g1 => exact rfl); (case g2 => exact rfl); (case g3 => exact rfl); (case c1 => exact rfl); (case c2 => exact rfl); (case c3 => exact rfl); (case c4 => exact rfl); (case c5 => exact rfl); (case c6 => exact rfl); (case lo => first | exact hlo | omega); (case cm => (intro p hp; (rcases List.mem_cons.mp hp with rfl | hp; · exact List.Mem.head _); repeat (first | exact List.Mem.tail _ hp | refine List.Mem.tail _ ?_))); (case cs => first | exact strs_nil hseen | exact strs_snoc hseen); (case cr => first | (rw [lawPiece_named hk6]; dsimp only; rw [seenAdd_in (by assumption)]; exact rfl) | (rw [lawPiece_named hk6]; dsimp only; rw [seenAdd_out (by assumption)]; exact rfl)); (case l1 => omega); (case l2 => exact Nat.le_trans (dollar_len (by omega) (by omega)) (by decide)))
end
section
set_option maxHeartbeats 3000000
local macro_rules | `(tactic| k_all) => `(tactic| assumption)
local macro_rules | `(tactic| k_room) => `(tactic| ktr_room)
local macro_rules | `(tactic| k_units) => `(tactic| ktr_units)
local macro_rules | `(tactic| walk_at "call ref") => `(tactic| (k_here; (with_reducible show wpAny _ _ (call (Value.ref 128) [Value.int _ _, Value.int _ _]) _ _ _); k_dflt (refine' text_ok2 ?cB ?cF ?cX ?cN ?cT ?ck ?cd ?cu ?c0 ?c1 ?c2 ?c3 ?_; (case cB => k_asm); (case cF => k_asm); (case cX => k_asm); (case cN => k_asm); (case cT => k_asm); (case ck => exact rfl); (case cd => (show _ + 6 < recursionLimit; decide)); (case cu => ktr_units); (case c0 => first | assumption | omega); (case c1 => first | assumption | omega); (case c2 => first | assumption | omega); (case c3 => first | assumption | omega)); intro r9 t9 h9 tk9 hr9 hl9 F9 N9))
local macro_rules | `(tactic| walk_at "binaryOp Add str str") => `(tactic| (k_here; (with_reducible show wpAny _ _ (binaryOp _ (Value.str _ _) (Value.str _ _)) _ _ _); (refine' law_add ?kx ?ky ?kz ?_; (case kx => first | assumption | exact behind_len _ | exact name_len _ | (show _ ≤ 5; decide +kernel)); (case ky => first | assumption | exact behind_len _ | exact name_len _ | (show _ ≤ 5; decide +kernel)); (case kz => exact Nat.le_of_ble_eq_true rfl)); intro _ _ _))
local macro_rules | `(tactic| walk_at "subscriptTail") => `(tactic| (k_here; (with_reducible show wpAny _ _ (subscriptTail _ (Expr.Slice _ _ _ _) (Value.str _ _) (Value.ref _)) _ _ _); k_dflt (refine' law_slice ?cF ?cN ?c0 ?c1 ?_ ?ca ?cb; (case cF => k_asm); (case cN => k_asm); (case c0 => exact fm12_lo _); (case c1 => exact fm12_hi _); (case ca => with_unfolding_all rfl); (case cb => (intro _; with_unfolding_all rfl)); k_whole); intro h' t' k9 F' N' l9))
local macro_rules | `(tactic| walk_at "binaryOp Add ref ref") => `(tactic| (k_here; (with_reducible show wpAny _ _ (binaryOp _ (Value.ref _) (Value.ref _)) _ _ _); k_dflt (refine' law_cat ?cF ?cN ?cl ?cb ?cz ?cw ?_; (case cF => k_asm); (case cN => k_asm); (case cl => k_mem); (case cb => k_mem); (case cz => assumption); (case cw => exact Nat.le_of_ble_eq_true rfl); k_whole); intro D' h' F' N' l1; (try k_lt l1)))
local macro_rules | `(tactic| walk_at "call builtin:list.index") => `(tactic| (k_here; (with_reducible show wpAny _ _ (call (Value.builtin _) [Value.ref _, Value.str _ _]) _ _ _); k_dflt (refine' law_index ?ch ?cN ?cm ?cS ?cz ?cx ?ck ?_; (case ch => rfl); (case cN => k_asm); (case cm => k_mem); (case cS => first | exact strs_nil (by assumption) | exact strs_snoc (by assumption)); (case cz => first | omega | (rw [List.length_append]; show _ + 1 ≤ _; omega)); (case cx => exact name_repr _); (case ck => first | exact mem_any (by assumption) | exact List.mem_append_right _ (List.Mem.head _))); intro hi0 hi1))
theorem lawIf_pyformat {w : World} {loose : List Str} {mean : ExcName → Option Value} {mg mb : Str → Option Value} {A₀ : Around} {base h₀ : Heap} {L fa : Addr} {cd : Value} {um : Str → Option Value} {s : Shared} {E : Value → Shared → Prop}
  {rest : List (Addr × Obj)} {S lS : Addr} {b : LB} {kd nb : Int} {t1 t2 ts tq td tm : Tok} {seenV : List Value} {nS : Nat}
  (B : Below A₀ base [] h₀) (F : Fr h₀ L s.heap (kstB um ((Str.ofString "kind", .int kd t1) :: (Str.ofString "number", .int nb t2) :: lawVals (Str.ofString "pyformat") b S lS ts tq td tm))) (X : (hd.heap_39 w.params).In h₀) (N : News h₀ L s.heap ((lS, listOf seenV.toArray nS) :: rest))
  (T : Top topProg loose mean mg mb h₀) (hlo : @LT.lt Nat _ 108 lS) (hseen : StrsAre seenV b.seen) (hsl : b.seen.length ≤ 100) (hm0 : 0 ≤ b.many) (hm1 : b.many ≤ 100) (hk6 : ¬ kd < 6) (hk9 : kd < 9) (hnb0 : 0 ≤ nb) (hnb1 : nb < 1000000000) :
  wpAny (model PySem.Challenge.rw_ew0022_01.row.prog w) (callerA.deeper (envOf (Str.ofString "law") lawScope L fa cd)) (exec lawS2 (envOf (Str.ofString "law") lawScope L fa cd)) (LawMid h₀ L (Str.ofString "pyformat") S b.query b.due nb (lawPiece (Str.ofString "pyformat") kd nb b) rest s) E s := by
  obtain ⟨query, due, seen, many⟩ := b
  w_top off; k_with_none; revert X; k_fill; intro X
  (conv in lawS2 => whnf)
  (conv in (occs := *) lawScope => all_goals whnf)
  (try dsimp only [kstB, lawVals] at F)
  (try dsimp only at hseen hsl hm0 hm1)
  have hvl : seenV.length ≤ 1000 := by have := hseen.length; omega
  (try k_fold)
  k_with "table" => skip
  w_strict (k_steps)
  all_goals (refine' mid_leaf ?cF ?cN ?g1 ?g2 ?g3 ?c1 ?c2 ?c3 ?c4 ?c5 ?c6 ?cm ?cs ?cr ?l1 ?l2 ?lo; (case cF => k_asm); (case cN => k_asm); (case g1 => exact rfl); (case g2 => exact rfl); (case g3 => exact rfl); (case c1 => exact rfl); (case c2 => exact rfl); (case c3 => exact rfl); (case c4 => exact rfl); (case c5 => exact rfl); (case c6 => exact rfl); (case lo => first | exact hlo | omega); (case cm => (intro p hp; (rcases List.mem_cons.mp hp with rfl | hp; · exact List.Mem.head _); repeat (first | exact List.Mem.tail _ hp | refine List.Mem.tail _ ?_))); (case cs => first | exact strs_nil hseen | exact strs_snoc hseen); (case cr => first | (rw [lawPiece_pyformat hk6]; dsimp only; rw [seenAdd_in (by assumption)]; exact rfl) | (rw [lawPiece_pyformat hk6]; dsimp only; rw [seenAdd_out (by assumption)]; exact rfl)); (case l1 => omega); (case l2 => exact Nat.le_trans (dollar_len (by omega) (by omega)) (by decide)))
end
section
set_option maxHeartbeats 3000000
theorem same_kst {m : Str → Option Value} {ps : List (Str × Value)} (h : Same m ps) : m = kstB m ps := by
  funext y
  rw [kstB_eq h fun _ => rfl]
theorem lawTurn {w : World} {loose : List Str} {mean : ExcName → Option Value} {mg mb : Str → Option Value} {A₀ : Around} {base h₀ : Heap} {L fa : Addr} {cd : Value} {um : Str → Option Value} {s : Shared} {E : Value → Shared → Prop}
  {rest : List (Addr × Obj)} {S lS : Addr} {vs : List Value} {ns : List Int} {b : LB} {x : Str} {k : Int} {i : Nat} {tk ts tq td tm : Tok} {seenV : List Value} {nS : Nat}
  (B : Below A₀ base [] h₀) (F : Fr h₀ L s.heap (fun y => if y = Str.ofString "k" then some (.int k tk) else kstB um (lawVals x b S lS ts tq td tm) y)) (X : (hd.heap_39 w.params).In h₀) (N : News h₀ L s.heap ((lS, listOf seenV.toArray nS) :: rest))
  (T : Top topProg loose mean mg mb h₀) (hl : h₀.IsList S vs.toArray) (hI : IntsAre vs ns) (hk0 : 0 ≤ k) (hk1 : 2 * k + 2 < (ns.length : Int)) (hn : ns.length ≤ 63) (hlo : @LT.lt Nat _ 108 lS) (hseen : StrsAre seenV b.seen) (hx : Five x) (hb : LawI x i b) (hi : i ≤ 30) :
  wpAny (model PySem.Challenge.rw_ew0022_01.row.prog w) (callerA.deeper (envOf (Str.ofString "law") lawScope L fa cd)) (execs lawBody (envOf (Str.ofString "law") lawScope L fa cd)) (LawEnd h₀ L x S rest (lawStep x ((ns.getD (2 * k + 1).toNat 0).fmod 9) (lawNum (ns.getD (2 * k + 2).toNat 0)) b) s) E s := by
  show wpAny _ _ (execs (lawS1 :: lawS2 :: lawS3) _) _ _ _
  have h0 : 0 ≤ (ns.getD (2 * k + 1).toNat 0).fmod 9 := Int.fmod_nonneg_of_pos _ (by decide)
  have h9 : (ns.getD (2 * k + 1).toNat 0).fmod 9 < 9 := Int.fmod_lt_of_pos _ (by decide)
  have n0 := lawNum_nonneg (ns.getD (2 * k + 2).toNat 0)
  have n1 := lawNum_lt (ns.getD (2 * k + 2).toNat 0)
  refine wpAny_execs_cons (wpAny_mono (lawHead B F X N T hl hI hk0 hk1 hn) ?_ fun _ _ e => e)
  generalize (ns.getD (2 * k + 1).toNat 0).fmod 9 = kd at *
  generalize lawNum (ns.getD (2 * k + 2).toNat 0) = nb at *
  rintro f s₁ ⟨rfl, h1, tk1, m1, t1, t2, rfl, F1, S1, N1⟩
  rw [same_kst S1] at F1
  have sl := hb.sl
  have m0 := hb.m0
  have m9 := hb.m1
  have ql := hb.ql
  have dl := hb.dl
  have mid : wpAny (model PySem.Challenge.rw_ew0022_01.row.prog w) (callerA.deeper (envOf (Str.ofString "law") lawScope L fa cd)) (exec lawS2 (envOf (Str.ofString "law") lawScope L fa cd)) (LawMid h₀ L x S b.query b.due nb (lawPiece x kd nb b) rest { s with heap := h1, toks := tk1 }) E { s with heap := h1, toks := tk1 } := by
    by_cases hk6 : kd < 6
    · exact lawIf_text B F1 X N1 T hlo hseen h0 hk6 n0 n1
    · rcases hx with rfl | rfl | rfl | rfl | rfl
      · exact lawIf_qmark B F1 X N1 T hlo hseen (by omega) m0 (by omega) hk6 h9 n0 n1
      · exact lawIf_numeric B F1 X N1 T hlo hseen (by omega) m0 (by omega) hk6 h9 n0 n1
      · exact lawIf_format B F1 X N1 T hlo hseen (by omega) m0 (by omega) hk6 h9 n0 n1
      · exact lawIf_named B F1 X N1 T hlo hseen (by omega) m0 (by omega) hk6 h9 n0 n1
      · exact lawIf_pyformat B F1 X N1 T hlo hseen (by omega) m0 (by omega) hk6 h9 n0 n1
  refine wpAny_execs_cons (wpAny_mono mid ?_ fun _ _ e => e)
  rintro f s₂ ⟨rfl, h2, tk2, m2, lS2, seenV2, nS2, u1, u2, u3, us, uq, ud, um2, rfl, F2, S2, N2, hs2, l1, l2, hlo2⟩
  rw [same_kst S2] at F2
  refine wpAny_mono (lawTail B F2 X N2 T hlo2 hs2 n0 n1 l1 l2 (by show b.query.length ≤ _; omega) (by show b.due.length ≤ _; omega)) ?_ fun _ _ e => e
  rintro f s₃ ⟨rfl, h3, tk3, m3, lS3, seenV3, nS3, vs3, vq3, vd3, vm3, rfl, F3, S3, N3, hs3, hlo3⟩
  exact ⟨rfl, h3, tk3, m3, lS3, seenV3, nS3, vs3, vq3, vd3, vm3, rfl, F3, S3, N3, hs3, hlo3⟩
end
section
set_option maxHeartbeats 3000000
theorem lawRest {w : World} {loose : List Str} {mean : ExcName → Option Value} {mg mb : Str → Option Value} {A₀ : Around} {base h₀ : Heap} {L fa : Addr} {cd : Value} {s : Shared} {E : Value → Shared → Prop} {Q : Flow → Shared → Prop}
  {rest : List (Addr × Obj)} {S I : Addr} {vs : List Value} {ns : List Int} {x : Str} {n : Nat}
  (B : Below A₀ base [] h₀) (X : (hd.heap_39 w.params).In h₀) (T : Top topProg loose mean mg mb h₀) (hl : h₀.IsList S vs.toArray) (hI : IntsAre vs ns) (hn : ns.length ≤ 63) (hx : Five x) (hn10 : n ≤ 10) (hsz : ∀ i, i < n → 2 * i + 2 < ns.length) (hoff : ∀ p ∈ rest, p.1 ≠ I)
  (done : ∀ h tk m lS seenV nS ts tq td tm, Fr h₀ L h m → Same m (lawVals x (lawIter ns x n) S lS ts tq td tm) → News h₀ L h ((lS, listOf seenV.toArray nS) :: rest) → StrsAre seenV (lawIter ns x n).seen → @LT.lt Nat _ 108 lS → Q .next { s with heap := h, toks := tk }) :
  ∀ (k i : Nat) (m : Str → Option Value) (lS : Addr) (seenV : List Value) (nS : Nat) (ts tq td tm : Tok), i + k = n → Same m (lawVals x (lawIter ns x i) S lS ts tq td tm) → StrsAre seenV (lawIter ns x i).seen → @LT.lt Nat _ 108 lS →
    KrsRest PySem.Challenge.rw_ew0022_01.row.prog w (callerA.deeper (envOf (Str.ofString "law") lawScope L fa cd)) E h₀ (envOf (Str.ofString "law") lawScope L fa cd) (Str.ofString "k") lawBody Q s I 0 1 n k i m ((lS, listOf seenV.toArray nS) :: rest) := by
  intro k
  induction k with
  | zero =>
    intro i m lS seenV nS ts tq td tm hik hS hs hlo
    obtain rfl : i = n := by omega
    exact KrsRest.zero fun h tk F N => done h tk m lS seenV nS ts tq td tm F hS N hs hlo
  | succ k ih =>
    intro i m lS seenV nS ts tq td tm hik hS hs hlo
    refine KrsRest.succ (v := (i : Int)) (by omega) fun t h tk F N => ?_
    have F' : Fr h₀ L h (fun y => if y = Str.ofString "k" then some (.int (i : Int) t) else kstB m (lawVals x (lawIter ns x i) S lS ts tq td tm) y) := by
      rw [← same_kst hS]; exact F
    have N' : News h₀ L h ((lS, listOf seenV.toArray nS) :: (I, krsIt (0 + ((i + 1 : Nat) : Int) * 1) ((n : Int) - ((i + 1 : Nat) : Int)) 1) :: rest) := fun p hp => N p (by
      rcases List.mem_cons.mp hp with rfl | hp
      · exact .tail _ (.head _)
      rcases List.mem_cons.mp hp with rfl | hp
      · exact .head _
      · exact .tail _ (.tail _ hp))
    have hin : i < n := by omega
    have h2 := hsz i hin
    refine wpAny_mono (lawTurn (s := { s with heap := h, toks := tk }) B F' X N' T hl hI (Int.natCast_nonneg _) (by omega) hn hlo hs hx (lawIter_ok hx i (by omega)) (by omega)) ?_ fun _ _ e => e
    rintro f s₃ ⟨rfl, h3, tk3, m3, lS3, seenV3, nS3, us, uq, ud, um, rfl, F3, S3, N3, hs3, hlo3⟩
    have hne : lS3 ≠ I := by
      rintro rfl
      have a := (N3 _ (List.Mem.head _)).1
      have b := (N3 _ (List.Mem.tail _ (List.Mem.head _))).1
      dsimp only at a b
      rw [a] at b
      have c := congrArg Obj.cls (Option.some.inj b)
      exact absurd c (by show ¬ (Value.type "list" = Value.type "range_iterator"); intro q; injection q with q1; exact absurd q1 (by decide))
    refine ⟨h3, tk3, m3, (lS3, listOf seenV3.toArray nS3) :: rest, rfl, F3, fun p hp => N3 p ?_, fun p hp => ?_, ?_⟩
    · rcases List.mem_cons.mp hp with rfl | hp
      · exact .tail _ (.head _)
      rcases List.mem_cons.mp hp with rfl | hp
      · exact .head _
      · exact .tail _ (.tail _ hp)
    · rcases List.mem_cons.mp hp with rfl | hp
      · exact hne
      · exact hoff p hp
    · exact ih (i + 1) m3 lS3 seenV3 nS3 us uq ud um (by omega) S3 hs3 hlo3
theorem lawLoop {w : World} {loose : List Str} {mean : ExcName → Option Value} {mg mb : Str → Option Value} {A₀ : Around} {base h₀ : Heap} {L fa r : Addr} {cd : Value} {s : Shared} {E : Value → Shared → Prop} {Q : Flow → Shared → Prop}
  {rest : List (Addr × Obj)} {S lS : Addr} {vs : List Value} {ns : List Int} {x : Str} {n nS : Nat} {nn : Int} {t₀ u₀ v₀ ts tq td tm : Tok} {m : Str → Option Value}
  (hr : IsRange s.heap r 0 nn 1 t₀ u₀ v₀) (hsmall : Builtin.Range.small 0 nn 1 = true) (hnn : Builtin.Range.rangeSize 0 nn 1 = (n : Int))
  (B : Below A₀ base [] h₀) (F : Fr h₀ L s.heap m) (X : (hd.heap_39 w.params).In h₀) (N : News h₀ L s.heap ((lS, listOf ([] : List Value).toArray nS) :: rest)) (T : Top topProg loose mean mg mb h₀) (hl : h₀.IsList S vs.toArray) (hI : IntsAre vs ns) (hn : ns.length ≤ 63) (hx : Five x) (hn10 : n ≤ 10) (hsz : ∀ i, i < n → 2 * i + 2 < ns.length)
  (hlo : @LT.lt Nat _ 108 lS) (hS : Same m (lawVals x ⟨Str.ofString "", Str.ofString "", [], 0⟩ S lS ts tq td tm))
  (done : ∀ h tk m lS seenV nS ts tq td tm, Fr h₀ L h m → Same m (lawVals x (lawIter ns x n) S lS ts tq td tm) → News h₀ L h ((lS, listOf seenV.toArray nS) :: rest) → StrsAre seenV (lawIter ns x n).seen → @LT.lt Nat _ 108 lS → Q .next { s with heap := h, toks := tk }) :
  wpAny (model PySem.Challenge.rw_ew0022_01.row.prog w) (callerA.deeper (envOf (Str.ofString "law") lawScope L fa cd)) (pyIter (.ref r)) (fun it s₂ => LoopAtV PySem.Challenge.rw_ew0022_01.row.prog w (callerA.deeper (envOf (Str.ofString "law") lawScope L fa cd)) h₀ (envOf (Str.ofString "law") lawScope L fa cd) (Str.ofString "k") lawBody Q E it s₂) E s :=
  krs_iter rfl hr hsmall hnn F N fun I hlt => lawRest B X T hl hI hn hx hn10 hsz (fun p hp e => absurd (hlt p (.tail _ hp)) (e ▸ Nat.lt_irrefl _)) done n 0 m lS [] nS ts tq td tm (by omega) hS .nil hlo
end
section
set_option maxHeartbeats 3000000
noncomputable def lawS4 : List Stmt := lawDef.1.drop 3
/-- what the call of _law_told hands back where the query raises nothing and the values are the given ones -/
theorem told_gives {w : World} {loose : List Str} {mean : ExcName → Option Value} {mg mb : Str → Option Value}
  {dp un : Nat} {gd : Option (List Code)} {cn : Str} {cs : Scope} {a : Addr} {ccd : Value} {A₀ : Around} {base h₀ : Heap} {L : Addr} {m : Str → Option Value} {s : Shared} {Q E : Value → Shared → Prop}
  {news : List (Addr × Obj)} {ps : Array Value} {x q due : Str} {seen : List Str} {av : Value} {tx tq : Tok}
  (B : Below A₀ base [] h₀) (F : Fr h₀ L s.heap m) (X : (hd.heap_39 w.params).In h₀) (N : News h₀ L s.heap ((108, tabObj ps) :: news)) (hS : TabS ps news) (hG : ∀ p ∈ news, @LT.lt Nat _ 108 p.1) (C : CodeHd base 112 108)
  (T : Top topProg loose mean mg mb h₀) (XB : (hd.heap_39 w.params).In base) (TB : Top topProg loose mean mg mb base) (hk : cs.kind = .function) (hdp : dp + 60 < recursionLimit) (hun : un + 400 < cLine)
  (hx : Five x) (h1 : x ≠ Str.ofString "named") (h2 : x ≠ Str.ofString "pyformat") (G : QGives x q due seen)
  (hret : ∀ D t' s' ps' c' co, TabS ps' ((c', co) :: news) → @LT.lt Nat _ 108 c' → (AllBare s.gens → AllBare s'.gens) → s'.drawn = s.drawn → s'.os = s.os → Fr h₀ L s'.heap m →
     News h₀ L s'.heap ((D, tupO [.str due t', av]) :: (108, tabObj ps') :: (c', co) :: news) → Q (.ref D) s') :
  wpAny (model PySem.Challenge.rw_ew0022_01.row.prog w) (ktrTop dp un gd cn cs L a ccd [] []) (call (.ref 135) [.str x tx, .str q tq, av]) Q E s := by
  refine told_ok (d := 0) (od := default) (val := fun _ => .none) (names := []) B F X N hS hG C T XB TB hk hdp hun G.ok.len hx G.ok.ch G.ok.colon G.wide (fun h => ?_) (fun st D t' vV s' ps' c' co hst hS' hc' hg hd ho F' hN => ?_) (fun e => absurd e G.runs)
  · rcases h with h | h
    · exact absurd h h1
    · exact absurd h h2
  · obtain ⟨g1, g2, g3⟩ := G.got st hst
    rw [g2] at hN
    rcases hN with ⟨_, _, rfl, N'⟩ | ⟨V, _, _, h | h⟩
    · exact hret D t' s' ps' c' co hS' hc' hg hd ho F' N'
    · exact absurd (g1.symm.trans h) h1
    · exact absurd (g1.symm.trans h) h2
/-- .. where the values are drawn out of a dict -/
theorem told_givesD {w : World} {loose : List Str} {mean : ExcName → Option Value} {mg mb : Str → Option Value}
  {dp un : Nat} {gd : Option (List Code)} {cn : Str} {cs : Scope} {a : Addr} {ccd : Value} {A₀ : Around} {base h₀ : Heap} {L : Addr} {m : Str → Option Value} {s : Shared} {Q E : Value → Shared → Prop}
  {news : List (Addr × Obj)} {ps : Array Value} {x q due : Str} {seen : List Str} {tx tq : Tok} {d : Addr} {od : Obj} {val : Str → Value} {names : List Str}
  (B : Below A₀ base [] h₀) (F : Fr h₀ L s.heap m) (X : (hd.heap_39 w.params).In h₀) (N : News h₀ L s.heap ((108, tabObj ps) :: news)) (hS : TabS ps news) (hG : ∀ p ∈ news, @LT.lt Nat _ 108 p.1) (C : CodeHd base 112 108)
  (T : Top topProg loose mean mg mb h₀) (XB : (hd.heap_39 w.params).In base) (TB : Top topProg loose mean mg mb base) (hk : cs.kind = .function) (hdp : dp + 60 < recursionLimit) (hun : un + 400 < cLine)
  (hx : Five x) (h1 : x = Str.ofString "named" ∨ x = Str.ofString "pyformat") (G : QGives x q due seen) (hod : (d, od) ∈ news) (hA : ArgsOk PySem.Challenge.rw_ew0022_01.row.prog w d od val names) (hsub : ∀ y ∈ seen, y ∈ names)
  (hret : ∀ D V t' s' ps' c' co, TabS ps' ((c', co) :: news) → @LT.lt Nat _ 108 c' → (AllBare s.gens → AllBare s'.gens) → s'.drawn = s.drawn → s'.os = s.os → Fr h₀ L s'.heap m →
     News h₀ L s'.heap ((D, tupO [.str due t', .ref V]) :: (V, tupO (seen.map val)) :: (108, tabObj ps') :: (c', co) :: news) → Q (.ref D) s') :
  wpAny (model PySem.Challenge.rw_ew0022_01.row.prog w) (ktrTop dp un gd cn cs L a ccd [] []) (call (.ref 135) [.str x tx, .str q tq, .ref d]) Q E s := by
  refine told_ok (d := d) (od := od) (val := val) (names := names) B F X N hS hG C T XB TB hk hdp hun G.ok.len hx G.ok.ch G.ok.colon G.wide (fun _ => ⟨rfl, hod, hA, fun st hst y hy => hsub y ((G.got st hst).2.2 ▸ hy)⟩) (fun st D t' vV s' ps' c' co hst hS' hc' hg hd ho F' hN => ?_) (fun e => absurd e G.runs)
  obtain ⟨g1, g2, g3⟩ := G.got st hst
  rw [g2] at hN
  rcases hN with ⟨n1, n2, _, _⟩ | ⟨V, rfl, N', _⟩
  · rcases h1 with h | h
    · exact absurd (g1.trans h) n1
    · exact absurd (g1.trans h) n2
  · rw [g3] at N'
    exact hret D V t' s' ps' c' co hS' hc' hg hd ho F' N'
/-- .. where the query raises -/
theorem told_raises {w : World} {loose : List Str} {mean : ExcName → Option Value} {mg mb : Str → Option Value}
  {dp un : Nat} {gd : Option (List Code)} {cn : Str} {cs : Scope} {a : Addr} {ccd : Value} {A₀ : Around} {base h₀ : Heap} {L : Addr} {m : Str → Option Value} {s : Shared} {Q E : Value → Shared → Prop}
  {news : List (Addr × Obj)} {ps : Array Value} {x q : Str} {av : Value} {tx tq : Tok} {d : Addr} {od : Obj} {val : Str → Value} {names : List Str}
  (B : Below A₀ base [] h₀) (F : Fr h₀ L s.heap m) (X : (hd.heap_39 w.params).In h₀) (N : News h₀ L s.heap ((108, tabObj ps) :: news)) (hS : TabS ps news) (hG : ∀ p ∈ news, @LT.lt Nat _ 108 p.1) (C : CodeHd base 112 108)
  (T : Top topProg loose mean mg mb h₀) (XB : (hd.heap_39 w.params).In base) (TB : Top topProg loose mean mg mb base) (hk : cs.kind = .function) (hdp : dp + 60 < recursionLimit) (hun : un + 400 < cLine)
  (hx : Five x) (G : QRaises x q) (hav : (x = Str.ofString "named" ∨ x = Str.ofString "pyformat") → av = .ref d ∧ (d, od) ∈ news ∧ ArgsOk PySem.Challenge.rw_ew0022_01.row.prog w d od val names)
  (hret : ∀ s' ps' c' co, TabS ps' ((c', co) :: news) → @LT.lt Nat _ 108 c' → (AllBare s.gens → AllBare s'.gens) → s'.drawn = s.drawn → s'.os = s.os → Fr h₀ L s'.heap m → News h₀ L s'.heap ((108, tabObj ps') :: (c', co) :: news) → Q .none s') :
  wpAny (model PySem.Challenge.rw_ew0022_01.row.prog w) (ktrTop dp un gd cn cs L a ccd [] []) (call (.ref 135) [.str x tx, .str q tq, av]) Q E s :=
  told_ok B F X N hS hG C T XB TB hk hdp hun G.ok.len hx G.ok.ch G.ok.colon (fun st e => by rw [G.raises] at e; cases e) (fun h => let ⟨e1, e2, e3⟩ := hav h; ⟨e1, e2, e3, fun st e => by rw [G.raises] at e; cases e⟩) (fun st _ _ _ _ _ _ _ e => by rw [G.raises] at e; cases e) (fun _ => hret)
theorem tabS_nil (news : List (Addr × Obj)) : TabS #[] news := ⟨True.intro, fun _ _ _ e => by cases e⟩
theorem news_41 {h₀ h : Heap} {L : Addr} {p0 p1 p2 p3 p4 : Addr × Obj} (N : News h₀ L h [p0, p1, p2, p3, p4]) : News h₀ L h [p4, p1] := fun p hp => N p (by
  rcases List.mem_cons.mp hp with rfl | hp
  · exact .tail _ (.tail _ (.tail _ (.tail _ (.head _))))
  · obtain rfl := List.mem_singleton.mp hp
    exact .tail _ (.head _))
theorem law_ne_same {prog : Program} {w : World} {A : Around} {E : Value → Shared → Prop} {s : Shared} {a b : Value} {d : PyData} {as bs : List Addr} {Q : Value → Shared → Prop} (ra : Reads s.heap a d as) (rb : Reads s.heap b d bs) (hs : SeqAt.shaped d = true) (hu : A.units + 64 < cLine) (h : Q (.bool false) s) :
    wpAny (model prog w) A (compareOp .NotEq a b) Q E s := ne_dataH ra rb hs hs hu (by rw [SeqAt.eqv_refl d (SeqAt.canLay_of_shaped hs)]; exact h)
theorem law_eq_same {prog : Program} {w : World} {A : Around} {E : Value → Shared → Prop} {s : Shared} {a b : Value} {d : PyData} {as bs : List Addr} {Q : Value → Shared → Prop} (ra : Reads s.heap a d as) (rb : Reads s.heap b d bs) (hs : SeqAt.shaped d = true) (hu : A.units + 64 < cLine) (h : Q (.bool true) s) :
    wpAny (model prog w) A (compareOp .Eq a b) Q E s := eq_dataH ra rb hs hs hu (by rw [SeqAt.eqv_refl d (SeqAt.canLay_of_shaped hs)]; exact h)
theorem shaped_args {due : Str} (h : PyData.strOk due = true) : SeqAt.shaped (.tuple [.str due, .list [.int 7, .str (Str.ofString "x"), .none]]) = true := by
  have hx : PyData.strOk (Str.ofString "x") = true := by decide +kernel
  simp [SeqAt.shaped, PyData.canLay0, PyData.canLayAll0, PyData.depth, PyData.depthAll, h, hx]
theorem reads_args {s : Heap} {h₀ : Heap} {L D l : Addr} {news : List (Addr × Obj)} {due : Str} {t t1 t2 : Tok} {n : Nat} (N : News h₀ L s news) (hD : (D, tupO [.str due t, .ref l]) ∈ news) (hl : (l, listOf #[.int 7 t1, .str (Str.ofString "x") t2, .none] n) ∈ news) :
    ∃ as, Reads s (.ref D) (.tuple [.str due, .list [.int 7, .str (Str.ofString "x"), .none]]) as :=
  ⟨_, reads_tuple_at (News.get N hD) rfl rfl (.cons (.str _ _) (.cons (reads_list_at (News.get N hl) rfl rfl (.cons (.int _ _) (.cons (.str _ _) (.cons .none .nil)))) .nil))⟩
theorem law_neArgs {prog : Program} {w : World} {A : Around} {E : Value → Shared → Prop} {s : Shared} {h₀ : Heap} {L D T l : Addr} {news : List (Addr × Obj)} {due : Str} {t t' t1 t2 : Tok} {n : Nat} {Q : Value → Shared → Prop} (N : News h₀ L s.heap news) (hD : (D, tupO [.str due t, .ref l]) ∈ news) (hT : (T, tupO [.str due t', .ref l]) ∈ news) (hl : (l, listOf #[.int 7 t1, .str (Str.ofString "x") t2, .none] n) ∈ news)
    (hd : PyData.strOk due = true) (hu : A.units + 64 < cLine) (h : Q (.bool false) s) : wpAny (model prog w) A (compareOp .NotEq (.ref D) (.ref T)) Q E s :=
  let ⟨_, ra⟩ := reads_args N hD hl
  let ⟨_, rb⟩ := reads_args N hT hl
  law_ne_same ra rb (shaped_args hd) hu h
theorem law_eqArgs {prog : Program} {w : World} {A : Around} {E : Value → Shared → Prop} {s : Shared} {h₀ : Heap} {L D T l : Addr} {news : List (Addr × Obj)} {due : Str} {t t' t1 t2 : Tok} {n : Nat} {Q : Value → Shared → Prop} (N : News h₀ L s.heap news) (hD : (D, tupO [.str due t, .ref l]) ∈ news) (hT : (T, tupO [.str due t', .ref l]) ∈ news) (hl : (l, listOf #[.int 7 t1, .str (Str.ofString "x") t2, .none] n) ∈ news)
    (hd : PyData.strOk due = true) (hu : A.units + 64 < cLine) (h : Q (.bool true) s) : wpAny (model prog w) A (compareOp .Eq (.ref D) (.ref T)) Q E s :=
  let ⟨_, ra⟩ := reads_args N hD hl
  let ⟨_, rb⟩ := reads_args N hT hl
  law_eq_same ra rb (shaped_args hd) hu h
theorem news_52 {h₀ h : Heap} {L : Addr} {p0 p1 p2 p3 p4 : Addr × Obj} (N : News h₀ L h [p0, p1, p2, p3, p4]) : News h₀ L h [p2, p3, p4] := fun p hp => N p (.tail _ (.tail _ hp))
end
section
set_option maxHeartbeats 3000000
local macro_rules | `(tactic| k_all) => `(tactic| assumption)
local macro_rules | `(tactic| k_room) => `(tactic| ktr_room)
local macro_rules | `(tactic| k_units) => `(tactic| ktr_units)
local macro_rules | `(tactic| walk_at "call ref") => `(tactic| (k_here; (with_reducible show wpAny _ _ (call (Value.ref 135) _) _ _ _); refine enumStop ?_))
local macro_rules | `(tactic| walk_at "compareOp NotEq ref ref") => `(tactic| (k_here; (with_reducible show wpAny _ _ (compareOp _ (Value.ref _) (Value.ref _)) _ _ _); k_dflt (refine' law_neArgs ?cN ?c1 ?c2 ?c3 ?c4 ?c5 ?_; (case cN => k_asm); (case c1 => k_mem); (case c2 => k_mem); (case c3 => k_mem); (case c4 => assumption); (case c5 => ke_room); k_whole)))
local macro_rules | `(tactic| walk_at "compareOp Eq ref ref") => `(tactic| (k_here; (with_reducible show wpAny _ _ (compareOp _ (Value.ref _) (Value.ref _)) _ _ _); k_dflt (refine' law_eqArgs ?cN ?c1 ?c2 ?c3 ?c4 ?c5 ?_; (case cN => k_asm); (case c1 => k_mem); (case c2 => k_mem); (case c3 => k_mem); (case c4 => assumption); (case c5 => ke_room); k_whole)))
theorem lawEnd_qmark {w : World} {loose : List Str} {mean : ExcName → Option Value} {mg mb : Str → Option Value} {A₀ : Around} {h₀ : Heap} {L fa : Addr} {cd : Value} {um : Str → Option Value} {s : Shared} {Q : Flow → Shared → Prop} {E : Value → Shared → Prop}
  {S lS : Addr} {b : LB} {i : Nat} {ts tq td tm : Tok} {seenV : List Value} {nS : Nat}
  (B : Below A₀ h₀ [] h₀) (F : Fr h₀ L s.heap (kstB um (lawVals (Str.ofString "qmark") b S lS ts tq td tm))) (X : (hd.heap_39 w.params).In h₀) (N : News h₀ L s.heap [(lS, listOf seenV.toArray nS), (108, tabObj #[])]) (hlo : @LT.lt Nat _ 108 lS) (C : CodeHd h₀ 112 108)
  (T : Top topProg loose mean mg mb h₀) (hseen : StrsAre seenV b.seen) (hb : LawI (Str.ofString "qmark") i b) (hi : i ≤ 10) (hg : AllBare s.gens)
  (hret : ∀ s' m' ps' news', AllBare s'.gens → s'.os = s.os → Fr h₀ L s'.heap m' → News h₀ L s'.heap news' → (108, tabObj ps') ∈ news' → Q (.ret (.bool true)) s') :
  wpAny (model PySem.Challenge.rw_ew0022_01.row.prog w) (callerA.deeper (envOf (Str.ofString "law") lawScope L fa cd)) (execs lawS4 (envOf (Str.ofString "law") lawScope L fa cd)) Q E s := by
  have ql := hb.ql
  have dl := hb.dl
  have G1 := law_first hb hi
  have G2 := law_pct (.inl rfl) hb hi (.inl rfl)
  have K1 := G1.dok
  have K2 := G2.dok
  obtain ⟨query, due, seen, many⟩ := b
  w_top off; k_with_none; revert X; k_fill; intro X
  (conv in lawS4 => whnf)
  (conv in (occs := *) lawScope => all_goals whnf)
  (try dsimp only [kstB, lawVals] at F)
  (try dsimp only at hseen ql dl G1 G2 K1 K2)
  (try k_fold)
  w_strict (k_steps)
  delta EnumStop
  rename Fr h₀ L _ _ => F9
  rename News h₀ L _ _ => N9
  k_dflt (refine' told_gives B F9 X (news_41 N9) (tabS_nil _) ?gG C T X T ?gk ?gd ?gu (.inl rfl) ?g1 ?g2 G1 ?_)
  case gG => (intro p hp; obtain rfl := List.mem_singleton.mp hp; dsimp only; omega)
  case gk => exact rfl
  case gd => (show _ + 60 < recursionLimit; decide)
  case gu => ktr_units
  case g1 => decide +kernel
  case g2 => decide +kernel
  intro D9 t9 s9 ps9 c9 co9 hS9 hc9 hg9 hd9 ho9 F10 N10
  clear F9 N9
  w_strict (k_steps)
  delta EnumStop
  rename Fr h₀ L _ _ => F11
  rename News h₀ L _ _ => N11
  k_dflt (refine' told_gives B F11 X (news_52 N11) hS9 ?gG C T X T ?gk ?gd ?gu (.inl rfl) ?g1 ?g2 G2 ?_)
  case gG => (intro p hp; rcases List.mem_cons.mp hp with rfl | hp; · exact hc9
              obtain rfl := List.mem_singleton.mp hp; dsimp only; omega)
  case gk => exact rfl
  case gd => (show _ + 60 < recursionLimit; decide)
  case gu => ktr_units
  case g1 => decide +kernel
  case g2 => decide +kernel
  intro D12 t12 s12 ps12 c12 co12 hS12 hc12 hg12 hd12 ho12 F12 N12
  clear F11 N11
  w_strict (k_steps)
  rename Fr h₀ L _ _ => F13
  rename News h₀ L _ _ => N13
  exact hret _ _ ps12 _ (hg12 (hg9 hg)) (ho12.trans ho9) F13 N13 (by k_mem)
end
section
set_option maxHeartbeats 3000000
local macro_rules | `(tactic| k_all) => `(tactic| assumption)
local macro_rules | `(tactic| k_room) => `(tactic| ktr_room)
local macro_rules | `(tactic| k_units) => `(tactic| ktr_units)
local macro_rules | `(tactic| walk_at "call ref") => `(tactic| (k_here; (with_reducible show wpAny _ _ (call (Value.ref 135) _) _ _ _); refine enumStop ?_))
local macro_rules | `(tactic| walk_at "compareOp NotEq ref ref") => `(tactic| (k_here; (with_reducible show wpAny _ _ (compareOp _ (Value.ref _) (Value.ref _)) _ _ _); k_dflt (refine' law_neArgs ?cN ?c1 ?c2 ?c3 ?c4 ?c5 ?_; (case cN => k_asm); (case c1 => k_mem); (case c2 => k_mem); (case c3 => k_mem); (case c4 => assumption); (case c5 => ke_room); k_whole)))
local macro_rules | `(tactic| walk_at "compareOp Eq ref ref") => `(tactic| (k_here; (with_reducible show wpAny _ _ (compareOp _ (Value.ref _) (Value.ref _)) _ _ _); k_dflt (refine' law_eqArgs ?cN ?c1 ?c2 ?c3 ?c4 ?c5 ?_; (case cN => k_asm); (case c1 => k_mem); (case c2 => k_mem); (case c3 => k_mem); (case c4 => assumption); (case c5 => ke_room); k_whole)))
local macro_rules | `(tactic| walk_at "zz dummy") => `(tactic| fail)
theorem lawEnd_numeric {w : World} {loose : List Str} {mean : ExcName → Option Value} {mg mb : Str → Option Value} {A₀ : Around} {h₀ : Heap} {L fa : Addr} {cd : Value} {um : Str → Option Value} {s : Shared} {Q : Flow → Shared → Prop} {E : Value → Shared → Prop}
  {S lS : Addr} {b : LB} {i : Nat} {ts tq td tm : Tok} {seenV : List Value} {nS : Nat}
  (B : Below A₀ h₀ [] h₀) (F : Fr h₀ L s.heap (kstB um (lawVals (Str.ofString "numeric") b S lS ts tq td tm))) (X : (hd.heap_39 w.params).In h₀) (N : News h₀ L s.heap [(lS, listOf seenV.toArray nS), (108, tabObj #[])]) (hlo : @LT.lt Nat _ 108 lS) (C : CodeHd h₀ 112 108)
  (T : Top topProg loose mean mg mb h₀) (hseen : StrsAre seenV b.seen) (hb : LawI (Str.ofString "numeric") i b) (hi : i ≤ 10) (hg : AllBare s.gens)
  (hret : ∀ s' m' ps' news', AllBare s'.gens → s'.os = s.os → Fr h₀ L s'.heap m' → News h₀ L s'.heap news' → (108, tabObj ps') ∈ news' → Q (.ret (.bool true)) s') :
  wpAny (model PySem.Challenge.rw_ew0022_01.row.prog w) (callerA.deeper (envOf (Str.ofString "law") lawScope L fa cd)) (execs lawS4 (envOf (Str.ofString "law") lawScope L fa cd)) Q E s := by
  have ql := hb.ql
  have dl := hb.dl
  have G1 := law_first hb hi
  have G2 := law_pct (.inr (.inl rfl)) hb hi (.inr (.inl rfl))
  have K1 := G1.dok
  have K2 := G2.dok
  obtain ⟨query, due, seen, many⟩ := b
  w_top off; k_with_none; revert X; k_fill; intro X
  (conv in lawS4 => whnf)
  (conv in (occs := *) lawScope => all_goals whnf)
  (try dsimp only [kstB, lawVals] at F)
  (try dsimp only at hseen ql dl G1 G2 K1 K2)
  (try k_fold)
  w_strict (k_steps)
  delta EnumStop
  rename Fr h₀ L _ _ => F9
  rename News h₀ L _ _ => N9
  k_dflt (refine' told_gives B F9 X (news_41 N9) (tabS_nil _) ?gG C T X T ?gk ?gd ?gu (.inr (.inl rfl)) ?g1 ?g2 G1 ?_)
  case gG => (intro p hp; obtain rfl := List.mem_singleton.mp hp; dsimp only; omega)
  case gk => exact rfl
  case gd => (show _ + 60 < recursionLimit; decide)
  case gu => ktr_units
  case g1 => decide +kernel
  case g2 => decide +kernel
  intro D9 t9 s9 ps9 c9 co9 hS9 hc9 hg9 hd9 ho9 F10 N10
  clear F9 N9
  w_strict (k_steps)
  delta EnumStop
  rename Fr h₀ L _ _ => F11
  rename News h₀ L _ _ => N11
  k_dflt (refine' told_gives B F11 X (news_52 N11) hS9 ?gG C T X T ?gk ?gd ?gu (.inr (.inl rfl)) ?g1 ?g2 G2 ?_)
  case gG => (intro p hp; rcases List.mem_cons.mp hp with rfl | hp; · exact hc9
              obtain rfl := List.mem_singleton.mp hp; dsimp only; omega)
  case gk => exact rfl
  case gd => (show _ + 60 < recursionLimit; decide)
  case gu => ktr_units
  case g1 => decide +kernel
  case g2 => decide +kernel
  intro D12 t12 s12 ps12 c12 co12 hS12 hc12 hg12 hd12 ho12 F12 N12
  clear F11 N11
  w_strict (k_steps)
  rename Fr h₀ L _ _ => F13
  rename News h₀ L _ _ => N13
  exact hret _ _ ps12 _ (hg12 (hg9 hg)) (ho12.trans ho9) F13 N13 (by k_mem)
end
section
set_option maxHeartbeats 3000000
local macro_rules | `(tactic| k_all) => `(tactic| assumption)
local macro_rules | `(tactic| k_room) => `(tactic| ktr_room)
local macro_rules | `(tactic| k_units) => `(tactic| ktr_units)
local macro_rules | `(tactic| walk_at "call ref") => `(tactic| (k_here; (with_reducible show wpAny _ _ (call (Value.ref 135) _) _ _ _); refine enumStop ?_))
local macro_rules | `(tactic| walk_at "compareOp NotEq ref ref") => `(tactic| (k_here; (with_reducible show wpAny _ _ (compareOp _ (Value.ref _) (Value.ref _)) _ _ _); k_dflt (refine' law_neArgs ?cN ?c1 ?c2 ?c3 ?c4 ?c5 ?_; (case cN => k_asm); (case c1 => k_mem); (case c2 => k_mem); (case c3 => k_mem); (case c4 => assumption); (case c5 => ke_room); k_whole)))
local macro_rules | `(tactic| walk_at "compareOp Eq ref ref") => `(tactic| (k_here; (with_reducible show wpAny _ _ (compareOp _ (Value.ref _) (Value.ref _)) _ _ _); k_dflt (refine' law_eqArgs ?cN ?c1 ?c2 ?c3 ?c4 ?c5 ?_; (case cN => k_asm); (case c1 => k_mem); (case c2 => k_mem); (case c3 => k_mem); (case c4 => assumption); (case c5 => ke_room); k_whole)))
theorem lawEnd_format {w : World} {loose : List Str} {mean : ExcName → Option Value} {mg mb : Str → Option Value} {A₀ : Around} {h₀ : Heap} {L fa : Addr} {cd : Value} {um : Str → Option Value} {s : Shared} {Q : Flow → Shared → Prop} {E : Value → Shared → Prop}
  {S lS : Addr} {b : LB} {i : Nat} {ts tq td tm : Tok} {seenV : List Value} {nS : Nat}
  (B : Below A₀ h₀ [] h₀) (F : Fr h₀ L s.heap (kstB um (lawVals (Str.ofString "format") b S lS ts tq td tm))) (X : (hd.heap_39 w.params).In h₀) (N : News h₀ L s.heap [(lS, listOf seenV.toArray nS), (108, tabObj #[])]) (hlo : @LT.lt Nat _ 108 lS) (C : CodeHd h₀ 112 108)
  (T : Top topProg loose mean mg mb h₀) (hseen : StrsAre seenV b.seen) (hb : LawI (Str.ofString "format") i b) (hi : i ≤ 10) (hg : AllBare s.gens)
  (hret : ∀ s' m' ps' news', AllBare s'.gens → s'.os = s.os → Fr h₀ L s'.heap m' → News h₀ L s'.heap news' → (108, tabObj ps') ∈ news' → Q (.ret (.bool true)) s') :
  wpAny (model PySem.Challenge.rw_ew0022_01.row.prog w) (callerA.deeper (envOf (Str.ofString "law") lawScope L fa cd)) (execs lawS4 (envOf (Str.ofString "law") lawScope L fa cd)) Q E s := by
  have ql := hb.ql
  have dl := hb.dl
  have G1 := law_first hb hi
  have G2 := law_pctNone (.inr (.inr (.inl rfl))) hb hi (.inl rfl)
  have G3 := law_frontF hb hi
  have K1 := G1.dok
  obtain ⟨query, due, seen, many⟩ := b
  w_top off; k_with_none; revert X; k_fill; intro X
  (conv in lawS4 => whnf)
  (conv in (occs := *) lawScope => all_goals whnf)
  (try dsimp only [kstB, lawVals] at F)
  (try dsimp only at hseen ql dl G1 G2 K1 G3)
  (try k_fold)
  w_strict (k_steps)
  delta EnumStop
  rename Fr h₀ L _ _ => F9
  rename News h₀ L _ _ => N9
  k_dflt (refine' told_gives B F9 X (news_41 N9) (tabS_nil _) ?gG C T X T ?gk ?gd ?gu (.inr (.inr (.inl rfl))) ?g1 ?g2 G1 ?_)
  case gG => (intro p hp; obtain rfl := List.mem_singleton.mp hp; dsimp only; omega)
  case gk => exact rfl
  case gd => (show _ + 60 < recursionLimit; decide)
  case gu => ktr_units
  case g1 => decide +kernel
  case g2 => decide +kernel
  intro D9 t9 s9 ps9 c9 co9 hS9 hc9 hg9 hd9 ho9 F10 N10
  clear F9 N9
  w_strict (k_steps)
  delta EnumStop
  rename Fr h₀ L _ _ => F11
  rename News h₀ L _ _ => N11
  k_dflt (refine' told_raises (d := 0) (od := default) (val := fun _ => .none) (names := []) B F11 X (news_52 N11) hS9 ?gG C T X T ?gk ?gd ?gu (.inr (.inr (.inl rfl))) G2 ?g1 ?_)
  case gG => (intro p hp; rcases List.mem_cons.mp hp with rfl | hp; · exact hc9
              obtain rfl := List.mem_singleton.mp hp; dsimp only; omega)
  case gk => exact rfl
  case gd => (show _ + 60 < recursionLimit; decide)
  case gu => ktr_units
  case g1 => (intro h; rcases h with h | h; · exact absurd h (by decide +kernel)
              exact absurd h (by decide +kernel))
  intro s12 ps12 c12 co12 hS12 hc12 hg12 hd12 ho12 F12 N12
  clear F11 N11
  w_strict (k_steps)
  delta EnumStop
  rename Fr h₀ L _ _ => F11
  rename News h₀ L _ _ => N11
  k_dflt (refine' told_raises (d := 0) (od := default) (val := fun _ => .none) (names := []) B F11 X N11 hS12 ?gG C T X T ?gk ?gd ?gu (.inr (.inr (.inl rfl))) G3 ?g1 ?_)
  case gG => (intro p hp; rcases List.mem_cons.mp hp with rfl | hp; · exact hc12
              rcases List.mem_cons.mp hp with rfl | hp; · exact hc9
              obtain rfl := List.mem_singleton.mp hp; dsimp only; omega)
  case gk => exact rfl
  case gd => (show _ + 60 < recursionLimit; decide)
  case gu => ktr_units
  case g1 => (intro h; rcases h with h | h; · exact absurd h (by decide +kernel)
              exact absurd h (by decide +kernel))
  intro s14 ps14 c14 co14 hS14 hc14 hg14 hd14 ho14 F12 N12
  clear F11 N11
  w_strict (k_steps)
  rename Fr h₀ L _ _ => F13
  rename News h₀ L _ _ => N13
  exact hret _ _ ps14 _ (hg14 (hg12 (hg9 hg))) (ho14.trans (ho12.trans ho9)) F13 N13 (by k_mem)
end
section
set_option maxHeartbeats 3000000
theorem keys_miss : typeLookup (.type "list") (Str.ofString "keys") = pure none := am_miss_of_fast (by decide +kernel)
theorem keys_none {prog : Program} {w : World} {A : Around} {E : Value → Shared → Prop} {s : Shared} {a : Addr} {xs : Array Value} {k : Nat} {Q : Option Value → Shared → Prop}
    (hx : s.heap.get? a = some (listOf xs k)) (hA : A.handled = none)
    (h : ∀ h' tk, (∀ b o, s.heap.get? b = some o → h'.get? b = some o) → Q none { s with heap := h', toks := tk }) :
    wpAny (model prog w) A (getAttr? (.ref a) (Str.ofString "keys")) Q E s := by
  obtain ⟨hp, g, d, tk, os⟩ := s
  have hT : ∀ tk', (⟨hp, g, d, tk', os⟩ : Shared).TypeIs (.ref a) "list" := fun _ => ⟨_, hx, rfl⟩
  have f1 := sub_AttributeError
  have f3 := F.slot_list_getattribute.lookup
  have f4 := F.slot_list_getattribute.bind (.ref a)
  have f5 := am_list_getattr_none
  unfold getAttr? getAttrBy? getAttrBy
  repeat (any_goals (first | assumption | exact hT _ | ((with_reducible show wpAny _ _ (call (Value.builtin "list.__getattribute__") _ _) _ _ _); refine call_meets F.slot_list_getattribute (hT _) am_entry_list_getattribute (F.args_list_getattribute_2 _ _) (meets_getattribute_miss_list a xs k #[] (Str.ofString "keys") _ keys_miss (by decide +kernel) (by rw [sizeLine_eq]; decide +kernel)) ⟨hx, hA, fun h' tk' e hx' => ?_⟩) | wp_step))
  obtain ⟨t', u', he⟩ := hx'.there
  show wpAny _ _ (getattributeRaised _ _ _ _ _ _ _) _ _ _
  unfold getattributeRaised
  repeat (any_goals (first | assumption | wp_step))
  exact h _ _ hx'.keeps
theorem entry_loop : entryFor table "dict.update.loop" = some Builtin.«dict.update.loop» := entryFor_of_tree (by kernel_rfl)
structure DictAt (prog : Program) (w : World) (hb : Heap) (d : Addr) (kvs : List (Str × Value)) (h : Heap) : Prop where
  keep : ∀ b o, hb.get? b = some o → h.get? b = some o
  dict : h.DictOf (strKind prog w) d kvs
theorem DictAt.but {prog : Program} {w : World} {hb h h' : Heap} {d I : Addr} {kvs : List (Str × Value)} (S : DictAt prog w hb d kvs h) (hk : ∀ b o, b ∉ [I] → h.get? b = some o → h'.get? b = some o) (hI : hb.get? I = none) (hId : d ≠ I) : DictAt prog w hb d kvs h' :=
  ⟨fun b o e => hk b o (fun hm => by rw [List.mem_singleton.mp hm, hI] at e; cases e) (S.keep b o e), by
    obtain ⟨o, es, ep, ho, r⟩ := S.dict
    exact ⟨o, es, ep, hk d o (fun hm => hId (List.mem_singleton.mp hm)) ho, r⟩⟩
theorem dict_loop {prog : Program} {w : World} {A : Around} {s : Shared} {R : Result → Shared → Prop} {hb : Heap} {d I l : Addr} {its : Array Value} {pairs : List (Str × Value)} (hA : A.handled = none)
    (hIl : l ≠ I) (hId : d ≠ I) (hld : d ≠ l) (hI : hb.get? I = none) (hd : hb.get? d = none) (hsz : its.size ≤ 1000) (hn : its.size = pairs.length)
    (hp : ∀ (i : Nat) (k : Str) (v : Value), pairs[i]? = some (k, v) → ∃ T t, its[i]? = some (.ref T) ∧ hb.get? T = some (tupO [.str k t, v]))
    (hR : ∀ h' tk, DictAt prog w hb d (merged [] pairs) h' → R (.ok (.ret .none)) { s with heap := h', toks := tk }) :
    ∀ (k i : Nat) (h : Heap) (tk : Nat), i + k = its.size → (merged [] (pairs.take i)).length ≤ i → DictAt prog w hb d (merged [] (pairs.take i)) h → (h.IsListIter I l i ∧ h.IsList l its) →
      codeAny (model prog w) A (.builtin "dict.update.loop" ⟨[.ref d, .ref I, rawInt i, .none], []⟩) R { s with heap := h, toks := tk } := by
  intro k
  induction k with
  | zero =>
    intro i h tk hik hkl S hit
    obtain rfl : i = its.size := by omega
    refine codeAny_builtin entry_loop ?_
    unfold Builtin.«dict.update.loop»
    dsimp only [rawInt]
    refine wpAny_bind ((Walks.list (A := A.under _) hA I l hIl its).done _ _ _ hit fun h' tk' hk => ?_)
    show wpAny _ _ (Builtin.Dict.addKeywords d [] >>= _) _ _ _
    refine wpAny_bind (wpAny_pure (wpAny_pure ?_))
    refine hR h' tk' ?_
    have e : pairs.take its.size = pairs := by rw [hn]; exact List.take_length
    rw [e] at S
    exact S.but hk hI hId
  | succ k ih =>
    intro i h tk hik hkl S hit
    have hlt : i < its.size := by omega
    have hlt' : i < pairs.length := by omega
    refine codeAny_builtin entry_loop ?_
    unfold Builtin.«dict.update.loop»
    dsimp only [rawInt]
    refine wpAny_bind ((Walks.list (A := A.under _) hA I l hIl its).item i _ _ _ hlt hit fun v h' tk' hP hst hk => ?_)
    obtain ⟨T, t, eT, hT⟩ := hp i pairs[i].1 pairs[i].2 (by rw [List.getElem?_eq_getElem hlt'])
    obtain rfl : v = .ref T := Option.some.inj (hP.symm.trans eT)
    have S' := S.but hk hI hId
    have hT' := S'.keep _ _ hT
    dsimp only
    refine wpAny_bind (wpAny_holding ?_)
    refine wpAny_bind (wpAny_tryCatch ?_)
    unfold Builtin.Dict.pairItems
    refine wpAny_bind (wpAny_typeOf (T := "tuple") ⟨_, hT', rfl⟩ ?_)
    rw [if_pos (by decide)]
    refine wpAny_bind (wpAny_seqItems hT' rfl (wpAny_pure ?_))
    show wpAny _ _ (holding [.str pairs[i].1 t, pairs[i].2] (dictSet d (.str pairs[i].1 t) pairs[i].2)) _ _ _
    refine wpAny_holding (wpAny_dictSet_pairs (hsz := by rw [sizeLine_eq]; omega) (strKind_is prog w _ _) S'.dict fun h2 hd2 hs2 => ?_)
    refine wpAny_pure ⟨Code.quiet_builtin _ (by decide +kernel), ?_⟩
    have em := merged_take_succ ([] : List (Str × Value)) pairs i pairs[i] (List.getElem?_eq_getElem hlt')
    have e2 : (i : Int) + 1 = ((i + 1 : Nat) : Int) := by push_cast; rfl
    rw [e2]
    refine ih (i + 1) h2 _ (by omega) ?_ ⟨fun b o e => hs2.extBut b o (fun q => by rw [q, hd] at e; cases e) (S'.keep b o e), by rw [em]; exact hd2⟩ ⟨?_, ?_⟩
    · rw [em]
      have := stored_length_le (merged [] (pairs.take i)) pairs[i].1 pairs[i].2
      omega
    · exact hst.1.at fun o e => hs2.extBut I o (Ne.symm hId) e
    · exact hst.2.at fun o e => hs2.extBut l o (Ne.symm hld) e
end
section
set_option maxHeartbeats 3000000
theorem law_dict {prog : Program} {w : World} {A : Around} {E : Value → Shared → Prop} {s : Shared} {l : Addr} {n : Nat} {ys : List Value} {pairs : List (Str × Value)} {Q : Value → Shared → Prop} (hA : A.handled = none) (hl : s.heap.get? l = some (listOf ys.toArray n))
    (hsz : ys.length ≤ 1000) (hn : ys.length = pairs.length) (hnd : (pairs.map (·.1)).Nodup)
    (hp : ∀ (i : Nat) (k : Str) (v : Value), pairs[i]? = some (k, v) → ∃ T t, ys[i]? = some (.ref T) ∧ s.heap.get? T = some (tupO [.str k t, v]))
    (h : ∀ h' tk, (∀ b o, s.heap.get? b = some o → h'.get? b = some o) → h'.DictOf (strKind prog w) s.heap.objs.size pairs → Q (.ref s.heap.objs.size) { s with heap := h', toks := tk }) :
    wpAny (model prog w) A (call (.type "dict") [.ref l]) Q E s := by
  refine callType_codes (Q₁ := fun obj s₁ => obj = .ref s.heap.objs.size ∧ s₁ = { s with heap := s.heap.push { cls := .type "dict", data := .dict #[] } }) F.kt_called_dict (F.kt_typeCall_dict_1 _) F.entry_dict_init (kt_code_dict_new _ ⟨rfl, rfl⟩) ?_
  rintro obj s₁ ⟨rfl, rfl⟩
  have hnew : (s.heap.push { cls := .type "dict", data := .dict #[] }).DictOf (strKind prog w) s.heap.objs.size [] := Heap.DictOf.new s.heap
  have hlp : (s.heap.push { cls := .type "dict", data := .dict #[] }).get? l = some (listOf ys.toArray n) := Heap.get?_push_of_some _ hl
  have hlist : (s.heap.push { cls := .type "dict", data := .dict #[] }).IsList l ys.toArray := ⟨_, hlp, rfl, n, rfl⟩
  refine ⟨hnew.typeIs, F.args_dict_init_2 _ _, ?_⟩
  unfold Builtin.«dict.__init__»
  refine wpAny_bind ?_
  unfold Builtin.Dict.selfAndRest
  refine wpAny_bind (wpAny_notOrdered_dict hnew.typeIs ?_)
  show wpAny _ _ (pure (s.heap.objs.size, [Value.ref l])) _ _ _
  refine wpAny_pure ?_
  show wpAny _ _ (Builtin.Dict.updateFrom "dict.__init__" s.heap.objs.size (.ref l) [] .none) _ _ _
  unfold Builtin.Dict.updateFrom
  refine wpAny_bind (wpAny_typeOf hlist.typeIs ?_)
  rw [if_pos (by decide)]
  refine wpAny_bind (keys_none hlp hA fun h1 tk1 k1 => ?_)
  rw [if_pos (show (none : Option Value).isNone = true from rfl)]
  refine wpAny_bind (wpAny_rule ?_)
  have hd1 : h1.DictOf (strKind prog w) s.heap.objs.size [] := by
    obtain ⟨o, es, ep, ho, r⟩ := hnew
    exact ⟨o, es, ep, k1 _ _ ho, r⟩
  have hl1 : h1.get? l = some (listOf ys.toArray n) := k1 _ _ hlp
  have hdI : @LT.lt Nat _ s.heap.objs.size h1.objs.size := by
    obtain ⟨o, es, ep, ho, r⟩ := hd1
    exact Heap.lt_size ho
  have hlI : @LT.lt Nat _ l h1.objs.size := Heap.lt_size hl1
  have hld : @LT.lt Nat _ l s.heap.objs.size := Heap.lt_size hl
  have k2 : ∀ b o, s.heap.get? b = some o → h1.get? b = some o := fun b o e => k1 b o (Heap.get?_push_of_some _ e)
  refine wpAny_bind (wpAny_pyIter_list (items := ys.toArray) ⟨_, hl1, rfl, n, rfl⟩ ?_)
  refine wpAny_pure ⟨Code.quiet_builtin _ (by decide +kernel), ?_⟩
  have hit : (h1.push { cls := .type "list_iterator", data := .fields #[.ref l, .int 0 0] }).IsListIter h1.objs.size l 0 := ⟨_, Heap.get?_push_size _ rfl, rfl, rfl⟩
  have hz : ys.toArray.size = ys.length := List.size_toArray ..
  refine dict_loop (A := A.in1) (hb := s.heap) (s := s) (d := s.heap.objs.size) (I := h1.objs.size) (l := l) (its := ys.toArray) (pairs := pairs) hA (Nat.ne_of_lt hlI) (Nat.ne_of_lt hdI) (Nat.ne_of_gt hld) (Heap.get?_none_of_le (Nat.le_of_lt hdI)) (Heap.get?_none_of_le (Nat.le_refl _)) (by rw [hz]; exact hsz) (by rw [hz]; exact hn) (fun i k v e => ?_) (fun h' tk S => ?_) ys.toArray.size 0 _ _ (Nat.zero_add _) (Nat.le_refl _) ⟨fun b o e => Heap.get?_push_of_some _ (k2 b o e), ?_⟩ ⟨hit, ⟨_, Heap.get?_push_of_some _ hl1, rfl, n, rfl⟩⟩
  · obtain ⟨T, t, e1, e2⟩ := hp i k v e
    exact ⟨T, t, by simpa using e1, e2⟩
  · refine ⟨rfl, h h' tk S.keep ?_⟩
    have S2 := S.dict
    rw [merged_nil_of_nodup pairs hnd] at S2
    exact S2
  · obtain ⟨o, es, ep, ho, r⟩ := hd1
    exact ⟨o, es, ep, Heap.get?_push_of_some _ ho, r⟩
end
section
set_option maxHeartbeats 3000000
noncomputable def lawArgsE : PySem.Expr := match lawS4 with
  | Stmt.Assign _ (PySem.Expr.IfExp _ _ e _) _ :: _ => e
  | _ => default
noncomputable def lawValsE : PySem.Expr := match lawS4.drop 1 with
  | Stmt.Assign _ (PySem.Expr.IfExp _ _ e _) _ :: _ => e
  | _ => default
noncomputable def lawPairsE : PySem.Expr := match lawArgsE with
  | PySem.Expr.Call _ (e :: _) _ _ => e
  | _ => default
noncomputable def lawListsE : PySem.Expr := match lawValsE with
  | PySem.Expr.Call _ (e :: _) _ _ => e
  | _ => default
noncomputable def eltOf : PySem.Expr → PySem.Expr
  | .ListComp e _ _ _ => e
  | _ => default
noncomputable def scopeOf : PySem.Expr → Scope
  | .ListComp _ _ s _ => s
  | _ => default
def Elt2 (h₀ : Heap) (L : Addr) (m : Str → Option Value) (all : List (Addr × Obj)) (p : Str) (s : Shared) (y : Value) (s' : Shared) : Prop :=
  ∃ l h' tk t t2, y = .ref l ∧ s' = { s with heap := h', toks := tk } ∧ Fr h₀ L h' m ∧ News h₀ L h' ((l, listOf #[.str p t, .int 1 t2] 0) :: all) ∧ (∀ q ∈ all, @LT.lt Nat _ q.1 l)
def Elt1 (h₀ : Heap) (L : Addr) (m : Str → Option Value) (all : List (Addr × Obj)) (p : Str) (s : Shared) (y : Value) (s' : Shared) : Prop :=
  ∃ T l h' tk t t1 t2, y = .ref T ∧ s' = { s with heap := h', toks := tk } ∧ Fr h₀ L h' m ∧ News h₀ L h' ((T, tupO [.str p t1, .ref l]) :: (l, listOf #[.str p t, .int 1 t2] 0) :: all) ∧ (∀ q ∈ all, @LT.lt Nat _ q.1 l ∧ @LT.lt Nat _ q.1 T)
local macro_rules | `(tactic| k_all) => `(tactic| assumption)
local macro_rules | `(tactic| k_room) => `(tactic| ktr_room)
local macro_rules | `(tactic| k_units) => `(tactic| ktr_units)
theorem lawElt2 {w : World} {loose : List Str} {mean : ExcName → Option Value} {mg mb : Str → Option Value} {A₀ : Around} {h₀ : Heap} {L fa I C D : Addr} {cd : Value} {m m₂ : Str → Option Value} {s : Shared} {E : Value → Shared → Prop}
  {oI oC oD : Obj} {rest : List (Addr × Obj)} {p : Str} {t : Tok}
  (B : Below A₀ h₀ [] h₀) (F : Fr h₀ L s.heap m) (X : (hd.heap_39 w.params).In h₀) (N : News h₀ L s.heap ((I, oI) :: (C, oC) :: (D, oD) :: rest))
  (T : Top topProg loose mean mg mb h₀) (hC : LCg.NsObj oC m₂) (hx : m₂ (Str.ofString "name") = some (.str p t)) :
  wpAny (model PySem.Challenge.rw_ew0022_01.row.prog w) (callerA.deeper (envOf (Str.ofString "law") lawScope L fa cd)) (eval (eltOf lawListsE) (compEnvC (scopeOf lawListsE) [] C (envOf (Str.ofString "law") lawScope L fa cd))) (Elt2 h₀ L m ((I, oI) :: (C, oC) :: (D, oD) :: rest) p s) E s := by
  w_top off; k_with_none; revert X; k_fill; intro X
  (conv in eltOf lawListsE => whnf)
  (conv in scopeOf lawListsE => whnf)
  (conv in (occs := *) lawScope => all_goals whnf)
  (try k_fold)
  w_strict (k_steps)
  rename News h₀ L _ _ => N9
  rename Fr h₀ L _ _ => F9
  rename _ ∧ _ ∧ _ ∧ AllLt _ rest => l1
  exact ⟨_, _, _, t, _, rfl, rfl, F9, N9, allLt_to (l := (I, oI) :: (C, oC) :: (D, oD) :: rest) l1⟩
local macro_rules | `(tactic| walk_at "zz dummy") => `(tactic| fail)
theorem lawElt1 {w : World} {loose : List Str} {mean : ExcName → Option Value} {mg mb : Str → Option Value} {A₀ : Around} {h₀ : Heap} {L fa I C D : Addr} {cd : Value} {m m₂ : Str → Option Value} {s : Shared} {E : Value → Shared → Prop}
  {oI oC oD : Obj} {rest : List (Addr × Obj)} {p : Str} {t : Tok}
  (B : Below A₀ h₀ [] h₀) (F : Fr h₀ L s.heap m) (X : (hd.heap_39 w.params).In h₀) (N : News h₀ L s.heap ((I, oI) :: (C, oC) :: (D, oD) :: rest))
  (T : Top topProg loose mean mg mb h₀) (hC : LCg.NsObj oC m₂) (hx : m₂ (Str.ofString "name") = some (.str p t)) :
  wpAny (model PySem.Challenge.rw_ew0022_01.row.prog w) (callerA.deeper (envOf (Str.ofString "law") lawScope L fa cd)) (eval (eltOf lawPairsE) (compEnvC (scopeOf lawPairsE) [] C (envOf (Str.ofString "law") lawScope L fa cd))) (Elt1 h₀ L m ((I, oI) :: (C, oC) :: (D, oD) :: rest) p s) E s := by
  revert X; k_fill; intro X
  (conv in eltOf lawPairsE => whnf)
  (conv in scopeOf lawPairsE => whnf)
  (conv in (occs := *) lawScope => all_goals whnf)
  (try k_fold)
  w_strict (k_steps)
  rename News h₀ L _ _ => N9
  rename Fr h₀ L _ _ => F9
  rename _ ∧ _ ∧ _ ∧ _ ∧ AllLt _ rest => l2
  rename _ ∧ _ ∧ _ ∧ AllLt _ rest => l1
  exact ⟨_, _, _, _, t, t, _, rfl, rfl, F9, N9, fun q hq => ⟨allLt_to (l := (I, oI) :: (C, oC) :: (D, oD) :: rest) l1 q hq, allLt_to (l := (I, oI) :: (C, oC) :: (D, oD) :: rest) l2.2 q hq⟩⟩
end
section
set_option maxHeartbeats 3000000
inductive MadeAll (Made : List (Addr × Obj) → Value → Str → Prop) (made : List (Addr × Obj)) : List Value → List Str → Prop
  | nil : MadeAll Made made [] []
  | cons {y : Value} {p : Str} {ys : List Value} {ps : List Str} : Made made y p → MadeAll Made made ys ps → MadeAll Made made (y :: ys) (p :: ps)
theorem MadeAll.mono {Made : List (Addr × Obj) → Value → Str → Prop} (hm : ∀ a b y p, (∀ q ∈ a, q ∈ b) → Made a y p → Made b y p) {a b : List (Addr × Obj)} (hs : ∀ q ∈ a, q ∈ b) {ys : List Value} {ps : List Str} (h : MadeAll Made a ys ps) : MadeAll Made b ys ps := by
  induction h with
  | nil => exact .nil
  | cons h1 _ ih => exact .cons (hm _ _ _ _ hs h1) ih
theorem MadeAll.snoc {Made : List (Addr × Obj) → Value → Str → Prop} {a : List (Addr × Obj)} {ys : List Value} {ps : List Str} {y : Value} {p : Str} (h : MadeAll Made a ys ps) (h1 : Made a y p) : MadeAll Made a (ys ++ [y]) (ps ++ [p]) := by
  induction h with
  | nil => exact .cons h1 .nil
  | cons h2 _ ih => exact .cons h2 ih
theorem MadeAll.length {Made : List (Addr × Obj) → Value → Str → Prop} {a : List (Addr × Obj)} {ys : List Value} {ps : List Str} (h : MadeAll Made a ys ps) : ys.length = ps.length := by
  induction h with
  | nil => rfl
  | cons _ _ ih => simp [ih]
theorem comp_rest {prog : Program} {w : World} {A : Around} {h₀ : Heap} {L ax : Addr} {m : Str → Option Value} {env : Env} {elt : PySem.Expr} {scope : Scope} {s : Shared} {base : List (Addr × Obj)} {its : Array Value} {k0 : Nat} {xs : List Str} {Fin : List Value → List (Addr × Obj) → Prop}
    {Made : List (Addr × Obj) → Value → Str → Prop} (hmono : ∀ a b y p, (∀ q ∈ a, q ∈ b) → Made a y p → Made b y p) (hax : (ax, listOf its k0) ∈ base) (hlo : ∃ o, (108, o) ∈ base)
    (hxs : its.toList.length = xs.length) (hget : ∀ (i : Nat) (v : Value), its[i]? = some v → ∃ p t, xs[i]? = some p ∧ v = .str p t)
    (helt : ∀ (I C D : Addr) (oI oC oD : Obj) (rest : List (Addr × Obj)) (p : Str) (t : Tok) (m₂ : Str → Option Value) (s₁ : Shared) (E : Value → Shared → Prop), Fr h₀ L s₁.heap m → News h₀ L s₁.heap ((I, oI) :: (C, oC) :: (D, oD) :: rest) → LCg.NsObj oC m₂ → m₂ (Str.ofString "name") = some (.str p t) →
      wpAny (model prog w) A (eval elt (compEnvC scope [] C env)) (fun y s' => ∃ own h' tk, s' = { s₁ with heap := h', toks := tk } ∧ Fr h₀ L h' m ∧ News h₀ L h' (own ++ (I, oI) :: (C, oC) :: (D, oD) :: rest) ∧ (∀ q ∈ own, ∀ r ∈ (I, oI) :: (C, oC) :: (D, oD) :: rest, @LT.lt Nat _ r.1 q.1) ∧ Made own y p) E s₁)
    (done : ∀ ys made, (∀ q ∈ made, @LT.lt Nat _ 108 q.1) → MadeAll Made made ys xs → Fin ys (made ++ base)) :
    ∀ (k i : Nat) (ys : List Value) (made : List (Addr × Obj)), i + k = its.size → (∀ q ∈ made, @LT.lt Nat _ 108 q.1) → MadeAll Made made ys (xs.take i) →
      LCg.CompRest prog w A h₀ L m env elt (Str.ofString "name") scope [] s (LCg.SrcAt h₀ ax its) (fun i v => its[i]? = some v) Fin k i ys (made ++ base) := by
  intro k
  induction k with
  | zero =>
    intro i ys made hik h108 hM
    have e : xs.take i = xs := by
      refine List.take_of_length_le ?_
      have hz : its.size = xs.length := by rw [← hxs]; simp
      omega
    rw [e] at hM
    exact LCg.CompRest.zero (done ys made h108 hM)
  | succ k ih =>
    intro i ys made hik h108 hM
    refine LCg.CompRest.succ ?_
    intro v I oI C oC D m₂ h tk E' hv hC hx F N off ne
    obtain ⟨p, t, hp, rfl⟩ := hget i v hv
    refine wpAny_mono (helt I C D oI oC (LCg.lst ys) (made ++ base) p t m₂ { s with heap := h, toks := tk } E' F N hC hx) ?_ fun _ _ e => e
    rintro y s' ⟨own, h', tk', rfl, F', N', hlt, hy⟩
    have hI : ∀ q ∈ own, q.1 ≠ I ∧ q.1 ≠ C ∧ q.1 ≠ D := fun q hq => ⟨Nat.ne_of_gt (hlt q hq (I, oI) (.head _)), Nat.ne_of_gt (hlt q hq (C, oC) (.tail _ (.head _))), Nat.ne_of_gt (hlt q hq (D, LCg.lst ys) (.tail _ (.tail _ (.head _))))⟩
    have off' := off.mem
    obtain ⟨o8, ho8⟩ := hlo
    refine LCg.CompEnd.intro F' N' ((own ++ made) ++ base) (fun q hq => ?_) (LCg.Off3.of fun q hq => ?_) (Or.inr ⟨_, List.mem_append_right _ hax, rfl, _, rfl⟩) ?_
    · simp only [List.mem_cons, List.mem_append] at hq ⊢
      grind
    · rcases List.mem_append.mp hq with hq | hq
      · rcases List.mem_append.mp hq with hq | hq
        · exact hI q hq
        · exact off' q (List.mem_append_left _ hq)
      · exact off' q (List.mem_append_right _ hq)
    · refine ih (i + 1) (ys ++ [y]) (own ++ made) (by omega) (fun q hq => ?_) ?_
      · rcases List.mem_append.mp hq with hq | hq
        · exact hlt q hq (108, o8) (.tail _ (.tail _ (.tail _ (List.mem_append_right _ ho8))))
        · exact h108 q hq
      · have e : xs.take (i + 1) = xs.take i ++ [p] := by
          rw [List.take_add_one, hp]; rfl
        rw [e]
        exact (hM.mono hmono fun q hq => List.mem_append_right _ hq).snoc (hmono _ _ _ _ (fun q hq => List.mem_append_left _ hq) hy)
def Made2 (made : List (Addr × Obj)) (y : Value) (p : Str) : Prop := ∃ l t t2, y = .ref l ∧ (l, listOf #[.str p t, .int 1 t2] 0) ∈ made
def Made1 (made : List (Addr × Obj)) (y : Value) (p : Str) : Prop := ∃ T l t t1 t2, y = .ref T ∧ (T, tupO [.str p t1, .ref l]) ∈ made ∧ (l, listOf #[.str p t, .int 1 t2] 0) ∈ made
theorem made2_mono (a b : List (Addr × Obj)) (y : Value) (p : Str) (hs : ∀ q ∈ a, q ∈ b) (h : Made2 a y p) : Made2 b y p := by
  obtain ⟨l, t, t2, e, h1⟩ := h
  exact ⟨l, t, t2, e, hs _ h1⟩
theorem made1_mono (a b : List (Addr × Obj)) (y : Value) (p : Str) (hs : ∀ q ∈ a, q ∈ b) (h : Made1 a y p) : Made1 b y p := by
  obtain ⟨T, l, t, t1, t2, e, h1, h2⟩ := h
  exact ⟨T, l, t, t1, t2, e, hs _ h1, hs _ h2⟩
theorem strs_get? {vs : List Value} {xs : List Str} (h : StrsAre vs xs) : ∀ (i : Nat) (v : Value), vs[i]? = some v → ∃ p t, xs[i]? = some p ∧ v = .str p t := by
  induction h with
  | nil => intro i v e; simp at e
  | cons a t r ih =>
    intro i v e
    cases i with
    | zero => exact ⟨a, t, rfl, (Option.some.inj e).symm⟩
    | succ i => exact ih i v e
end
section
set_option maxHeartbeats 3000000
def seven : List Str := [Str.ofString "xs", Str.ofString "zz", Str.ofString "a_1", Str.ofString "s", Str.ofString "b", Str.ofString "ab", Str.ofString "a"]
local macro_rules | `(tactic| k_all) => `(tactic| assumption)
local macro_rules | `(tactic| k_room) => `(tactic| ktr_room)
local macro_rules | `(tactic| k_units) => `(tactic| ktr_units)
local macro_rules | `(tactic| walk_at "CompSrc") => `(tactic| (k_here; refine enumStop ?_))
local macro_rules | `(tactic| walk_at "zz dummy") => `(tactic| fail)
theorem lawPairs {w : World} {loose : List Str} {mean : ExcName → Option Value} {mg mb : Str → Option Value} {A₀ : Around} {h₀ : Heap} {L fa : Addr} {cd : Value} {m : Str → Option Value} {s : Shared} {Q E : Value → Shared → Prop} {base : List (Addr × Obj)}
  (B : Below A₀ h₀ [] h₀) (F : Fr h₀ L s.heap m) (X : (hd.heap_39 w.params).In h₀) (N : News h₀ L s.heap base) (hlo : ∃ o, (108, o) ∈ base)
  (T : Top topProg loose mean mg mb h₀)
  (hret : ∀ D h' tk ys made, Fr h₀ L h' m → News h₀ L h' ((D, LCg.lst ys) :: (made ++ base)) → (∀ q ∈ made, @LT.lt Nat _ 108 q.1) → MadeAll Made1 made ys seven → Q (.ref D) { s with heap := h', toks := tk }) :
  wpAny (model PySem.Challenge.rw_ew0022_01.row.prog w) (callerA.deeper (envOf (Str.ofString "law") lawScope L fa cd)) (eval lawPairsE (envOf (Str.ofString "law") lawScope L fa cd)) Q E s := by
  w_top off; k_with_none; revert X; k_fill; intro X
  (conv in lawPairsE => whnf)
  k_dflt (refine' LCg.ListComp_U (F₀ := F) ?a1 ?a2 ?a3 ?a4 ?a5 ?_ ?a6)
  case a1 => exact rfl
  case a2 => decide
  case a3 => exact rfl
  case a4 => decide
  case a5 => exact rfl
  case a6 => (intro _; with_unfolding_all rfl)
  w_strict (k_steps)
  delta EnumStop
  rename Fr h₀ L _ _ => F9
  rename News h₀ L _ _ => N9
  k_dflt (refine' LCg.CompSrc.ledger rfl F9 N9 (List.Mem.head _) ?b1 ?_)
  case b1 => (rw [sizeLine_eq]; exact Nat.le_of_ble_eq_true rfl)
  intro g
  k_dflt (refine' comp_rest (xs := seven) (Made := Made1) (base := _ :: base) (k0 := 0) made1_mono (List.Mem.head _) ?c1 ?c2 ?c3 ?c4 ?c5 _ 0 [] [] ?c6 ?c7 ?c8)
  case c1 => exact (let ⟨o, h⟩ := hlo; ⟨o, .tail _ h⟩)
  case c2 => exact rfl
  case c3 => (intro i v e; rw [List.getElem?_toArray] at e; exact strs_get? (by unfold seven; repeat constructor) i v e)
  case c4 =>
    intro I C D oI oC oD rest p t m₂ s₁ E F N hC hx
    k_dflt (refine' wpAny_mono (lawElt1 B F X N T hC hx) ?_ fun _ _ e => e)
    rintro y s' ⟨T9, l9, h9, tk9, t9, u9, v9, rfl, rfl, F9, N9, hlt⟩
    exact ⟨[(T9, _), (l9, _)], h9, tk9, rfl, F9, N9, (fun q hq r hr => by
      rcases List.mem_cons.mp hq with rfl | hq
      · exact (hlt r hr).2
      · obtain rfl := List.mem_singleton.mp hq
        exact (hlt r hr).1), T9, l9, t9, u9, v9, rfl, .head _, .tail _ (.head _)⟩
  case c5 =>
    intro ys made h108 hM
    unfold LCg.FinE
    intro D h tk F N o1
    exact hret D h tk ys made F (fun q hq => N q (by
      rcases List.mem_cons.mp hq with rfl | hq
      · exact .head _
      · refine .tail _ ?_
        rcases List.mem_append.mp hq with hq | hq
        · exact List.mem_append_left _ hq
        · exact List.mem_append_right _ (.tail _ hq))) h108 hM
  case c6 => exact rfl
  case c7 => (intro q hq; cases hq)
  case c8 => exact .nil
theorem lawLists {w : World} {loose : List Str} {mean : ExcName → Option Value} {mg mb : Str → Option Value} {A₀ : Around} {h₀ : Heap} {L fa : Addr} {cd : Value} {m : Str → Option Value} {s : Shared} {Q E : Value → Shared → Prop} {base : List (Addr × Obj)} {lS : Addr} {seenV : List Value} {nS : Nat} {seen : List Str}
  (B : Below A₀ h₀ [] h₀) (F : Fr h₀ L s.heap m) (X : (hd.heap_39 w.params).In h₀) (N : News h₀ L s.heap base) (hlo : ∃ o, (108, o) ∈ base)
  (hs : (lS, listOf seenV.toArray nS) ∈ base) (hS : StrsAre seenV seen) (hz : seen.length ≤ 100) (hm : m (Str.ofString "seen") = some (.ref lS)) (T : Top topProg loose mean mg mb h₀)
  (hret : ∀ D h' tk ys made, Fr h₀ L h' m → News h₀ L h' ((D, LCg.lst ys) :: (made ++ base)) → (∀ q ∈ made, @LT.lt Nat _ 108 q.1) → MadeAll Made2 made ys seen → Q (.ref D) { s with heap := h', toks := tk }) :
  wpAny (model PySem.Challenge.rw_ew0022_01.row.prog w) (callerA.deeper (envOf (Str.ofString "law") lawScope L fa cd)) (eval lawListsE (envOf (Str.ofString "law") lawScope L fa cd)) Q E s := by
  revert X; k_fill; intro X
  (conv in lawListsE => whnf)
  k_dflt (refine' LCg.ListComp_U (F₀ := F) ?a1 ?a2 ?a3 ?a4 ?a5 ?_ ?a6)
  case a1 => exact rfl
  case a2 => decide
  case a3 => exact rfl
  case a4 => decide
  case a5 => exact rfl
  case a6 => (intro _; with_unfolding_all rfl)
  k_dflt (refine' wpAny_Name (wpAny_loadName_local ?e1 ?e2 F.ns hm ?_) ?e3)
  case e1 => exact rfl
  case e2 => exact rfl
  case e3 => decide
  k_dflt (refine' LCg.CompSrc.ledger rfl F N hs ?b1 ?_)
  case b1 => (rw [sizeLine_eq, List.size_toArray, hS.length]; omega)
  intro g
  k_dflt (refine' comp_rest (xs := seen) (Made := Made2) (base := base) (k0 := nS) made2_mono hs ?c1 ?c2 ?c3 ?c4 ?c5 _ 0 [] [] ?c6 ?c7 ?c8)
  case c1 => exact hlo
  case c2 => (rw [List.toList_toArray]; exact hS.length)
  case c3 => (intro i v e; rw [List.getElem?_toArray] at e; exact strs_get? hS i v e)
  case c4 =>
    intro I C D oI oC oD rest p t m₂ s₁ E F N hC hx
    k_dflt (refine' wpAny_mono (lawElt2 B F X N T hC hx) ?_ fun _ _ e => e)
    rintro y s' ⟨l9, h9, tk9, t9, v9, rfl, rfl, F9, N9, hlt⟩
    exact ⟨[(l9, _)], h9, tk9, rfl, F9, N9, (fun q hq r hr => by
      obtain rfl := List.mem_singleton.mp hq
      exact hlt r hr), l9, t9, v9, rfl, .head _⟩
  case c5 =>
    intro ys made h108 hM
    unfold LCg.FinE
    intro D h tk F N o1
    exact hret D h tk ys made F N h108 hM
  case c6 => exact Nat.zero_add _
  case c7 => (intro q hq; cases hq)
  case c8 => exact .nil
end
section
set_option maxHeartbeats 3000000
theorem valueAt_some {pairs : List (Str × Value)} {p : Str} (h : p ∈ pairs.map (·.1)) : ∃ v, valueAt pairs p = some v := by
  unfold valueAt
  obtain ⟨kv, hkv, e⟩ := List.mem_map.mp h
  cases hf : pairs.find? (fun kv => kv.1 = p) with
  | some r => exact ⟨r.2, rfl⟩
  | none =>
    have := List.find?_eq_none.mp hf kv hkv
    simp [e] at this
theorem argsOk_of {prog : Program} {w : World} {d : Addr} {od : Obj} {pairs : List (Str × Value)} (hd : od.IsDictOf (strKind prog w) pairs) : ArgsOk prog w d od (fun p => (valueAt pairs p).getD .none) (pairs.map (·.1)) where
  get := by
    intro A E s Q p tp hA ho hp h p1 p2
    have hdo : s.heap.DictOf (strKind prog w) d pairs := Heap.dictOf_iff.mpr ⟨od, ho, hd⟩
    obtain ⟨v, hv⟩ := valueAt_some hp
    rw [hv] at h
    exact tail_any hdo.typeIs slot_dict_getitem.lookup (wpAny_getItem_of (strKind_is prog w p tp) hdo.mapOf hv (h _ _ fun b o e => e)) (by with_unfolding_all rfl)
/-- the pairs that stand in the tuples -/
def PairAt (made : List (Addr × Obj)) (q : Str × Value) : Prop := ∃ l t t2, q.2 = .ref l ∧ (l, listOf #[.str q.1 t, .int 1 t2] 0) ∈ made
theorem made_pairs {made : List (Addr × Obj)} {ys : List Value} {ps : List Str} (h : MadeAll Made1 made ys ps) :
    ∃ pairs : List (Str × Value), pairs.map (·.1) = ps ∧ (∀ q ∈ pairs, PairAt made q) ∧ ∀ (i : Nat) (k : Str) (v : Value), pairs[i]? = some (k, v) → ∃ T t, ys[i]? = some (.ref T) ∧ (T, tupO [.str k t, v]) ∈ made := by
  induction h with
  | nil => exact ⟨[], rfl, (fun _ h => nomatch h), fun i k v e => by simp at e⟩
  | @cons y p ys ps h1 _ ih =>
    obtain ⟨pairs, e1, e2, e3⟩ := ih
    obtain ⟨T, l, t, t1, t2, rfl, hT, hl⟩ := h1
    refine ⟨(p, .ref l) :: pairs, by simp [e1], fun q hq => ?_, fun i k v e => ?_⟩
    · rcases List.mem_cons.mp hq with rfl | hq
      · exact ⟨l, t, t2, rfl, hl⟩
      · exact e2 q hq
    · cases i with
      | zero =>
        obtain ⟨rfl, rfl⟩ := Prod.mk.inj (Option.some.inj e)
        exact ⟨T, t1, rfl, hT⟩
      | succ i => exact e3 i k v e
theorem seven_nodup : seven.Nodup := by decide +kernel
local macro_rules | `(tactic| k_all) => `(tactic| assumption)
local macro_rules | `(tactic| k_room) => `(tactic| ktr_room)
local macro_rules | `(tactic| k_units) => `(tactic| ktr_units)
local macro_rules | `(tactic| walk_at "eval ListComp") => `(tactic| (k_here; refine enumStop ?_))
local macro_rules | `(tactic| walk_at "call type:dict") => `(tactic| (k_here; refine enumStop ?_))
local macro_rules | `(tactic| walk_at "call type:tuple") => `(tactic| (k_here; refine enumStop ?_))
theorem lawArgs {w : World} {loose : List Str} {mean : ExcName → Option Value} {mg mb : Str → Option Value} {A₀ : Around} {h₀ : Heap} {L fa : Addr} {cd : Value} {m : Str → Option Value} {s : Shared} {Q E : Value → Shared → Prop} {base : List (Addr × Obj)}
  (B : Below A₀ h₀ [] h₀) (F : Fr h₀ L s.heap m) (X : (hd.heap_39 w.params).In h₀) (N : News h₀ L s.heap base) (hlo : ∃ o, (108, o) ∈ base)
  (T : Top topProg loose mean mg mb h₀)
  (hret : ∀ d od h' tk made rest pairs, Fr h₀ L h' m → News h₀ L h' ((d, od) :: rest) → (∀ q ∈ base, q ∈ rest) → (∀ q ∈ made, q ∈ rest) → (∀ q ∈ made, @LT.lt Nat _ 108 q.1) → @LT.lt Nat _ 108 d → pairs.map (·.1) = seven → (∀ q ∈ pairs, PairAt made q) →
    od.IsDictOf (strKind PySem.Challenge.rw_ew0022_01.row.prog w) pairs → Q (.ref d) { s with heap := h', toks := tk }) :
  wpAny (model PySem.Challenge.rw_ew0022_01.row.prog w) (callerA.deeper (envOf (Str.ofString "law") lawScope L fa cd)) (eval lawArgsE (envOf (Str.ofString "law") lawScope L fa cd)) Q E s := by
  w_top off; k_with_none; revert X; k_fill; intro X
  (conv in lawArgsE => whnf)
  w_strict (k_steps)
  delta EnumStop
  k_dflt (refine' lawPairs B F X N hlo T ?_)
  intro D1 h1 tk1 ys made F1 N1 h108 hM
  clear F N
  w_strict (k_steps)
  delta EnumStop
  obtain ⟨pairs, e1, e2, e3⟩ := made_pairs hM
  have hlen : ys.length = pairs.length := by rw [hM.length, ← e1, List.length_map]
  k_dflt (refine' law_dict (ys := ys) (pairs := pairs) rfl (N1 _ (List.Mem.head _)).1 ?c1 hlen ?c2 ?c3 ?c4)
  case c1 => (rw [hM.length]; decide)
  case c2 => (rw [e1]; exact seven_nodup)
  case c3 =>
    intro i k v e
    obtain ⟨T9, t9, a1, a2⟩ := e3 i k v e
    exact ⟨T9, t9, a1, (N1 _ (.tail _ (List.mem_append_left _ a2))).1⟩
  case c4 =>
    intro h' tk' keep hdict
    obtain ⟨od, ho, hdo⟩ := Heap.dictOf_iff.mp hdict
    have hL : @LT.lt Nat _ L h1.objs.size := F1.ns.lt
    have fr : Fr h₀ L h' m := F1.keeps keep
    obtain ⟨o8, ho8⟩ := hlo
    have h8 : @LT.lt Nat _ 108 h1.objs.size := Heap.lt_size (N1 _ (.tail _ (List.mem_append_right _ ho8))).1
    refine hret h1.objs.size od h' tk' made ((D1, LCg.lst ys) :: (made ++ base)) pairs fr (fun q hq => ?_) (fun q hq => .tail _ (List.mem_append_right _ hq)) (fun q hq => .tail _ (List.mem_append_left _ hq)) h108 h8 e1 e2 hdo
    rcases List.mem_cons.mp hq with rfl | hq
    · exact ⟨ho, Nat.ne_of_gt hL, next_is_new F1⟩
    · exact ⟨keep _ _ (N1 q hq).1, (N1 q hq).2⟩
local macro_rules | `(tactic| walk_at "zz dummy") => `(tactic| fail)
theorem lawTuple {w : World} {loose : List Str} {mean : ExcName → Option Value} {mg mb : Str → Option Value} {A₀ : Around} {h₀ : Heap} {L fa : Addr} {cd : Value} {m : Str → Option Value} {s : Shared} {Q E : Value → Shared → Prop} {base : List (Addr × Obj)} {lS : Addr} {seenV : List Value} {nS : Nat} {seen : List Str}
  (B : Below A₀ h₀ [] h₀) (F : Fr h₀ L s.heap m) (X : (hd.heap_39 w.params).In h₀) (N : News h₀ L s.heap base) (hlo : ∃ o, (108, o) ∈ base)
  (hs : (lS, listOf seenV.toArray nS) ∈ base) (hS : StrsAre seenV seen) (hz : seen.length ≤ 100) (hm : m (Str.ofString "seen") = some (.ref lS)) (T : Top topProg loose mean mg mb h₀)
  (hret : ∀ U h' tk made ys rest, Fr h₀ L h' m → News h₀ L h' ((U, tupO ys) :: rest) → (∀ q ∈ base, q ∈ rest) → (∀ q ∈ made, q ∈ rest) → (∀ q ∈ made, @LT.lt Nat _ 108 q.1) → @LT.lt Nat _ 108 U → MadeAll Made2 made ys seen → Q (.ref U) { s with heap := h', toks := tk }) :
  wpAny (model PySem.Challenge.rw_ew0022_01.row.prog w) (callerA.deeper (envOf (Str.ofString "law") lawScope L fa cd)) (eval lawValsE (envOf (Str.ofString "law") lawScope L fa cd)) Q E s := by
  revert X; k_fill; intro X
  (conv in lawValsE => whnf)
  w_strict (k_steps)
  delta EnumStop
  k_dflt (refine' lawLists B F X N hlo hs hS hz hm T ?_)
  intro D1 h1 tk1 ys made F1 N1 h108 hM
  clear F N
  w_strict (k_steps)
  delta EnumStop
  k_dflt (refine' kde_tupleOf (zs := ys) F1 N1 ⟨_, (N1 _ (List.Mem.head _)).1, rfl, _, rfl⟩ ?c1 ?c2 ?c3)
  case c1 => (rw [List.size_toArray, hM.length]; omega)
  case c2 => exact rfl
  case c3 =>
    intro U h' F2 N2 hlt
    obtain ⟨o8, ho8⟩ := hlo
    exact hret U h' _ made ys ((D1, LCg.lst ys) :: (made ++ base)) F2 N2 (fun q hq => .tail _ (List.mem_append_right _ hq)) (fun q hq => .tail _ (List.mem_append_left _ hq)) h108 (hlt (108, o8) (.tail _ (List.mem_append_right _ ho8))) hM
end
section
set_option maxHeartbeats 3000000
def valsD (seen : List Str) : List PyData := seen.map fun p => .list [.str p, .int 1]
theorem valsD_ok : ∀ {seen : List Str}, (∀ y ∈ seen, y ∈ nameTab) → PyData.canLayAll0 (valsD seen) = true ∧ PyData.depthAll (valsD seen) ≤ 5
  | [], _ => ⟨rfl, by decide⟩
  | p :: r, h => by
    have ih := valsD_ok (seen := r) fun y hy => h y (List.mem_cons_of_mem _ hy)
    have hp : PyData.strOk p = true := strOk_of (nameTab_ok p (h p (List.mem_cons_self ..))).2
    constructor
    · show (PyData.canLay0 (.list [.str p, .int 1]) && PyData.canLayAll0 (valsD r)) = true
      rw [ih.1]
      simp [PyData.canLay0, PyData.canLayAll0, hp]
    · show PyData.depthAll (PyData.list [.str p, .int 1] :: valsD r) ≤ 5
      simp only [PyData.depthAll, PyData.depth]
      have := ih.2
      omega
theorem shaped_vals {due : Str} {seen : List Str} (h : PyData.strOk due = true) (hs : ∀ y ∈ seen, y ∈ nameTab) : SeqAt.shaped (.tuple [.str due, .tuple (valsD seen)]) = true := by
  obtain ⟨h1, h2⟩ := valsD_ok hs
  unfold SeqAt.shaped
  refine Bool.and_eq_true_iff.mpr ⟨?_, decide_eq_true ?_⟩
  · simp [PyData.canLay0, PyData.canLayAll0, h, h1]
  · simp only [PyData.depth, PyData.depthAll]
    omega
theorem reads_one {h : Heap} {l : Addr} {p : Str} {t t2 : Tok} {n : Nat} (e : h.get? l = some (listOf #[.str p t, .int 1 t2] n)) : Reads h (.ref l) (.list [.str p, .int 1]) [l] :=
  reads_list_at e rfl rfl (.cons (.str _ _) (.cons (.int _ _) .nil))
theorem reads_made2 {h₀ h : Heap} {L : Addr} {news made : List (Addr × Obj)} (N : News h₀ L h news) (hsub : ∀ q ∈ made, q ∈ news) {ys : List Value} {ps : List Str} (hM : MadeAll Made2 made ys ps) : ∃ as, ReadsAll h ys (valsD ps) as := by
  induction hM with
  | nil => exact ⟨[], .nil⟩
  | @cons y p ys ps h1 _ ih =>
    obtain ⟨l, t, t2, rfl, hl⟩ := h1
    obtain ⟨as, r⟩ := ih
    exact ⟨_, .cons (reads_one (N _ (hsub _ hl)).1) r⟩
theorem valueAt_mem {pairs : List (Str × Value)} {p : Str} {v : Value} (h : valueAt pairs p = some v) : (p, v) ∈ pairs := by
  unfold valueAt at h
  obtain ⟨kv, hf, rfl⟩ := Option.map_eq_some_iff.mp h
  have h1 := List.mem_of_find?_eq_some hf
  have h2 := List.find?_some hf
  have : kv.1 = p := by simpa using h2
  rw [← this]
  exact h1
theorem reads_vals {h₀ h : Heap} {L : Addr} {news made : List (Addr × Obj)} {pairs : List (Str × Value)} (N : News h₀ L h news) (hsub : ∀ q ∈ made, q ∈ news) (hP : ∀ q ∈ pairs, PairAt made q) : ∀ {seen : List Str}, (∀ y ∈ seen, y ∈ pairs.map (·.1)) → ∃ as, ReadsAll h (seen.map fun p => (valueAt pairs p).getD .none) (valsD seen) as
  | [], _ => ⟨[], .nil⟩
  | p :: r, hs => by
    obtain ⟨as, ih⟩ := reads_vals N hsub hP (seen := r) fun y hy => hs y (List.mem_cons_of_mem _ hy)
    obtain ⟨v, hv⟩ := valueAt_some (hs p (List.mem_cons_self ..))
    obtain ⟨l, t, t2, e, hl⟩ := hP _ (valueAt_mem hv)
    dsimp only at e hl
    subst e
    have e2 : (valueAt pairs p).getD .none = .ref l := by rw [hv]; rfl
    rw [List.map_cons, e2]
    exact ⟨_, .cons (reads_one (N _ (hsub _ hl)).1) ih⟩
theorem reads_pair {h₀ h : Heap} {L D V : Addr} {news : List (Addr × Obj)} {due : Str} {t : Tok} {ys : List Value} {seen : List Str} {as : List Addr} (N : News h₀ L h news) (hD : (D, tupO [.str due t, .ref V]) ∈ news) (hV : (V, tupO ys) ∈ news) (hr : ReadsAll h ys (valsD seen) as) : ∃ as', Reads h (.ref D) (.tuple [.str due, .tuple (valsD seen)]) as' :=
  ⟨_, reads_tuple_at (News.get N hD) rfl rfl (.cons (.str _ _) (.cons (reads_tuple_at (News.get N hV) rfl rfl (by simpa using hr)) .nil))⟩
theorem seven_names : ∀ y ∈ nameTab, y ∈ seven := by decide +kernel
end
section
set_option maxHeartbeats 3000000
local macro_rules | `(tactic| k_all) => `(tactic| assumption)
local macro_rules | `(tactic| k_room) => `(tactic| ktr_room)
local macro_rules | `(tactic| k_units) => `(tactic| ktr_units)
local macro_rules | `(tactic| walk_at "call ref") => `(tactic| (k_here; (with_reducible show wpAny _ _ (call (Value.ref 135) _) _ _ _); refine enumStop ?_))
local macro_rules | `(tactic| walk_at "eval Call") => `(tactic| (k_here; (with_reducible show wpAny _ _ (eval (Expr.Call (Expr.Name _ _) [Expr.ListComp _ _ _ _] _ _) _) _ _ _); refine enumStop ?_))
local macro_rules | `(tactic| walk_at "compareOp NotEq ref ref") => `(tactic| (k_here; (with_reducible show wpAny _ _ (compareOp _ (Value.ref _) (Value.ref _)) _ _ _); refine enumStop ?_))
local macro_rules | `(tactic| walk_at "compareOp Eq ref ref") => `(tactic| (k_here; (with_reducible show wpAny _ _ (compareOp _ (Value.ref _) (Value.ref _)) _ _ _); refine enumStop ?_))
local macro_rules | `(tactic| walk_at "zz dummy") => `(tactic| fail)
theorem lawEnd_named {w : World} {loose : List Str} {mean : ExcName → Option Value} {mg mb : Str → Option Value} {A₀ : Around} {h₀ : Heap} {L fa : Addr} {cd : Value} {um : Str → Option Value} {s : Shared} {Q : Flow → Shared → Prop} {E : Value → Shared → Prop}
  {S lS : Addr} {b : LB} {i : Nat} {ts tq td tm : Tok} {seenV : List Value} {nS : Nat}
  (B : Below A₀ h₀ [] h₀) (F : Fr h₀ L s.heap (kstB um (lawVals (Str.ofString "named") b S lS ts tq td tm))) (X : (hd.heap_39 w.params).In h₀) (N : News h₀ L s.heap [(lS, listOf seenV.toArray nS), (108, tabObj #[])]) (hlo : @LT.lt Nat _ 108 lS) (C : CodeHd h₀ 112 108)
  (T : Top topProg loose mean mg mb h₀) (hseen : StrsAre seenV b.seen) (hb : LawI (Str.ofString "named") i b) (hi : i ≤ 10) (hg : AllBare s.gens)
  (hret : ∀ s' m' ps' news', AllBare s'.gens → s'.os = s.os → Fr h₀ L s'.heap m' → News h₀ L s'.heap news' → (108, tabObj ps') ∈ news' → Q (.ret (.bool true)) s') :
  wpAny (model PySem.Challenge.rw_ew0022_01.row.prog w) (callerA.deeper (envOf (Str.ofString "law") lawScope L fa cd)) (execs lawS4 (envOf (Str.ofString "law") lawScope L fa cd)) Q E s := by
  have ql := hb.ql
  have dl := hb.dl
  have sn := hb.sn
  have sl := hb.sl
  have G1 := law_first hb hi
  have G2 := law_pct (.inr (.inr (.inr (.inl rfl)))) hb hi (.inr (.inr rfl))
  have K2 := G2.dok
  have K1 := G1.dok
  obtain ⟨query, due, seen, many⟩ := b
  w_top off; k_with_none; revert X; k_fill; intro X
  (conv in lawS4 => whnf)
  (conv in (occs := *) lawScope => all_goals whnf)
  (try dsimp only [kstB, lawVals] at F)
  (try dsimp only at hseen ql dl sn sl G1 G2 K1 K2)
  (try k_fold)
  w_strict (k_steps)
  delta EnumStop
  rename Fr h₀ L _ _ => F9
  rename News h₀ L _ _ => N9
  k_dflt (refine' lawArgs B F9 X N9 ⟨_, .tail _ (.tail _ (.head _))⟩ T ?_)
  intro d od h10 tk10 made rest pairs F10 N10 hb1 hm1 h108 hd8 e1 e2 hod
  have b1 := hb1 _ (.tail _ (.head _))
  have b2 := hb1 _ (.tail _ (.tail _ (.head _)))
  (try clear F9); (try clear N9); (try clear hb1)
  w_strict (k_steps)
  delta EnumStop
  rename Fr h₀ L _ _ => F11
  rename News h₀ L _ _ => N11
  k_dflt (refine' lawTuple B F11 X N11 ⟨_, .tail _ (.tail _ b2)⟩ (.tail _ (.tail _ b1)) hseen ?hz ?hm T ?_)
  case hz => omega
  case hm => exact rfl
  intro U h12 tk12 made2 ys rest2 F12 N12 hb2 hm2 h1082 hU8 hM2
  have a108 := hb2 _ (.tail _ (.tail _ b2))
  have ad := hb2 _ (.tail _ (.head _))
  have am : ∀ q ∈ made, q ∈ rest2 := fun q hq => hb2 _ (.tail _ (.tail _ (hm1 q hq)))
  obtain ⟨mm, hmA, hmB, hmC, hmD⟩ : ∃ mm : List (Addr × Obj), (∀ q ∈ made, q ∈ mm) ∧ (∀ q ∈ made2, q ∈ mm) ∧ (∀ q ∈ mm, @LT.lt Nat _ 108 q.1) ∧ ∀ q ∈ mm, q ∈ rest2 :=
    ⟨made ++ made2, fun q hq => List.mem_append_left _ hq, fun q hq => List.mem_append_right _ hq, fun q hq => (List.mem_append.mp hq).elim (h108 q) (h1082 q), fun q hq => (List.mem_append.mp hq).elim (am q) (hm2 q)⟩
  (try clear F11); (try clear N11); (try clear hb2); (try clear hm2); (try clear hm1); (try clear h108); (try clear h1082); (try clear am)
  w_strict (k_steps)
  delta EnumStop
  rename Fr h₀ L _ _ => F13
  rename News h₀ L _ _ => N13
  have N14 : News h₀ L _ ((108, tabObj #[]) :: (d, od) :: (U, tupO ys) :: mm) := fun p hp => N13 p (by
    rcases List.mem_cons.mp hp with rfl | hp
    · exact .tail _ a108
    rcases List.mem_cons.mp hp with rfl | hp
    · exact .tail _ ad
    rcases List.mem_cons.mp hp with rfl | hp
    · exact .head _
    · exact .tail _ (hmD p hp))
  have hlow : ∀ p ∈ (d, od) :: (U, tupO ys) :: mm, @LT.lt Nat _ 108 p.1 := fun p hp => by
    rcases List.mem_cons.mp hp with rfl | hp
    · exact hd8
    rcases List.mem_cons.mp hp with rfl | hp
    · exact hU8
    · exact hmC p hp
  have hsub : ∀ y ∈ seen, y ∈ pairs.map (·.1) := fun y hy => by rw [e1]; exact seven_names y (sn y hy)
  (try clear N13); (try clear a108); (try clear ad); (try clear hmD); (try clear b1); (try clear b2); (try clear N10); (try clear N12); (try clear F10); (try clear F12)
  k_dflt (refine' told_givesD (d := d) (od := od) (val := fun p => (valueAt pairs p).getD .none) (names := pairs.map (·.1)) B F13 X N14 (tabS_nil _) hlow C T X T ?gk ?gd ?gu (.inr (.inr (.inr (.inl rfl)))) (.inl rfl) G1 (.head _) (argsOk_of hod) hsub ?_)
  case gk => exact rfl
  case gd => (show _ + 60 < recursionLimit; decide)
  case gu => ktr_units
  intro D15 V15 t15 s15 ps15 c15 co15 hS15 hc15 hg15 hd15 ho15 F16 N16
  (try clear F13); (try clear N14)
  w_strict (k_steps)
  delta EnumStop
  rename Fr h₀ L _ _ => F17
  rename News h₀ L _ _ => N17
  obtain ⟨as1, r1⟩ := reads_vals (seen := seen) N17 (fun q hq => .tail _ (.tail _ (.tail _ (.tail _ (.tail _ (.tail _ (.tail _ (hmA q hq)))))))) e2 hsub
  obtain ⟨as2, r2⟩ := reads_made2 N17 (fun q hq => .tail _ (.tail _ (.tail _ (.tail _ (.tail _ (.tail _ (.tail _ (hmB q hq)))))))) hM2
  obtain ⟨_, ra⟩ := reads_pair N17 (.tail _ (.head _)) (.tail _ (.tail _ (.head _))) r1
  obtain ⟨_, rb⟩ := reads_pair N17 (.head _) (.tail _ (.tail _ (.tail _ (.tail _ (.tail _ (.tail _ (.head _))))))) r2
  k_dflt (refine' law_ne_same ra rb (shaped_vals K1 sn) ?gu ?_)
  case gu => ke_room
  (try clear ra); (try clear rb); (try clear r1); (try clear r2); (try clear N16); (try clear F16)
  w_strict (k_steps)
  delta EnumStop
  rename Fr h₀ L _ _ => F18
  rename News h₀ L _ _ => N18
  have N19 : News h₀ L _ ((108, tabObj ps15) :: (c15, co15) :: (d, od) :: (U, tupO ys) :: mm) := fun p hp => N18 p (.tail _ (.tail _ (.tail _ hp)))
  have hlow2 : ∀ p ∈ (c15, co15) :: (d, od) :: (U, tupO ys) :: mm, @LT.lt Nat _ 108 p.1 := fun p hp => by
    rcases List.mem_cons.mp hp with rfl | hp
    · exact hc15
    · exact hlow p hp
  (try clear N18); (try clear N17); (try clear F17)
  k_dflt (refine' told_givesD (d := d) (od := od) (val := fun p => (valueAt pairs p).getD .none) (names := pairs.map (·.1)) B F18 X N19 hS15 hlow2 C T X T ?gk ?gd ?gu (.inr (.inr (.inr (.inl rfl)))) (.inl rfl) G2 (.tail _ (.head _)) (argsOk_of hod) hsub ?_)
  case gk => exact rfl
  case gd => (show _ + 60 < recursionLimit; decide)
  case gu => ktr_units
  intro D20 V20 t20 s20 ps20 c20 co20 hS20 hc20 hg20 hd20 ho20 F21 N21
  (try clear F18); (try clear N19)
  w_strict (k_steps)
  delta EnumStop
  rename Fr h₀ L _ _ => F22
  rename News h₀ L _ _ => N22
  obtain ⟨as1, r1⟩ := reads_vals (seen := seen) N22 (fun q hq => .tail _ (.tail _ (.tail _ (.tail _ (.tail _ (.tail _ (.tail _ (.tail _ (hmA q hq))))))))) e2 hsub
  obtain ⟨as2, r2⟩ := reads_made2 N22 (fun q hq => .tail _ (.tail _ (.tail _ (.tail _ (.tail _ (.tail _ (.tail _ (.tail _ (hmB q hq))))))))) hM2
  obtain ⟨_, ra⟩ := reads_pair N22 (.tail _ (.head _)) (.tail _ (.tail _ (.head _))) r1
  obtain ⟨_, rb⟩ := reads_pair N22 (.head _) (.tail _ (.tail _ (.tail _ (.tail _ (.tail _ (.tail _ (.tail _ (.head _)))))))) r2
  k_dflt (refine' law_eq_same ra rb (shaped_vals K2 sn) ?gu ?_)
  case gu => ke_room
  (try clear ra); (try clear rb); (try clear r1); (try clear r2); (try clear N21); (try clear F21)
  w_strict (k_steps)
  exact hret _ _ ps20 _ (hg20 (hg15 hg)) (ho20.trans ho15) F22 N22 (.tail _ (.tail _ (.tail _ (.head _))))
end
section
set_option maxHeartbeats 3000000
local macro_rules | `(tactic| k_all) => `(tactic| assumption)
local macro_rules | `(tactic| k_room) => `(tactic| ktr_room)
local macro_rules | `(tactic| k_units) => `(tactic| ktr_units)
local macro_rules | `(tactic| walk_at "call ref") => `(tactic| (k_here; (with_reducible show wpAny _ _ (call (Value.ref 135) _) _ _ _); refine enumStop ?_))
local macro_rules | `(tactic| walk_at "eval Call") => `(tactic| (k_here; (with_reducible show wpAny _ _ (eval (Expr.Call (Expr.Name _ _) [Expr.ListComp _ _ _ _] _ _) _) _ _ _); refine enumStop ?_))
local macro_rules | `(tactic| walk_at "compareOp NotEq ref ref") => `(tactic| (k_here; (with_reducible show wpAny _ _ (compareOp _ (Value.ref _) (Value.ref _)) _ _ _); refine enumStop ?_))
local macro_rules | `(tactic| walk_at "compareOp Eq ref ref") => `(tactic| (k_here; (with_reducible show wpAny _ _ (compareOp _ (Value.ref _) (Value.ref _)) _ _ _); refine enumStop ?_))
theorem lawEnd_pyformat {w : World} {loose : List Str} {mean : ExcName → Option Value} {mg mb : Str → Option Value} {A₀ : Around} {h₀ : Heap} {L fa : Addr} {cd : Value} {um : Str → Option Value} {s : Shared} {Q : Flow → Shared → Prop} {E : Value → Shared → Prop}
  {S lS : Addr} {b : LB} {i : Nat} {ts tq td tm : Tok} {seenV : List Value} {nS : Nat}
  (B : Below A₀ h₀ [] h₀) (F : Fr h₀ L s.heap (kstB um (lawVals (Str.ofString "pyformat") b S lS ts tq td tm))) (X : (hd.heap_39 w.params).In h₀) (N : News h₀ L s.heap [(lS, listOf seenV.toArray nS), (108, tabObj #[])]) (hlo : @LT.lt Nat _ 108 lS) (C : CodeHd h₀ 112 108)
  (T : Top topProg loose mean mg mb h₀) (hseen : StrsAre seenV b.seen) (hb : LawI (Str.ofString "pyformat") i b) (hi : i ≤ 10) (hg : AllBare s.gens)
  (hret : ∀ s' m' ps' news', AllBare s'.gens → s'.os = s.os → Fr h₀ L s'.heap m' → News h₀ L s'.heap news' → (108, tabObj ps') ∈ news' → Q (.ret (.bool true)) s') :
  wpAny (model PySem.Challenge.rw_ew0022_01.row.prog w) (callerA.deeper (envOf (Str.ofString "law") lawScope L fa cd)) (execs lawS4 (envOf (Str.ofString "law") lawScope L fa cd)) Q E s := by
  have ql := hb.ql
  have dl := hb.dl
  have sn := hb.sn
  have sl := hb.sl
  have G1 := law_first hb hi
  have G2 := law_pctNone (.inr (.inr (.inr (.inr rfl)))) hb hi (.inr rfl)
  have G3 := law_frontP hb hi
  have K1 := G1.dok
  obtain ⟨query, due, seen, many⟩ := b
  w_top off; k_with_none; revert X; k_fill; intro X
  (conv in lawS4 => whnf)
  (conv in (occs := *) lawScope => all_goals whnf)
  (try dsimp only [kstB, lawVals] at F)
  (try dsimp only at hseen ql dl sn sl G1 G2 K1 G3)
  (try k_fold)
  w_strict (k_steps)
  delta EnumStop
  rename Fr h₀ L _ _ => F9
  rename News h₀ L _ _ => N9
  k_dflt (refine' lawArgs B F9 X N9 ⟨_, .tail _ (.tail _ (.head _))⟩ T ?_)
  intro d od h10 tk10 made rest pairs F10 N10 hb1 hm1 h108 hd8 e1 e2 hod
  have b1 := hb1 _ (.tail _ (.head _))
  have b2 := hb1 _ (.tail _ (.tail _ (.head _)))
  (try clear F9); (try clear N9); (try clear hb1)
  w_strict (k_steps)
  delta EnumStop
  rename Fr h₀ L _ _ => F11
  rename News h₀ L _ _ => N11
  k_dflt (refine' lawTuple B F11 X N11 ⟨_, .tail _ (.tail _ b2)⟩ (.tail _ (.tail _ b1)) hseen ?hz ?hm T ?_)
  case hz => omega
  case hm => exact rfl
  intro U h12 tk12 made2 ys rest2 F12 N12 hb2 hm2 h1082 hU8 hM2
  have a108 := hb2 _ (.tail _ (.tail _ b2))
  have ad := hb2 _ (.tail _ (.head _))
  have am : ∀ q ∈ made, q ∈ rest2 := fun q hq => hb2 _ (.tail _ (.tail _ (hm1 q hq)))
  obtain ⟨mm, hmA, hmB, hmC, hmD⟩ : ∃ mm : List (Addr × Obj), (∀ q ∈ made, q ∈ mm) ∧ (∀ q ∈ made2, q ∈ mm) ∧ (∀ q ∈ mm, @LT.lt Nat _ 108 q.1) ∧ ∀ q ∈ mm, q ∈ rest2 :=
    ⟨made ++ made2, fun q hq => List.mem_append_left _ hq, fun q hq => List.mem_append_right _ hq, fun q hq => (List.mem_append.mp hq).elim (h108 q) (h1082 q), fun q hq => (List.mem_append.mp hq).elim (am q) (hm2 q)⟩
  (try clear F11); (try clear N11); (try clear hb2); (try clear hm2); (try clear hm1); (try clear h108); (try clear h1082); (try clear am)
  w_strict (k_steps)
  delta EnumStop
  rename Fr h₀ L _ _ => F13
  rename News h₀ L _ _ => N13
  have N14 : News h₀ L _ ((108, tabObj #[]) :: (d, od) :: (U, tupO ys) :: mm) := fun p hp => N13 p (by
    rcases List.mem_cons.mp hp with rfl | hp
    · exact .tail _ a108
    rcases List.mem_cons.mp hp with rfl | hp
    · exact .tail _ ad
    rcases List.mem_cons.mp hp with rfl | hp
    · exact .head _
    · exact .tail _ (hmD p hp))
  have hlow : ∀ p ∈ (d, od) :: (U, tupO ys) :: mm, @LT.lt Nat _ 108 p.1 := fun p hp => by
    rcases List.mem_cons.mp hp with rfl | hp
    · exact hd8
    rcases List.mem_cons.mp hp with rfl | hp
    · exact hU8
    · exact hmC p hp
  have hsub : ∀ y ∈ seen, y ∈ pairs.map (·.1) := fun y hy => by rw [e1]; exact seven_names y (sn y hy)
  (try clear N13); (try clear a108); (try clear ad); (try clear hmD); (try clear b1); (try clear b2); (try clear N10); (try clear N12); (try clear F10); (try clear F12)
  k_dflt (refine' told_givesD (d := d) (od := od) (val := fun p => (valueAt pairs p).getD .none) (names := pairs.map (·.1)) B F13 X N14 (tabS_nil _) hlow C T X T ?gk ?gd ?gu (.inr (.inr (.inr (.inr rfl)))) (.inr rfl) G1 (.head _) (argsOk_of hod) hsub ?_)
  case gk => exact rfl
  case gd => (show _ + 60 < recursionLimit; decide)
  case gu => ktr_units
  intro D15 V15 t15 s15 ps15 c15 co15 hS15 hc15 hg15 hd15 ho15 F16 N16
  (try clear F13); (try clear N14)
  w_strict (k_steps)
  delta EnumStop
  rename Fr h₀ L _ _ => F17
  rename News h₀ L _ _ => N17
  obtain ⟨as1, r1⟩ := reads_vals (seen := seen) N17 (fun q hq => .tail _ (.tail _ (.tail _ (.tail _ (.tail _ (.tail _ (.tail _ (hmA q hq)))))))) e2 hsub
  obtain ⟨as2, r2⟩ := reads_made2 N17 (fun q hq => .tail _ (.tail _ (.tail _ (.tail _ (.tail _ (.tail _ (.tail _ (hmB q hq)))))))) hM2
  obtain ⟨_, ra⟩ := reads_pair N17 (.tail _ (.head _)) (.tail _ (.tail _ (.head _))) r1
  obtain ⟨_, rb⟩ := reads_pair N17 (.head _) (.tail _ (.tail _ (.tail _ (.tail _ (.tail _ (.tail _ (.head _))))))) r2
  k_dflt (refine' law_ne_same ra rb (shaped_vals K1 sn) ?gu ?_)
  case gu => ke_room
  (try clear ra); (try clear rb); (try clear r1); (try clear r2); (try clear N16); (try clear F16)
  w_strict (k_steps)
  delta EnumStop
  rename Fr h₀ L _ _ => F18
  rename News h₀ L _ _ => N18
  have N19 : News h₀ L _ ((108, tabObj ps15) :: (c15, co15) :: (d, od) :: (U, tupO ys) :: mm) := fun p hp => N18 p (.tail _ (.tail _ (.tail _ hp)))
  have hlow2 : ∀ p ∈ (c15, co15) :: (d, od) :: (U, tupO ys) :: mm, @LT.lt Nat _ 108 p.1 := fun p hp => by
    rcases List.mem_cons.mp hp with rfl | hp
    · exact hc15
    · exact hlow p hp
  (try clear N18); (try clear N17); (try clear F17)
  k_dflt (refine' told_raises (d := d) (od := od) (val := fun p => (valueAt pairs p).getD .none) (names := pairs.map (·.1)) B F18 X N19 hS15 hlow2 C T X T ?gk ?gd ?gu (.inr (.inr (.inr (.inr rfl)))) G2 (fun _ => ⟨rfl, .tail _ (.head _), argsOk_of hod⟩) ?_)
  case gk => exact rfl
  case gd => (show _ + 60 < recursionLimit; decide)
  case gu => ktr_units
  intro s20 ps20 c20 co20 hS20 hc20 hg20 hd20 ho20 F20 N20
  (try clear F18); (try clear N19)
  w_strict (k_steps)
  delta EnumStop
  rename Fr h₀ L _ _ => F24
  rename News h₀ L _ _ => N24
  have hlow3 : ∀ p ∈ (c20, co20) :: (c15, co15) :: (d, od) :: (U, tupO ys) :: mm, @LT.lt Nat _ 108 p.1 := fun p hp => by
    rcases List.mem_cons.mp hp with rfl | hp
    · exact hc20
    · exact hlow2 p hp
  k_dflt (refine' told_raises (d := d) (od := od) (val := fun p => (valueAt pairs p).getD .none) (names := pairs.map (·.1)) B F24 X N24 hS20 hlow3 C T X T ?gk ?gd ?gu (.inr (.inr (.inr (.inr rfl)))) G3 (fun _ => ⟨rfl, .tail _ (.tail _ (.head _)), argsOk_of hod⟩) ?_)
  case gk => exact rfl
  case gd => (show _ + 60 < recursionLimit; decide)
  case gu => ktr_units
  intro s30 ps30 c30 co30 hS30 hc30 hg30 hd30 ho30 F30 N30
  (try clear F24); (try clear N24)
  w_strict (k_steps)
  rename Fr h₀ L _ _ => F33
  rename News h₀ L _ _ => N33
  exact hret _ _ ps30 _ (hg30 (hg20 (hg15 hg))) (ho30.trans (ho20.trans ho15)) F33 N33 (.head _)
end
section
set_option maxHeartbeats 3000000
def LawFine (h₁ : Heap) (P : Addr) (os : OsState) (r : Result) (s' : Shared) : Prop :=
  r = .ok (.ret (.bool true)) ∧ (∀ b o, b ≠ P → h₁.get? b = some o → s'.heap.get? b = some o) ∧ s'.os = os ∧ AllBare s'.gens ∧ ∃ ps, s'.heap.get? P = some (tabObj ps)
theorem law_post {M : Model} {A : Around} {cd : Code} {s s₁ : Shared} {cw : ClaimW} {cl : Str → Option Addr} {mean : ExcName → Option Value} {args : List WData} {c P : Addr} (hT : TabsAt [(c, P)] s₁.heap) (hr : ∀ a x, cw.raises a x = false) (hp : cw.post args (.bool true) args = true)
    (h : codeAny M A cd (LawFine s₁.heap P s₁.os) s) : codeAny M A cd (GoodWG cw cl mean args s₁) s := by
  refine codeAny_mono h ?_
  rintro r s' ⟨rfl, keep, hos, hb, ps, hP⟩
  have t := hT (c, P) (List.mem_singleton.mpr rfl)
  refine ⟨.inl ⟨.bool true, .bool true, [], rfl, fun x => hr _ x, .bool true, hp, fun _ => ⟨List.nodup_nil, fun _ h => nomatch h⟩⟩, ⟨fun b o e => ?_, fun b o e => ?_⟩, hos, hb⟩
  · by_cases hbP : b = P
    · subst hbP
      have e2 := t.2
      rw [e] at e2
      obtain rfl := Option.some.inj e2
      exact .inr (.inl ⟨(t.1.tab t.2).isCodeTable, rfl, #[], ps, rfl, by rw [Array.empty_append]; exact hP⟩)
    · exact .inl (keep b o hbP e)
  · by_cases hbP : b = P
    · subst hbP; exact ⟨_, hP⟩
    · exact ⟨o, keep b o hbP e⟩
theorem lawRange (len : Nat) (h : len ≤ 63) : Builtin.Range.small 0 ((if 20 < (len : Int) - 1 then 20 else (len : Int) - 1).fdiv 2) 1 = true ∧ Builtin.Range.rangeSize 0 ((if 20 < (len : Int) - 1 then 20 else (len : Int) - 1).fdiv 2) 1 = ((((if 20 < (len : Int) - 1 then 20 else (len : Int) - 1).fdiv 2).toNat : Nat) : Int) ∧ ((if 20 < (len : Int) - 1 then 20 else (len : Int) - 1).fdiv 2).toNat ≤ 10 ∧ ∀ i, i < ((if 20 < (len : Int) - 1 then 20 else (len : Int) - 1).fdiv 2).toNat → 2 * i + 2 < len := by
  rw [Int.fdiv_eq_ediv_of_nonneg _ (by decide)]
  have hb : ∃ k : Int, (if 20 < (len : Int) - 1 then 20 else (len : Int) - 1) = k ∧ k ≤ 20 ∧ k ≤ (len : Int) - 1 ∧ -1 ≤ k := by
    split
    · exact ⟨_, rfl, by omega, by omega, by omega⟩
    · exact ⟨_, rfl, by omega, by omega, by omega⟩
  obtain ⟨k, e, h1, h2, h3⟩ := hb
  rw [e]
  refine ⟨small_one (by decide) (by decide) (by omega) (by omega), ?_, by omega, fun i hi => by omega⟩
  rw [rangeSize_one]
  split <;> omega
theorem lawAll {w : World} {loose : List Str} {mean : ExcName → Option Value} {mg mb : Str → Option Value} {A₀ : Around} {h₁ : Heap} {L fa r : Addr} {cd : Value} {s : Shared} {E E2 : Value → Shared → Prop} {Q : Flow → Shared → Prop}
  {rest : List (Addr × Obj)} {S lS : Addr} {vs : List Value} {ns : List Int} {x : Str} {nS : Nat} {t₀ u₀ v₀ ts tq td tm : Tok} {m : Str → Option Value} {os : OsState}
  (hr : IsRange s.heap r 0 ((if 20 < (ns.length : Int) - 1 then 20 else (ns.length : Int) - 1).fdiv 2) 1 t₀ u₀ v₀)
  (B : Below A₀ (ghostOf h₁ [(112, 108)]) [] (ghostOf h₁ [(112, 108)])) (F : Fr (ghostOf h₁ [(112, 108)]) L s.heap m) (X : (hd.heap_39 w.params).In (ghostOf h₁ [(112, 108)])) (N : News (ghostOf h₁ [(112, 108)]) L s.heap rest) (hN1 : (lS, listOf ([] : List Value).toArray nS) ∈ rest) (hN2 : (108, tabObj #[]) ∈ rest)
  (T : Top topProg loose mean mg mb (ghostOf h₁ [(112, 108)])) (hl : (ghostOf h₁ [(112, 108)]).IsList S vs.toArray) (hI : IntsAre vs ns) (hn : ns.length ≤ 63) (hx : Five x) (hlo : @LT.lt Nat _ 108 lS) (C : CodeHd (ghostOf h₁ [(112, 108)]) 112 108)
  (hS : Same m (lawVals x ⟨Str.ofString "", Str.ofString "", [], 0⟩ S lS ts tq td tm)) (hg : s.gens = #[]) (hos : s.os = os)
  (hQ : ∀ s', wpAny (model PySem.Challenge.rw_ew0022_01.row.prog w) (callerA.deeper (envOf (Str.ofString "law") lawScope L fa cd)) (execs lawS4 (envOf (Str.ofString "law") lawScope L fa cd)) (fun f s'' => LawFine h₁ 108 os (.ok (.ret (match f with | .ret v => v | _ => .none))) s'') E2 s' → Q .next s') :
  wpAny (model PySem.Challenge.rw_ew0022_01.row.prog w) (callerA.deeper (envOf (Str.ofString "law") lawScope L fa cd)) (pyIter (.ref r)) (fun it s₂ => LoopAtV PySem.Challenge.rw_ew0022_01.row.prog w (callerA.deeper (envOf (Str.ofString "law") lawScope L fa cd)) (ghostOf h₁ [(112, 108)]) (envOf (Str.ofString "law") lawScope L fa cd) (Str.ofString "k") lawBody Q E it s₂) E s := by
  obtain ⟨r1, r2, r3, r4⟩ := lawRange ns.length hn
  have N2 : News (ghostOf h₁ [(112, 108)]) L s.heap ((lS, listOf ([] : List Value).toArray nS) :: [(108, tabObj #[])]) := fun p hp => by
    rcases List.mem_cons.mp hp with rfl | hp
    · exact N _ hN1
    · obtain rfl := List.mem_singleton.mp hp
      exact N _ hN2
  refine lawLoop hr r1 r2 B F X N2 T hl hI hn hx r3 r4 hlo hS ?_
  intro h tk m' lS' seenV nS' ts' tq' td' tm' F' S' N' hs' hlo'
  refine hQ _ ?_
  rw [same_kst S'] at F'
  have hb := lawIter_ok (ns := ns) hx ((if 20 < (ns.length : Int) - 1 then 20 else (ns.length : Int) - 1).fdiv 2).toNat (by omega)
  have fin : ∀ (s' : Shared) (m'' : Str → Option Value) (ps' : Array Value) (news' : List (Addr × Obj)), AllBare s'.gens → s'.os = s.os → Fr (ghostOf h₁ [(112, 108)]) L s'.heap m'' → News (ghostOf h₁ [(112, 108)]) L s'.heap news' → (108, tabObj ps') ∈ news' → LawFine h₁ 108 os (.ok (.ret (.bool true))) s' :=
    fun s' m'' ps' news' hb hos' F'' N'' hm => ⟨rfl, fun b o hne e => F''.keep b o (ghost_ne e fun hbm => hne (List.mem_singleton.mp hbm)), hos'.trans hos, hb, ps', (N'' _ hm).1⟩
  have hgb : AllBare s.gens := .of_eq hg
  rcases hx with rfl | rfl | rfl | rfl | rfl
  · exact lawEnd_qmark (s := { s with heap := h, toks := tk }) B F' X N' hlo' C T hs' hb r3 hgb fin
  · exact lawEnd_numeric (s := { s with heap := h, toks := tk }) B F' X N' hlo' C T hs' hb r3 hgb fin
  · exact lawEnd_format (s := { s with heap := h, toks := tk }) B F' X N' hlo' C T hs' hb r3 hgb fin
  · exact lawEnd_named (s := { s with heap := h, toks := tk }) B F' X N' hlo' C T hs' hb r3 hgb fin
  · exact lawEnd_pyformat (s := { s with heap := h, toks := tk }) B F' X N' hlo' C T hs' hb r3 hgb fin
end
theorem same_vals {m : Str → Option Value} {x : Str} {b : LB} {S lS : Addr} {ts tq td tm : Tok} (h1 : m (Str.ofString "script") = some (.ref S)) (h2 : m (Str.ofString "style") = some (.str x ts)) (h3 : m (Str.ofString "query") = some (.str b.query tq)) (h4 : m (Str.ofString "due") = some (.str b.due td)) (h5 : m (Str.ofString "seen") = some (.ref lS)) (h6 : m (Str.ofString "many") = some (.int b.many tm)) : Same m (lawVals x b S lS ts tq td tm) := by
  intro p hp
  simp only [lawVals, List.mem_cons, List.not_mem_nil, or_false] at hp
  rcases hp with rfl | rfl | rfl | rfl | rfl | rfl <;> assumption
end Mine
open PySem PySem.W PyProof.Rows PySem.Calls PySem.Spec
local macro_rules | `(tactic| kn_posts) => `(tactic| refine Mine.law_post (by assumption) (fun _ _ => rfl) (by first | wrow_post | kc_post) ?_)
local macro_rules | `(tactic| walk_at "pyIter ref") => `(tactic| (k_here; refine Mine.enumStop ?_))
set_option maxRecDepth 100000 in
set_option maxHeartbeats 8000000 in
theorem PySem.Challenge.cw_ew0022_01_holds : PySem.Challenge.rw_ew0022_01.Holds := by
  refine Mine.hd ?_
  k_with_none
  k_go0
  w_strict (k_steps)
  all_goals
    delta Mine.EnumStop
    rename IsRange _ _ _ _ _ _ _ _ => r9
    rename Fr _ _ _ _ => F9
    rename News _ _ _ _ => N9
    k_dflt (refine' Mine.lawAll r9 ?zzB F9 ?zzX N9 ?zzm1 ?zzm2 ?zzT ?zzl ?zzI ?zzn ?zzx ?zzlo ?zzC (Mine.same_vals ?zzs1 ?zzs2 ?zzs3 ?zzs4 ?zzs5 ?zzs6) ?zzg ?zzos ?zzQ)
    case zzs1 => exact rfl
    case zzs2 => exact rfl
    case zzs3 => exact rfl
    case zzs4 => exact rfl
    case zzs5 => exact rfl
    case zzs6 => exact rfl
    case zzB => assumption
    case zzX => assumption
    case zzm1 => k_mem
    case zzm2 => k_mem
    case zzT => assumption
    case zzl => assumption
    case zzI => assumption
    case zzn => omega
    case zzx => first | exact .inl rfl | exact .inr (.inl rfl) | exact .inr (.inr (.inl rfl)) | exact .inr (.inr (.inr (.inl rfl))) | exact .inr (.inr (.inr (.inr rfl)))
    case zzlo => omega
    case zzC => assumption
    case zzg => first | assumption | (dsimp only; assumption)
    case zzos => exact rfl
    case zzQ => exact fun _ h => h
