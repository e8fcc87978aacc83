import PyProof.Rows.All
import Wide.All
import OpenK.AllK
import Wide.FinOn
import PySem.Challenge.RW_dz0023_01
open PySem PySem.W PyProof.Rows PySem.Builtin PySem.Builtin.Str
set_option Elab.async false
namespace Mine
/-- what find gives: the first place, or -1 -/
def FSp (x y : Str) (hi : Nat) (i : Int) : Prop :=
  (i = -1 ∧ ∀ v, ¬ StrLaws.At x y hi v) ∨ ∃ k : Nat, i = (k : Int) ∧ StrLaws.At x y hi k ∧ ∀ v, v < k → ¬ StrLaws.At x y hi v
/-- what rfind gives: the last place, or -1 -/
def RSp (x y : Str) (hi : Nat) (i : Int) : Prop :=
  (i = -1 ∧ ∀ v, ¬ StrLaws.At x y hi v) ∨ ∃ k : Nat, i = (k : Int) ∧ StrLaws.At x y hi k ∧ ∀ v, k < v → ¬ StrLaws.At x y hi v

def hiOf (n : Nat) (j : Int) : Nat := min (fromIndex n j) n

theorem occ_sp (x y : Str) (hi : Nat) : FSp x y hi (match occurrences x y 0 hi 1 with | i :: _ => (i : Int) | [] => -1) := by
  rw [StrLaws.occ_eq]
  rcases StrLaws.occ_first x y hi 1 (Nat.le_refl 1) (List.range' 0 (hi + 1 - 0)) 0 (fun _ _ => Nat.zero_le _) with ⟨h0, hn⟩ | ⟨pre, a, post, e, h0, ha, hn⟩
  · rw [h0]
    refine .inl ⟨rfl, fun i hi' => ?_⟩
    exact hn i (by have := hi'.1; rw [List.mem_range'_1]; omega) hi'
  · generalize (forIn (List.range' 0 (hi + 1 - 0)) ((#[] : Array Nat), 0) (StrLaws.occBody x y hi 1)).run.fst = arr at h0
    have h1 : arr.toList[0]? = some a := by simpa using h0
    cases hL : arr.toList with
    | nil => rw [hL] at h1; cases h1
    | cons b t =>
      rw [hL] at h1
      simp at h1
      subst h1
      exact .inr ⟨b, rfl, ha, fun k hk => hn k (StrLaws.range'_split e k hk)⟩

theorem last_sp (x y : Str) (hi : Nat) : RSp x y hi (match lastOccurrence x y 0 hi with | some i => (i : Int) | none => -1) := by
  rw [StrLaws.last_eq]
  have key := StrLaws.last_run x y hi (List.range' 0 (hi + 1 - 0)) [] none (fun _ h => nomatch h) (fun _ h => nomatch h) (by simpa using List.pairwise_lt_range' (s := 0) (n := hi + 1 - 0))
  have mem : ∀ i, StrLaws.At x y hi i → i ∈ [] ++ List.range' 0 (hi + 1 - 0) := fun i hi' => by have := hi'.1; rw [List.nil_append, List.mem_range'_1]; omega
  cases hr : (forIn (List.range' 0 (hi + 1 - 0)) none (StrLaws.lastBody x y hi)).run with
  | none => rw [hr] at key; exact .inl ⟨rfl, fun i hi' => key i (mem i hi') hi'⟩
  | some a => rw [hr] at key; exact .inr ⟨a, rfl, key.1, fun k hk hA => key.2 k (mem k hA) hk hA⟩

theorem gives_find4 (x y : Str) (j : Int) (t u v v' : Tok) : Gives («str.find» ⟨[.str x t, .str y u, .int 0 v, .int j v'], []⟩) (.int (match occurrences x y 0 (hiOf x.length j) 1 with | k :: _ => (k : Int) | [] => -1)) := by
  show Gives (match occurrences x y 0 (hiOf x.length j) 1 with | k :: _ => retInt k | [] => (do rule "str.find.not-found"; retInt (-1))) _
  cases occurrences x y 0 (hiOf x.length j) 1 with
  | nil => exact .rule (.of_eq rfl)
  | cons k _ => exact .of_eq rfl
theorem gives_rfind4 (x y : Str) (j : Int) (t u v v' : Tok) : Gives («str.rfind» ⟨[.str x t, .str y u, .int 0 v, .int j v'], []⟩) (.int (match lastOccurrence x y 0 (hiOf x.length j) with | some i => (i : Int) | none => -1)) := by
  show Gives (match lastOccurrence x y 0 (hiOf x.length j) with | some i => retInt i | none => (do rule "str.rfind.not-found"; retInt (-1))) _
  cases lastOccurrence x y 0 (hiOf x.length j) with
  | none => exact .rule (.of_eq rfl)
  | some i => exact .of_eq rfl

section
variable {prog : Program} {w : World} {A : Around} {E : Value → Shared → Prop} {s : Shared} {x y : Str} {t u v v' : Tok} {j : Int} {Q : Value → Shared → Prop}
theorem find2 (hq : ∀ i : Int, FSp x y x.length i → Q (.int i s.toks) { s with toks := s.toks + 1 }) : wpAny (model prog w) A (call (.builtin "str.find") [.str x t, .str y u]) Q E s :=
  call_gives F.slot_str_find (typeIs_str _ _ _) F.entry_str_find (F.args_str_find_2 _ _) (gives_str_find x y t u) (hq _ (occ_sp x y x.length))
theorem find4 (hq : ∀ i : Int, FSp x y (hiOf x.length j) i → Q (.int i s.toks) { s with toks := s.toks + 1 }) : wpAny (model prog w) A (call (.builtin "str.find") [.str x t, .str y u, .int 0 v, .int j v']) Q E s :=
  call_gives F.slot_str_find (typeIs_str _ _ _) F.entry_str_find (F.args_str_find_4 _ _ _ _) (gives_find4 x y j t u v v') (hq _ (occ_sp x y _))
theorem rfind4 (hq : ∀ i : Int, RSp x y (hiOf x.length j) i → Q (.int i s.toks) { s with toks := s.toks + 1 }) : wpAny (model prog w) A (call (.builtin "str.rfind") [.str x t, .str y u, .int 0 v, .int j v']) Q E s :=
  call_gives F.slot_str_rfind (typeIs_str _ _ _) F.entry_str_rfind (F.args_str_rfind_4 _ _ _ _) (gives_rfind4 x y j t u v v') (hq _ (last_sp x y _))

theorem sum_ones : ∀ ys : List Str, (∀ a ∈ ys, Str.length a = 1) → (ys.map (·.length)).sum = ys.length
  | [], _ => rfl
  | a :: r, h => by
    rw [List.map_cons, List.sum_cons, sum_ones r (fun b hb => h b (.tail _ hb)), h a (.head _), List.length_cons]
    omega

theorem join1 {D : Addr} {items : Array Value} {ys : List Str} (hl : s.heap.IsList D items) (hi : StrsAre items.toList ys) (h1 : ∀ a ∈ ys, Str.length a = 1) (hn : ys.length ≤ 24)
    (h : ∀ J : Str, J.length ≤ 24 → ∀ t' k, Q (.str J t') { s with toks := k }) : wpAny (model prog w) A (call (.builtin "str.join") [.str (Str.ofString "") t, .ref D]) Q E s := by
  refine join_list hl hi ?_ fun t' k => h _ ?_ t' k
  · have z : (PySem.Str.ofString "").length = 0 := by decide
    rw [sum_ones ys h1, z]
    omega
  · rw [KT.join_ones ys h1]
    exact hn

theorem addT (hx : x.length ≤ 24) (hy : y.length ≤ 10)
    (h : ∀ T : Str, T.length ≤ 34 → ∀ t' k, Q (.str T t') { s with toks := k }) : wpAny (model prog w) A (binaryOp .Add (.str x t) (.str y u)) Q E s :=
  KOpn.add (by omega) fun t' k e => h _ (by omega) t' k

theorem neT (e : x = y) (h : Q (.bool false) s) : wpAny (model prog w) A (compareOp .NotEq (.str x t) (.str y u)) Q E s := by
  subst e
  exact ne_str (by rw [bne_self_eq_false]; exact h)

theorem itemT {value slice : PySem.Expr} {i : Int} (h0 : 0 ≤ i) (h1 : i < (x.length : Int)) (hn : x.length ≤ 34) (h : (Txt.item x i).length = 1 → Q (.str (Txt.item x i) s.toks) { s with toks := s.toks + 1 })
    (hs : subscripted slice false (.str x t) (.int i u) = operate [.str x t, .int i u] (getItem (.str x t) (.int i u)) := by with_unfolding_all rfl)
    (ht : ∀ r, letTemporaryGo value (.str x t) r = pure () := by intro _; with_unfolding_all rfl) :
    wpAny (model prog w) A (subscriptTail value slice (.str x t) (.int i u)) Q E s :=
  KXi.item (n := x.length) rfl (by omega) h1 (by omega) h hs ht
end

section
variable {prog : Program} {w : World} {A : Around} {E : Value → Shared → Prop} {s : Shared} {value slice : Expr} {x : Str} {t : Tok} {h₀ : Heap} {L : Addr} {m : Str → Option Value} {news : List (Addr × Obj)} {Q : Value → Shared → Prop}
theorem cutT {i j : Int} {ui uj : Tok} (hF : Fr h₀ L s.heap m) (hN : News h₀ L s.heap news) (hsz : x.length ≤ 34)
    (h : ∀ (M : Str) h' t' k, M.length ≤ 34 → M = Txt.slice x (some i) (some j) → Fr h₀ L h' m → News h₀ L h' news → Q (.str M t') { s with heap := h', toks := k })
    (hs : subscripted slice false (.str x t) (.ref s.heap.objs.size) = operate [.ref s.heap.objs.size, .str x t] (getItem (.str x t) (.ref s.heap.objs.size)) := by with_unfolding_all rfl)
    (ht : ∀ r, letTemporaryGo value (.str x t) r = pure () := by intro _; with_unfolding_all rfl) :
    wpAny (model prog w) A (subscriptTail value slice (.str x t) (.ref s.heap.objs.size)) Q E { s with heap := s.heap.push { cls := .type "slice", data := .fields #[.int i ui, .int j uj, .none] } } :=
  slice_strN_ss hF hN (fun h' t' k a b => h _ h' t' k (Nat.le_trans (Txt.slice_le x _ _) hsz) rfl a b) hs ht (by rw [PySem.sizeLine_eq]; omega)
end

/-- one step of the walk: the name in hand, and whether it is over -/
def stp (p : List Nat × Bool) (c : Nat) : List Nat × Bool :=
  if p.2 = true then p else if c = 58 ∨ c = 10 then (p.1, true) else if c = 46 then ([], false) else (p.1 ++ [c], false)
def wk (l : List Nat) : List Nat × Bool := l.foldl stp ([], false)
def strip (m : Str) : Str := ⟨(wk m.cps.toList).1.toArray⟩

theorem fold_over : ∀ (l : List Nat) (n : List Nat), l.foldl stp (n, true) = (n, true)
  | [], _ => rfl
  | c :: l, n => by
    rw [List.foldl_cons]
    exact fold_over l n
theorem fold_plain : ∀ (l n : List Nat), (∀ c ∈ l, c ≠ 58 ∧ c ≠ 10 ∧ c ≠ 46) → l.foldl stp (n, false) = (n ++ l, false)
  | [], n, _ => by simp
  | c :: l, n, h => by
    have hc := h c (.head _)
    rw [List.foldl_cons]
    have e : stp (n, false) c = (n ++ [c], false) := by simp [stp, hc.1, hc.2.1, hc.2.2]
    rw [e, fold_plain l _ (fun d hd => h d (.tail _ hd))]
    simp
theorem fold_notOver : ∀ (l n : List Nat), (∀ c ∈ l, c ≠ 58 ∧ c ≠ 10) → (l.foldl stp (n, false)).2 = false
  | [], _, _ => rfl
  | c :: l, n, h => by
    have hc := h c (.head _)
    rw [List.foldl_cons]
    have e : stp (n, false) c = (n ++ [c], false) ∨ stp (n, false) c = ([], false) := by
      by_cases h46 : c = 46
      · exact .inr (by simp [stp, h46])
      · exact .inl (by simp [stp, hc.1, hc.2, h46])
    rcases e with e | e <;> rw [e] <;> exact fold_notOver l _ (fun d hd => h d (.tail _ hd))

theorem wk_dot (l : List Nat) (h : ∀ c ∈ l, c ≠ 58 ∧ c ≠ 10) : wk (l ++ [46]) = ([], false) := by
  unfold wk
  rw [List.foldl_append]
  have e := fold_notOver l [] h
  generalize l.foldl stp ([], false) = p at e
  obtain ⟨n, b⟩ := p
  cases e
  rfl

/-- the stretch from s to e, where e is the first end, s behind the last dot -/
theorem wk_eq (l : List Nat) (s e : Nat) (hse : s ≤ e) (hel : e ≤ l.length)
    (hend : e = l.length ∨ l[e]? = some 58 ∨ l[e]? = some 10)
    (hn : ∀ v, v < e → l[v]? ≠ some 58 ∧ l[v]? ≠ some 10)
    (hs : s = 0 ∨ ∃ k, s = k + 1 ∧ l[k]? = some 46)
    (hd : ∀ v, s ≤ v → v < e → l[v]? ≠ some 46) : (wk l).1 = (l.drop s).take (e - s) := by
  have e1 : l = l.take s ++ ((l.drop s).take (e - s) ++ l.drop e) := by
    have a := List.take_append_drop s l
    have b := List.take_append_drop (e - s) (l.drop s)
    rw [List.drop_drop, show s + (e - s) = e by omega] at b
    rw [b, a]
  have memA : ∀ c ∈ l.take s, c ≠ 58 ∧ c ≠ 10 := fun c hc => by
    obtain ⟨v, hv⟩ := List.mem_iff_getElem?.mp hc
    have hlt : v < s := by
      have := (List.getElem?_eq_some_iff.mp hv).1
      rw [List.length_take] at this
      omega
    rw [List.getElem?_take_of_lt hlt] at hv
    have q := hn v (by omega)
    rw [hv] at q
    exact ⟨fun z => q.1 (by rw [z]), fun z => q.2 (by rw [z])⟩
  have memB : ∀ c ∈ (l.drop s).take (e - s), c ≠ 58 ∧ c ≠ 10 ∧ c ≠ 46 := fun c hc => by
    obtain ⟨v, hv⟩ := List.mem_iff_getElem?.mp hc
    have hlt : v < e - s := by
      have := (List.getElem?_eq_some_iff.mp hv).1
      rw [List.length_take] at this
      omega
    rw [List.getElem?_take_of_lt hlt, List.getElem?_drop] at hv
    have q := hn (s + v) (by omega)
    have q2 := hd (s + v) (by omega) (by omega)
    rw [hv] at q q2
    exact ⟨fun z => q.1 (by rw [z]), fun z => q.2 (by rw [z]), fun z => q2 (by rw [z])⟩
  have hA : (l.take s).foldl stp ([], false) = ([], false) := by
    rcases hs with rfl | ⟨k, rfl, hk⟩
    · rfl
    · have ek : l.take (k + 1) = l.take k ++ [46] := by rw [List.take_add_one, hk]; rfl
      rw [ek] at memA ⊢
      exact wk_dot _ (fun c hc => memA c (List.mem_append.mpr (.inl hc)))
  have main : wk l = (l.drop e).foldl stp ((l.drop s).take (e - s), false) := by
    unfold wk
    conv => lhs; rw [e1]
    rw [List.foldl_append, List.foldl_append, hA, fold_plain _ _ memB, List.nil_append]
  rw [main]
  rcases hend with hE | hE
  · rw [hE, List.drop_length]
    rfl
  · have hlt : e < l.length := by
      rcases hE with h | h <;> exact (List.getElem?_eq_some_iff.mp h).1
    rw [List.drop_eq_getElem_cons hlt, List.foldl_cons]
    have hc : l[e] = 58 ∨ l[e] = 10 := by
      rcases hE with h | h
      · exact .inl (List.getElem?_eq_some_iff.mp h).2
      · exact .inr (List.getElem?_eq_some_iff.mp h).2
    have es : ∀ n : List Nat, stp (n, false) l[e] = (n, true) := fun n => by simp [stp, hc]
    rw [es, fold_over]

theorem at_one (x : Str) (c hi i : Nat) (hh : hi ≤ x.length) : StrLaws.At x ⟨#[c]⟩ hi i ↔ i < hi ∧ x.cps.toList[i]? = some c := by
  have e : (⟨#[c]⟩ : Str).length = 1 := rfl
  have k := StrLaws.subAt_one x c i
  constructor
  · intro h
    have h1 := h.1
    rw [e] at h1
    exact ⟨by omega, k.mp ⟨by rw [e]; omega, h.2⟩⟩
  · rintro ⟨h1, h2⟩
    have q := k.mpr h2
    exact ⟨by rw [e]; omega, q.2⟩

theorem fsp_one {x : Str} {c hi : Nat} {i : Int} (hh : hi ≤ x.length) (h : FSp x ⟨#[c]⟩ hi i) :
    (i = -1 ∧ ∀ v, v < hi → x.cps.toList[v]? ≠ some c) ∨ ∃ k : Nat, i = (k : Int) ∧ k < hi ∧ x.cps.toList[k]? = some c ∧ ∀ v, v < k → x.cps.toList[v]? ≠ some c := by
  rcases h with ⟨h1, h2⟩ | ⟨k, h1, h2, h3⟩
  · exact .inl ⟨h1, fun v hv e => h2 v ((at_one x c hi v hh).mpr ⟨hv, e⟩)⟩
  · have q := (at_one x c hi k hh).mp h2
    exact .inr ⟨k, h1, q.1, q.2, fun v hv e => h3 v hv ((at_one x c hi v hh).mpr ⟨by omega, e⟩)⟩
theorem rsp_one {x : Str} {c hi : Nat} {i : Int} (hh : hi ≤ x.length) (h : RSp x ⟨#[c]⟩ hi i) :
    (i = -1 ∧ ∀ v, v < hi → x.cps.toList[v]? ≠ some c) ∨ ∃ k : Nat, i = (k : Int) ∧ k < hi ∧ x.cps.toList[k]? = some c ∧ ∀ v, k < v → v < hi → x.cps.toList[v]? ≠ some c := by
  rcases h with ⟨h1, h2⟩ | ⟨k, h1, h2, h3⟩
  · exact .inl ⟨h1, fun v hv e => h2 v ((at_one x c hi v hh).mpr ⟨hv, e⟩)⟩
  · have q := (at_one x c hi k hh).mp h2
    exact .inr ⟨k, h1, q.1, q.2, fun v hv hv2 e => h3 v hv ((at_one x c hi v hh).mpr ⟨hv2, e⟩)⟩

theorem hiOf_nat (n k : Nat) (h : k ≤ n) : hiOf n (k : Int) = k := by
  unfold hiOf fromIndex
  rw [if_neg (by omega)]
  omega

/-- the function's value is the walk's -/
theorem tree {m : Str} {i1 i2 i3 e1 e2 st : Int}
    (h1 : FSp m (Str.ofString "\n") m.length i1) (he1 : e1 = if 0 ≤ i1 then i1 else (m.length : Int))
    (h2 : FSp m (Str.ofString ":") (hiOf m.length e1) i2) (he2 : e2 = if 0 ≤ i2 then i2 else e1)
    (h3 : RSp m (Str.ofString ".") (hiOf m.length e2) i3) (hst : st = if 0 ≤ i3 then i3 + 1 else 0) :
    Txt.slice m (some st) (some e2) = strip m := by
  rw [show PySem.Str.ofString "\n" = PySem.Str.mk #[10] from by decide +kernel] at h1
  rw [show PySem.Str.ofString ":" = PySem.Str.mk #[58] from by decide +kernel] at h2
  rw [show PySem.Str.ofString "." = PySem.Str.mk #[46] from by decide +kernel] at h3
  have hL : m.cps.toList.length = m.length := rfl
  -- the first end
  obtain ⟨E1, hE1, hE1l, hE1e, hE1n⟩ : ∃ E1 : Nat, e1 = (E1 : Int) ∧ E1 ≤ m.length ∧ (E1 = m.length ∨ m.cps.toList[E1]? = some 10) ∧ ∀ v, v < E1 → m.cps.toList[v]? ≠ some 10 := by
    rcases fsp_one (Nat.le_refl _) h1 with ⟨q, hn⟩ | ⟨k, q, hk, hc, hn⟩
    · rw [if_neg (by omega)] at he1
      exact ⟨m.length, he1, Nat.le_refl _, .inl rfl, hn⟩
    · rw [if_pos (by omega)] at he1
      exact ⟨k, by omega, by omega, .inr hc, hn⟩
  subst hE1
  rw [hiOf_nat _ _ hE1l] at h2
  obtain ⟨E2, hE2, hE2l, hE2e, hE2n⟩ : ∃ E2 : Nat, e2 = (E2 : Int) ∧ E2 ≤ E1 ∧ (E2 = E1 ∨ m.cps.toList[E2]? = some 58) ∧ ∀ v, v < E2 → m.cps.toList[v]? ≠ some 58 := by
    rcases fsp_one hE1l h2 with ⟨q, hn⟩ | ⟨k, q, hk, hc, hn⟩
    · rw [if_neg (by omega)] at he2
      exact ⟨E1, he2, Nat.le_refl _, .inl rfl, hn⟩
    · rw [if_pos (by omega)] at he2
      exact ⟨k, by omega, by omega, .inr hc, hn⟩
  subst hE2
  rw [hiOf_nat _ _ (by omega)] at h3
  obtain ⟨S, hS, hSl, hSe, hSn⟩ : ∃ S : Nat, st = (S : Int) ∧ S ≤ E2 ∧ (S = 0 ∨ ∃ k, S = k + 1 ∧ m.cps.toList[k]? = some 46) ∧ ∀ v, S ≤ v → v < E2 → m.cps.toList[v]? ≠ some 46 := by
    rcases rsp_one (by omega) h3 with ⟨q, hn⟩ | ⟨k, q, hk, hc, hn⟩
    · rw [if_neg (by omega)] at hst
      exact ⟨0, hst, by omega, .inl rfl, fun v _ hv => hn v hv⟩
    · rw [if_pos (by omega)] at hst
      exact ⟨k + 1, by omega, by omega, .inr ⟨k, rfl, hc⟩, fun v h1 h2 => hn v (by omega) h2⟩
  subst hS
  have hend : E2 = m.cps.toList.length ∨ m.cps.toList[E2]? = some 58 ∨ m.cps.toList[E2]? = some 10 := by
    rcases hE2e with h | h
    · rcases hE1e with h' | h'
      · exact .inl (by omega)
      · exact .inr (.inr (by rw [h]; exact h'))
    · exact .inr (.inl h)
  have key := wk_eq m.cps.toList S E2 hSl (by omega) hend (fun v hv => ⟨hE2n v hv, hE1n v (by omega)⟩) hSe hSn
  have c := slice_closesL (x := m) (i := (S : Int)) (j := (E2 : Int)) (by omega) (by omega) (by omega)
  rw [eq_of_beq c]
  unfold strip
  rw [key]
  have e3 : ((E2 : Int) - (S : Int)).toNat = E2 - S := by omega
  rw [e3]
  rfl

/-- what the inner loop keeps -/
def Inv (text : Str) (start : Int) (pre : List Int) (name : Str) (over : Bool) : Prop :=
  name = ⟨(wk ((text.cps.toList.drop start.toNat).take pre.length)).1.toArray⟩ ∧ over = (wk ((text.cps.toList.drop start.toNat).take pre.length)).2

theorem fold_len : ∀ (l : List Nat) (p : List Nat × Bool), (l.foldl stp p).1.length ≤ p.1.length + l.length
  | [], p => by simp
  | c :: l, p => by
    rw [List.foldl_cons]
    have h := fold_len l (stp p c)
    have e : (stp p c).1.length ≤ p.1.length + 1 := by
      unfold stp
      split
      · omega
      · split
        · simp
        · split
          · simp
          · simp
    rw [List.length_cons]
    omega
theorem inv_len {text : Str} {start : Int} {pre : List Int} {name : Str} {over : Bool} (h : Inv text start pre name over) : name.length ≤ pre.length := by
  rw [h.1]
  have q := fold_len ((text.cps.toList.drop start.toNat).take pre.length) ([], false)
  have e : ((text.cps.toList.drop start.toNat).take pre.length).length ≤ pre.length := by rw [List.length_take]; omega
  show (wk ((text.cps.toList.drop start.toNat).take pre.length)).1.toArray.size ≤ _
  rw [List.size_toArray]
  unfold wk
  simp only [List.length_nil, Nat.zero_add] at q
  omega
theorem inv_both {text : Str} {start : Int} {pre : List Int} {name : Str} {over : Bool} (h : Inv text start pre name over) : Inv text start pre name over ∧ name.length ≤ pre.length := ⟨h, inv_len h⟩
theorem inv_nil (text : Str) (start : Int) : Inv text start [] (Str.ofString "") false := ⟨by rfl, by rfl⟩

theorem inv_strip {text M : Str} {start j : Int} {pre : List Int} {name : Str} {over : Bool} (h : Inv text start pre name over) (h0 : 0 ≤ start) (hj : j = start + (pre.length : Int)) (hl : j ≤ (text.length : Int))
    (hM : M = Txt.slice text (some start) (some j)) : strip M = name := by
  have c := slice_closesL (x := text) (i := start) (j := j) h0 (by omega) hl
  rw [hM, eq_of_beq c, h.1]
  unfold strip
  have e : (j - start).toNat = pre.length := by omega
  rw [e]

theorem seg_end {text : Str} {start j : Int} {pre : List Int} (h0 : 0 ≤ start) (hj : j = start + (pre.length : Int)) (hl : ¬ j < (text.length : Int)) (k : Int) :
    (text.cps.toList.drop start.toNat).take (pre ++ [k]).length = (text.cps.toList.drop start.toNat).take pre.length := by
  have hL : text.cps.toList.length = text.length := rfl
  rw [List.take_of_length_le (by rw [List.length_drop, List.length_append, List.length_singleton]; omega), List.take_of_length_le (by rw [List.length_drop]; omega)]
theorem seg_more {text : Str} {start j : Int} {pre : List Int} (h0 : 0 ≤ start) (hj : j = start + (pre.length : Int)) (hl : j < (text.length : Int)) (k : Int) :
    ∃ c : Nat, Txt.item text j = ⟨#[c]⟩ ∧ (text.cps.toList.drop start.toNat).take (pre ++ [k]).length = (text.cps.toList.drop start.toNat).take pre.length ++ [c] := by
  have hL : text.cps.toList.length = text.length := rfl
  have hlt : j.toNat < text.cps.toList.length := by omega
  refine ⟨text.cps.toList[j.toNat], ?_, ?_⟩
  · have e1 : seqIndex? j text.length = some j.toNat := by
      unfold seqIndex?
      simp
      omega
    show (⟨#[(Txt.charAt text j).getD 0]⟩ : Str) = _
    unfold Txt.charAt
    rw [e1, Option.bind_some, ← Array.getElem?_toList, List.getElem?_eq_getElem hlt]
    rfl
  · rw [List.length_append, List.length_singleton, List.take_add_one, List.getElem?_drop, show start.toNat + pre.length = j.toNat by omega, List.getElem?_eq_getElem hlt]
    rfl
section
variable {text name : Str} {start j : Int} {pre : List Int} {over : Bool}
theorem inv_stay (h : Inv text start pre name over) (h0 : 0 ≤ start) (hj : j = start + (pre.length : Int)) (hl : ¬ j < (text.length : Int)) : Inv text start (pre ++ [j]) name over := by
  unfold Inv
  rw [seg_end h0 hj hl]
  exact h
theorem wk_snoc (l : List Nat) (c : Nat) : wk (l ++ [c]) = stp (wk l) c := by
  unfold wk
  rw [List.foldl_append]
  rfl
theorem inv_step (h : Inv text start pre name over) (h0 : 0 ≤ start) (hj : j = start + (pre.length : Int)) (hl : j < (text.length : Int)) :
    ∃ c : Nat, Txt.item text j = ⟨#[c]⟩ ∧ Inv text start (pre ++ [j]) ⟨(stp (name.cps.toList, over) c).1.toArray⟩ (stp (name.cps.toList, over) c).2 := by
  obtain ⟨c, hc, e⟩ := seg_more h0 hj hl j
  refine ⟨c, hc, ?_⟩
  unfold Inv
  rw [e, wk_snoc]
  have q : wk ((text.cps.toList.drop start.toNat).take pre.length) = (name.cps.toList, over) := by
    rw [h.1, h.2]
  rw [q]
  exact ⟨rfl, rfl⟩
theorem inv_over (h : Inv text start pre name true) (h0 : 0 ≤ start) (hj : j = start + (pre.length : Int)) : Inv text start (pre ++ [j]) name true := by
  by_cases hl : j < (text.length : Int)
  · obtain ⟨c, _, q⟩ := inv_step h h0 hj hl
    exact q
  · exact inv_stay h h0 hj hl
theorem inv_end (h : Inv text start pre name false) (h0 : 0 ≤ start) (hj : j = start + (pre.length : Int)) (hl : j < (text.length : Int)) (hc : Txt.item text j = Str.ofString ":" ∨ Txt.item text j = Str.ofString "\n") : Inv text start (pre ++ [j]) name true := by
  obtain ⟨c, e, q⟩ := inv_step h h0 hj hl
  rw [e, show PySem.Str.ofString "\n" = PySem.Str.mk #[10] from by decide +kernel, show PySem.Str.ofString ":" = PySem.Str.mk #[58] from by decide +kernel] at hc
  have hc' : c = 58 ∨ c = 10 := by simpa using hc
  have es : stp (name.cps.toList, false) c = (name.cps.toList, true) := by simp [stp, hc']
  rw [es] at q
  exact q
theorem inv_dot (h : Inv text start pre name false) (h0 : 0 ≤ start) (hj : j = start + (pre.length : Int)) (hl : j < (text.length : Int)) (hc : Txt.item text j = Str.ofString ".") : Inv text start (pre ++ [j]) (Str.ofString "") false := by
  obtain ⟨c, e, q⟩ := inv_step h h0 hj hl
  rw [e, show PySem.Str.ofString "." = PySem.Str.mk #[46] from by decide +kernel] at hc
  have hc' : c = 46 := by simpa using hc
  have es : stp (name.cps.toList, false) c = ([], false) := by simp [stp, hc']
  rw [es] at q
  exact q
theorem inv_more (h : Inv text start pre name false) (h0 : 0 ≤ start) (hj : j = start + (pre.length : Int)) (hl : j < (text.length : Int)) (h1 : ¬ Txt.item text j = Str.ofString ":") (h2 : ¬ Txt.item text j = Str.ofString "\n") (h3 : ¬ Txt.item text j = Str.ofString ".") :
    Inv text start (pre ++ [j]) (name ++ Txt.item text j) false := by
  obtain ⟨c, e, q⟩ := inv_step h h0 hj hl
  rw [e, show PySem.Str.ofString ":" = PySem.Str.mk #[58] from by decide +kernel] at h1
  rw [e, show PySem.Str.ofString "\n" = PySem.Str.mk #[10] from by decide +kernel] at h2
  rw [e, show PySem.Str.ofString "." = PySem.Str.mk #[46] from by decide +kernel] at h3
  have h1' : ¬ c = 58 := by simpa using h1
  have h2' : ¬ c = 10 := by simpa using h2
  have h3' : ¬ c = 46 := by simpa using h3
  have es : stp (name.cps.toList, false) c = (name.cps.toList ++ [c], false) := by simp [stp, h1', h2', h3']
  rw [es] at q
  have en : name ++ Txt.item text j = ⟨(name.cps.toList ++ [c]).toArray⟩ := by
    rw [e]
    refine PySem.Str.ext' ?_
    rw [PySem.Str.cps_append]
    apply Array.ext'
    simp
  rw [en]
  exact q
end

theorem sg_more {signs : List Str} {pre : List Int} {y : Str} {k : Int} (h1 : signs.length = pre.length) (h2 : ∀ x ∈ signs, Str.length x = 1) (h3 : y.length = 1) :
    (signs ++ [y]).length = (pre ++ [k]).length ∧ ∀ x ∈ signs ++ [y], Str.length x = 1 := by
  refine ⟨by simp [h1], fun x hx => ?_⟩
  rcases List.mem_append.mp hx with h | h
  · exact h2 x h
  · rw [List.mem_singleton.mp h]; exact h3
theorem sg_nil : ([] : List Str).length = ([] : List Int).length ∧ ∀ x ∈ ([] : List Str), Str.length x = 1 := ⟨rfl, fun _ h => nomatch h⟩
theorem tree2 {M m : Str} {i1 i2 i3 e1 e2 st : Int} (hM : M = Txt.slice m (some st) (some e2))
    (h3 : RSp m (Str.ofString ".") (hiOf m.length e2) i3) (h2 : FSp m (Str.ofString ":") (hiOf m.length e1) i2) (h1 : FSp m (Str.ofString "\n") m.length i1)
    (he1 : (0 ≤ i1 ∧ e1 = i1) ∨ (¬ 0 ≤ i1 ∧ e1 = (m.length : Int))) (he2 : (0 ≤ i2 ∧ e2 = i2) ∨ (¬ 0 ≤ i2 ∧ e2 = e1)) (hst : (0 ≤ i3 ∧ st = i3 + 1) ∨ (¬ 0 ≤ i3 ∧ st = 0)) : M = strip m :=
  hM.trans (tree h1 (by split <;> omega) h2 (by split <;> omega) h3 (by split <;> omega))

section
variable {text name : Str} {start j : Int} {pre : List Int} {over : Bool}
theorem way_over (h : Inv text start pre name over) (h0 : 0 ≤ start) (hj : j = start + (pre.length : Int)) (e : over = true) : Inv text start (pre ++ [j]) name over ∧ name.length ≤ (pre ++ [j]).length := by
  subst e
  exact inv_both (inv_over h h0 hj)
theorem way_stay (h : Inv text start pre name over) (h0 : 0 ≤ start) (hj : j = start + (pre.length : Int)) (hl : ¬ j < (text.length : Int)) : Inv text start (pre ++ [j]) name over ∧ name.length ≤ (pre ++ [j]).length :=
  inv_both (inv_stay h h0 hj hl)
theorem way_colon (h : Inv text start pre name over) (h0 : 0 ≤ start) (hj : j = start + (pre.length : Int)) (hl : j < (text.length : Int)) (e : over = false) (hc : (Txt.item text j == Str.ofString ":") = true) : Inv text start (pre ++ [j]) name true ∧ name.length ≤ (pre ++ [j]).length := by
  subst e
  exact inv_both (inv_end h h0 hj hl (.inl (eq_of_beq hc)))
theorem way_line (h : Inv text start pre name over) (h0 : 0 ≤ start) (hj : j = start + (pre.length : Int)) (hl : j < (text.length : Int)) (e : over = false) (hc : (Txt.item text j == Str.ofString "\n") = true) : Inv text start (pre ++ [j]) name true ∧ name.length ≤ (pre ++ [j]).length := by
  subst e
  exact inv_both (inv_end h h0 hj hl (.inr (eq_of_beq hc)))
theorem way_dot (h : Inv text start pre name over) (h0 : 0 ≤ start) (hj : j = start + (pre.length : Int)) (hl : j < (text.length : Int)) (e : over = false) (hc : (Txt.item text j == Str.ofString ".") = true) : Inv text start (pre ++ [j]) (Str.ofString "") over ∧ (Str.ofString "").length ≤ (pre ++ [j]).length := by
  subst e
  exact inv_both (inv_dot h h0 hj hl (eq_of_beq hc))
theorem way_more (h : Inv text start pre name over) (h0 : 0 ≤ start) (hj : j = start + (pre.length : Int)) (hl : j < (text.length : Int)) (e : over = false) (h1 : (Txt.item text j == Str.ofString ":") = false) (h2 : (Txt.item text j == Str.ofString "\n") = false) (h3 : (Txt.item text j == Str.ofString ".") = false) :
    Inv text start (pre ++ [j]) (name ++ Txt.item text j) over ∧ (name ++ Txt.item text j).length ≤ (pre ++ [j]).length := by
  subst e
  exact inv_both (inv_more h h0 hj hl (ne_of_beq_false h1) (ne_of_beq_false h2) (ne_of_beq_false h3))
end
end Mine

local macro_rules | `(tactic| walk_at "call builtin:str.join") => `(tactic| (k_here; (with_reducible show wpAny _ _ (call (Value.builtin "str.join") [Value.str _ _, Value.ref _]) _ _ _); (refine Mine.join1 (by is_list) (by assumption) (by assumption) (by omega) ?_); intro TX hTX _ _))
local macro_rules | `(tactic| walk_at "binaryOp Add str str") => `(tactic| (k_here; (with_reducible show wpAny _ _ (binaryOp Operator.Add (Value.str _ _) (Value.str (PySem.Str.ofString _) _)) _ _ _); (refine Mine.addT (by assumption) (by decide +kernel) ?_); intro TX hTX _ _))
local macro_rules | `(tactic| walk_at "call builtin:str.find") => `(tactic| (k_here; first | (refine Mine.find2 ?_; intro iF hF) | (refine Mine.find4 ?_; intro iF hF)))
local macro_rules | `(tactic| walk_at "call builtin:str.rfind") => `(tactic| (k_here; (refine Mine.rfind4 ?_; intro iF hF)))
local macro_rules | `(tactic| walk_at "compareOp NotEq str str") => `(tactic| (k_here; (refine Mine.neT (Mine.inv_strip (by assumption) (by omega) (by omega) (by omega) (by assumption)) ?_)))
local macro_rules | `(tactic| walk_at "subscriptTail Name Slice str ref") => `(tactic| (k_here; (with_reducible show wpAny _ _ (subscriptTail _ (Expr.Slice _ _ _ _) (Value.str _ _) (Value.ref _)) _ _ _); (with_reducible rename Fr _ _ _ _ => F'); (with_reducible rename News _ _ _ _ => N'); (refine Mine.cutT (s := ⟨_, _, _, _, _⟩) F' N' (by assumption) ?_); intro MX _ _ _ hMX hME _ _))

set_option maxRecDepth 100000 in
set_option maxHeartbeats 8000000 in
theorem PySem.Challenge.cw_dz0023_01_holds : PySem.Challenge.rw_dz0023_01.Holds := by
  (k_with "pyIter ref" => (k_of "number" => k_state (fun pre signs => signs.length = pre.length ∧ (∀ x ∈ signs, Str.length x = 1)) "signs$"))
  (k_with "pyIter ref" => (k_of "start" => k_state (fun pre signs => True) "signs$"))
  (k_with "pyIter ref" => (k_of "stop" => k_state_given ["text", "start"] (fun text start pre name over => Mine.Inv text start pre name over ∧ name.length ≤ pre.length) "name" "over"))
  (k_with "call ref" => k_call_by "_strip_exception_details" Mine.strip (fun (m : Str) => m.length ≤ 34))
  (k_with "tree" => ((with_reducible show _ = Mine.strip _); exact Mine.tree2 (by with_reducible assumption) (by with_reducible assumption) (by with_reducible assumption) (by with_reducible assumption) (by omega) (by omega) (by omega)))
  (k_with "state" => first
    | exact Mine.sg_nil
    | exact Mine.sg_more (by assumption) (by assumption) (by first | assumption | rfl)
    | exact Mine.inv_both (Mine.inv_nil _ _)
    | exact Mine.way_over (by with_reducible assumption) (by omega) (by omega) (by with_reducible assumption)
    | exact Mine.way_stay (by with_reducible assumption) (by omega) (by omega) (by with_reducible assumption)
    | exact Mine.way_colon (by with_reducible assumption) (by omega) (by omega) (by with_reducible assumption) (by with_reducible assumption) (by with_reducible assumption)
    | exact Mine.way_line (by with_reducible assumption) (by omega) (by omega) (by with_reducible assumption) (by with_reducible assumption) (by with_reducible assumption)
    | exact Mine.way_dot (by with_reducible assumption) (by omega) (by omega) (by with_reducible assumption) (by with_reducible assumption) (by with_reducible assumption)
    | exact Mine.way_more (by with_reducible assumption) (by omega) (by omega) (by with_reducible assumption) (by with_reducible assumption) (by with_reducible assumption) (by with_reducible assumption) (by with_reducible assumption))
  open_k
