import PyProof.Rows.All
import Wide.All
import OpenK.AllK
import Wide.FinOn
import PySem.Challenge.RW_fc0189_01
set_option Elab.async false
section
open PySem PySem.W PyProof.Rows
set_option Elab.async false
set_option maxRecDepth 100000
set_option maxHeartbeats 8000000
open_top Mine.hd for PySem.Challenge.rw_fc0189_01
end
theorem Mine.off : True := by
  w_top off
  trivial
section
open PySem PySem.W PyProof.Rows PySem.Spec PySem.Calls
set_option Elab.async false
set_option maxRecDepth 100000
set_option maxHeartbeats 1000000

namespace Mine
open Builtin Builtin.Str

/-! the last place of a text between two places -/
def rfind4 (x y : Str) (i j : Int) : Int :=
  match lastOccurrence x y (fromIndex x.length i) (min (fromIndex x.length j) x.length) with | some k => (k : Int) | none => -1

theorem gives_rfind4 (x y : Str) (i j : Int) (t u v z : Tok) : Gives («str.rfind» ⟨[.str x t, .str y u, .int i v, .int j z], []⟩) (.int (rfind4 x y i j)) := by
  show Gives (match lastOccurrence x y (fromIndex x.length i) (min (fromIndex x.length j) x.length) with | some k => retInt k | none => (do rule "str.rfind.not-found"; retInt (-1))) _
  unfold rfind4
  cases lastOccurrence x y (fromIndex x.length i) (min (fromIndex x.length j) x.length) with
  | none => exact .rule (.of_eq rfl)
  | some k => exact .of_eq rfl

section
variable {prog : Program} {w : World} {A : Around} {E : Value → Shared → Prop} {s : Shared}
theorem call_rfind4 {x y : Str} {t u v z : Tok} {i j : Int} {Q : Value → Shared → Prop} (hq : Q (.int (rfind4 x y i j) s.toks) { s with toks := s.toks + 1 }) :
    wpAny (model prog w) A (call (.builtin "str.rfind") [.str x t, .str y u, .int i v, .int j z]) Q E s :=
  call_gives F.slot_str_rfind (typeIs_str _ _ _) F.entry_str_rfind (F.args_str_rfind_4 _ _ _ _) (gives_rfind4 x y i j t u v z) hq
end

theorem strs_snoc {y : Str} {t : Tok} : ∀ {vs : List Value} {ys : List Str}, StrsAre vs ys → StrsAre (vs ++ [.str y t]) (ys ++ [y])
  | _, _, .nil => .cons y t .nil
  | _, _, .cons z u r => .cons z u (strs_snoc r)
theorem strs_len : ∀ {vs : List Value} {ys : List Str}, StrsAre vs ys → vs.length = ys.length
  | _, _, .nil => rfl
  | _, _, .cons _ _ r => congrArg (· + 1) (strs_len r)
theorem strs_at : ∀ {vs : List Value} {ys : List Str}, StrsAre vs ys → ∀ (i : Nat) (v : Value), vs[i]? = some v → ∃ y t, ys[i]? = some y ∧ v = .str y t
  | _, _, .cons y t r, 0, v, h => ⟨y, t, rfl, by simpa using h.symm⟩
  | _, _, .cons y t r, i + 1, v, h => strs_at r i v (by simpa using h)

/-! the list of all folders, each with its slash -/
section
variable {prog : Program} {w : World} {A : Around} {h₀ : Heap} {L : Addr} {m : Str → Option Value} {env : Env} {s₁ : Shared}

theorem slash_src {p1 p2 p3 : Pos} {k : Nat} {scope : Scope} {cl : List (Str × Addr)} {Fin : Shared → List Value → List (Addr × Obj) → Prop} {ax : Addr} {vs : List Value} {n : Nat} {xs : List Str} {news : List (Addr × Obj)}
    (hh : A.handled = none) (F : Fr h₀ L s₁.heap m) (N : News h₀ L s₁.heap news) (hm : (ax, listOf vs.toArray n) ∈ news) (S : StrsAre vs xs) (hsz : vs.length ≤ sizeLine)
    (hlen : ∀ x ∈ xs, x.length ≤ 10000) (hsk : scope.kind = .function) (hloc : scope.names.lookup (Str.ofString "step") = some NameKind.local)
    (fin : ∀ g ys, StrsAre ys (xs.map (· ++ Str.ofString "/")) → Fin { s₁ with heap := g } ys news) :
    LCg.CompSrc prog w A h₀ L m env (.BinOp (.Name "step" p1) .Add (.Constant (.str "/") k p2) p3) "step" scope cl Fin (.ref ax) s₁ := by
  refine LCg.CompSrc.ledger hh F N hm (by rw [List.size_toArray]; exact hsz) fun g => ?_
  have key : ∀ (j i : Nat) (ys : List Value), i + j = vs.length → StrsAre ys ((xs.take i).map (· ++ Str.ofString "/")) →
      LCg.CompRest prog w A h₀ L m env (.BinOp (.Name "step" p1) .Add (.Constant (.str "/") k p2) p3) "step" scope cl { s₁ with heap := g } (LCg.SrcAt h₀ ax vs.toArray) (fun i v => vs.toArray[i]? = some v) (Fin { s₁ with heap := g }) j i ys news := by
    intro j
    induction j with
    | zero =>
      intro i ys hi hy
      have e : i = xs.length := by rw [← strs_len S]; omega
      subst e
      rw [List.take_length] at hy
      exact LCg.CompRest.zero (fin g ys hy)
    | succ j ih =>
      intro i ys hi hy
      refine LCg.CompRest.succ ?_
      intro v I oI C oC D m₂ h tk E' hv hC hx F N off ne
      obtain ⟨y, t, hk, hv'⟩ := strs_at S i v (by simpa using hv)
      subst hv'
      have hy1 : y.length ≤ 10000 := hlen y (List.mem_of_getElem? hk)
      refine wpAny_BinOp ?_
      refine ldVarK (hC.ns (N (C, oC) (.tail _ (.head _))).1) hx ?_ hsk (lookup_relabel_local hloc) (by decide)
      refine Constant_str ?_
      refine SB.add (fun t' k' => ?_) (by have h2 : (Str.ofString "/").length = 1 := by decide +kernel
                                          rw [h2, sizeLine_eq]; omega)
      refine ⟨h, k', news, rfl, F, N, off, .inr ⟨_, hm, rfl, _, rfl⟩, ?_⟩
      refine ih (i + 1) _ (by omega) ?_
      rw [List.take_add_one, hk]
      simpa using strs_snoc hy
  have := key vs.length 0 [] (by omega) (by simp only [List.take_zero, List.map_nil]; exact .nil)
  rw [List.size_toArray]
  exact this
end

/-! loops by an invariant over the frame's names and the ledger -/
section
variable {prog : Program} {w : World} {A : Around} {E : Value → Shared → Prop} {s : Shared} {env : Env} {h₀ : Heap} {x : Str} {body : List Stmt} {Q : Flow → Shared → Prop}

theorem unr_mono {L I : Addr} {it : Obj} {r r' : (Str → Option Value) → List (Addr × Obj) → Prop} (hr : ∀ m n, r m n → r' m n) {s₁ s₂ : Shared} {f : Flow} (h : UnrPost h₀ L s₁ I it r Q f s₂) : UnrPost h₀ L s₁ I it r' Q f s₂ := by
  have up : UnrEnd h₀ L s₁ I it r s₂ → UnrEnd h₀ L s₁ I it r' s₂ := by
    rintro ⟨h', tk, m', news', e, F', N', ho, q⟩
    exact ⟨h', tk, m', news', e, F', N', ho, hr _ _ q⟩
  cases f with
  | ret v => exact h
  | brk => exact h
  | next => exact up h
  | cont => exact up h

theorem list_rest_inv {I : Addr} {lp : Addr × Obj} (J : List Value → (Str → Option Value) → List (Addr × Obj) → Prop)
    (turn : ∀ v r m news (it : Obj) h tk, J (v :: r) m news → it.cls = .type "list_iterator" → Fr h₀ env.locals h (fun y => if y = x then some v else m y) → News h₀ env.locals h ((I, it) :: news) →
      wpAny (model prog w) A (execs body env) (UnrPost h₀ env.locals { s with heap := h, toks := tk } I it (fun m' n' => lp ∈ n' ∧ J r m' n') Q) E { s with heap := h, toks := tk })
    (done : ∀ m news h tk, J [] m news → Fr h₀ env.locals h m → News h₀ env.locals h news → Q .next { s with heap := h, toks := tk }) :
    ∀ (vs : List Value) m news, J vs m news → ListRest prog w A E h₀ env x body Q s I lp vs m news
  | [], m, news, hj => ListRest.zero fun h tk F N => done m news h tk hj F N
  | v :: r, m, news, hj => ListRest.succ fun it h tk hc F N =>
      wpAny_mono (turn v r m news it h tk hj hc F N) (fun f s₂ p => unr_mono (fun m' n' q => ⟨q.1, list_rest_inv J turn done r m' n' q.2⟩) p) fun _ _ e => e

theorem range_rest_inv {I : Addr} {a : Int} {n : Nat} (J : Nat → (Str → Option Value) → List (Addr × Obj) → Prop)
    (turn : ∀ i m news t h tk, i < n → J i m news → Fr h₀ env.locals h (fun y => if y = x then some (.int (a + (i : Int)) t) else m y) →
      News h₀ env.locals h ((I, itR (a + ((i + 1 : Nat) : Int)) ((n : Int) - ((i + 1 : Nat) : Int))) :: news) →
      wpAny (model prog w) A (execs body env) (UnrPost h₀ env.locals { s with heap := h, toks := tk } I (itR (a + ((i + 1 : Nat) : Int)) ((n : Int) - ((i + 1 : Nat) : Int))) (J (i + 1)) Q) E { s with heap := h, toks := tk })
    (done : ∀ m news h tk, J n m news → Fr h₀ env.locals h m → News h₀ env.locals h news → Q .next { s with heap := h, toks := tk }) :
    ∀ (k i : Nat) m news, i + k = n → J i m news → RangeRest prog w A E h₀ env x body Q s I a n k i m news
  | 0, i, m, news, e, hj => by
    have e' : i = n := by omega
    subst e'
    exact RangeRest.zero fun h tk F N => done m news h tk hj F N
  | k + 1, i, m, news, e, hj => RangeRest.succ fun t h tk F N =>
      wpAny_mono (turn i m news t h tk (by omega) hj F N) (fun f s₂ p => unr_mono (fun m' n' q => range_rest_inv J turn done k (i + 1) m' n' (by omega) q) p) fun _ _ e => e
end

/-! lists of texts in the ledger -/
section
variable {prog : Program} {w : World} {A : Around} {E : Value → Shared → Prop} {s : Shared} {h₀ : Heap} {L : Addr} {news : List (Addr × Obj)} {l : Addr} {vs : List Value} {n : Nat} {xs : List Str}
theorem strs_getD {k : Nat} (hi : StrsAre vs xs) (h : k < xs.length) : ∃ t, vs[k]? = some (.str (xs.getD k Str.empty) t) := by
  have h2 : k < vs.length := by rw [strs_len hi]; exact h
  obtain ⟨y, t, e1, e2⟩ := strs_at hi k vs[k] (List.getElem?_eq_getElem h2)
  refine ⟨t, ?_⟩
  rw [List.getElem?_eq_getElem h2, e2, List.getD_eq_getElem?_getD, e1]
  rfl
theorem item_strsN {value slice : Expr} {k : Int} {u : Tok} {Q : Value → Shared → Prop} (N : News h₀ L s.heap news) (hm : (l, listOf vs.toArray n) ∈ news) (hi : StrsAre vs xs) (h0 : 0 ≤ k) (h1 : k < xs.length) (hfit : k < 2 ^ 63)
    (h : ∀ t, Q (.str (xs.getD k.toNat Str.empty) t) s)
    (hs : subscripted slice false (.ref l) (.int k u) = operate [.ref l, .int k u] (getItem (.ref l) (.int k u)) := by with_unfolding_all rfl) :
    wpAny (model prog w) A (subscriptTail value slice (.ref l) (.int k u)) Q E s := by
  have hl := News.isList N hm
  obtain ⟨t, hx⟩ := strs_getD (k := k.toNat) hi (by omega)
  exact tail_any hl.typeIs slot_list_getitem.lookup (wpAny_getItem_list hl h0 hfit (by simpa using hx) (h t)) hs
theorem len_strsN {Q : Value → Shared → Prop} (N : News h₀ L s.heap news) (hm : (l, listOf vs.toArray n) ∈ news) (hi : StrsAre vs xs) (hfit : xs.length < 2 ^ 62)
    (h : Q (.int xs.length (s.toks + 1)) { s with toks := s.toks + 1 + 1 }) : wpAny (model prog w) A (call (.builtin "len") [.ref l]) Q E s := by
  have e : vs.toArray.size = xs.length := by rw [List.size_toArray]; exact strs_len hi
  exact len_list (News.isList N hm) (by rw [e]; omega) (by rw [e]; exact h)
end

theorem strs_drop : ∀ {vs : List Value} {xs : List Str} (k : Nat), StrsAre vs xs → StrsAre (vs.drop k) (xs.drop k)
  | _, _, 0, h => by simpa using h
  | _, _, k + 1, .nil => by simpa using StrsAre.nil
  | _, _, k + 1, .cons y t r => by simpa using strs_drop k r
theorem strs_take : ∀ {vs : List Value} {xs : List Str} (k : Nat), StrsAre vs xs → StrsAre (vs.take k) (xs.take k)
  | _, _, 0, h => by simpa using StrsAre.nil
  | _, _, k + 1, .nil => by simpa using StrsAre.nil
  | _, _, k + 1, .cons y t r => by simpa using StrsAre.cons y t (strs_take k r)
theorem strs_append : ∀ {vs us : List Value} {xs ys : List Str}, StrsAre vs xs → StrsAre us ys → StrsAre (vs ++ us) (xs ++ ys)
  | _, _, _, _, .nil, h => h
  | _, _, _, _, .cons y t r, h => .cons y t (strs_append r h)
def pickS (xs : List Str) (lo hi : Option Int) : List Str := (xs.drop (kms_lo lo xs.length)).take (kms_hi hi xs.length - kms_lo lo xs.length)
theorem pick_from {xs : List Str} {k : Int} (h0 : 0 ≤ k) : pickS xs (some k) none = xs.drop k.toNat := by
  unfold pickS kms_lo kms_hi
  have h1 : ¬ k < 0 := by omega
  simp only [h1, if_false]
  by_cases h : k.toNat ≤ xs.length
  · rw [Nat.min_eq_left h, List.take_of_length_le (by rw [List.length_drop]; omega)]
  · rw [Nat.min_eq_right (by omega), List.drop_eq_nil_of_le (as := xs) (i := xs.length) (Nat.le_refl _), List.drop_eq_nil_of_le (as := xs) (i := k.toNat) (by omega)]; exact List.take_nil
theorem pick_upto {xs : List Str} {k : Int} (h0 : 0 ≤ k) : pickS xs none (some k) = xs.take k.toNat := by
  unfold pickS kms_lo kms_hi
  have h1 : ¬ k < 0 := by omega
  simp only [h1, if_false, List.drop_zero, Nat.sub_zero]
  by_cases h : k.toNat ≤ xs.length
  · rw [Nat.min_eq_left h]
  · rw [Nat.min_eq_right (by omega), List.take_length, List.take_of_length_le (by omega)]
section
variable {prog : Program} {w : World} {A : Around} {E : Value → Shared → Prop} {s : Shared} {h₀ : Heap} {L : Addr} {m : Str → Option Value} {news : List (Addr × Obj)} {l : Addr} {vs : List Value} {n : Nat} {xs : List Str}
theorem slice_strsN {value slice : Expr} {vl vu : Value} {lo hi : Option Int} {Q : Value → Shared → Prop} (F : Fr h₀ L s.heap m) (N : News h₀ L s.heap news) (hm : (l, listOf vs.toArray n) ∈ news) (hi' : StrsAre vs xs) (pl : IsPart vl lo) (pu : IsPart vu hi)
    (hsz : xs.length ≤ 10000)
    (h : ∀ D us c h', Fr h₀ L h' m → News h₀ L h' ((D, listOf (List.toArray us) c) :: news) → (∀ p ∈ news, p.1 < D) → StrsAre us (pickS xs lo hi) → Q (.ref D) { s with heap := h' })
    (hs : subscripted slice false (.ref l) (.ref s.heap.objs.size) = operate [.ref s.heap.objs.size, .ref l] (getItem (.ref l) (.ref s.heap.objs.size))) (ht : ∀ r, letTemporaryGo value (.ref l) r = pure ()) :
    wpAny (model prog w) A (subscriptTail value slice (.ref l) (.ref s.heap.objs.size)) Q E { s with heap := s.heap.push { cls := .type "slice", data := .fields #[vl, vu, .none] } } := by
  have e := strs_len hi'
  refine kms_slice_lit F N (News.isList N hm) pl pu rfl (fun D h' F' N' l1 => h D _ 0 h' F' N' l1 ?_) hs ht (by rw [List.size_toArray, e, sizeLine_eq]; omega)
  unfold pickS kms_pick
  rw [List.toList_toArray, e]
  exact strs_take _ (strs_drop _ hi')
end
end Mine
end
section
open PySem PyProof.Rows
namespace Mine
open Builtin Builtin.Str

/-! what join reckons, in plain functions over texts -/
abbrev S (s : String) : Str := Str.ofString s

/-- one dot ahead is struck -/
def undot (p : Str) : Str := if Txt.slice p none (some 2) == S "./" then Txt.slice p (some 2) none else p

/-- the last part of join: `n` turns at most; the folders' end is kept as the place of the last slash -/
def climb : Nat → Str → Str → Int → Int → Str × Str × Int
  | 0, p, h, r, _ => (p, h, r)
  | n + 1, p, h, r, b =>
    if undot p == S "." then climb n (S "") h r b
    else if Txt.slice (undot p) none (some 3) == S "../" || undot p == S ".." then
      let i := rfind4 h (S "/") b r
      if i ≥ 0 then climb n (Txt.slice (undot p) (some 3) none) (Txt.slice h none (some (i + 1))) i b
      else climb n (Txt.slice (undot p) (some 3) none) h r b
    else (undot p, h, r)
def told (frag : Str) (q : Str × Str × Int) : Str := Txt.slice q.2.1 none (some (q.2.2 + 1)) ++ q.1 ++ frag

def cut (x : Str) : Str × Str := if 0 ≤ Txt.rfind x (S "#") then (Txt.slice x none (some (Txt.rfind x (S "#"))), Txt.slice x (some (Txt.rfind x (S "#"))) none) else (x, S "")
def whole (t : Str) : Bool := decide (0 ≤ Txt.find t (S ":")) && (decide (Txt.find t (S "/") < 0) || decide (Txt.find t (S ":") < Txt.find t (S "/")))
def bp0 (h : Str) : Int := if Txt.slice h (some (Txt.find h (S ":") + 1)) (some (Txt.find h (S ":") + 3)) == S "//" then Txt.find3 h (S "/") (Txt.find h (S ":") + 3) else Txt.find h (S ":") + 1
def bp (h : Str) : Int := if bp0 h < 0 then h.length else bp0 h
def rooted (h : Str) : Str := if bp0 h < 0 then h ++ S "/" else h

def joinF (here there : Str) : Str :=
  if whole there then there
  else if (cut there).1.length == 0 then here ++ (cut there).2
  else if Txt.slice there none (some 2) == S "//" then Txt.slice (rooted here) none (some (Txt.find here (S ":") + 1)) ++ there
  else if Txt.slice there none (some 1) == S "/" then Txt.slice (rooted here) none (some (bp here)) ++ there
  else told (cut there).2 (climb (there.length + 3) (cut there).1 (rooted here) (Txt.rfind (rooted here) (S "/")) (bp here))
theorem len_eq {x y : Str} (h : (x == y) = true) : x.length = y.length := by rw [eq_of_beq h]
theorem len_undot (p : Str) : (undot p).length ≤ p.length := by
  unfold undot
  split
  · rcases slice_sn_cases p 2 (by omega) with ⟨_, h⟩ | ⟨_, h⟩ <;> omega
  · exact Nat.le_refl _
theorem len_up {q : Str} (h : (Txt.slice q none (some 3) == S "../") = true ∨ (q == S "..") = true) : (Txt.slice q (some 3) none).length < q.length := by
  have e3 : (S "../").length = 3 := by decide +kernel
  have e2 : (S "..").length = 2 := by decide +kernel
  rcases h with h | h
  · have h := len_eq h
    rcases slice_sn_cases q 3 (by omega) with ⟨_, h1⟩ | ⟨_, h1⟩ <;> rcases slice_ns_cases q 3 (by omega) with ⟨_, h2⟩ | ⟨_, h2⟩ <;> omega
  · have h := len_eq h
    rcases slice_sn_cases q 3 (by omega) with ⟨_, h1⟩ | ⟨_, h1⟩ <;> omega
section
variable {p h q : Str} {n : Nat} {r b : Int} {R : Str × Str × Int}
theorem climb_dot (hu : undot p = q) (hq : (q == S ".") = true) (hl : p.length < n) (eq : climb n p h r b = R) : (S "").length < n - 1 ∧ climb (n - 1) (S "") h r b = R := by
  have e1 : (S ".").length = 1 := by decide +kernel
  have e0 : (S "").length = 0 := by decide +kernel
  have h1 := len_undot p
  rw [hu, len_eq hq, e1] at h1
  obtain ⟨k, rfl⟩ : ∃ k, n = k + 1 := ⟨n - 1, by omega⟩
  refine ⟨by omega, ?_⟩
  unfold climb at eq
  rw [hu, if_pos hq] at eq
  exact eq
theorem climb_hit (hu : undot p = q) (hq : (q == S ".") = false) (hd : (Txt.slice q none (some 3) == S "../") = true ∨ (q == S "..") = true) (hi : 0 ≤ rfind4 h (S "/") b r) (hl : p.length < n) (eq : climb n p h r b = R) :
    (Txt.slice q (some 3) none).length < n - 1 ∧ climb (n - 1) (Txt.slice q (some 3) none) (Txt.slice h none (some (rfind4 h (S "/") b r + 1))) (rfind4 h (S "/") b r) b = R := by
  have h1 := len_undot p
  have h2 := len_up hd
  rw [hu] at h1
  obtain ⟨k, rfl⟩ : ∃ k, n = k + 1 := ⟨n - 1, by omega⟩
  refine ⟨by omega, ?_⟩
  unfold climb at eq
  rw [hu, if_neg (by rw [hq]; exact Bool.false_ne_true), if_pos (by rcases hd with hd | hd <;> simp [hd])] at eq
  dsimp only at eq
  rw [if_pos hi] at eq
  exact eq
theorem climb_miss (hu : undot p = q) (hq : (q == S ".") = false) (hd : (Txt.slice q none (some 3) == S "../") = true ∨ (q == S "..") = true) (hi : ¬ 0 ≤ rfind4 h (S "/") b r) (hl : p.length < n) (eq : climb n p h r b = R) :
    (Txt.slice q (some 3) none).length < n - 1 ∧ climb (n - 1) (Txt.slice q (some 3) none) h r b = R := by
  have h1 := len_undot p
  have h2 := len_up hd
  rw [hu] at h1
  obtain ⟨k, rfl⟩ : ∃ k, n = k + 1 := ⟨n - 1, by omega⟩
  refine ⟨by omega, ?_⟩
  unfold climb at eq
  rw [hu, if_neg (by rw [hq]; exact Bool.false_ne_true), if_pos (by rcases hd with hd | hd <;> simp [hd])] at eq
  dsimp only at eq
  rw [if_neg (by omega)] at eq
  exact eq
theorem climb_end (hu : undot p = q) (hq : (q == S ".") = false) (h1 : (Txt.slice q none (some 3) == S "../") = false) (h2 : (q == S "..") = false) (hl : p.length < n) : climb n p h r b = (q, h, r) := by
  obtain ⟨k, rfl⟩ : ∃ k, n = k + 1 := ⟨n - 1, by omega⟩
  unfold climb
  rw [hu, if_neg (by rw [hq]; exact Bool.false_ne_true), if_neg (by simp [h1, h2])]
theorem undot_pos (h : (Txt.slice p none (some 2) == S "./") = true) : undot p = Txt.slice p (some 2) none := if_pos h
theorem undot_neg (h : (Txt.slice p none (some 2) == S "./") = false) : undot p = p := if_neg (by rw [h]; exact Bool.false_ne_true)
end

section
variable {here there h' : Str} {b : Int}
theorem whole1 (h1 : 0 ≤ Txt.find there (S ":")) (h2 : Txt.find there (S "/") < 0) : joinF here there = there := by
  unfold joinF
  exact if_pos (by unfold whole; simp [h1, h2])
theorem whole2 (h1 : 0 ≤ Txt.find there (S ":")) (h2 : Txt.find there (S ":") < Txt.find there (S "/")) : joinF here there = there := by
  unfold joinF
  exact if_pos (by unfold whole; simp [h1, h2])
theorem notWhole1 (h : ¬ 0 ≤ Txt.find there (S ":")) : whole there = false := by unfold whole; simp [h]
theorem notWhole2 (h1 : ¬ Txt.find there (S "/") < 0) (h2 : ¬ Txt.find there (S ":") < Txt.find there (S "/")) : whole there = false := by unfold whole; simp [h1, h2]

def BP (here : Str) (b : Int) (h' : Str) : Prop := bp here = b ∧ rooted here = h'
theorem bp_1 (h1 : (Txt.slice here (some (Txt.find here (S ":") + 1)) (some (Txt.find here (S ":") + 3)) == S "//") = true) (h2 : Txt.find3 here (S "/") (Txt.find here (S ":") + 3) < 0) : BP here here.length (here ++ S "/") := by
  have e : bp0 here = Txt.find3 here (S "/") (Txt.find here (S ":") + 3) := if_pos h1
  exact ⟨if_pos (e ▸ h2), if_pos (e ▸ h2)⟩
theorem bp_2 (h1 : (Txt.slice here (some (Txt.find here (S ":") + 1)) (some (Txt.find here (S ":") + 3)) == S "//") = true) (h2 : ¬ Txt.find3 here (S "/") (Txt.find here (S ":") + 3) < 0) : BP here (Txt.find3 here (S "/") (Txt.find here (S ":") + 3)) here := by
  have e : bp0 here = Txt.find3 here (S "/") (Txt.find here (S ":") + 3) := if_pos h1
  exact ⟨(if_neg (e ▸ h2)).trans e, if_neg (e ▸ h2)⟩
theorem bp_3 (h1 : (Txt.slice here (some (Txt.find here (S ":") + 1)) (some (Txt.find here (S ":") + 3)) == S "//") = false) (hc : 0 ≤ Txt.find here (S ":")) : BP here (Txt.find here (S ":") + 1) here := by
  have e : bp0 here = Txt.find here (S ":") + 1 := if_neg (by rw [h1]; exact Bool.false_ne_true)
  have h2 : ¬ bp0 here < 0 := by omega
  exact ⟨(if_neg h2).trans e, if_neg h2⟩

theorem j_none (nw : whole there = false) (h : ((cut there).1.length : Int) = 0) : joinF here there = here ++ (cut there).2 := by
  unfold joinF
  rw [if_neg (by rw [nw]; exact Bool.false_ne_true), if_pos (by simp; omega)]
theorem j_host (nw : whole there = false) (h : ((cut there).1.length : Int) ≠ 0) (B : BP here b h') (h2 : (Txt.slice there none (some 2) == S "//") = true) :
    joinF here there = Txt.slice h' none (some (Txt.find here (S ":") + 1)) ++ there := by
  unfold joinF
  rw [if_neg (by rw [nw]; exact Bool.false_ne_true), if_neg (by simp; omega), if_pos h2, B.2]
theorem j_root (nw : whole there = false) (h : ((cut there).1.length : Int) ≠ 0) (B : BP here b h') (h2 : (Txt.slice there none (some 2) == S "//") = false) (h1 : (Txt.slice there none (some 1) == S "/") = true) :
    joinF here there = Txt.slice h' none (some b) ++ there := by
  unfold joinF
  rw [if_neg (by rw [nw]; exact Bool.false_ne_true), if_neg (by simp; omega), if_neg (by rw [h2]; exact Bool.false_ne_true), if_pos h1, B.1, B.2]
theorem j_rel (nw : whole there = false) (h : ((cut there).1.length : Int) ≠ 0) (B : BP here b h') (h2 : (Txt.slice there none (some 2) == S "//") = false) (h1 : (Txt.slice there none (some 1) == S "/") = false) :
    joinF here there = told (cut there).2 (climb (there.length + 3) (cut there).1 h' (Txt.rfind h' (S "/")) b) := by
  unfold joinF
  rw [if_neg (by rw [nw]; exact Bool.false_ne_true), if_neg (by simp; omega), if_neg (by rw [h2]; exact Bool.false_ne_true), if_neg (by rw [h1]; exact Bool.false_ne_true), B.1, B.2]
end
end Mine
end
section
open PySem PySem.W PyProof.Rows PySem.Spec PySem.Calls
set_option Elab.async false
set_option maxRecDepth 100000
set_option maxHeartbeats 2000000

local macro_rules | `(tactic| walk_at "call builtin:str.rfind") => `(tactic| ((with_reducible show wpAny _ _ (call (Value.builtin "str.rfind") [Value.str _ _, Value.str _ _, Value.int _ _, Value.int _ _]) _ _ _); refine Mine.call_rfind4 ?_))
local macro_rules | `(tactic| walk_at "my_undot") => `(tactic| first | exact Mine.undot_pos (by assumption) | exact Mine.undot_neg (by assumption))
def Mine.Wait (P : Prop) : Prop := P
theorem Mine.wait {P : Prop} (h : Mine.Wait P) : P := h
theorem Mine.waited {P : Prop} (h : P) : Mine.Wait P := h
local macro_rules | `(tactic| walk_at "KswEnd") => `(tactic| (refine Mine.wait ?_))
namespace Mine
def bodyOf (o : Option Obj) : List Stmt := match o with
  | some ⟨_, _, .func fd, _⟩ => (match fd.body with | .stmts b => b | _ => [])
  | _ => []
def scopeOf (o : Option Obj) : Scope := match o with
  | some ⟨_, _, .func fd, _⟩ => fd.scope
  | _ => default
noncomputable def joinTail (P : Params) : List Stmt := (bodyOf ((Mine.hd.heap_39 P).lookup 29)).drop 13
noncomputable def joinScope (P : Params) : Scope := scopeOf ((Mine.hd.heap_39 P).lookup 29)

theorem kst_self {m : Str → Option Value} {ps : List (Str × Value)} (h : ∀ p ∈ ps, m p.1 = some p.2) : kstB m ps = m := by
  funext z
  exact kstB_eq h fun _ => rfl

theorem join_loop : ∀ (w : World) (mean : ExcName → Option Value) (mg mb : Str → Option Value) (A : Around) (g : Heap) (L : Addr) (m : Str → Option Value) (nw : List (Addr × Obj)) (s : Shared) (Q : Flow → Shared → Prop) (E : Value → Shared → Prop)
    (n : Nat) (p h f : Str) (tp th tf tr tb : Tok) (r b : Int)
   (F : Fr g L s.heap m) (X : (Mine.hd.heap_39 w.params).In g) (N : News g L s.heap nw) (T : Top Mine.hd.view_39 (looseW Mine.hd.view_39 [Str.ofString "splitFragP"]) mean mg mb g)
   (_ : m (S "path") = some (.str p tp)) (_ : m (S "here") = some (.str h th)) (_ : m (S "slashr") = some (.int r tr)) (_ : m (S "bpath") = some (.int b tb)) (_ : m (S "frag") = some (.str f tf))
   (_ : p.length ≤ 20000) (_ : h.length ≤ 20000) (_ : f.length ≤ 20000) (_ : p.length < n)
   (_ : PassesOwn (model PySem.Challenge.rw_fc0189_01.row.prog w) (A.deeper (envOf "join" (joinScope w.params) L 29 (.ref 28))) (envOf "join" (joinScope w.params) L 29 (.ref 28)) E)
   (_ : ∀ t h' tk' m', Fr g L h' m' → News g L h' nw → Q (.ret (.str (told f (climb n p h r b)) t)) { s with heap := h', toks := tk' }),
   wpAny (model PySem.Challenge.rw_fc0189_01.row.prog w) (A.deeper (envOf "join" (joinScope w.params) L 29 (.ref 28))) (execs (joinTail w.params) (envOf "join" (joinScope w.params) L 29 (.ref 28))) Q E s := by
  k_fill
  intro w mean mg mb A g L m nw s Q E n p h f tp th tf tr tb r b F X N T e1 e2 e3 e4 e5 l1 l2 l3 l4 hE hret
  show wpAny _ (Around.deeper _ (envOf _ (Scope.mk _ _ _ _ _) _ _ _)) (execs (_ :: _ :: []) (envOf _ (Scope.mk _ _ _ _ _) _ _ _)) _ _ _
  rw [← kst_self (m := m) (ps := [(S "path", .str p tp), (S "here", .str h th), (S "slashr", .int r tr), (S "bpath", .int b tb), (S "frag", .str f tf)]) (by simp [e1, e2, e3, e4, e5])] at F
  refine wpAny_execs_cons ?_
  refine ksw_while (σ := Nat × Str × Tok × Str × Tok × Int × Tok) (fun _ => nw) (fun c => [(S "path", .str c.2.1 c.2.2.1), (S "here", .str c.2.2.2.1 c.2.2.2.2.1), (S "slashr", .int c.2.2.2.2.2.1 c.2.2.2.2.2.2)]) (fun _ => True)
    [S "path", S "here", S "i", S "slashr"]
    (fun c => c.2.1.length ≤ 20000 ∧ c.2.2.2.1.length ≤ 20000 ∧ c.2.1.length < c.1 ∧ climb c.1 c.2.1 c.2.2.2.1 c.2.2.2.2.2.1 b = climb n p h r b)
    (fun c => c.1) (n, p, tp, h, th, r, tr) F N trivial ?hk ⟨l1, l2, l4, rfl⟩ ?turn hE
  case hk => intro q hq; simp only [List.mem_cons, List.not_mem_nil, or_false] at hq; rcases hq with rfl | rfl | rfl <;> rfl
  clear e1 e2 e3 e4 e5 N F
  rintro ⟨n1, p1, tp1, h1, th1, r1, tr1⟩ u h' tk' - ⟨l1', l2', l4', eq⟩ F N
  dsimp only at l1' l2' l4' eq F N ⊢
  clear l1 l2 l4 
  k_steps
  all_goals (try refine Mine.waited ?_)
  all_goals (try dsimp only)
  any_goals (
    refine' ksw_end (n1 - 1, _, _, _, _, _, _) (by assumption) (by assumption) (fun _ h => h) trivial ?hk ?hr ?hp ?hm
    case hk => kst_all
    case hr =>
      intro z h2 h3
      simp only [List.forall_mem_cons, List.not_mem_nil, false_implies, implies_true, and_true, ne_eq] at h2
      simp only [List.contains_cons, List.contains_nil, Bool.or_false, Bool.or_eq_false_iff, beq_eq_false_iff_ne, ne_eq] at h3
      simp [kstB, h2, h3]
    case hm => dsimp only; omega
    case hp =>
      dsimp only
      refine ⟨by first | omega | decide +kernel, by omega, ?_⟩
      with_reducible first
        | exact climb_dot (by walk_at "my_undot") (by assumption) (by assumption) (by assumption)
        | exact climb_hit (by walk_at "my_undot") (by assumption) (by first | exact .inl (by assumption) | exact .inr (by assumption)) (by assumption) (by assumption) (by assumption)
        | exact climb_miss (by walk_at "my_undot") (by assumption) (by first | exact .inl (by assumption) | exact .inr (by assumption)) (by assumption) (by assumption) (by assumption))
  all_goals (
    have eq2 := by with_reducible exact climb_end (h := h1) (r := r1) (b := b) (by walk_at "my_undot") (by assumption) (by assumption) (by assumption) l4'
    rw [← eq, eq2] at hret
    exact hret _ _ _ _ (by assumption) (by assumption))
end Mine
end
section
open PySem PySem.W PyProof.Rows PySem.Spec PySem.Calls
set_option Elab.async false
set_option maxRecDepth 100000
set_option maxHeartbeats 4000000

namespace Mine
theorem cut_pos {x : Str} (h : 0 ≤ Txt.rfind x (S "#")) : cut x = (Txt.slice x none (some (Txt.rfind x (S "#"))), Txt.slice x (some (Txt.rfind x (S "#"))) none) := if_pos h
theorem cut_neg {x : Str} (h : ¬ 0 ≤ Txt.rfind x (S "#")) : cut x = (x, S "") := if_neg h

theorem split_call : ∀ (w : World) (mean : ExcName → Option Value) (mg mb : Str → Option Value) (e0 : Env) (cn : Str) (cs : Scope) (a : Addr) (ccd : Value) (A₀ : Around) (base h₀ : Heap) (L : Addr) (m : Str → Option Value) (news : List (Addr × Obj)) (s : Shared) (Q E : Value → Shared → Prop)
    (x : Str) (t1 : Tok) 
   (_ : Below A₀ base [e0] h₀) (_ : Fr h₀ L s.heap m) (_ : (Mine.hd.heap_39 w.params).In h₀) (_ : News h₀ L s.heap news) (_ : Top Mine.hd.view_39 (looseW Mine.hd.view_39 [Str.ofString "splitFragP"]) mean mg mb h₀) (_ : cs.kind = .function)
   (_ : x.length ≤ 10000)
   (_ : ∀ q t t' h' tk', Fr h₀ L h' m → News h₀ L h' ((q, { cls := .type "tuple", data := .seq [.str (cut x).1 t, .str (cut x).2 t'].toArray }) :: news) → (∀ p ∈ news, p.1 < q) → (cut x).1.length ≤ x.length → (cut x).2.length ≤ x.length → Q (.ref q) { s with heap := h', toks := tk' }),
   wpAny (model PySem.Challenge.rw_fc0189_01.row.prog w) ((callerA.deeper e0).deeper (envOf cn cs L a ccd)) (call (.ref 22) [.str x t1]) Q E s := by
  k_fill
  intro w mean mg mb e0 cn cs a ccd A₀ base h₀ L m news s Q E x t1 B F X N T hk l1 hret
  refine wpAny_call ?_
  k_dflt (refine' code_def ?k1 ?k2 ?k3 ?k4 ?k5 ?kA ?kF ?kK ?k6 ?k7 ?k8 ?k9 ?kB ?_ ?c2 ?c3 ?c4 ?c5; (case kA => exact rfl); (case kF => exact rfl); (case kK => assumption); (case k1 => k_asm); (case k2 => k_asm); (case k3 => k_asm); (case k4 => k_asm); (case k5 => k_asm); (case k6 => k_is); (case k7 => k_is); (case k8 => k_room); (case k9 => exact binds_K (by k_in) rfl (by k_is) rfl rfl rfl); (case c5 => decide); (case kB => exact locs rfl); (case c2 => exact rfl); (case c3 => exact rfl); (case c4 => exact rfl); k_whole; intro g' L' h' FG' F' N' B' X' T'; (try dsimp only); (try k_lift B'); (try k_fold))
  k_steps
  all_goals (
    first | rw [cut_pos (by assumption)] at hret | rw [cut_neg (by assumption)] at hret
    refine hret _ _ _ _ _ (by assumption) (by assumption) (by assumption) ?_ ?_ <;> first | assumption | exact Nat.le_refl _ | exact Nat.zero_le _)
end Mine
end
section
open PySem PySem.W PyProof.Rows PySem.Spec PySem.Calls
set_option Elab.async false
set_option maxRecDepth 100000
set_option maxHeartbeats 4000000

local macro_rules | `(tactic| walk_at "execs cons") => `(tactic| ((with_reducible show wpAny _ _ (execs (Stmt.While _ _ _ _ :: _) _) _ _ _); (refine Mine.wait ?_)))

local macro_rules | `(tactic| walk_at "call ref") => `(tactic| (
  (with_reducible show wpAny _ _ (call (Value.ref 22) [Value.str _ _]) _ _ _);
  k_dflt (refine' Mine.split_call _ _ _ _ _ _ _ _ _ _ _ _ _ _ _ _ _ _ _ _ ?k1 ?k2 ?k3 ?k4 ?k5 ?k6 ?k7 ?_; (case k1 => k_asm); (case k2 => k_asm); (case k3 => k_asm); (case k4 => k_asm); (case k5 => k_asm); (case k6 => first | assumption | exact rfl); (case k7 => assumption); k_whole);
  intro q' t' u' h' tk' F' N' l1 l2 l3; (try dsimp only)))
local macro_rules | `(tactic| walk_at "my_nw") => `(tactic| first | exact Mine.notWhole1 (by assumption) | exact Mine.notWhole2 (by assumption) (by assumption))
local macro_rules | `(tactic| walk_at "my_bp") => `(tactic| first | exact Mine.bp_1 (by assumption) (by assumption) | exact Mine.bp_2 (by assumption) (by assumption) | exact Mine.bp_3 (by assumption) (by assumption))
namespace Mine
theorem ret_as {here there V : Str} {h₀ h : Heap} {L : Addr} {m : Str → Option Value} {news : List (Addr × Obj)} {s : Shared} {Q : Value → Shared → Prop} {t : Tok} {tk : Nat}
    (hret : ∀ t h' tk', Fr h₀ L h' m → News h₀ L h' news → Q (.str (joinF here there) t) { s with heap := h', toks := tk' })
    (e : joinF here there = V) (F : Fr h₀ L h m) (N : News h₀ L h news) : Q (.str V t) { s with heap := h, toks := tk } := by
  subst e
  exact hret t h tk F N
theorem news_tail {h₀ h : Heap} {L : Addr} {q : Addr × Obj} {news : List (Addr × Obj)} (N : News h₀ L h (q :: news)) : News h₀ L h news := fun p hp => N p (.tail _ hp)
theorem join_call : ∀ (w : World) (mean : ExcName → Option Value) (mg mb : Str → Option Value) (cn : Str) (cs : Scope) (a : Addr) (ccd : Value) (A₀ : Around) (base h₀ : Heap) (L : Addr) (m : Str → Option Value) (news : List (Addr × Obj)) (s : Shared) (Q E : Value → Shared → Prop)
    (here there : Str) (t1 t2 : Tok) 
   (_ : Below A₀ base [] h₀) (_ : Fr h₀ L s.heap m) (_ : (Mine.hd.heap_39 w.params).In h₀) (_ : News h₀ L s.heap news) (_ : Top Mine.hd.view_39 (looseW Mine.hd.view_39 [Str.ofString "splitFragP"]) mean mg mb h₀) (_ : cs.kind = .function)
   (_ : here.length ≤ 10000) (_ : there.length ≤ 10000)
   (_ : 0 ≤ Txt.find here (Str.ofString ":")) (_ : (Txt.slice here (some (Txt.find here (Str.ofString ":") + 1)) (some (Txt.find here (Str.ofString ":") + 2)) == Str.ofString "/") = true)
   (_ : ∀ t h' tk', Fr h₀ L h' m → News h₀ L h' news → Q (.str (joinF here there) t) { s with heap := h', toks := tk' }),
   wpAny (model PySem.Challenge.rw_fc0189_01.row.prog w) (callerA.deeper (envOf cn cs L a ccd)) (call (.ref 29) [.str here t1, .str there t2]) Q E s := by
  k_fill
  intro w mean mg mb cn cs a ccd A₀ base h₀ L m news s Q E here there t1 t2 B F X N T hk l1 l2 hc hs hret
  refine wpAny_call ?_
  k_dflt cell_enter
  k_steps
  all_goals (try refine Mine.waited ?_)
  any_goals (
    (with_reducible show E (Value.ref _) _)
    exfalso
    (have h9 : (Txt.slice here (some (Txt.find here (S ":") + 1)) (some (Txt.find here (S ":") + 2)) != S "/") = true := by with_reducible assumption)
    rw [bne, hs] at h9
    exact Bool.false_ne_true h9)
  any_goals (
    (with_reducible show Q (Value.str _ _) _)
    (refine Mine.ret_as hret ?_ (by with_reducible assumption) (by with_reducible first | assumption | exact Mine.news_tail (by assumption)))
    with_reducible first
      | exact whole1 (by assumption) (by assumption)
      | exact whole2 (by assumption) (by assumption)
      | exact j_none (by walk_at "my_nw") (by assumption)
      | exact j_host (by walk_at "my_nw") (by assumption) (by walk_at "my_bp") (by assumption)
      | exact j_root (by walk_at "my_nw") (by assumption) (by walk_at "my_bp") (by assumption) (by assumption))
  all_goals (
    refine join_loop w mean mg mb (callerA.deeper (envOf cn cs L a ccd)) _ _ _ _ _ _ _ (there.length + 3) (cut there).1 _ (cut there).2 _ _ _ _ _ _ _ (by with_reducible assumption) (by with_reducible assumption) (by with_reducible assumption) (by with_reducible assumption)
      (by with_unfolding_all rfl) (by with_unfolding_all rfl) (by with_unfolding_all rfl) (by with_unfolding_all rfl) (by with_unfolding_all rfl)
      (by omega) (by first | omega | ((have h8 : (Str.ofString "/").length = 1 := by decide +kernel); omega)) (by omega) (by omega) (by passes_own) ?_
    intro t9 h9 tk9 m9 F9 N9
    k_steps
    (refine Mine.ret_as hret ?_ (by with_reducible assumption) (by with_reducible first | assumption | exact Mine.news_tail (by assumption)))
    with_reducible exact j_rel (by walk_at "my_nw") (by assumption) (by walk_at "my_bp") (by assumption) (by assumption))
end Mine
end
section
open PySem PyProof.Rows
namespace Mine
/-! the ways, as the law lays them -/
abbrev pathOf (fs : List Str) (last : Str) : Str := Txt.join (S "") (fs.map (· ++ S "/")) ++ last
def Meet (bs fs : List Str) (k : Nat) : Prop := k ≤ bs.length ∧ k ≤ fs.length ∧ bs.take k = fs.take k
abbrev ups (bs : List Str) (k : Nat) : Str := Txt.mul (S "../") ((bs.length : Int) - (0 + (k : Int)))
abbrev dus (bs : List Str) (k : Nat) : Str := Txt.mul (S "./../") ((bs.length : Int) - (0 + (k : Int)))

inductive Way (o : Str) (bs fs : List Str) (last : Str) : Str → Prop
  | all : Way o bs fs last (o ++ S "/" ++ pathOf fs last)
  | root : Way o bs fs last (S "/" ++ pathOf fs last)
  | host (h : (Txt.item o (-1) != S ":") = true) : Way o bs fs last (Txt.slice o (some (Txt.find o (S ":") + 1)) none ++ S "/" ++ pathOf fs last)
  | ahead {k : Nat} (h : Meet bs fs k) : Way o bs fs last (S "./" ++ ups bs k ++ pathOf (fs.drop k) last)
  | behind {k : Nat} (h : Meet bs fs k) : Way o bs fs last (ups bs k ++ S "./" ++ pathOf (fs.drop k) last)
  | each {k : Nat} (h : Meet bs fs k) (c : (bs.length : Int) - (0 + (k : Int)) > 0) : Way o bs fs last (dus bs k ++ S "" ++ pathOf (fs.drop k) last)
  | each0 {k : Nat} (h : Meet bs fs k) (c : ¬ (bs.length : Int) - (0 + (k : Int)) > 0) : Way o bs fs last (dus bs k ++ S "./" ++ pathOf (fs.drop k) last)
  | steps {k : Nat} (h : Meet bs fs k) (c : (bs.length : Int) - (0 + (k : Int)) > 0) : Way o bs fs last (ups bs k ++ pathOf (fs.drop k) last)
  | down {k : Nat} (h : Meet bs fs k) (c : ¬ (bs.length : Int) - (0 + (k : Int)) > 0) (d : (pathOf (fs.drop k) last != S "") = true)
      (n : (Builtin.Str.occurrences ((fs.drop k ++ [last]).getD (Int.toNat 0) Str.empty) (S ":") 0 ((fs.drop k ++ [last]).getD (Int.toNat 0) Str.empty).length 1).isEmpty = true) : Way o bs fs last (pathOf (fs.drop k) last)
  | bare {k : Nat} (h : Meet bs fs k) (c : (bs.length : Int) - (0 + (k : Int)) > 0) (d : (pathOf (fs.drop k) last == S "") = true) : Way o bs fs last (Txt.slice (ups bs k) none (some (-1)))
  | point {k : Nat} (h : Meet bs fs k) (c : ¬ (bs.length : Int) - (0 + (k : Int)) > 0) (d : (pathOf (fs.drop k) last == S "") = true) : Way o bs fs last (S ".")
  | pointed {k : Nat} (h : Meet bs fs k) (d : (pathOf (fs.drop k) last == S "") = true) : Way o bs fs last (ups bs k ++ S ".")
  | more {k : Nat} (h : Meet bs fs k) (z : (0 + (k : Int)) = 0) : Way o bs fs last (S "../" ++ ups bs k ++ pathOf (fs.drop k) last)
  | most {k : Nat} (h : Meet bs fs k) (z : (0 + (k : Int)) = 0) : Way o bs fs last (S "../../" ++ ups bs k ++ S "./" ++ pathOf (fs.drop k) last)

theorem meet_succ {bs fs : List Str} {i : Nat} (h : Meet bs fs i) (h1 : (i : Int) < (bs.length : Int)) (h2 : (i : Int) < (fs.length : Int)) (e : (bs.getD (i : Int).toNat Str.empty == fs.getD (i : Int).toNat Str.empty) = true) : Meet bs fs (i + 1) := by
  have h3 : i < bs.length := by omega
  have h4 : i < fs.length := by omega
  refine ⟨h3, h4, ?_⟩
  have e' := eq_of_beq e
  rw [Int.toNat_natCast, List.getD_eq_getElem?_getD, List.getD_eq_getElem?_getD, List.getElem?_eq_getElem h3, List.getElem?_eq_getElem h4] at e'
  rw [List.take_add_one, List.take_add_one, h.2.2, List.getElem?_eq_getElem h3, List.getElem?_eq_getElem h4]
  exact congrArg (fun y => fs.take i ++ [y]) e'
theorem meet_le {bs fs : List Str} {i k : Nat} (h : Meet bs fs i) (hk : k ≤ i) : Meet bs fs k := by
  refine ⟨Nat.le_trans hk h.1, Nat.le_trans hk h.2.1, ?_⟩
  have e := congrArg (List.take k) h.2.2
  rwa [List.take_take, List.take_take, Nat.min_eq_left hk] at e

section
variable {P : Str → Prop} {a b : List Str} {y : Str}
theorem allW_append (h1 : ∀ x ∈ a, P x) (h2 : ∀ x ∈ b, P x) : ∀ x ∈ a ++ b, P x := fun x hx => (List.mem_append.mp hx).elim (h1 x) (h2 x)
theorem allW_cons (h1 : P y) (h2 : ∀ x ∈ b, P x) : ∀ x ∈ y :: b, P x := fun x hx => by
  rcases List.mem_cons.mp hx with rfl | hx
  · exact h1
  · exact h2 x hx
theorem allW_nil : ∀ x ∈ ([] : List Str), P x := fun _ h => nomatch h
end
end Mine
end
section
open PySem PySem.W PyProof.Rows PySem.Spec PySem.Calls
set_option Elab.async false
set_option maxRecDepth 100000
set_option maxHeartbeats 2000000
local macro_rules | `(tactic| walk_at "my_pad4") => `(tactic| skip)
local macro_rules | `(tactic| walk_at "my_pad5") => `(tactic| skip)
local macro_rules | `(tactic| walk_at "KswEnd") => `(tactic| (refine Mine.wait ?_))
local macro_rules | `(tactic| walk_at "subscriptTail") => `(tactic| (
  (with_reducible show wpAny _ _ (subscriptTail _ _ (Value.ref _) (Value.int _ _)) _ _ _)
  (with_unfolding_all refine' Mine.item_strsN ?k1 ?k2 ?k3 ?k4 ?k5 ?k6 ?_ ?k7)
  (case k1 => k_asm)
  (case k2 => with_reducible assumption)
  (case k3 => with_reducible assumption)
  (case k4 => omega)
  (case k5 => omega)
  (case k6 => omega)
  (case k7 => with_unfolding_all rfl)
  k_whole
  intro _))
local macro_rules | `(tactic| walk_at "call builtin:len") => `(tactic| (
  (with_reducible show wpAny _ _ (call (Value.builtin _) [Value.ref _]) _ _ _)
  (refine' Mine.len_strsN ?k1 ?k2 ?k3 ?k4 ?_)
  (case k1 => k_asm)
  (case k2 => with_reducible assumption)
  (case k3 => with_reducible assumption)
  (case k4 => omega)
  k_whole))
namespace Mine
noncomputable def waysTail (P : Params) : List Stmt := (bodyOf ((Mine.hd.heap_39 P).lookup 62)).drop 4
noncomputable def waysScope (P : Params) : Scope := scopeOf ((Mine.hd.heap_39 P).lookup 62)

theorem same_loop : ∀ (w : World) (mean : ExcName → Option Value) (mg mb : Str → Option Value) (A : Around) (g : Heap) (L : Addr) (m : Str → Option Value) (nw : List (Addr × Obj)) (s : Shared) (Q : Flow → Shared → Prop) (E : Value → Shared → Prop)
    (lb lf : Addr) (vb vf : List Value) (nb nf : Nat) (bs fs : List Str) (ts : Tok)
   (_ : Fr g L s.heap m) (_ : (Mine.hd.heap_39 w.params).In g) (_ : News g L s.heap nw) (_ : Top Mine.hd.view_39 (looseW Mine.hd.view_39 [Str.ofString "splitFragP"]) mean mg mb g)
   (_ : m (S "base") = some (.ref lb)) (_ : m (S "folders") = some (.ref lf)) (_ : m (S "same") = some (.int 0 ts))
   (_ : (lb, listOf vb.toArray nb) ∈ nw) (_ : (lf, listOf vf.toArray nf) ∈ nw) (_ : StrsAre vb bs) (_ : StrsAre vf fs) (_ : bs.length ≤ 10) (_ : fs.length ≤ 10)
   (_ : PassesOwn (model PySem.Challenge.rw_fc0189_01.row.prog w) (A.deeper (envOf "_law_ways" (waysScope w.params) L 62 (.ref 61))) (envOf "_law_ways" (waysScope w.params) L 62 (.ref 61)) E)
   (_ : ∀ i t h' tk' m', Meet bs fs i → m' (S "same") = some (.int (i : Int) t) → (∀ z, z ≠ S "same" → m' z = m z) → Fr g L h' m' → News g L h' nw → Q .next { s with heap := h', toks := tk' }),
   wpAny (model PySem.Challenge.rw_fc0189_01.row.prog w) (A.deeper (envOf "_law_ways" (waysScope w.params) L 62 (.ref 61))) (exec ((waysTail w.params).headD default) (envOf "_law_ways" (waysScope w.params) L 62 (.ref 61))) Q E s := by
  k_fill
  intro w mean mg mb A g L m nw s Q E lb lf vb vf nb nf bs fs ts F X N T e1 e2 e3 m1 m2 s1 s2 l1 l2 hE hret
  show wpAny _ (Around.deeper _ (envOf _ (Scope.mk _ _ _ _ _) _ _ _)) (exec (Stmt.While _ _ _ _) (envOf _ (Scope.mk _ _ _ _ _) _ _ _)) _ _ _
  rw [← kst_self (m := m) (ps := [(S "base", .ref lb), (S "folders", .ref lf)]) (by simp [e1, e2])] at F
  refine ksw_while (σ := Nat × Tok) (fun _ => nw) (fun c => [(S "same", .int (c.1 : Int) c.2)]) (fun _ => True)
    [S "same"]
    (fun c => Meet bs fs c.1)
    (fun c => bs.length - c.1) (0, ts) F N trivial ?hk ⟨Nat.zero_le _, Nat.zero_le _, rfl⟩ ?turn hE
  case hk => intro q hq; simp only [List.mem_cons, List.not_mem_nil, or_false] at hq; subst hq; rw [kst_self (m := m) (by simp [e1, e2])]; exact e3
  have em : kstB m [(S "base", .ref lb), (S "folders", .ref lf)] = m := kst_self (by simp [e1, e2])
  clear N F
  rintro ⟨i, ti⟩ u h' tk' - hm F N
  dsimp only at hm F N ⊢
  have h1 := hm.1
  have h2 := hm.2.1
  k_steps
  · refine Mine.waited ?_
    refine' ksw_end (i + 1, _) (by assumption) (by assumption) (fun _ h => h) trivial ?hk ?hr ?hp ?hm
    case hk => kst_all
    case hr =>
      intro z h2 h3
      simp only [List.forall_mem_cons, List.not_mem_nil, false_implies, implies_true, and_true, ne_eq] at h2
      simp only [List.contains_cons, List.contains_nil, Bool.or_false, Bool.or_eq_false_iff, beq_eq_false_iff_ne, ne_eq] at h3
      simp [kstB, h2]
    case hm => dsimp only; omega
    case hp => exact meet_succ hm (by assumption) (by assumption) (by assumption)
  all_goals (
    refine hret i ti _ _ _ hm rfl (fun z hz => ?_) F N
    show (if z = S "same" then _ else _) = _
    rw [if_neg hz]
    show (if [S "same"].contains z = true then _ else _) = _
    rw [if_neg (by simpa using hz), em])
end Mine
end
section
open PySem PySem.W PyProof.Rows PySem.Spec PySem.Calls
set_option maxRecDepth 100000
namespace Mine
theorem few {vs : List Value} {xs : List Str} (h : StrsAre vs xs) (hx : xs.length ≤ 10000) : vs.length ≤ sizeLine := by
  rw [strs_len h, sizeLine_eq]; omega
theorem short_all {fs : List Str} (h : ∀ x ∈ fs, x.length ≤ 10) : ∀ x ∈ fs, x.length ≤ 10000 := fun x hx => Nat.le_trans (h x hx) (by decide)
theorem short_drop {fs : List Str} {k : Nat} (h : ∀ x ∈ fs, x.length ≤ 10) : ∀ x ∈ fs.drop k, x.length ≤ 10000 := fun x hx => Nat.le_trans (h x (List.mem_of_mem_drop hx)) (by decide)
theorem sum_slash {fs : List Str} (h : ∀ x ∈ fs, x.length ≤ 10) : ((fs.map (· ++ Str.ofString "/")).map (·.length)).sum ≤ fs.length * 11 := by
  induction fs with
  | nil => simp
  | cons x r ih =>
    have h1 := h x (.head _)
    have h2 := ih fun y hy => h y (.tail _ hy)
    have e : (Str.ofString "/").length = 1 := by decide +kernel
    simp only [List.map_cons, List.sum_cons, List.length_cons, Str.length_append, e]
    omega
theorem joinOk_all {fs : List Str} (h : ∀ x ∈ fs, x.length ≤ 10) (hl : fs.length ≤ 10) : ((fs.map (· ++ Str.ofString "/")).map (·.length)).sum + (fs.map (· ++ Str.ofString "/")).length * (Str.ofString "").length ≤ 16777216 := by
  have h1 := sum_slash h
  have e : (Str.ofString "").length = 0 := by decide +kernel
  rw [e]; omega
theorem joinOk_drop {fs : List Str} {k : Nat} (h : ∀ x ∈ fs, x.length ≤ 10) (hl : fs.length ≤ 10) : (((fs.drop k).map (· ++ Str.ofString "/")).map (·.length)).sum + ((fs.drop k).map (· ++ Str.ofString "/")).length * (Str.ofString "").length ≤ 16777216 :=
  joinOk_all (fun x hx => h x (List.mem_of_mem_drop hx)) (by rw [List.length_drop]; omega)
theorem glued_empty : ∀ (ys : List Str) (acc : Array Nat), ys.foldl (fun acc p => acc ++ (Str.ofString "").cps ++ p.cps) acc = acc ++ (ys.map (·.cps)).foldl (· ++ ·) #[]
  | [], acc => by simp
  | y :: r, acc => by
    have e : (Str.ofString "").cps = #[] := by decide +kernel
    simp only [List.foldl_cons, List.map_cons]
    rw [glued_empty r, e]
    have h : ∀ (l : List (Array Nat)) (a : Array Nat), l.foldl (· ++ ·) a = a ++ l.foldl (· ++ ·) #[] := by
      intro l
      induction l with
      | nil => intro a; simp
      | cons b l ih => intro a; simp only [List.foldl_cons]; rw [ih (a ++ b), ih (#[] ++ b)]; simp
    rw [h _ (#[] ++ y.cps)]
    simp
theorem join_toList (ys : List Str) : (Txt.join (Str.ofString "") ys).cps.toList = (ys.map (·.cps.toList)).flatten := by
  have h : ∀ (l : List (Array Nat)) (a : Array Nat), (l.foldl (· ++ ·) a).toList = a.toList ++ (l.map (·.toList)).flatten := by
    intro l
    induction l with
    | nil => intro a; simp
    | cons b l ih => intro a; simp only [List.foldl_cons, List.map_cons, List.flatten_cons]; rw [ih]; simp
  cases ys with
  | nil => rfl
  | cons y r =>
    show (r.foldl (fun acc p => acc ++ (Str.ofString "").cps ++ p.cps) y.cps).toList = _
    rw [glued_empty, Array.toList_append, h]
    simp [List.map_map, Function.comp_def]
theorem path_toList (fs : List Str) (last : Str) : (pathOf fs last).cps.toList = (fs.map (fun x => x.cps.toList ++ [47])).flatten ++ last.cps.toList := by
  unfold pathOf
  rw [Str.cps_append, Array.toList_append, join_toList, List.map_map]
  have e : (S "/").cps.toList = [47] := by decide +kernel
  simp [Function.comp_def, Str.cps_append, e]
theorem len_path {fs : List Str} {last : Str} (h : ∀ x ∈ fs, x.length ≤ 10) (hl : fs.length ≤ 10) : (Txt.join (Str.ofString "") (fs.map (· ++ Str.ofString "/"))).length ≤ 110 := by
  show (Txt.join (Str.ofString "") (fs.map (· ++ Str.ofString "/"))).cps.size ≤ 110
  rw [← Array.length_toList, join_toList, List.length_flatten, List.map_map]
  have h1 := sum_slash h
  rw [List.map_map] at h1
  have e : (fs.map (List.length ∘ (fun x : Str => x.cps.toList) ∘ (· ++ Str.ofString "/"))) = fs.map ((fun x : Str => x.length) ∘ (· ++ Str.ofString "/")) := by
    apply List.map_congr_left
    intro x _
    simp [Function.comp_def, Str.length]
  rw [List.map_map]
  refine Nat.le_trans (Nat.le_of_eq (congrArg List.sum e)) ?_
  omega
theorem len_path_drop {fs : List Str} {k : Nat} (h : ∀ x ∈ fs, x.length ≤ 10) (hl : fs.length ≤ 10) : (Txt.join (Str.ofString "") ((fs.drop k).map (· ++ Str.ofString "/"))).length ≤ 110 :=
  len_path (last := S "") (fun x hx => h x (List.mem_of_mem_drop hx)) (by rw [List.length_drop]; omega)

theorem ten_drop {fs : List Str} {k : Nat} (h : ∀ x ∈ fs, x.length ≤ 10) : ∀ x ∈ fs.drop k, x.length ≤ 10 := fun x hx => h x (List.mem_of_mem_drop hx)
section
variable {prog : Program} {w : World} {A : Around} {E : Value → Shared → Prop} {s : Shared} {h₀ : Heap} {L : Addr} {news : List (Addr × Obj)} {l : Addr} {vs : List Value} {n : Nat} {fs : List Str} {t : Tok}
theorem join_slash {Q : Value → Shared → Prop} (N : News h₀ L s.heap news) (hm : (l, listOf vs.toArray n) ∈ news) (hi : StrsAre vs (fs.map (· ++ Str.ofString "/"))) (h10 : ∀ x ∈ fs, x.length ≤ 10) (hl : fs.length ≤ 10)
    (h : ∀ t' k, (Txt.join (Str.ofString "") (fs.map (· ++ Str.ofString "/"))).length ≤ 110 → Q (.str (Txt.join (Str.ofString "") (fs.map (· ++ Str.ofString "/"))) t') { s with toks := k }) :
    wpAny (model prog w) A (call (.builtin "str.join") [.str (Str.ofString "") t, .ref l]) Q E s :=
  join_list (News.isList N hm) hi (joinOk_all h10 hl) fun t' k => h t' k (len_path (last := S "") h10 hl)
end

theorem mul_toList (x : Str) (n : Int) : (Txt.mul x n).cps.toList = (List.replicate n.toNat x.cps.toList).flatten := by
  have h : ∀ (l : List (Array Nat)) (a : Array Nat), (l.foldl (· ++ ·) a).toList = a.toList ++ (l.map (·.toList)).flatten := by
    intro l
    induction l with
    | nil => intro a; simp
    | cons b l ih => intro a; simp only [List.foldl_cons, List.map_cons, List.flatten_cons]; rw [ih]; simp
  unfold Txt.mul
  by_cases h1 : n < 1
  · rw [if_pos h1]
    have e : n.toNat = 0 := by omega
    rw [e]; rfl
  · rw [if_neg h1]
    by_cases h2 : (n == 1 || x.length == 0) = true
    · rw [if_pos h2]
      rcases Bool.or_eq_true_iff.mp h2 with h3 | h3
      · have e : n = 1 := eq_of_beq h3
        subst e
        simp
      · have e : x.cps.toList = [] := List.eq_nil_of_length_eq_zero (by rw [Array.length_toList]; exact eq_of_beq h3)
        rw [e]
        simp
    · rw [if_neg h2, h, List.map_replicate]
      simp
theorem len_mul {x : Str} {n : Int} (h0 : 0 ≤ n) : (Txt.mul x n).length = n.toNat * x.length := by
  show (Txt.mul x n).cps.size = n.toNat * x.cps.size
  rw [← Array.length_toList, mul_toList, List.length_flatten, List.map_replicate, List.sum_replicate_nat, Array.length_toList]
section
variable {prog : Program} {w : World} {A : Around} {E : Value → Shared → Prop} {s : Shared}
theorem mul_small {x : Str} {t u : Tok} {n : Int} {Q : Value → Shared → Prop} (hx : x.length ≤ 10) (h0 : 0 ≤ n) (h1 : n ≤ 10) (h : ∀ t' k, (Txt.mul x n).length ≤ 100 → Q (.str (Txt.mul x n) t') { s with toks := k }) :
    wpAny (model prog w) A (binaryOp .Mult (.str x t) (.int n u)) Q E s := by
  have hm : n.toNat * x.length ≤ 100 := by
    have := Nat.mul_le_mul (show n.toNat ≤ 10 by omega) hx
    omega
  have hm2 : x.length * n.toNat ≤ 100 := by rw [Nat.mul_comm]; exact hm
  refine SB.mul ⟨by simp; omega, fun h2 _ => ?_, fun _ _ => ?_⟩ fun t' k => h t' k (by rw [len_mul h0]; exact hm)
  · obtain ⟨k, rfl⟩ := Int.eq_ofNat_of_zero_le h0
    have h4 : (x.length : Int) * (k : Int) ≤ 2 ^ 63 - 1 := by
      rw [Int.toNat_natCast] at hm2
      have : ((x.length * k : Nat) : Int) ≤ 100 := by omega
      rw [Int.natCast_mul] at this
      omega
    have := Int.le_ediv_of_mul_le (by omega) h4
    omega
  · unfold Builtin.Str.tooLong sizeLine
    exact decide_eq_false (by have : (2 : Nat) ^ 24 = 16777216 := by decide
                              omega)
end

section
variable {prog : Program} {w : World} {A : Around} {E : Value → Shared → Prop} {s : Shared} {h₀ : Heap} {L a b D : Addr} {m : Str → Option Value} {news keep : List (Addr × Obj)} {vs us : List Value} {n k : Nat} {xs ys : List Str}
theorem add_strsN {Q : Value → Shared → Prop} (F : Fr h₀ L s.heap m) (N : News h₀ L s.heap news) (ha : (a, listOf vs.toArray n) ∈ news) (hb : (b, listOf us.toArray k) ∈ news) (hi : StrsAre vs xs) (hj : StrsAre us ys) (hz : xs.length + ys.length ≤ 10000)
    (h : ∀ D h', Fr h₀ L h' m → News h₀ L h' ((D, listOf (vs ++ us).toArray 0) :: news) → (∀ p ∈ news, p.1 < D) → StrsAre (vs ++ us) (xs ++ ys) → Q (.ref D) { s with heap := h' }) :
    wpAny (model prog w) A (binaryOp .Add (.ref a) (.ref b)) Q E s := by
  refine kmk_add_lit F N (News.isList N ha) (News.isList N hb) rfl (fun D h' F' N' l1 => h D h' F' ?_ l1 (strs_append hi hj)) (by rw [List.toList_toArray, List.toList_toArray, strs_len hi, strs_len hj, sizeLine_eq]; omega)
  rw [List.toList_toArray, List.toList_toArray] at N'
  exact N'
theorem append_strsN {y : Str} {t : Tok} {Q : Value → Shared → Prop} (F : Fr h₀ L s.heap m) (N : News h₀ L s.heap news) (hD : (D, listOf vs.toArray n) ∈ news) (hk : ∀ p ∈ keep, p ∈ news) (ne : ∀ p ∈ keep, p.1 ≠ D) (hi : StrsAre vs xs) (hz : xs.length ≤ 10000)
    (h : ∀ h', Fr h₀ L h' m → News h₀ L h' ((D, listOf (vs ++ [Value.str y t]).toArray (n + 1)) :: keep) → StrsAre (vs ++ [Value.str y t]) (xs ++ [y]) → Q .none { s with heap := h' }) :
    wpAny (model prog w) A (call (.builtin "list.append") [.ref D, .str y t]) Q E s := by
  have z := N _ hD
  refine append_at z.1 (fun h' hs hD' => h h' (F.change hs z.2.1 z.2.2) (fun p hp => ?_) (strs_snoc hi)) (by rw [List.size_toArray, strs_len hi, sizeLine_eq]; omega)
  rcases List.mem_cons.mp hp with rfl | hp
  · refine ⟨?_, z.2⟩
    rw [List.push_toArray] at hD'
    exact hD'
  · exact ⟨hs.extBut _ _ (ne p hp) (N p (hk p hp)).1, (N p (hk p hp)).2⟩
end
end Mine
end
section
open PySem PySem.W PyProof.Rows PySem.Spec PySem.Calls
set_option Elab.async false
set_option maxRecDepth 100000
set_option maxHeartbeats 2000000
local macro_rules | `(tactic| walk_at "pyIter ref") => `(tactic| (refine Mine.wait ?_))
local macro_rules | `(tactic| walk_at "UnrEnd") => `(tactic| (refine Mine.wait ?_))
local macro_rules | `(tactic| walk_at "my_mem") => `(tactic| first | with_reducible assumption | with_reducible exact List.mem_cons_self | (with_reducible refine List.mem_cons_of_mem _ ?_; walk_at "my_mem"))
local macro_rules | `(tactic| walk_at "CompSrc") => `(tactic| (
  (refine' Mine.slash_src ?k1 ?k2 ?k3 ?k4 ?k5 ?k6 ?k7 ?k8 ?k9 ?_)
  (case k1 => first | exact rfl | assumption)
  (case k2 => k_asm)
  (case k3 => k_asm)
  (case k4 => walk_at "my_mem")
  (case k5 => with_reducible assumption)
  (case k6 => exact Mine.few (by with_reducible assumption) (by (try simp only [List.length_drop]); omega))
  (case k7 => walk_at "my_short")
  (case k8 => exact rfl)
  (case k9 => exact rfl)
  k_whole
  intro g' ys' hys'
  (try dsimp only)
  (try unfold LCg.FinE)
  intro D' h' tk' F' N' o1
  (try simp only [LCg.Off1] at o1)
  (try dsimp only)))
local macro_rules | `(tactic| walk_at "my_short") => `(tactic| first | exact Mine.short_all (by with_reducible assumption) | exact Mine.short_drop (by with_reducible assumption))
local macro_rules | `(tactic| walk_at "binaryOp Mult str int") => `(tactic| (
  (refine' Mine.mul_small ?k1 ?k2 ?k3 ?_)
  (case k1 => decide +kernel)
  (case k2 => omega)
  (case k3 => omega)
  intro t' k' hm'))
local macro_rules | `(tactic| walk_at "call builtin:len") => `(tactic| (
  (with_reducible show wpAny _ _ (call (Value.builtin _) [Value.ref _]) _ _ _)
  (refine' Mine.len_strsN ?k1 ?k2 ?k3 ?k4 ?_)
  (case k1 => k_asm)
  (case k2 => walk_at "my_mem")
  (case k3 => with_reducible assumption)
  (case k4 => omega)
  k_whole))
local macro_rules | `(tactic| walk_at "binaryOp Add ref ref") => `(tactic| (
  (with_reducible show wpAny _ _ (binaryOp _ (Value.ref _) (Value.ref _)) _ _ _)
  k_dflt (
    (refine' Mine.add_strsN ?F ?N ?a ?b ?i ?j ?z ?_)
    (case F => k_asm)
    (case N => k_asm)
    (case a => first | walk_at "my_mem" | exact List.mem_cons_self | exact List.mem_cons_of_mem _ List.mem_cons_self)
    (case b => exact List.mem_cons_self)
    (case i => with_reducible assumption)
    (case j => (repeat constructor); done)
    (case z => (simp only [List.length_append, List.length_drop, List.length_cons, List.length_nil, Nat.zero_add, Nat.reduceAdd]; omega)))
  intro D' h' F' N' l1 hS'
  (try k_lt l1)))
local macro_rules | `(tactic| walk_at "call builtin:list.append") => `(tactic| (refine Mine.wait ?_))
local macro_rules | `(tactic| walk_at "eval ListComp") => `(tactic| (k_dflt (refine LCg.ListComp_U (F₀ := by k_asm) (by with_unfolding_all rfl) (by decide) (by rfl) (by decide) (by rfl) ?_)))
local macro_rules | `(tactic| walk_at "call builtin:str.join") => `(tactic| (
  (with_reducible show wpAny _ _ (call (Value.builtin "str.join") [Value.str _ _, Value.ref _]) _ _ _)
  k_dflt (
    (refine' Mine.join_slash ?k1 ?k2 ?k3 ?k4 ?k5 ?_)
    (case k1 => k_asm)
    (case k2 => walk_at "my_mem")
    (case k3 => with_reducible assumption)
    (case k4 => first | with_reducible assumption | exact Mine.ten_drop (by with_reducible assumption))
    (case k5 => (try simp only [List.length_drop]); omega))
  intro t' k' hj'))
local macro_rules | `(tactic| walk_at "subscriptTail Name Slice ref ref") => `(tactic| (
  (with_reducible show wpAny _ _ (subscriptTail _ (PySem.Expr.Slice _ _ none _) (Value.ref _) (Value.ref _)) _ _ _)
  k_dflt (
    (refine' Mine.slice_strsN ?F ?N ?l ?i ?p ?q ?z ?_ ?s ?t)
    (case F => k_asm)
    (case N => k_asm)
    (case l => walk_at "my_mem")
    (case i => with_reducible assumption)
    (case p => kmk_part)
    (case q => kmk_part)
    (case z => omega)
    (case s => with_unfolding_all rfl)
    (case t => kmk_pure))
  intro D' us' c' h' F' N' l1 hS'
  (try k_lt l1)
  (try rw [Mine.pick_from (by omega)] at hS')
  (try rw [Mine.pick_upto (by omega)] at hS')
  (try simp only [Int.zero_add, Int.toNat_natCast] at hS')))
namespace Mine
theorem end_at {h₀ : Heap} {L I : Addr} {it : Obj} {rest : (Str → Option Value) → List (Addr × Obj) → Prop} {s₁ : Shared} {h' : Heap} {tk : Nat} {m' : Str → Option Value} {all : List (Addr × Obj)} (F : Fr h₀ L h' m') (N : News h₀ L h' all) (nx : List (Addr × Obj))
    (hI : (I, it) ∈ all) (sub : ∀ p ∈ nx, p ∈ all) (off : ∀ p ∈ nx, p.1 ≠ I ∨ p.2.cls ≠ it.cls) (r : rest m' nx) : UnrEnd h₀ L s₁ I it rest { s₁ with heap := h', toks := tk } :=
  UnrEnd.intro F N nx (fun p hp => by
    rcases List.mem_cons.mp hp with rfl | hp
    · exact hI
    · exact sub p hp) (fun p hp e => by
    rcases off p hp with h | h
    · exact h e
    · have h1 := (N _ (sub p hp)).1
      have h2 := (N _ hI).1
      rw [e] at h1
      exact h (congrArg Obj.cls (Option.some.inj (h1.symm.trans h2)))) r

theorem kept_end {g h' : Heap} {L I D lb lf : Addr} {it : Obj} {s₁ : Shared} {tk k n : Nat} {m' : Str → Option Value} {all nw : List (Addr × Obj)} {vw : List Value} {ws bs fs : List Str} {o last : Str} {tl : Tok}
    (F : Fr g L h' m') (e4 : m' (S "ways") = some (.ref D)) (N : News g L h' all) (hD : (D, listOf (List.toArray vw) n) ∈ all) (hI : (I, it) ∈ all) (hn : ∀ p ∈ nw, p ∈ all) (hI2 : ∀ p ∈ nw, p.1 < I) (lt : @LT.lt Nat _ I D) (S9 : StrsAre vw ws)
    (len : ws.length ≤ 3 + 10 * (k + 1)) (hw : ∀ x ∈ ws, Way o bs fs last x) (e1 : m' (S "base") = some (.ref lb)) (e2 : m' (S "folders") = some (.ref lf)) (e3 : m' (S "last") = some (.str last tl)) :
    UnrEnd g L s₁ I it (fun m' nx => ∃ q vw n ws, nx = (q, listOf vw.toArray n) :: nw ∧ (∀ p ∈ nw, p.1 < q) ∧ StrsAre vw ws ∧ ws.length ≤ 3 + 10 * (k + 1) ∧ (∀ x ∈ ws, Way o bs fs last x) ∧
      m' (S "base") = some (.ref lb) ∧ m' (S "folders") = some (.ref lf) ∧ m' (S "last") = some (.str last tl) ∧ m' (S "ways") = some (.ref q)) { s₁ with heap := h', toks := tk } :=
  end_at F N ((D, listOf (List.toArray vw) n) :: nw) hI (List.forall_mem_cons.mpr ⟨hD, hn⟩) (List.forall_mem_cons.mpr ⟨.inl (Nat.ne_of_gt lt), fun p hp => .inl (Nat.ne_of_lt (hI2 p hp))⟩)
    ⟨D, vw, n, ws, rfl, fun p hp => Nat.lt_trans (hI2 p hp) lt, S9, len, hw, e1, e2, e3, e4⟩

theorem kept_loop : ∀ (w : World) (mean : ExcName → Option Value) (mg mb : Str → Option Value) (A : Around) (g : Heap) (L : Addr) (m : Str → Option Value) (nw : List (Addr × Obj)) (s : Shared) (Q : Flow → Shared → Prop) (E : Value → Shared → Prop)
    (lb lf q : Addr) (vb vf vw : List Value) (nb nf n : Nat) (o last : Str) (bs fs ws : List Str) (ts tl : Tok) (i : Nat)
   (_ : A.handled = none)
   (_ : Fr g L s.heap m) (_ : (Mine.hd.heap_39 w.params).In g) (_ : News g L s.heap ((q, listOf vw.toArray n) :: nw)) (_ : Top Mine.hd.view_39 (looseW Mine.hd.view_39 [Str.ofString "splitFragP"]) mean mg mb g)
   (_ : m (S "base") = some (.ref lb)) (_ : m (S "folders") = some (.ref lf)) (_ : m (S "last") = some (.str last tl)) (_ : m (S "ways") = some (.ref q)) (_ : m (S "same") = some (.int (i : Int) ts))
   (_ : (lb, listOf vb.toArray nb) ∈ nw) (_ : (lf, listOf vf.toArray nf) ∈ nw) (_ : StrsAre vb bs) (_ : StrsAre vf fs) (_ : bs.length ≤ 10) (_ : fs.length ≤ 10) (_ : ∀ x ∈ fs, x.length ≤ 10) (_ : last.length ≤ 10)
   (_ : ∀ p ∈ nw, p.1 < q) (_ : StrsAre vw ws) (_ : ws.length ≤ 3) (_ : ∀ x ∈ ws, Way o bs fs last x) (_ : Meet bs fs i)
   (_ : PassesOwn (model PySem.Challenge.rw_fc0189_01.row.prog w) (A.deeper (envOf "_law_ways" (waysScope w.params) L 62 (.ref 61))) (envOf "_law_ways" (waysScope w.params) L 62 (.ref 61)) E)
   (_ : ∀ q vw n ws h' tk' m', m' (S "ways") = some (.ref q) → (∀ p ∈ nw, p.1 < q) → StrsAre vw ws → ws.length ≤ 200 → (∀ x ∈ ws, Way o bs fs last x) → Fr g L h' m' → News g L h' ((q, listOf vw.toArray n) :: nw) → Q .next { s with heap := h', toks := tk' }),
   wpAny (model PySem.Challenge.rw_fc0189_01.row.prog w) (A.deeper (envOf "_law_ways" (waysScope w.params) L 62 (.ref 61))) (exec (((waysTail w.params).drop 1).headD default) (envOf "_law_ways" (waysScope w.params) L 62 (.ref 61))) Q E s := by
  k_fill
  intro w mean mg mb A g L m nw s Q E lb lf q vb vf vw nb nf n o last bs fs ws ts tl i hA F X N T e1 e2 e3 e4 e5 m1 m2 s1 s2 l1 l2 l3 l4 lq s3 l5 hw hm hE hret
  show wpAny _ (Around.deeper _ (envOf _ (Scope.mk _ _ _ _ _) _ _ _)) (exec (Stmt.For (Expr.Name _ _) (Expr.Call _ _ _ _) _ [] _) (envOf _ (Scope.mk _ _ _ _ _) _ _ _)) _ _ _
  rw [← kst_self (m := m) (ps := [(S "base", .ref lb), (S "folders", .ref lf), (S "last", .str last tl), (S "ways", .ref q), (S "same", .int (i : Int) ts)]) (by simp [e1, e2, e3, e4, e5])] at F
  have h1 := hm.1
  have h2 := hm.2.1
  k_steps
  refine Mine.waited ?_
  refine iter_rangeUnr (n := i + 1) hA (by assumption) (small_one (by omega) (by omega) (by omega) (by omega)) ((rangeSize_nat _ _).trans (by omega)) (by assumption) (by assumption) ?_
  intro I hI
  refine range_rest_inv (fun k m' nx => ∃ q vw n ws, nx = (q, listOf vw.toArray n) :: nw ∧ (∀ p ∈ nw, p.1 < q) ∧ StrsAre vw ws ∧ ws.length ≤ 3 + 10 * k ∧ (∀ x ∈ ws, Way o bs fs last x) ∧
    m' (S "base") = some (.ref lb) ∧ m' (S "folders") = some (.ref lf) ∧ m' (S "last") = some (.str last tl) ∧ m' (S "ways") = some (.ref q)) ?turn ?done (i + 1) 0 _ _ (by omega) ⟨q, vw, n, ws, rfl, lq, s3, l5, hw, rfl, rfl, rfl, rfl⟩
  case done =>
    rintro m' nx h' tk' ⟨q, vw, n, ws, rfl, lq, s3, l5, hw, e1, e2, e3, e4⟩ F N
    exact hret q vw n ws _ _ _ e4 lq s3 (by omega) hw F N
  have hI2 : ∀ p ∈ nw, p.1 < I := fun p hp => hI p (.tail _ hp)
  clear hI e1 e2 e3 e4 e5 lq s3 l5 hw hret
  rintro k m' nx t h' tk' hk ⟨q, vw, n, ws, rfl, lq, s3, l5, hw, e1, e2, e3, e4⟩ F N
  rw [← kst_self (m := m') (ps := [(S "base", .ref lb), (S "folders", .ref lf), (S "last", .str last tl), (S "ways", .ref q)]) (by simp [e1, e2, e3, e4])] at F
  clear e1 e2 e3 e4
  have hm := meet_le hm (Nat.le_of_lt_succ hk)
  have h1 := hm.1
  have h2 := hm.2.1
  k_steps
  iterate 4 (all_goals try (
    refine Mine.waited ?_
    (with_reducible show wpAny _ _ (call _ _) _ _ _)
    refine append_strsN (keep := (I, itR (0 + ((k + 1 : Nat) : Int)) (((i + 1 : Nat) : Int) - ((k + 1 : Nat) : Int))) :: nw) (by k_asm) (by k_asm) (by walk_at "my_mem")
      (List.forall_mem_cons.mpr ⟨by walk_at "my_mem", fun p hp => by walk_at "my_mem"⟩)
      (List.forall_mem_cons.mpr ⟨Nat.ne_of_lt (by dsimp only; omega), fun p hp => Nat.ne_of_lt (Nat.lt_trans (hI2 p hp) (by omega))⟩)
      (by with_reducible assumption) (by simp only [List.length_append, List.length_cons, List.length_nil]; omega) ?_
    intro h8 F8 N8 S8
    k_steps))
  all_goals (try refine Mine.waited ?_)
  all_goals (
    refine kept_end (by assumption) (by with_unfolding_all rfl) (by assumption) (by walk_at "my_mem") (by walk_at "my_mem") (fun p hp => by walk_at "my_mem") hI2 (by (try dsimp only); omega) (by with_reducible assumption)
      (by simp only [List.length_append, List.length_cons, List.length_nil]; omega) ?_ (by with_unfolding_all rfl) (by with_unfolding_all rfl) (by with_unfolding_all rfl)
    repeat' (with_reducible first
      | assumption
      | exact allW_nil
      | refine allW_cons ?_ ?_
      | refine allW_append ?_ ?_
      | exact .ahead hm
      | exact .behind hm
      | exact .each hm (by assumption)
      | exact .each0 hm (by assumption)
      | exact .steps hm (by assumption)
      | exact .down hm (by assumption) (by assumption) (by assumption)
      | exact .bare hm (by assumption) (by assumption)
      | exact .point hm (by assumption) (by assumption)
      | exact .pointed hm (by assumption)
      | exact .more hm (by assumption)
      | exact .most hm (by assumption)))
end Mine
end
section
open PySem PySem.W PyProof.Rows PySem.Spec PySem.Calls
set_option Elab.async false
set_option maxRecDepth 100000
set_option maxHeartbeats 2000000
local macro_rules | `(tactic| walk_at "my_pad13") => `(tactic| skip)
local macro_rules | `(tactic| walk_at "exec While") => `(tactic| (refine Mine.wait ?_))
local macro_rules | `(tactic| walk_at "exec For Name Call cons nil") => `(tactic| (refine Mine.wait ?_))
local macro_rules | `(tactic| walk_at "my_mem") => `(tactic| first | with_reducible assumption | with_reducible exact List.mem_cons_self | (with_reducible refine List.mem_cons_of_mem _ ?_; walk_at "my_mem"))
local macro_rules | `(tactic| walk_at "CompSrc") => `(tactic| (
  (refine' Mine.slash_src ?k1 ?k2 ?k3 ?k4 ?k5 ?k6 ?k7 ?k8 ?k9 ?_)
  (case k1 => first | exact rfl | assumption)
  (case k2 => k_asm)
  (case k3 => k_asm)
  (case k4 => walk_at "my_mem")
  (case k5 => with_reducible assumption)
  (case k6 => exact Mine.few (by with_reducible assumption) (by (try simp only [List.length_drop]); omega))
  (case k7 => walk_at "my_short")
  (case k8 => exact rfl)
  (case k9 => exact rfl)
  k_whole
  intro g' ys' hys'
  (try dsimp only)
  (try unfold LCg.FinE)
  intro D' h' tk' F' N' o1
  (try simp only [LCg.Off1] at o1)
  (try dsimp only)))
local macro_rules | `(tactic| walk_at "my_short") => `(tactic| first | exact Mine.short_all (by with_reducible assumption) | exact Mine.short_drop (by with_reducible assumption))
local macro_rules | `(tactic| walk_at "binaryOp Mult str int") => `(tactic| (
  (refine' Mine.mul_small ?k1 ?k2 ?k3 ?_)
  (case k1 => decide +kernel)
  (case k2 => omega)
  (case k3 => omega)
  intro t' k' hm'))
local macro_rules | `(tactic| walk_at "call builtin:len") => `(tactic| (
  (with_reducible show wpAny _ _ (call (Value.builtin _) [Value.ref _]) _ _ _)
  (refine' Mine.len_strsN ?k1 ?k2 ?k3 ?k4 ?_)
  (case k1 => k_asm)
  (case k2 => walk_at "my_mem")
  (case k3 => with_reducible assumption)
  (case k4 => omega)
  k_whole))
local macro_rules | `(tactic| walk_at "binaryOp Add ref ref") => `(tactic| (
  (with_reducible show wpAny _ _ (binaryOp _ (Value.ref _) (Value.ref _)) _ _ _)
  k_dflt (
    (refine' Mine.add_strsN ?F ?N ?a ?b ?i ?j ?z ?_)
    (case F => k_asm)
    (case N => k_asm)
    (case a => first | walk_at "my_mem" | exact List.mem_cons_self | exact List.mem_cons_of_mem _ List.mem_cons_self)
    (case b => exact List.mem_cons_self)
    (case i => with_reducible assumption)
    (case j => (repeat constructor); done)
    (case z => (simp only [List.length_append, List.length_drop, List.length_cons, List.length_nil, Nat.zero_add, Nat.reduceAdd]; omega)))
  intro D' h' F' N' l1 hS'
  (try k_lt l1)))
local macro_rules | `(tactic| walk_at "call builtin:list.append") => `(tactic| (refine Mine.wait ?_))
local macro_rules | `(tactic| walk_at "eval ListComp") => `(tactic| (k_dflt (refine LCg.ListComp_U (F₀ := by k_asm) (by with_unfolding_all rfl) (by decide) (by rfl) (by decide) (by rfl) ?_)))
local macro_rules | `(tactic| walk_at "call builtin:str.join") => `(tactic| (
  (with_reducible show wpAny _ _ (call (Value.builtin "str.join") [Value.str _ _, Value.ref _]) _ _ _)
  k_dflt (
    (refine' Mine.join_slash ?k1 ?k2 ?k3 ?k4 ?k5 ?_)
    (case k1 => k_asm)
    (case k2 => walk_at "my_mem")
    (case k3 => with_reducible assumption)
    (case k4 => first | with_reducible assumption | exact Mine.ten_drop (by with_reducible assumption))
    (case k5 => (try simp only [List.length_drop]); omega))
  intro t' k' hj'))
local macro_rules | `(tactic| walk_at "subscriptTail Name Slice ref ref") => `(tactic| (
  (with_reducible show wpAny _ _ (subscriptTail _ (PySem.Expr.Slice _ _ none _) (Value.ref _) (Value.ref _)) _ _ _)
  k_dflt (
    (refine' Mine.slice_strsN ?F ?N ?l ?i ?p ?q ?z ?_ ?s ?t)
    (case F => k_asm)
    (case N => k_asm)
    (case l => walk_at "my_mem")
    (case i => with_reducible assumption)
    (case p => kmk_part)
    (case q => kmk_part)
    (case z => omega)
    (case s => with_unfolding_all rfl)
    (case t => kmk_pure))
  intro D' us' c' h' F' N' l1 hS'
  (try k_lt l1)
  (try rw [Mine.pick_from (by omega)] at hS')
  (try rw [Mine.pick_upto (by omega)] at hS')
  (try simp only [Int.zero_add, Int.toNat_natCast] at hS')))
namespace Mine
theorem news_sub {h₀ h : Heap} {L : Addr} {l l' : List (Addr × Obj)} (N : News h₀ L h l) (hs : ∀ p ∈ l', p ∈ l) : News h₀ L h l' := fun p hp => N p (hs p hp)
theorem ways_call : ∀ (w : World) (mean : ExcName → Option Value) (mg mb : Str → Option Value) (cn : Str) (cs : Scope) (a : Addr) (ccd : Value) (A₀ : Around) (base h₀ : Heap) (L : Addr) (m : Str → Option Value) (news : List (Addr × Obj)) (s : Shared) (Q E : Value → Shared → Prop)
    (o last : Str) (t1 t2 : Tok) (lb lf : Addr) (vb vf : List Value) (nb nf : Nat) (bs fs : List Str)
   (_ : Below A₀ base [] h₀) (_ : Fr h₀ L s.heap m) (_ : (Mine.hd.heap_39 w.params).In h₀) (_ : News h₀ L s.heap news) (_ : Top Mine.hd.view_39 (looseW Mine.hd.view_39 [Str.ofString "splitFragP"]) mean mg mb h₀) (_ : cs.kind = .function)
   (_ : (lb, listOf vb.toArray nb) ∈ news) (_ : (lf, listOf vf.toArray nf) ∈ news) (_ : StrsAre vb bs) (_ : StrsAre vf fs)
   (_ : bs.length ≤ 10) (_ : fs.length ≤ 10) (_ : ∀ x ∈ fs, x.length ≤ 10) (_ : last.length ≤ 10) (_ : 1 ≤ o.length) (_ : o.length ≤ 100)
   (_ : ∀ q vs n ws h' tk', Fr h₀ L h' m → News h₀ L h' ((q, listOf vs.toArray n) :: news) → (∀ p ∈ news, p.1 < q) → StrsAre vs ws → ws.length ≤ 200 → (∀ x ∈ ws, Way o bs fs last x) → Q (.ref q) { s with heap := h', toks := tk' }),
   wpAny (model PySem.Challenge.rw_fc0189_01.row.prog w) (callerA.deeper (envOf cn cs L a ccd)) (call (.ref 62) [.str o t1, .ref lb, .ref lf, .str last t2]) Q E s := by
  k_fill
  intro w mean mg mb cn cs a ccd A₀ base h₀ L m news s Q E o last t1 t2 lb lf vb vf nb nf bs fs B F X N T hk m1 m2 s1 s2 l1 l2 l3 l4 l5 l6 hret
  refine wpAny_call ?_
  k_dflt cell_enter
  k_steps
  all_goals try (
    refine Mine.waited ?_
    (with_reducible show wpAny _ _ (call _ _) _ _ _)
    refine append_strsN (keep := news) (by k_asm) (by k_asm) (by walk_at "my_mem") (fun p hp => by walk_at "my_mem")
      (fun p hp => Nat.ne_of_lt (ktn_ltOf (by first | assumption | exact (by assumption : _ ∧ AllLt _ news).2 | exact (by assumption : _ ∧ _ ∧ AllLt _ news).2.2) p hp))
      (by repeat constructor) (by simp only [List.length_cons, List.length_nil]; omega) ?_
    intro h8 F8 N8 S8
    k_steps)
  all_goals (
    refine Mine.waited ?_
    refine same_loop w mean mg mb (callerA.deeper (envOf cn cs L a ccd)) _ _ _ _ _ _ _ lb lf vb vf nb nf bs fs _ (by with_reducible assumption) (by with_reducible assumption) (by with_reducible assumption) (by with_reducible assumption)
      (by with_unfolding_all rfl) (by with_unfolding_all rfl) (by with_unfolding_all rfl) (by walk_at "my_mem") (by walk_at "my_mem") s1 s2 l1 l2 (by passes_own) ?_
    intro i t9 h9 tk9 m9 hm e9 e8 F9 N9
    dsimp only
    k_steps
    refine Mine.waited ?_
    have e4 : m9 (S "ways") = some (Value.ref _) := (e8 (S "ways") (by decide +kernel)).trans (by with_unfolding_all rfl)
    refine kept_loop w mean mg mb (callerA.deeper (envOf cn cs L a ccd)) _ _ m9 news _ _ _ lb lf _ vb vf _ nb nf _ o last bs fs _ _ _ i rfl F9 (by with_reducible assumption)
      (news_sub N9 (List.forall_mem_cons.mpr ⟨by walk_at "my_mem", fun p hp => by walk_at "my_mem"⟩)) (by with_reducible assumption)
      ((e8 (S "base") (by decide +kernel)).trans (by with_unfolding_all rfl)) ((e8 (S "folders") (by decide +kernel)).trans (by with_unfolding_all rfl)) ((e8 (S "last") (by decide +kernel)).trans (by with_unfolding_all rfl)) e4 e9 m1 m2 s1 s2 l1 l2 l3 l4
      (fun p hp => ktn_ltOf (by first | assumption | exact (by assumption : _ ∧ AllLt _ news).2 | exact (by assumption : _ ∧ _ ∧ AllLt _ news).2.2) p hp)
      (by first | with_reducible assumption | (repeat constructor)) (by simp only [List.length_append, List.length_cons, List.length_nil]; omega)
      (by
        repeat' (with_reducible first
          | exact allW_nil
          | refine allW_cons ?_ ?_
          | refine allW_append ?_ ?_
          | exact .all
          | exact .root
          | exact .host (by assumption)))
      hm (by passes_own) ?_
    intro q7 v7 n7 ws7 h7 tk7 m7 e7 lt7 S7 len7 W7 F7 N7
    dsimp only
    rw [← kst_self (m := m7) (ps := [(S "ways", .ref q7)]) (by simp [e7])] at F7
    k_steps
    exact hret q7 v7 n7 ws7 _ _ (by with_reducible assumption) (by with_reducible assumption) lt7 S7 len7 W7)
end Mine
end
section
open PySem PyProof.Rows
namespace Mine
def openings : List Str := [S "http://h", S "file://", S "s:", S "http://u@h:8", S "a+b://é"]
def names : List Str := [S "a", S "b", S "..g", S "é", S ".h", S "e:f", S "...", S "b-"]
def lasts : List Str := [S "c", S "", S "d?q=1", S "e:f", S "..g", S ".h"]
def tags : List Str := [S "", S "#x", S "#", S "#x/y", S "#x?y"]
/-- the base as the law keeps it: an opening, its folders, and what is written -/
def Good (o : Str) (bs : List Str) (here : Str) : Prop :=
  o ∈ openings ∧ (∀ x ∈ bs, x ∈ names) ∧ bs.length ≤ 4 ∧
    ((∃ last ∈ lasts, here = o ++ S "/" ++ Txt.join (S "") (bs.map (· ++ S "/")) ++ last) ∨ (bs = [] ∧ here = o ∧ (o == S "s:") = false))
theorem names_len {bs : List Str} (h : ∀ x ∈ bs, x ∈ names) : ∀ x ∈ bs, x.length ≤ 10 := by
  have e : ∀ x ∈ names, x.length ≤ 10 := by decide +kernel
  exact fun x hx => e x (h x hx)
theorem lasts_len {x : Str} (h : x ∈ lasts) : x.length ≤ 10 := by
  have e : ∀ x ∈ lasts, x.length ≤ 10 := by decide +kernel
  exact e x h
theorem tags_len {x : Str} (h : x ∈ tags) : x.length ≤ 10 := by
  have e : ∀ x ∈ tags, x.length ≤ 10 := by decide +kernel
  exact e x h
theorem openings_len {x : Str} (h : x ∈ openings) : 1 ≤ x.length ∧ x.length ≤ 20 := by
  have e : ∀ x ∈ openings, 1 ≤ x.length ∧ x.length ≤ 20 := by decide +kernel
  exact e x h
theorem good_next {o name : Str} {fs : List Str} (ho : o ∈ openings) (hf : ∀ x ∈ fs, x ∈ names) (hl : fs.length ≤ 4) (hn : name ∈ lasts) : Good o fs (o ++ S "/" ++ Txt.join (S "") (fs.map (· ++ S "/")) ++ name) :=
  ⟨ho, hf, hl, .inl ⟨name, hn, rfl⟩⟩
theorem good_len {o here : Str} {bs : List Str} (g : Good o bs here) : here.length ≤ 200 := by
  obtain ⟨ho, hb, hl, h⟩ := g
  have h1 := openings_len ho
  have e : (S "/").length = 1 := by decide +kernel
  rcases h with ⟨last, h2, rfl⟩ | ⟨_, rfl, _⟩
  · have h3 := lasts_len h2
    have h4 : (Txt.join (S "") (bs.map (· ++ S "/"))).length ≤ 110 := len_path (last := last) (names_len hb) (by omega)
    simp only [Str.length_append, e]
    omega
  · omega
end Mine
end
section
open PySem PyProof.Rows PySem.StrLaws
namespace Mine
open Builtin Builtin.Str
/-! texts as lists of signs -/
abbrev L (x : Str) : List Nat := x.cps.toList
theorem L_len (x : Str) : (L x).length = x.length := Array.length_toList
theorem L_app (x y : Str) : L (x ++ y) = L x ++ L y := by
  show (x ++ y).cps.toList = _
  rw [Str.cps_append, Array.toList_append]
theorem L_inj {x y : Str} (h : L x = L y) : x = y := Str.ext' (Array.ext' h)
theorem L_beq (x y : Str) : (x == y) = (L x == L y) := by
  by_cases h : x = y
  · subst h; simp
  · have h2 : ¬ L x = L y := fun e => h (L_inj e)
    rw [beq_eq_false_iff_ne.mpr h, beq_eq_false_iff_ne.mpr h2]
theorem at_one {x y : Str} {c : Nat} (hy : L y = [c]) {i : Nat} : At x y x.length i ↔ (L x)[i]? = some c := by
  have hl : y.length = 1 := by rw [← L_len, hy]; rfl
  unfold At
  rw [subAt_eq, hl]
  have : y.cps.toList = [c] := hy
  rw [this]
  constructor
  · rintro ⟨h1, h2⟩
    have h3 := eq_of_beq h2
    have h4 : i < (L x).length := by rw [L_len]; omega
    rw [List.drop_eq_getElem_cons h4] at h3
    simp at h3
    rw [List.getElem?_eq_getElem h4, ← h3]
    simp
  · intro h
    obtain ⟨h4, h5⟩ := List.getElem?_eq_some_iff.mp h
    refine ⟨by rw [L_len] at h4; omega, ?_⟩
    rw [List.drop_eq_getElem_cons h4, h5]
    simp
theorem get_at {a b : List Nat} {c : Nat} : (a ++ c :: b)[a.length]? = some c := by simp
theorem get_lt {a b : List Nat} {c k : Nat} (hk : k < a.length) (h : c ∉ a) : (a ++ b)[k]? ≠ some c := by
  intro e
  rw [List.getElem?_append_left hk] at e
  exact h (List.mem_of_getElem? e)
theorem get_gt {a b : List Nat} {c d k : Nat} (hk : a.length < k) (h : c ∉ b) : (a ++ d :: b)[k]? ≠ some c := by
  intro e
  rw [List.getElem?_append_right (by omega)] at e
  obtain ⟨j, hj⟩ : ∃ j, k - a.length = j + 1 := ⟨k - a.length - 1, by omega⟩
  rw [hj, List.getElem?_cons_succ] at e
  exact h (List.mem_of_getElem? e)
section
variable {x y : Str} {c : Nat} {a b : List Nat}
theorem find_hit (hy : L y = [c]) (h : L x = a ++ c :: b) (ha : c ∉ a) : Txt.find x y = (a.length : Int) := by
  rcases find_whole x y with ⟨_, hn⟩ | ⟨i, e, hi, hn⟩
  · exact absurd ((at_one hy).mpr (by rw [h]; exact get_at)) (hn a.length)
  · rw [e]
    have h1 := (at_one hy).mp hi
    rw [h] at h1
    have h2 : ¬ i < a.length := fun hl => get_lt hl ha h1
    have h3 : ¬ a.length < i := fun hl => hn _ hl ((at_one hy).mpr (by rw [h]; exact get_at))
    omega
theorem find_miss (hy : L y = [c]) (h : c ∉ L x) : Txt.find x y = -1 := by
  rcases find_whole x y with ⟨e, _⟩ | ⟨i, _, hi, _⟩
  · exact e
  · exact absurd (List.mem_of_getElem? ((at_one hy).mp hi)) h
theorem find_at (hy : L y = [c]) (h : c ∈ L x) : ∃ a b, L x = a ++ c :: b ∧ c ∉ a ∧ Txt.find x y = (a.length : Int) := by
  obtain ⟨a, b, h1, h2⟩ := List.append_of_mem h |> fun ⟨s, t, e⟩ => (by
    classical
    have := List.exists_erase_eq h
    obtain ⟨s, t, hs, e, _⟩ := this
    exact ⟨s, t, e, hs⟩ : ∃ a b, L x = a ++ c :: b ∧ c ∉ a)
  exact ⟨a, b, h1, h2, find_hit hy h1 h2⟩
theorem rfind_hit (hy : L y = [c]) (h : L x = a ++ c :: b) (hb : c ∉ b) : Txt.rfind x y = (a.length : Int) := by
  rcases rfind_whole x y with ⟨_, hn⟩ | ⟨i, e, hi, hn⟩
  · exact absurd ((at_one hy).mpr (by rw [h]; exact get_at)) (hn a.length)
  · rw [e]
    have h1 := (at_one hy).mp hi
    rw [h] at h1
    have h2 : ¬ a.length < i := fun hl => get_gt hl hb h1
    have h3 : ¬ i < a.length := fun hl => hn _ hl ((at_one hy).mpr (by rw [h]; exact get_at))
    omega
theorem rfind_miss (hy : L y = [c]) (h : c ∉ L x) : Txt.rfind x y = -1 := by
  rcases rfind_whole x y with ⟨e, _⟩ | ⟨i, _, hi, _⟩
  · exact e
  · exact absurd (List.mem_of_getElem? ((at_one hy).mp hi)) h
theorem find3_head (x y : Str) (i : Int) : (Txt.find3 x y i = -1 ∧ ∀ k, fromIndex x.length i ≤ k → ¬ At x y x.length k) ∨ ∃ k : Nat, Txt.find3 x y i = (k : Int) ∧ fromIndex x.length i ≤ k ∧ At x y x.length k ∧ ∀ j, fromIndex x.length i ≤ j → j < k → ¬ At x y x.length j := by
  unfold Txt.find3
  rcases occ_head_from x y (fromIndex x.length i) 1 (Nat.le_refl 1) with ⟨h0, hn⟩ | ⟨k, r, h0, hlo, hk, hn⟩
  · rw [h0]; exact .inl ⟨rfl, hn⟩
  · rw [h0]; exact .inr ⟨k, rfl, hlo, hk, hn⟩
theorem from_nat {n i : Nat} : fromIndex n (i : Int) = i := by
  unfold fromIndex
  rw [if_neg (by omega)]
  omega
theorem find3_hit {p : List Nat} (hy : L y = [c]) (h : L x = p ++ a ++ c :: b) (ha : c ∉ a) : Txt.find3 x y (p.length : Int) = ((p ++ a).length : Int) := by
  have hk : (L x)[(p ++ a).length]? = some c := by rw [h]; exact get_at
  rcases find3_head x y (p.length : Int) with ⟨_, hn⟩ | ⟨i, e, hlo, hi, hn⟩
  · exact absurd ((at_one hy).mpr hk) (hn _ (by rw [from_nat, List.length_append]; omega))
  · rw [e]
    rw [from_nat] at hlo hn
    have h1 := (at_one hy).mp hi
    rw [h, List.append_assoc, List.getElem?_append_right hlo] at h1
    have h2 : ¬ i < (p ++ a).length := fun hl => get_lt (by rw [List.length_append] at hl; omega) ha h1
    have h3 : ¬ (p ++ a).length < i := fun hl => hn _ (by rw [List.length_append]; omega) hl ((at_one hy).mpr hk)
    omega
theorem find3_miss {p : List Nat} (hy : L y = [c]) (h : L x = p ++ a) (ha : c ∉ a) : Txt.find3 x y (p.length : Int) = -1 := by
  rcases find3_head x y (p.length : Int) with ⟨e, _⟩ | ⟨i, _, hlo, hi, _⟩
  · exact e
  · exfalso
    rw [from_nat] at hlo
    have h1 := (at_one hy).mp hi
    rw [h, List.getElem?_append_right hlo] at h1
    exact ha (List.mem_of_getElem? h1)
theorem last_mem (s sub : Str) (hi : Nat) : ∀ (l : List Nat) (st : Option Nat), (forIn l st (lastBody s sub hi)).run = st ∨ ∃ a ∈ l, (forIn l st (lastBody s sub hi)).run = some a
  | [], st => .inl rfl
  | a :: l, st => by
    rw [List.forIn_cons]
    unfold lastBody
    by_cases hc : a + sub.length ≤ hi ∧ subAt s sub a = true
    · rw [if_pos hc]
      rcases last_mem s sub hi l (some a) with h | ⟨k, hk, h⟩
      · exact .inr ⟨a, .head _, h⟩
      · exact .inr ⟨k, .tail _ hk, h⟩
    · rw [if_neg hc]
      rcases last_mem s sub hi l st with h | ⟨k, hk, h⟩
      · exact .inl h
      · exact .inr ⟨k, .tail _ hk, h⟩
theorem last_spec4 (x y : Str) (lo hi : Nat) (hh : hi ≤ x.length) : (lastOccurrence x y lo hi = none ∧ ∀ i, lo ≤ i → ¬ At x y hi i) ∨ ∃ i, lastOccurrence x y lo hi = some i ∧ lo ≤ i ∧ At x y hi i ∧ ∀ k, lo ≤ k → i < k → ¬ At x y hi k := by
  have h := last_run x y hi (List.range' lo (hi + 1 - lo)) [] none (fun _ h => nomatch h) (fun _ h => nomatch h) (List.pairwise_lt_range')
  rw [← last_eq, List.nil_append] at h
  have hm : ∀ i, lo ≤ i → At x y hi i → i ∈ List.range' lo (hi + 1 - lo) := fun i h1 h2 => by
    have := h2.1
    rw [List.mem_range'_1]; omega
  cases e : lastOccurrence x y lo hi with
  | none =>
    rw [e] at h
    exact .inl ⟨rfl, fun i h1 h2 => h i (hm i h1 h2) h2⟩
  | some k =>
    rw [e] at h
    refine .inr ⟨k, rfl, ?_, h.1, fun i h1 h2 h3 => h.2 i (hm i h1 h3) h2 h3⟩
    rcases last_mem x y hi (List.range' lo (hi + 1 - lo)) none with h2 | ⟨k2, hk, h2⟩
    · rw [← last_eq, e] at h2
      exact nomatch h2
    · rw [← last_eq, e] at h2
      have h3 := Option.some.inj h2
      have h4 := List.mem_range'_1.mp hk
      omega
theorem at_hi {hi i : Nat} (hh : hi ≤ x.length) (hy : L y = [c]) : At x y hi i ↔ i < hi ∧ (L x)[i]? = some c := by
  have hl : y.length = 1 := by rw [← L_len, hy]; rfl
  rw [← at_one hy]
  unfold At
  rw [hl]
  constructor
  · rintro ⟨h1, h2⟩
    exact ⟨by omega, by omega, h2⟩
  · rintro ⟨h1, _, h2⟩
    exact ⟨by omega, h2⟩
theorem rfind4_hit {p m q : List Nat} {r : Int} (hy : L y = [c]) (h : L x = p ++ (a ++ c :: m) ++ q) (hm : c ∉ m) (hr : r = ((p ++ (a ++ c :: m)).length : Int)) : rfind4 x y (p.length : Int) r = ((p ++ a).length : Int) := by
  have hlen : (p ++ (a ++ c :: m)).length ≤ x.length := by rw [← L_len, h, List.length_append (bs := q)]; omega
  have e1 : min (fromIndex x.length r) x.length = (p ++ (a ++ c :: m)).length := by rw [hr, from_nat]; exact Nat.min_eq_left hlen
  unfold rfind4
  rw [e1, from_nat]
  have hk : At x y (p ++ (a ++ c :: m)).length (p ++ a).length := (at_hi hlen hy).mpr ⟨by simp only [List.length_append, List.length_cons]; omega, by
    rw [h, show p ++ (a ++ c :: m) ++ q = (p ++ a) ++ c :: (m ++ q) by simp]; exact get_at⟩
  rcases last_spec4 x y p.length (p ++ (a ++ c :: m)).length hlen with ⟨_, hn⟩ | ⟨i, e, hlo, hi, hn⟩
  · exact absurd hk (hn _ (by rw [List.length_append]; omega))
  · rw [e]
    dsimp only
    have h1 := (at_hi hlen hy).mp hi
    have h2 : ¬ i < (p ++ a).length := fun hl => hn _ (by rw [List.length_append]; omega) hl hk
    have h3 : ¬ (p ++ a).length < i := fun hl => by
      have h4 := h1.2
      rw [h, show p ++ (a ++ c :: m) ++ q = ((p ++ a) ++ c :: m) ++ q by simp, List.getElem?_append_left (by have := h1.1; simp only [List.length_append, List.length_cons] at this ⊢; omega)] at h4
      exact get_gt hl hm h4
    omega
theorem rfind4_miss {p m q : List Nat} {r : Int} (hy : L y = [c]) (h : L x = p ++ m ++ q) (hm : c ∉ m) (hr : r = ((p ++ m).length : Int)) : rfind4 x y (p.length : Int) r = -1 := by
  have hlen : (p ++ m).length ≤ x.length := by rw [← L_len, h, List.length_append (bs := q)]; omega
  have e1 : min (fromIndex x.length r) x.length = (p ++ m).length := by rw [hr, from_nat]; exact Nat.min_eq_left hlen
  unfold rfind4
  rw [e1, from_nat]
  rcases last_spec4 x y p.length (p ++ m).length hlen with ⟨e, _⟩ | ⟨i, e, hlo, hi, hn⟩
  · rw [e]
  · exfalso
    have h1 := (at_hi hlen hy).mp hi
    have h4 := h1.2
    rw [h, List.getElem?_append_left h1.1, List.getElem?_append_right hlo] at h4
    exact hm (List.mem_of_getElem? h4)
end
/-! slices -/
theorem idx_clip_hi (l : Option Int) (n : Nat) (j : Nat) : strSliceIndices l (some (j : Int)) 1 n = strSliceIndices l (some ((min j n : Nat) : Int)) 1 n := by
  have a1 : ¬ ((j : Int) < 0) := by omega
  have a2 : ¬ (((min j n : Nat) : Int) < 0) := by omega
  have a3 : min (j : Int) (n : Int) = min ((min j n : Nat) : Int) (n : Int) := by omega
  simp only [strSliceIndices, a1, a2, a3, if_false, show (1 : Int) > 0 by decide, if_true]
theorem idx_clip_lo (u : Option Int) (n : Nat) (i : Nat) : strSliceIndices (some (i : Int)) u 1 n = strSliceIndices (some ((min i n : Nat) : Int)) u 1 n := by
  have a1 : ¬ ((i : Int) < 0) := by omega
  have a2 : ¬ (((min i n : Nat) : Int) < 0) := by omega
  have a3 : min (i : Int) (n : Int) = min ((min i n : Nat) : Int) (n : Int) := by omega
  simp only [strSliceIndices, a1, a2, a3, if_false, show (1 : Int) > 0 by decide, if_true]
theorem L_mid (x : Str) {i j : Nat} (h : i ≤ j) : L (Txt.slice x (some (i : Int)) (some (j : Int))) = ((L x).drop i).take (j - i) := by
  have e : Txt.slice x (some (i : Int)) (some (j : Int)) = sliceText x (some ((min i x.length : Nat) : Int)) (some ((min j x.length : Nat) : Int)) := by
    show sliceText x _ _ = _
    unfold sliceText
    rw [idx_clip_hi, idx_clip_lo]
  rw [e, sliceText_nat x (by omega) (by omega)]
  show ((L x).drop _).take _ = _
  by_cases h1 : i ≤ x.length
  · rw [Nat.min_eq_left h1]
    by_cases h2 : j ≤ x.length
    · rw [Nat.min_eq_left h2]
    · rw [Nat.min_eq_right (by omega), List.take_of_length_le (by rw [List.length_drop, L_len]; omega), List.take_of_length_le (by rw [List.length_drop, L_len]; omega)]
  · rw [Nat.min_eq_right (by omega), List.drop_eq_nil_of_le (by rw [L_len]; omega), List.drop_eq_nil_of_le (by rw [L_len]; omega)]
    simp
theorem L_to (x : Str) (j : Nat) : L (Txt.slice x none (some (j : Int))) = (L x).take j := by
  have e : Txt.slice x none (some (j : Int)) = Txt.slice x (some ((0 : Nat) : Int)) (some (j : Int)) := by
    show sliceText x _ _ = sliceText x _ _
    unfold sliceText
    rw [sliceIdx_none_lo]
    rfl
  rw [e, L_mid x (Nat.zero_le _)]
  simp
theorem L_from (x : Str) (i : Nat) : L (Txt.slice x (some (i : Int)) none) = (L x).drop i := by
  have e : Txt.slice x (some (i : Int)) none = sliceText x (some ((min i x.length : Nat) : Int)) none := by
    show sliceText x _ _ = _
    unfold sliceText
    rw [idx_clip_lo]
  rw [e, sliceText_from ⟨by omega, by rw [L_len]; omega⟩]
  show ((L x).drop _).take _ = _
  rw [List.take_of_length_le (by rw [List.length_drop, L_len]; omega)]
  by_cases h1 : i ≤ x.length
  · rw [Int.toNat_natCast, Nat.min_eq_left h1]
  · rw [Int.toNat_natCast, Nat.min_eq_right (by omega), List.drop_eq_nil_of_le (by rw [L_len]; omega), List.drop_eq_nil_of_le (by rw [L_len]; omega)]
theorem L_butlast (x : Str) (h : 1 ≤ x.length) : L (Txt.slice x none (some (-1))) = (L x).take (x.length - 1) := by
  show L (sliceText x none (some (-1))) = _
  rw [sliceText_to_neg (by decide) (by omega)]
  show ((L x).drop 0).take _ = _
  rw [List.drop_zero]
  congr 1
  omega
end Mine
end
section
open PySem PyProof.Rows PySem.StrLaws
namespace Mine
open Builtin Builtin.Str
theorem L_slash : L (S "/") = [47] := by decide +kernel
theorem L_colon : L (S ":") = [58] := by decide +kernel
theorem L_hash : L (S "#") = [35] := by decide +kernel
theorem L_empty : L (S "") = [] := by decide +kernel
/-- all folders, each with its slash -/
def PLs (fs : List Str) : List Nat := (fs.map (fun x => L x ++ [47])).flatten
theorem PLs_cons (x : Str) (r : List Str) : PLs (x :: r) = L x ++ 47 :: PLs r := by simp [PLs]
theorem PLs_nil : PLs [] = [] := rfl
theorem PLs_append (a b : List Str) : PLs (a ++ b) = PLs a ++ PLs b := by simp [PLs]
theorem L_join (fs : List Str) : L (Txt.join (S "") (fs.map (· ++ S "/"))) = PLs fs := by
  show _ = _
  rw [show L (Txt.join (S "") (fs.map (· ++ S "/"))) = _ from join_toList _, List.map_map]
  unfold PLs
  congr 1
  apply List.map_congr_left
  intro x _
  show L (x ++ S "/") = _
  rw [L_app, L_slash]
theorem L_path (fs : List Str) (last : Str) : L (pathOf fs last) = PLs fs ++ L last := by rw [L_app, L_join]
/-! the menus' signs -/
theorem name_no : ∀ x ∈ names, 47 ∉ L x ∧ 35 ∉ L x := by decide +kernel
theorem last_no : ∀ x ∈ lasts, 47 ∉ L x ∧ 35 ∉ L x := by decide +kernel
theorem tag_no : ∀ x ∈ tags, 58 ∉ L x := by decide +kernel
/-- what stands on its own as the rest of a way -/
def Plain (l : List Nat) : Prop := l.take 2 ≠ [46, 47] ∧ l ≠ [46] ∧ l.take 3 ≠ [46, 46, 47] ∧ l ≠ [46, 46] ∧ l.head? ≠ some 47
theorem last_plain : ∀ x ∈ lasts, Plain (L x) := by unfold Plain; decide +kernel
theorem name_plain : ∀ x ∈ names, ∀ r, Plain (L x ++ 47 :: r) := by
  intro x hx r
  have e : L x = [97] ∨ L x = [98] ∨ L x = [46, 46, 103] ∨ L x = [233] ∨ L x = [46, 104] ∨ L x = [101, 58, 102] ∨ L x = [46, 46, 46] ∨ L x = [98, 45] := by
    revert x
    decide +kernel
  rcases e with e | e | e | e | e | e | e | e <;> rw [e] <;> simp [Plain]
theorem path_plain {fs : List Str} {last : Str} (hf : ∀ x ∈ fs, x ∈ names) (hn : last ∈ lasts) : Plain (PLs fs ++ L last) := by
  cases fs with
  | nil => exact last_plain last hn
  | cons x r =>
    rw [PLs_cons, List.append_assoc]
    exact name_plain x (hf x (.head _)) _
theorem PLs_no {fs : List Str} (hf : ∀ x ∈ fs, x ∈ names) : 35 ∉ PLs fs := by
  induction fs with
  | nil => simp [PLs]
  | cons x r ih =>
    rw [PLs_cons]
    intro h
    rcases List.mem_append.mp h with h | h
    · exact (name_no x (hf x (.head _))).2 h
    · rcases List.mem_cons.mp h with h | h
      · cases h
      · exact ih (fun y hy => hf y (.tail _ hy)) h
/-! openings: the scheme, the colon, and the host with its slashes or nothing -/
def Opens (o : Str) (A B : List Nat) : Prop := L o = A ++ 58 :: B ∧ 58 ∉ A ∧ 47 ∉ A ∧ 35 ∉ L o ∧ ((B = [] ∧ o = S "s:") ∨ (∃ H, B = 47 :: 47 :: H ∧ 47 ∉ H ∧ o ≠ S "s:"))
theorem opens {o : Str} (h : o ∈ openings) : ∃ A B, Opens o A B := by
  simp only [openings, List.mem_cons, List.not_mem_nil, or_false] at h
  rcases h with rfl | rfl | rfl | rfl | rfl
  · exact ⟨[104, 116, 116, 112], [47, 47, 104], by decide +kernel, by decide, by decide, by decide +kernel, .inr ⟨_, rfl, by decide, by decide +kernel⟩⟩
  · exact ⟨[102, 105, 108, 101], [47, 47], by decide +kernel, by decide, by decide, by decide +kernel, .inr ⟨_, rfl, by decide, by decide +kernel⟩⟩
  · exact ⟨[115], [], by decide +kernel, by decide, by decide, by decide +kernel, .inl ⟨rfl, rfl⟩⟩
  · exact ⟨[104, 116, 116, 112], [47, 47, 117, 64, 104, 58, 56], by decide +kernel, by decide, by decide, by decide +kernel, .inr ⟨_, rfl, by decide, by decide +kernel⟩⟩
  · exact ⟨[97, 43, 98], [47, 47, 233], by decide +kernel, by decide, by decide, by decide +kernel, .inr ⟨_, rfl, by decide, by decide +kernel⟩⟩
/-! tags -/
theorem tag_cut : ∀ x ∈ tags, L x = [] ∨ ∃ r, L x = 35 :: r ∧ 35 ∉ r := by
  intro x hx
  simp only [tags, List.mem_cons, List.not_mem_nil, or_false] at hx
  rcases hx with rfl | rfl | rfl | rfl | rfl
  · exact .inl (by decide +kernel)
  · exact .inr ⟨[120], by decide +kernel, by decide⟩
  · exact .inr ⟨[], by decide +kernel, by decide⟩
  · exact .inr ⟨[120, 47, 121], by decide +kernel, by decide⟩
  · exact .inr ⟨[120, 63, 121], by decide +kernel, by decide⟩
theorem cut_way {way tag : Str} (hw : 35 ∉ L way) (ht : tag ∈ tags) : cut (way ++ tag) = (way, tag) := by
  unfold cut
  rcases tag_cut tag ht with e | ⟨r, e, hr⟩
  · have e2 : tag = S "" := L_inj (e.trans L_empty.symm)
    subst e2
    have e3 : way ++ S "" = way := L_inj (by rw [L_app, L_empty, List.append_nil])
    rw [e3, rfind_miss L_hash hw, if_neg (by decide)]
  · have h : Txt.rfind (way ++ tag) (S "#") = ((L way).length : Int) := rfind_hit L_hash (by rw [L_app, e]) hr
    rw [h, if_pos (by omega)]
    refine Prod.ext (L_inj ?_) (L_inj ?_)
    · show L (Txt.slice _ none _) = _
      rw [L_to, L_app]
      simp
    · show L (Txt.slice _ _ none) = _
      rw [L_from, L_app]
      simp
theorem good_tag {o here one : Str} {bs : List Str} (_g : Good o bs here) (h : one ∈ tags) : joinF here one = here ++ one := by
  have hw : whole one = false := by
    unfold whole
    rw [find_miss L_colon (tag_no one h)]
    rfl
  have hc : cut one = (S "", one) := by
    have := cut_way (way := S "") (by rw [L_empty]; simp) h
    rwa [show S "" ++ one = one from L_inj (by rw [L_app, L_empty, List.nil_append])] at this
  unfold joinF
  rw [hw, hc, if_neg (by decide), if_pos (by show ((S "").length == 0) = true; decide +kernel)]
end Mine
end
section
open PySem PyProof.Rows PySem.StrLaws
namespace Mine
open Builtin Builtin.Str
theorem L_two : L (S "//") = [47, 47] := by decide +kernel
structure Base (o here : Str) (bs : List Str) (A B : List Nat) (last : Str) : Prop where
  op : Opens o A B
  col : Txt.find here (S ":") = (A.length : Int)
  sl : (Txt.slice here (some (Txt.find here (S ":") + 1)) (some (Txt.find here (S ":") + 2)) == S "/") = true
  bp : bp here = ((L o).length : Int)
  root : L (rooted here) = L o ++ 47 :: (PLs bs ++ L last)
  no : 47 ∉ L last
theorem two_nat (n k : Nat) : ((n : Int) + (k : Int)) = ((n + k : Nat) : Int) := by omega
theorem mid_at {x : Str} {A R : List Nat} {i j : Nat} (h : L x = A ++ R) (hi : i ≤ j) : L (Txt.slice x (some (((A.length + i : Nat)) : Int)) (some ((A.length + j : Nat) : Int))) = (R.drop i).take (j - i) := by
  rw [L_mid x (by omega), h, List.drop_append, List.drop_eq_nil_of_le (by omega), List.nil_append]
  congr 1
  · omega
  · congr 1; omega
theorem base {o here : Str} {bs : List Str} (g : Good o bs here) : ∃ A B last, Base o here bs A B last := by
  obtain ⟨ho, hb, _, h⟩ := g
  obtain ⟨A, B, hop⟩ := opens ho
  have hop' := hop
  obtain ⟨e, h1, h2, h3, hB⟩ := hop
  rcases h with ⟨last, hl, rfl⟩ | ⟨rfl, rfl, hs⟩
  · have eh : L (o ++ S "/" ++ Txt.join (S "") (bs.map (· ++ S "/")) ++ last) = L o ++ 47 :: (PLs bs ++ L last) := by
      rw [L_app, L_app, L_app, L_slash, L_join]; simp
    generalize o ++ S "/" ++ Txt.join (S "") (bs.map (· ++ S "/")) ++ last = here at eh ⊢
    have pl := path_plain hb hl
    have eh2 : L here = A ++ 58 :: (B ++ 47 :: (PLs bs ++ L last)) := by rw [eh, e]; simp
    have hc : Txt.find here (S ":") = (A.length : Int) := find_hit L_colon eh2 h1
    have h0 : bp0 here = ((L o).length : Int) := by
      unfold bp0
      rcases hB with ⟨rfl, _⟩ | ⟨H, rfl, hH, _⟩
      · rw [hc, show ((A.length : Int) + 1) = ((A.length + 1 : Nat) : Int) by omega, show ((A.length : Int) + 3) = ((A.length + 3 : Nat) : Int) by omega, L_beq, mid_at eh2 (by omega), L_two, if_neg, e]
        · simp
        · have := pl.2.2.2.2
          generalize PLs bs ++ L last = z at *
          cases z with
          | nil => simp
          | cons c r => simp at this ⊢; exact fun h => this h
      · rw [hc, show ((A.length : Int) + 1) = ((A.length + 1 : Nat) : Int) by omega, show ((A.length : Int) + 3) = ((A.length + 3 : Nat) : Int) by omega, L_beq, mid_at eh2 (by omega), L_two, if_pos (by simp)]
        have h5 := find3_hit (p := A ++ [58, 47, 47]) (a := H) (b := PLs bs ++ L last) L_slash (x := here) (by rw [eh2]; simp) hH
        have hl : (A ++ [58, 47, 47]).length = A.length + 3 := by simp
        rw [hl] at h5
        rw [h5, e]
        simp
    refine ⟨A, B, last, hop', hc, ?_, ?_, ?_, (last_no last hl).1⟩
    · rw [hc, show ((A.length : Int) + 1) = ((A.length + 1 : Nat) : Int) by omega, show ((A.length : Int) + 2) = ((A.length + 2 : Nat) : Int) by omega, L_beq, mid_at eh2 (by omega), L_slash]
      rcases hB with ⟨rfl, _⟩ | ⟨H, rfl, _, _⟩ <;> simp
    · unfold bp
      rw [h0, if_neg (by omega)]
    · unfold rooted
      rw [h0, if_neg (by omega), eh]
  · rcases hB with ⟨rfl, hs2⟩ | ⟨H, rfl, hH, _⟩
    · rw [hs2] at hs
      simp at hs
    · have hc : Txt.find here (S ":") = (A.length : Int) := find_hit L_colon e h1
      have h0 : bp0 here = -1 := by
        unfold bp0
        rw [hc, show ((A.length : Int) + 1) = ((A.length + 1 : Nat) : Int) by omega, show ((A.length : Int) + 3) = ((A.length + 3 : Nat) : Int) by omega, L_beq, mid_at e (by omega), L_two, if_pos (by simp)]
        have h5 := find3_miss (p := A ++ [58, 47, 47]) (a := H) L_slash (x := here) (by rw [e]; simp) hH
        have hl : (A ++ [58, 47, 47]).length = A.length + 3 := by simp
        rw [hl] at h5
        exact h5
      refine ⟨A, 47 :: 47 :: H, S "", hop', hc, ?_, ?_, ?_, by rw [L_empty]; simp⟩
      · rw [hc, show ((A.length : Int) + 1) = ((A.length + 1 : Nat) : Int) by omega, show ((A.length : Int) + 2) = ((A.length + 2 : Nat) : Int) by omega, L_beq, mid_at e (by omega), L_slash]
        simp
      · unfold bp
        rw [h0, if_pos (by decide), L_len]
      · unfold rooted
        rw [h0, if_pos (by decide), L_app, L_slash, L_empty]
        simp [PLs]
theorem good_colon {o here : Str} {bs : List Str} (g : Good o bs here) : 0 ≤ Txt.find here (Str.ofString ":") := by
  obtain ⟨A, B, last, b⟩ := base g
  have h : Txt.find here (Str.ofString ":") = (A.length : Int) := b.col
  rw [h]
  exact Int.natCast_nonneg _
theorem good_slash {o here : Str} {bs : List Str} (g : Good o bs here) : (Txt.slice here (some (Txt.find here (Str.ofString ":") + 1)) (some (Txt.find here (Str.ofString ":") + 2)) == Str.ofString "/") = true := by
  obtain ⟨A, B, last, b⟩ := base g
  exact b.sl
/-! the ways up -/
def Stand (o : Str) (bs : List Str) (h : Str) (r : Int) (j : Nat) : Prop := ∃ junk, L h = L o ++ 47 :: PLs (bs.take j) ++ junk ∧ r = (((L o).length + (PLs (bs.take j)).length : Nat) : Int)
def Lands (o : Str) (bs : List Str) (pl : List Nat) (j : Nat) (d : List Nat) (j' : Nat) : Prop :=
  ∀ (p : Str) (n : Nat) (h : Str) (r : Int), L p = pl → p.length < n → Stand o bs h r j → ∃ q h' r', L q = d ∧ Stand o bs h' r' j' ∧ climb n p h r ((L o).length : Int) = (q, h', r')
section
variable {o : Str} {bs : List Str} {pl d : List Nat} {j j' : Nat}
theorem L_sdot : L (S "./") = [46, 47] := by decide +kernel
theorem L_dot : L (S ".") = [46] := by decide +kernel
theorem L_up : L (S "../") = [46, 46, 47] := by decide +kernel
theorem L_dd : L (S "..") = [46, 46] := by decide +kernel
theorem L_undot (p : Str) : L (undot p) = if (L p).take 2 = [46, 47] then (L p).drop 2 else L p := by
  unfold undot
  rw [L_beq, show Txt.slice p none (some 2) = Txt.slice p none (some ((2 : Nat) : Int)) from rfl, L_to, L_sdot]
  by_cases h : (L p).take 2 = [46, 47]
  · rw [if_pos h, if_pos (by simp [h])]
    exact L_from p 2
  · rw [if_neg h, if_neg (by simp [h])]
theorem lands_end (h : Plain pl) : Lands o bs pl j pl j := by
  intro p n hh r e hl st
  refine ⟨p, hh, r, e, st, ?_⟩
  have hu : undot p = p := L_inj (by rw [L_undot, e, if_neg h.1])
  exact climb_end hu (by rw [L_beq, e, L_dot]; simpa using h.2.1) (by rw [L_beq, show Txt.slice p none (some 3) = Txt.slice p none (some ((3 : Nat) : Int)) from rfl, L_to, e, L_up]; simpa using h.2.2.1) (by rw [L_beq, e, L_dd]; simpa using h.2.2.2.1) hl
theorem lands_sdot (h : Plain pl) : Lands o bs (46 :: 47 :: pl) j pl j := by
  intro p n hh r e hl st
  refine ⟨undot p, hh, r, ?_, st, ?_⟩
  · rw [L_undot, e]; simp
  · have eu : L (undot p) = pl := by rw [L_undot, e]; simp
    exact climb_end rfl (by rw [L_beq, eu, L_dot]; simpa using h.2.1) (by rw [L_beq, show Txt.slice (undot p) none (some 3) = Txt.slice (undot p) none (some ((3 : Nat) : Int)) from rfl, L_to, eu, L_up]; simpa using h.2.2.1) (by rw [L_beq, eu, L_dd]; simpa using h.2.2.2.1) hl
theorem plain_nil : Plain [] := by simp [Plain]
theorem lands_dot : Lands o bs [46] j [] j := by
  intro p n hh r e hl st
  have hu : undot p = S "." := L_inj (by rw [L_undot, e, L_dot]; simp)
  obtain ⟨hl2, e5⟩ := climb_dot hu (by simp) hl (rfl : climb n p hh r ((L o).length : Int) = _)
  obtain ⟨q, h', r', e1, e2, e3⟩ := lands_end (o := o) (bs := bs) (j := j) plain_nil (S "") (n - 1) hh r L_empty hl2 st
  exact ⟨q, h', r', e1, e2, e5 ▸ e3⟩
theorem snoc_slash (fs : List Str) : ∃ a, 47 :: PLs fs = a ++ [47] ∧ a.length = (PLs fs).length := by
  induction fs with
  | nil => exact ⟨[], rfl, rfl⟩
  | cons x r ih =>
    obtain ⟨a, h1, h2⟩ := ih
    refine ⟨47 :: (L x ++ a), ?_, ?_⟩
    · rw [PLs_cons, h1]; simp
    · rw [PLs_cons]; simp; omega
theorem lands_step (hb : ∀ x ∈ bs, 47 ∉ L x) (hj : j ≤ bs.length) (H : Lands o bs pl (j - 1) d j') {p : Str} {n : Nat} {h : Str} {r : Int} (eq : L (Txt.slice (undot p) (some 3) none) = pl) (hq : (undot p == S ".") = false)
    (hd : (Txt.slice (undot p) none (some 3) == S "../") = true ∨ (undot p == S "..") = true) (hl : p.length < n) (st : Stand o bs h r j) : ∃ q h' r', L q = d ∧ Stand o bs h' r' j' ∧ climb n p h r ((L o).length : Int) = (q, h', r') := by
  obtain ⟨junk, e1, e2⟩ := st
  cases j with
  | zero =>
    have e3 : rfind4 h (S "/") ((L o).length : Int) r = -1 := rfind4_miss (p := L o) (m := []) (q := 47 :: junk) L_slash (by rw [e1]; simp [PLs]) (by simp) (by rw [e2]; simp [PLs])
    obtain ⟨hl2, e5⟩ := climb_miss rfl hq hd (by rw [e3]; decide) hl (rfl : climb n p h r ((L o).length : Int) = _)
    rw [← e5]
    exact H _ _ _ _ eq hl2 ⟨junk, e1, e2⟩
  | succ k =>
    have hk : k < bs.length := hj
    obtain ⟨a, a1, a2⟩ := snoc_slash (bs.take k)
    obtain ⟨x, hx, et⟩ : ∃ x, x ∈ bs ∧ bs.take (k + 1) = bs.take k ++ [x] := ⟨bs[k], List.getElem_mem hk, by rw [List.take_add_one, List.getElem?_eq_getElem hk]; rfl⟩
    have ep : PLs (bs.take (k + 1)) = PLs (bs.take k) ++ (L x ++ [47]) := by rw [et, PLs_append]; simp [PLs]
    have e6 : L h = L o ++ (a ++ 47 :: L x) ++ (47 :: junk) := by
      rw [e1, ep, show L o ++ 47 :: (PLs (bs.take k) ++ (L x ++ [47])) ++ junk = L o ++ (47 :: PLs (bs.take k)) ++ (L x ++ [47]) ++ junk by simp, a1]
      simp
    have e3 : rfind4 h (S "/") ((L o).length : Int) r = ((L o ++ a).length : Int) := rfind4_hit (q := 47 :: junk) L_slash e6 (hb _ hx) (by rw [e2, ep]; simp; omega)
    obtain ⟨hl2, e5⟩ := climb_hit rfl hq hd (by rw [e3]; omega) hl (rfl : climb n p h r ((L o).length : Int) = _)
    rw [e3] at e5
    rw [← e5]
    have e7 : L (Txt.slice h none (some (((L o ++ a).length : Int) + 1))) = L o ++ 47 :: PLs (bs.take k) ++ [] := by
      have e8 : (((L o ++ a).length : Int) + 1) = (((L o ++ (a ++ [47])).length : Nat) : Int) := by simp; omega
      have e9 : L h = (L o ++ (a ++ [47])) ++ (L x ++ 47 :: junk) := by rw [e6]; simp
      rw [e8, L_to, e9, List.take_left, List.append_nil, a1]
    have e10 : ((L o ++ a).length : Int) = (((L o).length + (PLs (bs.take k)).length : Nat) : Int) := by rw [List.length_append, a2]
    have st2 : Stand o bs (Txt.slice h none (some (((L o ++ a).length : Int) + 1))) ((L o ++ a).length : Int) k := ⟨[], e7, e10⟩
    exact H _ _ _ _ eq hl2 st2
theorem L_three (p : Str) : L (Txt.slice p none (some 3)) = (L p).take 3 := L_to p 3
theorem L_off (p : Str) : L (Txt.slice p (some 3) none) = (L p).drop 3 := L_from p 3
theorem lands_up (hb : ∀ x ∈ bs, 47 ∉ L x) (hj : j ≤ bs.length) (H : Lands o bs pl (j - 1) d j') : Lands o bs (46 :: 46 :: 47 :: pl) j d j' := by
  intro p n h r e hl st
  have eu : L (undot p) = 46 :: 46 :: 47 :: pl := by rw [L_undot, e]; simp
  exact lands_step hb hj H (by rw [L_off, eu]; rfl) (by rw [L_beq, eu, L_dot]; simp) (.inl (by rw [L_beq, L_three, eu, L_up]; simp)) hl st
theorem lands_dotup (hb : ∀ x ∈ bs, 47 ∉ L x) (hj : j ≤ bs.length) (H : Lands o bs pl (j - 1) d j') : Lands o bs (46 :: 47 :: 46 :: 46 :: 47 :: pl) j d j' := by
  intro p n h r e hl st
  have eu : L (undot p) = 46 :: 46 :: 47 :: pl := by rw [L_undot, e]; simp
  exact lands_step hb hj H (by rw [L_off, eu]; rfl) (by rw [L_beq, eu, L_dot]; simp) (.inl (by rw [L_beq, L_three, eu, L_up]; simp)) hl st
theorem lands_dd (hb : ∀ x ∈ bs, 47 ∉ L x) (hj : j ≤ bs.length) : Lands o bs [46, 46] j [] (j - 1) := by
  intro p n h r e hl st
  have eu : L (undot p) = [46, 46] := by rw [L_undot, e]; simp
  exact lands_step hb hj (lands_end plain_nil) (by rw [L_off, eu]; rfl) (by rw [L_beq, eu, L_dot]; simp) (.inr (by rw [L_beq, eu, L_dd]; simp)) hl st
theorem lands_ups (hb : ∀ x ∈ bs, 47 ∉ L x) : ∀ (n j : Nat), j ≤ bs.length → Lands o bs pl (j - n) d j' → Lands o bs ((List.replicate n [46, 46, 47]).flatten ++ pl) j d j'
  | 0, j, _, H => by simpa using H
  | n + 1, j, hj, H => by
    rw [List.replicate_succ, List.flatten_cons]
    show Lands o bs (46 :: 46 :: 47 :: ((List.replicate n [46, 46, 47]).flatten ++ pl)) j d j'
    exact lands_up hb hj (lands_ups hb n (j - 1) (by omega) (by rwa [show j - 1 - n = j - (n + 1) by omega]))
theorem lands_dups (hb : ∀ x ∈ bs, 47 ∉ L x) : ∀ (n j : Nat), j ≤ bs.length → Lands o bs pl (j - n) d j' → Lands o bs ((List.replicate n [46, 47, 46, 46, 47]).flatten ++ pl) j d j'
  | 0, j, _, H => by simpa using H
  | n + 1, j, hj, H => by
    rw [List.replicate_succ, List.flatten_cons]
    show Lands o bs (46 :: 47 :: 46 :: 46 :: 47 :: ((List.replicate n [46, 47, 46, 46, 47]).flatten ++ pl)) j d j'
    exact lands_dotup hb hj (lands_dups hb n (j - 1) (by omega) (by rwa [show j - 1 - n = j - (n + 1) by omega]))
end
end Mine
end
section
open PySem PyProof.Rows PySem.StrLaws
namespace Mine
open Builtin Builtin.Str
section
variable {o here way name tag : Str} {bs fs : List Str}
theorem L_mul (x : Str) (n : Int) : L (Txt.mul x n) = (List.replicate n.toNat (L x)).flatten := mul_toList x n
theorem whole_slash {t : Str} {a b : List Nat} (h : L t = a ++ 47 :: b) (ha : 58 ∉ a) (hb : 47 ∉ a) : whole t = false := by
  have h2 : Txt.find t (S "/") = (a.length : Int) := find_hit L_slash h hb
  unfold whole
  rw [h2]
  by_cases hc : 58 ∈ L t
  · obtain ⟨c, e, h3, h4, h5⟩ := find_at L_colon hc
    have h6 : ¬ c.length < a.length := fun hl => by
      have h7 : (L t)[c.length]? = some 58 := by rw [h3]; exact get_at
      rw [h] at h7
      exact get_lt hl ha h7
    rw [h5]
    simp
    omega
  · rw [find_miss L_colon hc]
    rfl
theorem whole_none {t : Str} (h : 58 ∉ L t) : whole t = false := by
  unfold whole
  rw [find_miss L_colon h]
  rfl
theorem names_no {bs : List Str} (h : ∀ x ∈ bs, x ∈ names) : ∀ x ∈ bs, 47 ∉ L x := fun x hx => (name_no x (h x hx)).1
/-- a way told by steps -/
theorem by_steps (g : Good o bs here) (ht : tag ∈ tags) {k : Nat} {d : List Nat} (h35 : 35 ∉ L way) (hn : L way ≠ []) (hh : (L way).head? ≠ some 47) (hw : whole (way ++ tag) = false)
    (H : Lands o bs (L way) bs.length d k) : L (joinF here (way ++ tag)) = L o ++ 47 :: PLs (bs.take k) ++ d ++ L tag := by
  obtain ⟨A, B, last, b⟩ := base g
  have hc := cut_way h35 ht
  have hne : ∃ c r, L way = c :: r ∧ c ≠ 47 := by
    cases e : L way with
    | nil => exact absurd e hn
    | cons c r => exact ⟨c, r, rfl, fun h => hh (by rw [e, h]; rfl)⟩
  obtain ⟨c, r, ec, hc47⟩ := hne
  have h2 : (Txt.slice (way ++ tag) none (some 2) == S "//") = false := by
    rw [L_beq, show Txt.slice (way ++ tag) none (some 2) = Txt.slice (way ++ tag) none (some ((2 : Nat) : Int)) from rfl, L_to, L_two, L_app, ec]
    simp [hc47]
  have h1 : (Txt.slice (way ++ tag) none (some 1) == S "/") = false := by
    rw [L_beq, show Txt.slice (way ++ tag) none (some 1) = Txt.slice (way ++ tag) none (some ((1 : Nat) : Int)) from rfl, L_to, L_slash, L_app, ec]
    simp [hc47]
  have hl : (((cut (way ++ tag)).1.length : Nat) : Int) ≠ 0 := by
    rw [hc]
    show ((way.length : Nat) : Int) ≠ 0
    rw [← L_len, ec]
    simp
    omega
  obtain ⟨a, a1, a2⟩ := snoc_slash bs
  have hr : Txt.rfind (rooted here) (S "/") = (((L o).length + (PLs bs).length : Nat) : Int) := by
    have := rfind_hit (x := rooted here) (a := L o ++ a) (b := L last) L_slash (by rw [b.root, show L o ++ 47 :: (PLs bs ++ L last) = L o ++ (47 :: PLs bs) ++ L last by simp, a1]; simp) b.no
    rw [this, List.length_append, a2]
  have B1 : BP here ((L o).length : Int) (rooted here) := ⟨b.bp, rfl⟩
  rw [j_rel hw hl B1 h2 h1, hc, hr]
  obtain ⟨q, h', r', e1, ⟨junk, s1, s2⟩, e3⟩ := H way ((way ++ tag).length + 3) (rooted here) _ rfl (by rw [Str.length_append]; omega) ⟨L last, by rw [b.root, List.take_length]; simp, by rw [List.take_length]⟩
  show L (told tag (climb _ way _ _ _)) = _
  rw [e3]
  unfold told
  rw [L_app, L_app]
  show L (Txt.slice h' none (some (r' + 1))) ++ L q ++ L tag = _
  rw [s2, show ((((L o).length + (PLs (bs.take k)).length : Nat)) : Int) + 1 = (((L o).length + (PLs (bs.take k)).length + 1 : Nat) : Int) by omega, L_to, s1, List.take_left' (by simp; omega), e1]
theorem L_there : L (o ++ S "/" ++ Txt.join (S "") (fs.map (· ++ S "/")) ++ name ++ tag) = L o ++ 47 :: PLs fs ++ L name ++ L tag := by
  rw [L_app, L_app, L_app, L_app, L_slash, L_join]; simp
theorem meets {k : Nat} (h : Meet bs fs k) : PLs (bs.take k) ++ (PLs (fs.drop k) ++ L name) = PLs fs ++ L name := by
  rw [h.2.2, ← List.append_assoc, ← PLs_append, List.take_append_drop]
theorem told_way (g : Good o bs here) (ht : tag ∈ tags) {k : Nat} (hm : Meet bs fs k) (h35 : 35 ∉ L way) (hn : L way ≠ []) (hh : (L way).head? ≠ some 47) (hw : whole (way ++ tag) = false)
    (H : Lands o bs (L way) bs.length (PLs (fs.drop k) ++ L name) k) : joinF here (way ++ tag) = o ++ S "/" ++ Txt.join (S "") (fs.map (· ++ S "/")) ++ name ++ tag := by
  apply L_inj
  have e := meets (name := name) hm
  rw [by_steps g ht h35 hn hh hw H, L_there, show L o ++ 47 :: PLs (bs.take k) ++ (PLs (fs.drop k) ++ L name) ++ L tag = L o ++ 47 :: (PLs (bs.take k) ++ (PLs (fs.drop k) ++ L name)) ++ L tag by simp, e]
  simp
/-! steps -/
def U (n : Nat) : List Nat := (List.replicate n [46, 46, 47]).flatten
def DU (n : Nat) : List Nat := (List.replicate n [46, 47, 46, 46, 47]).flatten
theorem U_zero : U 0 = [] := rfl
theorem U_succ (n : Nat) : U (n + 1) = 46 :: 46 :: 47 :: U n := by simp [U, List.replicate_succ]
theorem DU_succ (n : Nat) : DU (n + 1) = 46 :: 47 :: 46 :: 46 :: 47 :: DU n := by simp [DU, List.replicate_succ]
theorem U_mem {c n : Nat} (h : c ∈ U n) : c = 46 ∨ c = 47 := by
  induction n with
  | zero => simp [U] at h
  | succ n ih =>
    rw [U_succ] at h
    simp only [List.mem_cons] at h
    rcases h with h | h | h | h
    all_goals first | exact ih h | exact .inl h | exact .inr h
theorem DU_mem {c n : Nat} (h : c ∈ DU n) : c = 46 ∨ c = 47 := by
  induction n with
  | zero => simp [DU] at h
  | succ n ih =>
    rw [DU_succ] at h
    simp only [List.mem_cons] at h
    rcases h with h | h | h | h | h | h
    all_goals first | exact ih h | exact .inl h | exact .inr h
theorem U_snoc (n : Nat) : U (n + 1) = U n ++ [46, 46, 47] := by simp [U, List.replicate_succ']
theorem L_ups (k : Nat) : L (ups bs k) = U (bs.length - k) := by
  rw [L_mul, L_up, show ((bs.length : Int) - (0 + (k : Int))).toNat = bs.length - k by omega]; rfl
theorem L_dots : L (S "./../") = [46, 47, 46, 46, 47] := by decide +kernel
theorem L_dus (k : Nat) : L (dus bs k) = DU (bs.length - k) := by
  rw [L_mul, L_dots, show ((bs.length : Int) - (0 + (k : Int))).toNat = bs.length - k by omega]; rfl
theorem path_no {k : Nat} (hf : ∀ x ∈ fs, x ∈ names) (hn : name ∈ lasts) : 35 ∉ PLs (fs.drop k) ++ L name := by
  intro h
  rcases List.mem_append.mp h with h | h
  · exact PLs_no (fun x hx => hf x (List.mem_of_mem_drop hx)) h
  · exact (last_no name hn).2 h
theorem no35U {n : Nat} : 35 ∉ U n := fun h => by have := U_mem h; omega
theorem no35D {n : Nat} : 35 ∉ DU n := fun h => by have := DU_mem h; omega
theorem path_drop {k : Nat} (hf : ∀ x ∈ fs, x ∈ names) (hn : name ∈ lasts) : Plain (PLs (fs.drop k) ++ L name) := path_plain (fun x hx => hf x (List.mem_of_mem_drop hx)) hn
theorem is_nil {k : Nat} (d : (pathOf (fs.drop k) name == S "") = true) : PLs (fs.drop k) ++ L name = [] := by
  rw [← L_path, eq_of_beq d, L_empty]
theorem L_updown : L (S "../../") = [46, 46, 47, 46, 46, 47] := by decide +kernel
theorem nmem {c : Nat} {a b : List Nat} (h1 : c ∉ a) (h2 : c ∉ b) : c ∉ a ++ b := fun h => (List.mem_append.mp h).elim h1 h2
theorem occ_none {x y : Str} {c : Nat} (hy : L y = [c]) (h : (Builtin.Str.occurrences x y 0 x.length 1).isEmpty = true) : c ∉ L x := by
  intro hc
  obtain ⟨a, b, h1, _, h3⟩ := find_at hy hc
  have h4 : Txt.find x y = -1 := by
    unfold Txt.find
    rw [List.isEmpty_iff.mp h]
  omega
theorem good_all (g : Good o bs here) (ht : tag ∈ tags) : joinF here (o ++ S "/" ++ pathOf fs name ++ tag) = o ++ S "/" ++ Txt.join (S "") (fs.map (· ++ S "/")) ++ name ++ tag := by
  obtain ⟨A, B, e, h1, h2, h3, hB⟩ := opens g.1
  have el : L (o ++ S "/" ++ pathOf fs name ++ tag) = A ++ 58 :: (B ++ 47 :: (PLs fs ++ L name) ++ L tag) := by rw [L_app, L_app, L_app, L_path, L_slash, e]; simp
  have hc : Txt.find (o ++ S "/" ++ pathOf fs name ++ tag) (S ":") = (A.length : Int) := find_hit L_colon el h1
  have hs : Txt.find (o ++ S "/" ++ pathOf fs name ++ tag) (S "/") = ((A ++ [58]).length : Int) := by
    rcases hB with ⟨rfl, _⟩ | ⟨H, rfl, _, _⟩
    · exact find_hit (b := PLs fs ++ L name ++ L tag) L_slash (by rw [el]; simp) (nmem h2 (by decide))
    · exact find_hit (b := 47 :: H ++ 47 :: (PLs fs ++ L name) ++ L tag) L_slash (by rw [el]; simp) (nmem h2 (by decide))
  rw [whole2 (by rw [hc]; omega) (by rw [hc, hs, List.length_append]; simp; omega)]
  apply L_inj
  rw [L_app, L_app, L_app, L_path, L_slash, L_there]
  simp
theorem good_root (g : Good o bs here) (hf : ∀ x ∈ fs, x ∈ names) (hn : name ∈ lasts) (ht : tag ∈ tags) : joinF here (S "/" ++ pathOf fs name ++ tag) = o ++ S "/" ++ Txt.join (S "") (fs.map (· ++ S "/")) ++ name ++ tag := by
  obtain ⟨A, B, last, b⟩ := base g
  have ew : L (S "/" ++ pathOf fs name) = 47 :: (PLs fs ++ L name) := by rw [L_app, L_path, L_slash]; rfl
  have el : L (S "/" ++ pathOf fs name ++ tag) = 47 :: (PLs fs ++ L name ++ L tag) := by rw [L_app, ew]; rfl
  have h35 : 35 ∉ L (S "/" ++ pathOf fs name) := by rw [ew]; exact nmem (a := [47]) (by decide) (path_no (k := 0) hf hn)
  have hw : whole (S "/" ++ pathOf fs name ++ tag) = false := whole_slash (a := []) el (by simp) (by simp)
  have hl : (((cut (S "/" ++ pathOf fs name ++ tag)).1.length : Nat) : Int) ≠ 0 := by
    rw [cut_way h35 ht, ← L_len, ew]
    simp
    omega
  have hp := (path_drop (k := 0) hf hn).2.2.2.2
  have h2 : (Txt.slice (S "/" ++ pathOf fs name ++ tag) none (some 2) == S "//") = false := by
    rw [L_beq, show Txt.slice (S "/" ++ pathOf fs name ++ tag) none (some 2) = Txt.slice (S "/" ++ pathOf fs name ++ tag) none (some ((2 : Nat) : Int)) from rfl, L_to, L_two, el]
    rw [List.drop_zero] at hp
    have hq : (PLs fs ++ L name ++ L tag).head? ≠ some 47 := by
      generalize PLs fs ++ L name = z at hp ⊢
      cases z with
      | cons c r => exact hp
      | nil =>
        rcases tag_cut tag ht with e | ⟨r, e, _⟩ <;> rw [e] <;> simp
    generalize PLs fs ++ L name ++ L tag = z at hq ⊢
    cases z with
    | nil => simp
    | cons c r => simpa using hq
  have h1 : (Txt.slice (S "/" ++ pathOf fs name ++ tag) none (some 1) == S "/") = true := by
    rw [L_beq, show Txt.slice (S "/" ++ pathOf fs name ++ tag) none (some 1) = Txt.slice (S "/" ++ pathOf fs name ++ tag) none (some ((1 : Nat) : Int)) from rfl, L_to, L_slash, el]
    simp
  rw [j_root hw hl ⟨b.bp, rfl⟩ h2 h1]
  apply L_inj
  rw [L_app, L_to, b.root, List.take_left' rfl, el, L_there]
  simp
theorem good_host (g : Good o bs here) (hf : ∀ x ∈ fs, x ∈ names) (hn : name ∈ lasts) (ht : tag ∈ tags) (h : (Txt.item o (-1) != S ":") = true) :
    joinF here (Txt.slice o (some (Txt.find o (S ":") + 1)) none ++ S "/" ++ pathOf fs name ++ tag) = o ++ S "/" ++ Txt.join (S "") (fs.map (· ++ S "/")) ++ name ++ tag := by
  obtain ⟨A, B, last, b⟩ := base g
  obtain ⟨e, a1, a2, a3, hB⟩ := b.op
  have hfo : Txt.find o (S ":") = (A.length : Int) := find_hit L_colon e a1
  have es : L (Txt.slice o (some (Txt.find o (S ":") + 1)) none) = B := by
    rw [hfo, show ((A.length : Int) + 1) = ((A.length + 1 : Nat) : Int) by omega, L_from, e, show A ++ 58 :: B = (A ++ [58]) ++ B by simp, List.drop_left' (by simp)]
  generalize Txt.slice o (some (Txt.find o (S ":") + 1)) none = so at es ⊢
  rcases hB with ⟨_, rfl⟩ | ⟨H, rfl, hH, _⟩
  · exact absurd h (by decide +kernel)
  have ew : L (so ++ S "/" ++ pathOf fs name) = 47 :: 47 :: (H ++ 47 :: (PLs fs ++ L name)) := by rw [L_app, L_app, L_path, L_slash, es]; simp
  have el : L (so ++ S "/" ++ pathOf fs name ++ tag) = 47 :: 47 :: (H ++ 47 :: (PLs fs ++ L name) ++ L tag) := by rw [L_app, ew]; rfl
  have h35 : 35 ∉ L (so ++ S "/" ++ pathOf fs name) := by
    rw [ew]
    refine nmem (a := [47, 47]) (by decide) (nmem (fun hh => a3 ?_) (nmem (a := [47]) (by decide) (path_no (k := 0) hf hn)))
    rw [e]
    simp [hh]
  have hw : whole (so ++ S "/" ++ pathOf fs name ++ tag) = false := whole_slash (a := []) el (by simp) (by simp)
  have hl : (((cut (so ++ S "/" ++ pathOf fs name ++ tag)).1.length : Nat) : Int) ≠ 0 := by
    rw [cut_way h35 ht, ← L_len, ew]
    simp
    omega
  have h2 : (Txt.slice (so ++ S "/" ++ pathOf fs name ++ tag) none (some 2) == S "//") = true := by
    rw [L_beq, show Txt.slice (so ++ S "/" ++ pathOf fs name ++ tag) none (some 2) = Txt.slice (so ++ S "/" ++ pathOf fs name ++ tag) none (some ((2 : Nat) : Int)) from rfl, L_to, L_two, el]
    simp
  rw [j_host hw hl ⟨b.bp, rfl⟩ h2]
  apply L_inj
  rw [L_app, b.col, show ((A.length : Int) + 1) = ((A.length + 1 : Nat) : Int) by omega, L_to, b.root, e, show A ++ 58 :: 47 :: 47 :: H ++ 47 :: (PLs bs ++ L last) = (A ++ [58]) ++ (47 :: 47 :: H ++ 47 :: (PLs bs ++ L last)) by simp, List.take_left' (by simp), el, L_there, e]
  simp
theorem good_way (g : Good o bs here) (hf : ∀ x ∈ fs, x ∈ names) (_hl : fs.length ≤ 4) (hn : name ∈ lasts) (ht : tag ∈ tags) (h : Way o bs fs name way) :
    joinF here (way ++ tag) = o ++ S "/" ++ Txt.join (S "") (fs.map (· ++ S "/")) ++ name ++ tag := by
  have hb := names_no g.2.1
  have htag := tag_no tag ht
  cases h with
  | all => exact good_all g ht
  | root => exact good_root g hf hn ht
  | host h => exact good_host g hf hn ht h
  | @ahead k hm =>
    have ew : L (S "./" ++ ups bs k ++ pathOf (fs.drop k) name) = 46 :: 47 :: (U (bs.length - k) ++ (PLs (fs.drop k) ++ L name)) := by rw [L_app, L_app, L_sdot, L_ups, L_path]; simp
    refine told_way g ht hm ?_ ?_ ?_ (whole_slash (a := [46]) (b := U (bs.length - k) ++ (PLs (fs.drop k) ++ L name) ++ L tag) (by rw [L_app, ew]; simp) (by decide) (by decide)) ?_
    · rw [ew]; exact nmem (a := [46, 47]) (by decide) (nmem no35U (path_no hf hn))
    · rw [ew]; simp
    · rw [ew]; simp
    · rw [ew]
      have h1 := hm.1
      generalize en : bs.length - k = n
      cases n with
      | zero =>
        rw [U_zero, List.nil_append, show bs.length = k by omega]
        exact lands_sdot (path_drop hf hn)
      | succ n =>
        rw [U_succ]
        exact lands_dotup hb (Nat.le_refl _) (lands_ups hb n _ (by omega) (by rw [show bs.length - 1 - n = k by omega]; exact lands_end (path_drop hf hn)))
  | @behind k hm =>
    have ew : L (ups bs k ++ S "./" ++ pathOf (fs.drop k) name) = U (bs.length - k) ++ 46 :: 47 :: (PLs (fs.drop k) ++ L name) := by rw [L_app, L_app, L_sdot, L_ups, L_path]; simp
    refine told_way g ht hm ?_ ?_ ?_ ?_ ?_
    · rw [ew]; exact nmem no35U (nmem (a := [46, 47]) (by decide) (path_no hf hn))
    · rw [ew]; simp
    · rw [ew]
      cases bs.length - k with
      | zero => simp [U]
      | succ n => rw [U_succ]; simp
    · cases en : bs.length - k with
      | zero => exact whole_slash (a := [46]) (by rw [L_app, ew, en, U_zero]; rfl) (by decide) (by decide)
      | succ n => exact whole_slash (a := [46, 46]) (by rw [L_app, ew, en, U_succ]; rfl) (by decide) (by decide)
    · rw [ew]
      exact lands_ups hb _ _ (Nat.le_refl _) (by rw [show bs.length - (bs.length - k) = k by have := hm.1; omega]; exact lands_sdot (path_drop hf hn))
  | @each k hm c =>
    have ew : L (dus bs k ++ S "" ++ pathOf (fs.drop k) name) = DU (bs.length - k) ++ (PLs (fs.drop k) ++ L name) := by rw [L_app, L_app, L_empty, L_dus, L_path]; simp
    obtain ⟨n, en⟩ : ∃ n, bs.length - k = n + 1 := ⟨bs.length - k - 1, by omega⟩
    refine told_way g ht hm ?_ ?_ ?_ (whole_slash (a := [46]) (by rw [L_app, ew, en, DU_succ]; rfl) (by decide) (by decide)) ?_
    · rw [ew]; exact nmem no35D (path_no hf hn)
    · rw [ew, en, DU_succ]; simp
    · rw [ew, en, DU_succ]; simp
    · rw [ew]
      exact lands_dups hb _ _ (Nat.le_refl _) (by rw [show bs.length - (bs.length - k) = k by have := hm.1; omega]; exact lands_end (path_drop hf hn))
  | @each0 k hm c =>
    have en : bs.length - k = 0 := by omega
    have ew : L (dus bs k ++ S "./" ++ pathOf (fs.drop k) name) = 46 :: 47 :: (PLs (fs.drop k) ++ L name) := by rw [L_app, L_app, L_sdot, L_dus, L_path, en]; rfl
    refine told_way g ht hm ?_ ?_ ?_ (whole_slash (a := [46]) (by rw [L_app, ew]; rfl) (by decide) (by decide)) ?_
    · rw [ew]; exact nmem (a := [46, 47]) (by decide) (path_no hf hn)
    · rw [ew]; simp
    · rw [ew]; simp
    · rw [ew, show bs.length = k by have := hm.1; omega]
      exact lands_sdot (path_drop hf hn)
  | @steps k hm c =>
    have ew : L (ups bs k ++ pathOf (fs.drop k) name) = U (bs.length - k) ++ (PLs (fs.drop k) ++ L name) := by rw [L_app, L_ups, L_path]
    obtain ⟨n, en⟩ : ∃ n, bs.length - k = n + 1 := ⟨bs.length - k - 1, by omega⟩
    refine told_way g ht hm ?_ ?_ ?_ (whole_slash (a := [46, 46]) (by rw [L_app, ew, en, U_succ]; rfl) (by decide) (by decide)) ?_
    · rw [ew]; exact nmem no35U (path_no hf hn)
    · rw [ew, en, U_succ]; simp
    · rw [ew, en, U_succ]; simp
    · rw [ew]
      exact lands_ups hb _ _ (Nat.le_refl _) (by rw [show bs.length - (bs.length - k) = k by have := hm.1; omega]; exact lands_end (path_drop hf hn))
  | @down k hm c d n =>
    have ew : L (pathOf (fs.drop k) name) = PLs (fs.drop k) ++ L name := L_path _ _
    refine told_way g ht hm ?_ ?_ ?_ ?_ ?_
    · rw [ew]; exact path_no hf hn
    · intro e0
      have e1 : pathOf (fs.drop k) name = S "" := L_inj (e0.trans L_empty.symm)
      rw [e1] at d
      exact absurd d (by simp)
    · rw [ew]; exact (path_drop hf hn).2.2.2.2
    · have hmem : ∀ x ∈ fs.drop k, x ∈ names := fun x hx => hf x (List.mem_of_mem_drop hx)
      generalize fs.drop k = r at ew n hmem
      cases r with
      | nil =>
        refine whole_none ?_
        rw [L_app, ew]
        exact nmem (nmem (by simp [PLs]) (occ_none L_colon n)) htag
      | cons x r =>
        rw [PLs_cons] at ew
        have hx : x ∈ names := hmem x (.head _)
        exact whole_slash (a := L x) (by rw [L_app, ew]; simp; rfl) (occ_none L_colon n) (name_no x hx).1
    · rw [ew, show bs.length = k by have := hm.1; omega]
      exact lands_end (path_drop hf hn)
  | @bare k hm c d =>
    obtain ⟨n, en⟩ : ∃ n, bs.length - k = n + 1 := ⟨bs.length - k - 1, by omega⟩
    have eu : L (ups bs k) = U n ++ [46, 46] ++ [47] := by rw [L_ups, en, U_snoc]; simp
    have eu2 : (ups bs k).length = (U n ++ [46, 46]).length + 1 := by rw [← L_len, eu]; simp
    have ew : L (Txt.slice (ups bs k) none (some (-1))) = U n ++ [46, 46] := by
      rw [L_butlast _ (by omega), eu, eu2, Nat.add_sub_cancel, List.take_left]
    have ed := is_nil d
    refine told_way g ht hm ?_ ?_ ?_ (whole_none ?_) ?_
    · rw [ew]; exact nmem no35U (by decide)
    · rw [ew]; simp
    · rw [ew]
      cases n with
      | zero => simp [U]
      | succ n => rw [U_succ]; simp
    · rw [L_app, ew]
      exact nmem (nmem (fun h => by have := U_mem h; omega) (by decide)) htag
    · rw [ew, ed, show k = bs.length - n - 1 by have := hm.1; omega]
      exact lands_ups hb _ _ (Nat.le_refl _) (lands_dd hb (by omega))
  | @point k hm c d =>
    have ed := is_nil d
    refine told_way g ht hm ?_ ?_ ?_ (whole_none ?_) ?_
    · rw [L_dot]; decide
    · rw [L_dot]; simp
    · rw [L_dot]; simp
    · rw [L_app, L_dot]
      exact nmem (by decide) htag
    · rw [L_dot, ed, show bs.length = k by have := hm.1; omega]
      exact lands_dot
  | @pointed k hm d =>
    have ed := is_nil d
    have ew : L (ups bs k ++ S ".") = U (bs.length - k) ++ [46] := by rw [L_app, L_dot, L_ups]
    refine told_way g ht hm ?_ ?_ ?_ (whole_none ?_) ?_
    · rw [ew]; exact nmem no35U (by decide)
    · rw [ew]; simp
    · rw [ew]
      cases bs.length - k with
      | zero => simp [U]
      | succ n => rw [U_succ]; simp
    · rw [L_app, ew]
      exact nmem (nmem (fun h => by have := U_mem h; omega) (by decide)) htag
    · rw [ew, ed]
      exact lands_ups hb _ _ (Nat.le_refl _) (by rw [show bs.length - (bs.length - k) = k by have := hm.1; omega]; exact lands_dot)
  | @more k hm z =>
    have ew : L (S "../" ++ ups bs k ++ pathOf (fs.drop k) name) = 46 :: 46 :: 47 :: (U (bs.length - k) ++ (PLs (fs.drop k) ++ L name)) := by rw [L_app, L_app, L_up, L_ups, L_path]; simp
    refine told_way g ht hm ?_ ?_ ?_ (whole_slash (a := [46, 46]) (by rw [L_app, ew]; rfl) (by decide) (by decide)) ?_
    · rw [ew]; exact nmem (a := [46, 46, 47]) (by decide) (nmem no35U (path_no hf hn))
    · rw [ew]; simp
    · rw [ew]; simp
    · rw [ew]
      exact lands_up hb (Nat.le_refl _) (lands_ups hb _ _ (by omega) (by rw [show bs.length - 1 - (bs.length - k) = k by omega]; exact lands_end (path_drop hf hn)))
  | @most k hm z =>
    have ew : L (S "../../" ++ ups bs k ++ S "./" ++ pathOf (fs.drop k) name) = 46 :: 46 :: 47 :: 46 :: 46 :: 47 :: (U (bs.length - k) ++ 46 :: 47 :: (PLs (fs.drop k) ++ L name)) := by rw [L_app, L_app, L_app, L_updown, L_ups, L_path, L_sdot]; simp
    refine told_way g ht hm ?_ ?_ ?_ (whole_slash (a := [46, 46]) (by rw [L_app, ew]; rfl) (by decide) (by decide)) ?_
    · rw [ew]; exact nmem (a := [46, 46, 47, 46, 46, 47]) (by decide) (nmem no35U (nmem (a := [46, 47]) (by decide) (path_no hf hn)))
    · rw [ew]; simp
    · rw [ew]; simp
    · rw [ew]
      exact lands_up hb (Nat.le_refl _) (lands_up hb (by omega) (lands_ups hb _ _ (by omega) (by rw [show bs.length - 1 - 1 - (bs.length - k) = k by omega]; exact lands_sdot (path_drop hf hn))))
theorem U_len (n : Nat) : (U n).length = 3 * n := by
  induction n with
  | zero => rfl
  | succ n ih => rw [U_succ]; simp only [List.length_cons, ih]; omega
theorem DU_len (n : Nat) : (DU n).length = 5 * n := by
  induction n with
  | zero => rfl
  | succ n ih => rw [DU_succ]; simp only [List.length_cons, ih]; omega
theorem way_len (g : Good o bs here) (hf : ∀ x ∈ fs, x ∈ names) (hl : fs.length ≤ 4) (hn : name ∈ lasts) (h : Way o bs fs name way) : way.length ≤ 1000 := by
  have h1 := openings_len g.1
  have h2 := lasts_len hn
  have h3 : (Txt.join (S "") (fs.map (· ++ S "/"))).length ≤ 110 := len_path (last := name) (names_len hf) (by omega)
  have h4 : ∀ k, (Txt.join (S "") ((fs.drop k).map (· ++ S "/"))).length ≤ 110 := fun k => len_path_drop (names_len hf) (by omega)
  have h5 : ∀ k, (ups bs k).length ≤ 12 := fun k => by rw [← L_len, L_ups, U_len]; have := g.2.2.1; omega
  have h6 : ∀ k, (dus bs k).length ≤ 20 := fun k => by rw [← L_len, L_dus, DU_len]; have := g.2.2.1; omega
  have l1 : (S "/").length = 1 := by decide +kernel
  have l2 : (S "./").length = 2 := by decide +kernel
  have l3 : (S "../").length = 3 := by decide +kernel
  have l4 : (S "../../").length = 6 := by decide +kernel
  have l5 : (S "").length = 0 := by decide +kernel
  have l6 : (S ".").length = 1 := by decide +kernel
  cases h with
  | all => simp only [Str.length_append]; omega
  | root => simp only [Str.length_append]; omega
  | host h => have := Txt.slice_le o (some (Txt.find o (S ":") + 1)) none; simp only [Str.length_append]; omega
  | @ahead k _ => have := h4 k; have := h5 k; simp only [Str.length_append]; omega
  | @behind k _ => have := h4 k; have := h5 k; simp only [Str.length_append]; omega
  | @each k _ _ => have := h4 k; have := h6 k; simp only [Str.length_append]; omega
  | @each0 k _ _ => have := h4 k; have := h6 k; simp only [Str.length_append]; omega
  | @steps k _ _ => have := h4 k; have := h5 k; simp only [Str.length_append]; omega
  | @down k _ _ _ _ => have := h4 k; simp only [Str.length_append]; omega
  | @bare k _ _ _ => have := Txt.slice_le (ups bs k) none (some (-1)); have := h5 k; omega
  | @point k _ _ _ => omega
  | @pointed k _ _ => have := h5 k; simp only [Str.length_append]; omega
  | @more k _ _ => have := h4 k; have := h5 k; simp only [Str.length_append]; omega
  | @most k _ _ => have := h4 k; have := h5 k; simp only [Str.length_append]; omega
end
end Mine
end
section
open PySem PySem.W PyProof.Rows PySem.Spec PySem.Calls
set_option Elab.async false
set_option maxRecDepth 100000
set_option maxHeartbeats 2000000
local macro_rules | `(tactic| walk_at "my_mem") => `(tactic| first | with_reducible assumption | with_reducible exact List.mem_cons_self | (with_reducible refine List.mem_cons_of_mem _ ?_; walk_at "my_mem"))
local macro_rules | `(tactic| walk_at "pyIter ref") => `(tactic| (refine Mine.wait ?_))
local macro_rules | `(tactic| walk_at "UnrEnd") => `(tactic| (refine Mine.wait ?_))
local macro_rules | `(tactic| walk_at "compareOp NotEq str str") => `(tactic| (with_reducible refine Mine.ne_same ?_))
local macro_rules | `(tactic| walk_at "call ref") => `(tactic| (
  (with_reducible show wpAny _ _ (call (Value.ref 29) [Value.str _ _, Value.str _ _]) _ _ _)
  k_dflt (
    (refine' Mine.join_call _ _ _ _ _ _ _ _ _ _ _ _ _ _ _ _ _ _ _ _ _ ?k1 ?k2 ?k3 ?k4 ?k5 ?k6 ?k7 ?k8 ?k9 ?k10 ?_)
    (case k1 => k_asm)
    (case k2 => k_asm)
    (case k3 => k_asm)
    (case k4 => k_asm)
    (case k5 => k_asm)
    (case k6 => exact rfl)
    (case k7 => (exact Nat.le_trans (Mine.good_len (by with_reducible assumption)) (by decide)))
    (case k8 => walk_at "my_thereLen")
    (case k9 => exact Mine.good_colon (by with_reducible assumption))
    (case k10 => exact Mine.good_slash (by with_reducible assumption))
    k_whole)
  intro t' h' tk' F' N'
  (try dsimp only)
  walk_at "my_told"))
namespace Mine
noncomputable def lawBody (P : Params) : List Stmt := bodyOf ((Mine.hd.heap_39 P).lookup 67)
noncomputable def lawScope (P : Params) : Scope := scopeOf ((Mine.hd.heap_39 P).lookup 67)
def forBody : Stmt → List Stmt
  | .For _ _ b _ _ => b
  | _ => []
noncomputable def turnBody (P : Params) : List Stmt := forBody ((lawBody P).getD 9 default)
theorem ne_same {prog : Program} {w : World} {A : Around} {E : Value → Shared → Prop} {s : Shared} {x : Str} {t u : Tok} {Q : Value → Shared → Prop} (h : Q (.bool false) s) : wpAny (model prog w) A (compareOp .NotEq (.str x t) (.str x u)) Q E s := by
  refine PyProof.Rows.ne_str ?_
  rw [bne_self_eq_false]
  exact h
end Mine
local macro_rules | `(tactic| walk_at "my_thereLen") => `(tactic| exact Nat.le_trans (Mine.tags_len (by with_reducible assumption)) (by decide))
local macro_rules | `(tactic| walk_at "my_told") => `(tactic| rw [Mine.good_tag (by with_reducible assumption) (by with_reducible assumption)])
namespace Mine
theorem tags_loop : ∀ (w : World) (mean : ExcName → Option Value) (mg mb : Str → Option Value) (a : Addr) (cd : Value) (A₀ : Around) (base g : Heap) (L : Addr) (m : Str → Option Value) (nw : List (Addr × Obj)) (s : Shared) (Q : Flow → Shared → Prop) (E : Value → Shared → Prop)
    (o here : Str) (th : Tok) (bs : List Str)
   (_ : Below A₀ base [] g) (_ : Fr g L s.heap m) (_ : (Mine.hd.heap_39 w.params).In g) (_ : News g L s.heap nw) (_ : Top Mine.hd.view_39 (looseW Mine.hd.view_39 [Str.ofString "splitFragP"]) mean mg mb g)
   (_ : m (S "here") = some (.str here th)) (_ : Good o bs here)
   (_ : PassesOwn (model PySem.Challenge.rw_fc0189_01.row.prog w) (callerA.deeper (envOf "law" (lawScope w.params) L a cd)) (envOf "law" (lawScope w.params) L a cd) E)
   (_ : ∀ h' tk' m', (∀ z, z ≠ S "one" → m' z = m z) → Fr g L h' m' → News g L h' nw → Q .next { s with heap := h', toks := tk' }),
   wpAny (model PySem.Challenge.rw_fc0189_01.row.prog w) (callerA.deeper (envOf "law" (lawScope w.params) L a cd)) (exec ((turnBody w.params).headD default) (envOf "law" (lawScope w.params) L a cd)) Q E s := by
  k_fill
  intro w mean mg mb a cd A₀ base g L m nw s Q E o here th bs B F X N T e1 gd hE hret
  show wpAny _ (Around.deeper _ (envOf _ (Scope.mk _ _ _ _ _) _ _ _)) (exec (Stmt.For (Expr.Name _ _) (Expr.Call _ _ _ _) _ [] _) (envOf _ (Scope.mk _ _ _ _ _) _ _ _)) _ _ _
  rw [← kst_self (m := m) (ps := [(S "here", .str here th)]) (by simp [e1])] at F
  k_steps
  refine Mine.waited ?_
  refine iter_listUnr (vs := [_, _, _, _, _]) rfl (by assumption) (by assumption) List.mem_cons_self rfl rfl ?_
  intro I hI
  refine list_rest_inv (fun r m' nx => nx = _ :: nw ∧ (∀ z, z ≠ S "one" → m' z = m z) ∧ ∀ v ∈ r, ∃ y t, v = .str y t ∧ y ∈ tags) ?turn ?done _ _ _
    ⟨rfl, fun z _ => congrFun (kst_self (m := m) (by simp [e1])) z, fun v hv => ?vals⟩
  case vals =>
    simp only [List.mem_cons, List.not_mem_nil, or_false] at hv
    rcases hv with rfl | rfl | rfl | rfl | rfl <;> exact ⟨_, _, rfl, by simp [tags]⟩
  case done =>
    rintro m' nx h' tk' ⟨rfl, h1, -⟩ F N
    exact hret _ _ _ h1 F (Mine.news_tail N)
  case turn =>
    rintro v r m' nx it h' tk' ⟨rfl, h1, hv⟩ hc F N
    obtain ⟨one, to, rfl, hone⟩ := hv v (.head _)
    have hr := fun v h => hv v (.tail _ h)
    have e2 : m' (S "here") = some (.str here th) := (h1 _ (by decide +kernel)).trans e1
    have em : kstB m' [(S "here", .str here th)] = m' := kst_self (by simp [e2])
    rw [← em] at F
    have g1 := good_len gd
    have g2 := tags_len hone
    k_steps
    · exfalso
      simp at *
    · refine Mine.waited ?_
      refine end_at (by assumption) (by assumption) (_ :: nw) (by walk_at "my_mem") (fun y hy => List.mem_cons_of_mem _ hy) (fun p hp => ?_) ⟨List.mem_cons_self, rfl, fun z hz => ?_, hr⟩
      · rcases List.mem_cons.mp hp with rfl | hp
        · exact .inr (fun e => by injection (show Value.type _ = _ from e.trans hc) with h; exact absurd h (by decide +kernel))
        · exact .inl (Nat.ne_of_lt (hI _ (List.mem_cons_of_mem _ hp)))
      · rw [em, if_neg hz]
        exact h1 z hz
end Mine
end
section
open PySem PySem.W PyProof.Rows PySem.Spec PySem.Calls
set_option Elab.async false
set_option maxRecDepth 100000
set_option maxHeartbeats 2000000
local macro_rules | `(tactic| walk_at "my_pad8") => `(tactic| skip)
local macro_rules | `(tactic| walk_at "my_mem") => `(tactic| first | with_reducible assumption | with_reducible exact List.mem_cons_self | (with_reducible refine List.mem_cons_of_mem _ ?_; walk_at "my_mem"))
local macro_rules | `(tactic| walk_at "pyIter ref") => `(tactic| (refine Mine.wait ?_))
local macro_rules | `(tactic| walk_at "UnrEnd") => `(tactic| (refine Mine.wait ?_))
local macro_rules | `(tactic| walk_at "compareOp NotEq str str") => `(tactic| (with_reducible refine Mine.ne_same ?_))
local macro_rules | `(tactic| walk_at "call ref") => `(tactic| first
  | (
    (with_reducible show wpAny _ _ (call (Value.ref 29) [Value.str _ _, Value.str _ _]) _ _ _)
    k_dflt (
      (refine' Mine.join_call _ _ _ _ _ _ _ _ _ _ _ _ _ _ _ _ _ _ _ _ _ ?k1 ?k2 ?k3 ?k4 ?k5 ?k6 ?k7 ?k8 ?k9 ?k10 ?_)
      (case k1 => k_asm)
      (case k2 => k_asm)
      (case k3 => k_asm)
      (case k4 => k_asm)
      (case k5 => k_asm)
      (case k6 => exact rfl)
      (case k7 => (exact Nat.le_trans (Mine.good_len (by with_reducible assumption)) (by decide)))
      (case k8 => walk_at "my_thereLen")
      (case k9 => exact Mine.good_colon (by with_reducible assumption))
      (case k10 => exact Mine.good_slash (by with_reducible assumption))
      k_whole)
    intro t' h' tk' F' N'
    (try dsimp only)
    walk_at "my_told")
  | (refine Mine.wait ?_))
local macro_rules | `(tactic| walk_at "my_thereLen") => `(tactic| (rw [Str.length_append]; omega))
local macro_rules | `(tactic| walk_at "my_told") => `(tactic| rw [Mine.good_way (by with_reducible assumption) (by with_reducible assumption) (by with_reducible assumption) (by with_reducible assumption) (by with_reducible assumption) (by with_reducible assumption)])
namespace Mine
theorem ways_loop : ∀ (w : World) (mean : ExcName → Option Value) (mg mb : Str → Option Value) (a : Addr) (cd : Value) (A₀ : Around) (base g : Heap) (L : Addr) (m : Str → Option Value) (nw : List (Addr × Obj)) (s : Shared) (Q : Flow → Shared → Prop) (E : Value → Shared → Prop)
    (o here name tag : Str) (ot th nt gt rt : Tok) (bs fs : List Str) (lb lf : Addr) (vb vf : List Value) (nb nf : Nat)
   (_ : Below A₀ base [] g) (_ : Fr g L s.heap m) (_ : (Mine.hd.heap_39 w.params).In g) (_ : News g L s.heap nw) (_ : Top Mine.hd.view_39 (looseW Mine.hd.view_39 [Str.ofString "splitFragP"]) mean mg mb g)
   (_ : m (S "opening") = some (.str o ot)) (_ : m (S "base") = some (.ref lb)) (_ : m (S "here") = some (.str here th)) (_ : m (S "name") = some (.str name nt)) (_ : m (S "tag") = some (.str tag gt))
   (_ : m (S "folders") = some (.ref lf)) (_ : m (S "there") = some (.str (o ++ S "/" ++ Txt.join (S "") (fs.map (· ++ S "/")) ++ name) rt))
   (_ : (lb, listOf vb.toArray nb) ∈ nw) (_ : (lf, listOf vf.toArray nf) ∈ nw) (_ : StrsAre vb bs) (_ : StrsAre vf fs)
   (_ : Good o bs here) (_ : ∀ x ∈ fs, x ∈ names) (_ : fs.length ≤ 4) (_ : name ∈ lasts) (_ : tag ∈ tags)
   (_ : PassesOwn (model PySem.Challenge.rw_fc0189_01.row.prog w) (callerA.deeper (envOf "law" (lawScope w.params) L a cd)) (envOf "law" (lawScope w.params) L a cd) E)
   (_ : ∀ h' tk' m', (∀ z, z ≠ S "way" → m' z = m z) → Fr g L h' m' → News g L h' nw → Q .next { s with heap := h', toks := tk' }),
   wpAny (model PySem.Challenge.rw_fc0189_01.row.prog w) (callerA.deeper (envOf "law" (lawScope w.params) L a cd)) (exec ((turnBody w.params).getD 4 default) (envOf "law" (lawScope w.params) L a cd)) Q E s := by
  k_fill
  intro w mean mg mb a cd A₀ base g L m nw s Q E o here name tag ot th nt gt rt bs fs lb lf vb vf nb nf B F X N T e1 e2 e3 e4 e5 e6 e7 m1 m2 s1 s2 gd hf hl hn ht hE hret
  show wpAny _ (Around.deeper _ (envOf _ (Scope.mk _ _ _ _ _) _ _ _)) (exec (Stmt.For (Expr.Name _ _) (Expr.Call _ _ _ _) _ [] _) (envOf _ (Scope.mk _ _ _ _ _) _ _ _)) _ _ _
  have em0 : ∀ m' : Str → Option Value, (∀ z, z ≠ S "way" → m' z = m z) → kstB m' [(S "opening", .str o ot), (S "base", .ref lb), (S "here", .str here th), (S "name", .str name nt), (S "tag", .str tag gt), (S "folders", .ref lf), (S "there", .str (o ++ S "/" ++ Txt.join (S "") (fs.map (· ++ S "/")) ++ name) rt)] = m' := fun m' h => by
    have d (z : Str) (hz : z ≠ S "way") := h z hz
    exact kst_self (by simp [d _ (by decide +kernel : S "opening" ≠ S "way"), d _ (by decide +kernel : S "base" ≠ S "way"), d _ (by decide +kernel : S "here" ≠ S "way"), d _ (by decide +kernel : S "name" ≠ S "way"), d _ (by decide +kernel : S "tag" ≠ S "way"), d _ (by decide +kernel : S "folders" ≠ S "way"), d _ (by decide +kernel : S "there" ≠ S "way"), e1, e2, e3, e4, e5, e6, e7])
  rw [← em0 m (fun _ _ => rfl)] at F
  have g0 := openings_len gd.1
  have g1 := good_len gd
  have g2 := tags_len ht
  have g3 := lasts_len hn
  have g6 := good_len (good_next gd.1 hf hl hn)
  have g4 := len_path (last := name) (names_len hf) (by omega : fs.length ≤ 10)
  k_steps
  refine Mine.waited ?_
  (with_reducible show wpAny _ _ (call (Value.ref 62) [Value.str _ _, Value.ref _, Value.ref _, Value.str _ _]) _ _ _)
  refine ways_call w mean mg mb _ _ _ _ A₀ base g L _ nw _ _ _ o name _ _ lb lf vb vf nb nf bs fs (by k_asm) (by k_asm) (by k_asm) (by k_asm) (by k_asm) rfl
    m1 m2 s1 s2 (by have := gd.2.2.1; omega) (by omega) (names_len hf) (by omega) (by omega) (by omega) ?_
  intro q vs n ws h' tk' F' N' lt S' len W'
  k_steps
  refine Mine.waited ?_
  refine iter_listUnr (vs := vs) rfl (by assumption) (by assumption) List.mem_cons_self rfl rfl ?_
  intro I hI
  refine list_rest_inv (fun r m' nx => nx = (q, listOf vs.toArray n) :: nw ∧ (∀ z, z ≠ S "way" → m' z = m z) ∧ ∀ v ∈ r, ∃ y t, v = .str y t ∧ Way o bs fs name y) ?turn ?done _ _ _
    ⟨rfl, fun z _ => congrFun (em0 m (fun _ _ => rfl)) z, fun v hv => ?vals⟩
  case vals =>
    obtain ⟨i, hi⟩ := List.mem_iff_getElem?.mp hv
    obtain ⟨y, t, hy, rfl⟩ := strs_at S' i v hi
    exact ⟨y, t, rfl, W' y (List.mem_of_getElem? hy)⟩
  case done =>
    rintro m' nx h' tk' ⟨rfl, h1, -⟩ F N
    exact hret _ _ _ h1 F (Mine.news_tail N)
  case turn =>
    rintro v r m' nx it h' tk' ⟨rfl, h1, hv⟩ hc F N
    obtain ⟨way, tw, rfl, hway⟩ := hv v (.head _)
    have hr := fun v h => hv v (.tail _ h)
    have em := em0 m' h1
    rw [← em] at F
    have g5 := way_len gd hf hl hn hway
    k_steps
    · refine Mine.waited ?_
      refine end_at (by assumption) (by assumption) (_ :: nw) (by walk_at "my_mem") (fun y hy => List.mem_cons_of_mem _ hy) (fun p hp => ?_) ⟨List.mem_cons_self, rfl, fun z hz => ?_, hr⟩
      · rcases List.mem_cons.mp hp with rfl | hp
        · exact .inr (fun e => by injection (show Value.type _ = _ from e.trans hc) with h; exact absurd h (by decide +kernel))
        · exact .inl (Nat.ne_of_lt (hI _ (List.mem_cons_of_mem _ hp)))
      · rw [em, if_neg hz]
        exact h1 z hz
end Mine
end
section
open PySem PySem.W PyProof.Rows PySem.Spec PySem.Calls
set_option Elab.async false
set_option maxRecDepth 100000
set_option maxHeartbeats 2000000
local macro_rules | `(tactic| walk_at "exec For Name Call cons nil") => `(tactic| (refine Mine.wait ?_))
local macro_rules | `(tactic| walk_at "my_mem") => `(tactic| first | with_reducible assumption | with_reducible exact List.mem_cons_self | (with_reducible refine List.mem_cons_of_mem _ ?_; walk_at "my_mem"))
local macro_rules | `(tactic| walk_at "CompSrc") => `(tactic| (
  (refine' Mine.slash_src ?k1 ?k2 ?k3 ?k4 ?k5 ?k6 ?k7 ?k8 ?k9 ?_)
  (case k1 => first | exact rfl | assumption)
  (case k2 => k_asm)
  (case k3 => k_asm)
  (case k4 => walk_at "my_mem")
  (case k5 => with_reducible assumption)
  (case k6 => exact Mine.few (by with_reducible assumption) (by (try simp only [List.length_drop]); omega))
  (case k7 => walk_at "my_short")
  (case k8 => exact rfl)
  (case k9 => exact rfl)
  k_whole
  intro g' ys' hys'
  (try dsimp only)
  (try unfold LCg.FinE)
  intro D' h' tk' F' N' o1
  (try simp only [LCg.Off1] at o1)
  (try dsimp only)))
local macro_rules | `(tactic| walk_at "my_short") => `(tactic| exact Mine.short_all (by with_reducible assumption))
local macro_rules | `(tactic| walk_at "binaryOp Add ref ref") => `(tactic| (
  (with_reducible show wpAny _ _ (binaryOp _ (Value.ref _) (Value.ref _)) _ _ _)
  k_dflt (
    (refine' Mine.add_strsN ?F ?N ?a ?b ?i ?j ?z ?_)
    (case F => k_asm)
    (case N => k_asm)
    (case a => first | walk_at "my_mem" | exact List.mem_cons_self | exact List.mem_cons_of_mem _ List.mem_cons_self)
    (case b => walk_at "my_mem")
    (case i => with_reducible assumption)
    (case j => with_reducible assumption)
    (case z => ((try simp only [List.length_take]); omega)))
  intro D' h' F' N' l1 hS'
  (try k_lt l1)))
local macro_rules | `(tactic| walk_at "eval ListComp") => `(tactic| (k_dflt (refine LCg.ListComp_U (F₀ := by k_asm) (by with_unfolding_all rfl) (by decide) (by rfl) (by decide) (by rfl) ?_)))
local macro_rules | `(tactic| walk_at "call builtin:str.join") => `(tactic| (
  (with_reducible show wpAny _ _ (call (Value.builtin "str.join") [Value.str _ _, Value.ref _]) _ _ _)
  k_dflt (
    (refine' Mine.join_slash ?k1 ?k2 ?k3 ?k4 ?k5 ?_)
    (case k1 => k_asm)
    (case k2 => walk_at "my_mem")
    (case k3 => with_reducible assumption)
    (case k4 => with_reducible assumption)
    (case k5 => (try simp only [List.length_drop]); omega))
  intro t' k' hj'))
local macro_rules | `(tactic| walk_at "subscriptTail Name Slice ref ref") => `(tactic| (
  (with_reducible show wpAny _ _ (subscriptTail _ (PySem.Expr.Slice _ _ none _) (Value.ref _) (Value.ref _)) _ _ _)
  k_dflt (
    (refine' Mine.slice_strsN ?F ?N ?l ?i ?p ?q ?z ?_ ?s ?t)
    (case F => k_asm)
    (case N => k_asm)
    (case l => walk_at "my_mem")
    (case i => with_reducible assumption)
    (case p => kmk_part)
    (case q => kmk_part)
    (case z => omega)
    (case s => with_unfolding_all rfl)
    (case t => kmk_pure))
  intro D' us' c' h' F' N' l1 hS'
  (try k_lt l1)
  (try rw [Mine.pick_from (by omega)] at hS')
  (try rw [Mine.pick_upto (by omega)] at hS')
  (try simp only [Int.zero_add, Int.toNat_natCast] at hS')))
local macro_rules | `(tactic| walk_at "assign Tuple") => `(tactic| (
  (with_reducible show wpAny _ _ (assign (Expr.Tuple _ _ _) _ (Value.ref _)) _ _ _)
  k_dflt (
    (refine' unpackN_ ?F ?N ?T ?k1 ?k2 ?k3 ?_)
    (case F => k_asm)
    (case N => k_asm)
    (case T => exact News.isTup (by k_asm) (by walk_at "my_mem"))
    (case k1 => exact rfl)
    (case k2 => exact rfl)
    (case k3 => exact rfl))
  intro h' F' N'))
namespace Mine
abbrev tupOf (items : Array Value) : Obj := { cls := .type "tuple", data := .seq items 0 }
theorem pick_le {xs : List Str} {lo hi : Option Int} : (pickS xs lo hi).length ≤ xs.length := by
  unfold pickS
  rw [List.length_take, List.length_drop]
  omega
theorem turn : ∀ (w : World) (mean : ExcName → Option Value) (mg mb : Str → Option Value) (a : Addr) (cd : Value) (A₀ : Around) (base g : Heap) (L : Addr) (m : Str → Option Value) (nw : List (Addr × Obj)) (s : Shared) (Q : Flow → Shared → Prop) (E : Value → Shared → Prop)
    (o here name tag last0 : Str) (ot th nt gt kt lt0 : Tok) (k : Int) (lb lo st b0 : Addr) (vb vo v0 : List Value) (nb no n0 : Nat) (bs os bs0 : List Str)
   (_ : Below A₀ base [] g) (_ : Fr g L s.heap m) (_ : (Mine.hd.heap_39 w.params).In g) (_ : News g L s.heap nw) (_ : Top Mine.hd.view_39 (looseW Mine.hd.view_39 [Str.ofString "splitFragP"]) mean mg mb g)
   (_ : m (S "opening") = some (.str o ot)) (_ : m (S "base") = some (.ref lb)) (_ : m (S "here") = some (.str here th)) (_ : m (S "name") = some (.str name nt)) (_ : m (S "tag") = some (.str tag gt))
   (_ : m (S "kept") = some (.int k kt)) (_ : m (S "others") = some (.ref lo)) (_ : m (S "start") = some (.ref st))
   (_ : (lb, listOf vb.toArray nb) ∈ nw) (_ : (lo, listOf vo.toArray no) ∈ nw) (_ : (st, tupOf #[.ref b0, .str last0 lt0]) ∈ nw) (_ : (b0, listOf v0.toArray n0) ∈ nw)
   (_ : StrsAre vb bs) (_ : StrsAre vo os) (_ : StrsAre v0 bs0)
   (_ : Good o bs here) (_ : ∀ x ∈ os, x ∈ names) (_ : os.length ≤ 2) (_ : ∀ x ∈ bs0, x ∈ names) (_ : bs0.length ≤ 2) (_ : last0 ∈ lasts) (_ : name ∈ lasts) (_ : tag ∈ tags) (_ : -1 ≤ k) (_ : k ≤ 2)
   (_ : PassesOwn (model PySem.Challenge.rw_fc0189_01.row.prog w) (callerA.deeper (envOf "law" (lawScope w.params) L a cd)) (envOf "law" (lawScope w.params) L a cd) E)
   (_ : ∀ h' tk' m' lf vf nf fs there tt, Fr g L h' m' → News g L h' ((lf, listOf (List.toArray vf) nf) :: nw) → StrsAre vf fs → Good o fs there → m' (S "base") = some (.ref lf) → m' (S "here") = some (.str there tt) →
     m' (S "opening") = some (.str o ot) → m' (S "start") = some (.ref st) → Q .next { s with heap := h', toks := tk' }),
   wpAny (model PySem.Challenge.rw_fc0189_01.row.prog w) (callerA.deeper (envOf "law" (lawScope w.params) L a cd)) (execs (turnBody w.params) (envOf "law" (lawScope w.params) L a cd)) Q E s := by
  k_fill
  intro w mean mg mb a cd A₀ base g L m nw s Q E o here name tag last0 ot th nt gt kt lt0 k lb lo st b0 vb vo v0 nb no n0 bs os bs0 B F X N T e1 e2 e3 e4 e5 e6 e7 e8 m1 m2 m3 m4 s1 s2 s3 gd hos los hb0 lb0 hl0 hn ht k0 k1 hE hret
  show wpAny _ (Around.deeper _ (envOf _ (Scope.mk _ _ _ _ _) _ _ _)) (execs (_ :: _) (envOf _ (Scope.mk _ _ _ _ _) _ _ _)) _ _ _
  have em0 : ∀ m' : Str → Option Value, (∀ z, z ≠ S "one" → m' z = m z) → kstB m' [(S "opening", .str o ot), (S "base", .ref lb), (S "here", .str here th), (S "name", .str name nt), (S "tag", .str tag gt), (S "kept", .int k kt), (S "others", .ref lo), (S "start", .ref st)] = m' := fun m' h => by
    have d (z : Str) (hz : z ≠ S "one") := h z hz
    exact kst_self (by simp [d _ (by decide +kernel : S "opening" ≠ S "one"), d _ (by decide +kernel : S "base" ≠ S "one"), d _ (by decide +kernel : S "here" ≠ S "one"), d _ (by decide +kernel : S "name" ≠ S "one"), d _ (by decide +kernel : S "tag" ≠ S "one"), d _ (by decide +kernel : S "kept" ≠ S "one"), d _ (by decide +kernel : S "others" ≠ S "one"), d _ (by decide +kernel : S "start" ≠ S "one"), e1, e2, e3, e4, e5, e6, e7, e8])
  have g0 := openings_len gd.1
  have g1 := good_len gd
  have g2 := tags_len ht
  have g3 := lasts_len hn
  have g4 := lasts_len hl0
  have g5 : bs.length ≤ 4 := gd.2.2.1
  have g6 := names_len hb0
  have gp := pick_le (xs := bs) (lo := none) (hi := some k)
  k_steps
  refine Mine.waited ?_
  refine tags_loop w mean mg mb _ _ A₀ base g L m nw _ _ _ o here th bs B F X N T e3 gd (by passes_own) ?_
  intro h1 tk1 m1' hm1 F1 N1
  rw [← em0 _ hm1] at F1
  have em1 : ∀ (m9 : Str → Option Value) (v1 v2 : Value), m9 (S "opening") = some (.str o ot) → m9 (S "start") = some (.ref st) → m9 (S "folders") = some v1 → m9 (S "there") = some v2 →
      kstB m9 [(S "opening", .str o ot), (S "start", .ref st), (S "folders", v1), (S "there", v2)] = m9 := fun m9 v1 v2 a1 a2 a3 a4 => kst_self (by simp [a1, a2, a3, a4])
  by_cases hk : k < 0
  · k_steps
    refine Mine.waited ?_
    refine ways_loop w mean mg mb _ _ A₀ base g L _ _ _ _ _ o here last0 tag _ _ _ _ _ bs (bs0) lb b0 vb v0 nb n0 B (by with_reducible assumption) X (by with_reducible assumption) T
      (by with_unfolding_all rfl) (by with_unfolding_all rfl) (by with_unfolding_all rfl) (by with_unfolding_all rfl) (by with_unfolding_all rfl) (by with_unfolding_all rfl) (by with_unfolding_all rfl)
      (by walk_at "my_mem") (by walk_at "my_mem") s1 (by with_reducible assumption) gd hb0 (by omega) hl0 ht (by passes_own) ?_
    intro h9 tk9 m9 hm9 F9 N9
    have em9 := em1 m9 _ _ ((hm9 (S "opening") (by decide +kernel)).trans (by with_unfolding_all rfl)) ((hm9 (S "start") (by decide +kernel)).trans (by with_unfolding_all rfl)) ((hm9 (S "folders") (by decide +kernel)).trans (by with_unfolding_all rfl)) ((hm9 (S "there") (by decide +kernel)).trans (by with_unfolding_all rfl))
    rw [← em9] at F9
    dsimp only
    k_steps
    refine' hret _ _ _ _ _ _ (bs0) _ _ ?F ?N ?S ?G ?b ?h ?o ?st
    case F => with_reducible assumption
    case b => with_unfolding_all rfl
    case h => with_unfolding_all rfl
    case o => with_unfolding_all rfl
    case st => with_unfolding_all rfl
    case S => with_reducible assumption
    case G => exact good_next gd.1 hb0 (by omega) hl0
    case N => exact news_sub (by with_reducible assumption) (List.forall_mem_cons.mpr ⟨by walk_at "my_mem", fun p hp => by walk_at "my_mem"⟩)
  · have hfs : ∀ x ∈ bs.take k.toNat ++ os, x ∈ names := fun x hx => by
      rcases List.mem_append.mp hx with hx | hx
      · exact gd.2.1 x (List.mem_of_mem_take hx)
      · exact hos x hx
    have g7 := names_len hfs
    have g8 : (bs.take k.toNat ++ os).length ≤ 4 := by rw [List.length_append, List.length_take]; omega
    k_steps
    refine Mine.waited ?_
    refine ways_loop w mean mg mb _ _ A₀ base g L _ _ _ _ _ o here name tag _ _ _ _ _ bs (bs.take k.toNat ++ os) lb _ vb _ nb _ B (by with_reducible assumption) X (by with_reducible assumption) T
      (by with_unfolding_all rfl) (by with_unfolding_all rfl) (by with_unfolding_all rfl) (by with_unfolding_all rfl) (by with_unfolding_all rfl) (by with_unfolding_all rfl) (by with_unfolding_all rfl)
      (by walk_at "my_mem") (by walk_at "my_mem") s1 (by with_reducible assumption) gd hfs g8 hn ht (by passes_own) ?_
    intro h9 tk9 m9 hm9 F9 N9
    have em9 := em1 m9 _ _ ((hm9 (S "opening") (by decide +kernel)).trans (by with_unfolding_all rfl)) ((hm9 (S "start") (by decide +kernel)).trans (by with_unfolding_all rfl)) ((hm9 (S "folders") (by decide +kernel)).trans (by with_unfolding_all rfl)) ((hm9 (S "there") (by decide +kernel)).trans (by with_unfolding_all rfl))
    rw [← em9] at F9
    dsimp only
    k_steps
    refine' hret _ _ _ _ _ _ (bs.take k.toNat ++ os) _ _ ?F2 ?N2 ?S2 ?G2 ?b2 ?h2 ?o2 ?st2
    case F2 => with_reducible assumption
    case b2 => with_unfolding_all rfl
    case h2 => with_unfolding_all rfl
    case o2 => with_unfolding_all rfl
    case st2 => with_unfolding_all rfl
    case S2 => with_reducible assumption
    case G2 => exact good_next gd.1 hfs g8 hn
    case N2 => exact news_sub (by with_reducible assumption) (List.forall_mem_cons.mpr ⟨by walk_at "my_mem", fun p hp => by walk_at "my_mem"⟩)
end Mine
end
section
open PySem PySem.W PyProof.Rows PySem.Spec PySem.Calls
set_option Elab.async false
set_option maxRecDepth 100000
set_option maxHeartbeats 2000000
namespace Mine
/-! the rule for a loop whose target is a tuple, by an invariant -/
section
variable {prog : Program} {w : World} {A : Around} {E : Value → Shared → Prop} {s : Shared} {env : Env} {h₀ : Heap} {target : PySem.Expr} {body : List Stmt} {Q : Flow → Shared → Prop}
theorem items_rest_inv {I : Addr} {lp : Addr × Obj} (J : List Value → (Str → Option Value) → List (Addr × Obj) → Prop)
    (turn : ∀ v r m news (it : Obj) h tk, J (v :: r) m news → it.cls = .type "list_iterator" → Fr h₀ env.locals h m → News h₀ env.locals h ((I, it) :: news) →
      wpAny (model prog w) A (assign target env v) (fun _ s₂ => Wait (wpAny (model prog w) A (execs body env) (UnrPostW h₀ env.locals { s with heap := h, toks := tk } [(I, it)] (fun m' n' => lp ∈ n' ∧ J r m' n') Q) E s₂)) E { s with heap := h, toks := tk })
    (done : ∀ m news h tk, J [] m news → Fr h₀ env.locals h m → News h₀ env.locals h news → Q .next { s with heap := h, toks := tk }) :
    ∀ (vs : List Value) m news, J vs m news → ItemsRest prog w A E h₀ env target body Q s [(I, "list_iterator")] [lp] (vs.map .val) m news
  | [], m, news, hj => ItemsRest.zero fun h tk F N => done m news h tk hj F N
  | v :: r, m, news, hj => ItemsRest.val fun h tk F it hc N =>
      wpAny_mono (turn v r m news it h tk hj hc F N) (fun _ s₂ p => wpAny_mono (waited p) (fun f s₃ p => by
        have up : UnrEndW h₀ env.locals { s with heap := h, toks := tk } [(I, it)] (fun m' n' => lp ∈ n' ∧ J r m' n') s₃ →
            UnrEndW h₀ env.locals { s with heap := h, toks := tk } [(I, it)] (fun m' n' => SubL [lp] n' ∧ ItemsRest prog w A E h₀ env target body Q s [(I, "list_iterator")] [lp] (r.map .val) m' n') s₃ := by
          rintro ⟨h', tk', m', n', e, F', N', ho, q⟩
          exact ⟨h', tk', m', n', e, F', N', ho, ⟨q.1, trivial⟩, items_rest_inv J turn done r m' n' q.2⟩
        cases f with
        | ret v => exact p
        | brk => exact p
        | next => exact up p
        | cont => exact up p) fun _ _ e => e) fun _ _ e => e
end
theorem endW_at {h₀ : Heap} {L I : Addr} {it : Obj} {rest : (Str → Option Value) → List (Addr × Obj) → Prop} {s₁ : Shared} {h' : Heap} {tk : Nat} {m' : Str → Option Value} {all : List (Addr × Obj)} (F : Fr h₀ L h' m') (N : News h₀ L h' all) (nx : List (Addr × Obj))
    (hI : (I, it) ∈ all) (sub : ∀ p ∈ nx, p ∈ all) (off : ∀ p ∈ nx, p.1 ≠ I ∨ p.2.cls ≠ it.cls) (r : rest m' nx) : UnrEndW h₀ L s₁ [(I, it)] rest { s₁ with heap := h', toks := tk } :=
  ⟨h', tk, m', nx, rfl, F, fun p hp => by
    rcases List.mem_append.mp hp with hp | hp
    · rw [List.mem_singleton.mp hp]
      exact N _ hI
    · exact N p (sub p hp), fun p hp q hq e => by
    rw [List.mem_singleton.mp hq] at e
    rcases off p hp with h | h
    · exact h e
    · have h1 := (N _ (sub p hp)).1
      have h2 := (N _ hI).1
      rw [e] at h1
      exact h (congrArg Obj.cls (Option.some.inj (h1.symm.trans h2))), r⟩
/-! what a target of the law is -/
def Target (nw : List (Addr × Obj)) (v : Value) : Prop :=
  ∃ (a lo : Addr) (k : Int) (kt nt gt : Tok) (name tag : Str) (vo : List Value) (no : Nat) (os : List Str),
    v = .ref a ∧ (a, tupOf #[.int k kt, .ref lo, .str name nt, .str tag gt]) ∈ nw ∧ (lo, listOf vo.toArray no) ∈ nw ∧ StrsAre vo os ∧ (∀ x ∈ os, x ∈ names) ∧ os.length ≤ 2 ∧ name ∈ lasts ∧ tag ∈ tags ∧ -1 ≤ k ∧ k ≤ 2
theorem Target.mono {nw nw' : List (Addr × Obj)} {v : Value} (h : ∀ p ∈ nw, p ∈ nw') (t : Target nw v) : Target nw' v := by
  obtain ⟨a, lo, k, kt, nt, gt, name, tag, vo, no, os, e, h1, h2, r⟩ := t
  exact ⟨a, lo, k, kt, nt, gt, name, tag, vo, no, os, e, h _ h1, h _ h2, r⟩
section
variable {prog : Program} {w : World} {A : Around} {E : Value → Shared → Prop} {s : Shared} {h₀ : Heap} {L a b : Addr} {m : Str → Option Value} {news : List (Addr × Obj)} {vs us : List Value} {n k : Nat}
theorem add_listsN {Q : Value → Shared → Prop} (F : Fr h₀ L s.heap m) (N : News h₀ L s.heap news) (ha : (a, listOf vs.toArray n) ∈ news) (hb : (b, listOf us.toArray k) ∈ news) (hz : vs.length + us.length ≤ 10000)
    (h : ∀ D h', Fr h₀ L h' m → News h₀ L h' ((D, listOf (vs ++ us).toArray 0) :: news) → (∀ p ∈ news, p.1 < D) → Q (.ref D) { s with heap := h' }) :
    wpAny (model prog w) A (binaryOp .Add (.ref a) (.ref b)) Q E s := by
  refine kmk_add_lit F N (News.isList N ha) (News.isList N hb) rfl (fun D h' F' N' l1 => h D h' F' ?_ l1) (by rw [List.toList_toArray, List.toList_toArray, sizeLine_eq]; omega)
  rw [List.toList_toArray, List.toList_toArray] at N'
  exact N'
end
end Mine
namespace Mine
def LoopJ (o : Str) (ot : Tok) (st I : Addr) (NW : List (Addr × Obj)) (r : List Value) (m : Str → Option Value) (nx : List (Addr × Obj)) : Prop :=
  ∃ (lb : Addr) (vb : List Value) (nb : Nat) (bs : List Str) (here : Str) (th : Tok), (∀ p ∈ NW, p ∈ nx) ∧ (lb, listOf vb.toArray nb) ∈ nx ∧ (∀ p ∈ nx, p.1 ≠ I ∨ p.2.cls ≠ .type "list_iterator") ∧
    StrsAre vb bs ∧ Good o bs here ∧ m (S "opening") = some (.str o ot) ∧ m (S "base") = some (.ref lb) ∧ m (S "here") = some (.str here th) ∧ m (S "start") = some (.ref st) ∧ ∀ v ∈ r, Target NW v
end Mine
local macro_rules | `(tactic| walk_at "my_pad6") => `(tactic| skip)
local macro_rules | `(tactic| walk_at "my_mem") => `(tactic| first | with_reducible assumption | with_reducible exact List.mem_cons_self | (with_reducible refine List.mem_cons_of_mem _ ?_; walk_at "my_mem"))
local macro_rules | `(tactic| walk_at "pyIter ref") => `(tactic| (refine Mine.wait ?_))
local macro_rules | `(tactic| walk_at "exec For Tuple BinOp cons nil") => `(tactic| (
  (rename Fr _ _ _ _ => lF')
  (refine For_turns lF' ?_)))
local macro_rules | `(tactic| walk_at "binaryOp Add ref ref") => `(tactic| (
  (with_reducible show wpAny _ _ (binaryOp _ (Value.ref _) (Value.ref _)) _ _ _)
  k_dflt (
    (refine' Mine.add_listsN ?F ?N ?a ?b ?z ?_)
    (case F => k_asm)
    (case N => k_asm)
    (case a => walk_at "my_mem")
    (case b => exact List.mem_cons_self)
    (case z => (show _ + 1 ≤ _; omega)))
  intro D' h' F' N' l1
  (try k_lt l1)))
local macro_rules | `(tactic| walk_at "assign Tuple") => `(tactic| (
  (with_reducible show wpAny _ _ (assign (Expr.Tuple _ _ _) _ (Value.ref _)) _ _ _)
  k_dflt (
    (refine' unpackN_ ?F ?N ?T ?k1 ?k2 ?k3 ?_)
    (case F => k_asm)
    (case N => k_asm)
    (case T => exact News.isTup (by k_asm) (by walk_at "my_mem"))
    (case k1 => exact rfl)
    (case k2 => exact rfl)
    (case k3 => exact rfl))
  intro h' F' N'))
namespace Mine
theorem targets_loop : ∀ (w : World) (mean : ExcName → Option Value) (mg mb : Str → Option Value) (a : Addr) (cd : Value) (A₀ : Around) (base g : Heap) (L : Addr) (m : Str → Option Value) (nw : List (Addr × Obj)) (s : Shared) (Q : Flow → Shared → Prop) (E : Value → Shared → Prop)
    (o here last0 : Str) (ot th lt0 : Tok) (b0 st lt : Addr) (v0 vt : List Value) (n0 nt : Nat) (bs0 : List Str)
   (_ : Below A₀ base [] g) (_ : Fr g L s.heap m) (_ : (Mine.hd.heap_39 w.params).In g) (_ : News g L s.heap nw) (_ : Top Mine.hd.view_39 (looseW Mine.hd.view_39 [Str.ofString "splitFragP"]) mean mg mb g)
   (_ : m (S "opening") = some (.str o ot)) (_ : m (S "base") = some (.ref b0)) (_ : m (S "here") = some (.str here th)) (_ : m (S "start") = some (.ref st)) (_ : m (S "targets") = some (.ref lt))
   (_ : (st, tupOf #[.ref b0, .str last0 lt0]) ∈ nw) (_ : (b0, listOf v0.toArray n0) ∈ nw) (_ : (lt, listOf vt.toArray nt) ∈ nw)
   (_ : StrsAre v0 bs0) (_ : vt.length ≤ 1000) (_ : ∀ v ∈ vt, Target nw v)
   (_ : Good o bs0 here) (_ : ∀ x ∈ bs0, x ∈ names) (_ : bs0.length ≤ 2) (_ : last0 ∈ lasts)
   (_ : PassesOwn (model PySem.Challenge.rw_fc0189_01.row.prog w) (callerA.deeper (envOf "law" (lawScope w.params) L a cd)) (envOf "law" (lawScope w.params) L a cd) E)
   (_ : ∀ h' tk' m' nx, Fr g L h' m' → News g L h' nx → Q .next { s with heap := h', toks := tk' }),
   wpAny (model PySem.Challenge.rw_fc0189_01.row.prog w) (callerA.deeper (envOf "law" (lawScope w.params) L a cd)) (exec ((lawBody w.params).getD 9 default) (envOf "law" (lawScope w.params) L a cd)) Q E s := by
  k_fill
  intro w mean mg mb a cd A₀ base g L m nw s Q E o here last0 ot th lt0 b0 st lt v0 vt n0 nt bs0 B F X N T e1 e2 e3 e4 e5 m1 m2 m3 s1 lv tg gd hb0 lb0 hl0 hE hret
  show wpAny _ (Around.deeper _ (envOf _ (Scope.mk _ _ _ _ _) _ _ _)) (exec (Stmt.For _ _ _ [] _) (envOf _ (Scope.mk _ _ _ _ _) _ _ _)) _ _ _
  rw [← kst_self (m := m) (ps := [(S "opening", .str o ot), (S "base", .ref b0), (S "here", .str here th), (S "start", .ref st), (S "targets", .ref lt)]) (by simp [e1, e2, e3, e4, e5])] at F
  k_steps
  refine Mine.waited ?_
  refine iter_listTurns (vs := vt ++ [_]) rfl (by assumption) (by assumption) List.mem_cons_self rfl rfl ?_
  intro I hI
  refine items_rest_inv (LoopJ o ot st I _) ?turn ?done _ _ _
    ⟨b0, v0, n0, bs0, here, th, fun p hp => hp, by walk_at "my_mem", fun p hp => .inl (Nat.ne_of_lt (hI p hp)), s1, gd, by with_unfolding_all rfl, by with_unfolding_all rfl, by with_unfolding_all rfl, by with_unfolding_all rfl, fun v hv => ?vals⟩
  case vals =>
    rcases List.mem_append.mp hv with hv | hv
    · exact (tg v hv).mono fun p hp => by walk_at "my_mem"
    · rw [List.mem_singleton.mp hv]
      exact ⟨_, _, _, _, _, _, _, _, [], _, [], rfl, List.mem_cons_of_mem _ (List.mem_cons_of_mem _ List.mem_cons_self), List.mem_cons_of_mem _ (List.mem_cons_of_mem _ (List.mem_cons_of_mem _ List.mem_cons_self)), .nil, (fun x hx => nomatch hx), by decide, by simp [lasts], by simp [tags], by decide, by decide⟩
  case done =>
    rintro m' nx h' tk' - F N
    exact hret _ _ _ _ F N
  case turn =>
    rintro v r m' nx it h' tk' ⟨lb, vb, nb, bs, here', th', hsub, mlb, off, sb, gd', f1, f2, f3, f4, tg'⟩ hc F N
    obtain ⟨a', lo, k, kt, nt', gt, name, tag, vo, no, os, rfl, ma, mo, so, hos, los, hn, ht, k0, k1⟩ := tg' v (.head _)
    have hr := fun v h => tg' v (.tail _ h)
    have ma' := hsub _ ma
    have mo' := hsub _ mo
    have m1' := hsub _ (by walk_at "my_mem" : (st, tupOf #[.ref b0, .str last0 lt0]) ∈ _)
    have m2' := hsub _ (by walk_at "my_mem" : (b0, listOf v0.toArray n0) ∈ _)
    rw [← kst_self (m := m') (ps := [(S "opening", .str o ot), (S "base", .ref lb), (S "here", .str here' th'), (S "start", .ref st)]) (by simp [f1, f2, f3, f4])] at F
    k_steps
    refine Mine.waited ?_
    refine turn w mean mg mb _ _ A₀ base g L _ _ _ _ _ o here' name tag last0 ot th' _ _ _ lt0 k lb lo st b0 vb vo v0 nb no n0 bs os bs0 B (by with_reducible assumption) X (by with_reducible assumption) T
      (by with_unfolding_all rfl) (by with_unfolding_all rfl) (by with_unfolding_all rfl) (by with_unfolding_all rfl) (by with_unfolding_all rfl) (by with_unfolding_all rfl) (by with_unfolding_all rfl) (by with_unfolding_all rfl)
      (by walk_at "my_mem") (by walk_at "my_mem") (by walk_at "my_mem") (by walk_at "my_mem") sb so s1 gd' hos los hb0 lb0 hl0 hn ht k0 k1 (by passes_own) ?_
    intro h9 tk9 m9 lf vf nf fs there tt F9 N9 S9 G9 b1 b2 b3 b4
    refine endW_at F9 N9 ((lf, listOf vf.toArray nf) :: nx) (by walk_at "my_mem") (fun p hp => ?_) (fun p hp => ?_)
      ⟨List.mem_cons_of_mem _ (hsub _ List.mem_cons_self), lf, vf, nf, fs, there, tt, fun p hp => List.mem_cons_of_mem _ (hsub p hp), List.mem_cons_self, fun p hp => ?_, S9, G9, b3, b1, b2, b4, hr⟩
    · rcases List.mem_cons.mp hp with rfl | hp
      · exact List.mem_cons_self
      · exact List.mem_cons_of_mem _ (List.mem_cons_of_mem _ hp)
    · rcases List.mem_cons.mp hp with rfl | hp
      · exact .inr (fun e => by injection (show Value.type _ = _ from e.trans hc) with h; exact absurd h (by decide +kernel))
      · rw [hc]
        exact off p hp
    · rcases List.mem_cons.mp hp with rfl | hp
      · exact .inr (fun e => by injection (show Value.type _ = _ from e) with h; exact absurd h (by decide +kernel))
      · exact off p hp
end Mine
end
section
open PySem PySem.W PyProof.Rows PySem.Spec PySem.Calls
set_option Elab.async false
set_option maxRecDepth 100000
set_option maxHeartbeats 2000000
namespace Mine
section
variable {prog : Program} {w : World} {A : Around} {E : Value → Shared → Prop} {s : Shared} {h₀ : Heap} {L : Addr} {news : List (Addr × Obj)} {l : Addr} {vs : List Value} {n : Nat} {menu : List Str}
theorem pick_menu {value slice : PySem.Expr} {k : Int} {u : Tok} {Q : Value → Shared → Prop} (N : News h₀ L s.heap news) (hm : (l, listOf vs.toArray n) ∈ news) (hi : StrsAre vs menu) (h0 : 0 ≤ k) (h1 : k < menu.length) (hsm : menu.length ≤ 100)
    (h : ∀ y t, y ∈ menu → Q (.str y t) s)
    (hs : subscripted slice false (.ref l) (.int k u) = operate [.ref l, .int k u] (getItem (.ref l) (.int k u))) :
    wpAny (model prog w) A (subscriptTail value slice (.ref l) (.int k u)) Q E s := by
  refine item_strsN N hm hi h0 h1 (by omega) (fun t => h _ t ?_) hs
  have h2 : k.toNat < menu.length := by omega
  rw [List.getD_eq_getElem?_getD, List.getElem?_eq_getElem h2]
  exact List.getElem_mem h2
theorem pick_sub {xs : List Str} {lo hi : Option Int} {x : Str} (h : x ∈ pickS xs lo hi) : x ∈ xs := List.mem_of_mem_drop (List.mem_of_mem_take h)
end
theorem menu_36 : ∀ (w : World) (mean : ExcName → Option Value) (mg mb : Str → Option Value) (cn : Str) (cs : Scope) (a : Addr) (ccd : Value) (A₀ : Around) (base h₀ : Heap) (L : Addr) (m : Str → Option Value) (news : List (Addr × Obj)) (s : Shared) (Q E : Value → Shared → Prop)
   (_ : Below A₀ base [] h₀) (_ : Fr h₀ L s.heap m) (_ : (Mine.hd.heap_39 w.params).In h₀) (_ : News h₀ L s.heap news) (_ : Top Mine.hd.view_39 (looseW Mine.hd.view_39 [Str.ofString "splitFragP"]) mean mg mb h₀) (_ : cs.kind = .function)
   (_ : ∀ D vs n h' tk', Fr h₀ L h' m → News h₀ L h' ((D, listOf (List.toArray vs) n) :: news) → StrsAre vs openings → Q (.ref D) { s with heap := h', toks := tk' }),
   wpAny (model PySem.Challenge.rw_fc0189_01.row.prog w) (callerA.deeper (envOf cn cs L a ccd)) (call (.ref 36) []) Q E s := by
  k_fill
  intro w mean mg mb cn cs a ccd A₀ base h₀ L m news s Q E B F X N T hk hret
  refine wpAny_call ?_
  k_dflt cell_enter
  k_steps
  refine hret _ [_, _, _, _, _] _ _ _ (by with_reducible assumption) (by assumption) ?_
  unfold openings
  repeat constructor
theorem menu_43 : ∀ (w : World) (mean : ExcName → Option Value) (mg mb : Str → Option Value) (cn : Str) (cs : Scope) (a : Addr) (ccd : Value) (A₀ : Around) (base h₀ : Heap) (L : Addr) (m : Str → Option Value) (news : List (Addr × Obj)) (s : Shared) (Q E : Value → Shared → Prop)
   (_ : Below A₀ base [] h₀) (_ : Fr h₀ L s.heap m) (_ : (Mine.hd.heap_39 w.params).In h₀) (_ : News h₀ L s.heap news) (_ : Top Mine.hd.view_39 (looseW Mine.hd.view_39 [Str.ofString "splitFragP"]) mean mg mb h₀) (_ : cs.kind = .function)
   (_ : ∀ D vs n h' tk', Fr h₀ L h' m → News h₀ L h' ((D, listOf (List.toArray vs) n) :: news) → StrsAre vs names → Q (.ref D) { s with heap := h', toks := tk' }),
   wpAny (model PySem.Challenge.rw_fc0189_01.row.prog w) (callerA.deeper (envOf cn cs L a ccd)) (call (.ref 43) []) Q E s := by
  k_fill
  intro w mean mg mb cn cs a ccd A₀ base h₀ L m news s Q E B F X N T hk hret
  refine wpAny_call ?_
  k_dflt cell_enter
  k_steps
  refine hret _ [_, _, _, _, _, _, _, _] _ _ _ (by with_reducible assumption) (by assumption) ?_
  unfold names
  repeat constructor
theorem menu_50 : ∀ (w : World) (mean : ExcName → Option Value) (mg mb : Str → Option Value) (cn : Str) (cs : Scope) (a : Addr) (ccd : Value) (A₀ : Around) (base h₀ : Heap) (L : Addr) (m : Str → Option Value) (news : List (Addr × Obj)) (s : Shared) (Q E : Value → Shared → Prop)
   (_ : Below A₀ base [] h₀) (_ : Fr h₀ L s.heap m) (_ : (Mine.hd.heap_39 w.params).In h₀) (_ : News h₀ L s.heap news) (_ : Top Mine.hd.view_39 (looseW Mine.hd.view_39 [Str.ofString "splitFragP"]) mean mg mb h₀) (_ : cs.kind = .function)
   (_ : ∀ D vs n h' tk', Fr h₀ L h' m → News h₀ L h' ((D, listOf (List.toArray vs) n) :: news) → StrsAre vs lasts → Q (.ref D) { s with heap := h', toks := tk' }),
   wpAny (model PySem.Challenge.rw_fc0189_01.row.prog w) (callerA.deeper (envOf cn cs L a ccd)) (call (.ref 50) []) Q E s := by
  k_fill
  intro w mean mg mb cn cs a ccd A₀ base h₀ L m news s Q E B F X N T hk hret
  refine wpAny_call ?_
  k_dflt cell_enter
  k_steps
  refine hret _ [_, _, _, _, _, _] _ _ _ (by with_reducible assumption) (by assumption) ?_
  unfold lasts
  repeat constructor
theorem menu_57 : ∀ (w : World) (mean : ExcName → Option Value) (mg mb : Str → Option Value) (cn : Str) (cs : Scope) (a : Addr) (ccd : Value) (A₀ : Around) (base h₀ : Heap) (L : Addr) (m : Str → Option Value) (news : List (Addr × Obj)) (s : Shared) (Q E : Value → Shared → Prop)
   (_ : Below A₀ base [] h₀) (_ : Fr h₀ L s.heap m) (_ : (Mine.hd.heap_39 w.params).In h₀) (_ : News h₀ L s.heap news) (_ : Top Mine.hd.view_39 (looseW Mine.hd.view_39 [Str.ofString "splitFragP"]) mean mg mb h₀) (_ : cs.kind = .function)
   (_ : ∀ D vs n h' tk', Fr h₀ L h' m → News h₀ L h' ((D, listOf (List.toArray vs) n) :: news) → StrsAre vs tags → Q (.ref D) { s with heap := h', toks := tk' }),
   wpAny (model PySem.Challenge.rw_fc0189_01.row.prog w) (callerA.deeper (envOf cn cs L a ccd)) (call (.ref 57) []) Q E s := by
  k_fill
  intro w mean mg mb cn cs a ccd A₀ base h₀ L m news s Q E B F X N T hk hret
  refine wpAny_call ?_
  k_dflt cell_enter
  k_steps
  refine hret _ [_, _, _, _, _] _ _ _ (by with_reducible assumption) (by assumption) ?_
  unfold tags
  repeat constructor
end Mine
end
section
open PySem PySem.W PyProof.Rows PySem.Spec PySem.Calls
set_option Elab.async false
set_option maxRecDepth 100000
set_option maxHeartbeats 1000000
namespace Mine
def AllInt (vs : List Value) : Prop := ∀ v ∈ vs, ∃ n t, v = .int n t
theorem allInt_of : ∀ {vs : List Value} {ns : List Int}, IntsAre vs ns → AllInt vs
  | _, _, .nil => fun _ h => nomatch h
  | _, _, .cons n t r => fun v h => by
    rcases List.mem_cons.mp h with rfl | h
    · exact ⟨n, t, rfl⟩
    · exact allInt_of r v h
section
variable {prog : Program} {w : World} {A : Around} {E : Value → Shared → Prop} {s : Shared} {h₀ : Heap} {L : Addr} {m : Str → Option Value} {news : List (Addr × Obj)} {l : Addr} {vs : List Value} {n : Nat}
theorem slice_ints {value slice : PySem.Expr} {vl vu : Value} {Q : Value → Shared → Prop} (F : Fr h₀ L s.heap m) (N : News h₀ L s.heap news) (hl : h₀.IsList l vs.toArray) (hi : AllInt vs) (pl : IsPart vl (some 1)) (pu : IsPart vu (some 3)) (hsz : vs.length ≤ 10000)
    (h : ∀ D us h', Fr h₀ L h' m → News h₀ L h' ((D, listOf (List.toArray us) 0) :: news) → (∀ p ∈ news, p.1 < D) → AllInt us → us.length ≤ 2 → Q (.ref D) { s with heap := h' })
    (hs : subscripted slice false (.ref l) (.ref s.heap.objs.size) = operate [.ref s.heap.objs.size, .ref l] (getItem (.ref l) (.ref s.heap.objs.size))) (ht : ∀ r, letTemporaryGo value (.ref l) r = pure ()) :
    wpAny (model prog w) A (subscriptTail value slice (.ref l) (.ref s.heap.objs.size)) Q E { s with heap := s.heap.push { cls := .type "slice", data := .fields #[vl, vu, .none] } } := by
  refine kms_slice_lit F N (hl.at fun o e => F.keep _ _ e) pl pu rfl (fun D h' F' N' l1 => h D _ h' F' N' l1 ?_ ?_) hs ht (by rw [List.size_toArray, sizeLine_eq]; omega)
  · intro v hv
    rw [List.toList_toArray] at hv
    exact hi v (List.mem_of_mem_drop (List.mem_of_mem_take hv))
  · rw [List.toList_toArray]
    unfold kms_pick kms_lo kms_hi
    rw [List.length_take, List.length_drop]
    simp only [show ¬ (1 : Int) < 0 by decide, show ¬ (3 : Int) < 0 by decide, if_false, show (1 : Int).toNat = 1 from rfl, show (3 : Int).toNat = 3 from rfl]
    omega
theorem slice_two {y1 y2 : Str} {value slice : PySem.Expr} {vl vu : Value} {lo hi : Option Int} {Q : Value → Shared → Prop} (F : Fr h₀ L s.heap m) (N : News h₀ L s.heap news) (hm : (l, listOf vs.toArray n) ∈ news) (hi' : StrsAre vs [y1, y2]) (i1 : y1 ∈ names) (i2 : y2 ∈ names) (pl : IsPart vl lo) (pu : IsPart vu hi)
    (h : ∀ D us c h' xs, Fr h₀ L h' m → News h₀ L h' ((D, listOf (List.toArray us) c) :: news) → (∀ p ∈ news, p.1 < D) → StrsAre us xs → (∀ x ∈ xs, x ∈ names) → (∀ x ∈ xs, x.length ≤ 10) → xs.length ≤ 2 → Q (.ref D) { s with heap := h' })
    (hs : subscripted slice false (.ref l) (.ref s.heap.objs.size) = operate [.ref s.heap.objs.size, .ref l] (getItem (.ref l) (.ref s.heap.objs.size))) (ht : ∀ r, letTemporaryGo value (.ref l) r = pure ()) :
    wpAny (model prog w) A (subscriptTail value slice (.ref l) (.ref s.heap.objs.size)) Q E { s with heap := s.heap.push { cls := .type "slice", data := .fields #[vl, vu, .none] } } := by
  have hn : ∀ x ∈ pickS [y1, y2] lo hi, x ∈ names := fun x hx => by
    have := pick_sub hx
    simp only [List.mem_cons, List.not_mem_nil, or_false] at this
    rcases this with rfl | rfl
    · exact i1
    · exact i2
  exact slice_strsN F N hm hi' pl pu (by decide +kernel : 2 ≤ 10000) (fun D us c h' F' N' l1 S' => h D us c h' _ F' N' l1 S' hn (names_len hn) pick_le) hs ht
theorem append_ref {D : Addr} {x : Value} {keep : List (Addr × Obj)} {Q : Value → Shared → Prop} (F : Fr h₀ L s.heap m) (N : News h₀ L s.heap news) (hD : (D, listOf vs.toArray n) ∈ news) (hk : ∀ p ∈ keep, p ∈ news) (ne : ∀ p ∈ keep, p.1 ≠ D) (hz : vs.length ≤ 10000)
    (h : ∀ h', Fr h₀ L h' m → News h₀ L h' ((D, listOf (vs ++ [x]).toArray (n + 1)) :: keep) → Q .none { s with heap := h' }) :
    wpAny (model prog w) A (call (.builtin "list.append") [.ref D, x]) Q E s := by
  have z := N _ hD
  refine append_at z.1 (fun h' hs hD' => h h' (F.change hs z.2.1 z.2.2) (fun p hp => ?_)) (by rw [List.size_toArray, sizeLine_eq]; omega)
  rcases List.mem_cons.mp hp with rfl | hp
  · refine ⟨?_, z.2⟩
    rw [List.push_toArray] at hD'
    exact hD'
  · exact ⟨hs.extBut _ _ (ne p hp) (N p (hk p hp)).1, (N p (hk p hp)).2⟩
theorem menu_bound {y : Str} : (y ∈ openings → y.length ≤ 20) ∧ (y ∈ names → y.length ≤ 20) ∧ (y ∈ lasts → y.length ≤ 20) ∧ (y ∈ tags → y.length ≤ 20) :=
  ⟨fun h => (openings_len h).2, fun h => Nat.le_trans (names_len (bs := [y]) (by simpa using h) y (by simp)) (by decide), fun h => Nat.le_trans (lasts_len h) (by decide), fun h => Nat.le_trans (tags_len h) (by decide)⟩
end
end Mine
end
section
open PySem PySem.W PyProof.Rows PySem.Spec PySem.Calls
set_option Elab.async false
set_option maxRecDepth 100000
set_option maxHeartbeats 1000000
local macro_rules | `(tactic| walk_at "my_pad13") => `(tactic| skip)
local macro_rules | `(tactic| walk_at "my_pad14") => `(tactic| skip)
local macro_rules | `(tactic| walk_at "my_mem") => `(tactic| first | with_reducible assumption | with_reducible exact List.mem_cons_self | (with_reducible refine List.mem_cons_of_mem _ ?_; walk_at "my_mem"))
local macro_rules | `(tactic| walk_at "exec For Tuple BinOp cons nil") => `(tactic| (refine Mine.wait ?_))
local macro_rules | `(tactic| walk_at "subscriptTail Name Slice ref ref") => `(tactic| first
  | (
    (with_reducible show wpAny _ _ (subscriptTail _ (PySem.Expr.Slice _ _ none _) (Value.ref _) (Value.ref _)) _ _ _)
    k_dflt (
      (refine' Mine.slice_ints ?F ?N ?l ?i ?p ?q ?z ?_ ?s ?t)
      (case F => k_asm)
      (case N => k_asm)
      (case l => with_reducible assumption)
      (case i => with_reducible assumption)
      (case p => kmk_part)
      (case q => kmk_part)
      (case z => omega)
      (case s => with_unfolding_all rfl)
      (case t => kmk_pure))
    intro D' us' h' F' N' l1 hS' hl'
    (try k_lt l1)
    (try dsimp only))
  | (
    (with_reducible show wpAny _ _ (subscriptTail _ (PySem.Expr.Slice _ _ none _) (Value.ref _) (Value.ref _)) _ _ _)
    k_dflt (
      (refine' Mine.slice_two ?F ?N ?l ?i ?a ?b ?p ?q ?_ ?s ?t)
      (case F => k_asm)
      (case N => k_asm)
      (case l => with_reducible exact List.mem_cons_self)
      (case i => (repeat constructor); done)
      (case a => with_reducible assumption)
      (case b => with_reducible assumption)
      (case p => kmk_part)
      (case q => kmk_part)
      (case s => with_unfolding_all rfl)
      (case t => kmk_pure))
    intro D' us' c' h' xs' F' N' l1 hS' hx1' hx2' hx3'
    (try k_lt l1)
    (try dsimp only)))
local macro_rules | `(tactic| walk_at "subscriptTail") => `(tactic| (
  (with_reducible show wpAny _ _ (subscriptTail _ _ (Value.ref _) (Value.int _ _)) _ _ _)
  k_dflt (
    (refine' Mine.pick_menu ?N ?m ?S ?i ?j ?z ?_ ?s)
    (case N => k_asm)
    (case m => with_reducible exact List.mem_cons_self)
    (case S => with_reducible assumption)
    (case i => walk_at "my_idx")
    (case j => walk_at "my_idx")
    (case z => decide)
    (case s => with_unfolding_all rfl))
  intro y' t' hy'
  (try dsimp only)))
local macro_rules | `(tactic| walk_at "my_idx") => `(tactic| first
  | exact Int.fmod_nonneg_of_pos _ (by decide)
  | exact Int.fmod_lt_of_pos _ (by decide))
local macro_rules | `(tactic| walk_at "call ref") => `(tactic| first
  | (
    (with_reducible show wpAny _ _ (call (Value.ref 36) ([] ++ [])) _ _ _)
    k_dflt (
      (refine' Mine.menu_36 _ _ _ _ _ _ _ _ _ _ _ _ _ _ _ _ _ ?k1 ?k2 ?k3 ?k4 ?k5 ?k6 ?_)
      (case k1 => k_asm)
      (case k2 => k_asm)
      (case k3 => k_asm)
      (case k4 => k_asm)
      (case k5 => k_asm)
      (case k6 => exact rfl)
      k_whole)
    intro D' vs' n' h' tk' F' N' S'
    (try dsimp only))
  | (
    (with_reducible show wpAny _ _ (call (Value.ref 43) ([] ++ [])) _ _ _)
    k_dflt (
      (refine' Mine.menu_43 _ _ _ _ _ _ _ _ _ _ _ _ _ _ _ _ _ ?k1 ?k2 ?k3 ?k4 ?k5 ?k6 ?_)
      (case k1 => k_asm)
      (case k2 => k_asm)
      (case k3 => k_asm)
      (case k4 => k_asm)
      (case k5 => k_asm)
      (case k6 => exact rfl)
      k_whole)
    intro D' vs' n' h' tk' F' N' S'
    (try dsimp only))
  | (
    (with_reducible show wpAny _ _ (call (Value.ref 50) ([] ++ [])) _ _ _)
    k_dflt (
      (refine' Mine.menu_50 _ _ _ _ _ _ _ _ _ _ _ _ _ _ _ _ _ ?k1 ?k2 ?k3 ?k4 ?k5 ?k6 ?_)
      (case k1 => k_asm)
      (case k2 => k_asm)
      (case k3 => k_asm)
      (case k4 => k_asm)
      (case k5 => k_asm)
      (case k6 => exact rfl)
      k_whole)
    intro D' vs' n' h' tk' F' N' S'
    (try dsimp only))
  | (
    (with_reducible show wpAny _ _ (call (Value.ref 57) ([] ++ [])) _ _ _)
    k_dflt (
      (refine' Mine.menu_57 _ _ _ _ _ _ _ _ _ _ _ _ _ _ _ _ _ ?k1 ?k2 ?k3 ?k4 ?k5 ?k6 ?_)
      (case k1 => k_asm)
      (case k2 => k_asm)
      (case k3 => k_asm)
      (case k4 => k_asm)
      (case k5 => k_asm)
      (case k6 => exact rfl)
      k_whole)
    intro D' vs' n' h' tk' F' N' S'
    (try dsimp only)))
local macro_rules | `(tactic| walk_at "pyIter ref") => `(tactic| (refine Mine.wait ?_))
local macro_rules | `(tactic| walk_at "exec For") => `(tactic| (
  (with_reducible show wpAny _ _ (exec (PySem.Stmt.For (PySem.Expr.Name _ _) (PySem.Expr.Subscript _ _ _) _ _ _) _) _ _ _)
  (rename Fr _ _ _ _ => lF')
  (with_unfolding_all refine' For_invVF lF' ?k1 ?k2 ?_)
  (case k1 => exact rfl)
  (case k2 => exact rfl)
  k_whole))
local macro_rules | `(tactic| walk_at "getMethod ref") => `(tactic| (
  (with_reducible show wpAny _ _ (getMethod (Value.ref _) (Str.ofString "append") _) _ _ _)
  (refine getMethod_append_N (by k_asm) (by walk_at "my_mem") ?_)))
local macro_rules | `(tactic| walk_at "UnrEnd") => `(tactic| (refine Mine.wait ?_))
local macro_rules | `(tactic| walk_at "call builtin:list.append") => `(tactic| (refine Mine.wait ?_))
local macro_rules | `(tactic| walk_at "storeName") => `(tactic| ((with_reducible show wpAny _ _ (storeName (envOf _ (Scope.mk _ [_, _, _, _, _, _, _, _, _, _, _, _, _, _, _, _, _, _, _, _, _, _, _] _ _ _) _ _ _) _ (Value.ref _)) (fun _ _ => wpAny _ _ (execs [PySem.Stmt.Expr _ _] _) _ _ _) _ _); refine Mine.wait ?_))
namespace Mine
def FirstJ (o here : Str) (ot th : Tok) (b0 st lt D I : Addr) (us : List Value) (nw : List (Addr × Obj)) (r : List Value) (m : Str → Option Value) (nx : List (Addr × Obj)) : Prop :=
  ∃ (vt : List Value) (nt : Nat) (nk : List (Addr × Obj)), (lt, listOf vt.toArray nt) ∈ nx ∧ (∀ p ∈ nk, p ∈ nx) ∧ (∀ p ∈ nk, p.1 ≠ lt) ∧ (∀ p ∈ nk, p.1 ≠ I ∨ p.2.cls ≠ .type "list_iterator") ∧ (∀ p ∈ nw, p ∈ nk) ∧
    (D, listOf us.toArray 0) ∈ nk ∧ (∀ v ∈ vt, Target nk v) ∧ vt.length + r.length ≤ 2 ∧ AllInt r ∧
    m (S "opening") = some (.str o ot) ∧ m (S "base") = some (.ref b0) ∧ m (S "here") = some (.str here th) ∧ m (S "start") = some (.ref st) ∧ m (S "targets") = some (.ref lt)
theorem law_tail : ∀ (w : World) (mean : ExcName → Option Value) (mg mb : Str → Option Value) (a : Addr) (cd : Value) (A₀ : Around) (base g : Heap) (L : Addr) (m : Str → Option Value) (nw : List (Addr × Obj)) (s : Shared) (Q : Flow → Shared → Prop) (E : Value → Shared → Prop)
    (o here last0 : Str) (ot th lt0 : Tok) (b0 st sc : Addr) (v0 vs : List Value) (n0 : Nat) (bs0 : List Str)
   (_ : Below A₀ base [] g) (_ : Fr g L s.heap m) (_ : (Mine.hd.heap_39 w.params).In g) (_ : News g L s.heap nw) (_ : Top Mine.hd.view_39 (looseW Mine.hd.view_39 [Str.ofString "splitFragP"]) mean mg mb g)
   (_ : m (S "opening") = some (.str o ot)) (_ : m (S "base") = some (.ref b0)) (_ : m (S "here") = some (.str here th)) (_ : m (S "start") = some (.ref st)) (_ : m (S "script") = some (.ref sc))
   (_ : (st, tupOf #[.ref b0, .str last0 lt0]) ∈ nw) (_ : (b0, listOf v0.toArray n0) ∈ nw) (_ : StrsAre v0 bs0)
   (_ : g.IsList sc vs.toArray) (_ : AllInt vs) (_ : vs.length ≤ 63)
   (_ : Good o bs0 here) (_ : ∀ x ∈ bs0, x ∈ names) (_ : bs0.length ≤ 2) (_ : last0 ∈ lasts)
   (_ : PassesOwn (model PySem.Challenge.rw_fc0189_01.row.prog w) (callerA.deeper (envOf "law" (lawScope w.params) L a cd)) (envOf "law" (lawScope w.params) L a cd) E)
   (_ : ∀ h' tk' m' nx, Fr g L h' m' → News g L h' nx → Q (.ret (.bool true)) { s with heap := h', toks := tk' }),
   wpAny (model PySem.Challenge.rw_fc0189_01.row.prog w) (callerA.deeper (envOf "law" (lawScope w.params) L a cd)) (execs ((lawBody w.params).drop 7) (envOf "law" (lawScope w.params) L a cd)) Q E s := by
  k_fill
  intro w mean mg mb a cd A₀ base g L m nw s Q E o here last0 ot th lt0 b0 st sc v0 vs n0 bs0 B F X N T e1 e2 e3 e4 e5 m1 m2 s1 hL hI lv gd hb0 lb0 hl0 hE hret
  show wpAny _ (Around.deeper _ (envOf _ (Scope.mk _ _ _ _ _) _ _ _)) (execs (_ :: _) (envOf _ (Scope.mk _ _ _ _ _) _ _ _)) _ _ _
  rw [← kst_self (m := m) (ps := [(S "opening", .str o ot), (S "base", .ref b0), (S "here", .str here th), (S "start", .ref st), (S "script", .ref sc)]) (by simp [e1, e2, e3, e4, e5])] at F
  k_steps
  refine Mine.waited ?_
  rename_i lt h2 lq1 h1 lF1 N1 D us h3 F3 N3 hS hl lq
  refine iter_listUnr rfl F3 N3 List.mem_cons_self rfl rfl ?_
  intro I hI9
  refine list_rest_inv (FirstJ o here ot th b0 st lt D I us nw) ?turn ?done _ _ _
    ⟨[], 0, (D, listOf us.toArray 0) :: nw, by walk_at "my_mem", List.forall_mem_cons.mpr ⟨List.mem_cons_self, fun p hp => by walk_at "my_mem"⟩, List.forall_mem_cons.mpr ⟨Nat.ne_of_gt lq.1, fun p hp => Nat.ne_of_lt (lq1 p hp)⟩, fun p hp => .inl (Nat.ne_of_lt (hI9 p (by
      rcases List.mem_cons.mp hp with rfl | hp
      · exact List.mem_cons_self
      · walk_at "my_mem"))), fun p hp => List.mem_cons_of_mem _ hp, List.mem_cons_self, (fun v hv => nomatch hv), (by simp only [List.length_nil]; omega), hS, by with_unfolding_all rfl, by with_unfolding_all rfl, by with_unfolding_all rfl, by with_unfolding_all rfl, by with_unfolding_all rfl⟩
  case done =>
    rintro m' nx h' tk' ⟨vt, nt, nk, q1, q2, q3, q4, q5, q6, q7, q8, q9, f1, f2, f3, f4, f5⟩ F N
    rw [← kst_self (m := m') (ps := [(S "opening", .str o ot), (S "base", .ref b0), (S "here", .str here th), (S "start", .ref st), (S "targets", .ref lt)]) (by simp [f1, f2, f3, f4, f5])] at F
    dsimp only
    k_steps
    refine Mine.waited ?_
    refine targets_loop w mean mg mb _ _ A₀ base g L _ _ _ _ _ o here last0 ot th lt0 b0 st lt v0 vt n0 nt bs0 B (by assumption) X (by assumption) T
      (by with_unfolding_all rfl) (by with_unfolding_all rfl) (by with_unfolding_all rfl) (by with_unfolding_all rfl) (by with_unfolding_all rfl)
      (q2 _ (q5 _ m1)) (q2 _ (q5 _ m2)) q1 s1 (by simp only [List.length_nil] at q8; omega) (fun v hv => (q7 v hv).mono q2) gd hb0 lb0 hl0 (by passes_own) ?_
    intro h9 tk9 m9 nx9 F9 N9
    dsimp only
    k_steps
    exact hret _ _ _ _ (by assumption) (by assumption)
  case turn =>
    rintro v r m' nx it h' tk' ⟨vt, nt, nk, q1, q2, q3, q4, q5, q6, q7, q8, q9, f1, f2, f3, f4, f5⟩ hc F N
    obtain ⟨n, t, rfl⟩ := q9 v (.head _)
    have hr : AllInt r := fun v h => q9 v (.tail _ h)
    rw [← kst_self (m := m') (ps := [(S "opening", .str o ot), (S "base", .ref b0), (S "here", .str here th), (S "start", .ref st), (S "targets", .ref lt)]) (by simp [f1, f2, f3, f4, f5])] at F
    k_steps
    rename_i O us9 c9 h9 os F9 N9 hS9 hx1 hx2 hx3 l9
    refine Mine.waited ?_
    refine' stN F9 N9 ?_ ?za ?zb
    case za => kernel_rfl!
    case zb => kernel_rfl!
    intro h8 F8 N8
    k_steps
    rename_i yl tl hyl D1 vsg ng h1 tkg Sg yg tg hyg T h7 F7 N7 l7
    refine Mine.waited ?_
    have neT : T ≠ lt := Nat.ne_of_gt (ktn_ltOf l7.2.2.2.2.2.2.2 _ q1)
    have neO : O ≠ lt := Nat.ne_of_gt (ktn_ltOf l9.2.2.2.2 _ q1)
    have neI : I ≠ lt := Nat.ne_of_gt (hI9 _ (List.mem_cons_of_mem _ List.mem_cons_self))
    refine append_ref (D := lt) (vs := vt) (n := nt) (keep := (I, it) :: (T, tupOf #[_, Value.ref O, Value.str yl tl, Value.str yg tg]) :: (O, listOf us9.toArray c9) :: nk) F7 N7 (by walk_at "my_mem")
      (List.forall_mem_cons.mpr ⟨by walk_at "my_mem", List.forall_mem_cons.mpr ⟨List.mem_cons_self, List.forall_mem_cons.mpr ⟨by walk_at "my_mem", fun p hp => by (have hp' := q2 p hp); walk_at "my_mem"⟩⟩⟩)
      (List.forall_mem_cons.mpr ⟨neI, List.forall_mem_cons.mpr ⟨neT, List.forall_mem_cons.mpr ⟨neO, q3⟩⟩⟩) (by omega) ?_
    intro h6 F6 N6
    k_steps
    refine Mine.waited ?_
    have off1 : ∀ (x : Array Value) (z : Nat), (listOf x z).cls ≠ .type "list_iterator" := fun x z e => by injection (show Value.type _ = _ from e) with h; exact absurd h (by decide +kernel)
    have off2 : ∀ (x : Array Value), (tupOf x).cls ≠ .type "list_iterator" := fun x e => by injection (show Value.type _ = _ from e) with h; exact absurd h (by decide +kernel)
    refine end_at (by assumption) (by assumption) ((lt, listOf (vt ++ [Value.ref T]).toArray (nt + 1)) :: (T, tupOf #[_, Value.ref O, Value.str yl tl, Value.str yg tg]) :: (O, listOf us9.toArray c9) :: nk) (by walk_at "my_mem")
      (List.forall_mem_cons.mpr ⟨List.mem_cons_self, fun p hp => List.mem_cons_of_mem _ (List.mem_cons_of_mem _ hp)⟩)
      (List.forall_mem_cons.mpr ⟨.inr (fun e => off1 _ _ (e.trans hc)), List.forall_mem_cons.mpr ⟨.inr (fun e => off2 _ (e.trans hc)), List.forall_mem_cons.mpr ⟨.inr (fun e => off1 _ _ (e.trans hc)), fun p hp => (q4 p hp).imp id fun h e => h (e.trans hc)⟩⟩⟩)
      ⟨List.mem_cons_of_mem _ (List.mem_cons_of_mem _ (List.mem_cons_of_mem _ q6)), vt ++ [Value.ref T], nt + 1, (T, tupOf #[_, Value.ref O, Value.str yl tl, Value.str yg tg]) :: (O, listOf us9.toArray c9) :: nk, List.mem_cons_self, fun p hp => List.mem_cons_of_mem _ hp,
        List.forall_mem_cons.mpr ⟨neT, List.forall_mem_cons.mpr ⟨neO, q3⟩⟩, List.forall_mem_cons.mpr ⟨.inr (off2 _), List.forall_mem_cons.mpr ⟨.inr (off1 _ _), q4⟩⟩,
        fun p hp => List.mem_cons_of_mem _ (List.mem_cons_of_mem _ (q5 p hp)), List.mem_cons_of_mem _ (List.mem_cons_of_mem _ q6), fun v hv => ?_, (by rw [List.length_append]; simp only [List.length_cons, List.length_nil] at q8 ⊢; omega), hr,
        by with_unfolding_all rfl, by with_unfolding_all rfl, by with_unfolding_all rfl, by with_unfolding_all rfl, by with_unfolding_all rfl⟩
    rcases List.mem_append.mp hv with hv | hv
    · exact (q7 v hv).mono fun p hp => List.mem_cons_of_mem _ (List.mem_cons_of_mem _ hp)
    · rw [List.mem_singleton.mp hv]
      exact ⟨_, _, _, _, _, _, _, _, us9, c9, os, rfl, List.mem_cons_self, List.mem_cons_of_mem _ List.mem_cons_self, hS9, hx1, hx3, hyl, hyg, Int.le_trans (by decide) (Int.fmod_nonneg_of_pos _ (by decide : (0 : Int) < 3)), Int.le_of_lt_add_one (Int.fmod_lt_of_pos _ (by decide : (0 : Int) < 3))⟩
end Mine
end
section
open PySem PySem.W PyProof.Rows PySem.Spec PySem.Calls
set_option Elab.async false
set_option maxRecDepth 100000
set_option maxHeartbeats 4000000
namespace Mine
theorem if_here : ∀ (w : World) (mean : ExcName → Option Value) (mg mb : Str → Option Value) (a : Addr) (cd : Value) (A₀ : Around) (base g : Heap) (L : Addr) (m : Str → Option Value) (nw : List (Addr × Obj)) (s : Shared) (Q : Flow → Shared → Prop) (E : Value → Shared → Prop)
    (o here : Str) (ot th ft : Tok) (f : Int)
   (_ : Below A₀ base [] g) (_ : Fr g L s.heap m) (_ : (Mine.hd.heap_39 w.params).In g) (_ : News g L s.heap nw) (_ : Top Mine.hd.view_39 (looseW Mine.hd.view_39 [Str.ofString "splitFragP"]) mean mg mb g)
   (_ : m (S "opening") = some (.str o ot)) (_ : m (S "here") = some (.str here th)) (_ : m (S "first") = some (.int f ft)) (_ : o.length ≤ 20)
   (_ : PassesOwn (model PySem.Challenge.rw_fc0189_01.row.prog w) (callerA.deeper (envOf "law" (lawScope w.params) L a cd)) (envOf "law" (lawScope w.params) L a cd) E)
   (_ : ∀ h' tk' m' here' th', (here' = here ∨ (here' = o ∧ (here == o ++ S "/") = true ∧ (o != S "s:") = true)) → m' (S "here") = some (.str here' th') → (∀ z, z ≠ S "here" → m' z = m z) → Fr g L h' m' → News g L h' nw → Q .next { s with heap := h', toks := tk' }),
   wpAny (model PySem.Challenge.rw_fc0189_01.row.prog w) (callerA.deeper (envOf "law" (lawScope w.params) L a cd)) (exec ((lawBody w.params).getD 6 default) (envOf "law" (lawScope w.params) L a cd)) Q E s := by
  k_fill
  intro w mean mg mb a cd A₀ base g L m nw s Q E o here ot th ft f B F X N T e1 e2 e3 lo hE hret
  show wpAny _ (Around.deeper _ (envOf _ (Scope.mk _ _ _ _ _) _ _ _)) (exec (Stmt.If _ _ _ _) (envOf _ (Scope.mk _ _ _ _ _) _ _ _)) _ _ _
  have em : kstB m [(S "opening", .str o ot), (S "here", .str here th), (S "first", .int f ft)] = m := kst_self (by simp [e1, e2, e3])
  rw [← em] at F
  k_steps
  all_goals (try dsimp only)
  · refine hret _ _ _ o ot (.inr ⟨rfl, by with_reducible assumption, by with_reducible assumption⟩) ?_ ?_ (by with_reducible assumption) (by with_reducible assumption)
    · with_unfolding_all rfl
    · intro z hz
      rw [em, if_neg hz]
  all_goals exact hret _ _ _ here _ (.inl rfl) e2 (fun z _ => rfl) (em ▸ F) N
end Mine
end
section
open PySem PyProof.Rows
namespace Mine
theorem join_one_le {x : Str} {r : List Str} : 1 ≤ (Txt.join (S "") ((x :: r).map (· ++ S "/"))).length := by
  show 1 ≤ (Txt.join (S "") ((x :: r).map (· ++ S "/"))).cps.size
  rw [← Array.length_toList, join_toList, List.length_flatten]
  have e : (S "/").length = 1 := by decide +kernel
  simp only [List.map_cons, List.sum_cons]
  have h : (x ++ S "/").cps.toList.length = x.length + (S "/").length := by
    rw [Array.length_toList]
    exact Str.length_append x (S "/")
  omega
theorem good_here {o here last : Str} {bs : List Str} (ho : o ∈ openings) (hb : ∀ x ∈ bs, x ∈ names) (hl : bs.length ≤ 4) (hn : last ∈ lasts)
    (h : here = o ++ S "/" ++ Txt.join (S "") (bs.map (· ++ S "/")) ++ last ∨ (here = o ∧ (o ++ S "/" ++ Txt.join (S "") (bs.map (· ++ S "/")) ++ last == o ++ S "/") = true ∧ (o != S "s:") = true)) : Good o bs here := by
  rcases h with rfl | ⟨rfl, h1, h2⟩
  · exact good_next ho hb hl hn
  · refine ⟨ho, hb, hl, .inr ⟨?_, rfl, by simpa [bne] using h2⟩⟩
    cases bs with
    | nil => rfl
    | cons x r =>
      exfalso
      have h3 := congrArg Str.length (eq_of_beq h1)
      have h4 := join_one_le (x := x) (r := r)
      simp only [Str.length_append] at h3
      omega
end Mine
end
section
open PySem PySem.W PyProof.Rows PySem.Spec PySem.Calls
set_option Elab.async false
set_option maxRecDepth 100000
set_option maxHeartbeats 4000000
local macro_rules | `(tactic| walk_at "my_mem") => `(tactic| first | with_reducible assumption | with_reducible exact List.mem_cons_self | (with_reducible refine List.mem_cons_of_mem _ ?_; walk_at "my_mem"))
local macro_rules | `(tactic| walk_at "CompSrc") => `(tactic| (
  (refine' Mine.slash_src ?k1 ?k2 ?k3 ?k4 ?k5 ?k6 ?k7 ?k8 ?k9 ?_)
  (case k1 => first | exact rfl | assumption)
  (case k2 => k_asm)
  (case k3 => k_asm)
  (case k4 => walk_at "my_mem")
  (case k5 => with_reducible assumption)
  (case k6 => exact Mine.few (by with_reducible assumption) (by (try simp only [List.length_drop]); omega))
  (case k7 => walk_at "my_short")
  (case k8 => exact rfl)
  (case k9 => exact rfl)
  k_whole
  intro g' ys' hys'
  (try dsimp only)
  (try unfold LCg.FinE)
  intro D' h' tk' F' N' o1
  (try simp only [LCg.Off1] at o1)
  (try dsimp only)))
local macro_rules | `(tactic| walk_at "my_short") => `(tactic| exact Mine.short_all (by with_reducible assumption))
local macro_rules | `(tactic| walk_at "eval ListComp") => `(tactic| (k_dflt (refine LCg.ListComp_U (F₀ := by k_asm) (by with_unfolding_all rfl) (by decide) (by rfl) (by decide) (by rfl) ?_)))
local macro_rules | `(tactic| walk_at "call builtin:str.join") => `(tactic| (
  (with_reducible show wpAny _ _ (call (Value.builtin "str.join") [Value.str _ _, Value.ref _]) _ _ _)
  k_dflt (
    (refine' Mine.join_slash ?k1 ?k2 ?k3 ?k4 ?k5 ?_)
    (case k1 => k_asm)
    (case k2 => walk_at "my_mem")
    (case k3 => with_reducible assumption)
    (case k4 => with_reducible assumption)
    (case k5 => (try simp only [List.length_drop]); omega))
  intro t' k' hj'))
local macro_rules | `(tactic| walk_at "subscriptTail Name Slice ref ref") => `(tactic| first
  | (
    (with_reducible show wpAny _ _ (subscriptTail _ (PySem.Expr.Slice _ _ none _) (Value.ref _) (Value.ref _)) _ _ _)
    k_dflt (
      (refine' Mine.slice_ints ?F ?N ?l ?i ?p ?q ?z ?_ ?s ?t)
      (case F => k_asm)
      (case N => k_asm)
      (case l => with_reducible assumption)
      (case i => with_reducible assumption)
      (case p => kmk_part)
      (case q => kmk_part)
      (case z => omega)
      (case s => with_unfolding_all rfl)
      (case t => kmk_pure))
    intro D' us' h' F' N' l1 hS' hl'
    (try k_lt l1)
    (try dsimp only))
  | (
    (with_reducible show wpAny _ _ (subscriptTail _ (PySem.Expr.Slice _ _ none _) (Value.ref _) (Value.ref _)) _ _ _)
    k_dflt (
      (refine' Mine.slice_two ?F ?N ?l ?i ?a ?b ?p ?q ?_ ?s ?t)
      (case F => k_asm)
      (case N => k_asm)
      (case l => with_reducible exact List.mem_cons_self)
      (case i => (repeat constructor); done)
      (case a => with_reducible assumption)
      (case b => with_reducible assumption)
      (case p => kmk_part)
      (case q => kmk_part)
      (case s => with_unfolding_all rfl)
      (case t => kmk_pure))
    intro D' us' c' h' xs' F' N' l1 hS' hx1' hx2' hx3'
    (try k_lt l1)
    (try dsimp only)))
local macro_rules | `(tactic| walk_at "subscriptTail") => `(tactic| (
  (with_reducible show wpAny _ _ (subscriptTail _ _ (Value.ref _) (Value.int _ _)) _ _ _)
  k_dflt (
    (refine' Mine.pick_menu ?N ?m ?S ?i ?j ?z ?_ ?s)
    (case N => k_asm)
    (case m => with_reducible exact List.mem_cons_self)
    (case S => with_reducible assumption)
    (case i => walk_at "my_idx")
    (case j => walk_at "my_idx")
    (case z => decide)
    (case s => with_unfolding_all rfl))
  intro y' t' hy'
  (have hy9' := hy')
  (first | (replace hy9' := Mine.menu_bound.1 hy9') | (replace hy9' := Mine.menu_bound.2.1 hy9') | (replace hy9' := Mine.menu_bound.2.2.1 hy9') | (replace hy9' := Mine.menu_bound.2.2.2 hy9'))
  (try dsimp only)))
local macro_rules | `(tactic| walk_at "my_idx") => `(tactic| first
  | exact Int.fmod_nonneg_of_pos _ (by decide)
  | exact Int.fmod_lt_of_pos _ (by decide))
local macro_rules | `(tactic| walk_at "call ref") => `(tactic| first
  | (
    (with_reducible show wpAny _ _ (call (Value.ref 36) ([] ++ [])) _ _ _)
    k_dflt (
      (refine' Mine.menu_36 _ _ _ _ _ _ _ _ _ _ _ _ _ _ _ _ _ ?k1 ?k2 ?k3 ?k4 ?k5 ?k6 ?_)
      (case k1 => k_asm)
      (case k2 => k_asm)
      (case k3 => k_asm)
      (case k4 => k_asm)
      (case k5 => k_asm)
      (case k6 => exact rfl)
      k_whole)
    intro D' vs' n' h' tk' F' N' S'
    (try dsimp only))
  | (
    (with_reducible show wpAny _ _ (call (Value.ref 43) ([] ++ [])) _ _ _)
    k_dflt (
      (refine' Mine.menu_43 _ _ _ _ _ _ _ _ _ _ _ _ _ _ _ _ _ ?k1 ?k2 ?k3 ?k4 ?k5 ?k6 ?_)
      (case k1 => k_asm)
      (case k2 => k_asm)
      (case k3 => k_asm)
      (case k4 => k_asm)
      (case k5 => k_asm)
      (case k6 => exact rfl)
      k_whole)
    intro D' vs' n' h' tk' F' N' S'
    (try dsimp only))
  | (
    (with_reducible show wpAny _ _ (call (Value.ref 50) ([] ++ [])) _ _ _)
    k_dflt (
      (refine' Mine.menu_50 _ _ _ _ _ _ _ _ _ _ _ _ _ _ _ _ _ ?k1 ?k2 ?k3 ?k4 ?k5 ?k6 ?_)
      (case k1 => k_asm)
      (case k2 => k_asm)
      (case k3 => k_asm)
      (case k4 => k_asm)
      (case k5 => k_asm)
      (case k6 => exact rfl)
      k_whole)
    intro D' vs' n' h' tk' F' N' S'
    (try dsimp only))
  | (
    (with_reducible show wpAny _ _ (call (Value.ref 57) ([] ++ [])) _ _ _)
    k_dflt (
      (refine' Mine.menu_57 _ _ _ _ _ _ _ _ _ _ _ _ _ _ _ _ _ ?k1 ?k2 ?k3 ?k4 ?k5 ?k6 ?_)
      (case k1 => k_asm)
      (case k2 => k_asm)
      (case k3 => k_asm)
      (case k4 => k_asm)
      (case k5 => k_asm)
      (case k6 => exact rfl)
      k_whole)
    intro D' vs' n' h' tk' F' N' S'
    (try dsimp only)))
local macro_rules | `(tactic| walk_at "exec If") => `(tactic| (refine Mine.wait ?_))
namespace Mine
theorem law_main : ∀ (w : World) (mean : ExcName → Option Value) (mg mb : Str → Option Value) (a : Addr) (cd : Value) (A₀ : Around) (base g : Heap) (L : Addr) (m : Str → Option Value) (s : Shared) (Q : Flow → Shared → Prop) (E : Value → Shared → Prop)
    (f : Int) (ft : Tok) (sc : Addr) (vs : List Value) (ns : List Int)
   (_ : Below A₀ base [] g) (_ : Fr g L s.heap m) (_ : (Mine.hd.heap_39 w.params).In g) (_ : News g L s.heap []) (_ : Top Mine.hd.view_39 (looseW Mine.hd.view_39 [Str.ofString "splitFragP"]) mean mg mb g)
   (_ : m (S "first") = some (.int f ft)) (_ : m (S "script") = some (.ref sc)) (_ : g.IsList sc vs.toArray) (_ : IntsAre vs ns) (_ : vs.length ≤ 63)
   (_ : PassesOwn (model PySem.Challenge.rw_fc0189_01.row.prog w) (callerA.deeper (envOf "law" (lawScope w.params) L a cd)) (envOf "law" (lawScope w.params) L a cd) E)
   (_ : ∀ h' tk' m' nx, Fr g L h' m' → News g L h' nx → Q (.ret (.bool true)) { s with heap := h', toks := tk' }),
   wpAny (model PySem.Challenge.rw_fc0189_01.row.prog w) (callerA.deeper (envOf "law" (lawScope w.params) L a cd)) (execs ((lawBody w.params).drop 1) (envOf "law" (lawScope w.params) L a cd)) Q E s := by
  k_fill
  intro w mean mg mb a cd A₀ base g L m s Q E f ft sc vs ns B F X N T e1 e2 hL hI lv hE hret
  show wpAny _ (Around.deeper _ (envOf _ (Scope.mk _ _ _ _ _) _ _ _)) (execs (_ :: _) (envOf _ (Scope.mk _ _ _ _ _) _ _ _)) _ _ _
  rw [← kst_self (m := m) (ps := [(S "first", .int f ft), (S "script", .ref sc)]) (by simp [e1, e2])] at F
  k_steps
  refine Mine.waited ?_
  refine if_here w mean mg mb _ _ A₀ base g L _ _ _ _ _ _ _ _ _ _ _ B (by with_reducible assumption) X (by with_reducible assumption) T (by with_unfolding_all rfl) (by with_unfolding_all rfl) (by with_unfolding_all rfl) (by with_reducible assumption) (by passes_own) ?_
  intro h7 tk7 m7 here7 th7 hh e7 em7 F7 N7
  dsimp only
  refine law_tail w mean mg mb _ _ A₀ base g L m7 _ _ _ _ _ here7 _ _ th7 _ _ _ sc _ vs _ _ B F7 X N7 T ((em7 (S "opening") (by decide +kernel)).trans (by with_unfolding_all rfl)) ((em7 (S "base") (by decide +kernel)).trans (by with_unfolding_all rfl)) e7 ((em7 (S "start") (by decide +kernel)).trans (by with_unfolding_all rfl)) ((em7 (S "script") (by decide +kernel)).trans (by with_unfolding_all rfl))
    (by walk_at "my_mem") (by walk_at "my_mem") (by with_reducible assumption) hL (allInt_of hI) lv
    (good_here (by with_reducible assumption) (by with_reducible assumption) (by omega) (by with_reducible assumption) hh) (by with_reducible assumption) (by with_reducible assumption) (by with_reducible assumption) (by passes_own) hret
end Mine
end
open PySem PySem.W PyProof.Rows PySem.Spec PySem.Calls
set_option Elab.async false
set_option maxRecDepth 100000
set_option maxHeartbeats 8000000
local macro_rules | `(tactic| walk_at "execs cons") => `(tactic| ((with_reducible show wpAny _ _ (execs (PySem.Stmt.Assign _ (PySem.Expr.Subscript (PySem.Expr.Call _ _ _ _) _ _) _ :: _) _) _ _ _); refine Mine.wait ?_))
namespace Mine
theorem ints_len : ∀ {vs : List Value} {ns : List Int}, IntsAre vs ns → vs.length = ns.length
  | _, _, .nil => rfl
  | _, _, .cons _ _ r => congrArg (· + 1) (ints_len r)
end Mine
theorem PySem.Challenge.cw_fc0189_01_holds : PySem.Challenge.rw_fc0189_01.Holds :=
  Mine.hd (by
  k_go0
  k_steps
  all_goals refine Mine.waited ?_
  all_goals (
    refine Mine.law_main _ _ _ _ _ _ _ _ _ _ _ _ _ _ _ _ _ _ _ (by assumption) (by assumption) (by assumption) (by assumption) (by assumption) (by with_unfolding_all rfl) (by with_unfolding_all rfl) (by with_reducible assumption) (by with_reducible assumption) (by have h9 := Mine.ints_len (by with_reducible assumption); omega) (by passes_own) ?_
    intro h7 tk7 m7 nx7 F7 N7
    dsimp only
    k_steps))
