import PyProof.Rows.All
import Wide.All
import OpenK.AllK
import Wide.FinOn
import PySem.Challenge.RW_pk0078_01
open PySem PySem.W PyProof.Rows
set_option Elab.async false
set_option maxRecDepth 100000
set_option rowWalk.seconds 0
namespace Mine
set_option maxHeartbeats 8000000 in
open_top hd for PySem.Challenge.rw_pk0078_01
end Mine
local macro_rules | `(tactic| walk_at "m:step") => `(tactic| first | (k_unfold; (try dsimp only)) | (k_end; wrow_close) | walk1 | (dsimp only; walk1) | (leave1; walk_say "STEP leave1"; try dsimp only))
local macro_rules | `(tactic| walk_at "m:toWhile") => `(tactic| repeat ((fail_if_success (with_reducible show wpAny _ _ (exec (Stmt.While _ _ _ _) _) _ _ _)); walk_at "m:step"))
local macro_rules | `(tactic| walk_at "m:toCall") => `(tactic| repeat ((fail_if_success (with_reducible show wpAny _ _ (call (Value.ref _) _) _ _ _)); walk_at "m:step"))
local macro_rules | `(tactic| walk_at "m:toFor") => `(tactic| repeat ((fail_if_success (with_reducible show wpAny _ _ (exec (Stmt.For _ _ _ _ _) _) _ _ _)); walk_at "m:step"))
local macro_rules | `(tactic| walk_at "m:toIter") => `(tactic| repeat ((fail_if_success (with_reducible show wpAny _ _ (pyIter _) _ _ _)); walk_at "m:step"))
local macro_rules | `(tactic| k_room) => `(tactic| ktr_room)
local macro_rules | `(tactic| walk_at "m:toEnum") => `(tactic| repeat ((fail_if_success (with_reducible show wpAny _ _ (call (Value.type _) _) _ _ _)); walk_at "m:step"))
local macro_rules | `(tactic| k_all) => `(tactic| assumption)
section
theorem Mine.off0 : True := by
  w_top off
  trivial
namespace Mine

/-- what a call of a def of the text does, told over the ledger -/
def Ctr (w : World) (mean : ExcName → Option Value) (mg mb : Str → Option Value) (lv : Nat) (f : Addr) (args : List Value) (news : List (Addr × Obj))
    (Post : Value → List (Addr × Obj) → Prop) : Prop :=
  ∀ (dp un : Nat) (gd : Option (List Code)) (cn : Str) (cs : Scope) (a : Addr) (ccd : Value) (cl : List (Str × Addr)) (outer : List Env) (A₀ : Around) (base h₀ : Heap) (L : Addr) (m : Str → Option Value) (s : Shared) (Q E : Value → Shared → Prop),
    Below A₀ base outer h₀ → Fr h₀ L s.heap m → (hd.heap_39 w.params).In h₀ → News h₀ L s.heap news → Top hd.view_39 (looseW hd.view_39 [Str.ofString "Whitespace"]) mean mg mb h₀ → cs.kind = .function → dp + lv < recursionLimit → un + 40 * lv + 200 < cLine →
    (∀ r h' tk' news', Fr h₀ L h' m → News h₀ L h' news' → Post r news' → Q r { s with heap := h', toks := tk' }) →
    wpAny (model Challenge.rw_pk0078_01.row.prog w) (ktrTop dp un gd cn cs L a ccd cl outer) (call (.ref f) args) Q E s

section
variable {w : World} {mean : ExcName → Option Value} {mg mb : Str → Option Value} {lv : Nat} {f : Addr} {args : List Value} {news : List (Addr × Obj)} {Post : Value → List (Addr × Obj) → Prop}
theorem Ctr.use {dp un : Nat} {gd : Option (List Code)} {cn : Str} {cs : Scope} {a : Addr} {ccd : Value} {cl : List (Str × Addr)} {outer : List Env} {A₀ : Around} {base h₀ : Heap} {L : Addr} {m : Str → Option Value} {s : Shared} {Q E : Value → Shared → Prop}
    (C : Ctr w mean mg mb lv f args news Post) (B : Below A₀ base outer h₀) (F : Fr h₀ L s.heap m) (X : (hd.heap_39 w.params).In h₀) (N : News h₀ L s.heap news) (T : Top hd.view_39 (looseW hd.view_39 [Str.ofString "Whitespace"]) mean mg mb h₀)
    (hk : cs.kind = .function) (hd : dp + lv < recursionLimit) (hu : un + 40 * lv + 200 < cLine)
    (ret : ∀ r h' tk' news', Fr h₀ L h' m → News h₀ L h' news' → Post r news' → Q r { s with heap := h', toks := tk' }) :
    wpAny (model Challenge.rw_pk0078_01.row.prog w) (ktrTop dp un gd cn cs L a ccd cl outer) (call (.ref f) args) Q E s :=
  C _ _ _ _ _ _ _ _ _ _ _ _ _ _ _ _ _ B F X N T hk hd hu ret
end
end Mine
end
section
theorem Mine.off1 : True := by
  w_top off
  trivial
namespace Mine
section
variable {prog : Program} {w : World} {A : Around} {E : Value → Shared → Prop} {s : Shared} {h₀ : Heap} {L : Addr} {news : List (Addr × Obj)} {value slice : Expr} {a : Addr} {l : List Value} {n : Nat} {k : Int} {u : Tok} {x : Value} {Q : Value → Shared → Prop}
theorem item_any {j : Nat} (N : News h₀ L s.heap news) (hm : (a, listOf l.toArray n) ∈ news) (hlo : -(2 ^ 63) ≤ k) (hhi : k < 2 ^ 63) (hj : seqIndex? k l.length = some j) (hx : l[j]? = some x) (h : Q x s)
    (hs : subscripted slice false (.ref a) (.int k u) = operate [.ref a, .int k u] (getItem (.ref a) (.int k u)) := by with_unfolding_all rfl) (hg : ∀ r, letTemporaryGo value (.ref a) r = pure () := by intro _; with_unfolding_all rfl) :
    wpAny (model prog w) A (subscriptTail value slice (.ref a) (.int k u)) Q E s := by
  by_cases h0 : 0 ≤ k
  · have hk : k < l.length := by
      have h2 : ¬ k < 0 := by omega
      simp only [seqIndex?, h2, ↓reduceIte] at hj
      split at hj
      · rename_i hc; simp only [Bool.and_eq_true, decide_eq_true_eq] at hc; omega
      · cases hj
    rw [seqIndex_at h0 hk] at hj
    cases hj
    exact kim_list N hm rfl rfl h0 hhi hx h hs hg
  · have hk : 0 ≤ k + l.length := by
      have h2 : k < 0 := by omega
      simp only [seqIndex?, h2, ↓reduceIte] at hj
      split at hj
      · rename_i hc; simp only [Bool.and_eq_true, decide_eq_true_eq] at hc; omega
      · cases hj
    rw [seqIndex_back (by omega) hk] at hj
    cases hj
    exact kim_back N hm rfl rfl (by omega) (by omega) hlo hx h hs hg
end
set_option maxHeartbeats 4000000 in
theorem getitem_ctr (w : World) (mean : ExcName → Option Value) (mg mb : Str → Option Value) {row : Addr} {vs : List Value} {c : Nat} {k : Int} {j : Nat} {v : Value} (u : Tok) {news : List (Addr × Obj)}
    (hm : (row, listOf vs.toArray c) ∈ news) (hlo : -(2 ^ 63) ≤ k) (hhi : k < 2 ^ 63) (hj : seqIndex? k vs.length = some j) (hx : vs[j]? = some v) :
    Ctr w mean mg mb 1 42 [.ref row, .int k u] news (fun r n' => n' = news ∧ r = v) := by
  unfold Ctr
  intro dp un gd cn cs a ccd cl outer A₀ base h₀ L m s Q E B F X N T hk hd hu hret
  refine wpAny_call ?_
  k_dflt ktr_enter
  k_steps
  refine item_any (by assumption) hm hlo hhi hj hx ?_
  k_steps
  exact hret _ _ _ _ (by k_asm) (by k_asm) ⟨rfl, rfl⟩
set_option maxHeartbeats 4000000 in
theorem delitem_ctr (w : World) (mean : ExcName → Option Value) (mg mb : Str → Option Value) {row : Addr} {vs : List Value} {c : Nat} {k : Int} {j : Nat} (u : Tok) {rest : List (Addr × Obj)}
    (hoff : ∀ p ∈ rest, p.1 ≠ row) (hlo : -(2 ^ 63) ≤ k) (hhi : k < 2 ^ 63) (hj : seqIndex? k vs.length = some j) (hsz : vs.length ≤ sizeLine) :
    Ctr w mean mg mb 1 35 [.ref row, .int k u] ((row, listOf vs.toArray c) :: rest) (fun r n' => n' = (row, listOf (vs.eraseIdx j).toArray (c + 1)) :: rest ∧ r = .none) := by
  unfold Ctr
  intro dp un gd cn cs a ccd cl outer A₀ base h₀ L m s Q E B F X N T hk hd hu hret
  refine wpAny_call ?_
  k_dflt ktr_enter
  k_steps
  refine delItem_head (by k_asm) (by k_asm) hoff (by simp only [Builtin.List.listFitsIndex, Bool.and_eq_true, decide_eq_true_eq]; omega) (by simpa using hj) (fun h9 F9 N9 => ?_) (by simpa using hsz)
  k_steps
  exact hret _ _ _ _ (by k_asm) (by k_asm) ⟨by simp, rfl⟩
set_option maxHeartbeats 4000000 in
theorem sub_ctr (w : World) (mean : ExcName → Option Value) (mg mb : Str → Option Value) (x y : Int) (t u : Tok) (news : List (Addr × Obj)) :
    Ctr w mean mg mb 1 28 [.int x t, .int y u] news (fun r n' => n' = news ∧ ∃ t, r = .int (x - y) t) := by
  unfold Ctr
  intro dp un gd cn cs a ccd cl outer A₀ base h₀ L m s Q E B F X N T hk hd hu hret
  refine wpAny_call ?_
  k_dflt ktr_enter
  k_steps
  exact hret _ _ _ _ (by k_asm) (by k_asm) ⟨rfl, _, rfl⟩

section
variable {prog : Program} {w : World} {A : Around} {E : Value → Shared → Prop} {s : Shared} {h₀ : Heap} {L : Addr} {m : Str → Option Value} {rest : List (Addr × Obj)}
theorem setAt_head {row : Addr} {vs : List Value} {c : Nat} {k : Int} {j : Nat} {t : Tok} {v : Value} {Q : Unit → Shared → Prop} (F : Fr h₀ L s.heap m) (N : News h₀ L s.heap ((row, listOf vs.toArray c) :: rest)) (hoff : ∀ p ∈ rest, p.1 ≠ row)
    (hlo : -(2 ^ 63) ≤ k) (hhi : k < 2 ^ 63) (hj : seqIndex? k vs.length = some j)
    (h : ∀ h', Fr h₀ L h' m → News h₀ L h' ((row, listOf (vs.set j v).toArray c) :: rest) → Q () { s with heap := h' }) : wpAny (model prog w) A (setItem (.ref row) (.int k t) v) Q E s := by
  have z := N (row, listOf vs.toArray c) (.head _)
  have fin : ∀ i, i = j → Q () { s with heap := s.heap.update row (Obj.mapSeq (·.setIfInBounds i v)) } := by
    rintro i rfl
    refine h _ (F.change (Heap.SameBut.update ..) z.2.1 z.2.2) (ki_turn (pre := []) (fun xs => xs.setIfInBounds i v) N (List.forall_mem_nil _) hoff ?_ ?_)
    · apply Array.toList_inj.mp
      simp
    · simp
  by_cases h0 : 0 ≤ k
  · have hk : k < vs.length := by
      have h2 : ¬ k < 0 := by omega
      simp only [seqIndex?, h2, ↓reduceIte] at hj
      split at hj
      · rename_i hc; simp only [Bool.and_eq_true, decide_eq_true_eq] at hc; omega
      · cases hj
    rw [seqIndex_at h0 hk] at hj
    exact ki_setAt z.1 h0 hhi (by simpa using hk) (fin _ (Option.some.inj hj))
  · have hk : 0 ≤ k + vs.length := by
      have h2 : k < 0 := by omega
      simp only [seqIndex?, h2, ↓reduceIte] at hj
      split at hj
      · rename_i hc; simp only [Bool.and_eq_true, decide_eq_true_eq] at hc; omega
      · cases hj
    rw [seqIndex_back (by omega) hk] at hj
    exact ki_setBack z.1 (by omega) (by simp; omega) hlo (fin _ (by simpa using Option.some.inj hj))
end
set_option maxHeartbeats 4000000 in
theorem setitem_ctr (w : World) (mean : ExcName → Option Value) (mg mb : Str → Option Value) {row : Addr} {vs : List Value} {c : Nat} {k : Int} {j : Nat} (u : Tok) (v : Value) {rest : List (Addr × Obj)}
    (hoff : ∀ p ∈ rest, p.1 ≠ row) (hlo : -(2 ^ 63) ≤ k) (hhi : k < 2 ^ 63) (hj : seqIndex? k vs.length = some j) :
    Ctr w mean mg mb 1 56 [.ref row, .int k u, v] ((row, listOf vs.toArray c) :: rest) (fun r n' => n' = (row, listOf (vs.set j v).toArray c) :: rest ∧ r = .none) := by
  unfold Ctr
  intro dp un gd cn cs a ccd cl outer A₀ base h₀ L m s Q E B F X N T hk hd hu hret
  refine wpAny_call ?_
  k_dflt ktr_enter
  k_steps
  refine setAt_head (by k_asm) (by k_asm) hoff hlo hhi hj (fun h9 F9 N9 => ?_)
  k_steps
  exact hret _ _ _ _ (by k_asm) (by k_asm) ⟨rfl, rfl⟩
end Mine
end
section
local macro_rules | `(tactic| walk_at "m:pad") => `(tactic| skip)
local macro_rules | `(tactic| walk_at "m:pad") => `(tactic| skip)
local macro_rules | `(tactic| walk_at "m:pad") => `(tactic| skip)
local macro_rules | `(tactic| walk_at "m:pad") => `(tactic| skip)
theorem Mine.off2 : True := by
  w_top off
  trivial
namespace Mine

def strike : Nat → List Int → Nat → Nat → List Int × List Int
  | 0, row, _, _ => ([], row)
  | f + 1, row, p, st => match row[p]? with
    | none => ([], row)
    | some v => (v :: (strike f (row.eraseIdx p) (p + st) st).1, (strike f (row.eraseIdx p) (p + st) st).2)
def pairD (x : Int) : Dat := .list [.int x, .none]


theorem lookup_ite {y x : Str} {v : Value} {r : List (Str × Value)} : List.lookup y ((x, v) :: r) = if y = x then some v else List.lookup y r := by
  by_cases h : y = x
  · subst h; simp
  · have : (y == x) = false := by simpa using h
    simp [List.lookup, this, h]
theorem Fr.to {h₀ h : Heap} {L : Addr} {m m' : Str → Option Value} (F : Fr h₀ L h m) (e : ∀ y, m y = m' y) : Fr h₀ L h m' := (funext e : m = m') ▸ F

abbrev struckM (S row : Addr) (st : Nat) (u : Tok) (q : Nat) (t : Tok) (sp : Option Value) : Str → Option Value := fun y =>
  if y = Str.ofString "place" then some (.int q t) else if y = Str.ofString "spot" then sp else if y = Str.ofString "struck" then some (.ref S) else if y = Str.ofString "row" then some (.ref row) else if y = Str.ofString "step" then some (.int st u) else none

/-- the ledger between two turns of the strikes -/
def StrJ (row S : Addr) (ns : List Int) (p st : Nat) (u : Tok) (rest : List (Addr × Obj)) (k : Nat) (m : Str → Option Value) (news : List (Addr × Obj)) : Prop :=
  ∃ (done left : List Int) (q : Nat) (vs refs : List Value) (mk : List (Addr × Obj)) (c c' : Nat) (t : Tok) (sp : Option Value),
    news = (row, listOf vs.toArray c) :: (S, listOf refs.toArray c') :: (mk ++ rest) ∧ IntsAre vs left ∧ DatAll mk refs (done.map pairD) ∧
    strike ns.length ns p st = (done ++ (strike left.length left q st).1, (strike left.length left q st).2) ∧ k = left.length ∧ done.length + left.length = ns.length ∧ q = p + done.length * st ∧
    (∀ x ∈ mk, ∀ y ∈ (row, listOf vs.toArray c) :: (S, listOf refs.toArray c') :: rest, y.1 < x.1) ∧ m = struckM S row st u q t sp

/-- what the strikes leave: the row less what was struck, and the list of pairs -/
def StrPost (row : Addr) (ns : List Int) (p st : Nat) (rest : List (Addr × Obj)) (r : Value) (news : List (Addr × Obj)) : Prop :=
  ∃ (vs : List Value) (c : Nat) (mk : List (Addr × Obj)), news = (row, listOf vs.toArray c) :: (mk ++ rest) ∧ IntsAre vs (strike ns.length ns p st).2 ∧ DatIn mk r (.list ((strike ns.length ns p st).1.map pairD)) ∧
    ∀ x ∈ mk, row < x.1 ∧ ∀ y ∈ rest, y.1 < x.1
theorem allLt_in {d : Nat} : ∀ {l : List (Addr × Obj)}, AllLt d l → ∀ p ∈ l, @LT.lt Nat _ p.1 d
  | [], _, _, h => nomatch h
  | q :: r, h, p, hp => by
    rcases List.mem_cons.mp hp with rfl | hp
    · exact h.1
    · exact allLt_in h.2 p hp
theorem newsSwap {h₀ h : Heap} {L : Addr} {p q : Addr × Obj} {r : List (Addr × Obj)} (N : News h₀ L h (p :: q :: r)) : News h₀ L h (q :: p :: r) := fun x hx => N x (by
  rcases List.mem_cons.mp hx with rfl | hx
  · exact .tail _ (.head _)
  · rcases List.mem_cons.mp hx with rfl | hx
    · exact .head _
    · exact .tail _ (.tail _ hx))
theorem struck_start {S row : Addr} {p st : Nat} {t u : Tok} (y : Str) : (if y = Str.ofString "struck" then some (Value.ref S) else List.lookup y [(Str.ofString "step", Value.int st u), (Str.ofString "place", Value.int p t), (Str.ofString "row", Value.ref row)]) = struckM S row st u p t none y := by
  simp only [lookup_ite, List.lookup_nil, struckM]
  by_cases h1 : y = Str.ofString "place"
  · subst h1; rfl
  by_cases h2 : y = Str.ofString "spot"
  · subst h2; rfl
  by_cases h3 : y = Str.ofString "struck"
  · subst h3; rfl
  by_cases h4 : y = Str.ofString "row"
  · subst h4; rfl
  simp only [h1, h2, h3, h4, if_false]

section
variable {prog : Program} {w : World} {A : Around} {E : Value → Shared → Prop} {s : Shared} {h₀ : Heap} {L : Addr} {news : List (Addr × Obj)}
theorem len_led {a : Addr} {vs : List Value} {c : Nat} {Q : Value → Shared → Prop} (N : News h₀ L s.heap news) (hm : (a, listOf vs.toArray c) ∈ news) (hfit : vs.length < 2 ^ 62)
    (h : Q (.int (vs.length : Nat) (s.toks + 1)) { s with toks := s.toks + 1 + 1 }) : wpAny (model prog w) A (call (.builtin "len") [.ref a]) Q E s :=
  len_list (PySem.IsL.isList (n := c) (N _ hm).1) (by simp only [List.size_toArray]; omega) (by simpa using h)
end
theorem spot_idx {q n : Nat} (r : Nat) (h : q < n) : seqIndex? ((q : Int) - (n : Int) * Int.fmod (r : Int) 2) n = some q := by
  have h1 := fmod_lo (r : Int) (n := 2) (by omega)
  have h2 := fmod_hi (r : Int) (n := 2) (by omega)
  rcases (by omega : Int.fmod (r : Int) 2 = 0 ∨ Int.fmod (r : Int) 2 = 1) with e | e
  · rw [e, seqIndex_at (by omega) (by omega)]; simp
  · rw [e, seqIndex_back (by omega) (by omega)]; congr 1; omega
theorem spot_lo {q n : Nat} (r : Nat) (h : q < n) (hn : n ≤ 1000) : -(2 ^ 63) ≤ (q : Int) - (n : Int) * Int.fmod (r : Int) 2 ∧ (q : Int) - (n : Int) * Int.fmod (r : Int) 2 < 2 ^ 63 := by
  have h1 := fmod_lo (r : Int) (n := 2) (by omega)
  have h2 := fmod_hi (r : Int) (n := 2) (by omega)
  rcases (by omega : Int.fmod (r : Int) 2 = 0 ∨ Int.fmod (r : Int) 2 = 1) with e | e <;> rw [e] <;> omega
theorem ints_erase : ∀ {vs : List Value} {ns : List Int} (j : Nat), IntsAre vs ns → IntsAre (vs.eraseIdx j) (ns.eraseIdx j)
  | _, _, _, .nil => .nil
  | _, _, 0, .cons _ _ h => h
  | _, _, j + 1, .cons i t h => .cons i t (ints_erase j h)
theorem strike_step {left : List Int} {q st : Nat} {x : Int} (h : left[q]? = some x) :
    strike left.length left q st = (x :: (strike (left.eraseIdx q).length (left.eraseIdx q) (q + st) st).1, (strike (left.eraseIdx q).length (left.eraseIdx q) (q + st) st).2) := by
  have hq : q < left.length := by
    rcases Nat.lt_or_ge q left.length with h1 | h1
    · exact h1
    · rw [List.getElem?_eq_none h1] at h; cases h
  have e : left.length = (left.eraseIdx q).length + 1 := by rw [List.length_eraseIdx_of_lt hq]; omega
  rw [e, strike, h]
theorem strike_end {left : List Int} {q st : Nat} (h : ¬ q < left.length) : strike left.length left q st = ([], left) := by
  cases e : left.length with
  | zero => rfl
  | succ n => rw [strike, List.getElem?_eq_none (by omega)]

local macro_rules | `(tactic| walk_at "call builtin:len") => `(tactic| (k_here; (with_reducible show wpAny _ _ (call (Value.builtin "len") [Value.ref _]) _ _ _); k_dflt (refine' len_led ?k1 ?k2 ?k3 ?_; (case k1 => k_asm); (case k2 => k_mem); (case k3 => omega); k_whole)))

theorem struck_turn {g h : Heap} {L row S l2 : Addr} {ns done left : List Int} {p st q c1 c2 tk : Nat} {u tx t3 t9 t10 : Tok} {z : Int} {sp : Option Value} {vs' refs : List Value} {mk rest : List (Addr × Obj)} {s₀ : Shared} {Qx : Flow → Shared → Prop}
    (hi' : IntsAre vs' left) (hD : DatAll mk refs (done.map pairD)) (hS : strike ns.length ns p st = (done ++ (strike left.length left q st).1, (strike left.length left q st).2))
    (hlen : done.length + left.length = ns.length) (hq : q = p + done.length * st) (hsep : ∀ x ∈ mk, ∀ y ∈ (row, listOf vs'.toArray c1) :: (S, listOf refs.toArray c2) :: rest, y.1 < x.1) (hq' : q < left.length)
    (l3 : @LT.lt Nat _ row l2 ∧ @LT.lt Nat _ S l2 ∧ AllLt l2 (mk ++ rest))
    (F12 : Fr g L h (fun y => if y = Str.ofString "place" then some (.int ((q : Int) + (st : Int)) t10) else if y = Str.ofString "spot" then some (.int z t9) else struckM S row st u q t3 sp y))
    (N12 : News g L h ((l2, listOf [Value.int left[q] tx, Value.none].toArray 0) :: (row, listOf (vs'.eraseIdx q).toArray (c1 + 1)) :: (S, listOf (refs.toArray.push (.ref l2)) (c2 + 1)) :: (mk ++ rest))) :
    WhileStep2 g L s₀ (StrJ row S ns p st u rest) Qx left.length .next { s₀ with heap := h, toks := tk } := by
  have hsp : ∀ x ∈ (l2, listOf [Value.int left[q] tx, Value.none].toArray 0) :: mk, ∀ y ∈ (row, listOf (vs'.eraseIdx q).toArray (c1 + 1)) :: (S, listOf (refs ++ [Value.ref l2]).toArray (c2 + 1)) :: rest, y.1 < x.1 := by
    intro x hx y hy
    have hy' : y.1 = row ∨ y.1 = S ∨ y ∈ rest := by
      rcases List.mem_cons.mp hy with rfl | hy
      · exact .inl rfl
      · rcases List.mem_cons.mp hy with rfl | hy
        · exact .inr (.inl rfl)
        · exact .inr (.inr hy)
    rcases List.mem_cons.mp hx with rfl | hx
    · rcases hy' with e | e | e
      · rw [e]; exact l3.1
      · rw [e]; exact l3.2.1
      · exact allLt_in l3.2.2 y (List.mem_append.mpr (.inr e))
    · rcases hy' with e | e | e
      · rw [e]; exact hsep x hx _ (.head _)
      · rw [e]; exact hsep x hx _ (.tail _ (.head _))
      · exact hsep x hx _ (.tail _ (.tail _ e))
  have hxl : left[q]? = some left[q] := by simp [hq']
  have hst' := strike_step (st := st) hxl
  refine ⟨_, _, _, (row, listOf (vs'.eraseIdx q).toArray (c1 + 1)) :: (S, listOf (refs ++ [Value.ref l2]).toArray (c2 + 1)) :: (((l2, listOf [Value.int left[q] tx, Value.none].toArray 0) :: mk) ++ rest), (left.eraseIdx q).length, rfl, F12, ?_, ?_,
    done ++ [left[q]], left.eraseIdx q, q + st, vs'.eraseIdx q, refs ++ [Value.ref l2], (l2, listOf [Value.int left[q] tx, Value.none].toArray 0) :: mk, c1 + 1, c2 + 1, t10, some (.int z t9), rfl, ints_erase q hi', ?_, ?_, rfl, ?_, ?_, hsp, ?_⟩
  · intro x hx
    refine N12 x ?_
    simp only [List.cons_append, List.mem_cons, List.push_toArray] at hx ⊢
    rcases hx with h | h | h | h
    · exact .inr (.inl h)
    · exact .inr (.inr (.inl h))
    · exact .inl h
    · exact .inr (.inr (.inr h))
  · rw [List.length_eraseIdx_of_lt hq']; omega
  · rw [List.map_append]
    exact DatAll.append (hD.mono fun p hp => .tail _ hp) (DatAll.one (.list (.head _) (.cons (.int _ _) (.cons .none .nil))))
  · rw [hS, hst']; simp
  · rw [List.length_eraseIdx_of_lt hq', List.length_append, List.length_singleton]; omega
  · rw [List.length_append, List.length_singleton, hq, Nat.add_mul]; omega
  · funext y
    by_cases h1 : y = Str.ofString "place"
    · subst h1; simp only [struckM, if_true]; congr 2
    · by_cases h2 : y = Str.ofString "spot"
      · subst h2; rfl
      · simp only [struckM, h1, h2, if_false]
set_option maxHeartbeats 4000000 in
theorem struck_ctr (w : World) (mean : ExcName → Option Value) (mg mb : Str → Option Value) {row : Addr} {vs : List Value} {ns : List Int} {c : Nat} {p st : Nat} (t u : Tok) {rest : List (Addr × Obj)}
    (hoff : ∀ p ∈ rest, p.1 ≠ row) (hi : IntsAre vs ns) (hsz : vs.length ≤ 1000) (hp : p ≤ 1000) (hst : st ≤ 1000) :
    Ctr w mean mg mb 3 134 [.ref row, .int p t, .int st u] ((row, listOf vs.toArray c) :: rest) (StrPost row ns p st rest) := by
  unfold Ctr
  intro dp un gd cn cs a ccd cl outer A₀ base h₀ L m s Q E B F X N T hk hd hu hret
  refine wpAny_call ?_
  k_dflt ktr_enter
  walk_at "m:toWhile"
  rename_i S h1 l1 h2 F1 N1
  replace F1 := Fr.to F1 struck_start
  refine While_inv2 (StrJ row S ns p st u rest) F1 (newsSwap N1) ⟨[], ns, p, vs, [], [], c, 0, t, none, rfl, hi, .nil, by simp, rfl, by simp, by simp, by simp, rfl⟩ ?_
  rintro k m1 news1 h3 tk3 F3 N3 ⟨done, left, q, vs', refs, mk, c1, c2, t3, sp, rfl, hi', hD, hS, rfl, hlen, hq, hsep, rfl⟩
  clear N1 F1
  have hb1 := hi'.length
  have hb2 := hi.length
  have hb3 : refs.length = done.length := by simpa using hD.length
  have hb4 : done.length * st ≤ 1000 * 1000 := Nat.mul_le_mul (by omega) hst
  have hoffS : ∀ x ∈ mk ++ rest, x.1 ≠ S := by
    intro x hx
    rcases List.mem_append.mp hx with hx | hx
    · exact Nat.ne_of_gt (hsep x hx _ (.tail _ (.head _)))
    · exact Nat.ne_of_lt (allLt_in l1.2 x hx)
  have hoffR : ∀ x ∈ (S, listOf refs.toArray c2) :: (mk ++ rest), x.1 ≠ row := by
    intro x hx
    rcases List.mem_cons.mp hx with rfl | hx
    · exact Nat.ne_of_gt l1.1
    · rcases List.mem_append.mp hx with hx | hx
      · exact Nat.ne_of_gt (hsep x hx _ (.head _))
      · exact hoff x hx
  walk_at "m:toCall"
  · rename (_ : Int) < _ => hlt
    have hq' : q < left.length := by omega
    refine Ctr.use (sub_ctr w mean mg mb _ _ _ _ _) (by k_asm) (by k_asm) (by k_asm) (by k_asm) (by k_asm) rfl (by ktr_room) (by ktr_units) ?_
    rintro r9 h9 tk9 n9 F9 N9 ⟨rfl, t9, rfl⟩
    walk_at "m:toCall"
    obtain ⟨tx, hx⟩ := hi'.get q left[q] (by simp [hq'])
    have hidx := spot_idx (n := vs'.length) refs.length (show q < vs'.length by omega)
    have hfit := spot_lo (n := vs'.length) refs.length (show q < vs'.length by omega) (by omega)
    refine Ctr.use (getitem_ctr w mean mg mb _ (.head _) hfit.1 hfit.2 hidx hx) (by k_asm) (by k_asm) (by k_asm) (by k_asm) (by k_asm) rfl (by ktr_room) (by ktr_units) ?_
    rintro r10 h10 tk10 n10 F10 N10 ⟨rfl, rfl⟩
    walk_at "m:toCall"
    refine Ctr.use (delitem_ctr w mean mg mb _ hoffR hfit.1 hfit.2 hidx (by rw [sizeLine_eq]; omega)) (by k_asm) (by k_asm) (by k_asm) (by k_asm) (by k_asm) rfl (by ktr_room) (by ktr_units) ?_
    rintro r11 h11 tk11 n11 F11 N11 ⟨rfl, rfl⟩
    k_steps
    exact struck_turn hi' hD hS hlen hq hsep hq' (by assumption) (by assumption) (by assumption)
  · k_steps
    have hend := strike_end (left := left) (q := q) (st := st) (by omega)
    rw [hend, List.append_nil] at hS
    refine hret _ _ _ _ (by k_asm) (by k_asm) ⟨vs', c1, (S, listOf refs.toArray c2) :: mk, rfl, ?_, ?_, ?_⟩
    · rw [hS]; exact hi'
    · rw [hS]; exact .list (.head _) (hD.mono fun p hp => .tail _ hp)
    · intro x hx
      rcases List.mem_cons.mp hx with rfl | hx
      · exact ⟨l1.1, fun y hy => allLt_in l1.2 y hy⟩
      · exact ⟨hsep x hx _ (.head _), fun y hy => hsep x hx _ (.tail _ (.tail _ hy))⟩
end Mine
end
section
theorem Mine.off3 : True := by
  w_top off
  trivial
namespace Mine
section
variable {prog : Program} {w : World} {A : Around} {E : Value → Shared → Prop} {s : Shared} {env : Env} {h₀ : Heap} {x : Str} {body : List Stmt} {Q : Flow → Shared → Prop}
/-- a for over a text of plain signs, by an invariant over the frame and the whole ledger -/
theorem iter_text {xt : Str} {tx : Tok} {m₀ : Str → Option Value} {news : List (Addr × Obj)} (J : Nat → (Str → Option Value) → List (Addr × Obj) → Prop)
    (ha : xt.cps.all (· < 128) = true) (hh : A.handled = none) (F : Fr h₀ env.locals s.heap m₀) (N : News h₀ env.locals s.heap news) (hj : J 0 m₀ news)
    (turn : ∀ i c t m₁ nx h tk own, xt.cps[i]? = some c → OwnOff own (nx.map (·.1)) → J i m₁ nx → Fr h₀ env.locals h (fun y => if y = x then some (.str ⟨#[c]⟩ t) else m₁ y) → News h₀ env.locals h (nx ++ own) →
      wpAny (model prog w) A (execs body env) (InvPostG h₀ env.locals (J (i + 1)) own { s with heap := h, toks := tk } Q) E { s with heap := h, toks := tk })
    (done : ∀ m₁ nx h tk, J xt.cps.size m₁ nx → Fr h₀ env.locals h m₁ → News h₀ env.locals h nx → Q .next { s with heap := h, toks := tk }) :
    wpAny (model prog w) A (pyIter (.str xt tx)) (fun it s₂ => LoopAtV prog w A h₀ env x body Q E it s₂) E s := by
  refine wpAny_pyIter_ascii ha ?_
  refine kdr_loop J (Walks.strAscii hh s.heap.objs.size xt tx) (fun _ h => h) (fun _ h => h) ?_ ?_ ?_ ?_ ⟨_, Heap.get?_push_size _ rfl, rfl, rfl⟩ (F.push _) (fun p hp => ⟨Heap.get?_push_of_some _ (N p hp).1, (N p hp).2⟩) hj ?_ done
  · rintro i h ⟨o, ho, _⟩ b hb
    rw [List.mem_singleton.mp hb]
    exact ⟨o, ho⟩
  · intro hm
    exact absurd F.ns.lt ((List.mem_singleton.mp hm) ▸ Nat.lt_irrefl _)
  · intro b hb
    rw [List.mem_singleton.mp hb]
    exact next_is_new F
  · intro p hp hI
    exact absurd (Heap.lt_size (N p hp).1) ((List.mem_singleton.mp hI) ▸ Nat.lt_irrefl _)
  · rintro i v m₁ nx h tk own hi ⟨c, t, hc, rfl⟩ hoff hJ F₁ N₁
    exact turn i c t m₁ nx h tk own hc hoff hJ F₁ N₁
/-- a for over a range of any step, by an invariant over the frame and the whole ledger -/
theorem iter_rng {r : Addr} {a₀ b₀ c₀ : Int} {t₀ u₀ v₀ : Tok} {n : Nat} {m₀ : Str → Option Value} {news : List (Addr × Obj)} (J : Nat → (Str → Option Value) → List (Addr × Obj) → Prop)
    (hh : A.handled = none) (hr : IsRange s.heap r a₀ b₀ c₀ t₀ u₀ v₀) (hsmall : Builtin.Range.small a₀ b₀ c₀ = true) (hsz : Builtin.Range.rangeSize a₀ b₀ c₀ = (n : Int)) (F : Fr h₀ env.locals s.heap m₀) (N : News h₀ env.locals s.heap news) (hj : J 0 m₀ news)
    (turn : ∀ i t m₁ nx h tk own, i < n → OwnOff own (nx.map (·.1)) → J i m₁ nx → Fr h₀ env.locals h (fun y => if y = x then some (.int (a₀ + (i : Int) * c₀) t) else m₁ y) → News h₀ env.locals h (nx ++ own) →
      wpAny (model prog w) A (execs body env) (InvPostG h₀ env.locals (J (i + 1)) own { s with heap := h, toks := tk } Q) E { s with heap := h, toks := tk })
    (done : ∀ m₁ nx h tk, J n m₁ nx → Fr h₀ env.locals h m₁ → News h₀ env.locals h nx → Q .next { s with heap := h, toks := tk }) :
    wpAny (model prog w) A (pyIter (.ref r)) (fun it s₂ => LoopAtV prog w A h₀ env x body Q E it s₂) E s := by
  refine wpAny_pyIter_range hr hsmall ?_
  refine kdr_loop J (Walks.range hh s.heap.objs.size a₀ c₀ n) (fun _ h => h) (fun _ h => h) ?_ ?_ ?_ ?_ (by show IsRangeIter _ _ _ _ _; rw [hsz]; simpa using Heap.get?_push_size _ rfl) (F.push _) (fun p hp => ⟨Heap.get?_push_of_some _ (N p hp).1, (N p hp).2⟩) hj ?_ done
  · intro i h hi b hb
    rw [List.mem_singleton.mp hb]
    exact ⟨_, hi⟩
  · intro hm
    exact absurd F.ns.lt ((List.mem_singleton.mp hm) ▸ Nat.lt_irrefl _)
  · intro b hb
    rw [List.mem_singleton.mp hb]
    exact next_is_new F
  · intro p hp hI
    exact absurd (Heap.lt_size (N p hp).1) ((List.mem_singleton.mp hI) ▸ Nat.lt_irrefl _)
  · rintro i v m₁ nx h tk own hi ⟨t, rfl⟩ hoff hJ F₁ N₁
    exact turn i t m₁ nx h tk own hi hoff hJ F₁ N₁
end
end Mine
end
section
theorem Mine.off4 : True := by
  w_top off
  trivial
namespace Mine

abbrev wsM (o : Addr) (x : Str) (t : Tok) (cnt : Addr) (b n nt : Int) (tb tn tnt : Tok) (ch : Option Value) : Str → Option Value := fun y =>
  if y = Str.ofString "ch" then ch else if y = Str.ofString "nt" then some (.int nt tnt) else if y = Str.ofString "n" then some (.int n tn) else if y = Str.ofString "b" then some (.int b tb) else
  if y = Str.ofString "count" then some (.ref cnt) else if y = Str.ofString "S" then some (.str (Str.ofString " ") 254) else if y = Str.ofString "T" then some (.str (Str.ofString "\t") 255) else
  if y = Str.ofString "ws" then some (.str x t) else if y = Str.ofString "self" then some (.ref o) else none

theorem ws_start {o cnt : Addr} {x : Str} {t tb tn tnt : Tok} (y : Str) :
    (if y = Str.ofString "nt" then some (Value.int 0 tnt) else if y = Str.ofString "n" then some (Value.int 0 tn) else if y = Str.ofString "b" then some (Value.int 0 tb) else
      if y = Str.ofString "count" then some (Value.ref cnt) else if y = Str.ofString "S" then some (Value.str (Str.ofString " ") 254) else if y = Str.ofString "T" then some (Value.str (Str.ofString "\t") 255) else
      List.lookup y [(Str.ofString "ws", Value.str x t), (Str.ofString "self", Value.ref o)]) = wsM o x t cnt 0 0 0 tb tn tnt none y := by
  simp only [lookup_ite, List.lookup_nil, wsM]
  by_cases h1 : y = Str.ofString "ch"
  · subst h1; rfl
  simp only [h1, if_false]

/-- between two turns of the scan: n blanks, a tab, and no more -/
def WsJ (o d : Addr) (x : Str) (t : Tok) (cnt : Addr) (n : Nat) (rest : List (Addr × Obj)) (i : Nat) (m : Str → Option Value) (nx : List (Addr × Obj)) : Prop :=
  (i ≤ n ∧ ∃ tb tn tnt ch, m = wsM o x t cnt i i 0 tb tn tnt ch ∧ nx = (cnt, listOf ([] : List Value).toArray 0) :: rest) ∨
  (i = n + 1 ∧ ∃ c2 k vs tb tn tnt ch, m = wsM o x t c2 0 ((n : Int) + 1) 1 tb tn tnt ch ∧ nx = (c2, listOf vs.toArray k) :: rest ∧ IntsAre vs (List.replicate n 0 ++ [1]) ∧ AllLt c2 rest)

theorem newsDrop2 {h₀ h : Heap} {L : Addr} {p q : Addr × Obj} {r : List (Addr × Obj)} (N : News h₀ L h (p :: q :: r)) : News h₀ L h (p :: r) := fun x hx => N x (by
  rcases List.mem_cons.mp hx with rfl | hx
  · exact .head _
  · exact .tail _ (.tail _ hx))
theorem ascii_of {x : Str} {n : Nat} (hx : x.cps.toList = List.replicate n 32 ++ [9, 120, 32, 9]) : x.cps.all (· < 128) = true := by
  rw [← Array.all_toList, hx, List.all_append, List.all_replicate]
  by_cases h : n = 0 <;> simp [h]
theorem ws_size {x : Str} {n : Nat} (hx : x.cps.toList = List.replicate n 32 ++ [9, 120, 32, 9]) : x.cps.size = n + 4 := by
  rw [← Array.length_toList, hx]; simp
theorem sign_lt {x : Str} {n i c : Nat} (hx : x.cps.toList = List.replicate n 32 ++ [9, 120, 32, 9]) (hc : x.cps[i]? = some c) (h : i < n) : c = 32 := by
  rw [← Array.getElem?_toList, hx, List.getElem?_append_left (by simpa using h), List.getElem?_replicate, if_pos h] at hc
  exact (Option.some.inj hc).symm
theorem sign_at {x : Str} {n c : Nat} (hx : x.cps.toList = List.replicate n 32 ++ [9, 120, 32, 9]) (hc : x.cps[n]? = some c) : c = 9 := by
  rw [← Array.getElem?_toList, hx, List.getElem?_append_right (by simp)] at hc
  simpa using hc.symm
theorem sign_next {x : Str} {n c : Nat} (hx : x.cps.toList = List.replicate n 32 ++ [9, 120, 32, 9]) (hc : x.cps[n + 1]? = some c) : c = 120 := by
  rw [← Array.getElem?_toList, hx, List.getElem?_append_right (by simp)] at hc
  simpa using hc.symm

theorem ws_turn1 {g h : Heap} {L o d cnt : Addr} {x : Str} {t t1 t2 tb tn tnt : Tok} {n i : Nat} {rest own : List (Addr × Obj)} {c ch : Option Value} {s₁ : Shared} {tk : Nat} (hi : i < n)
    (F : Fr g L h (fun y => if y = Str.ofString "b" then some (.int ((i : Int) + 1) t1) else if y = Str.ofString "n" then some (.int ((i : Int) + 1) t2) else if y = Str.ofString "ch" then c else wsM o x t cnt i i 0 tb tn tnt ch y))
    (N : News g L h (((cnt, listOf ([] : List Value).toArray 0) :: rest) ++ own)) (hoff : OwnOff own (((cnt, listOf ([] : List Value).toArray 0) :: rest).map (·.1))) :
    InvEndG g L (WsJ o d x t cnt n rest (i + 1)) own s₁ { s₁ with heap := h, toks := tk } := by
  refine InvEndG.intro F N (.inl ⟨hi, t1, t2, tnt, c, ?_, rfl⟩) hoff (fun p hp => List.mem_append_left _ hp) (fun p hp => List.mem_append_right _ hp)
  funext y
  by_cases h1 : y = Str.ofString "ch"
  · subst h1; rfl
  by_cases h2 : y = Str.ofString "b"
  · subst h2; rfl
  by_cases h3 : y = Str.ofString "n"
  · subst h3; rfl
  simp only [wsM, h1, h2, h3, if_false]

theorem zeros_set (i : Nat) : (([] : List Int) ++ (List.replicate ((i : Int) - 0 + 1).toNat [(0 : Int)]).flatten).set (i : Int).toNat ((([] : List Int) ++ (List.replicate ((i : Int) - 0 + 1).toNat [(0 : Int)]).flatten).getD (i : Int).toNat 0 + 1) = List.replicate i 0 ++ [1] := by
  have e1 : ((i : Int) - 0 + 1).toNat = i + 1 := by omega
  have e2 : (i : Int).toNat = i := by omega
  have e3 : (List.replicate (i + 1) [(0 : Int)]).flatten = List.replicate (i + 1) 0 := by simp
  rw [e1, e2, e3, List.nil_append, List.replicate_succ']
  simp [List.set_append_right]
theorem ws_turn2 {g h : Heap} {L o d cnt D : Addr} {x : Str} {t t1 t2 t3 tb tn tnt : Tok} {i k : Nat} {rest own : List (Addr × Obj)} {e1 e2 : Addr × Obj} {c ch : Option Value} {us : List Value} {s₁ : Shared} {tk : Nat} (hus : IntsAre us (List.replicate i 0 ++ [1]))
    (hlt : AllLt D (((cnt, listOf ([] : List Value).toArray 0) :: rest) ++ own))
    (F : Fr g L h (fun y => if y = Str.ofString "b" then some (.int 0 t1) else if y = Str.ofString "count" then some (.ref D) else if y = Str.ofString "nt" then some (.int (0 + 1) t3) else if y = Str.ofString "n" then some (.int ((i : Int) + 1) t2) else if y = Str.ofString "ch" then c else wsM o x t cnt i i 0 tb tn tnt ch y))
    (N : News g L h ((D, listOf us.toArray k) :: e1 :: e2 :: (((cnt, listOf ([] : List Value).toArray 0) :: rest) ++ own))) (hoff : OwnOff own (((cnt, listOf ([] : List Value).toArray 0) :: rest).map (·.1))) :
    InvEndG g L (WsJ o d x t cnt i rest (i + 1)) own s₁ { s₁ with heap := h, toks := tk } := by
  have hin := allLt_in hlt
  refine InvEndG.intro (nx := (D, listOf us.toArray k) :: rest) F N (.inr ⟨rfl, D, k, us, t1, t2, t3, c, ?_, rfl, hus, ?_⟩) ?_ (fun p hp => ?_) (fun p hp => .tail _ (.tail _ (.tail _ (List.mem_append_right _ hp))))
  · funext y
    by_cases h1 : y = Str.ofString "ch"
    · subst h1; rfl
    by_cases h2 : y = Str.ofString "b"
    · subst h2; rfl
    by_cases h3 : y = Str.ofString "n"
    · subst h3; rfl
    by_cases h4 : y = Str.ofString "nt"
    · subst h4; rfl
    by_cases h5 : y = Str.ofString "count"
    · subst h5; rfl
    simp only [wsM, h1, h2, h3, h4, h5, if_false]
  · exact allLt_of fun p hp => hin p (List.mem_append_left _ (.tail _ hp))
  · intro p hp b hb
    rcases List.mem_cons.mp hb with rfl | hb
    · exact Nat.ne_of_lt (hin p (List.mem_append_right _ hp))
    · exact hoff p hp b (.tail _ hb)
  · rcases List.mem_cons.mp hp with rfl | hp
    · exact .head _
    · exact .tail _ (.tail _ (.tail _ (List.mem_append_left _ (.tail _ hp))))

abbrev tupObj (vs : List Value) : Obj := { cls := .type "tuple", data := .seq vs.toArray }
abbrev wsDict (w : World) (x : Str) (t t1 t2 t3 t4 t5 tn tnt : Tok) (n : Nat) (nm : Addr) (b : Bool) : List DictEntry :=
  [⟨PyData.keyHash w.params (Str.ofString "raw"), .str (Str.ofString "raw") t1, .str x t⟩, ⟨PyData.keyHash w.params (Str.ofString "n"), .str (Str.ofString "n") t2, .int ((n : Int) + 1) tn⟩,
   ⟨PyData.keyHash w.params (Str.ofString "nt"), .str (Str.ofString "nt") t3, .int 1 tnt⟩, ⟨PyData.keyHash w.params (Str.ofString "norm"), .str (Str.ofString "norm") t4, .ref nm⟩,
   ⟨PyData.keyHash w.params (Str.ofString "is_simple"), .str (Str.ofString "is_simple") t5, .bool b⟩]
def WsPost (w : World) (x : Str) (n : Nat) (news : List (Addr × Obj)) (r : Value) (news' : List (Addr × Obj)) : Prop :=
  ∃ (o d nm ct : Addr) (vs : List Value) (t t1 t2 t3 t4 t5 tn tnt tb : Tok) (b : Bool), r = .ref o ∧ IntsAre vs (List.replicate n 0 ++ [1]) ∧
    news' = (o, instObj 118 d) :: (d, dictOf (wsDict w x t t1 t2 t3 t4 t5 tn tnt n nm b) 5) :: (nm, tupObj [.ref ct, .int 0 tb]) :: (ct, tupObj vs) :: news
theorem ws_news {h₀ h : Heap} {L : Addr} {e1 e2 e3 e4 e5 : Addr × Obj} {r : List (Addr × Obj)} (N : News h₀ L h (e1 :: e2 :: e3 :: e4 :: e5 :: r)) : News h₀ L h (e4 :: e5 :: e1 :: e2 :: r) := fun x hx => N x (by
  simp only [List.mem_cons] at hx ⊢
  rcases hx with h | h | h | h | h <;> simp [h])
theorem newsLeft {h₀ h : Heap} {L : Addr} {a b : List (Addr × Obj)} (N : News h₀ L h (a ++ b)) : News h₀ L h a := fun p hp => N p (List.mem_append_left _ hp)
local macro_rules | `(tactic| walk_at "call builtin:len") => `(tactic| (k_here; (with_reducible show wpAny _ _ (call (Value.builtin "len") [Value.ref _]) _ _ _); k_dflt (refine' len_led ?k1 ?k2 ?k3 ?_; (case k1 => k_asm); (case k2 => k_mem); (case k3 => omega); k_whole)))
local macro_rules | `(tactic| walk_at "call type:tuple") => `(tactic| (k_here; (with_reducible show wpAny _ _ (call (Value.type _) [Value.ref _]) _ _ _); k_dflt (refine' kde_tupleOf ?k1 ?k2 ?k3 ?k4 ?k5 ?_; (case k1 => k_asm); (case k2 => k_asm); (case k3 => exact News.isList (by k_asm) (by k_mem)); (case k5 => exact List.toList_toArray); (case k4 => (simp only [List.size_toArray]; omega)); k_whole); intro D' h' F' N' l1; (try k_lt l1); (try k_sweep)))
set_option maxHeartbeats 4000000 in
theorem ws_ctr (w : World) (mean : ExcName → Option Value) (mg mb : Str → Option Value) {n : Nat} {x : Str} (hx : x.cps.toList = List.replicate n 32 ++ [9, 120, 32, 9]) (hn : n ≤ 250) (t : Tok) {news : List (Addr × Obj)} :
    Ctr w mean mg mb 2 118 [.str x t] news (WsPost w x n news) := by
  unfold Ctr
  intro dp un gd cn cs a ccd cl outer A₀ base h₀ L m s Q E B F X N T hk hd hu hret
  k_dflt (refine' call_cls ?k1 ?k2 ?k3 ?k4 ?k5 ?k6 ?_; (case k1 => k_asm); (case k2 => k_asm); (case k3 => k_asm); (case k4 => k_is); (case k5 => k_is); (case k6 => k_is))
  intro o d h1 F1 N1 l1 l2
  (try k_lt l1); (try k_lt2 l2)
  k_dflt ktr_enter
  have hoffd : ∀ p ∈ news, p.1 ≠ d := fun p hp => Nat.ne_of_lt (l1 p hp)
  walk_at "m:toFor"
  rename Fr _ _ _ _ => F2
  rename News _ _ _ _ => N2
  rename _ ∧ _ ∧ _ ∧ AllLt _ _ => l3
  replace F2 := Fr.to F2 ws_start
  refine For_invVF F2 rfl rfl ?_
  walk_at "m:step"
  walk_at "m:step"
  walk_at "m:step"
  refine iter_text (WsJ o d x t _ n _) (ascii_of hx) rfl F2 (newsDrop2 N2) (.inl ⟨Nat.zero_le _, _, _, _, _, rfl, rfl⟩) ?_ ?_
  · rintro i c tc m1 nx h4 tk4 own hc hoff (⟨hi, tb, tn, tnt, ch, rfl, rfl⟩ | ⟨rfl, c2, k, vs, tb, tn, tnt, ch, rfl, rfl, hvs, hlt⟩) F4 N4
    · rcases Nat.lt_or_eq_of_le hi with hi | rfl
      · obtain rfl := sign_lt hx hc hi
        clear F2 N2
        k_steps
        exact ws_turn1 hi (by k_asm) (by k_asm) hoff
      · obtain rfl := sign_at hx hc
        clear F2 N2
        k_steps
        rename IntsAre _ _ => hus
        rw [zeros_set] at hus
        rename _ ∧ _ ∧ AllLt _ _ => l9
        exact ws_turn2 hus l9.2.2 (by k_asm) (by k_asm) hoff
    · obtain rfl := sign_next hx hc
      clear F2 N2
      replace N4 := newsLeft N4
      simp only [AllLt] at hlt
      have hvl := hvs.length
      simp only [List.length_append, List.length_replicate, List.length_cons, List.length_nil] at hvl
      k_steps
      exact hret _ _ _ _ (by k_asm) (ws_news (by assumption)) ⟨_, _, _, _, _, _, _, _, _, _, _, _, _, _, _, rfl, hvs, rfl⟩
  · rintro m1 nx h4 tk4 (⟨hi, _⟩ | ⟨hi, _⟩) F4 N4
    · have := ws_size hx; omega
    · have := ws_size hx; omega
end Mine
end
section
local macro_rules | `(tactic| walk_at "m:pad") => `(tactic| skip)
local macro_rules | `(tactic| walk_at "m:pad") => `(tactic| skip)
local macro_rules | `(tactic| walk_at "m:pad") => `(tactic| skip)
local macro_rules | `(tactic| walk_at "m:pad") => `(tactic| skip)
theorem Mine.off5 : True := by
  w_top off
  trivial
namespace Mine
section
variable {prog : Program} {w : World} {A : Around} {E : Value → Shared → Prop} {s : Shared} {h₀ : Heap} {L : Addr} {news : List (Addr × Obj)}
theorem len_tup {a : Addr} {vs : List Value} {Q : Value → Shared → Prop} (N : News h₀ L s.heap news) (hm : (a, tupObj vs) ∈ news) (hfit : vs.length < 2 ^ 62)
    (h : Q (.int (vs.length : Nat) (s.toks + 1)) { s with toks := s.toks + 1 + 1 }) : wpAny (model prog w) A (call (.builtin "len") [.ref a]) Q E s :=
  len_tuple ⟨_, (N _ hm).1, rfl, _, rfl⟩ (by simp only [List.size_toArray]; omega) (by simpa using h)
end
local macro_rules | `(tactic| walk_at "call builtin:len") => `(tactic| (k_here; (with_reducible show wpAny _ _ (call (Value.builtin "len") [Value.ref _]) _ _ _); k_dflt (refine' len_tup ?k1 ?k2 ?k3 ?_; (case k1 => k_asm); (case k2 => k_mem); (case k3 => omega); k_whole)))
section
variable {prog : Program} {w : World} {A : Around} {E : Value → Shared → Prop} {s : Shared} {h₀ : Heap} {L : Addr} {news : List (Addr × Obj)}
theorem item_tup {value slice : Expr} {a : Addr} {vs : List Value} {ns : List Int} {k : Int} {u : Tok} {Q : Value → Shared → Prop} (N : News h₀ L s.heap news) (hm : (a, tupObj vs) ∈ news) (hi : IntsAre vs ns) (h0 : 0 ≤ k) (h1 : k < ns.length) (hfit : k < 2 ^ 63)
    (h : ∀ t, Q (.int (ns.getD k.toNat 0) t) s)
    (hs : subscripted slice false (.ref a) (.int k u) = operate [.ref a, .int k u] (getItem (.ref a) (.int k u)) := by with_unfolding_all rfl) (hg : ∀ r, letTemporaryGo value (.ref a) r = pure () := by intro _; with_unfolding_all rfl) :
    wpAny (model prog w) A (subscriptTail value slice (.ref a) (.int k u)) Q E s := by
  have hl := hi.length
  have hj : k.toNat < ns.length := by omega
  obtain ⟨t, hx⟩ := hi.get k.toNat ns[k.toNat] (by simp [hj])
  have e : ns.getD k.toNat 0 = ns[k.toNat] := by simp [List.getD, hj]
  refine kim_tup (lo := tupObj vs) N hm rfl rfl (by omega) hfit (seqIndex_at h0 (by omega)) hx ?_ hs hg
  rw [← e]; exact h t
end
local macro_rules | `(tactic| walk_at "subscriptTail") => `(tactic| (k_here; (with_reducible show wpAny _ _ (subscriptTail _ _ (Value.ref _) (Value.int _ _)) _ _ _); k_dflt (refine' item_tup ?k1 ?k2 ?k3 ?k4 ?k5 ?k6 ?_ ?k7; (case k1 => k_asm); (case k2 => k_mem); (case k3 => with_reducible assumption); (case k4 => omega); (case k5 => omega); (case k6 => omega); (case k7 => with_unfolding_all rfl); k_whole); intro _))
abbrev lvlM (o ct : Addr) (sz : Nat) (t : Tok) (tb : Tok) (il : Int) (ti : Tok) (i : Option Value) : Str → Option Value := fun y =>
  if y = Str.ofString "i" then i else if y = Str.ofString "il" then some (.int il ti) else if y = Str.ofString "trailing" then some (.int 0 tb) else if y = Str.ofString "count" then some (.ref ct) else
  if y = Str.ofString "tabsize" then some (.int sz t) else if y = Str.ofString "self" then some (.ref o) else none
def lvlAt (n sz k : Nat) : Int := if n < sz + k then ((n / sz : Nat) : Int) else 0
theorem lvlAt_zero (n sz : Nat) : lvlAt n sz 0 = 0 := by
  unfold lvlAt
  split
  · rw [Nat.div_eq_of_lt (by omega)]; rfl
  · rfl
theorem lvl_start {o ct : Addr} {sz : Nat} {t tb ti : Tok} (n : Nat) (y : Str) :
    (if y = Str.ofString "il" then some (Value.int 0 ti) else if y = Str.ofString "trailing" then some (Value.int 0 tb) else if y = Str.ofString "count" then some (Value.ref ct) else
      List.lookup y [(Str.ofString "tabsize", Value.int sz t), (Str.ofString "self", Value.ref o)]) = lvlM o ct sz t tb (lvlAt n sz 0) ti none y := by
  rw [lvlAt_zero]
  simp only [lookup_ite, List.lookup_nil, lvlM]
  by_cases h1 : y = Str.ofString "i"
  · subst h1; rfl
  simp only [h1, if_false]
def LvlJ (o ct : Addr) (n sz : Nat) (t tb : Tok) (led : List (Addr × Obj)) (k : Nat) (m : Str → Option Value) (nx : List (Addr × Obj)) : Prop :=
  ∃ ti i, m = lvlM o ct sz t tb (lvlAt n sz k) ti i ∧ nx = led
theorem fdiv_nat (a b : Nat) : Int.fdiv (a : Int) (b : Int) = ((a / b : Nat) : Int) := by
  rw [Int.fdiv_eq_ediv_of_nonneg _ (by omega)]; simp
theorem lvl_mul {n sz i : Nat} (hn : n ≤ 250) (hi : i < n + 1 - sz) (b : Int) : IntMulOk (Int.fdiv ((sz : Int) + (i : Int) * 1) (sz : Int)) b := by
  have e : (sz : Int) + (i : Int) * 1 = ((sz + i : Nat) : Int) := by omega
  have h := Nat.div_le_self (sz + i) sz
  rw [e, fdiv_nat]
  generalize (sz + i) / sz = q at h
  exact .of_left (intBits_le_64 (by omega) (by omega))
theorem lvl_step {n sz i : Nat} (hi : i < n + 1 - sz) : lvlAt n sz i + Int.fdiv ((sz : Int) + (i : Int) * 1) (sz : Int) * (List.replicate n (0 : Int) ++ [1]).getD ((sz : Int) + (i : Int) * 1).toNat 0 = lvlAt n sz (i + 1) := by
  have e : (sz : Int) + (i : Int) * 1 = ((sz + i : Nat) : Int) := by omega
  have e2 : ((sz : Int) + (i : Int) * 1).toNat = sz + i := by omega
  rw [e2, e, fdiv_nat]
  unfold lvlAt
  by_cases h : sz + i = n
  · have e3 : (List.replicate n (0 : Int) ++ [1]).getD (sz + i) 0 = 1 := by
      rw [h]; simp [List.getD]
    rw [e3, if_neg (by omega), if_pos (by omega), h]; omega
  · have e3 : (List.replicate n (0 : Int) ++ [1]).getD (sz + i) 0 = 0 := by
      simp only [List.getD]
      rw [List.getElem?_append_left (by simp; omega), List.getElem?_replicate, if_pos (by omega)]; rfl
    rw [e3, if_neg (by omega), if_neg (by omega)]; omega
theorem lvl_turn {g h : Heap} {L o ct : Addr} {n sz i : Nat} {t t6 t7 tb : Tok} {led own : List (Addr × Obj)} {c i6 : Option Value} {il : Int} {s₁ : Shared} {tk : Nat} (hil : il = lvlAt n sz (i + 1))
    (F : Fr g L h (fun y => if y = Str.ofString "il" then some (.int il t7) else if y = Str.ofString "i" then c else lvlM o ct sz t tb (lvlAt n sz i) t6 i6 y))
    (N : News g L h (led ++ own)) (hoff : OwnOff own (led.map (·.1))) :
    InvEndG g L (LvlJ o ct n sz t tb led (i + 1)) own s₁ { s₁ with heap := h, toks := tk } := by
  refine InvEndG.intro F N ⟨t7, c, ?_, rfl⟩ hoff (fun p hp => List.mem_append_left _ hp) (fun p hp => List.mem_append_right _ hp)
  subst hil
  funext y
  by_cases h1 : y = Str.ofString "i"
  · subst h1; rfl
  by_cases h2 : y = Str.ofString "il"
  · subst h2; rfl
  simp only [lvlM, h1, h2, if_false]
theorem lvl_end {n sz : Nat} : lvlAt n sz (n + 1 - sz) = ((n / sz : Nat) : Int) := by
  unfold lvlAt
  rw [if_pos (by omega)]
theorem newsDrop4 {h₀ h : Heap} {L : Addr} {e1 e2 e3 e4 : Addr × Obj} {r : List (Addr × Obj)} (N : News h₀ L h (e1 :: e2 :: e3 :: e4 :: r)) : News h₀ L h r := fun x hx => N x (.tail _ (.tail _ (.tail _ (.tail _ hx))))
set_option maxHeartbeats 4000000 in
theorem lvl_ctr (w : World) (mean : ExcName → Option Value) (mg mb : Str → Option Value) {n sz : Nat} {x : Str} (hn : n ≤ 250) (h1 : 1 ≤ sz) (hz : sz ≤ 250) (t : Tok) {o d nm ct : Addr} {vs : List Value} {tr t1 t2 t3 t4 t5 tn tnt tb : Tok} {b : Bool}
    (hvs : IntsAre vs (List.replicate n 0 ++ [1])) {news : List (Addr × Obj)} :
    Ctr w mean mg mb 1 87 [.ref o, .int sz t] ((o, instObj 118 d) :: (d, dictOf (wsDict w x tr t1 t2 t3 t4 t5 tn tnt n nm b) 5) :: (nm, tupObj [.ref ct, .int 0 tb]) :: (ct, tupObj vs) :: news)
      (fun r n' => (∃ u, r = .int ((sz : Int) * ((n / sz : Nat) + 1)) u) ∧ n' = news) := by
  have hvl := hvs.length
  simp only [List.length_append, List.length_replicate, List.length_cons, List.length_nil] at hvl
  unfold Ctr
  intro dp un gd cn cs a ccd cl outer A₀ base h₀ L m s Q E B F X N T hk hd hu hret
  refine wpAny_call ?_
  k_dflt ktr_enter
  walk_at "m:toFor"
  rename Fr _ _ _ _ => F2
  refine For_invVF F2 rfl rfl ?_
  walk_at "m:toIter"
  rename Fr _ _ _ _ => F3
  rename News _ _ _ _ => N3
  rename IsRange _ _ _ _ _ _ _ _ => R3
  simp only [List.length_append, List.length_replicate, List.length_cons, List.length_nil] at R3
  replace F3 := Fr.to F3 (lvl_start n)
  refine iter_rng (n := n + 1 - sz) (LvlJ o ct n sz t tb _) rfl R3 (small_one (by omega) (by omega) (by omega) (by omega)) (by rw [rangeSize_nat]; omega) F3 N3 ⟨_, _, rfl, rfl⟩ ?_ ?_
  · rintro i ti m1 nx h4 tk4 own hi hoff ⟨t6, i6, rfl, rfl⟩ F4 N4
    clear F3 N3
    k_steps
    refine mul_int ?_ (lvl_mul hn hi _)
    k_steps
    exact lvl_turn (lvl_step hi) (by k_asm) (by k_asm) hoff
  · rintro m1 nx h4 tk4 ⟨t6, i6, rfl, rfl⟩ F4 N4
    clear F3 N3
    k_steps
    have e9 : (0 : Int) + (sz : Int) * (lvlAt n sz (n + 1 - sz) + 1) = (sz : Int) * ((n / sz : Nat) + 1) := by rw [lvl_end, Int.zero_add]
    rw [e9]
    exact hret _ _ _ _ (by k_asm) (newsDrop4 (by assumption)) ⟨⟨_, rfl⟩, rfl⟩
end Mine
end
section
theorem Mine.off6 : True := by
  w_top off
  trivial
namespace Mine
def colN (us : List Nat) : Nat → Nat → Nat
  | 0, c => c
  | k + 1, c => colN us k ((k + 1) * ((c + (k + 1) - us.getD k 0) / (k + 1)))
def toZ (us : List Nat) : List Int := us.map fun (u : Nat) => (u : Int)

abbrev colM (st : Addr) (p : Nat) (t : Tok) (c : Nat) (tc : Tok) (sz : Option Value) : Str → Option Value := fun y =>
  if y = Str.ofString "column" then some (.int c tc) else if y = Str.ofString "size" then sz else if y = Str.ofString "starts" then some (.ref st) else if y = Str.ofString "place" then some (.int p t) else none
theorem col_start {st : Addr} {p n : Nat} {t tc : Tok} (y : Str) :
    (if y = Str.ofString "column" then some (Value.int (((n : Nat) + 1 : Int) * (p : Int)) tc) else List.lookup y [(Str.ofString "starts", Value.ref st), (Str.ofString "place", Value.int p t)]) = colM st p t ((n + 1) * p) tc none y := by
  have e : ((n : Nat) + 1 : Int) * (p : Int) = (((n + 1) * p : Nat) : Int) := by simp
  rw [e]
  simp only [lookup_ite, List.lookup_nil, colM]
  by_cases h1 : y = Str.ofString "size"
  · subst h1; rfl
  simp only [h1, if_false]
def ColJ (st : Addr) (us : List Nat) (p : Nat) (t : Tok) (led : List (Addr × Obj)) (i : Nat) (m : Str → Option Value) (nx : List (Addr × Obj)) : Prop :=
  ∃ c tc sz, colN us (us.length - i) c = colN us us.length ((us.length + 1) * p) ∧ c ≤ 210 + 5 * i ∧ m = colM st p t c tc sz ∧ nx = led

theorem toZ_getD (us : List Nat) (k : Nat) : (toZ us).getD k 0 = (us.getD k 0 : Nat) := by
  simp only [toZ, List.getD, List.getElem?_map]
  cases us[k]? <;> rfl
theorem col_int {us : List Nat} {c k' : Nat} (h : us.getD k' 0 ≤ k' + 1) : (c : Int) + ((k' + 1 : Nat) : Int) - (toZ us).getD (((k' + 1 : Nat) : Int) - 1).toNat 0 = ((c + (k' + 1) - us.getD k' 0 : Nat) : Int) := by
  have e : (((k' + 1 : Nat) : Int) - 1).toNat = k' := by omega
  rw [e, toZ_getD]; omega
theorem foldl_blank (n : Nat) (acc : Array Nat) : ((List.replicate n (#[32] : Array Nat)).foldl (· ++ ·) acc).toList = acc.toList ++ List.replicate n 32 := by
  induction n generalizing acc with
  | zero => simp
  | succ n ih => rw [List.replicate_succ, List.foldl_cons, ih, List.replicate_succ]; simp
theorem blanks_cps (n : Nat) : (Txt.mul (Str.ofString " ") (n : Int)).cps.toList = List.replicate n 32 := by
  unfold Txt.mul
  have e : (Str.ofString " ").cps = #[32] := by decide +kernel
  have hl : ((Str.ofString " ").length == 0) = false := by decide +kernel
  by_cases h : (n : Int) < 1
  · have : n = 0 := by omega
    subst this
    rw [if_pos h]; rfl
  · rw [if_neg h, hl, Bool.or_false]
    by_cases h1 : n = 1
    · subst h1; simp [e]
    · have : ((n : Int) == 1) = false := by simpa using (by omega : (n : Int) ≠ 1)
      rw [this]
      simp only [Bool.false_eq_true, if_false, Int.toNat_natCast, e]
      rw [foldl_blank]; simp
theorem blanks_len (n : Nat) : (Txt.mul (Str.ofString " ") (n : Int)).length = n := by
  show (Txt.mul (Str.ofString " ") (n : Int)).cps.size = n
  rw [← Array.length_toList, blanks_cps]; simp
theorem lead_cps (n : Nat) : (Txt.mul (Str.ofString " ") (n : Int) ++ Str.ofString "\tx \t").cps.toList = List.replicate n 32 ++ [9, 120, 32, 9] := by
  rw [Str.cps_append, Array.toList_append, blanks_cps]
  congr 1
theorem blanks_ok {n : Nat} (hn : n ≤ 250) : MulOk (Str.ofString " ") (n : Int) := mulOk_of 16 1048576 (by decide) (by omega) (by omega) (by decide) (by decide)
theorem col_turn {g h : Heap} {L st : Addr} {us : List Nat} {p i k' c : Nat} {t tc t7 : Tok} {led own : List (Addr × Obj)} {c2 c3 sz : Option Value} {s₁ : Shared} {tk : Nat} (hk' : us.length - i = k' + 1) (hl : us.length ≤ 5)
    (hc : colN us (us.length - i) c = colN us us.length ((us.length + 1) * p)) (hcb : c ≤ 210 + 5 * i)
    (F : Fr g L h (fun y => if y = Str.ofString "column" then some (.int (((k' + 1 : Nat) : Int) * (((c + (k' + 1) - us.getD k' 0) / (k' + 1) : Nat) + 1) - ((k' + 1 : Nat) : Int)) t7) else if y = Str.ofString "column" then c2 else if y = Str.ofString "size" then c3 else colM st p t c tc sz y))
    (N : News g L h (led ++ own)) (hoff : OwnOff own (led.map (·.1))) :
    InvEndG g L (ColJ st us p t led (i + 1)) own s₁ { s₁ with heap := h, toks := tk } := by
  have hq := Nat.mul_div_le (c + (k' + 1) - us.getD k' 0) (k' + 1)
  refine InvEndG.intro F N ⟨(k' + 1) * ((c + (k' + 1) - us.getD k' 0) / (k' + 1)), t7, c3, ?_, ?_, ?_, rfl⟩ hoff (fun p hp => List.mem_append_left _ hp) (fun p hp => List.mem_append_right _ hp)
  · have e : us.length - (i + 1) = k' := by omega
    rw [e, ← hc, hk', colN]
  · omega
  · funext y
    by_cases h1 : y = Str.ofString "column"
    · subst h1
      simp only [colM, if_true]
      congr 2
      generalize (c + (k' + 1) - us.getD k' 0) / (k' + 1) = q
      rw [Int.mul_add, Int.mul_one, Int.natCast_mul]; omega
    · simp only [colM, h1, if_false]
      by_cases h2 : y = Str.ofString "size"
      · simp only [h2, if_true]
      · simp only [h2, if_false]
local macro_rules | `(tactic| walk_at "call builtin:len") => `(tactic| (k_here; (with_reducible show wpAny _ _ (call (Value.builtin "len") [Value.ref _]) _ _ _); k_dflt (refine' len_led ?k1 ?k2 ?k3 ?_; (case k1 => k_asm); (case k2 => first | assumption | k_mem); (case k3 => omega); k_whole)))
set_option maxHeartbeats 4000000 in
theorem column_ctr (w : World) (mean : ExcName → Option Value) (mg mb : Str → Option Value) {p k : Nat} {us : List Nat} {vs : List Value} {st : Addr} (hp : p ≤ 35) (hl : us.length ≤ 5) (hu5 : ∀ i, us.getD i 0 ≤ i + 1) (t : Tok)
    (hvs : IntsAre vs (toZ us)) {news : List (Addr × Obj)} (hm : (st, listOf vs.toArray k) ∈ news) :
    Ctr w mean mg mb 4 148 [.int p t, .ref st] news (fun r n' => (∃ u, r = .int (colN us us.length ((us.length + 1) * p)) u) ∧ n' = news) := by
  have hvl := hvs.length
  simp only [toZ, List.length_map] at hvl
  unfold Ctr
  intro dp un gd cn cs a ccd cl outer A₀ base h₀ L m s Q E B F X N T hk hd hu hret
  refine wpAny_call ?_
  k_dflt ktr_enter
  walk_at "m:toFor"
  rename Fr _ _ _ _ => F2
  refine For_invVF F2 rfl rfl ?_
  walk_at "m:toIter"
  rename Fr _ _ _ _ => F3
  rename News _ _ _ _ => N3
  rename IsRange _ _ _ _ _ _ _ _ => R3
  rw [hvl] at F3 R3
  replace F3 := Fr.to F3 col_start
  have hc0 : (us.length + 1) * p ≤ 6 * 35 := Nat.mul_le_mul (by omega) hp
  refine iter_rng (n := us.length) (ColJ st us p t news) rfl R3 (small_down (by omega) (by omega) (by omega) (by omega)) (by rw [rangeSize_downNat]; omega) F3 N3 ⟨_, _, _, rfl, by omega, rfl, rfl⟩ ?_ ?_
  · rintro i ti m1 nx h4 tk4 own hi hoff ⟨c, tc, sz, hc, hcb, rfl, rfl⟩ F4 N4
    clear F3 N3 R3
    obtain ⟨k', hk'⟩ : ∃ k', us.length - i = k' + 1 := ⟨us.length - i - 1, by omega⟩
    have e : (us.length : Int) + (i : Int) * -1 = ((k' + 1 : Nat) : Int) := by omega
    rw [e] at F4
    have hm4 : (st, listOf vs.toArray k) ∈ nx ++ own := List.mem_append_left _ hm
    repeat ((fail_if_success (with_reducible show wpAny _ _ (binaryOp Operator.Mult (Value.str _ _) _) _ _ _)); walk_at "m:step")
    rename Fr _ _ _ _ => F5
    have hu6 := hu5 k'
    rw [col_int hu6] at F5
    rw [col_int hu6]
    refine SB.mul (blanks_ok (by omega)) ?_
    intro t7 k7
    walk_at "m:step"
    refine add_str ?_ (by rw [blanks_len, sizeLine_eq]; have : (Str.ofString "\tx \t").length = 4 := by decide +kernel
                          omega)
    intro t8 k8
    walk_at "m:toCall"
    refine Ctr.use (ws_ctr w mean mg mb (lead_cps _) (by omega) _) (by k_asm) (by k_asm) (by k_asm) (by k_asm) (by k_asm) rfl (by ktr_room) (by ktr_units) ?_
    rintro r9 h9 tk9 n9 F9 N9 ⟨o, d, nm, ct, ws, tr, t1, t2, t3, t4, t5, tn, tnt, tb, b, rfl, hws, rfl⟩
    walk_at "m:toCall"
    refine Ctr.use (lvl_ctr w mean mg mb (by omega) (by omega) (by omega) _ hws) (by k_asm) (by k_asm) (by k_asm) (by k_asm) (by k_asm) rfl (by ktr_room) (by ktr_units) ?_
    rintro r10 h10 tk10 n10 F10 N10 ⟨⟨u10, rfl⟩, rfl⟩
    clear N9 F9
    k_steps
    exact col_turn hk' hl hc hcb (by k_asm) (by k_asm) hoff
  · rintro m1 nx h4 tk4 ⟨c, tc, sz, hc, hcb, rfl, rfl⟩ F4 N4
    clear F3 N3
    rw [Nat.sub_self, colN] at hc
    subst hc
    k_steps
    exact hret _ _ _ _ (by k_asm) (by k_asm) ⟨⟨_, rfl⟩, rfl⟩
end Mine
end
section
local macro_rules | `(tactic| walk_at "m:pad") => `(tactic| skip)
local macro_rules | `(tactic| walk_at "m:pad") => `(tactic| skip)
local macro_rules | `(tactic| walk_at "m:pad") => `(tactic| skip)
local macro_rules | `(tactic| walk_at "m:pad") => `(tactic| skip)
theorem Mine.off7 : True := by
  w_top off
  trivial
namespace Mine
def stN (us : List Nat) : Nat → Nat → Nat → List Nat
  | 0, _, _ => []
  | f + 1, k, R => ((k + 2) * ((R + k + 1 - us.getD k 0) / (k + 2) + 1) - (R + k + 1 - us.getD k 0) - 1) :: stN us f (k + 1) (R - (R + k + 1 - us.getD k 0) / (k + 2))

abbrev stnM (S st : Addr) (R : Nat) (t : Tok) (k bl co : Option Value) : Str → Option Value := fun y =>
  if y = Str.ofString "moves" then some (.int R t) else if y = Str.ofString "column" then co else if y = Str.ofString "blanks" then bl else if y = Str.ofString "k" then k else if y = Str.ofString "stones" then some (.ref S) else if y = Str.ofString "starts" then some (.ref st) else none
theorem stn_start {S st : Addr} {R : Nat} {t : Tok} (y : Str) :
    (if y = Str.ofString "stones" then some (Value.ref S) else List.lookup y [(Str.ofString "starts", Value.ref st), (Str.ofString "moves", Value.int R t)]) = stnM S st R t none none none y := by
  simp only [lookup_ite, List.lookup_nil, stnM]
  by_cases h1 : y = Str.ofString "moves"
  · subst h1; rfl
  by_cases h2 : y = Str.ofString "column"
  · subst h2; rfl
  by_cases h3 : y = Str.ofString "blanks"
  · subst h3; rfl
  by_cases h4 : y = Str.ofString "k"
  · subst h4; rfl
  simp only [h1, h2, h3, h4, if_false]
def StnJ (S st : Addr) (us : List Nat) (R₀ : Nat) (led : List (Addr × Obj)) (i : Nat) (m : Str → Option Value) (nx : List (Addr × Obj)) : Prop :=
  ∃ (R : Nat) (t : Tok) (k bl co : Option Value) (don : List Nat) (ws : List Value) (c : Nat), don ++ stN us (us.length - i) i R = stN us us.length 0 R₀ ∧ R ≤ R₀ ∧ don.length = i ∧ IntsAre ws (toZ don) ∧ m = stnM S st R t k bl co ∧ nx = (S, listOf ws.toArray c) :: led

theorem stn_int {us : List Nat} {R i : Nat} (h : us.getD i 0 ≤ i + 1) : (R : Int) + (i : Int) + 1 - (toZ us).getD (i : Int).toNat 0 = ((R + i + 1 - us.getD i 0 : Nat) : Int) := by
  rw [Int.toNat_natCast, toZ_getD]; omega
theorem stn_off {S : Addr} {ob : Obj} {news own : List (Addr × Obj)} (hoff : OwnOff own (((S, ob) :: news).map (·.1))) (l1 : ∀ p ∈ news, p.1 < S) : ∀ p ∈ news ++ own, p.1 ≠ S := by
  intro p hp
  rcases List.mem_append.mp hp with hp | hp
  · exact Nat.ne_of_lt (l1 p hp)
  · exact hoff p hp S (.head _)
theorem stn_le {R i u : Nat} : (R + i + 1 - u) / (i + 2) ≤ R := by
  have h1 : R + i + 1 - u ≤ R + i + 1 := Nat.sub_le _ _
  have h2 := Nat.div_le_div_right (c := i + 2) h1
  have h3 : (R + i + 1) / (i + 2) ≤ R := by
    rw [Nat.div_le_iff_le_mul_add_pred (by omega)]
    have : R ≤ (i + 2) * R := Nat.le_mul_of_pos_left R (by omega)
    omega
  omega
theorem stn_fdiv (i q : Nat) : Int.fdiv (((i + 2 : Nat) : Int) * ((q : Int) + 1)) ((i : Int) + 2) = (q : Int) + 1 := by
  have e : ((i : Int) + 2) = ((i + 2 : Nat) : Int) := by omega
  have e2 : ((i + 2 : Nat) : Int) * ((q : Int) + 1) = (((i + 2) * (q + 1) : Nat) : Int) := by rw [Int.natCast_mul]; rfl
  rw [e, e2, fdiv_nat, Nat.mul_div_cancel_left _ (by omega)]; rfl
theorem stn_turn {g h : Heap} {L S st : Addr} {us don : List Nat} {R i R1 c : Nat} {t1 t7 t8 : Tok} {news own : List (Addr × Obj)} {co bl kv k1 bl1 co1 : Option Value} {ws : List Value} {s₁ : Shared} {tk : Nat} (hi : i < us.length)
    (hdon : don ++ stN us (us.length - i) i R1 = stN us us.length 0 R) (hR1 : R1 ≤ R) (hdl : don.length = i) (hws : IntsAre ws (toZ don))
    (F : Fr g L h (fun y => if y = Str.ofString "moves" then some (.int ((R1 : Int) + 1 - Int.fdiv (((i + 2 : Nat) : Int) * (((R1 + i + 1 - us.getD i 0) / (i + 2) : Nat) + 1)) ((i : Int) + 2)) t7) else if y = Str.ofString "column" then co else if y = Str.ofString "blanks" then bl else if y = Str.ofString "k" then kv else stnM S st R1 t1 k1 bl1 co1 y))
    (N : News g L h ((S, listOf (ws.toArray.push (.int (((i + 2 : Nat) : Int) * (((R1 + i + 1 - us.getD i 0) / (i + 2) : Nat) + 1) - ((R1 + i + 1 - us.getD i 0 : Nat) : Int) - 1) t8)) (c + 1)) :: (news ++ own)))
    (hoff : OwnOff own (((S, listOf ws.toArray c) :: news).map (·.1))) :
    InvEndG g L (StnJ S st us R news (i + 1)) own s₁ { s₁ with heap := h, toks := tk } := by
  have hq := stn_le (R := R1) (i := i) (u := us.getD i 0)
  have hlt := Nat.lt_mul_div_succ (R1 + i + 1 - us.getD i 0) (b := i + 2) (by omega)
  have hm : (((i + 2 : Nat) : Int) * (((R1 + i + 1 - us.getD i 0) / (i + 2) : Nat) + 1) - ((R1 + i + 1 - us.getD i 0 : Nat) : Int) - 1) = (((i + 2) * ((R1 + i + 1 - us.getD i 0) / (i + 2) + 1) - (R1 + i + 1 - us.getD i 0) - 1 : Nat) : Int) := by
    have e2 : ((i + 2 : Nat) : Int) * (((R1 + i + 1 - us.getD i 0) / (i + 2) : Nat) + 1) = (((i + 2) * ((R1 + i + 1 - us.getD i 0) / (i + 2) + 1) : Nat) : Int) := by rw [Int.natCast_mul]; rfl
    rw [e2]
    generalize (i + 2) * ((R1 + i + 1 - us.getD i 0) / (i + 2) + 1) = z at hlt
    omega
  rw [hm] at N
  refine InvEndG.intro (nx := (S, listOf (ws ++ [Value.int (((i + 2) * ((R1 + i + 1 - us.getD i 0) / (i + 2) + 1) - (R1 + i + 1 - us.getD i 0) - 1 : Nat) : Int) t8]).toArray (c + 1)) :: news) F N
    ⟨R1 - (R1 + i + 1 - us.getD i 0) / (i + 2), t7, kv, bl, co, don ++ [(i + 2) * ((R1 + i + 1 - us.getD i 0) / (i + 2) + 1) - (R1 + i + 1 - us.getD i 0) - 1], _, _, ?_, Nat.le_trans (Nat.sub_le _ _) hR1, by simp [hdl], ?_, ?_, rfl⟩ hoff (fun p hp => ?_) (fun p hp => .tail _ (List.mem_append_right _ hp))
  · rw [← hdon, show us.length - i = (us.length - (i + 1)) + 1 by omega, stN, List.append_assoc, List.singleton_append]
  · have : toZ (don ++ [(i + 2) * ((R1 + i + 1 - us.getD i 0) / (i + 2) + 1) - (R1 + i + 1 - us.getD i 0) - 1]) = toZ don ++ [(((i + 2) * ((R1 + i + 1 - us.getD i 0) / (i + 2) + 1) - (R1 + i + 1 - us.getD i 0) - 1 : Nat) : Int)] := by simp [toZ]
    rw [this]
    exact hws.append (.cons _ _ .nil)
  · funext y
    by_cases h1 : y = Str.ofString "moves"
    · subst h1
      simp only [stnM, if_true]
      rw [stn_fdiv]
      congr 2
      omega
    · simp only [stnM, h1, if_false]
      by_cases h2 : y = Str.ofString "column"
      · simp only [h2, if_true]
      by_cases h3 : y = Str.ofString "blanks"
      · simp only [h2, h3, if_false, if_true]
      by_cases h4 : y = Str.ofString "k"
      · simp only [h2, h3, h4, if_false, if_true]
      simp only [h2, h3, h4, if_false]
  · rcases List.mem_cons.mp hp with rfl | hp
    · rw [List.push_toArray]; exact .head _
    · exact .tail _ (List.mem_append_left _ hp)
local macro_rules | `(tactic| size_fits) => `(tactic| (simp only [sizeLine_eq, List.size_toArray]; omega))
local macro_rules | `(tactic| k_mem) => `(tactic| first | assumption | exact List.Mem.head _ | (refine List.Mem.tail _ ?_; k_mem) | (refine List.mem_append_left _ ?_; k_mem))
local macro_rules | `(tactic| walk_at "call builtin:len") => `(tactic| (k_here; (with_reducible show wpAny _ _ (call (Value.builtin "len") [Value.ref _]) _ _ _); k_dflt (refine' len_led ?k1 ?k2 ?k3 ?_; (case k1 => k_asm); (case k2 => first | assumption | k_mem); (case k3 => omega); k_whole)))
set_option maxHeartbeats 4000000 in
theorem stones_ctr (w : World) (mean : ExcName → Option Value) (mg mb : Str → Option Value) {R kk : Nat} {us : List Nat} {vs : List Value} {st : Addr} (hR : R ≤ 100) (hl : us.length ≤ 5) (hu5 : ∀ i, us.getD i 0 ≤ i + 1) (t : Tok)
    (hvs : IntsAre vs (toZ us)) {news : List (Addr × Obj)} (hm : (st, listOf vs.toArray kk) ∈ news) :
    Ctr w mean mg mb 4 155 [.int R t, .ref st] news (fun r n' => ∃ S ws c, r = .ref S ∧ n' = (S, listOf (List.toArray ws) c) :: news ∧ IntsAre ws (toZ (stN us us.length 0 R)) ∧ ∀ p ∈ news, p.1 < S) := by
  have hvl := hvs.length
  simp only [toZ, List.length_map] at hvl
  have hvb : vs.length < 2 ^ 61 := by omega
  revert hl hvl
  unfold Ctr
  intro hl hvl
  have hl' := PySem.Flt.Hid.mk hl
  have hvl' := PySem.Flt.Hid.mk hvl
  clear hl hvl
  intro dp un gd cn cs a ccd cl outer A₀ base h₀ L m s Q E B F X N T hk hd hu hret
  refine wpAny_call ?_
  k_dflt ktr_enter
  walk_at "m:toFor"
  rename Fr _ _ _ _ => F2
  refine For_invVF F2 rfl rfl ?_
  walk_at "m:toIter"
  rename Fr _ _ _ _ => F3
  rename News _ _ _ _ => N3
  rename IsRange _ _ _ _ _ _ _ _ => R3
  rename ∀ p ∈ news, _ => l1
  have hvl := hvl'.out
  have hl := hl'.out
  rename IntsAre _ _ => hvs
  have hzl : (toZ us).length = us.length := by simp [toZ]
  rw [hzl] at R3
  replace F3 := Fr.to F3 stn_start
  refine iter_rng (n := us.length) (StnJ _ st us R news) rfl R3 (small_one (by omega) (by omega) (by omega) (by omega)) (by rw [rangeSize_nat]; omega) F3 N3 ⟨_, _, _, _, _, [], [], _, rfl, Nat.le_refl _, rfl, .nil, rfl, rfl⟩ ?_ ?_
  · rintro i ti m1 nx h4 tk4 own hi hoff ⟨R1, t1, k1, bl1, co1, don, ws, c, hdon, hR1, hdl, hws, rfl, rfl⟩ F4 N4
    clear F3 N3 R3
    have e : (0 : Int) + (i : Int) * 1 = (i : Int) := by omega
    rw [e] at F4
    have hu6 := hu5 i
    have hwl : ws.length = i := by have := hws.length; simp only [toZ, List.length_map] at this; omega
    have hoffS := stn_off hoff l1
    replace N4 := (show News _ _ _ (_ :: (news ++ own)) from N4)
    repeat ((fail_if_success (with_reducible show wpAny _ _ (binaryOp Operator.Mult (Value.str _ _) _) _ _ _)); walk_at "m:step")
    rename Fr _ _ _ _ => F5
    rw [stn_int hu6] at F5
    rw [stn_int hu6]
    refine SB.mul (blanks_ok (by omega)) ?_
    intro t7 k7
    walk_at "m:step"
    refine add_str ?_ (by rw [blanks_len, sizeLine_eq]; have : (Str.ofString "\tx \t").length = 4 := by decide +kernel
                          omega)
    intro t8 k8
    walk_at "m:toCall"
    refine Ctr.use (ws_ctr w mean mg mb (lead_cps _) (by omega) _) (by k_asm) (by k_asm) (by k_asm) (by k_asm) (by k_asm) rfl (by ktr_room) (by ktr_units) ?_
    rintro r9 h9 tk9 n9 F9 N9 ⟨o, d, nm, ct, vs9, tr, t1, t2, t3, t4, t5, tn, tnt, tb, b, rfl, hvs9, rfl⟩
    walk_at "m:toCall"
    refine Ctr.use (lvl_ctr w mean mg mb (sz := i + 2) (by omega) (by omega) (by omega) _ hvs9) (by k_asm) (by k_asm) (by k_asm) (by k_asm) (by k_asm) rfl (by ktr_room) (by ktr_units) ?_
    rintro r10 h10 tk10 n10 F10 N10 ⟨⟨u10, rfl⟩, rfl⟩
    clear N9 F9
    k_steps
    exact stn_turn hi hdon hR1 hdl hws (by k_asm) (by k_asm) hoff
  · rintro m1 nx h4 tk4 ⟨R1, t1, k1, bl1, co1, don, ws, c, hdon, hR1, hdl, hws, rfl, rfl⟩ F4 N4
    clear F3 N3
    rw [Nat.sub_self, stN, List.append_nil] at hdon
    subst hdon
    k_steps
    exact hret _ _ _ _ (by k_asm) (by k_asm) ⟨_, _, _, rfl, rfl, hws, l1⟩
end Mine
end
section
theorem Mine.off8 : True := by
  w_top off
  trivial
namespace Mine
section
variable {prog : Program} {w : World} {A : Around} {E : Value → Shared → Prop} {s : Shared} {env : Env} {h₀ : Heap} {target : Expr} {body orelse : List Stmt} {Q : Flow → Shared → Prop}
/-- a for that leaves the ledger as it is, with an else -/
def ElseAt (prog : Program) (w : World) (A : Around) (h₀ : Heap) (env : Env) (target : Expr) (body orelse : List Stmt) (Q : Flow → Shared → Prop) (E : Value → Shared → Prop) (it : Value) (s₂ : Shared) : Prop :=
  ∃ (I : Addr) (fp wr : List Addr) (n : Nat) (P Md : Nat → Value → Heap → Prop) (St : Nat → Heap → Prop) (m : Str → Option Value) (news : List (Addr × Obj)) (J : Nat → (Str → Option Value) → Prop),
    it = .ref I ∧ KTurns prog w A target I fp wr n P Md St ∧ env.locals ∉ fp ∧ (∀ b ∈ wr, h₀.get? b = none) ∧ (∀ p ∈ news, p.1 ∉ wr) ∧ St 0 s₂.heap ∧ Fr h₀ env.locals s₂.heap m ∧ News h₀ env.locals s₂.heap news ∧ J 0 m ∧
    (∀ i v m₁ h₁ tk₁, i < n → P i v h₁ → J i m₁ → St (i + 1) h₁ → Fr h₀ env.locals h₁ m₁ → News h₀ env.locals h₁ news →
      wpAny (model prog w) A (assign target env v) (fun _ s₃ => wpAny (model prog w) A (execs body env) (fun f s₄ => match f with
        | .ret v => Q (.ret v) s₄
        | .brk => Q .next s₄
        | _ => ∃ h' tk' m', s₄ = { s₂ with heap := h', toks := tk' } ∧ Fr h₀ env.locals h' m' ∧ News h₀ env.locals h' news ∧ St (i + 1) h' ∧ J (i + 1) m') E s₃) E { s₂ with heap := h₁, toks := tk₁ }) ∧
    ∀ h' tk' m', Fr h₀ env.locals h' m' → News h₀ env.locals h' news → J n m' → wpAny (model prog w) A (execs orelse env) Q E { s₂ with heap := h', toks := tk' }

theorem For_else {iter : Expr} {pos : Pos} {m : Str → Option Value} (_F : Fr h₀ env.locals s.heap m)
    (h : wpAny (model prog w) A (eval iter env) (fun xv s₁ => wpAny (model prog w) A (pyIter xv) (fun it s₂ => ElseAt prog w A h₀ env target body orelse Q E it s₂) E s₁) E s)
    (hs : ∀ x, foldedSetIterable iter env x = pure x := by intro _; rfl) (hE : PassesOwn (model prog w) A env E := by passes_own) :
    wpAny (model prog w) A (exec (.For target iter body orelse pos) env) Q E s := by
  refine wpAny_For (wpAny_mono h (fun xv s₁ h₁ => wpAny_mono h₁ (fun it s₂ h₂ => ?_) fun _ _ e => e) fun _ _ e => e) hs
  obtain ⟨I, fp, wr, n, P, Md, St, m, news, J, rfl, W, hLf, hwr, hnw, hst, F, N, h0, step, fin⟩ := h₂
  have hLw : env.locals ∉ wr := fun h => hLf (W.sub _ h)
  refine codeAny_forLoop_any (fun k s' => ∃ h' tk m' i, s' = { s₂ with heap := h', toks := tk } ∧ St i h' ∧ Fr h₀ env.locals h' m' ∧ News h₀ env.locals h' news ∧ J i m' ∧ i ≤ n ∧ k = n + 1 - i) ?_ (n + 1)
    ⟨s₂.heap, s₂.toks, m, 0, rfl, hst, F, N, h0, Nat.zero_le _, rfl⟩
  rintro k s' ⟨h', tk, m', i, rfl, hst', F', N', hJ, hi, rfl⟩
  have next : ∀ h₁ : Heap, (∀ b o, b ∉ wr → h'.get? b = some o → h₁.get? b = some o) → Fr h₀ env.locals h₁ m' ∧ News h₀ env.locals h₁ news := fun h₁ hk₁ =>
    ⟨⟨F'.ns.at' fun o e => hk₁ _ o hLw e, fun b o e => hk₁ b o (fun hb => by rw [hwr b hb] at e; cases e) (F'.keep b o e), F'.above⟩, fun p hp => ⟨hk₁ _ _ (hnw p hp) (N' p hp).1, (N' p hp).2⟩⟩
  by_cases hlt : i < n
  · refine W.item i _ _ _ hlt hst' fun v h₁ tk₁ hMd hk₁ => ?_
    refine W.go i v _ _ _ hMd fun h₂ hP hst₂ hk₂ => ?_
    obtain ⟨F₂, N₂⟩ := next h₂ fun b o hb x => hk₂ b o hb (hk₁ b o hb x)
    refine wpAny_mono (step i v m' h₂ tk₁ hlt hP hJ hst₂ F₂ N₂) (fun _ s₃ h₃ => wpAny_mono (wpAny_passesOwn hE h₃) (fun f s₄ h₄ => ?_) fun _ _ e => e) hE
    have go : (∃ h' tk' m', s₄ = { s₂ with heap := h', toks := tk' } ∧ Fr h₀ env.locals h' m' ∧ News h₀ env.locals h' news ∧ St (i + 1) h' ∧ J (i + 1) m') →
        ∃ k', k' < n + 1 - i ∧ ∃ h' tk m' i, s₄ = { s₂ with heap := h', toks := tk } ∧ St i h' ∧ Fr h₀ env.locals h' m' ∧ News h₀ env.locals h' news ∧ J i m' ∧ i ≤ n ∧ k' = n + 1 - i := by
      rintro ⟨h5, tk5, m5, rfl, F5, N5, st5, J5⟩
      exact ⟨n + 1 - (i + 1), by omega, h5, tk5, m5, i + 1, rfl, st5, F5, N5, J5, hlt, rfl⟩
    cases f with
    | ret v => exact h₄
    | brk => exact h₄
    | next => exact go h₄
    | cont => exact go h₄
  · obtain rfl : i = n := Nat.le_antisymm hi (Nat.not_lt.mp hlt)
    refine W.done _ _ _ hst' fun h₁ tk₁ hk₁ => ?_
    obtain ⟨F₁, N₁⟩ := next h₁ hk₁
    exact wpAny_passesOwn hE (fin h₁ tk₁ m' F₁ N₁ hJ)

/-- enumerate over a list of the ledger's, with an else -/
theorem enum_else {elts : List Expr} {k : Nat} {pos : Pos} {l : Addr} {vs : List Value} {c : Nat} {m₀ : Str → Option Value} {news : List (Addr × Obj)} (J : Nat → (Str → Option Value) → Prop)
    (hh : A.handled = none) (F : Fr h₀ env.locals s.heap m₀) (N : News h₀ env.locals s.heap news) (hm : (l, listOf vs.toArray c) ∈ news) (h0 : J 0 m₀)
    (turn : ∀ i v T t m₁ h₁ tk₁ (its : List (Addr × Obj)), vs[i]? = some v → J i m₁ → IsTup h₁ T #[.int (i : Int) t, v] → Fr h₀ env.locals h₁ m₁ → News h₀ env.locals h₁ (its ++ news) →
      wpAny (model prog w) A (assign (.Tuple elts k pos) env (.ref T)) (fun _ s₃ => wpAny (model prog w) A (execs body env) (fun f s₄ => match f with
        | .ret v => Q (.ret v) s₄
        | .brk => Q .next s₄
        | _ => ∃ h' tk' m', s₄ = { s with heap := h', toks := tk' } ∧ Fr h₀ env.locals h' m' ∧ News h₀ env.locals h' (its ++ news) ∧ J (i + 1) m') E s₃) E { s with heap := h₁, toks := tk₁ })
    (fin : ∀ h' tk' m', Fr h₀ env.locals h' m' → News h₀ env.locals h' news → J vs.length m' → wpAny (model prog w) A (execs orelse env) Q E { s with heap := h', toks := tk' }) :
    wpAny (model prog w) A (call (.type "enumerate") [.ref l]) (fun xv s₁ => wpAny (model prog w) A (pyIter xv) (fun it s₂ => ElseAt prog w A h₀ env (.Tuple elts k pos) body orelse Q E it s₂) E s₁) E s := by
  have hax := N _ hm
  have hl : s.heap.IsList l vs.toArray := PySem.IsL.isList (n := c) hax.1
  have hlt : l < s.heap.objs.size := Heap.lt_size hax.1
  have hLs : env.locals < s.heap.objs.size := F.ns.lt
  refine call_enumerate_list hl fun h' hE hI hsz hk => ?_
  refine wpAny_pyIter_enum hE ?_
  have hlt1 : l < s.heap.objs.size + 1 := Nat.lt_succ_of_lt hlt
  have n0 : h₀.get? s.heap.objs.size = none := by
    cases q : h₀.get? s.heap.objs.size with
    | none => rfl
    | some o => exact absurd (Heap.lt_size (F.keep _ _ q)) (Nat.lt_irrefl _)
  have n1 : h₀.get? (s.heap.objs.size + 1) = none := by
    cases q : h₀.get? (s.heap.objs.size + 1) with
    | none => rfl
    | some o => exact absurd (Heap.lt_size (F.keep _ _ q)) (Nat.not_lt.mpr (Nat.le_succ _))
  refine ⟨_, _, _, _, _, _, _, m₀, news, J, rfl, KTurns.ofWalksU (WalksT.enumerate hh (s.heap.objs.size + 1) s.heap.objs.size l (Nat.succ_ne_self _) (Nat.ne_of_lt hlt1) (Nat.ne_of_lt hlt) vs.toArray).toU, ?_, ?_, ?_, ⟨⟨.none, hE⟩, hI, hl.at fun o e => hk l o e⟩, F.keeps hk, N.grown hk, h0, ?_, ?_⟩
  · intro hm'
    have hb' : env.locals = s.heap.objs.size + 1 ∨ env.locals = s.heap.objs.size ∨ env.locals = l := by simpa using hm'
    rcases hb' with e | e | e
    · exact absurd hLs (by rw [e]; exact Nat.not_lt.mpr (Nat.le_succ _))
    · exact absurd hLs (by rw [e]; exact Nat.lt_irrefl _)
    · exact hax.2.1 e.symm
  · intro b hb
    have hb' : b = s.heap.objs.size + 1 ∨ b = s.heap.objs.size := by simpa using hb
    rcases hb' with rfl | rfl
    · exact n1
    · exact n0
  · intro p hp hb
    have hb' : p.1 = s.heap.objs.size + 1 ∨ p.1 = s.heap.objs.size := by simpa using hb
    have hlp := Heap.lt_size (N p hp).1
    rcases hb' with e | e
    · exact absurd hlp (by rw [e]; exact Nat.not_lt.mpr (Nat.le_succ _))
    · exact absurd hlp (by rw [e]; exact Nat.lt_irrefl _)
  · rintro i v m₁ h₁ tk₁ hi ⟨T, vals, rfl, ⟨t, x, hx, rfl⟩, hT⟩ hJ hst F₁ N₁
    obtain ⟨⟨old, he⟩, ⟨oi, hoi, hic, hid⟩, hll⟩ := hst
    obtain ⟨oe, he1, he2⟩ : ∃ oe, h₁.get? (s.heap.objs.size + 1) = some oe ∧ ∀ h'' : Heap, h''.get? (s.heap.objs.size + 1) = some oe → IsEnum h'' (s.heap.objs.size + 1) s.heap.objs.size ((i + 1 : Nat) : Int) old := ⟨_, he, fun _ e => e⟩
    have Nits : News h₀ env.locals h₁ ([(s.heap.objs.size + 1, oe), (s.heap.objs.size, oi)] ++ news) := fun p hp => by
      rcases List.mem_append.mp hp with hp | hp
      · rcases List.mem_cons.mp hp with rfl | hp
        · exact ⟨he1, (by intro e; exact absurd hLs (by rw [← e]; exact Nat.not_lt.mpr (Nat.le_succ _))), n1⟩
        · rw [List.mem_singleton.mp hp]
          exact ⟨hoi, (by intro e; exact absurd hLs (by rw [← e]; exact Nat.lt_irrefl _)), n0⟩
      · exact N₁ p hp
    refine wpAny_mono (turn i x T t m₁ h₁ tk₁ _ (by simpa using hx) hJ hT F₁ Nits) (fun _ s₃ h₃ => wpAny_mono h₃ (fun f s₄ h₄ => ?_) fun _ _ e => e) fun _ _ e => e
    have go : (∃ h' tk' m', s₄ = { s with heap := h', toks := tk' } ∧ Fr h₀ env.locals h' m' ∧ News h₀ env.locals h' ([(s.heap.objs.size + 1, oe), (s.heap.objs.size, oi)] ++ news) ∧ J (i + 1) m') →
        ∃ h'' tk' m', s₄ = { ({ s with heap := h' } : Shared) with heap := h'', toks := tk' } ∧ Fr h₀ env.locals h'' m' ∧ News h₀ env.locals h'' news ∧
          ((∃ old, IsEnum h'' (s.heap.objs.size + 1) s.heap.objs.size ((i + 1 : Nat) : Int) old) ∧ h''.IsListIter s.heap.objs.size l (i + 1) ∧ h''.IsList l vs.toArray) ∧ J (i + 1) m' := by
      rintro ⟨h5, tk5, m5, rfl, F5, N5, J5⟩
      have q1 := (N5 _ (List.mem_append_left _ (.head _))).1
      have q2 := (N5 _ (List.mem_append_left _ (.tail _ (.head _)))).1
      exact ⟨h5, tk5, m5, rfl, F5, fun p hp => N5 p (List.mem_append_right _ hp), ⟨⟨old, he2 _ q1⟩, ⟨oi, q2, hic, hid⟩, PySem.IsL.isList (n := c) (N5 _ (List.mem_append_right _ hm)).1⟩, J5⟩
    cases f with
    | ret v => exact h₄
    | brk => exact h₄
    | next => exact go h₄
    | cont => exact go h₄
  · intro h5 tk5 m5 F5 N5 J5
    exact fin h5 tk5 m5 F5 N5 (by simpa using J5)
end
end Mine
end
section
theorem Mine.off9 : True := by
  w_top off
  trivial
namespace Mine
section
variable {prog : Program} {w : World} {A₀ A : Around} {s : Shared} {base h₀ : Heap} {L : Addr} {m : Str → Option Value} {env : Env} {news : List (Addr × Obj)} {K : Frag} {p : Program} {loose : List Str} {mean : ExcName → Option Value} {mg mb : Str → Option Value}
    {R : Result → Shared → Prop} {name qual : Str} {params : Arguments} {body : List Stmt} {scope : Scope} {dV kV doc pm cdv ct oc : Value} {an od : Option Addr} {osl : Array (Option Value)} {f : Addr} {args : Args} {binds : List (Str × Value)}
/-- a def that may catch, called from the lowest frame, whatever that frame's cells -/
theorem code_try (B : Below A₀ base [] h₀) (F : Fr h₀ L s.heap m) (X₀ : K.In h₀) (N : News h₀ L s.heap news) (T : Top p loose mean mg mb h₀) (hA : A.frames = some [env]) (hf : env.frame = some L) (hke : env.scope.kind = .function)
    (ho : K.lookup f = some ⟨oc, od, .func (fnOf name qual params body scope dV kV doc pm an cdv ct), osl⟩) (hcd : codeIn K cdv qual = true) (hroom : A.depth < recursionLimit)
    (hbind : BindsTo s (fnOf name qual params body scope dV kV doc pm an cdv ct) args binds) (hloc : ∀ y ∈ binds, scope.names.lookup y.1 = some .local)
    (h : ∀ g L' h₁, Fr h₀ L g m → Fr g L' h₁ (fun y => binds.reverse.lookup y) → News g L' h₁ news → Below A base [env] g → K.In g → Top p loose mean mg mb g → KtsDicts ([env].filterMap (·.frame)) g →
      wpAny (model prog w) (A.deeper (envOf qual scope L' f cdv)) (execs body (envOf qual scope L' f cdv))
        (fun fl s' => LeaveS0 ([env].filterMap (·.frame)) h₀ L m g R (match fl with | .ret v => v | _ => .none) s')
        (fun e s' => wpAny (model prog w) (A.deeper (envOf qual scope L' f cdv)) (leaving (envOf qual scope L' f cdv) e) (fun _ s'' => R (.error e) s'') (fun e' s'' => R (.error e') s'') s')
        { s with heap := h₁, toks := s.toks + binds.length })
    (hco : scope.isCoroutine = false) (hgen : scope.isGenerator = false) (hk : scope.kind = .function) (hcell : ∀ x ∈ scope.names, x.2 ≠ .cell) : codeAny (model prog w) A (.call (.ref f) args) R s := by
  have hfm : ∀ b, b ∈ [env].filterMap (·.frame) → b = L := fun b hb => by
    obtain ⟨e, he, hq⟩ := List.mem_filterMap.mp hb
    rw [List.mem_singleton.mp he, hf] at hq
    exact (Option.some.inj hq).symm
  obtain ⟨FG, BG, st, _⟩ := groundX (R := R) B F N hA hf hke
  obtain ⟨oL, es, ep, hLg, hLd, hLk, hLf⟩ := FG.ns
  refine codeAny_call_def (fd := fnX name qual params body scope [] dV kV doc pm an cdv ct) (body := body) (binds := binds) hroom ((X₀.keeps F.keep) _ _ ho) rfl (T.nolimit.keeps F.keep) (codeRec_of (X₀.keeps F.keep) hcd) rfl hbind hcell hloc (fun h₁ hns hk₁ => ?_) hco hgen hk
  refine wpAny_mono (h _ s.heap.objs.size h₁ FG ⟨hns, fun b o e => hk₁ b o (of_hideAll _ e), Nat.le_of_eq (hideAll_size _ _)⟩
    (fun p hp => ⟨hk₁ _ _ (N p hp).1, Nat.ne_of_lt (Heap.lt_size (N p hp).1), hideAll_none _ (List.mem_map_of_mem hp)⟩) BG (X₀.keeps st) (T.keeps st) (fun b hb => ?_)) (fun fl s' hl => ?_) fun _ _ y => y
  · rw [hfm b hb]; exact ⟨oL, es, ep, hLg, hLd⟩
  · obtain ⟨g', L', m', news', T', F', N', k⟩ := hl
    obtain ⟨sl, hs⟩ := T'.up hLg
    have nL₀ : h₀.get? L = none := kts_self F
    refine k ⟨⟨_, es, ep, F'.keep _ _ hs, hLd, hLk, hLf⟩, fun b o e => F'.keep b o (T'.other b o (st b o e) fun q => ?_), F.above⟩ fun p hp => ⟨(N' p hp).1, fun q => ?_, ?_⟩
    · rw [hfm b q, nL₀] at e; cases e
    · have := (N' p hp).2.2; rw [q, hs] at this; cases this
    · cases q : h₀.get? p.1 with
      | none => rfl
      | some o =>
        obtain ⟨sl', hs'⟩ := T'.up (st _ _ q)
        have := (N' p hp).2.2
        rw [hs'] at this
        cases this
end

/-- what a call does that may catch: from the lowest frame -/
def CtrT (w : World) (mean : ExcName → Option Value) (mg mb : Str → Option Value) (lv : Nat) (f : Addr) (args : List Value) (news : List (Addr × Obj))
    (Post : Value → List (Addr × Obj) → Prop) : Prop :=
  ∀ (dp un : Nat) (gd : Option (List Code)) (cn : Str) (cs : Scope) (a : Addr) (ccd : Value) (cl : List (Str × Addr)) (A₀ : Around) (h₀ : Heap) (L : Addr) (m : Str → Option Value) (s : Shared) (Q E : Value → Shared → Prop),
    Below A₀ h₀ [] h₀ → Fr h₀ L s.heap m → (hd.heap_39 w.params).In h₀ → News h₀ L s.heap news → Top hd.view_39 (looseW hd.view_39 [Str.ofString "Whitespace"]) mean mg mb h₀ → cs.kind = .function → dp + lv < recursionLimit → un + 40 * lv + 200 < cLine →
    (∀ r h' tk' news', Fr h₀ L h' m → News h₀ L h' news' → Post r news' → Q r { s with heap := h', toks := tk' }) →
    wpAny (model Challenge.rw_pk0078_01.row.prog w) (ktrTop dp un gd cn cs L a ccd cl []) (call (.ref f) args) Q E s
theorem CtrT.use {w : World} {mean : ExcName → Option Value} {mg mb : Str → Option Value} {lv : Nat} {f : Addr} {args : List Value} {news : List (Addr × Obj)} {Post : Value → List (Addr × Obj) → Prop}
    {dp un : Nat} {gd : Option (List Code)} {cn : Str} {cs : Scope} {a : Addr} {ccd : Value} {cl : List (Str × Addr)} {A₀ : Around} {h₀ : Heap} {L : Addr} {m : Str → Option Value} {s : Shared} {Q E : Value → Shared → Prop}
    (C : CtrT w mean mg mb lv f args news Post) (B : Below A₀ h₀ [] h₀) (F : Fr h₀ L s.heap m) (X : (hd.heap_39 w.params).In h₀) (N : News h₀ L s.heap news) (T : Top hd.view_39 (looseW hd.view_39 [Str.ofString "Whitespace"]) mean mg mb h₀)
    (hk : cs.kind = .function) (hd : dp + lv < recursionLimit) (hu : un + 40 * lv + 200 < cLine)
    (ret : ∀ r h' tk' news', Fr h₀ L h' m → News h₀ L h' news' → Post r news' → Q r { s with heap := h', toks := tk' }) :
    wpAny (model Challenge.rw_pk0078_01.row.prog w) (ktrTop dp un gd cn cs L a ccd cl []) (call (.ref f) args) Q E s :=
  C _ _ _ _ _ _ _ _ _ _ _ _ _ _ _ B F X N T hk hd hu ret
end Mine
end
section
theorem Mine.off10 : True := by
  w_top off
  trivial
namespace Mine
def holeD (x : Int) : Dat := .list [.int x]
def firstZ (xs : List Int) : Nat := xs.findIdx (· == 0)
def fillN (xs : List Int) : List Int := (xs.take (firstZ xs)).map (· - 1) ++ (if firstZ xs < xs.length then ((firstZ xs : Nat) + 1 : Int) :: xs.drop (firstZ xs + 1) else [])
def FillPost (bd : Addr) (xs : List Int) (c : Nat) (dl rest : List (Addr × Obj)) (r : Value) (news : List (Addr × Obj)) : Prop :=
  ∃ (refs : List Value) (mk : List (Addr × Obj)) (t : Tok), r = .int (firstZ xs) t ∧ news = (bd, listOf refs.toArray c) :: (mk ++ rest) ∧ DatAll (mk ++ dl) refs ((fillN xs).map holeD) ∧ ∀ x ∈ mk, bd < x.1 ∧ ∀ y ∈ rest, y.1 < x.1
abbrev idxM (bd z : Addr) (iv jv : Option Value) : Str → Option Value := fun y =>
  if y = Str.ofString "j" then jv else if y = Str.ofString "i" then iv else if y = Str.ofString "b" then some (.ref z) else if y = Str.ofString "a" then some (.ref bd) else none
theorem idx_start {bd z : Addr} (y : Str) : List.lookup y [(Str.ofString "b", Value.ref z), (Str.ofString "a", Value.ref bd)] = idxM bd z none none y := by
  simp only [lookup_ite, List.lookup_nil, idxM]
  by_cases h1 : y = Str.ofString "j"
  · subst h1; rfl
  by_cases h2 : y = Str.ofString "i"
  · subst h2; rfl
  simp only [h1, h2, if_false]
abbrev fillM (bd ans : Addr) (p : Option Value) (k : Option Value) : Str → Option Value := fun y =>
  if y = Str.ofString "place" then p else if y = Str.ofString "k" then k else if y = Str.ofString "answers" then some (.ref ans) else if y = Str.ofString "board" then some (.ref bd) else none
theorem fill_start {bd ans : Addr} (y : Str) : (if y = Str.ofString "answers" then some (Value.ref ans) else List.lookup y [(Str.ofString "board", Value.ref bd)]) = fillM bd ans none none y := by
  simp only [lookup_ite, List.lookup_nil, fillM]
  by_cases h1 : y = Str.ofString "place"
  · subst h1; rfl
  by_cases h2 : y = Str.ofString "k"
  · subst h2; rfl
  simp only [h1, h2, if_false]
/-- behind the try: the place is found, the hole at it filled -/
def FillMid (g : Heap) (L bd ans : Addr) (xs : List Int) (c : Nat) (dl rest : List (Addr × Obj)) (h : Heap) : Prop :=
  ∃ (t : Tok) (q : Nat) (refs : List Value) (mk : List (Addr × Obj)) (k : Nat), Fr g L h (fillM bd ans (some (.int (firstZ xs) t)) none) ∧ News g L h ((bd, listOf refs.toArray c) :: (ans, listOf (List.replicate q Value.none).toArray k) :: (mk ++ rest)) ∧
    DatAll (mk ++ dl) refs ((if firstZ xs < xs.length then xs.set (firstZ xs) ((firstZ xs : Nat) + 1 : Int) else xs).map holeD) ∧ q ≤ 1 ∧ ∀ x ∈ mk, ans < x.1 ∧ bd < x.1 ∧ ∀ y ∈ rest, y.1 < x.1
def IdxJ (bd z : Addr) (xs : List Int) (i : Nat) (m : Str → Option Value) : Prop := (∀ j, j < i → xs[j]? ≠ some 0) ∧ ∃ iv jv, m = idxM bd z iv jv
theorem hole_at {rest : List (Addr × Obj)} {refs : List Value} {xs : List Int} {i : Nat} {v : Value} (h : DatAll rest refs (xs.map holeD)) (hv : refs[i]? = some v) : ∃ (hi : i < xs.length) (b : Addr) (t : Tok) (k : Nat), v = .ref b ∧ (b, listOf [Value.int xs[i] t].toArray k) ∈ rest := by
  have hl := h.length
  rw [List.length_map] at hl
  have hi : i < xs.length := by rw [← hl]; exact (List.getElem?_eq_some_iff.mp hv).1
  obtain ⟨v', hv', hd⟩ := h.get (k := i) (by simpa using hi)
  rw [hv] at hv'
  cases hv'
  simp only [List.getElem_map] at hd
  unfold holeD at hd
  cases hd with
  | list hm ha =>
    cases ha with
    | cons h1 h2 =>
      cases h1
      cases h2
      exact ⟨hi, _, _, _, rfl, hm⟩

theorem idx_in {h₀ h : Heap} {L : Addr} {its rest : List (Addr × Obj)} {e1 e2 e3 e : Addr × Obj} (N : News h₀ L h (its ++ e1 :: e2 :: e3 :: rest)) (he : e ∈ rest) : News h₀ L h (e1 :: e2 :: e3 :: e :: (its ++ rest)) := fun p hp => N p (by
  simp only [List.mem_cons, List.mem_append] at hp ⊢
  rcases hp with h | h | h | h | h | h
  · exact .inr (.inl h)
  · exact .inr (.inr (.inl h))
  · exact .inr (.inr (.inr (.inl h)))
  · exact .inr (.inr (.inr (.inr (h ▸ he))))
  · exact .inl h
  · exact .inr (.inr (.inr (.inr h))))
theorem idx_out {h₀ h : Heap} {L : Addr} {its rest : List (Addr × Obj)} {e1 e2 e3 e : Addr × Obj} (N : News h₀ L h (e1 :: e2 :: e3 :: e :: (its ++ rest))) : News h₀ L h (its ++ e1 :: e2 :: e3 :: rest) := fun p hp => N p (by
  simp only [List.mem_cons, List.mem_append] at hp ⊢
  rcases hp with h | h | h | h | h
  · exact .inr (.inr (.inr (.inr (.inl h))))
  · exact .inl h
  · exact .inr (.inl h)
  · exact .inr (.inr (.inl h))
  · exact .inr (.inr (.inr (.inr (.inr h)))))
theorem idx_ne {z d bd b : Nat} {ob : Obj} {rest : List (Addr × Obj)} (l : d < z ∧ bd < z ∧ AllLt z rest) (hb : (b, ob) ∈ rest) : b ≠ z := Nat.ne_of_lt (allLt_in l.2.2 _ hb)
theorem fill_off {z nl ans bd b : Nat} {o1 o2 : Obj} {its rest : List (Addr × Obj)} (l : z < nl ∧ ans < nl ∧ bd < nl ∧ b < nl ∧ AllLt nl (its ++ rest)) (l1 : bd < ans ∧ AllLt ans rest) (hoff : ∀ p ∈ rest, p.1 ≠ bd) : ∀ p ∈ (nl, o1) :: (ans, o2) :: rest, p.1 ≠ bd := by
  intro p hp
  rcases List.mem_cons.mp hp with rfl | hp
  · exact Nat.ne_of_gt l.2.2.1
  · rcases List.mem_cons.mp hp with rfl | hp
    · exact Nat.ne_of_gt l1.1
    · exact hoff p hp
theorem fill_set {h₀ h : Heap} {L : Addr} {its rest : List (Addr × Obj)} {e1 e2 e3 e4 e5 : Addr × Obj} (N : News h₀ L h (e1 :: e2 :: e3 :: e4 :: e5 :: (its ++ rest))) : News h₀ L h (e4 :: e1 :: e3 :: rest) := fun p hp => N p (by
  simp only [List.mem_cons, List.mem_append] at hp ⊢
  rcases hp with h | h | h | h <;> simp [h])
theorem fill_lt {z nl ans bd b : Nat} {its rest : List (Addr × Obj)} (l : z < nl ∧ ans < nl ∧ bd < nl ∧ b < nl ∧ AllLt nl (its ++ rest)) : ans < nl ∧ bd < nl ∧ ∀ y ∈ rest, y.1 < nl := ⟨l.2.1, l.2.2.1, fun y hy => allLt_in l.2.2.2.2 y (List.mem_append_right _ hy)⟩
theorem firstZ_at {xs : List Int} {i : Nat} (hi : i < xs.length) (hx : xs[i] = 0) (hz : ∀ j, j < i → xs[j]? ≠ some 0) : firstZ xs = i := by
  unfold firstZ
  rw [List.findIdx_eq hi]
  refine ⟨by simp [hx], fun j hj => ?_⟩
  have := hz j hj
  rw [List.getElem?_eq_getElem (by omega)] at this
  simpa using this
theorem firstZ_none {xs : List Int} (hz : ∀ j, j < xs.length → xs[j]? ≠ some 0) : firstZ xs = xs.length := by
  unfold firstZ
  rw [List.findIdx_eq_length]
  intro x hx
  obtain ⟨j, hj, rfl⟩ := List.getElem_of_mem hx
  have := hz j hj
  rw [List.getElem?_eq_getElem hj] at this
  simpa using this
theorem datAll_set {news : List (Addr × Obj)} {v : Value} {d : Dat} : ∀ {vs : List Value} {ds : List Dat} (i : Nat), DatAll news vs ds → DatIn news v d → DatAll news (vs.set i v) (ds.set i d)
  | _, _, _, .nil, _ => .nil
  | _, _, 0, .cons _ r, h => .cons h r
  | _, _, i + 1, .cons a r, h => .cons a (datAll_set i r h)
theorem fill_mid1 {g h : Heap} {L bd ans nl : Addr} {xs : List Int} {refs : List Value} {c i k1 k2 : Nat} {t t3 : Tok} {dl rest : List (Addr × Obj)} (hi : i < xs.length) (hx : xs[i] = 0) (hz : ∀ j, j < i → xs[j]? ≠ some 0) (hD : DatAll dl refs (xs.map holeD))
    (l7 : ans < nl ∧ bd < nl ∧ ∀ y ∈ rest, y.1 < nl) (F : Fr g L h (fun y => if y = Str.ofString "place" then some (.int (i : Int) t3) else fillM bd ans none none y))
    (N : News g L h ((bd, listOf (refs.set i (.ref nl)).toArray c) :: (nl, listOf [Value.int ((i : Int) + 1) t].toArray k1) :: (ans, listOf [Value.none].toArray k2) :: rest)) : FillMid g L bd ans xs c dl rest h := by
  have e := firstZ_at hi hx hz
  refine ⟨t3, 1, refs.set i (.ref nl), [(nl, listOf [Value.int ((i : Int) + 1) t].toArray k1)], k2, ?_, fun p hp => N p ?_, ?_, Nat.le_refl _, ?_⟩
  · refine Fr.to F fun y => ?_
    by_cases h1 : y = Str.ofString "place"
    · subst h1; rw [e]; rfl
    · simp only [fillM, h1, if_false]
  · simp only [List.mem_cons, List.mem_append, List.replicate_one, List.not_mem_nil, or_false] at hp ⊢
    rcases hp with h | h | h | h <;> simp [h]
  · rw [e, if_pos hi, List.map_set]
    exact datAll_set i (hD.mono fun p hp => List.mem_append_right _ hp) (.list (List.mem_append_left _ (.head _)) (.cons (.int _ _) .nil))
  · intro x hx
    rw [List.mem_singleton.mp hx]
    exact l7
theorem fill_mid2 {g h : Heap} {L bd ans z : Addr} {xs : List Int} {refs : List Value} {c : Nat} {t3 : Tok} {oz : Obj} {dl rest : List (Addr × Obj)} {m : Str → Option Value} (hrl : refs.length = xs.length) (J : IdxJ bd z xs refs.length m) (hD : DatAll dl refs (xs.map holeD))
    (F : Fr g L h (fun y => if y = Str.ofString "place" then some (.int (refs.length : Nat) t3) else fillM bd ans none none y))
    (N : News g L h ((z, oz) :: (ans, listOf ([] : List Value).toArray 0) :: (bd, listOf refs.toArray c) :: rest)) : FillMid g L bd ans xs c dl rest h := by
  have e : firstZ xs = xs.length := firstZ_none (by rw [← hrl]; exact J.1)
  refine ⟨t3, 0, refs, [], 0, ?_, fun p hp => N p ?_, ?_, Nat.zero_le _, fun _ h => nomatch h⟩
  · refine Fr.to F fun y => ?_
    by_cases h1 : y = Str.ofString "place"
    · subst h1; rw [e, ← hrl]; rfl
    · simp only [fillM, h1, if_false]
  · simp only [List.mem_cons, List.mem_append, List.replicate_zero, List.not_mem_nil, false_or] at hp ⊢
    rcases hp with h | h | h <;> simp [h]
  · rw [e, if_neg (Nat.lt_irrefl _)]
    exact hD
theorem firstZ_le (xs : List Int) : firstZ xs ≤ xs.length := List.findIdx_le_length
/-- the board behind i turns of the taking -/
def partB (xs : List Int) (i : Nat) : List Int := (xs.take i).map (· - 1) ++ (if firstZ xs < xs.length then xs.set (firstZ xs) ((firstZ xs : Nat) + 1 : Int) else xs).drop i
theorem fil_len {xs : List Int} {i : Nat} (h5 : xs.length = 5) (hi : i < firstZ xs) : (partB xs i).length = 5 := by
  have := firstZ_le xs
  unfold partB
  split <;> simp <;> omega
def FilJ (bd ans : Addr) (xs : List Int) (c : Nat) (t : Tok) (q : Nat) (dl rest : List (Addr × Obj)) (i : Nat) (m : Str → Option Value) (nx : List (Addr × Obj)) : Prop :=
  ∃ (refs : List Value) (mk : List (Addr × Obj)) (k : Nat) (kv : Option Value), m = fillM bd ans (some (.int (firstZ xs) t)) kv ∧ nx = (bd, listOf refs.toArray c) :: (ans, listOf (List.replicate (q + i) Value.none).toArray k) :: (mk ++ rest) ∧
    DatAll (mk ++ dl) refs ((partB xs i).map holeD) ∧ ∀ x ∈ mk, ans < x.1 ∧ bd < x.1 ∧ ∀ y ∈ rest, y.1 < x.1
theorem part_at {xs : List Int} {i : Nat} (h5 : xs.length = 5) (hi : i < firstZ xs) : i < (partB xs i).length := by
  rw [fil_len h5 hi]; have := firstZ_le xs; omega
theorem part_get {xs : List Int} {i : Nat} (h5 : xs.length = 5) (hi : i < firstZ xs) (h : i < (partB xs i).length) : (partB xs i)[i] = xs.getD i 0 := by
  have hl := firstZ_le xs
  have hix : i < xs.length := by omega
  have h1 : ((xs.take i).map (· - 1)).length = i := by simp; omega
  have e : xs.getD i 0 = xs[i] := by simp [List.getD, hix]
  have key : (partB xs i)[i]? = some xs[i] := by
    unfold partB
    rw [List.getElem?_append_right (by omega), h1, Nat.sub_self, List.getElem?_drop, Nat.add_zero]
    split
    · rw [List.getElem?_set_ne (by omega), List.getElem?_eq_getElem hix]
    · rw [List.getElem?_eq_getElem hix]
  rw [e]
  exact (List.getElem?_eq_some_iff.mp key).2
theorem part_next {xs : List Int} {i : Nat} (h5 : xs.length = 5) (hi : i < firstZ xs) : partB xs (i + 1) = (partB xs i).set i (xs.getD i 0 - 1) := by
  have hl := firstZ_le xs
  have hix : i < xs.length := by omega
  have h1 : ((xs.take i).map (· - 1)).length = i := by simp; omega
  have e : xs.getD i 0 = xs[i] := by simp [List.getD, hix]
  unfold partB
  rw [List.set_append_right _ _ (by omega), h1, Nat.sub_self, List.take_add_one, List.getElem?_eq_getElem hix, e]
  simp only [Option.toList_some, List.map_append, List.map_cons, List.map_nil, List.append_assoc, List.singleton_append]
  congr 1
  generalize hys : (if firstZ xs < xs.length then xs.set (firstZ xs) ((firstZ xs : Nat) + 1 : Int) else xs) = ys
  have hyl : i < ys.length := by
    rw [← hys]
    split
    · rw [List.length_set]; exact hix
    · exact hix
  rw [List.drop_eq_getElem_cons hyl]
  rfl
theorem part_end {xs : List Int} : partB xs (firstZ xs) = fillN xs := by
  unfold partB fillN
  congr 1
  split
  · rename_i h
    rw [List.drop_eq_getElem_cons (by simpa using h), List.getElem_set_self, List.drop_set_of_lt (Nat.lt_succ_self _)]
  · rename_i h
    have := firstZ_le xs
    rw [List.drop_eq_nil_of_le (by omega)]
theorem fil_in {h₀ h : Heap} {L : Addr} {l : List (Addr × Obj)} {e1 e2 e : Addr × Obj} {own : List (Addr × Obj)} (N : News h₀ L h (e1 :: e2 :: (l ++ own))) (he : e ∈ l) : News h₀ L h (e1 :: e2 :: e :: (l ++ own)) := fun p hp => N p (by
  simp only [List.mem_cons, List.mem_append] at hp ⊢
  rcases hp with h | h | h | h | h
  · exact .inl h
  · exact .inr (.inl h)
  · exact .inr (.inr (.inl (h ▸ he)))
  · exact .inr (.inr (.inl h))
  · exact .inr (.inr (.inr h)))
theorem fil_offA {bd ans b : Addr} {o1 o2 ob : Obj} {mk rest own : List (Addr × Obj)} (hoff : OwnOff own (((bd, o1) :: (ans, o2) :: (mk ++ rest)).map (·.1))) (l1 : @LT.lt Nat _ bd ans ∧ AllLt ans rest) (hsep : ∀ x ∈ mk, ans < x.1 ∧ bd < x.1 ∧ ∀ y ∈ rest, y.1 < x.1) (hb : (b, ob) ∈ mk ++ rest) :
    ∀ p ∈ (b, ob) :: ((mk ++ rest) ++ own), p.1 ≠ ans := by
  have key : ∀ p ∈ mk ++ rest, p.1 ≠ ans := fun p hp => by
    rcases List.mem_append.mp hp with hp | hp
    · exact Nat.ne_of_gt (hsep p hp).1
    · exact Nat.ne_of_lt (allLt_in l1.2 p hp)
  intro p hp
  rcases List.mem_cons.mp hp with rfl | hp
  · exact key _ hb
  · rcases List.mem_append.mp hp with hp | hp
    · exact key _ hp
    · exact hoff p hp ans (.tail _ (.head _))
theorem fil_offB {bd ans b : Addr} {o1 o2 ob : Obj} {mk rest own : List (Addr × Obj)} (hoff : OwnOff own (((bd, o1) :: (ans, o2) :: (mk ++ rest)).map (·.1))) (l1 : @LT.lt Nat _ bd ans ∧ AllLt ans rest) (hsep : ∀ x ∈ mk, ans < x.1 ∧ bd < x.1 ∧ ∀ y ∈ rest, y.1 < x.1) (hb : (b, ob) ∈ mk ++ rest) (hr : ∀ p ∈ rest, p.1 ≠ bd) :
    ∀ p ∈ (ans, o2) :: (b, ob) :: ((mk ++ rest) ++ own), p.1 ≠ bd := by
  have key : ∀ p ∈ mk ++ rest, p.1 ≠ bd := fun p hp => by
    rcases List.mem_append.mp hp with hp | hp
    · exact Nat.ne_of_gt (hsep p hp).2.1
    · exact hr p hp
  intro p hp
  rcases List.mem_cons.mp hp with rfl | hp
  · exact Nat.ne_of_gt l1.1
  · rcases List.mem_cons.mp hp with rfl | hp
    · exact key _ hb
    · rcases List.mem_append.mp hp with hp | hp
      · exact key _ hp
      · exact hoff p hp bd (.head _)
theorem fil_lt {nl bd ans b : Nat} {mk rest own : List (Addr × Obj)} (l : bd < nl ∧ ans < nl ∧ b < nl ∧ AllLt nl (mk ++ rest ++ own)) : ans < nl ∧ bd < nl ∧ (∀ y ∈ rest, y.1 < nl) ∧ (∀ y ∈ own, y.1 < nl) := ⟨l.2.1, l.1, fun y hy => allLt_in l.2.2.2 y (List.mem_append_left _ (List.mem_append_right _ hy)), fun y hy => allLt_in l.2.2.2 y (List.mem_append_right _ hy)⟩
theorem fil_offC {nl bd ans : Nat} {on : Obj} {l rest own : List (Addr × Obj)} (l8 : ans < nl ∧ bd < nl ∧ (∀ y ∈ rest, y.1 < nl) ∧ (∀ y ∈ own, y.1 < nl)) (h : ∀ p ∈ l, p.1 ≠ bd) : ∀ p ∈ (nl, on) :: l, p.1 ≠ bd := by
  intro p hp
  rcases List.mem_cons.mp hp with rfl | hp
  · exact Nat.ne_of_gt l8.2.1
  · exact h p hp
theorem fil_idx {i n : Nat} (hi : i < 5) (hn : n = 5) : seqIndex? ((i : Int) - (n : Nat)) n = some i := by
  subst hn
  rw [seqIndex_back (by omega) (by omega)]
  congr 1
  omega
theorem repl_none (n : Nat) : (List.replicate ((n : Nat) : Int).toNat [Value.none]).flatten = List.replicate n Value.none := by
  rw [Int.toNat_natCast]
  induction n with
  | zero => rfl
  | succ n ih => rw [List.replicate_succ, List.flatten_cons, ih]; rfl
theorem datNone : ∀ n : Nat, DatAll [] (List.replicate n Value.none) (List.replicate n Dat.none)
  | 0 => .nil
  | n + 1 => .cons .none (datNone n)
theorem datNoneOk (n : Nat) : ∀ d ∈ List.replicate n Dat.none, kqdOk 8 d = true := fun d hd => by rw [List.eq_of_mem_replicate hd]; rfl
theorem fil_out {h₀ h : Heap} {L : Addr} {e1 e2 e3 e4 : Addr × Obj} {l : List (Addr × Obj)} (N : News h₀ L h (e1 :: e2 :: e3 :: e4 :: l)) : News h₀ L h (e3 :: l) := fun p hp => N p (by
  rcases List.mem_cons.mp hp with rfl | hp
  · exact .tail _ (.tail _ (.head _))
  · exact .tail _ (.tail _ (.tail _ (.tail _ hp))))
theorem fil_turn {g h : Heap} {L bd ans nl b : Addr} {xs : List Int} {refs : List Value} {c i q k kb tk : Nat} {t7 t13 tb : Tok} {iv kv : Option Value} {mk dl rest own : List (Addr × Obj)} {s₁ : Shared} (h5 : xs.length = 5) (hi : i < firstZ xs) (hD : DatAll (mk ++ dl) refs ((partB xs i).map holeD))
    (hsep : ∀ x ∈ mk, ans < x.1 ∧ bd < x.1 ∧ ∀ y ∈ rest, y.1 < x.1) (l8 : ans < nl ∧ bd < nl ∧ (∀ y ∈ rest, y.1 < nl) ∧ (∀ y ∈ own, y.1 < nl)) (hoff : OwnOff own (((bd, listOf refs.toArray c) :: (ans, listOf (List.replicate (q + i) Value.none).toArray k) :: (mk ++ rest)).map (·.1)))
    (F : Fr g L h (fun y => if y = Str.ofString "k" then iv else fillM bd ans (some (.int (firstZ xs) t7)) kv y))
    (N : News g L h ((bd, listOf (refs.set i (.ref nl)).toArray c) :: (nl, listOf [Value.int (xs.getD i 0 - 1) t13].toArray 0) :: (ans, listOf ((List.replicate (q + i) Value.none).toArray.push .none) (k + 1)) :: (b, listOf [Value.int (xs.getD i 0) tb].toArray kb) :: (mk ++ rest ++ own))) :
    InvEndG g L (FilJ bd ans xs c t7 q dl rest (i + 1)) own s₁ { s₁ with heap := h, toks := tk } := by
  refine InvEndG.intro (nx := (bd, listOf (refs.set i (.ref nl)).toArray c) :: (ans, listOf (List.replicate (q + (i + 1)) Value.none).toArray (k + 1)) :: (((nl, listOf [Value.int (xs.getD i 0 - 1) t13].toArray 0) :: mk) ++ rest)) F N
    ⟨refs.set i (.ref nl), (nl, listOf [Value.int (xs.getD i 0 - 1) t13].toArray 0) :: mk, k + 1, iv, ?_, rfl, ?_, ?_⟩ ?_ (fun p hp => ?_) (fun p hp => .tail _ (.tail _ (.tail _ (.tail _ (List.mem_append_right _ hp)))))
  · funext y
    by_cases h1 : y = Str.ofString "place"
    · subst h1; rfl
    by_cases h2 : y = Str.ofString "k"
    · subst h2; rfl
    simp only [fillM, h1, h2, if_false]
  · rw [part_next h5 hi, List.map_set]
    exact datAll_set i (hD.mono fun p hp => .tail _ hp) (.list (.head _) (.cons (.int _ _) .nil))
  · intro x hx
    rcases List.mem_cons.mp hx with rfl | hx
    · exact ⟨l8.1, l8.2.1, l8.2.2.1⟩
    · exact hsep x hx
  · intro p hp bb hb
    simp only [List.map_cons, List.map_append, List.mem_cons, List.mem_append, List.cons_append] at hb
    rcases hb with rfl | rfl | rfl | hb
    · exact hoff p hp _ (.head _)
    · exact hoff p hp _ (.tail _ (.head _))
    · exact Nat.ne_of_lt (l8.2.2.2 p hp)
    · exact hoff p hp bb (.tail _ (.tail _ (by show bb ∈ List.map (fun x => x.fst) (mk ++ rest); rw [List.map_append]; exact List.mem_append.mpr hb)))
  · have e : ((List.replicate (q + i) Value.none).toArray.push .none) = (List.replicate (q + (i + 1)) Value.none).toArray := by
      rw [List.push_toArray, ← Nat.add_assoc, List.replicate_succ']
    rw [e]
    simp only [List.cons_append, List.mem_cons, List.mem_append] at hp ⊢
    rcases hp with h | h | h | h | h
    · exact .inl h
    · exact .inr (.inr (.inl h))
    · exact .inr (.inl h)
    · exact .inr (.inr (.inr (.inr (.inl (.inl h)))))
    · exact .inr (.inr (.inr (.inr (.inl (.inr h)))))
theorem idx_step {bd z b : Addr} {xs : List Int} {i : Nat} {t3 : Tok} {iv jv : Option Value} (hi : i < xs.length) (hx : ¬ xs[i] = 0) (hz : ∀ j, j < i → xs[j]? ≠ some 0) :
    IdxJ bd z xs (i + 1) (fun y => if y = Str.ofString "j" then some (.ref b) else if y = Str.ofString "i" then some (.int (i : Int) t3) else idxM bd z iv jv y) := by
  refine ⟨fun j hj => ?_, some (.int (i : Int) t3), some (.ref b), ?_⟩
  · rcases Nat.lt_succ_iff_lt_or_eq.mp hj with h | rfl
    · exact hz j h
    · rw [List.getElem?_eq_getElem hi]; simpa using hx
  · funext y
    by_cases h1 : y = Str.ofString "j"
    · subst h1; rfl
    by_cases h2 : y = Str.ofString "i"
    · subst h2; rfl
    simp only [idxM, h1, h2, if_false]
theorem dec_true {p : Prop} {i : Decidable p} (h : p) : @decide p i = true := decide_eq_true h
theorem dec_false {p : Prop} {i : Decidable p} (h : ¬ p) : @decide p i = false := decide_eq_false h
local macro_rules | `(tactic| walk_at "call builtin:len") => `(tactic| (k_here; (with_reducible show wpAny _ _ (call (Value.builtin "len") [Value.ref _]) _ _ _); k_dflt (refine' len_led ?k1 ?k2 ?k3 ?_; (case k1 => k_asm); (case k2 => first | assumption | k_mem); (case k3 => omega); k_whole)))
set_option maxHeartbeats 4000000 in
theorem filled_ctr (w : World) (mean : ExcName → Option Value) (mg mb : Str → Option Value) {bd : Addr} {xs : List Int} {refs : List Value} {c : Nat}
     {dl rest : List (Addr × Obj)} (hoff : ∀ p ∈ rest, p.1 ≠ bd) (hsub : ∀ p ∈ dl, p ∈ rest) (hD : DatAll dl refs (xs.map holeD)) (hx5 : xs.length = 5) :
    CtrT w mean mg mb 4 141 [.ref bd] ((bd, listOf refs.toArray c) :: rest) (FillPost bd xs c dl rest) := by
  have hrl : refs.length = xs.length := by simpa using hD.length
  unfold CtrT
  intro dp un gd cn cs a ccd cl A₀ h₀ L m s Q E B F X N T hk hdp hu hret
  refine wpAny_call ?_
  k_dflt (refine' code_try ?k1 ?k2 ?k3 ?k4 ?k5 ?kA ?kF ?kK ?k6 ?k7 ?k8 ?k9 ?kB ?_ ?c2 ?c3 ?c4 ?c5; (case kA => exact rfl); (case kF => exact rfl); (case kK => assumption); (case k1 => k_asm); (case k2 => k_asm); (case k3 => k_asm); (case k4 => k_asm); (case k5 => k_asm); (case k6 => k_is); (case k7 => k_is); (case k8 => ktr_room); (case k9 => exact BindsTo.of_eq rfl); (case c5 => decide); (case kB => exact locs rfl); (case c2 => exact rfl); (case c3 => exact rfl); (case c4 => exact rfl); k_whole)
  intro g L1 h1 FG F0 N0 Bg Xg Tg Dg
  (try dsimp only); (try k_fold)
  repeat ((fail_if_success (with_reducible show wpAny _ _ (exec (Stmt.Try _ _ _ _ _) _) _ _ _)); walk_at "m:step")
  rename_i ans _ l1 h2 F1 N1
  replace F1 := Fr.to F1 fill_start
  refine wpAny_mono (Q := fun f s' => f = .next ∧ ∃ h' tk' g', s' = { s with heap := h', toks := tk' } ∧ KtsTurn ([envX cn cs L a ccd cl].filterMap (·.frame)) g g' ∧ Below (ktrTop dp un gd cn cs L a ccd cl []) h₀ [envX cn cs L a ccd cl] g' ∧ (hd.heap_39 w.params).In g' ∧ Top hd.view_39 (looseW hd.view_39 [Str.ofString "Whitespace"]) mean mg mb g' ∧ FillMid g' L1 bd ans xs c dl rest h') ?_ ?_ (fun _ _ e => e)
  · walk_at "m:toFor"
    rename Fr _ _ _ _ => F2
    replace F2 := Fr.to F2 idx_start
    refine For_else F2 ?_
    walk_at "m:toEnum"
    refine enum_else (c := c) (vs := refs) (IdxJ bd _ xs) rfl F2 (by assumption) (by k_mem) ⟨fun j hj => absurd hj (Nat.not_lt_zero _), _, _, rfl⟩ ?_ ?_
    · rintro i v T3 t3 m3 h3 tk3 its hv ⟨hz, iv, jv, rfl⟩ hT F3 N3
      obtain ⟨hi, b, tb, kb, rfl, hb⟩ := hole_at hD hv
      replace hb := hsub _ hb
      clear F2
      replace N3 := idx_in N3 hb
      repeat ((fail_if_success (with_reducible show wpAny _ _ (compareOp _ _ _) _ _ _)); walk_at "m:step")
      rename News _ _ _ _ => N5
      have hne := idx_ne (by assumption) hb
      refine kto_is (News.get N5 (.tail _ (.tail _ (.tail _ (.head _))))) (News.get N5 (.head _)) hne (by intro e; exact absurd (Value.type.inj e) (by decide)) ?_
      repeat ((fail_if_success (with_reducible show wpAny _ _ (compareOp _ _ _) _ _ _)); walk_at "m:step")
      refine kqd_eq N5 (.tail _ (.tail _ (.tail _ (.head _)))) rfl rfl (DatAll.one (news := []) (.int _ _)) (List.forall_mem_nil _) (.head _) rfl rfl (DatAll.one (news := []) (.int _ _)) (List.forall_mem_nil _) (by simp [kqdOk]) (by simp [kqdOk]) (by ktr_units) ?_
      by_cases hx0 : xs[i] = 0
      · rw [dec_true (p := [Dat.int xs[i]] = [Dat.int 0]) (by rw [hx0])]
        walk_at "m:toCall"
        rename News _ _ _ _ => N6
        have hA : ∀ p ∈ rest, p.1 ≠ ans := fun p hp => Nat.ne_of_lt (allLt_in l1.2 p hp)
        have l7 := fill_lt (by assumption)
        refine Ctr.use (setitem_ctr w mean mg mb (c := c) (vs := refs) (j := i) _ _ (fill_off (by assumption) l1 hoff) (by omega) (by omega) (seqIndex_at (by omega) (by omega))) (by k_asm) (by k_asm) (by k_asm) (fill_set N6) (by k_asm) rfl (by ktr_room) (by ktr_units) ?_
        rintro r9 h9 tk9 n9 F9 N9 ⟨rfl, rfl⟩
        repeat ((fail_if_success (with_reducible show _ = Flow.next ∧ _)); walk_at "m:step")
        exact ⟨rfl, _, _, g, rfl, KtsTurn.refl, Bg, Xg, Tg, fill_mid1 hi hx0 hz hD l7 (by k_asm) (by k_asm)⟩
      · rw [dec_false (p := [Dat.int xs[i]] = [Dat.int 0]) (by simpa using hx0)]
        repeat ((fail_if_success (with_reducible show ∃ _, _)); walk_at "m:step")
        exact ⟨_, _, _, rfl, (by k_asm), idx_out (by assumption), idx_step hi hx0 hz⟩
    · intro h4 tk4 m4 F4 N4 J4
      clear F2
      repeat ((fail_if_success (with_reducible show wpAny _ _ (leaving _ _) _ _ _)); walk_at "m:step")
      k_dflt (refine' leave_raiseS ?k1 (Heap.MadeExc.of (by assumption)) ?k2 ?k3 ?_; (case k1 => k_asm); (case k2 => exact F4); (case k3 => exact N4))
      intro h5 t5 R5 RK5 U5
      k_dflt (refine' caught_S0 (T' := "ValueError") R5 ?F ?K U5 ?XB ?TB Dg KtsTurn.refl ?ex PyProof.Rows.Boot.«ValueError» ?hn PySem.F.isExc_ValueError PySem.F.notTuple_ValueError ?hs ?_; (case F => assumption); (case K => assumption); (case XB => assumption); (case TB => assumption); (case hs => kts_sub); (case ex => k_is); (case hn => decide); k_whole)
      intro h6 g6 n6 T6 F6 M6 G6 N6 B6 X6 P6 D6
      clear M6
      repeat ((fail_if_success (with_reducible show _ = Flow.next ∧ _)); walk_at "m:step")
      rename Fr _ _ _ _ => F8
      rename News _ _ _ _ => N8
      exact ⟨rfl, _, _, g6, rfl, T6, B6, X6, P6, fill_mid2 hrl J4 hD F8 N8⟩
  · rintro f s' ⟨rfl, h7, tk7, g7, rfl, T7, B7, X7, P7, t7, q, refs7, mk, k7, F7, N7, D7, hq, hsep⟩
    clear F1 N1 Bg Xg Tg
    have hpb : firstZ xs < 2 ^ 61 := by have := firstZ_le xs; omega
    walk_at "m:toFor"
    refine For_invVF F7 rfl rfl ?_
    walk_at "m:toIter"
    rename Fr _ _ _ _ => F9
    rename News _ _ _ _ => N9
    rename IsRange _ _ _ _ _ _ _ _ => R9
    have hp5 := firstZ_le xs
    refine iter_rng (n := firstZ xs) (FilJ bd ans xs c t7 q dl rest) rfl R9 (small_one (by omega) (by omega) (by omega) (by omega)) (by rw [rangeSize_nat]; omega) F9 N9 ⟨refs7, mk, k7, none, rfl, rfl, ?_, hsep⟩ ?_ ?_
    · exact (show DatAll (mk ++ dl) refs7 ((partB xs 0).map holeD) from by simpa [partB] using D7)
    · rintro i ti m1 nx h10 tk10 own hi hoff ⟨refs8, mk8, k8, kv, rfl, rfl, D8, hsep8⟩ F10 N10
      have e : (0 : Int) + (i : Int) * 1 = (i : Int) := by omega
      rw [e] at F10
      clear F9 N9 R9
      have hr8 : refs8.length = 5 := by have := D8.length; simp only [List.length_map] at this; rw [this]; exact fil_len hx5 hi
      replace N10 := (show News _ _ _ (_ :: _ :: ((mk8 ++ rest) ++ own)) from by simpa using N10)
      have hbx := part_at hx5 hi
      obtain ⟨hi5, b, tb, kb, hv, hb⟩ := hole_at (i := i) D8 (List.getElem?_eq_getElem (by omega))
      rw [part_get hx5 hi hi5] at hb
      replace hb := (List.mem_append.mp hb).elim (fun h => List.mem_append_left _ h) (fun h => List.mem_append_right mk8 (hsub _ h))
      have hoffA := fil_offA (ob := listOf [Value.int (xs.getD i 0) tb].toArray kb) hoff l1 hsep8 hb
      have hoffB := fil_offB (ob := listOf [Value.int (xs.getD i 0) tb].toArray kb) hoff l1 hsep8 hb ‹∀ p ∈ rest, p.1 ≠ bd›
      replace N10 := fil_in N10 hb
      walk_at "m:toCall"
      refine Ctr.use (sub_ctr w mean mg mb _ _ _ _ _) (by k_asm) (by k_asm) (by k_asm) (by k_asm) (by k_asm) rfl (by ktr_room) (by ktr_units) ?_
      rintro r11 h11 tk11 n11 F11 N11 ⟨rfl, t11, rfl⟩
      walk_at "m:toCall"
      refine Ctr.use (getitem_ctr w mean mg mb (vs := refs8) (k := (i : Int)) (j := (i : Int).toNat) _ (.head _) (by omega) (by omega) (seqIndex_at (by omega) (by omega)) (v := .ref b) (by rw [Int.toNat_natCast, List.getElem?_eq_getElem (by omega), hv])) (by k_asm) (by k_asm) (by k_asm) (by k_asm) (by k_asm) rfl (by ktr_room) (by ktr_units) ?_
      rintro r12 h12 tk12 n12 F12 N12 ⟨rfl, rfl⟩
      clear F11 N11 F10 N10
      walk_at "m:toCall"
      refine Ctr.use (sub_ctr w mean mg mb _ _ _ _ _) (by k_asm) (by k_asm) (by k_asm) (by k_asm) (by k_asm) rfl (by ktr_room) (by ktr_units) ?_
      rintro r13 h13 tk13 n13 F13 N13 ⟨rfl, t13, rfl⟩
      clear F12 N12
      walk_at "m:toCall"
      rename News _ _ _ _ => N14
      have l8 := fil_lt (by assumption)
      refine Ctr.use (setitem_ctr w mean mg mb (c := c) (vs := refs8) (j := i) _ _ (fil_offC l8 hoffB) (by omega) (by omega) (fil_idx (by omega) hr8)) (by k_asm) (by k_asm) (by k_asm) (newsSwap N14) (by k_asm) rfl (by ktr_room) (by ktr_units) ?_
      rintro r15 h15 tk15 n15 F15 N15 ⟨rfl, rfl⟩
      repeat ((fail_if_success (with_reducible show InvEndG _ _ _ _ _ _)); walk_at "m:step")
      exact fil_turn hx5 hi D8 hsep8 l8 hoff (by k_asm) (by k_asm)
    · rintro m1 nx h10 tk10 ⟨refs8, mk8, k8, kv, rfl, rfl, D8, hsep8⟩ F10 N10
      clear F9 N9 R9
      have hoffA : ∀ p ∈ mk8 ++ rest, p.1 ≠ ans := fun p hp => by
        rcases List.mem_append.mp hp with hp | hp
        · exact Nat.ne_of_gt (hsep8 p hp).1
        · exact Nat.ne_of_lt (allLt_in l1.2 p hp)
      repeat ((fail_if_success (with_reducible show wpAny _ _ (binaryOp Operator.Mult _ _) _ _ _)); walk_at "m:step")
      refine len_led (by k_asm) (.tail _ (.tail _ (.head _))) (by rw [List.length_replicate]; omega) ?_
      rw [List.length_replicate]
      refine KMa.mul (vs := [Value.none]) (ws := List.replicate (q + firstZ xs) Value.none) (by k_asm) (by k_asm) (News.isList (by k_asm) (.head _)) (by omega) (by omega) (by simp only [List.length_cons, List.length_nil]; omega) (repl_none _) ?_
      intro D11 h11 F11 N11 l11
      refine kqd_eq N11 (.tail _ (.tail _ (.tail _ (.head _)))) rfl rfl (datNone _) (List.forall_mem_nil _) (.head _) rfl rfl (datNone _) (List.forall_mem_nil _) (datNoneOk _) (datNoneOk _) (by ktr_units) ?_
      rw [dec_true rfl]
      repeat ((fail_if_success (with_reducible show LeaveS0 _ _ _ _ _ _ _ _)); walk_at "m:step")
      refine leaveS0_ F11 (fil_out N11) T7 ?_
      intro F12 N12
      refine hret _ _ _ _ F12 N12 ⟨refs8, mk8, _, rfl, rfl, ?_, fun x hx => ⟨(hsep8 x hx).2.1, (hsep8 x hx).2.2⟩⟩
      rw [← part_end]; exact D8
end Mine
end
section
theorem Mine.off11 : True := by
  w_top off
  trivial
namespace Mine
open LCg LCt
section
variable {prog : Program} {w : World} {A : Around} {s : Shared} {h₀ : Heap} {L : Addr} {m : Str → Option Value} {env : Env} {ct elt : Expr} {x : Str} {scope : Scope} {cl : List (Str × Addr)} {S : List (Addr × Obj) → Prop} {P : Nat → Value → Prop} {Fin : List Value → List (Addr × Obj) → Prop}
/-- a list comprehension by what holds between its turns -/
theorem comp_inv {n : Nat} (J : Nat → List Value → List (Addr × Obj) → Prop)
    (step : ∀ i ys news v I oI C oC D m₂ h tk (E' : Value → Shared → Prop), i < n → J i ys news → P i v → NsObj oC m₂ → m₂ x = some v → Fr h₀ L h m → News h₀ L h ((I, oI) :: (C, oC) :: (D, lst ys) :: news) → Off3 I C D news → ((@Ne Nat I C) ∧ (@Ne Nat I D) ∧ (@Ne Nat C D)) →
      wpAny (model prog w) A (eval elt (compEnvC scope cl C env)) (CompEnd h₀ L m { s with heap := h, toks := tk } I oI C oC D (lst ys) S (fun y news' => J (i + 1) (ys ++ [y]) news')) E' { s with heap := h, toks := tk })
    (fin : ∀ ys news, J n ys news → Fin ys news) : ∀ k i ys news, i + k = n → J i ys news → CompRest prog w A h₀ L m env elt x scope cl s S P Fin k i ys news
  | 0, i, ys, news, e, hJ => by
    obtain rfl : i = n := e
    exact CompRest.zero (fin ys news hJ)
  | k + 1, i, ys, news, e, hJ => by
    refine CompRest.succ fun v I oI C oC D m₂ h tk E' hP hC hx F N off ne => ?_
    refine wpAny_mono (step i ys news v I oI C oC D m₂ h tk E' (by omega) hJ hP hC hx F N off ne) (fun y s₂ h₂ => ?_) fun _ _ e => e
    obtain ⟨h', tk', news', e1, F', N', off', hS, hr⟩ := h₂
    exact ⟨h', tk', news', e1, F', N', off', hS, comp_inv J step fin k (i + 1) _ _ (by omega) hr⟩
/-- the same with a test -/
theorem comp_invT {n : Nat} (J : Nat → List Value → List (Addr × Obj) → Prop)
    (step : ∀ i ys news v I oI C oC D m₂ h tk (E' : Value → Shared → Prop), i < n → J i ys news → P i v → NsObj oC m₂ → m₂ x = some v → Fr h₀ L h m → News h₀ L h ((I, oI) :: (C, oC) :: (D, lst ys) :: news) → Off3 I C D news → ((@Ne Nat I C) ∧ (@Ne Nat I D) ∧ (@Ne Nat C D)) →
      wpAny (model prog w) A (isTrue ct (compEnvC scope cl C env) (eval ct (compEnvC scope cl C env))) (fun ok s' => if ok = true then
        wpAny (model prog w) A (eval elt (compEnvC scope cl C env)) (CompEnd h₀ L m { s with heap := h, toks := tk } I oI C oC D (lst ys) S (fun y news' => J (i + 1) (ys ++ [y]) news')) E' s'
        else CompEnd h₀ L m { s with heap := h, toks := tk } I oI C oC D (lst ys) S (fun _ news' => J (i + 1) ys news') Value.none s') E' { s with heap := h, toks := tk })
    (fin : ∀ ys news, J n ys news → Fin ys news) : ∀ k i ys news, i + k = n → J i ys news → CompRestT prog w A h₀ L m env ct elt x scope cl s S P Fin k i ys news
  | 0, i, ys, news, e, hJ => by
    obtain rfl : i = n := e
    exact CompRestT.zero (fin ys news hJ)
  | k + 1, i, ys, news, e, hJ => by
    refine CompRestT.succ fun v I oI C oC D m₂ h tk E' hP hC hx F N off ne => ?_
    refine wpAny_mono (step i ys news v I oI C oC D m₂ h tk E' (by omega) hJ hP hC hx F N off ne) (fun ok s₂ h₂ => ?_) fun _ _ e => e
    cases ok with
    | true =>
      simp only [if_true] at h₂ ⊢
      refine wpAny_mono h₂ (fun y s₃ h₃ => ?_) fun _ _ e => e
      obtain ⟨h', tk', news', e1, F', N', off', hS, hr⟩ := h₃
      exact ⟨h', tk', news', e1, F', N', off', hS, comp_invT J step fin k (i + 1) _ _ (by omega) hr⟩
    | false =>
      simp only [Bool.false_eq_true, if_false] at h₂ ⊢
      obtain ⟨h', tk', news', e1, F', N', off', hS, hr⟩ := h₂
      exact ⟨h', tk', news', e1, F', N', off', hS, comp_invT J step fin k (i + 1) _ _ (by omega) hr⟩
end
end Mine
end
section
theorem Mine.off12 : True := by
  w_top off
  trivial
namespace Mine
section
variable {prog : Program} {w : World} {A : Around} {E : Value → Shared → Prop} {s : Shared} {h₀ : Heap} {L : Addr} {m : Str → Option Value} {news : List (Addr × Obj)}
theorem sum_led {l : Addr} {vs : List Value} {ns : List Int} {c : Nat} {Q : Value → Shared → Prop} (hh : A.handled = none) (F : Fr h₀ L s.heap m) (N : News h₀ L s.heap news) (hm : (l, listOf vs.toArray c) ∈ news) (hi : IntsAre vs ns)
    (h : ∀ h' tk t' (z : Int), Fr h₀ L h' m → News h₀ L h' news → Q (.int z t') { s with heap := h', toks := tk }) : wpAny (model prog w) A (call (.builtin "sum") [.ref l]) Q E s := by
  have hl : s.heap.IsList l vs.toArray := PySem.IsL.isList (n := c) (N _ hm).1
  have hlt : l < s.heap.objs.size := Heap.lt_size (N _ hm).1
  have W := (Walks.list (prog := prog) (w := w) (A := A.in1) hh s.heap.objs.size l (Nat.ne_of_lt hlt) vs.toArray).toS
  refine call_sum_walkAnyS (wpAny_pyIter_list hl ?_)
  refine ⟨s.heap.objs.size, _, _, _, _, _, _, fun i => ns.getD i 0, rfl, W, ⟨⟨_, Heap.get?_push_size _ rfl, rfl, rfl⟩, hl.at fun o e => Heap.get?_push_of_some _ e⟩, fun b hb => ?_, fun i v hP => ?_, fun s' t' hmv => ?_⟩
  · rcases List.mem_cons.mp hb with rfl | hb
    · exact Heap.lt_size (Heap.get?_push_size _ rfl)
    · obtain rfl := List.mem_singleton.mp hb
      exact Heap.lt_size (Heap.get?_push_of_some _ (N _ hm).1)
  · have hP' : vs[i]? = some v := by simpa using hP
    have hlen := hi.length
    have hlt' : i < ns.length := by rw [← hlen]; exact (List.getElem?_eq_some_iff.mp hP').1
    obtain ⟨t, hx⟩ := hi.get i ns[i] (by simp [hlt'])
    rw [hP'] at hx
    refine ⟨t, ?_⟩
    rw [Option.some.inj hx]
    simp [List.getD, hlt']
  · obtain ⟨h', g', d', tk', os'⟩ := s'
    have e1 : g' = s.gens := hmv.gens
    have e2 : d' = s.drawn := hmv.drawn
    have e3 : os' = s.os := hmv.os
    subst e1 e2 e3
    have hk : ∀ b o, s.heap.get? b = some o → h'.get? b = some o := fun b o e => hmv.heap b o (fun hb => absurd (Heap.lt_size e) ((List.mem_singleton.mp hb) ▸ Nat.lt_irrefl _)) (Heap.get?_push_of_some _ e)
    exact h h' tk' t' _ (F.keeps hk) (N.grown hk)
theorem ints_pick {vs : List Value} {ns : List Int} (hi : IntsAre vs ns) (l : List Nat) : ∃ ms, IntsAre (l.filterMap fun i => vs.toArray[i]?) ms := by
  induction l with
  | nil => exact ⟨[], .nil⟩
  | cons i r ih =>
    obtain ⟨ms, hm⟩ := ih
    rw [List.filterMap_cons]
    cases e : vs.toArray[i]? with
    | none => exact ⟨ms, hm⟩
    | some v =>
      have e' : vs[i]? = some v := by simpa using e
      have hlt' : i < ns.length := by rw [← hi.length]; exact (List.getElem?_eq_some_iff.mp e').1
      obtain ⟨t, hx⟩ := hi.get i ns[i] (by simp [hlt'])
      rw [e'] at hx
      rw [Option.some.inj hx]
      exact ⟨_, .cons _ _ hm⟩
theorem ints_slice {vs : List Value} {ns : List Int} (hi : IntsAre vs ns) (lo up st : Option Int) : ∃ ms, IntsAre (slicePick vs.toArray lo up st).toList ms := by
  unfold slicePick
  exact ints_pick hi _
end
theorem off1_in {D : Addr} : ∀ {l : List (Addr × Obj)}, LCg.Off1 D l → ∀ p ∈ l, p.1 ≠ D
  | [], _, _, h => nomatch h
  | q :: r, h, p, hp => by
    rcases List.mem_cons.mp hp with rfl | hp
    · exact h.1
    · exact off1_in h.2 p hp
set_option maxHeartbeats 4000000 in
theorem drawn_ctr (w : World) (mean : ExcName → Option Value) (mg mb : Str → Option Value) {scr : Addr} {vs : List Value} {ns : List Int} (hi : IntsAre vs ns) (hn : ns.length ≤ 63)
    (dp un : Nat) (gd : Option (List Code)) (cn : Str) (cs : Scope) (a : Addr) (ccd : Value) (cl : List (Str × Addr)) (outer : List Env) (A₀ : Around) (base h₀ : Heap) (L : Addr) (m : Str → Option Value) (s : Shared) (Q E : Value → Shared → Prop) (news : List (Addr × Obj))
    (B : Below A₀ base outer h₀) (F : Fr h₀ L s.heap m) (X : (hd.heap_39 w.params).In h₀) (N : News h₀ L s.heap news) (T : Top hd.view_39 (looseW hd.view_39 [Str.ofString "Whitespace"]) mean mg mb h₀) (hk : cs.kind = .function) (hdp : dp + 3 < recursionLimit) (hu : un + 40 * 3 + 200 < cLine)
    (hl : h₀.IsList scr vs.toArray)
    (hret : ∀ D ws c ds h' tk', Fr h₀ L h' m → News h₀ L h' ((D, listOf (List.toArray ws) c) :: news) → IntsAre ws ds → ds.length = 6 → (∀ p ∈ news, p.1 ≠ D) → Q (.ref D) { s with heap := h', toks := tk' }) :
    wpAny (model Challenge.rw_pk0078_01.row.prog w) (ktrTop dp un gd cn cs L a ccd cl outer) (call (.ref 127) [.ref scr]) Q E s := by
  refine wpAny_call ?_
  k_dflt (refine' code_defC ?k1 ?k2 ?k3 ?k4 ?k5 ?kA ?kF ?kK ?k6 ?k7 ?k8 ?k9 ?kB ?kD ?_ ?c2 ?c3 ?c4; (case kA => exact rfl); (case kF => exact rfl); (case kK => assumption); (case k1 => k_asm); (case k2 => k_asm); (case k3 => k_asm); (case k4 => k_asm); (case k5 => k_asm); (case k6 => k_is); (case k7 => k_is); (case k8 => ktr_room); (case k9 => exact BindsTo.of_eq rfl); (case kB => exact rfl); (case kD => decide +kernel); (case c2 => exact rfl); (case c3 => exact rfl); (case c4 => exact rfl); k_whole)
  intro g L1 h1 tk1 cells FG F1 N1 Y1 B1 X1 T1 l1
  k_cells Y1
  (try simp only [List.cons_append, List.nil_append] at N1)
  (try dsimp only); (try k_fold)
  have hg : g.IsList scr vs.toArray := hl.at fun o e => FG.keep _ o e
  have q1 : ∀ p ∈ news, p.1 ≠ L1 + 1 := fun p hp => Nat.ne_of_lt (Nat.lt_succ_of_lt (l1 p hp))
  have q2 : ∀ p ∈ news, p.1 ≠ L1 + 1 + 1 := fun p hp => Nat.ne_of_lt (Nat.lt_succ_of_lt (Nat.lt_succ_of_lt (l1 p hp)))
  repeat ((fail_if_success (with_reducible show wpAny _ _ (eval (Expr.ListComp _ _ _ _) _) _ _ _)); walk_at "m:step")
  rename_i o1 o2 d1 d2 lf hx l2 h2 o3 F2 N2 d3
  have d2' : o2.data = .cell (some (.ref scr)) := d2
  have hz : ns.length ≤ sizeLine := Nat.le_trans hn (by decide)
  have q3 : ∀ p ∈ news, p.1 ≠ lf := fun p hp => Nat.ne_of_lt (allLt_in l2.2.2 p hp)
  refine LCg.ListComp_U (F₀ := F2) (by with_unfolding_all rfl) (by decide) (by rfl) (by decide) (by rfl) ?_
  repeat ((fail_if_success (with_reducible show LCg.CompSrc _ _ _ _ _ _ _ _ _ _ _ _ _ _)); walk_at "m:step")
  refine LCg.CompSrc.range (n := 6) (by rfl) (by k_asm) (by k_asm) (by assumption) (by first | decide | rfl) (by first | rfl | decide) (by first | size_fits | exact Nat.le_of_ble_eq_true rfl) ?_
  intro g'
  refine comp_inv (fun i ys nw => nw = (lf, listOf #[Value.int 1 tk1, Value.int 0 (tk1 + 1), Value.int 2 (tk1 + 1 + 1), Value.int 4 (tk1 + 1 + 1 + 1), Value.int 3 (tk1 + 1 + 1 + 1 + 1), Value.int 2 (tk1 + 1 + 1 + 1 + 1 + 1)] 0) :: (L1+1+1, o3) :: (L1+1, o2) :: news ∧ ∃ ds : List Int, IntsAre ys ds ∧ ds.length = i) ?_ ?_ 6 0 [] _ rfl ⟨rfl, [], .nil, rfl⟩
  · rintro i ys nw v I oI C oC D m2 h tk E' hi6 ⟨rfl, ds, ids, hds⟩ ⟨t, rfl⟩ hC hx F N off ne

    rw [Int.zero_add] at *; clear hret; dsimp only
    repeat ((fail_if_success (with_reducible show wpAny _ _ (subscriptTail _ _ _ _) _ _ _)); walk_at "m:step")
    have hsl : Heap.IsList h scr vs.toArray := hg.at fun o e => F.keep _ o e
    refine' kmk_slice3_lit F N hsl ?pa ?pb ?pc ?pd rfl ?_ ?pe ?pf ?pg
    case pa => kmk_part
    case pb => kmk_part
    case pc => kmk_part
    case pd => decide
    case pe => with_unfolding_all rfl
    case pf => intro _; with_unfolding_all rfl
    case pg => simpa [hi.length] using hz
    intro D2 h3 F3 N3 l3
    obtain ⟨ms, hms⟩ := ints_slice hi (some (i : Int)) none (some 6)
    generalize (slicePick vs.toArray (some (i : Int)) none (some 6)).toList = zs at N3 hms
    dsimp only
    repeat ((fail_if_success (with_reducible show wpAny _ _ (call _ _) _ _ _)); walk_at "m:step")
    refine sum_led (by rfl) F3 N3 (.head _) hms ?_
    intro h4 tk4 t4 z F4 N4
    repeat ((fail_if_success (with_reducible show wpAny _ _ (subscriptTail _ _ _ _) _ _ _)); walk_at "m:step")
    refine ksa_sub (ns := [1, 0, 2, 4, 3, 2]) N4 (by k_mem) (by repeat constructor) (by omega) (by simp; omega) (by omega) ?_
    intro t5
    k_steps
    exact LCg.CompEnd.intro F4 N4 _ (fun p hp => .tail _ hp) off trivial ⟨rfl, ds ++ [_], ids.append (.cons _ _ .nil), by simp [hds]⟩
  · rintro ys nw ⟨rfl, ds, ids, hds⟩ D h tk F N off
    have q4 : ∀ p ∈ news, p.1 ≠ D := off1_in off.2.2.2
    k_steps
    rename News h₀ L _ _ => kN
    refine hret D ys ys.length ds _ _ (by assumption) (fun p hp => kN p ?_) ids hds q4
    rcases List.mem_cons.mp hp with rfl | hp
    · exact List.Mem.head _
    · exact .tail _ (.tail _ (.tail _ (.tail _ hp)))
end Mine
end
section
theorem Mine.off13 : True := by
  w_top off
  trivial
namespace Mine
section
variable {M : Model} {A : Around} {E : Value → Shared → Prop} {s : Shared} {h₀ : Heap} {L a : Addr} {m : Str → Option Value} {cn : Str} {cs : Scope} {ccd : Value} {cl : List (Str × Addr)}
  {x : Str} {v : Value} {Q : Unit → Shared → Prop} {news : List (Addr × Obj)} {c : Addr} {o : Obj} {v₀ : Option Value}
/-- a store into a cell: all of the ledger that lies elsewhere stays -/
theorem store_cell (F : Fr h₀ L s.heap m) (N : News h₀ L s.heap news) (hc : cl.lookup x = some c) (hm : (c, o) ∈ news) (hd : o.data = .cell v₀)
    (h : ∀ h' o', Fr h₀ L h' m → (∀ nw, (∀ p ∈ nw, p ∈ news ∧ p.1 ≠ c) → News h₀ L h' ((c, o') :: nw)) → o'.data = .cell (some v) → Q () { s with heap := h' })
    (hk : cs.kind = .function := by rfl) (hx : (envX cn cs L a ccd cl).kindOf x = some .cell := by rfl) : wpAny M A (storeName (envX cn cs L a ccd cl) x v) Q E s := by
  have N' : News h₀ L s.heap ((c, o) :: news.filter fun p => decide (p.1 ≠ c)) := fun p hp => N p (by
    rcases List.mem_cons.mp hp with rfl | hp
    · exact hm
    · exact (List.mem_filter.mp hp).1)
  refine storeX_C F N' hc (UpdF.head fun p hp => by simpa using (List.mem_filter.mp hp).2) hd (fun h' o' F' N'' d' => h h' o' F' (fun nw hnw p hp => ?_) d') hk hx
  rcases List.mem_cons.mp hp with rfl | hp
  · exact N'' _ (.head _)
  · exact N'' p (.tail _ (List.mem_filter.mpr ⟨(hnw p hp).1, by simpa using (hnw p hp).2⟩))
end
theorem keepPO {M : Model} {A : Around} {env : Env} {body : List Stmt} {Q : Flow → Shared → Prop} {E : Value → Shared → Prop} {s : Shared} (h : PassesOwn M A env E) (k : PassesOwn M A env E → wpAny M A (execs body env) Q E s) : wpAny M A (execs body env) Q E s := k h
theorem all_cons {p : Addr × Obj} {l nw : List (Addr × Obj)} {c : Addr} (h : p ∈ l ∧ p.1 ≠ c) (h' : ∀ q ∈ nw, q ∈ l ∧ q.1 ≠ c) : ∀ q ∈ p :: nw, q ∈ l ∧ q.1 ≠ c := fun q hq => by
  rcases List.mem_cons.mp hq with rfl | hq
  · exact h
  · exact h' q hq
theorem all_nil {l : List (Addr × Obj)} {c : Addr} : ∀ q ∈ ([] : List (Addr × Obj)), q ∈ l ∧ q.1 ≠ c := fun _ h => nomatch h
theorem newsPick {h₀ h : Heap} {L : Addr} {l l' : List (Addr × Obj)} (N : News h₀ L h l) (e : ∀ p ∈ l', p ∈ l) : News h₀ L h l' := fun p hp => N p (e p hp)
theorem sub_nil {l : List (Addr × Obj)} : ∀ q ∈ ([] : List (Addr × Obj)), q ∈ l := fun _ h => nomatch h
theorem sub_cons {p : Addr × Obj} {l nw : List (Addr × Obj)} (h : p ∈ l) (h' : ∀ q ∈ nw, q ∈ l) : ∀ q ∈ p :: nw, q ∈ l := fun q hq => by
  rcases List.mem_cons.mp hq with rfl | hq
  · exact h
  · exact h' q hq
theorem sub_app {l a b : List (Addr × Obj)} (h : ∀ q ∈ a, q ∈ l) (h' : ∀ q ∈ b, q ∈ l) : ∀ q ∈ a ++ b, q ∈ l := fun q hq => by
  rcases List.mem_append.mp hq with hq | hq
  · exact h q hq
  · exact h' q hq
theorem far_nil {c : Addr} : ∀ q ∈ ([] : List (Addr × Obj)), q.1 ≠ c := fun _ h => nomatch h
theorem far_cons {p : Addr × Obj} {nw : List (Addr × Obj)} {c : Addr} (h : p.1 ≠ c) (h' : ∀ q ∈ nw, q.1 ≠ c) : ∀ q ∈ p :: nw, q.1 ≠ c := fun q hq => by
  rcases List.mem_cons.mp hq with rfl | hq
  · exact h
  · exact h' q hq
theorem far_app {a b : List (Addr × Obj)} {c : Addr} (h : ∀ q ∈ a, q.1 ≠ c) (h' : ∀ q ∈ b, q.1 ≠ c) : ∀ q ∈ a ++ b, q.1 ≠ c := fun q hq => by
  rcases List.mem_append.mp hq with hq | hq
  · exact h q hq
  · exact h' q hq
theorem all_app {l a b : List (Addr × Obj)} {c : Addr} (h : ∀ q ∈ a, q ∈ l ∧ q.1 ≠ c) (h' : ∀ q ∈ b, q ∈ l ∧ q.1 ≠ c) : ∀ q ∈ a ++ b, q ∈ l ∧ q.1 ≠ c := fun q hq => by
  rcases List.mem_append.mp hq with hq | hq
  · exact h q hq
  · exact h' q hq
def cellsFar (L a : Addr) : Prop := ∀ i : Nat, 2 ≤ i ∧ i ≤ 7 → @Ne Nat a (L + i)
theorem cellsFar_of {L a : Addr} (h2 : a ≠ L + 1 + 1) (h3 : a ≠ L + 1 + 1 + 1) (h4 : a ≠ L + 1 + 1 + 1 + 1) (h5 : a ≠ L + 1 + 1 + 1 + 1 + 1) (h6 : a ≠ L + 1 + 1 + 1 + 1 + 1 + 1) (h7 : a ≠ L + 1 + 1 + 1 + 1 + 1 + 1 + 1) : cellsFar L a := fun i hi => by
  have : i = 2 ∨ i = 3 ∨ i = 4 ∨ i = 5 ∨ i = 6 ∨ i = 7 := by omega
  rcases this with rfl | rfl | rfl | rfl | rfl | rfl
  · exact h2
  · exact h3
  · exact h4
  · exact h5
  · exact h6
  · exact h7
theorem cellsFar.at {L a : Addr} (h : cellsFar L a) : (@Ne Nat a (L + 1 + 1)) ∧ (@Ne Nat a (L + 1 + 1 + 1)) ∧ (@Ne Nat a (L + 1 + 1 + 1 + 1)) ∧ (@Ne Nat a (L + 1 + 1 + 1 + 1 + 1)) ∧ (@Ne Nat a (L + 1 + 1 + 1 + 1 + 1 + 1)) ∧ (@Ne Nat a (L + 1 + 1 + 1 + 1 + 1 + 1 + 1)) :=
  ⟨h 2 (by omega), h 3 (by omega), h 4 (by omega), h 5 (by omega), h 6 (by omega), h 7 (by omega)⟩
theorem cellsFar.to {L a : Addr} (h : (@Ne Nat a (L + 1 + 1)) ∧ (@Ne Nat a (L + 1 + 1 + 1)) ∧ (@Ne Nat a (L + 1 + 1 + 1 + 1)) ∧ (@Ne Nat a (L + 1 + 1 + 1 + 1 + 1)) ∧ (@Ne Nat a (L + 1 + 1 + 1 + 1 + 1 + 1)) ∧ (@Ne Nat a (L + 1 + 1 + 1 + 1 + 1 + 1 + 1))) : cellsFar L a :=
  cellsFar_of h.1 h.2.1 h.2.2.1 h.2.2.2.1 h.2.2.2.2.1 h.2.2.2.2.2
end Mine
end
section
theorem Mine.off14 : True := by
  w_top off
  trivial
namespace Mine
/-- the row after i strikes, and what strike i takes out -/
def rowN (us : List Nat) (xs : List Int) : Nat → List Int
  | 0 => xs
  | i + 1 => (strike (rowN us xs i).length (rowN us xs i) (us.getD i 0) (i + 1)).2
def heapN (us : List Nat) (xs : List Int) (i : Nat) : List Int := (strike (rowN us xs i).length (rowN us xs i) (us.getD i 0) (i + 1)).1
def heapD (us : List Nat) (xs : List Int) (i : Nat) : Dat := .list ((heapN us xs i).map pairD)
theorem strike_len : ∀ (f : Nat) (row : List Int) (p st : Nat), (strike f row p st).2.length ≤ row.length
  | 0, _, _, _ => Nat.le_refl _
  | f + 1, row, p, st => by
    unfold strike
    split
    · exact Nat.le_refl _
    · exact Nat.le_trans (strike_len f _ _ _) (by rw [List.length_eraseIdx]; split <;> omega)
theorem rowN_len (us : List Nat) (xs : List Int) : ∀ i, (rowN us xs i).length ≤ xs.length
  | 0 => Nat.le_refl _
  | i + 1 => Nat.le_trans (strike_len _ _ _ _) (rowN_len us xs i)
def StrkJ (us : List Nat) (xs : List Int) (row : Addr) (R : List (Addr × Obj)) (i : Nat) (ys : List Value) (nw : List (Addr × Obj)) : Prop :=
  ∃ (vs : List Value) (c : Nat) (mk : List (Addr × Obj)), nw = (row, listOf vs.toArray c) :: (mk ++ R) ∧ IntsAre vs (rowN us xs i) ∧ DatAll mk ys ((List.range i).map (heapD us xs)) ∧ ∀ x ∈ mk, @LT.lt Nat _ row x.1 ∧ ∀ y ∈ R, @LT.lt Nat _ y.1 x.1
section
open LCg
variable {h₀ h' : Heap} {L : Addr} {m : Str → Option Value} {us : List Nat} {xs : List Int} {row I C D : Addr} {oI oC oD o : Obj} {R mk n : List (Addr × Obj)} {i : Nat} {ys : List Value} {r : Value} {s₁ : Shared} {tk : Nat}
theorem strk_end (F : Fr h₀ L h' m) (N : News h₀ L h' n) (P : StrPost row (rowN us xs i) (us.getD i 0) (i + 1) ((I, oI) :: (C, oC) :: (D, oD) :: (mk ++ R)) r n)
    (dat : DatAll mk ys ((List.range i).map (heapD us xs))) (fr : ∀ x ∈ mk, @LT.lt Nat _ row x.1 ∧ ∀ y ∈ R, @LT.lt Nat _ y.1 x.1) (off : Off3 I C D ((row, o) :: (mk ++ R))) :
    CompEnd h₀ L m s₁ I oI C oC D oD (fun _ => True) (fun y nw => StrkJ us xs row R (i + 1) (ys ++ [y]) nw) r { s₁ with heap := h', toks := tk } := by
  obtain ⟨vs', c', mk1, rfl, ivs, dat1, fr1⟩ := P
  have hoff := Off3.mem off
  refine CompEnd.intro F N ((row, listOf vs'.toArray c') :: ((mk1 ++ mk) ++ R)) (fun p hp => ?_) (Off3.of fun p hp => ?_) trivial ⟨vs', c', mk1 ++ mk, rfl, ivs, ?_, fun x hx => ?_⟩
  · simp only [List.mem_cons, List.mem_append] at hp ⊢
    rcases hp with h | h | h | h | ((h | h) | h)
    · exact .inr (.inr (.inl h))
    · exact .inr (.inr (.inr (.inl h)))
    · exact .inr (.inr (.inr (.inr (.inl h))))
    · exact .inl h
    · exact .inr (.inl h)
    · exact .inr (.inr (.inr (.inr (.inr (.inl h)))))
    · exact .inr (.inr (.inr (.inr (.inr (.inr h)))))
  · simp only [List.mem_cons, List.mem_append] at hp
    rcases hp with rfl | ((h | h) | h)
    · exact hoff (row, o) (.head _)
    · have := (fr1 p h).2
      exact ⟨fun e => Nat.lt_irrefl _ (e ▸ this (I, oI) (.head _)), fun e => Nat.lt_irrefl _ (e ▸ this (C, oC) (.tail _ (.head _))), fun e => Nat.lt_irrefl _ (e ▸ this (D, oD) (.tail _ (.tail _ (.head _))))⟩
    · exact hoff p (.tail _ (List.mem_append_left _ h))
    · exact hoff p (.tail _ (List.mem_append_right _ h))
  · rw [List.range_succ, List.map_append]
    exact (dat.mono fun p hp => List.mem_append_right _ hp).append (.one (dat1.mono fun p hp => List.mem_append_left _ hp))
  · rcases List.mem_append.mp hx with h | h
    · exact ⟨(fr1 x h).1, fun y hy => (fr1 x h).2 y (.tail _ (.tail _ (.tail _ (List.mem_append_right _ hy))))⟩
    · exact fr x h
theorem strk_off (fr : ∀ x ∈ mk, @LT.lt Nat _ row x.1 ∧ ∀ y ∈ R, @LT.lt Nat _ y.1 x.1) (hR : ∀ p ∈ R, p.1 ≠ row) (off : Off3 I C D ((row, o) :: (mk ++ R))) : ∀ p ∈ (I, oI) :: (C, oC) :: (D, oD) :: (mk ++ R), p.1 ≠ row := by
  intro p hp
  have h0 := Off3.mem off _ (.head _)
  rcases List.mem_cons.mp hp with rfl | hp
  · exact Ne.symm h0.1
  rcases List.mem_cons.mp hp with rfl | hp
  · exact Ne.symm h0.2.1
  rcases List.mem_cons.mp hp with rfl | hp
  · exact Ne.symm h0.2.2
  rcases List.mem_append.mp hp with hp | hp
  · exact fun e => Nat.lt_irrefl _ (e ▸ (fr p hp).1)
  · exact hR p hp
theorem strk_news {h : Heap} (N : News h₀ L h ((I, oI) :: (C, oC) :: (D, oD) :: (row, o) :: (mk ++ R))) : News h₀ L h ((row, o) :: (I, oI) :: (C, oC) :: (D, oD) :: (mk ++ R)) := fun p hp => N p (by
  simp only [List.mem_cons] at hp ⊢
  rcases hp with h | h | h | h | h
  · exact .inr (.inr (.inr (.inl h)))
  · exact .inl h
  · exact .inr (.inl h)
  · exact .inr (.inr (.inl h))
  · exact .inr (.inr (.inr (.inr h))))
end
end Mine
end
section
theorem Mine.off15 : True := by
  w_top off
  trivial
namespace Mine
section
open LCg
variable {h₀ h' : Heap} {L : Addr} {m : Str → Option Value} {I C D l : Addr} {oI oC oD o : Obj} {R mk : List (Addr × Obj)} {ys : List Value} {ds : List Dat} {d : Dat} {s₁ : Shared} {tk : Nat} {S : List (Addr × Obj) → Prop}
/-- a turn of a comprehension that lays one new thing -/
theorem new_end (F : Fr h₀ L h' m) (N : News h₀ L h' ((l, o) :: (I, oI) :: (C, oC) :: (D, oD) :: (mk ++ R))) (l1 : (@LT.lt Nat _ I l) ∧ (@LT.lt Nat _ C l) ∧ (@LT.lt Nat _ D l) ∧ AllLt l (mk ++ R))
    (dat : DatAll mk ys ds) (hd : DatIn ((l, o) :: mk) (.ref l) d) (fr : ∀ x ∈ mk, ∀ y ∈ R, @LT.lt Nat _ y.1 x.1) (off : Off3 I C D (mk ++ R)) (hS : S (((l, o) :: mk) ++ R)) :
    CompEnd h₀ L m s₁ I oI C oC D oD S (fun y nw => ∃ mk, nw = mk ++ R ∧ DatAll mk (ys ++ [y]) (ds ++ [d]) ∧ ∀ x ∈ mk, ∀ y ∈ R, @LT.lt Nat _ y.1 x.1) (.ref l) { s₁ with heap := h', toks := tk } := by
  have hl := allLt_in l1.2.2.2
  refine CompEnd.intro F N (((l, o) :: mk) ++ R) (fun p hp => ?_) (Off3.of fun p hp => ?_) hS ⟨(l, o) :: mk, rfl, (dat.mono fun p hp => .tail _ hp).append (.one hd), fun x hx y hy => ?_⟩
  · simp only [List.mem_cons, List.cons_append] at hp ⊢
    rcases hp with h | h | h | h | h
    · exact .inr (.inl h)
    · exact .inr (.inr (.inl h))
    · exact .inr (.inr (.inr (.inl h)))
    · exact .inl h
    · exact .inr (.inr (.inr (.inr h)))
  · rcases List.mem_cons.mp hp with rfl | h
    · exact ⟨Ne.symm (Nat.ne_of_lt l1.1), Ne.symm (Nat.ne_of_lt l1.2.1), Ne.symm (Nat.ne_of_lt l1.2.2.1)⟩
    · exact Off3.mem off p h
  · rcases List.mem_cons.mp hx with rfl | hx
    · exact hl y (List.mem_append_right _ hy)
    · exact fr x hx y hy
end
theorem take_getD (xs : List Int) {i : Nat} (h : i < xs.length) : xs.take (i + 1) = xs.take i ++ [xs.getD i 0] := by
  rw [List.take_succ]; simp [List.getD, h]
/-- the board after k turns -/
def fillI (xs : List Int) : Nat → List Int
  | 0 => xs
  | k + 1 => fillN (fillI xs k)
theorem fillN_len {xs : List Int} (h : xs.length = 5) : (fillN xs).length = 5 := by
  have := firstZ_le xs
  unfold fillN
  split <;> simp <;> omega
theorem fillI_len {xs : List Int} (h : xs.length = 5) : ∀ k, (fillI xs k).length = 5
  | 0 => h
  | k + 1 => fillN_len (fillI_len h k)
/-- the ledger between two turns of the solitaire -/
def TurnJ (xs : List Int) (B : Addr) (c : Nat) (dl R : List (Addr × Obj)) (i : Nat) (ys : List Value) (nw : List (Addr × Obj)) : Prop :=
  ∃ (refs : List Value) (mk : List (Addr × Obj)), nw = (B, listOf refs.toArray c) :: (mk ++ R) ∧ DatAll (mk ++ dl) refs ((fillI xs i).map holeD) ∧ IntsAre ys (toZ ((List.range i).map fun k => firstZ (fillI xs k))) ∧ ∀ x ∈ mk, @LT.lt Nat _ B x.1 ∧ ∀ y ∈ R, @LT.lt Nat _ y.1 x.1
section
open LCg
variable {h₀ h' : Heap} {L : Addr} {m : Str → Option Value} {xs : List Int} {B I C D : Addr} {oI oC oD o : Obj} {dl R mk n : List (Addr × Obj)} {i c : Nat} {ys : List Value} {r : Value} {s₁ : Shared} {tk : Nat}
theorem turn_end (F : Fr h₀ L h' m) (N : News h₀ L h' n) (P : FillPost B (fillI xs i) c (mk ++ dl) ((I, oI) :: (C, oC) :: (D, oD) :: (mk ++ R)) r n) (iy : IntsAre ys (toZ ((List.range i).map fun k => firstZ (fillI xs k))))
    (fr : ∀ x ∈ mk, @LT.lt Nat _ B x.1 ∧ ∀ y ∈ R, @LT.lt Nat _ y.1 x.1) (off : Off3 I C D ((B, o) :: (mk ++ R))) :
    CompEnd h₀ L m s₁ I oI C oC D oD (fun _ => True) (fun y nw => TurnJ xs B c dl R (i + 1) (ys ++ [y]) nw) r { s₁ with heap := h', toks := tk } := by
  obtain ⟨refs', mk1, t, rfl, rfl, dat1, fr1⟩ := P
  have hoff := Off3.mem off
  refine CompEnd.intro F N ((B, listOf refs'.toArray c) :: ((mk1 ++ mk) ++ R)) (fun p hp => ?_) (Off3.of fun p hp => ?_) trivial ⟨refs', mk1 ++ mk, rfl, ?_, ?_, fun x hx => ?_⟩
  · simp only [List.mem_cons, List.mem_append] at hp ⊢
    rcases hp with h | h | h | h | ((h | h) | h)
    · exact .inr (.inr (.inl h))
    · exact .inr (.inr (.inr (.inl h)))
    · exact .inr (.inr (.inr (.inr (.inl h))))
    · exact .inl h
    · exact .inr (.inl h)
    · exact .inr (.inr (.inr (.inr (.inr (.inl h)))))
    · exact .inr (.inr (.inr (.inr (.inr (.inr h)))))
  · simp only [List.mem_cons, List.mem_append] at hp
    rcases hp with rfl | ((h | h) | h)
    · exact hoff (B, o) (.head _)
    · have := (fr1 p h).2
      exact ⟨fun e => Nat.lt_irrefl _ (e ▸ this (I, oI) (.head _)), fun e => Nat.lt_irrefl _ (e ▸ this (C, oC) (.tail _ (.head _))), fun e => Nat.lt_irrefl _ (e ▸ this (D, oD) (.tail _ (.tail _ (.head _))))⟩
    · exact hoff p (.tail _ (List.mem_append_left _ h))
    · exact hoff p (.tail _ (List.mem_append_right _ h))
  · rw [List.append_assoc]; exact dat1
  · rw [show toZ ((List.range (i + 1)).map fun k => firstZ (fillI xs k)) = toZ ((List.range i).map fun k => firstZ (fillI xs k)) ++ [((firstZ (fillI xs i) : Nat) : Int)] by simp [toZ, List.range_succ]]
    exact iy.append (.cons _ _ .nil)
  · rcases List.mem_append.mp hx with h | h
    · exact ⟨(fr1 x h).1, fun y hy => (fr1 x h).2 y (.tail _ (.tail _ (.tail _ (List.mem_append_right _ hy))))⟩
    · exact fr x h
end
end Mine
end
section
theorem Mine.off16 : True := by
  w_top off
  trivial
namespace Mine
section
variable {prog : Program} {w : World} {A : Around} {E : Value → Shared → Prop} {s : Shared} {env : Env} {h₀ : Heap} {body : List Stmt} {Q : Flow → Shared → Prop} {x : Str} {px : Pos}
theorem letGo_name {I : Addr} {v : Value} {Q' : Unit → Shared → Prop} {E' : Value → Shared → Prop} {s' : Shared} (h : Q' () s') : wpAny (model prog w) A (letOwnedTupleGo (.Name x px) (.ref I) v) Q' E' s' := by
  unfold letOwnedTupleGo
  exact wpAny_pure h
/-- a for loop over a range whose name may be a cell: the turn begins with the store -/
theorem turns_rng {r : Addr} {t₀ u₀ v₀ : Tok} {n : Nat} {m₀ : Str → Option Value} {news : List (Addr × Obj)} (J : Nat → (Str → Option Value) → List (Addr × Obj) → Prop)
    (hh : A.handled = none) (hr : IsRange s.heap r 0 n 1 t₀ u₀ v₀) (hsmall : Builtin.Range.small 0 (n : Int) 1 = true) (hsz : Builtin.Range.rangeSize 0 (n : Int) 1 = (n : Int)) (F : Fr h₀ env.locals s.heap m₀) (N : News h₀ env.locals s.heap news) (hj : J 0 m₀ news)
    (turn : ∀ i t m₁ nx h tk I oI, i < n → J i m₁ nx → (∀ p ∈ nx, p.1 ≠ I) → Fr h₀ env.locals h m₁ → News h₀ env.locals h ((I, oI) :: nx) →
      wpAny (model prog w) A (assign (.Name x px) env (.int (i : Int) t)) (fun _ s₃ => wpAny (model prog w) A (execs body env)
        (fun f s' => match f with
          | .ret v => Q (.ret v) s'
          | .next => ∃ h' tk' m' nx', s' = { s with heap := h', toks := tk' } ∧ Fr h₀ env.locals h' m' ∧ News h₀ env.locals h' ((I, oI) :: nx') ∧ (∀ p ∈ nx', p.1 ≠ I) ∧ J (i + 1) m' nx'
          | _ => False) E s₃) E { s with heap := h, toks := tk })
    (done : ∀ m₁ nx h tk, J n m₁ nx → Fr h₀ env.locals h m₁ → News h₀ env.locals h nx → Q .next { s with heap := h, toks := tk }) :
    wpAny (model prog w) A (pyIter (.ref r)) (fun it s₂ => TurnsAt prog w A h₀ env (.Name x px) body Q E it s₂) E s := by
  refine wpAny_pyIter_range hr hsmall ?_
  refine ⟨s.heap.objs.size, [s.heap.objs.size], [s.heap.objs.size], n, _, _, _, m₀, news, J, rfl, KTurns.ofWalks (LCg.range_walks hh 0 n) (fun i v s' Q' E' _ q => letGo_name q), ?_, ?_, ?_, ?_, F.push _, fun p hp => ⟨Heap.get?_push_of_some _ (N p hp).1, (N p hp).2⟩, hj, ?_, fun h' tk m' nx F' N' _ hJ => done m' nx h' tk hJ F' N'⟩
  · intro hm
    exact absurd F.ns.lt ((List.mem_singleton.mp hm) ▸ Nat.lt_irrefl _)
  · intro b hb
    rw [List.mem_singleton.mp hb]
    exact next_is_new F
  · intro p hp hI
    exact absurd (Heap.lt_size (N p hp).1) ((List.mem_singleton.mp hI) ▸ Nat.lt_irrefl _)
  · show IsRangeIter _ _ _ _ _
    rw [hsz]; simpa using Heap.get?_push_size _ rfl
  · rintro i v m₁ nx h tk own hi ⟨t, rfl⟩ hJ hnw hfp hown hall st F₁ N₁
    rw [Int.zero_add]
    obtain ⟨oI, ho⟩ : ∃ oI, h.get? s.heap.objs.size = some oI := ⟨_, st⟩
    have hI : (s.heap.objs.size, oI) ∈ own := hall s.heap.objs.size (.head _) (next_is_new F) _ ho
    have N₂ : News h₀ env.locals h ((s.heap.objs.size, oI) :: nx) := fun p hp => by
      rcases List.mem_cons.mp hp with rfl | hp
      · exact N₁ _ (List.mem_append_left _ hI)
      · exact N₁ p (List.mem_append_right _ hp)
    have ht := turn i t m₁ nx h tk s.heap.objs.size oI hi hJ (fun p hp e => hnw p hp (e ▸ .head _)) F₁ N₂
    refine wpAny_mono ht (fun _ s₃ h₃ => wpAny_mono h₃ (fun f s' hf => ?_) fun _ _ e => e) fun _ _ e => e
    cases f with
    | ret v => exact hf
    | next =>
      obtain ⟨h', tk', m', nx', rfl, F', N', far, hJ'⟩ := hf
      refine ⟨rfl, h', tk', m', nx', rfl, F', fun p hp => ?_, fun p hp hm => far p hp (List.mem_singleton.mp hm), hJ'⟩
      rcases List.mem_append.mp hp with hq | hq
      · have e1 : p.1 = s.heap.objs.size := List.mem_singleton.mp (hfp p hq)
        have e2 := hown p hq
        rw [e1, ho] at e2
        have : p = (s.heap.objs.size, oI) := Prod.ext e1 (Option.some.inj e2).symm
        rw [this]
        exact N' _ (.head _)
      · exact N' p (.tail _ hq)
    | _ => exact hf.elim
end
end Mine
end
section
theorem Mine.off17 : True := by
  w_top off
  trivial
namespace Mine
def toldN (us : List Nat) (m n : Nat) : List Nat := (List.range n).map fun t => colN (us.take m) m ((m + 1) * (us.getD m 0 + t * (m + 2)))
def heapL (us : List Nat) (gl m : Nat) : Nat := (heapN us (toZ (List.range gl)) m).length
def rowL (us : List Nat) (gl : Nat) : Nat := (rowN us (toZ (List.range gl)) 5).length
/-- what the plain mathematics says of the sieve, the columns and the solitaire -/
structure Facts (us : List Nat) (gl : Nat) : Prop where
  heap : ∀ m, m < 5 → heapN us (toZ (List.range gl)) m = toZ (toldN us m (heapL us gl m))
  like : ∀ m, m < 5 → heapN us (toZ ((List.range gl).map (· % 3))) m = toZ ((toldN us m (heapL us gl m)).map (· % 3))
  turn : ∀ m, m < 5 → toldN us m (heapL us gl m) = (List.range gl).filter (fun t => firstZ (fillI (toZ us) t) == m)
  place : ∀ m, m < 5 → ∀ t, t < heapL us gl m → us.getD m 0 + t * (m + 2) ≤ 35
  row : rowN us (toZ (List.range gl)) 5 = toZ ((List.range (rowL us gl)).map fun t => colN us 5 (6 * t))
  next : gl ≤ colN us 5 (6 * rowL us gl)
  rest : rowN us (toZ (List.range gl)) 5 = toZ ((List.range gl).filter (fun t => firstZ (fillI (toZ us) t) == 5))
  twin : rowN us (toZ ((List.range gl).map (· % 3))) 5 = toZ (((List.range (rowL us gl)).map fun t => colN us 5 (6 * t)).map (· % 3))
  board : fillI (toZ us) gl = toZ (stN us 5 0 gl)
theorem dat_list {R : List (Addr × Obj)} {v : Value} {ds : List Dat} (h : DatIn R v (.list ds)) : ∃ (a : Addr) (ws : List Value) (n : Nat), v = .ref a ∧ (a, listOf ws.toArray n) ∈ R ∧ DatAll R ws ds := by
  cases h with
  | list hm hd => exact ⟨_, _, _, rfl, hm, hd⟩
theorem dat_heap {R : List (Addr × Obj)} {hs : List Value} {f : Nat → Dat} {g : Nat → List Dat} {n i : Nat} (hf : ∀ k, f k = .list (g k)) (h : DatAll R hs ((List.range n).map f)) (hi : i < n) : ∃ (a : Addr) (ws : List Value) (k : Nat), hs[i]? = some (.ref a) ∧ (a, listOf ws.toArray k) ∈ R ∧ DatAll R ws (g i) := by
  obtain ⟨v, hv, hd⟩ := h.get (k := i) (by simpa using hi)
  have e : ((List.range n).map f)[i]'(by simpa using hi) = .list (g i) := by simp [hf]
  rw [e] at hd
  obtain ⟨a, ws, k, rfl, hm, hda⟩ := dat_list hd
  exact ⟨a, ws, k, hv, hm, hda⟩
theorem ints_dat {R : List (Addr × Obj)} : ∀ {vs : List Value} {ns : List Int}, IntsAre vs ns → DatAll R vs (ns.map Dat.int)
  | _, _, .nil => .nil
  | _, _, .cons _ _ h => .cons (.int _ _) (ints_dat h)
end Mine
end
section
theorem Mine.off18 : True := by
  w_top off
  trivial
namespace Mine
/-- out of a row: pass over d, take one, pass over st, take one, ..: what is taken and what stays -/
def sel {α : Type} (st : Nat) : Nat → List α → List α × List α
  | _, [] => ([], [])
  | 0, x :: r => (x :: (sel st st r).1, (sel st st r).2)
  | d + 1, x :: r => ((sel st d r).1, x :: (sel st d r).2)
def cdn (st : Nat) : Nat → Nat → Nat
  | d, 0 => d
  | 0, n + 1 => cdn st st n
  | d + 1, n + 1 => cdn st d n
theorem strike_sel (st : Nat) : ∀ (b a : List Int) (d f : Nat), (a ++ b).length ≤ f → strike f (a ++ b) (a.length + d) st = ((sel st d b).1, a ++ (sel st d b).2)
  | [], a, d, f, _ => by
    have h : (a ++ ([] : List Int))[a.length + d]? = none := by simp
    cases f with
    | zero => simp [strike, sel]
    | succ f => simp only [strike, h]; simp [sel]
  | x :: r, a, 0, f, hf => by
    cases f with
    | zero => simp at hf
    | succ f =>
      have h : (a ++ x :: r)[a.length + 0]? = some x := by simp
      have e : (a ++ x :: r).eraseIdx (a.length + 0) = a ++ r := by
        rw [Nat.add_zero, List.eraseIdx_append_of_length_le (Nat.le_refl _)]; simp
      have ih := strike_sel st r a st f (by simp only [List.length_append, List.length_cons] at hf ⊢; omega)
      simp only [strike, h, e]
      rw [Nat.add_zero, ih]
      simp [sel]
  | x :: r, a, d + 1, f, hf => by
    have ih := strike_sel st r (a ++ [x]) d f (by simpa using hf)
    rw [show a ++ x :: r = (a ++ [x]) ++ r by simp, show a.length + (d + 1) = (a ++ [x]).length + d by simp; omega, ih]
    simp [sel]
theorem strike_is (row : List Int) (d st : Nat) : strike row.length row d st = sel st d row := by
  have := strike_sel st row [] d row.length (by simp)
  simpa using this
theorem sel_map {α β : Type} (f : α → β) (st : Nat) : ∀ (l : List α) (d : Nat), sel st d (l.map f) = ((sel st d l).1.map f, (sel st d l).2.map f)
  | [], d => by simp [sel]
  | x :: r, 0 => by simp [sel, sel_map f st r]
  | x :: r, d + 1 => by simp [sel, sel_map f st r]
theorem sel_one {α : Type} (st : Nat) : ∀ (l : List α) (d t : Nat), (sel st d l).1[t]? = l[d + t * (st + 1)]?
  | [], d, t => by simp [sel]
  | x :: r, 0, 0 => by simp [sel]
  | x :: r, 0, t + 1 => by
    have := sel_one st r st t
    simp only [sel, List.getElem?_cons_succ, this]
    rw [show 0 + (t + 1) * (st + 1) = (st + t * (st + 1)) + 1 by rw [Nat.add_mul]; omega, List.getElem?_cons_succ]
  | x :: r, d + 1, t => by
    have := sel_one st r d t
    simp only [sel, this]
    rw [show d + 1 + t * (st + 1) = (d + t * (st + 1)) + 1 by omega, List.getElem?_cons_succ]
theorem sel_two {α : Type} (st : Nat) (hst : 0 < st) : ∀ (l : List α) (d q : Nat), (sel st d l).2[q]? = if q < d then l[q]? else l[q + 1 + (q - d) / st]?
  | [], d, q => by simp [sel]
  | x :: r, 0, q => by
    have := sel_two st hst r st q
    simp only [sel, this, Nat.not_lt_zero, if_false, Nat.sub_zero]
    by_cases h : q < st
    · rw [if_pos h, Nat.div_eq_of_lt h, Nat.add_zero, List.getElem?_cons_succ]
    · have e : q / st = (q - st) / st + 1 := Nat.div_eq_sub_div hst (by omega)
      rw [if_neg h, e, show q + 1 + ((q - st) / st + 1) = (q + 1 + (q - st) / st) + 1 by omega, List.getElem?_cons_succ]
  | x :: r, d + 1, 0 => by simp [sel]
  | x :: r, d + 1, q + 1 => by
    have := sel_two st hst r d q
    simp only [sel, List.getElem?_cons_succ, this, Nat.add_lt_add_iff_right]
    by_cases h : q < d
    · simp [h]
    · rw [if_neg h, if_neg h, show q + 1 + 1 + (q + 1 - (d + 1)) / st = (q + 1 + (q - d) / st) + 1 by rw [Nat.add_sub_add_right]; omega, List.getElem?_cons_succ]
theorem sel_snoc {α : Type} (st : Nat) (y : α) : ∀ (l : List α) (d : Nat), sel st d (l ++ [y]) = if cdn st d l.length = 0 then ((sel st d l).1 ++ [y], (sel st d l).2) else ((sel st d l).1, (sel st d l).2 ++ [y])
  | [], 0 => by simp [sel, cdn]
  | [], d + 1 => by simp [sel, cdn]
  | x :: r, 0 => by
    have := sel_snoc st y r st
    simp only [List.cons_append, sel, List.length_cons, cdn, this]
    split <;> rfl
  | x :: r, d + 1 => by
    have := sel_snoc st y r d
    simp only [List.cons_append, sel, List.length_cons, cdn, this]
    split <;> rfl
theorem cdn_succ (st : Nat) : ∀ (n d : Nat), cdn st d (n + 1) = if cdn st d n = 0 then st else cdn st d n - 1
  | 0, 0 => by simp [cdn]
  | 0, d + 1 => by simp [cdn]
  | n + 1, 0 => by
    have := cdn_succ st n st
    simp only [cdn] at this ⊢
    exact this
  | n + 1, d + 1 => by
    have := cdn_succ st n d
    simp only [cdn] at this ⊢
    exact this
end Mine
end
section
theorem Mine.off19 : True := by
  w_top off
  trivial
namespace Mine
/-- the rows of the sieve, of any things -/
def rowS {α : Type} (us : List Nat) (l : List α) : Nat → List α
  | 0 => l
  | k + 1 => (sel (k + 1) (us.getD k 0) (rowS us l k)).2
def heapS {α : Type} (us : List Nat) (l : List α) (k : Nat) : List α := (sel (k + 1) (us.getD k 0) (rowS us l k)).1
theorem rowN_rowS (us : List Nat) (xs : List Int) : ∀ k, rowN us xs k = rowS us xs k
  | 0 => rfl
  | k + 1 => by rw [rowN, rowS, strike_is, rowN_rowS us xs k]
theorem heapN_heapS (us : List Nat) (xs : List Int) (k : Nat) : heapN us xs k = heapS us xs k := by
  rw [heapN, heapS, strike_is, rowN_rowS]
theorem rowS_map {α β : Type} (f : α → β) (us : List Nat) (l : List α) : ∀ k, rowS us (l.map f) k = (rowS us l k).map f
  | 0 => rfl
  | k + 1 => by rw [rowS, rowS, rowS_map f us l k, sel_map]
theorem heapS_map {α β : Type} (f : α → β) (us : List Nat) (l : List α) (k : Nat) : heapS us (l.map f) k = (heapS us l k).map f := by
  rw [heapS, heapS, rowS_map, sel_map]
/-- where the thing at place p of row k lay at first -/
def posN (us : List Nat) : Nat → Nat → Nat
  | 0, p => p
  | k + 1, p => posN us k (p + (p + (k + 1) - us.getD k 0) / (k + 1))
theorem old_eq {k s q : Nat} (hs : s ≤ k + 1) : q + (q + (k + 1) - s) / (k + 1) = if q < s then q else q + 1 + (q - s) / (k + 1) := by
  by_cases h : q < s
  · rw [if_pos h, Nat.div_eq_of_lt (by omega)]; rfl
  · rw [if_neg h, show q + (k + 1) - s = (q - s) + (k + 1) by omega, Nat.add_div_right _ (by omega)]; omega
theorem rowS_get {α : Type} {us : List Nat} (hu : ∀ i : Nat, us.getD i 0 ≤ i + 1) (l : List α) : ∀ k q, (rowS us l k)[q]? = l[posN us k q]?
  | 0, q => rfl
  | k + 1, q => by
    rw [rowS, posN, sel_two _ (by omega), old_eq (hu k)]
    split
    · exact rowS_get hu l k _
    · exact rowS_get hu l k _
theorem heapS_get {α : Type} {us : List Nat} (hu : ∀ i : Nat, us.getD i 0 ≤ i + 1) (l : List α) (k t : Nat) : (heapS us l k)[t]? = l[posN us k (us.getD k 0 + t * (k + 2))]? := by
  rw [heapS, sel_one, rowS_get hu]
theorem colN_posN {us : List Nat} (hu : ∀ i : Nat, us.getD i 0 ≤ i + 1) : ∀ k p, colN us k ((k + 1) * p) = posN us k p
  | 0, p => by simp [colN, posN]
  | k + 1, p => by
    rw [colN, posN, ← colN_posN hu k]
    have h := hu k
    rw [show (k + 1 + 1) * p + (k + 1) - us.getD k 0 = (p + (k + 1) - us.getD k 0) + (k + 1) * p by rw [Nat.add_mul (k + 1) 1 p]; omega, Nat.add_mul_div_left _ _ (by omega), Nat.add_comm ((p + (k + 1) - us.getD k 0) / (k + 1)) p]
theorem colN_take (us : List Nat) (m : Nat) : ∀ k c, k ≤ m → colN (us.take m) k c = colN us k c
  | 0, c, _ => rfl
  | k + 1, c, h => by
    have e : (us.take m).getD k 0 = us.getD k 0 := by simp [List.getD, List.getElem?_take, show k < m by omega]
    rw [colN, colN, e, colN_take us m k _ (by omega)]
theorem told_eq {us : List Nat} (hu : ∀ i : Nat, us.getD i 0 ≤ i + 1) (m n : Nat) : toldN us m n = (List.range n).map fun t => posN us m (us.getD m 0 + t * (m + 2)) := by
  unfold toldN
  refine List.map_congr_left fun t _ => ?_
  rw [colN_take _ _ _ _ (Nat.le_refl _), colN_posN hu]
/-- a part of a range is told by its places -/
theorem range_part {n : Nat} {l : List Nat} {g : Nat → Nat} (h : ∀ t : Nat, l[t]? = (List.range n)[g t]?) : l = (List.range l.length).map g := by
  apply List.ext_getElem?
  intro t
  by_cases ht : t < l.length
  · have e := h t
    rw [List.getElem?_eq_getElem ht] at e
    have hg : g t < n := by
      by_cases hg : g t < n
      · exact hg
      · rw [List.getElem?_eq_none (by simpa using hg)] at e; cases e
    rw [h t]
    simp [ht, hg]
  · rw [List.getElem?_eq_none (by omega), List.getElem?_eq_none (by simpa using ht)]
theorem toZ_map (f : Nat → Nat) (l : List Nat) : toZ (l.map f) = l.map fun x => ((f x : Nat) : Int) := by simp [toZ]
end Mine
end
section
theorem Mine.off20 : True := by
  w_top off
  trivial
namespace Mine
theorem fz_lt {xs : List Int} {j : Nat} (h : j < firstZ xs) : xs[j]? ≠ some 0 := by
  intro e
  have := List.not_of_lt_findIdx (p := fun x : Int => x == 0) h
  obtain ⟨hj, hx⟩ := List.getElem?_eq_some_iff.mp e
  simp [hx] at this
theorem fz_at {xs : List Int} (h : firstZ xs < xs.length) : xs[firstZ xs]? = some 0 := by
  have := List.findIdx_getElem (p := fun x : Int => x == 0) (w := h)
  rw [List.getElem?_eq_getElem h]
  congr 1
  exact (by simpa using this : xs[List.findIdx (fun x : Int => x == 0) xs] = 0)
theorem fill_get {xs : List Int} (j : Nat) (hj : j < xs.length) : (fillN xs)[j]? = if j < firstZ xs then some (xs.getD j 0 - 1) else if j = firstZ xs then some ((j : Int) + 1) else xs[j]? := by
  have hle := firstZ_le xs
  unfold fillN
  by_cases h : j < firstZ xs
  · rw [if_pos h, List.getElem?_append_left (by simp; omega)]
    simp [h, List.getD, hj]
  · rw [if_neg h, List.getElem?_append_right (by simp; omega), if_pos (by omega)]
    by_cases e : j = firstZ xs
    · rw [if_pos e]; subst e
      simp [Nat.min_eq_left hle]
    · rw [if_neg e, show j - ((xs.take (firstZ xs)).map (· - 1)).length = (j - firstZ xs - 1) + 1 by simp; omega, List.getElem?_cons_succ, List.getElem?_drop]
      congr 1; omega
variable {us : List Nat}
def wN (us : List Nat) (t : Nat) : Nat := firstZ (fillI (toZ us) t)
theorem rowS_nil (us : List Nat) : ∀ j, rowS us ([] : List Nat) j = []
  | 0 => rfl
  | j + 1 => by rw [rowS, rowS_nil us j]; cases us.getD j 0 <;> rfl
theorem heapS_nil (us : List Nat) (j : Nat) : heapS us ([] : List Nat) j = [] := by
  rw [heapS, rowS_nil]; cases us.getD j 0 <;> rfl
/-- one move more: it stays in the rows up to the hole that it fills -/
theorem row_next {n : Nat} (hb : ∀ j, j < 5 → (fillI (toZ us) n)[j]? = some ((cdn (j + 1) (us.getD j 0) (rowS us (List.range n) j).length : Nat) : Int)) (hl : (fillI (toZ us) n).length = 5) :
    ∀ j, j ≤ 5 → rowS us (List.range (n + 1)) j = if j ≤ wN us n then rowS us (List.range n) j ++ [n] else rowS us (List.range n) j
  | 0, _ => by simp [rowS, List.range_succ]
  | j + 1, hj => by
    have ih := row_next hb hl j (by omega)
    have hbj := hb j (by omega)
    rw [rowS, rowS, ih]
    by_cases h1 : j ≤ wN us n
    · rw [if_pos h1, sel_snoc]
      by_cases h2 : j + 1 ≤ wN us n
      · rw [if_pos h2]
        have := fz_lt (xs := fillI (toZ us) n) (j := j) (by unfold wN at h2; omega)
        rw [hbj] at this
        rw [if_neg (fun e => this (by rw [e]; rfl))]
      · have e : wN us n = j := by omega
        rw [if_neg h2]
        have := fz_at (xs := fillI (toZ us) n) (by unfold wN at e; omega)
        rw [show firstZ (fillI (toZ us) n) = j from e, hbj] at this
        have h0 : cdn (j + 1) (us.getD j 0) (rowS us (List.range n) j).length = 0 := by have := Option.some.inj this; omega
        rw [if_pos h0]
    · rw [if_neg h1, if_neg (by omega)]
theorem heap_next {n : Nat} (hb : ∀ j, j < 5 → (fillI (toZ us) n)[j]? = some ((cdn (j + 1) (us.getD j 0) (rowS us (List.range n) j).length : Nat) : Int)) (hl : (fillI (toZ us) n).length = 5) (j : Nat) (hj : j < 5) :
    heapS us (List.range (n + 1)) j = if wN us n = j then heapS us (List.range n) j ++ [n] else heapS us (List.range n) j := by
  have ih := row_next hb hl j (by omega)
  have hbj := hb j hj
  rw [heapS, heapS, ih]
  by_cases h1 : j ≤ wN us n
  · rw [if_pos h1, sel_snoc]
    by_cases h2 : j + 1 ≤ wN us n
    · rw [if_neg (show ¬ wN us n = j by omega)]
      have := fz_lt (xs := fillI (toZ us) n) (j := j) (by unfold wN at h2; omega)
      rw [hbj] at this
      rw [if_neg (fun e => this (by rw [e]; rfl))]
    · have e : wN us n = j := by omega
      rw [if_pos e]
      have := fz_at (xs := fillI (toZ us) n) (by unfold wN at e; omega)
      rw [show firstZ (fillI (toZ us) n) = j from e, hbj] at this
      have h0 : cdn (j + 1) (us.getD j 0) (rowS us (List.range n) j).length = 0 := by have := Option.some.inj this; omega
      rw [if_pos h0]
  · rw [if_neg h1, if_neg (show ¬ wN us n = j by omega)]
theorem board_all (h5 : us.length = 5) : ∀ n j, j < 5 → (fillI (toZ us) n)[j]? = some ((cdn (j + 1) (us.getD j 0) (rowS us (List.range n) j).length : Nat) : Int)
  | 0, j, hj => by
    rw [List.range_zero, rowS_nil]
    simp [fillI, toZ, cdn, List.getD, hj, h5]
  | n + 1, j, hj => by
    have hb := board_all h5 n
    have hz5 : (toZ us).length = 5 := by simp [toZ, h5]
    have hl := fillI_len hz5 n
    have hbj := hb j hj
    rw [fillI, fill_get j (by omega), row_next hb hl j (by omega)]
    show (if j < wN us n then _ else if j = wN us n then _ else _) = _
    by_cases h1 : j < wN us n
    · rw [if_pos h1, if_pos (by omega), List.length_append, List.length_singleton, cdn_succ]
      have := fz_lt (xs := fillI (toZ us) n) (j := j) h1
      rw [hbj] at this
      have h0 : cdn (j + 1) (us.getD j 0) (rowS us (List.range n) j).length ≠ 0 := fun e => this (by rw [e]; rfl)
      rw [if_neg h0, List.getD, hbj]
      simp only [Option.getD_some]
      congr 1; omega
    · rw [if_neg h1]
      by_cases h2 : j = wN us n
      · rw [if_pos h2, if_pos (by omega), List.length_append, List.length_singleton, cdn_succ]
        have := fz_at (xs := fillI (toZ us) n) (by show wN us n < _; omega)
        rw [show firstZ (fillI (toZ us) n) = j from h2.symm, hbj] at this
        have h0 : cdn (j + 1) (us.getD j 0) (rowS us (List.range n) j).length = 0 := by have := Option.some.inj this; omega
        rw [if_pos h0]; rfl
      · rw [if_neg h2, if_neg (by omega), hbj]
theorem row_flt (h5 : us.length = 5) (j : Nat) (hj : j ≤ 5) : ∀ n, rowS us (List.range n) j = (List.range n).filter fun t => decide (j ≤ wN us t)
  | 0 => by rw [List.range_zero, rowS_nil]; rfl
  | n + 1 => by
    rw [row_next (board_all h5 n) (fillI_len (by simp [toZ, h5]) n) j hj, row_flt h5 j hj n, List.range_succ, List.filter_append]
    by_cases h : j ≤ wN us n <;> simp [h]
theorem heap_flt (h5 : us.length = 5) (j : Nat) (hj : j < 5) : ∀ n, heapS us (List.range n) j = (List.range n).filter fun t => wN us t == j
  | 0 => by rw [List.range_zero, heapS_nil]; rfl
  | n + 1 => by
    rw [heap_next (board_all h5 n) (fillI_len (by simp [toZ, h5]) n) j hj, heap_flt h5 j hj n, List.range_succ, List.filter_append]
    by_cases h : wN us n = j <;> simp [h]
end Mine
end
section
theorem Mine.off21 : True := by
  w_top off
  trivial
namespace Mine
theorem cdn_mod (st : Nat) : ∀ (n d : Nat), d ≤ st → cdn st d n = st - (n + st - d) % (st + 1)
  | 0, d, h => by
    rw [cdn, Nat.zero_add, Nat.mod_eq_of_lt (by omega)]; omega
  | n + 1, 0, _ => by
    rw [cdn, cdn_mod st n st (Nat.le_refl _), show n + st - st = n by omega, show n + 1 + st - 0 = n + (st + 1) by omega, Nat.add_mod_right]
  | n + 1, d + 1, h => by
    rw [cdn, cdn_mod st n d (by omega), show n + 1 + st - (d + 1) = n + st - d by omega]
theorem stone_eq (b m : Nat) : (m + 1) * (b / (m + 1) + 1) - b - 1 = m - b % (m + 1) := by
  have h := Nat.div_add_mod b (m + 1)
  have hm := Nat.mod_lt b (show 0 < m + 1 by omega)
  rw [Nat.mul_add, Nat.mul_one]
  omega
theorem div_le_len (n st d : Nat) : (n + st - d) / (st + 1) ≤ n := by
  refine Nat.le_of_lt_succ ((Nat.div_lt_iff_lt_mul (by omega)).mpr ?_)
  have : n + st < (n + 1) * (st + 1) := by
    have e : (n + 1) * (st + 1) = n * st + n + (st + 1) := by rw [Nat.add_mul, Nat.mul_add]; omega
    have := Nat.zero_le (n * st)
    omega
  show n + st - d < (n + 1) * (st + 1)
  omega
theorem sel_len {α : Type} (st : Nat) : ∀ (l : List α) (d : Nat), d ≤ st → (sel st d l).2.length = l.length - (l.length + st - d) / (st + 1)
  | [], d, h => by simp [sel]
  | x :: r, 0, _ => by
    have ih := sel_len st r st (Nat.le_refl _)
    rw [show r.length + st - st = r.length by omega] at ih
    simp only [sel, List.length_cons, ih]
    rw [show r.length + 1 + st - 0 = r.length + (st + 1) by omega, Nat.add_div_right _ (by omega)]
    omega
  | x :: r, d + 1, h => by
    have ih := sel_len st r d (by omega)
    have := div_le_len r.length st d
    simp only [sel, List.length_cons, ih]
    rw [show r.length + 1 + st - (d + 1) = r.length + st - d by omega]
    omega
variable {us : List Nat}
theorem board_st (h5 : us.length = 5) (hu : ∀ i : Nat, us.getD i 0 ≤ i + 1) (n : Nat) : ∀ f k, f + k = 5 → (fillI (toZ us) n).drop k = toZ (stN us f k (rowS us (List.range n) k).length)
  | 0, k, e => by
    rw [List.drop_eq_nil_of_le (by rw [fillI_len (by simp [toZ, h5])]; omega)]; rfl
  | f + 1, k, e => by
    have hl := fillI_len (xs := toZ us) (by simp [toZ, h5]) n
    have hb := board_all h5 n k (by omega)
    obtain ⟨hk, hx⟩ := List.getElem?_eq_some_iff.mp hb
    rw [List.drop_eq_getElem_cons hk, hx, board_st h5 hu n f (k + 1) (by omega), stN]
    have hs := hu k
    rw [cdn_mod _ _ _ hs, rowS, sel_len _ _ _ hs]
    generalize (rowS us (List.range n) k).length = R
    rw [show R + k + 1 - us.getD k 0 = R + (k + 1) - us.getD k 0 by omega, show (k + 2) = (k + 1) + 1 by omega, stone_eq]
    simp [toZ]
theorem wN_le (h5 : us.length = 5) (t : Nat) : wN us t ≤ 5 := by
  have := firstZ_le (fillI (toZ us) t)
  rw [fillI_len (by simp [toZ, h5])] at this
  exact this
theorem row_nat (us : List Nat) (n k : Nat) : rowN us (toZ (List.range n)) k = toZ (rowS us (List.range n) k) := by
  rw [rowN_rowS]; exact rowS_map _ _ _ _
theorem heap_nat (us : List Nat) (n k : Nat) : heapN us (toZ (List.range n)) k = toZ (heapS us (List.range n) k) := by
  rw [heapN_heapS]; exact heapS_map _ _ _ _
theorem heapL_nat (us : List Nat) (n k : Nat) : heapL us n k = (heapS us (List.range n) k).length := by
  rw [heapL, heap_nat]; simp [toZ]
theorem rowL_nat (us : List Nat) (n : Nat) : rowL us n = (rowS us (List.range n) 5).length := by
  rw [rowL, row_nat]; simp [toZ]
theorem told_heap (hu : ∀ i : Nat, us.getD i 0 ≤ i + 1) (n m : Nat) : toldN us m (heapL us n m) = heapS us (List.range n) m := by
  rw [told_eq hu, heapL_nat]
  exact (range_part (g := fun t => posN us m (us.getD m 0 + t * (m + 2))) fun t => heapS_get hu _ _ _).symm
theorem ends_row (hu : ∀ i : Nat, us.getD i 0 ≤ i + 1) (n : Nat) : ((List.range (rowL us n)).map fun t => colN us 5 (6 * t)) = rowS us (List.range n) 5 := by
  rw [rowL_nat, range_part (g := posN us 5) (fun t => rowS_get hu (List.range n) 5 t)]
  rw [List.length_map, List.length_range]
  exact List.map_congr_left fun t _ => colN_posN hu 5 t
theorem facts (us : List Nat) (gl : Nat) (h5 : us.length = 5) (hu : ∀ i : Nat, us.getD i 0 ≤ i + 1) (_ : 15 ≤ gl) (hg : gl ≤ 22) : Facts us gl where
  heap := fun m _ => by rw [told_heap hu, heap_nat]
  like := fun m _ => by
    rw [told_heap hu, heapN_heapS, toZ, heapS_map, heapS_map]; rfl
  turn := fun m hm => by rw [told_heap hu]; exact heap_flt h5 m hm gl
  place := fun m _ t ht => by
    rw [heapL_nat] at ht
    have e := sel_one (m + 1) (rowS us (List.range gl) m) (us.getD m 0) t
    rw [show (sel (m + 1) (us.getD m 0) (rowS us (List.range gl) m)).1 = heapS us (List.range gl) m from rfl, List.getElem?_eq_getElem ht] at e
    have h1 := (List.getElem?_eq_some_iff.mp e.symm).1
    have h2 := rowN_len us (toZ (List.range gl)) m
    rw [row_nat] at h2
    simp only [toZ, List.length_map, List.length_range] at h2
    have : us.getD m 0 + t * (m + 2) = us.getD m 0 + t * (m + 1 + 1) := rfl
    omega
  row := by rw [ends_row hu, row_nat]
  next := by
    have e := rowS_get hu (List.range gl) 5 (rowL us gl)
    rw [rowL_nat, List.getElem?_eq_none (Nat.le_refl _)] at e
    have := List.getElem?_eq_none_iff.mp e.symm
    rw [show 6 = 5 + 1 from rfl, colN_posN hu, rowL_nat]
    simpa using this
  rest := by
    rw [row_nat, row_flt h5 5 (Nat.le_refl _)]
    congr 1
    refine List.filter_congr fun t _ => ?_
    have := wN_le h5 t
    show decide (5 ≤ wN us t) = (wN us t == 5)
    by_cases h : wN us t = 5
    · rw [h]; rfl
    · rw [decide_eq_false (by omega), beq_false_of_ne h]
  twin := by
    rw [ends_row hu, rowN_rowS, toZ, rowS_map, rowS_map]; rfl
  board := by
    have := board_st h5 hu gl 5 0 rfl
    simpa [rowS] using this
end Mine
end
section
local macro_rules | `(tactic| walk_at "m:pad") => `(tactic| skip)
local macro_rules | `(tactic| walk_at "m:pad") => `(tactic| skip)
local macro_rules | `(tactic| walk_at "m:pad") => `(tactic| skip)
local macro_rules | `(tactic| walk_at "m:pad") => `(tactic| skip)
theorem Mine.off22 : True := by
  w_top off
  trivial
namespace Mine
theorem kp2 {L a : Nat} (h : (@Ne Nat a (L + 1 + 1)) ∧ (@Ne Nat a (L + 1 + 1 + 1)) ∧ (@Ne Nat a (L + 1 + 1 + 1 + 1)) ∧ (@Ne Nat a (L + 1 + 1 + 1 + 1 + 1)) ∧ (@Ne Nat a (L + 1 + 1 + 1 + 1 + 1 + 1)) ∧ (@Ne Nat a (L + 1 + 1 + 1 + 1 + 1 + 1 + 1))) : @Ne Nat (L + 1 + 1) a := Ne.symm h.1
theorem kq2 {L a : Nat} (h : (@Ne Nat a (L + 1 + 1)) ∧ (@Ne Nat a (L + 1 + 1 + 1)) ∧ (@Ne Nat a (L + 1 + 1 + 1 + 1)) ∧ (@Ne Nat a (L + 1 + 1 + 1 + 1 + 1)) ∧ (@Ne Nat a (L + 1 + 1 + 1 + 1 + 1 + 1)) ∧ (@Ne Nat a (L + 1 + 1 + 1 + 1 + 1 + 1 + 1))) : @Ne Nat a (L + 1 + 1) := h.1
theorem kp3 {L a : Nat} (h : (@Ne Nat a (L + 1 + 1)) ∧ (@Ne Nat a (L + 1 + 1 + 1)) ∧ (@Ne Nat a (L + 1 + 1 + 1 + 1)) ∧ (@Ne Nat a (L + 1 + 1 + 1 + 1 + 1)) ∧ (@Ne Nat a (L + 1 + 1 + 1 + 1 + 1 + 1)) ∧ (@Ne Nat a (L + 1 + 1 + 1 + 1 + 1 + 1 + 1))) : @Ne Nat (L + 1 + 1 + 1) a := Ne.symm h.2.1
theorem kq3 {L a : Nat} (h : (@Ne Nat a (L + 1 + 1)) ∧ (@Ne Nat a (L + 1 + 1 + 1)) ∧ (@Ne Nat a (L + 1 + 1 + 1 + 1)) ∧ (@Ne Nat a (L + 1 + 1 + 1 + 1 + 1)) ∧ (@Ne Nat a (L + 1 + 1 + 1 + 1 + 1 + 1)) ∧ (@Ne Nat a (L + 1 + 1 + 1 + 1 + 1 + 1 + 1))) : @Ne Nat a (L + 1 + 1 + 1) := h.2.1
theorem kp4 {L a : Nat} (h : (@Ne Nat a (L + 1 + 1)) ∧ (@Ne Nat a (L + 1 + 1 + 1)) ∧ (@Ne Nat a (L + 1 + 1 + 1 + 1)) ∧ (@Ne Nat a (L + 1 + 1 + 1 + 1 + 1)) ∧ (@Ne Nat a (L + 1 + 1 + 1 + 1 + 1 + 1)) ∧ (@Ne Nat a (L + 1 + 1 + 1 + 1 + 1 + 1 + 1))) : @Ne Nat (L + 1 + 1 + 1 + 1) a := Ne.symm h.2.2.1
theorem kq4 {L a : Nat} (h : (@Ne Nat a (L + 1 + 1)) ∧ (@Ne Nat a (L + 1 + 1 + 1)) ∧ (@Ne Nat a (L + 1 + 1 + 1 + 1)) ∧ (@Ne Nat a (L + 1 + 1 + 1 + 1 + 1)) ∧ (@Ne Nat a (L + 1 + 1 + 1 + 1 + 1 + 1)) ∧ (@Ne Nat a (L + 1 + 1 + 1 + 1 + 1 + 1 + 1))) : @Ne Nat a (L + 1 + 1 + 1 + 1) := h.2.2.1
theorem kp5 {L a : Nat} (h : (@Ne Nat a (L + 1 + 1)) ∧ (@Ne Nat a (L + 1 + 1 + 1)) ∧ (@Ne Nat a (L + 1 + 1 + 1 + 1)) ∧ (@Ne Nat a (L + 1 + 1 + 1 + 1 + 1)) ∧ (@Ne Nat a (L + 1 + 1 + 1 + 1 + 1 + 1)) ∧ (@Ne Nat a (L + 1 + 1 + 1 + 1 + 1 + 1 + 1))) : @Ne Nat (L + 1 + 1 + 1 + 1 + 1) a := Ne.symm h.2.2.2.1
theorem kq5 {L a : Nat} (h : (@Ne Nat a (L + 1 + 1)) ∧ (@Ne Nat a (L + 1 + 1 + 1)) ∧ (@Ne Nat a (L + 1 + 1 + 1 + 1)) ∧ (@Ne Nat a (L + 1 + 1 + 1 + 1 + 1)) ∧ (@Ne Nat a (L + 1 + 1 + 1 + 1 + 1 + 1)) ∧ (@Ne Nat a (L + 1 + 1 + 1 + 1 + 1 + 1 + 1))) : @Ne Nat a (L + 1 + 1 + 1 + 1 + 1) := h.2.2.2.1
theorem kp6 {L a : Nat} (h : (@Ne Nat a (L + 1 + 1)) ∧ (@Ne Nat a (L + 1 + 1 + 1)) ∧ (@Ne Nat a (L + 1 + 1 + 1 + 1)) ∧ (@Ne Nat a (L + 1 + 1 + 1 + 1 + 1)) ∧ (@Ne Nat a (L + 1 + 1 + 1 + 1 + 1 + 1)) ∧ (@Ne Nat a (L + 1 + 1 + 1 + 1 + 1 + 1 + 1))) : @Ne Nat (L + 1 + 1 + 1 + 1 + 1 + 1) a := Ne.symm h.2.2.2.2.1
theorem kq6 {L a : Nat} (h : (@Ne Nat a (L + 1 + 1)) ∧ (@Ne Nat a (L + 1 + 1 + 1)) ∧ (@Ne Nat a (L + 1 + 1 + 1 + 1)) ∧ (@Ne Nat a (L + 1 + 1 + 1 + 1 + 1)) ∧ (@Ne Nat a (L + 1 + 1 + 1 + 1 + 1 + 1)) ∧ (@Ne Nat a (L + 1 + 1 + 1 + 1 + 1 + 1 + 1))) : @Ne Nat a (L + 1 + 1 + 1 + 1 + 1 + 1) := h.2.2.2.2.1
theorem kp7 {L a : Nat} (h : (@Ne Nat a (L + 1 + 1)) ∧ (@Ne Nat a (L + 1 + 1 + 1)) ∧ (@Ne Nat a (L + 1 + 1 + 1 + 1)) ∧ (@Ne Nat a (L + 1 + 1 + 1 + 1 + 1)) ∧ (@Ne Nat a (L + 1 + 1 + 1 + 1 + 1 + 1)) ∧ (@Ne Nat a (L + 1 + 1 + 1 + 1 + 1 + 1 + 1))) : @Ne Nat (L + 1 + 1 + 1 + 1 + 1 + 1 + 1) a := Ne.symm h.2.2.2.2.2
theorem kq7 {L a : Nat} (h : (@Ne Nat a (L + 1 + 1)) ∧ (@Ne Nat a (L + 1 + 1 + 1)) ∧ (@Ne Nat a (L + 1 + 1 + 1 + 1)) ∧ (@Ne Nat a (L + 1 + 1 + 1 + 1 + 1)) ∧ (@Ne Nat a (L + 1 + 1 + 1 + 1 + 1 + 1)) ∧ (@Ne Nat a (L + 1 + 1 + 1 + 1 + 1 + 1 + 1))) : @Ne Nat a (L + 1 + 1 + 1 + 1 + 1 + 1 + 1) := h.2.2.2.2.2
end Mine
local macro_rules | `(tactic| walk_at "m:keep") => `(tactic| (repeat' (first | exact Mine.all_nil | (refine Mine.all_cons ⟨by k_mem, by first | assumption | exact Ne.symm (by assumption) | (show @Ne Nat _ _; first | exact Mine.kp2 (by assumption) | exact Mine.kp3 (by assumption) | exact Mine.kp4 (by assumption) | exact Mine.kp5 (by assumption) | exact Mine.kp6 (by assumption) | exact Mine.kp7 (by assumption) | exact Mine.kq2 (by assumption) | exact Mine.kq3 (by assumption) | exact Mine.kq4 (by assumption) | exact Mine.kq5 (by assumption) | exact Mine.kq6 (by assumption) | exact Mine.kq7 (by assumption) | omega)⟩ ?_) | refine Mine.all_app ?_ ?_)))
local macro_rules | `(tactic| walk_at "m:sub") => `(tactic| (repeat' (first | exact Mine.sub_nil | (refine Mine.sub_cons (by k_mem) ?_) | refine Mine.sub_app ?_ ?_)))
local macro_rules | `(tactic| walk_at "m:far") => `(tactic| (repeat' (first | exact Mine.far_nil | (refine Mine.far_cons (by (show @Ne Nat _ _; first | assumption | exact Ne.symm (by assumption) | exact Mine.kp2 (by assumption) | exact Mine.kp3 (by assumption) | exact Mine.kp4 (by assumption) | exact Mine.kp5 (by assumption) | exact Mine.kp6 (by assumption) | exact Mine.kp7 (by assumption) | exact Mine.kq2 (by assumption) | exact Mine.kq3 (by assumption) | exact Mine.kq4 (by assumption) | exact Mine.kq5 (by assumption) | exact Mine.kq6 (by assumption) | exact Mine.kq7 (by assumption) | omega)) ?_) | refine Mine.far_app ?_ ?_)))
local macro_rules | `(tactic| k_mem) => `(tactic| first | assumption | exact List.Mem.head _ | (refine List.Mem.tail _ ?_; k_mem) | (refine List.mem_append_right _ ?_; k_mem) | (refine List.mem_append_left _ ?_; k_mem))
namespace Mine
def offN (ds : List Int) (k : Nat) : Nat := ((ds.getD k 0).fmod (((k : Nat) : Int) + 2)).toNat
theorem fmod_two (x : Int) (k : Nat) : x.fmod ((k : Int) + 2) = ((x.fmod ((k : Int) + 2)).toNat : Int) := by
  rw [Int.fmod_eq_emod_of_nonneg _ (by omega), Int.toNat_of_nonneg (Int.emod_nonneg _ (by omega))]
theorem offN_int (ds : List Int) (k : Nat) : (ds.getD (k : Int).toNat 0).fmod ((k : Int) + 2) = ((offN ds k : Nat) : Int) := by
  rw [Int.toNat_natCast]; exact fmod_two _ _
theorem toZ_snoc (f : Nat → Nat) (i : Nat) : toZ ((List.range (i + 1)).map f) = toZ ((List.range i).map f) ++ [((f i : Nat) : Int)] := by
  simp [toZ, List.range_succ]
theorem offs_ok {ys : List Value} {ds : List Int} (h : IntsAre ys (toZ ((List.range 5).map (offN ds)))) : ∃ us : List Nat, IntsAre ys (toZ us) ∧ us.length = 5 ∧ ∀ i, us.getD i 0 ≤ i + 1 := by
  refine ⟨_, h, by simp, fun i => ?_⟩
  by_cases hi : i < 5
  · have : ((List.range 5).map (offN ds)).getD i 0 = offN ds i := by simp [List.getD, hi]
    rw [this]
    have := Int.emod_lt_of_pos (ds.getD i 0) (show (0 : Int) < (i : Int) + 2 by omega)
    unfold offN
    rw [Int.fmod_eq_emod_of_nonneg _ (by omega)]
    omega
  · have : ((List.range 5).map (offN ds)).getD i 0 = 0 := by simp [List.getD, hi]
    omega
theorem goal_ok {d : Int} : ∃ gl : Nat, 15 + d.fmod 8 = (gl : Int) ∧ 15 ≤ gl ∧ gl ≤ 22 := by
  rw [Int.fmod_eq_emod_of_nonneg _ (by omega)]
  exact ⟨(15 + d % 8).toNat, by omega, by omega, by omega⟩
theorem rangeKs_toZ (n : Nat) : rangeKs 0 ((n : Int) - 0).toNat = toZ (List.range n) := by
  rw [show ((n : Int) - 0).toNat = n by omega]
  simp [rangeKs, toZ]
theorem mod3_int (k : Nat) : ((k : Nat) : Int).fmod 3 = ((k % 3 : Nat) : Int) := by
  rw [Int.fmod_eq_emod_of_nonneg _ (by omega)]; omega
theorem cell3 (L : Nat) : (@Ne Nat (L + 1 + 1 + 1) (L + 1 + 1)) ∧ (@Ne Nat (L + 1 + 1 + 1) (L + 1 + 1 + 1 + 1 + 1 + 1)) ∧ (@Ne Nat (L + 1 + 1 + 1) (L + 1 + 1 + 1 + 1 + 1 + 1 + 1)) := by omega
theorem cell4 (L : Nat) : (@Ne Nat (L + 1 + 1 + 1 + 1) (L + 1 + 1)) ∧ (@Ne Nat (L + 1 + 1 + 1 + 1) (L + 1 + 1 + 1 + 1 + 1 + 1)) ∧ (@Ne Nat (L + 1 + 1 + 1 + 1) (L + 1 + 1 + 1 + 1 + 1 + 1 + 1)) := by omega
theorem cell5 (L : Nat) : (@Ne Nat (L + 1 + 1 + 1 + 1 + 1) (L + 1 + 1)) ∧ (@Ne Nat (L + 1 + 1 + 1 + 1 + 1) (L + 1 + 1 + 1 + 1 + 1 + 1)) ∧ (@Ne Nat (L + 1 + 1 + 1 + 1 + 1) (L + 1 + 1 + 1 + 1 + 1 + 1 + 1)) := by omega
theorem strike_len1 : ∀ (f : Nat) (row : List Int) (p st : Nat), (strike f row p st).1.length ≤ f
  | 0, _, _, _ => Nat.le_refl _
  | f + 1, row, p, st => by
    unfold strike
    split
    · exact Nat.zero_le _
    · exact Nat.succ_le_succ (strike_len1 f _ _ _)
theorem heapL_le (us : List Nat) (gl i : Nat) (h : gl ≤ 22) : heapL us gl i ≤ 22 := by
  refine Nat.le_trans (strike_len1 _ _ _ _) (Nat.le_trans (rowN_len _ _ _) ?_)
  simpa [toZ] using h
theorem take_bound {us : List Nat} {k : Nat} (h : ∀ i : Nat, us.getD i 0 ≤ i + 1) : ∀ i : Nat, (us.take k).getD i 0 ≤ i + 1 := fun i => by
  by_cases hi : i < k
  · have : (us.take k).getD i 0 = us.getD i 0 := by simp [List.getD, List.getElem?_take, hi]
    rw [this]; exact h i
  · have : (us.take k).getD i 0 = 0 := by simp [List.getD, List.getElem?_take, hi]
    rw [this]; omega
theorem pairs_ok (l : List Int) : ∀ d ∈ l.map pairD, kqdOk 8 d = true := fun d hd => by
  obtain ⟨x, _, rfl⟩ := List.mem_map.mp hd
  rfl
theorem ints_ok (l : List Int) : ∀ d ∈ l.map Dat.int, kqdOk 8 d = true := fun d hd => by
  obtain ⟨x, _, rfl⟩ := List.mem_map.mp hd
  rfl
theorem map_getD3 {l : List Nat} {k : Nat} (h : k < l.length) : (l.map (· % 3)).getD k 0 = l.getD k 0 % 3 := by
  simp [List.getD, h]
theorem flt_yes {p : Nat → Bool} {k : Nat} (h : p k = true) : toZ ((List.range (k + 1)).filter p) = toZ ((List.range k).filter p) ++ [(k : Int)] := by
  simp [List.range_succ, List.filter_append, h, toZ]
theorem flt_no {p : Nat → Bool} {k : Nat} (h : p k = false) : toZ ((List.range (k + 1)).filter p) = toZ ((List.range k).filter p) := by
  simp [List.range_succ, List.filter_append, h]
theorem seq_last (n : Nat) : seqIndex? (-1) (n + 1) = some n := by
  unfold seqIndex?
  simp
  omega
theorem holes_ok (l : List Int) : ∀ d ∈ l.map holeD, kqdOk 8 d = true := fun d hd => by
  obtain ⟨x, _, rfl⟩ := List.mem_map.mp hd
  rfl
set_option maxHeartbeats 4000000 in
def S10 : {P : Prop // Flt.Hid P → Challenge.rw_pk0078_01.Holds} := ⟨_, fun hK => hd (by
  w_strict (k_go0; (all_goals try k_fold))
  rename_i w s0 s1 mg mb G Y fa o pm doc ho hg KX X V GL T B TE TW aa ab M cda cdb hcd ns hs hlay0 hLa hr hl2 wa wb sc vs wc hL ra w1 r0 hI hr2 hc hc2 K0 hD h1 tk1 F0 c7 c6 c5 c4 c3 c2 c1 e7 e6 e5 e4 e3 e2 e1 N0 X0
  have hend : ∀ (h' : Heap) (tk' : Nat) (m' : Str → Option Value), Fr s1.heap s1.heap.objs.size h' m' → qk (Flow.ret (Value.bool true)) { s1 with heap := h', toks := tk' } := by
    intro h' tk' m' F'
    show GoodW _ _ _ _ _ _ _
    first | (k_end; wrow_close) | skip
  refine keepPO (by passes_own) ?_
  intro hpo
  have e7' : c7.data = .cell none := e7
  have e6' : c6.data = .cell none := e6
  have e5' : c5.data = .cell none := e5
  have e4' : c4.data = .cell none := e4
  have e3' : c3.data = .cell none := e3
  have e2' : c2.data = .cell none := e2
  have e1' : c1.data = .cell none := e1
  repeat ((fail_if_success (with_reducible show wpAny _ _ (call (Value.ref 127) _) _ _ _)); walk_at "m:step")
  clear e7 e6 e5 e4 e3 e2 e1 X0 hr2 ra w1 r0 hr hl2 hLa hlay0 hs hcd M TW TE B GL V X hg ho Y G hc2 hD
  have K1 : Below callerA s1.heap [] s1.heap := K0
  have hn : ns.length ≤ 63 := by omega
  clear K0 hc
  clear_value qk ek
  generalize ExcName.means s0.heap = mean at T
  generalize hLz : s1.heap.objs.size = L at *
  obtain ⟨h₀, gg, gd, gt, go⟩ := s1
  dsimp only at *
  have F1 : Fr h₀ L h1 (fun y => if y = Str.ofString "script" then some (.ref sc) else none) := F0
  clear F0 hLz
  clear s0 o pm doc aa ab cdb wa wb wc
  revert w mg mb fa cda ns sc vs hI h1 tk1 c7 c6 c5 c4 c3 c2 c1 qk ek e7' e6' e5' e4' e3' e2' e1' hn mean L hpo h₀ gg gd gt go KX hL K1 T N0 hend F1
  exact hK.out)⟩
set_option maxHeartbeats 4000000 in
def S11 : {P : Prop // Flt.Hid P → S10.1} := ⟨_, fun hK => by
  intro w
  set_option tactic.hygienic false in intros
  refine drawn_ctr w mean mg mb hI hn _ _ _ _ _ _ _ _ _ _ _ _ _ _ _ _ _ _ K1 F1 KX N0 T rfl (by ktr_room) (by ktr_units) hL ?_
  clear N0 F1
  intro D ws c ds h2 tk2 F2 N2 ids hds q
  simp only [List.forall_mem_cons] at q
  obtain ⟨q7, q6, q5, q4, q3, q2, q1, -⟩ := q
  refine store_cell (v := .ref D) F2 N2 rfl (by k_mem) (by k_asm) ?_ rfl rfl
  clear F2 N2
  intro h3 od F3 N3 d3
  have N4 := N3 [(D, listOf ws.toArray c), (L + 1 + 1 + 1 + 1 + 1 + 1 + 1, c7), (L + 1 + 1 + 1 + 1 + 1 + 1, c6), (L + 1 + 1 + 1 + 1 + 1, c5), (L + 1 + 1 + 1 + 1, c4), (L + 1 + 1 + 1, c3), (L + 1 + 1, c2)] (by walk_at "m:keep")
  clear N3 e1' c1
  dsimp only
  repeat ((fail_if_success (with_reducible show wpAny _ _ (subscriptTail _ _ _ _) _ _ _)); walk_at "m:step")
  refine ksa_sub N4 (by k_mem) ids (by omega) (by omega) (by decide) ?_
  intro t4
  generalize ds.getD (5 : Int).toNat 0 = d5
  repeat ((fail_if_success (with_reducible show wpAny _ _ (exec (Stmt.Assign _ (Expr.ListComp _ _ _ _) _) _) _ _ _)); walk_at "m:step")
  rename_i h5 F5 N5
  refine wpAny_Assign_Name ?_
  refine LCg.ListComp_U (F₀ := F5) (by with_unfolding_all rfl) (by decide) (by rfl) (by decide) (by rfl) ?_
  repeat ((fail_if_success (with_reducible show LCg.CompSrc _ _ _ _ _ _ _ _ _ _ _ _ _ _)); walk_at "m:step")
  refine LCg.CompSrc.range (n := 5) (by rfl) (by k_asm) (by k_asm) (by assumption) (by first | decide | rfl) (by first | rfl | decide) (by first | size_fits | exact Nat.le_of_ble_eq_true rfl) ?_
  intro g'
  dsimp only
  refine comp_inv (fun i ys nw => nw = [(L + 1, od), (D, listOf ws.toArray c), (L + 1 + 1 + 1 + 1 + 1 + 1 + 1, c7), (L + 1 + 1 + 1 + 1 + 1 + 1, c6), (L + 1 + 1 + 1 + 1 + 1, c5), (L + 1 + 1 + 1 + 1, c4), (L + 1 + 1 + 1, c3), (L + 1 + 1, c2)] ∧ IntsAre ys (toZ ((List.range i).map (offN ds)))) ?_ ?_ 5 0 [] _ rfl ⟨rfl, .nil⟩
  · rintro i ys nw v I oI C oC Dd m2 h tk E' hi6 ⟨rfl, ids'⟩ ⟨t, rfl⟩ hC hx F N off ne
    rw [Int.zero_add] at *
    clear hend
    dsimp only
    repeat ((fail_if_success (with_reducible show wpAny _ _ (subscriptTail _ _ _ _) _ _ _)); walk_at "m:step")
    refine ksa_sub N (by k_mem) ids (by omega) (by omega) (by omega) ?_
    intro t5
    have hpos : (i : Int) + 2 ≠ 0 := by omega
    k_steps
    rw [toZ_snoc, offN_int]
    exact LCg.CompEnd.intro F N _ (fun p hp => hp) off trivial ⟨rfl, ids'.append (.cons _ _ .nil)⟩
  · rintro yo nw ⟨rfl, ids'⟩ O h6 tk6 F6 N6 off
    have ho := off1_in off
    simp only [List.forall_mem_cons] at ho
    obtain ⟨-, r8, r7, r6, r5, r4, r3, r2, -⟩ := ho
    have ne4 : @Ne Nat (L + 1 + 1 + 1 + 1) O := r4
    have ne5 : @Ne Nat (L + 1 + 1 + 1 + 1 + 1) O := r5
    have ne6 : @Ne Nat (L + 1 + 1 + 1 + 1 + 1 + 1) O := r6
    have ne7 : @Ne Nat (L + 1 + 1 + 1 + 1 + 1 + 1 + 1) O := r7
    have ne2 : @Ne Nat (L + 1 + 1) O := r2
    have ne3 : @Ne Nat (L + 1 + 1 + 1) O := r3
    dsimp only
    refine store_cell (v := .ref O) F6 N6 rfl (by k_mem) (by k_asm) ?_ rfl rfl
    intro h7 oo F7 N7' d7
    have N7 := N7' [(O, listOf yo.toArray yo.length), (L + 1 + 1 + 1 + 1 + 1 + 1 + 1, c7), (L + 1 + 1 + 1 + 1 + 1 + 1, c6), (L + 1 + 1 + 1 + 1 + 1, c5), (L + 1 + 1 + 1 + 1, c4), (L + 1 + 1, c2)] (by walk_at "m:keep")
    clear N7'
    obtain ⟨us, hus, hul, hub⟩ := offs_ok ids'
    clear ids' hds ids
    obtain ⟨gl, hgl, hg1, hg2⟩ : ∃ gl : Nat, 15 + d5.fmod 8 = (gl : Int) ∧ 15 ≤ gl ∧ gl ≤ 22 := goal_ok
    rw [hgl] at F7
    dsimp only at F7 ⊢
    generalize tk2 + 1 + 1 + 1 + 1 = tkg at F7
    clear N6 F6 h6 off r8 r7 r6 r5 r4 r3 r2
    repeat (rename_i x; clear x)
    clear hgl t4
    clear d3 od q7 q6 q5 q4 q3 q2 q1 D ws c ds h2 tk2 h3 h1 tk1 hn hI hL ns vs e3' c3
    revert w mg mb fa cda sc c7 c6 c5 c4 c2 qk ek e7' e6' e5' e4' e2' mean L hpo h₀ gg gd gt go KX K1 T hend d5 h5 g' yo O tk6 ne4 ne5 ne6 ne7 ne2 ne3 h7 oo d7 N7 us hus hul hub gl hg1 hg2 tkg F7
    exact hK.out⟩
set_option maxHeartbeats 4000000 in
def S12 : {P : Prop // Flt.Hid P → S11.1} := ⟨_, fun hK => by
  intro w
  set_option tactic.hygienic false in intros
  repeat ((fail_if_success (with_reducible show wpAny _ _ (exec (Stmt.Assign _ (Expr.ListComp _ _ _ _) _) _) _ _ _)); walk_at "m:step")
  rename_i TH tv ct hh8 tk8 itv lth hx ot F8 N8 d8
  rw [rangeKs_toZ] at itv
  have htl : tv.length = gl := by have := itv.length; simpa [toZ] using this
  obtain ⟨nt1, nt2, nt3, nt4, nt5, nt6, nt7⟩ := lth
  refine wpAny_Assign_Name ?_
  refine LCg.ListComp_U (F₀ := F8) (by with_unfolding_all rfl) (by decide) (by rfl) (by decide) (by rfl) ?_
  repeat ((fail_if_success (with_reducible show LCg.CompSrc _ _ _ _ _ _ _ _ _ _ _ _ _ _)); walk_at "m:step")
  refine LCg.CompSrc.ledger (ax := TH) (its := tv.toArray) (k := ct) (by rfl) (by k_asm) (by k_asm) (by k_mem) (by simp only [List.size_toArray, htl]; exact Nat.le_trans hg2 (by decide)) ?_
  intro g'
  dsimp only
  refine comp_inv (n := gl) (fun i ys nw => nw = [(TH, listOf tv.toArray ct), (L + 1 + 1 + 1, oo), (O, listOf yo.toArray yo.length), (L + 1 + 1 + 1 + 1 + 1 + 1 + 1, c7), (L + 1 + 1 + 1 + 1 + 1 + 1, c6), (L + 1 + 1 + 1 + 1 + 1, c5), (L + 1 + 1 + 1 + 1, ot), (L + 1 + 1, c2)] ∧ IntsAre ys (toZ ((List.range i).map (· % 3)))) ?_ ?_ _ 0 [] _ (by simp [htl]) ⟨rfl, .nil⟩
  · rintro i ys nw v I oI C oC Dd m2 h tk E' hi6 ⟨rfl, ids'⟩ hP hC hx F N off ne
    clear hend
    obtain ⟨t, rfl⟩ : ∃ t, v = .int ((i : Nat) : Int) t := by
      obtain ⟨n, t, rfl, hn⟩ := itv.at i v (by simpa using hP)
      refine ⟨t, ?_⟩
      have : (toZ (List.range gl))[i]? = some ((i : Nat) : Int) := by simp [toZ, hi6]
      rw [this] at hn
      rw [Option.some.inj hn]
    dsimp only
    k_steps
    rw [toZ_snoc, mod3_int]
    exact LCg.CompEnd.intro F N _ (fun p hp => hp) off (.inr ⟨_, .head _, rfl, _, rfl⟩) ⟨rfl, ids'.append (.cons _ _ .nil)⟩
  · rintro wv nw ⟨rfl, iwv⟩ TW h9 tk9 F9 N9 off
    have ho := off1_in off
    simp only [List.forall_mem_cons] at ho
    obtain ⟨m1, m2, m3, m4, m5, m6, m7, m8, -⟩ := ho
    dsimp only
    refine store_cell (v := .ref TW) F9 N9 rfl (by k_mem) (by k_asm) ?_ rfl rfl
    intro ha ow Fa Na' da
    have Na := Na' [(TH, listOf tv.toArray ct), (TW, listOf wv.toArray wv.length), (O, listOf yo.toArray yo.length), (L + 1 + 1 + 1, oo), (L + 1 + 1 + 1 + 1 + 1 + 1 + 1, c7), (L + 1 + 1 + 1 + 1 + 1 + 1, c6), (L + 1 + 1 + 1 + 1, ot), (L + 1 + 1, c2)] (by walk_at "m:keep")
    clear Na'
    dsimp only
    have ca : cellsFar L TH := fun i hi => by omega
    have cb : cellsFar L TW := cellsFar_of (Ne.symm m8) (Ne.symm m2) (Ne.symm m7) (Ne.symm m6) (Ne.symm m5) (Ne.symm m4)
    have cc : cellsFar L O := cellsFar_of (Ne.symm ne2) (Ne.symm ne3) (Ne.symm ne4) (Ne.symm ne5) (Ne.symm ne6) (Ne.symm ne7)
    replace ca := ca.at; replace cb := cb.at; replace cc := cc.at
    have cd : @Ne Nat TH TW := m1
    have ce : @Ne Nat TH O := by omega
    have cf : @Ne Nat O TW := m3
    clear m1 m2 m3 m4 m5 m6 m7 m8 nt1 nt2 nt3 nt4 nt5 nt6 nt7 ne4 ne5 ne6 ne7 ne2 ne3
    clear off N9 F9 h9 F8 N8 g'
    repeat (rename_i x; clear x)
    clear hx hh8 tk8 htl e4' e5' c4 c5
    revert w mg mb fa cda sc c7 c6 c2 qk ek e7' e6' e2' mean L hpo h₀ gg gd gt go KX K1 T hend d5 h5 g' yo O tk6 h7 oo d7 us hus hul hub gl hg1 hg2 tkg TH tv ct itv ot d8 tk wv iwv TW tk9 ha ow Fa da Na ca cb cc cd ce cf
    exact hK.out⟩
set_option maxHeartbeats 4000000 in
def S13 : {P : Prop // Flt.Hid P → S12.1} := ⟨_, fun hK => by
  intro w
  set_option tactic.hygienic false in intros
  repeat ((fail_if_success (with_reducible show wpAny _ _ (exec (Stmt.Assign _ (Expr.ListComp _ _ _ _) _) _) _ _ _)); walk_at "m:step")
  refine LCg.Assign_ListComp_U (F₀ := Fa) (by rfl) (by with_unfolding_all rfl) (by with_unfolding_all rfl) (by decide) (by rfl) (by decide) (by rfl) (by rfl) (by rfl) ?_
  have NR : News h₀ L ha ((TH, listOf tv.toArray ct) :: ([] ++ [(L + 1 + 1 + 1 + 1 + 1, ow), (TW, listOf wv.toArray wv.length), (O, listOf yo.toArray yo.length), (L + 1 + 1 + 1, oo), (L + 1 + 1 + 1 + 1 + 1 + 1 + 1, c7), (L + 1 + 1 + 1 + 1 + 1 + 1, c6), (L + 1 + 1 + 1 + 1, ot), (L + 1 + 1, c2)])) := newsPick Na (by walk_at "m:sub")
  have hR : ∀ p ∈ [(L + 1 + 1 + 1 + 1 + 1, ow), (TW, listOf wv.toArray wv.length), (O, listOf yo.toArray yo.length), (L + 1 + 1 + 1, oo), (L + 1 + 1 + 1 + 1 + 1 + 1 + 1, c7), (L + 1 + 1 + 1 + 1 + 1 + 1, c6), (L + 1 + 1 + 1 + 1, ot), (L + 1 + 1, c2)], p.1 ≠ TH := by
    walk_at "m:far"
  clear Na
  repeat ((fail_if_success (with_reducible show LCg.CompSrc _ _ _ _ _ _ _ _ _ _ _ _ _ _)); walk_at "m:step")
  refine LCg.CompSrc.range (n := 5) (by rfl) (by k_asm) (by k_asm) (by assumption) (by first | decide | rfl) (by first | rfl | decide) (by first | size_fits | exact Nat.le_of_ble_eq_true rfl) ?_
  intro g'
  dsimp only
  refine comp_inv (StrkJ us (toZ (List.range gl)) TH [(L + 1 + 1 + 1 + 1 + 1, ow), (TW, listOf wv.toArray wv.length), (O, listOf yo.toArray yo.length), (L + 1 + 1 + 1, oo), (L + 1 + 1 + 1 + 1 + 1 + 1 + 1, c7), (L + 1 + 1 + 1 + 1 + 1 + 1, c6), (L + 1 + 1 + 1 + 1, ot), (L + 1 + 1, c2)]) ?_ ?_ 5 0 [] _ rfl ⟨tv, ct, [], rfl, itv, .nil, fun _ h => nomatch h⟩
  · rintro i ys nw v I oI C oC Dd m2 h tk E' hi6 ⟨vs, c, mk, rfl, ivs, dat, fr⟩ ⟨t, rfl⟩ hC hx F N off ne
    rw [Int.zero_add] at *
    clear hend
    dsimp only
    repeat ((fail_if_success (with_reducible show wpAny _ _ (subscriptTail _ _ _ _) _ _ _)); walk_at "m:step")
    refine ksa_sub N (by k_mem) hus (by omega) (by simp only [toZ, List.length_map]; omega) (by omega) ?_
    intro t5
    rw [Int.toNat_natCast, toZ_getD]
    repeat ((fail_if_success (with_reducible show wpAny _ _ (call _ _) _ _ _)); walk_at "m:step")
    have hub' := hub i
    have hvl : vs.length ≤ 22 := by rw [ivs.length]; refine Nat.le_trans (rowN_len _ _ _) ?_; simp only [toZ, List.length_map, List.length_range]; exact hg2
    rw [show (i : Int) + 1 = ((i + 1 : Nat) : Int) from rfl]
    refine Ctr.use (struck_ctr w mean mg mb _ _ (strk_off fr hR off) ivs (by omega) (by omega) (by omega)) K1 F KX (strk_news N) T rfl (by ktr_room) (by ktr_units) ?_
    intro r h3 tk3 n3 F3 N3 P3
    exact strk_end F3 N3 P3 dat fr off
  · rintro hs nw ⟨vs, c, mk, rfl, ivs, dat, fr⟩ H h6 tk6 F6 N6 off
    have ho := off1_in off
    have o1 : @Ne Nat TH H := ho _ (.head _)
    have o2 : ∀ p ∈ mk, p.1 ≠ H := fun p hp => ho p (.tail _ (List.mem_append_left _ hp))
    have o3 := fun (p : Addr × Obj) hp => ho p (.tail _ (List.mem_append_right _ hp))
    simp only [List.forall_mem_cons] at o3
    obtain ⟨z5, z8, z9, z3, z7, z6, z4, z2, -⟩ := o3
    have ch : cellsFar L H := cellsFar_of (Ne.symm z2) (Ne.symm z3) (Ne.symm z4) (Ne.symm z5) (Ne.symm z6) (Ne.symm z7)
    replace ch := ch.at
    have hmk : ∀ x ∈ mk, (@Ne Nat x.1 TH) ∧ (@Ne Nat x.1 TW) ∧ (@Ne Nat x.1 O) ∧ (@Ne Nat x.1 H) ∧ cellsFar L x.1 := fun x hx => by
      obtain ⟨f1, f2⟩ := fr x hx
      simp only [List.forall_mem_cons] at f2
      obtain ⟨y5, y8, y9, y3, y7, y6, y4, y2, -⟩ := f2
      exact ⟨Ne.symm (Nat.ne_of_lt f1), Ne.symm (Nat.ne_of_lt y8), Ne.symm (Nat.ne_of_lt y9), o2 x hx, cellsFar_of (Ne.symm (Nat.ne_of_lt y2)) (Ne.symm (Nat.ne_of_lt y3)) (Ne.symm (Nat.ne_of_lt y4)) (Ne.symm (Nat.ne_of_lt y5)) (Ne.symm (Nat.ne_of_lt y6)) (Ne.symm (Nat.ne_of_lt y7))⟩
    have cg : (@Ne Nat TW H) ∧ @Ne Nat O H := ⟨z8, z9⟩
    dsimp only at F6 ⊢
    clear fr o2 ho off z5 z8 z9 z3 z7 z6 z4 z2 hR g'
    repeat (rename_i x; clear x)
    clear ha itv tv ct tk9
    rw [Nat.zero_add] at ivs dat
    revert w mg mb fa cda sc c7 c6 c2 qk ek e7' e6' e2' mean L hpo h₀ gg gd gt go KX K1 T hend d5 h5 g' yo O h7 oo d7 us hus hul hub gl hg1 hg2 tkg TH ot d8 tk wv iwv TW ow da ca cb cc cd ce cf hs vs c mk ivs dat H h6 tk6 F6 N6 o1 ch hmk cg
    exact hK.out⟩
set_option maxHeartbeats 4000000 in
def S14 : {P : Prop // Flt.Hid P → S13.1} := ⟨_, fun hK => by
  intro w
  set_option tactic.hygienic false in intros
  repeat ((fail_if_success (with_reducible show wpAny _ _ (exec (Stmt.Assign _ (Expr.ListComp _ _ _ _) _) _) _ _ _)); walk_at "m:step")
  refine LCg.Assign_ListComp_U (F₀ := F6) (by rfl) (by with_unfolding_all rfl) (by with_unfolding_all rfl) (by decide) (by rfl) (by decide) (by rfl) (by rfl) (by rfl) ?_
  have NR : News h₀ L h6 ((TW, listOf wv.toArray wv.length) :: ([] ++ ([(L + 1 + 1 + 1 + 1 + 1, ow), (O, listOf yo.toArray yo.length), (L + 1 + 1 + 1, oo), (L + 1 + 1 + 1 + 1 + 1 + 1 + 1, c7), (L + 1 + 1 + 1 + 1 + 1 + 1, c6), (L + 1 + 1 + 1 + 1, ot), (L + 1 + 1, c2), (H, listOf hs.toArray hs.length), (TH, listOf vs.toArray c)] ++ mk))) := newsPick N6 (by (walk_at "m:sub"); exact fun q hq => .tail _ (.tail _ (List.mem_append_left _ hq)))
  have hR : ∀ p ∈ ([(L + 1 + 1 + 1 + 1 + 1, ow), (O, listOf yo.toArray yo.length), (L + 1 + 1 + 1, oo), (L + 1 + 1 + 1 + 1 + 1 + 1 + 1, c7), (L + 1 + 1 + 1 + 1 + 1 + 1, c6), (L + 1 + 1 + 1 + 1, ot), (L + 1 + 1, c2), (H, listOf hs.toArray hs.length), (TH, listOf vs.toArray c)] ++ mk), p.1 ≠ TW := by
    walk_at "m:far"
    exact fun q hq => (hmk q hq).2.1
  clear N6
  repeat ((fail_if_success (with_reducible show LCg.CompSrc _ _ _ _ _ _ _ _ _ _ _ _ _ _)); walk_at "m:step")
  refine LCg.CompSrc.range (n := 5) (by rfl) (by k_asm) (by k_asm) (by assumption) (by first | decide | rfl) (by first | rfl | decide) (by first | size_fits | exact Nat.le_of_ble_eq_true rfl) ?_
  intro g'
  dsimp only
  refine comp_inv (StrkJ us (toZ ((List.range gl).map (· % 3))) TW ([(L + 1 + 1 + 1 + 1 + 1, ow), (O, listOf yo.toArray yo.length), (L + 1 + 1 + 1, oo), (L + 1 + 1 + 1 + 1 + 1 + 1 + 1, c7), (L + 1 + 1 + 1 + 1 + 1 + 1, c6), (L + 1 + 1 + 1 + 1, ot), (L + 1 + 1, c2), (H, listOf hs.toArray hs.length), (TH, listOf vs.toArray c)] ++ mk)) ?_ ?_ 5 0 [] _ rfl ⟨wv, wv.length, [], rfl, iwv, .nil, fun _ h => nomatch h⟩
  · rintro i ys nw v I oI C oC Dd m2 h tk E' hi6 ⟨vt, cw, mk2, rfl, ivt, dat2, fr2⟩ ⟨t, rfl⟩ hC hx F N off ne
    rw [Int.zero_add] at *
    clear hend
    dsimp only
    repeat ((fail_if_success (with_reducible show wpAny _ _ (subscriptTail _ _ _ _) _ _ _)); walk_at "m:step")
    refine ksa_sub N (by k_mem) hus (by omega) (by simp only [toZ, List.length_map]; omega) (by omega) ?_
    intro t5
    rw [Int.toNat_natCast, toZ_getD]
    repeat ((fail_if_success (with_reducible show wpAny _ _ (call _ _) _ _ _)); walk_at "m:step")
    have hub' := hub i
    have hvl : vt.length ≤ 22 := by rw [ivt.length]; refine Nat.le_trans (rowN_len _ _ _) ?_; simp only [toZ, List.length_map, List.length_range]; exact hg2
    rw [show (i : Int) + 1 = ((i + 1 : Nat) : Int) from rfl]
    refine Ctr.use (struck_ctr w mean mg mb _ _ (strk_off fr2 hR off) ivt (by omega) (by omega) (by omega)) K1 F KX (strk_news N) T rfl (by ktr_room) (by ktr_units) ?_
    intro r h3 tk3 n3 F3 N3 P3
    exact strk_end F3 N3 P3 dat2 fr2 off
  · rintro ls nw ⟨vt, cw, mk2, rfl, ivt, dat2, fr2⟩ K h8 tk8 F8 N8 off
    dsimp only at F8 ⊢
    have ho := off1_in off
    have o2 := fun (p : Addr × Obj) hp => ho p (.tail _ (List.mem_append_right _ (List.mem_append_left _ hp)))
    simp only [List.forall_mem_cons] at o2
    obtain ⟨z5, z9, z3, z7, z6, z4, z2, -⟩ := o2
    have hf2 : ∀ x ∈ mk2, (@Ne Nat x.1 (L + 1 + 1)) ∧ (@Ne Nat x.1 (L + 1 + 1 + 1 + 1 + 1 + 1)) ∧ (@Ne Nat x.1 (L + 1 + 1 + 1 + 1 + 1 + 1 + 1)) := fun x hx => by
      have f2 := fun (y : Addr × Obj) hy => (fr2 x hx).2 y (List.mem_append_left _ hy)
      simp only [List.forall_mem_cons] at f2
      obtain ⟨y5, y9, y3, y7, y6, y4, y2, -⟩ := f2
      exact ⟨Ne.symm (Nat.ne_of_lt y2), Ne.symm (Nat.ne_of_lt y6), Ne.symm (Nat.ne_of_lt y7)⟩
    obtain ⟨R, N9, far, mK, mTW, mO, mH, mTH, m5, m3, m4, D1, D2⟩ : ∃ R : List (Addr × Obj), News h₀ L h8 ((L + 1 + 1 + 1 + 1 + 1 + 1, c6) :: (L + 1 + 1 + 1 + 1 + 1 + 1 + 1, c7) :: (L + 1 + 1, c2) :: R) ∧
        (∀ p ∈ R, (@Ne Nat p.1 (L + 1 + 1)) ∧ (@Ne Nat p.1 (L + 1 + 1 + 1 + 1 + 1 + 1)) ∧ (@Ne Nat p.1 (L + 1 + 1 + 1 + 1 + 1 + 1 + 1))) ∧ (K, listOf ls.toArray ls.length) ∈ R ∧ (TW, listOf vt.toArray cw) ∈ R ∧ (O, listOf yo.toArray yo.length) ∈ R ∧ (H, listOf hs.toArray hs.length) ∈ R ∧ (TH, listOf vs.toArray c) ∈ R ∧ (L + 1 + 1 + 1 + 1 + 1, ow) ∈ R ∧ (L + 1 + 1 + 1, oo) ∈ R ∧ (L + 1 + 1 + 1 + 1, ot) ∈ R ∧ DatAll R hs ((List.range 5).map (heapD us (toZ (List.range gl)))) ∧ DatAll R ls ((List.range 5).map (heapD us (toZ ((List.range gl).map (· % 3))))) := by
      refine ⟨[(K, listOf ls.toArray ls.length), (TW, listOf vt.toArray cw), (O, listOf yo.toArray yo.length), (H, listOf hs.toArray hs.length), (TH, listOf vs.toArray c), (L + 1 + 1 + 1 + 1 + 1, ow), (L + 1 + 1 + 1, oo), (L + 1 + 1 + 1 + 1, ot)] ++ (mk2 ++ mk), newsPick N8 ?_, ?_, by k_mem, by k_mem, by k_mem, by k_mem, by k_mem, by k_mem, by k_mem, by k_mem, dat.mono fun p hp => List.mem_append_right _ (List.mem_append_right _ hp), dat2.mono fun p hp => List.mem_append_right _ (List.mem_append_left _ hp)⟩
      · walk_at "m:sub"
        · exact fun q hq => .tail _ (.tail _ (List.mem_append_left _ hq))
        · exact fun q hq => .tail _ (.tail _ (List.mem_append_right _ (List.mem_append_right _ hq)))
      · intro p hp
        rcases List.mem_append.mp hp with hp | hp
        · simp only [List.mem_cons, List.not_mem_nil, or_false] at hp
          rcases hp with rfl | rfl | rfl | rfl | rfl | rfl | rfl | rfl
          · exact ⟨Ne.symm z2, Ne.symm z6, Ne.symm z7⟩
          · exact ⟨cb.1, cb.2.2.2.2.1, cb.2.2.2.2.2⟩
          · exact ⟨cc.1, cc.2.2.2.2.1, cc.2.2.2.2.2⟩
          · exact ⟨ch.1, ch.2.2.2.2.1, ch.2.2.2.2.2⟩
          · exact ⟨ca.1, ca.2.2.2.2.1, ca.2.2.2.2.2⟩
          · exact cell5 L
          · exact cell3 L
          · exact cell4 L
        · rcases List.mem_append.mp hp with hp | hp
          · exact hf2 p hp
          · have := (hmk p hp).2.2.2.2.at
            exact ⟨this.1, this.2.2.2.2.1, this.2.2.2.2.2⟩
    clear off ho hf2 fr2 hmk dat dat2 N8 hR z5 z9 z3 z7 z6 z4 z2 ca cb cc cd ce cf cg ch o1
    repeat (rename_i x; clear x)
    clear mk2 mk iwv wv g'
    rw [Nat.zero_add] at ivt
    clear h6
    revert w mg mb fa cda sc c7 c6 c2 qk ek e7' e6' e2' mean L hpo h₀ gg gd gt go KX K1 T hend d5 h5 yo O h7 oo d7 us hus hul hub gl hg1 hg2 tkg TH ot d8 tk TW ow da hs vs c ivs H tk6 ls vt cw ivt K h8 tk8 F8 R N9 far mK mTW mO mH mTH m5 m3 m4 D1 D2
    exact hK.out⟩
set_option maxHeartbeats 4000000 in
def S15 : {P : Prop // Flt.Hid P → S14.1} := ⟨_, fun hK => by
  intro w
  set_option tactic.hygienic false in intros
  repeat ((fail_if_success (with_reducible show wpAny _ _ (exec (Stmt.Assign _ (Expr.ListComp _ _ _ _) _) _) _ _ _)); walk_at "m:step")
  refine wpAny_Assign_Name ?_
  refine LCg.ListComp_U (F₀ := F8) (by with_unfolding_all rfl) (by decide) (by rfl) (by decide) (by rfl) ?_
  have hyl : yo.length = 5 := by have := hus.length; simp only [toZ, List.length_map] at this; omega
  repeat ((fail_if_success (with_reducible show LCg.CompSrc _ _ _ _ _ _ _ _ _ _ _ _ _ _)); walk_at "m:step")
  refine LCg.CompSrc.ledger (ax := O) (its := yo.toArray) (k := yo.length) (by rfl) F8 N9 (.tail _ (.tail _ (.tail _ mO))) (by simp only [List.size_toArray, hyl]; decide) ?_
  intro g'
  dsimp only
  refine comp_inv (n := 5) (fun i ys nw => ∃ mk, nw = mk ++ ((L + 1 + 1 + 1 + 1 + 1 + 1, c6) :: (L + 1 + 1 + 1 + 1 + 1 + 1 + 1, c7) :: (L + 1 + 1, c2) :: R) ∧ DatAll mk ys (((toZ us).take i).map holeD) ∧ ∀ x ∈ mk, ∀ y ∈ ((L + 1 + 1 + 1 + 1 + 1 + 1, c6) :: (L + 1 + 1 + 1 + 1 + 1 + 1 + 1, c7) :: (L + 1 + 1, c2) :: R), @LT.lt Nat _ y.1 x.1) ?_ ?_ _ 0 [] _ (by simp [hyl]) ⟨[], rfl, .nil, fun _ h => nomatch h⟩
  · rintro i ys nw v I oI C oC Dd m2 h tk E' hi6 ⟨mk, rfl, dat, fr⟩ hP hC hx F N off ne
    clear hend
    obtain ⟨t, rfl⟩ : ∃ t, v = .int ((toZ us).getD i 0) t := by
      obtain ⟨n, t, rfl, hn⟩ := hus.at i v (by simpa using hP)
      exact ⟨t, by simp [List.getD, hn]⟩
    dsimp only
    k_steps
    rw [take_getD _ (by simp only [toZ, List.length_map]; omega), List.map_append]
    exact new_end (by k_asm) (by k_asm) (by assumption) dat (.list (.head _) (.cons (.int _ _) .nil)) fr off (.inr ⟨_, List.mem_append_right _ (.tail _ (.tail _ (.tail _ mO))), rfl, _, rfl⟩)
  · rintro bs nw ⟨mk, rfl, dat, fr⟩ B h9 tk9 F9 N9 off
    rw [List.take_of_length_le (by simp only [toZ, List.length_map]; omega)] at dat
    have ho := off1_in off
    dsimp only
    refine store_cell (v := .ref B) F9 N9 rfl (.tail _ (List.mem_append_right _ (.head _))) (by k_asm) ?_ rfl rfl
    intro ha oh Fa Na' db
    have k6 : @Ne Nat (L + 1 + 1 + 1 + 1 + 1 + 1) B := ho _ (List.mem_append_right _ (.head _))
    have k7 : @Ne Nat (L + 1 + 1 + 1 + 1 + 1 + 1 + 1) B := ho _ (List.mem_append_right _ (.tail _ (.head _)))
    have k2 : @Ne Nat (L + 1 + 1) B := ho _ (List.mem_append_right _ (.tail _ (.tail _ (.head _))))
    have Na := Na' ((B, listOf bs.toArray bs.length) :: (L + 1 + 1 + 1 + 1 + 1 + 1 + 1, c7) :: (L + 1 + 1, c2) :: (mk ++ R)) (by
      refine all_cons ⟨.head _, Ne.symm k6⟩ (all_cons ⟨.tail _ (List.mem_append_right _ (.tail _ (.head _))), by show @Ne Nat _ _; omega⟩ (all_cons ⟨.tail _ (List.mem_append_right _ (.tail _ (.tail _ (.head _)))), by show @Ne Nat _ _; omega⟩ (all_app (fun q hq => ⟨.tail _ (List.mem_append_left _ hq), Ne.symm (Nat.ne_of_lt (fr q hq _ (.head _)))⟩) (fun q hq => ⟨.tail _ (List.mem_append_right _ (.tail _ (.tail _ (.tail _ hq)))), (far q hq).2.1⟩)))))
    clear Na' N9 F9
    have NB : News h₀ L ha ((B, listOf bs.toArray bs.length) :: ([] ++ ((L + 1 + 1 + 1 + 1 + 1 + 1, oh) :: (L + 1 + 1 + 1 + 1 + 1 + 1 + 1, c7) :: (L + 1 + 1, c2) :: (mk ++ R)))) := newsPick Na (by
      refine sub_cons (.tail _ (.head _)) (sub_cons (.head _) (sub_cons (.tail _ (.tail _ (.head _))) (sub_cons (.tail _ (.tail _ (.tail _ (.head _)))) (fun q hq => .tail _ (.tail _ (.tail _ (.tail _ hq)))))))) 
    have hB : ∀ p ∈ ((L + 1 + 1 + 1 + 1 + 1 + 1, oh) :: (L + 1 + 1 + 1 + 1 + 1 + 1 + 1, c7) :: (L + 1 + 1, c2) :: (mk ++ R)), p.1 ≠ B := far_cons k6 (far_cons k7 (far_cons k2 (far_app (fun q hq => ho q (List.mem_append_left _ hq)) (fun q hq => ho q (List.mem_append_right _ (.tail _ (.tail _ (.tail _ hq))))))))
    have hmk : ∀ x ∈ mk, (@Ne Nat x.1 (L + 1 + 1)) ∧ (@Ne Nat x.1 (L + 1 + 1 + 1 + 1 + 1 + 1)) ∧ (@Ne Nat x.1 (L + 1 + 1 + 1 + 1 + 1 + 1 + 1)) := fun x hx => ⟨Ne.symm (Nat.ne_of_lt (fr x hx _ (.tail _ (.tail _ (.head _))))), Ne.symm (Nat.ne_of_lt (fr x hx _ (.head _))), Ne.symm (Nat.ne_of_lt (fr x hx _ (.tail _ (.head _))))⟩
    clear Na ho off fr
    repeat (rename_i x; clear x)
    clear F8 N9
    dsimp only
    (try clear g'); (try clear h8); (try clear tk6); clear e6' c6 hyl
    revert w mg mb fa cda sc c7 c2 qk ek e7' e2' mean L hpo h₀ gg gd gt go KX K1 T hend d5 h5 yo O h7 oo d7 us hus hul hub gl hg1 hg2 tkg TH ot d8 tk TW ow da hs vs c ivs H ls vt cw ivt K tk8 R far mK mTW mO mH mTH m5 m3 m4 D1 D2 bs mk dat B h9 tk9 ha oh Fa db k6 k7 k2 NB hB hmk
    exact hK.out⟩
set_option maxHeartbeats 4000000 in
def S16 : {P : Prop // Flt.Hid P → S15.1} := ⟨_, fun hK => by
  intro w
  set_option tactic.hygienic false in intros
  repeat ((fail_if_success (with_reducible show wpAny _ _ (exec (Stmt.Assign _ (Expr.ListComp _ _ _ _) _) _) _ _ _)); walk_at "m:step")
  refine wpAny_Assign_Name ?_
  refine LCg.ListComp_U (F₀ := Fa) (by with_unfolding_all rfl) (by decide) (by rfl) (by decide) (by rfl) ?_
  have hgs : (gl : Int) < 1000000 := by omega
  repeat ((fail_if_success (with_reducible show LCg.CompSrc _ _ _ _ _ _ _ _ _ _ _ _ _ _)); walk_at "m:step")
  rename IsRange _ _ _ _ _ _ _ _ => hrg
  refine LCg.CompSrc.range (n := gl) (by rfl) (by k_asm) (by k_asm) hrg (small_one (by omega) (by omega) (by omega) (by omega)) (by rw [rangeSize_nat]; omega) (by exact Nat.le_trans hg2 (by decide)) ?_
  intro g'
  dsimp only
  have hzl : (toZ us).length = 5 := by simp only [toZ, List.length_map]; exact hul
  refine comp_inv (TurnJ (toZ us) B bs.length mk ((L + 1 + 1 + 1 + 1 + 1 + 1, oh) :: (L + 1 + 1 + 1 + 1 + 1 + 1 + 1, c7) :: (L + 1 + 1, c2) :: (mk ++ R))) ?_ ?_ gl 0 [] _ (Nat.zero_add _) ⟨bs, [], rfl, dat, .nil, fun _ h => nomatch h⟩
  · rintro i ys nw v I oI C oC Dd m2 h tk E' hi6 ⟨refs, mk1, rfl, dat1, iy, fr1⟩ - hC hx F N off ne
    clear hend
    dsimp only
    repeat ((fail_if_success (with_reducible show wpAny _ _ (call _ _) _ _ _)); walk_at "m:step")
    refine CtrT.use (filled_ctr w mean mg mb (dl := mk1 ++ mk) (strk_off fr1 hB off) (fun p hp => (List.mem_append.mp hp).elim (fun h => .tail _ (.tail _ (.tail _ (List.mem_append_left _ h)))) (fun h => .tail _ (.tail _ (.tail _ (List.mem_append_right _ (.tail _ (.tail _ (.tail _ (List.mem_append_left _ h))))))))) dat1 (fillI_len hzl i)) K1 F KX (strk_news N) T rfl (by ktr_room) (by ktr_units) ?_
    intro r h3 tk3 n3 F3 N3 P3
    exact turn_end F3 N3 P3 iy fr1 off
  · rintro ts nw ⟨refs, mk1, rfl, dat1, its, fr1⟩ U h9 tk9 F9 N9 off
    have ho := off1_in off
    dsimp only
    refine store_cell (v := .ref U) F9 N9 rfl (.tail _ (.tail _ (List.mem_append_right _ (.tail _ (.head _))))) (by k_asm) ?_ rfl rfl
    intro hb ou Fb Nb' du
    have u7 : @Ne Nat (L + 1 + 1 + 1 + 1 + 1 + 1 + 1) U := ho _ (.tail _ (List.mem_append_right _ (.tail _ (.head _))))
    have u2 : @Ne Nat (L + 1 + 1) U := ho _ (.tail _ (List.mem_append_right _ (.tail _ (.tail _ (.head _)))))
    have b7 : @Ne Nat (L + 1 + 1 + 1 + 1 + 1 + 1 + 1) B := hB _ (.tail _ (.head _))
    have b2 : @Ne Nat (L + 1 + 1) B := hB _ (.tail _ (.tail _ (.head _)))
    have Nb := Nb' ((U, listOf ts.toArray ts.length) :: (B, listOf refs.toArray bs.length) :: (L + 1 + 1 + 1 + 1 + 1 + 1, oh) :: (L + 1 + 1, c2) :: (mk1 ++ (mk ++ R))) (all_cons ⟨.head _, Ne.symm u7⟩ (all_cons ⟨.tail _ (.head _), Ne.symm b7⟩ (all_cons ⟨.tail _ (.tail _ (List.mem_append_right _ (.head _))), by show @Ne Nat _ _; omega⟩ (all_cons ⟨.tail _ (.tail _ (List.mem_append_right _ (.tail _ (.tail _ (.head _))))), by show @Ne Nat _ _; omega⟩
      (all_app (fun q hq => ⟨.tail _ (.tail _ (List.mem_append_left _ hq)), Ne.symm (Nat.ne_of_lt ((fr1 q hq).2 _ (.tail _ (.head _))))⟩) (fun q hq => ⟨.tail _ (.tail _ (List.mem_append_right _ (.tail _ (.tail _ (.tail _ hq))))), (List.mem_append.mp hq).elim (fun h => (hmk q h).2.2) (fun h => (far q h).2.2)⟩))))))
    obtain ⟨R7, N7, far7, mU, mB, m7, m6, mK', mTW', mO', mH', mTH', m5', m3', m4', D1', D2', D3'⟩ : ∃ R7 : List (Addr × Obj), News h₀ L hb ((L + 1 + 1, c2) :: R7) ∧ (∀ p ∈ R7, p.1 ≠ L + 1 + 1) ∧ (U, listOf ts.toArray ts.length) ∈ R7 ∧ (B, listOf refs.toArray bs.length) ∈ R7 ∧ (L + 1 + 1 + 1 + 1 + 1 + 1 + 1, ou) ∈ R7 ∧ (L + 1 + 1 + 1 + 1 + 1 + 1, oh) ∈ R7 ∧
        (K, listOf ls.toArray ls.length) ∈ R7 ∧ (TW, listOf vt.toArray cw) ∈ R7 ∧ (O, listOf yo.toArray yo.length) ∈ R7 ∧ (H, listOf hs.toArray hs.length) ∈ R7 ∧ (TH, listOf vs.toArray c) ∈ R7 ∧ (L + 1 + 1 + 1 + 1 + 1, ow) ∈ R7 ∧ (L + 1 + 1 + 1, oo) ∈ R7 ∧ (L + 1 + 1 + 1 + 1, ot) ∈ R7 ∧ DatAll R7 hs ((List.range 5).map (heapD us (toZ (List.range gl)))) ∧ DatAll R7 ls ((List.range 5).map (heapD us (toZ ((List.range gl).map (· % 3))))) ∧ DatAll R7 refs ((fillI (toZ us) gl).map holeD) := by
      have sR : ∀ q ∈ R, q ∈ [(U, listOf ts.toArray ts.length), (B, listOf refs.toArray bs.length), (L + 1 + 1 + 1 + 1 + 1 + 1, oh), (L + 1 + 1 + 1 + 1 + 1 + 1 + 1, ou)] ++ (mk1 ++ (mk ++ R)) := fun q hq => List.mem_append_right _ (List.mem_append_right _ (List.mem_append_right _ hq))
      refine ⟨[(U, listOf ts.toArray ts.length), (B, listOf refs.toArray bs.length), (L + 1 + 1 + 1 + 1 + 1 + 1, oh), (L + 1 + 1 + 1 + 1 + 1 + 1 + 1, ou)] ++ (mk1 ++ (mk ++ R)), newsPick Nb ?_, ?_, .head _, .tail _ (.head _), .tail _ (.tail _ (.tail _ (.head _))), .tail _ (.tail _ (.head _)), sR _ mK, sR _ mTW, sR _ mO, sR _ mH, sR _ mTH, sR _ m5, sR _ m3, sR _ m4, D1.mono sR, D2.mono sR, dat1.mono fun q hq => List.mem_append_right _ (by rw [← List.append_assoc]; exact List.mem_append_left _ hq)⟩
      · exact sub_cons (.tail _ (.tail _ (.tail _ (.tail _ (.head _))))) (sub_app (sub_cons (.tail _ (.head _)) (sub_cons (.tail _ (.tail _ (.head _))) (sub_cons (.tail _ (.tail _ (.tail _ (.head _)))) (sub_cons (.head _) sub_nil)))) (fun q hq => .tail _ (.tail _ (.tail _ (.tail _ (.tail _ hq))))))
      · refine far_app (far_cons (Ne.symm u2) (far_cons (Ne.symm b2) (far_cons (by show @Ne Nat _ _; omega) (far_cons (by show @Ne Nat _ _; omega) far_nil)))) (far_app (fun q hq => Ne.symm (Nat.ne_of_lt ((fr1 q hq).2 _ (.tail _ (.tail _ (.head _)))))) (far_app (fun q hq => (hmk q hq).1) (fun q hq => (far q hq).1)))
    dsimp only
    clear Nb Nb' N9 F9 ho off fr1 dat1 dat D1 D2 mK mTW mO mH mTH m5 m3 m4 far hmk hB u7 u2 b7 b2 hzl hgs
    (try clear hrg)
    repeat (rename_i x; clear x)
    (try clear Fa)
    clear mk1 mk R c7 e7'
    (try clear g'); (try clear ha)
    revert w mg mb fa cda sc c2 qk ek e2' mean L hpo h₀ gg gd gt go KX K1 T hend d5 h5 yo O h7 oo d7 us hus hul hub gl hg1 hg2 tkg TH ot d8 tk TW ow da hs vs c ivs H ls vt cw ivt K tk8 bs B oh db k6 k7 k2 ts refs its U h9 tk9 hb ou Fb du R7 N7 far7 mU mB m7 m6 mK' mTW' mO' mH' mTH' m5' m3' m4' D1' D2' D3'
    exact hK.out⟩
set_option maxHeartbeats 4000000 in
def S17 : (P : Prop) ×' (Q : Prop) ×' (Flt.Hid P → Flt.Hid Q → S16.1) := ⟨_, _, fun hK hL => by
  intro w
  set_option tactic.hygienic false in intros
  have MF := facts us gl hul hub hg1 hg2
  repeat ((fail_if_success (with_reducible show wpAny _ _ (exec (Stmt.For _ _ _ _ _) _) _ _ _)); walk_at "m:step")
  refine For_turns Fb ?_ (by intro _; rfl) hpo
  repeat ((fail_if_success (with_reducible show wpAny _ _ (pyIter _) _ _ _)); walk_at "m:step")
  rename IsRange _ _ _ _ _ _ _ _ => hrg
  rename Fr _ _ _ _ => Fc
  rename News _ _ _ _ => Nc
  refine turns_rng (n := 5) (fun i m₁ nx => ∃ td om ov, nx = (L + 1 + 1, om) :: R7 ∧ om.data = .cell ov ∧ m₁ = fun z => if z = Str.ofString "told" then td else if z = Str.ofString "likes" then some (Value.ref K) else if z = Str.ofString "heaps" then some (Value.ref H) else if z = Str.ofString "goal" then some (Value.int (gl : Int) tkg) else if z = Str.ofString "script" then some (Value.ref sc) else none) (by rfl) hrg (by decide) (by decide) Fc Nc ⟨none, c2, none, rfl, e2', ?_⟩ ?_ ?_
  · funext z
    by_cases h1 : z = Str.ofString "told"
    · subst h1; rfl
    · simp only [h1, if_false]
  · rintro i t m₁ nx h tk I oI hi5 ⟨td, om, ov, rfl, dm, rfl⟩ farI F N
    clear hend Fc Nc hrg
    (try clear Fb); (try clear N7)
    dsimp only
    repeat ((fail_if_success (with_reducible show wpAny _ _ (storeName _ _ _) _ _ _)); walk_at "m:step")
    refine store_cell (v := .int (i : Int) t) F N rfl (.tail _ (.head _)) dm ?_ rfl rfl
    intro h1 om1 F1 N1' dm1
    have N1 := N1' ((I, oI) :: R7) (all_cons ⟨.head _, Ne.symm (farI _ (.head _))⟩ (fun q hq => ⟨.tail _ (.tail _ hq), far7 q hq⟩))
    have fI2 : @Ne Nat (L + 1 + 1) I := farI _ (.head _)
    have farR : ∀ p ∈ R7, p.1 ≠ I := fun p hp => farI p (.tail _ hp)
    clear farI N1' F N dm om
    have sR : ∀ q ∈ R7, q ∈ (L + 1 + 1, om1) :: (I, oI) :: R7 := fun q hq => .tail _ (.tail _ hq)
    obtain ⟨ah, wh, kh, eh, mh, dh⟩ := dat_heap (f := heapD us (toZ (List.range gl))) (g := fun m => (heapN us (toZ (List.range gl)) m).map pairD) (fun _ => rfl) D1' hi5
    obtain ⟨al, wl, kl, el, ml, dl⟩ := dat_heap (f := heapD us (toZ ((List.range gl).map (· % 3)))) (g := fun m => (heapN us (toZ ((List.range gl).map (· % 3))) m).map pairD) (fun _ => rfl) D2' hi5
    have hyl : yo.length = 5 := by have := hus.length; simp only [toZ, List.length_map] at this; omega
    have hhl : hs.length = 5 := by have := D1'.length; simpa using this
    have hll : ls.length = 5 := by have := D2'.length; simpa using this
    have hwl : wh.length = heapL us gl i := by have := dh.length; simpa [heapL] using this
    have hwb : heapL us gl i ≤ 22 := heapL_le us gl i hg2
    dsimp only
    repeat ((fail_if_success (with_reducible show wpAny _ _ (exec (Stmt.Assign _ (Expr.ListComp _ _ _ _) _) _) _ _ _)); walk_at "m:step")
    refine LCg.Assign_ListComp_U (F₀ := F1) (by rfl) (by with_unfolding_all rfl) (by with_unfolding_all rfl) (by decide) (by rfl) (by decide) (by rfl) (by rfl) (by rfl) ?_
    repeat ((fail_if_success (with_reducible show wpAny _ _ (subscriptTail _ _ _ _) _ _ _)); walk_at "m:step")
    refine item_any N1 (sR _ mH') (by omega) (by omega) (seqIndex_at (i := i) (by omega) (by omega)) eh ?_
    repeat ((fail_if_success (with_reducible show wpAny _ _ (call (Value.builtin _) _) _ _ _)); walk_at "m:step")
    refine len_led N1 (sR _ mh) (by omega) ?_
    rw [hwl]
    generalize hnn : heapL us gl i = nn at *
    repeat ((fail_if_success (with_reducible show LCg.CompSrc _ _ _ _ _ _ _ _ _ _ _ _ _ _)); walk_at "m:step")
    rename IsRange _ _ _ _ _ _ _ _ => hrg
    refine LCg.CompSrc.range (n := nn) (by rfl) (by k_asm) (by k_asm) hrg (small_one (by omega) (by omega) (by omega) (by omega)) (by rw [rangeSize_nat]; omega) (by exact Nat.le_trans hwb (by decide)) ?_
    intro g'
    dsimp only
    refine comp_inv (fun k ys nw => nw = (L + 1 + 1, om1) :: (I, oI) :: R7 ∧ IntsAre ys (toZ (toldN us i k))) ?_ ?_ nn 0 [] _ (Nat.zero_add _) ⟨rfl, .nil⟩
    · rintro k ys nw v I2 oI2 C oC Dd m2 h tk E' hk ⟨rfl, ids⟩ ⟨t2, rfl⟩ hC hx F N off ne
      rw [Int.zero_add] at *
      dsimp only
      have hpl := MF.place i hi5 k (by rw [hnn]; exact hk)
      repeat ((fail_if_success (with_reducible show wpAny _ _ (subscriptTail _ _ _ _) _ _ _)); walk_at "m:step")
      refine ksa_sub N (by k_mem) hus (by omega) (by simp only [toZ, List.length_map]; omega) (by omega) ?_
      intro t5
      rw [Int.toNat_natCast, toZ_getD]
      repeat ((fail_if_success (with_reducible show wpAny _ _ (subscriptTail _ _ _ _) _ _ _)); walk_at "m:step")
      have hsl : Heap.IsList h O yo.toArray := PySem.IsL.isList (n := yo.length) (N (O, listOf yo.toArray yo.length) (.tail _ (.tail _ (.tail _ (.tail _ (.tail _ mO')))))).1
      refine' kmk_slice_lit F N hsl ?pa ?pb rfl ?_ ?pe ?pf ?pg
      case pa => kmk_part
      case pb => kmk_part
      case pe => with_unfolding_all rfl
      case pf => intro _; with_unfolding_all rfl
      case pg => simp only [List.size_toArray, hyl]; decide
      intro D2 h3 F3 N3 l3
      have hms := kmk_upto hus (y := (i : Int)) (by omega)
      rw [Int.toNat_natCast, show (toZ us).take i = toZ (us.take i) by simp [toZ, List.map_take]] at hms
      generalize (slicePick yo.toArray none (some (i : Int)) none).toList = zs at N3 hms
      dsimp only
      repeat ((fail_if_success (with_reducible show wpAny _ _ (call _ _) _ _ _)); walk_at "m:step")
      rw [show ((us.getD i 0 : Nat) : Int) + (k : Int) * ((i : Int) + 2) = ((us.getD i 0 + k * (i + 2) : Nat) : Int) by push_cast; rfl]
      refine Ctr.use (column_ctr w mean mg mb (us := us.take i) hpl (by rw [List.length_take]; omega) (take_bound hub) _ hms (.head _)) K1 F3 KX N3 T rfl (by ktr_room) (by ktr_units) ?_
      rintro r4 h4 tk4 n4 F4 N4 ⟨⟨t4, rfl⟩, rfl⟩
      rw [List.length_take, Nat.min_eq_left (by omega)]
      refine LCg.CompEnd.intro F4 N4 _ (fun p hp => .tail _ hp) off trivial ⟨rfl, ?_⟩
      rw [show toZ (toldN us i (k + 1)) = toZ (toldN us i k) ++ [((colN (us.take i) i ((i + 1) * (us.getD i 0 + k * (i + 2))) : Nat) : Int)] by simp [toldN, toZ, List.range_succ]]
      exact ids.append (.cons _ _ .nil)
    · rintro ys nw ⟨rfl, ids⟩ TD h4 tk4 F4 N4 off
      dsimp only at F4 ⊢
      replace F4 := Fr.to F4 (m' := fun z => if z = Str.ofString "told" then some (.ref TD) else if z = Str.ofString "likes" then some (Value.ref K) else if z = Str.ofString "heaps" then some (Value.ref H) else if z = Str.ofString "goal" then some (Value.int (gl : Int) tkg) else if z = Str.ofString "script" then some (Value.ref sc) else none) (fun y => by
        by_cases h1 : y = Str.ofString "told"
        · subst h1; rfl
        · simp only [h1, if_false])
      have oT := off1_in off
      clear hrg g' off
      (try clear F1 N1 h1)
      repeat (rename_i x; clear x)
      revert w mg mb fa cda sc c2 qk ek e2' mean L hpo h₀ gg gd gt go KX K1 T d5 h5 yo O h7 oo d7 us hus hul hub gl hg1 hg2 tkg TH ot d8 TW ow da hs vs c ivs H ls vt cw ivt K tk8 bs B oh db k6 k7 k2 ts refs its U h9 tk9 hb ou du R7 far7 mU mB m7 m6 mK' mTW' mO' mH' mTH' m5' m3' m4' D1' D2' D3' MF i t h tk I oI hi5 td ov h1 om1 dm1 fI2 farR sR ah wh kh eh mh dh al wl kl el ml dl hyl hhl hll nn hnn hwl hwb ys ids TD h4 tk4 N4 F4 oT
      exact hK.out
  · rintro m₁ nx h tk ⟨td, om, ov, rfl, dm, rfl⟩ F N
    clear Fc Nc hrg
    (try clear Fb); (try clear N7)
    repeat (rename_i x; clear x)
    dsimp only at F N ⊢
    rename_i tk0 F' N' h' tk_1
    revert w mg mb fa cda sc c2 qk ek e2' mean L hpo h₀ gg gd gt go KX K1 T hend d5 h5 yo O h7 oo d7 us hus hul hub gl hg1 hg2 tkg TH ot d8 tk0 TW ow da hs vs c ivs H ls vt cw ivt K tk8 bs B oh db k6 k7 k2 ts refs its U h9 tk9 hb ou F' du R7 N' far7 mU mB m7 m6 mK' mTW' mO' mH' mTH' m5' m3' m4' D1' D2' D3' MF h' tk_1 h tk td om ov dm F N
    exact hL.out⟩
set_option maxHeartbeats 4000000 in
theorem S18 : S17.1 := by
  intro w
  set_option tactic.hygienic false in intros
  have hyn : ys.length = nn := by have := ids.length; simpa [toZ, toldN] using this
  have hzn : (toZ (toldN us i nn)).length = nn := by simp [toZ, toldN]
  have sR4 : ∀ q ∈ R7, q ∈ (TD, LCg.lst ys) :: (L + 1 + 1, om1) :: (I, oI) :: R7 := fun q hq => .tail _ (.tail _ (.tail _ hq))
  repeat ((fail_if_success (with_reducible show wpAny _ _ (subscriptTail _ _ _ _) _ _ _)); walk_at "m:step")
  refine item_any N4 (sR4 _ mH') (by omega) (by omega) (seqIndex_at (i := i) (by omega) (by omega)) eh ?_
  repeat ((fail_if_success (with_reducible show wpAny _ _ (eval (Expr.ListComp _ _ _ _) _) _ _ _)); walk_at "m:step")
  refine LCg.ListComp_U (F₀ := F4) (by with_unfolding_all rfl) (by decide) (by rfl) (by decide) (by rfl) ?_
  repeat ((fail_if_success (with_reducible show LCg.CompSrc _ _ _ _ _ _ _ _ _ _ _ _ _ _)); walk_at "m:step")
  refine LCg.CompSrc.ledger (ax := TD) (its := ys.toArray) (k := ys.length) (by rfl) F4 N4 (.head _) (by simp only [List.size_toArray, hyn]; exact Nat.le_trans hwb (by decide)) ?_
  intro g'
  dsimp only
  refine comp_inv (n := nn) (fun k zs nw => ∃ mk, nw = mk ++ ((TD, LCg.lst ys) :: (L + 1 + 1, om1) :: (I, oI) :: R7) ∧ DatAll mk zs (((toZ (toldN us i nn)).take k).map pairD) ∧ ∀ x ∈ mk, ∀ y ∈ ((TD, LCg.lst ys) :: (L + 1 + 1, om1) :: (I, oI) :: R7), @LT.lt Nat _ y.1 x.1) ?_ ?_ _ 0 [] _ (by simp [hyn]) ⟨[], rfl, .nil, fun _ h => nomatch h⟩
  · rintro k zs nw v I2 oI2 C oC Dd m2 h tk E' hk ⟨mk, rfl, dat, fr⟩ hP hC hx F N off ne
    obtain ⟨t2, rfl⟩ : ∃ t, v = .int ((toZ (toldN us i nn)).getD k 0) t := by
      obtain ⟨n, t, rfl, hn⟩ := ids.at k v (by simpa using hP)
      exact ⟨t, by simp [List.getD, hn]⟩
    dsimp only
    k_steps
    rw [take_getD _ (by rw [hzn]; exact hk), List.map_append]
    exact new_end (by k_asm) (by k_asm) (by assumption) dat (.list (.head _) (.cons (.int _ _) (.cons .none .nil))) fr off (.inr ⟨_, List.mem_append_right _ (.head _), rfl, _, rfl⟩)
  · rintro zs nw ⟨mk, rfl, dat, fr⟩ Z h5 tk5 F5 N5 off
    rw [List.take_of_length_le (by rw [hzn]; exact Nat.le_refl _)] at dat
    dsimp only
    refine kqd_ne N5 (.tail _ (List.mem_append_right _ (sR4 _ mh))) rfl rfl dh (fun p hp => .tail _ (List.mem_append_right _ (sR4 p hp))) (.head _) rfl rfl dat (fun p hp => .tail _ (List.mem_append_left _ hp)) (pairs_ok _) (pairs_ok _) (by ktr_units) ?_
    rw [dec_true (by rw [MF.heap i hi5, hnn])]
    clear dat
    replace N5 := newsPick N5 (l' := (TD, LCg.lst ys) :: (L + 1 + 1, om1) :: (I, oI) :: R7) (fun p hp => .tail _ (List.mem_append_right _ hp))
    clear off fr F4 N4 g' mk zs Z
    (try simp only [Bool.not_true])
    repeat ((fail_if_success (with_reducible show wpAny _ _ (subscriptTail _ _ _ _) _ _ _)); walk_at "m:step")
    refine item_any N5 (sR4 _ mK') (by omega) (by omega) (seqIndex_at (i := i) (by omega) (by omega)) el ?_
    repeat ((fail_if_success (with_reducible show wpAny _ _ (eval (Expr.ListComp _ _ _ _) _) _ _ _)); walk_at "m:step")
    refine LCg.ListComp_U (F₀ := F5) (by with_unfolding_all rfl) (by decide) (by rfl) (by decide) (by rfl) ?_
    repeat ((fail_if_success (with_reducible show LCg.CompSrc _ _ _ _ _ _ _ _ _ _ _ _ _ _)); walk_at "m:step")
    refine LCg.CompSrc.ledger (ax := TD) (its := ys.toArray) (k := ys.length) (by rfl) F5 N5 (.head _) (by simp only [List.size_toArray, hyn]; exact Nat.le_trans hwb (by decide)) ?_
    intro g'
    dsimp only
    have hzm : (toZ ((toldN us i nn).map (· % 3))).length = nn := by simp [toZ, toldN]
    refine comp_inv (n := nn) (fun k zs nw => ∃ mk, nw = mk ++ ((TD, LCg.lst ys) :: (L + 1 + 1, om1) :: (I, oI) :: R7) ∧ DatAll mk zs (((toZ ((toldN us i nn).map (· % 3))).take k).map pairD) ∧ ∀ x ∈ mk, ∀ y ∈ ((TD, LCg.lst ys) :: (L + 1 + 1, om1) :: (I, oI) :: R7), @LT.lt Nat _ y.1 x.1) ?_ ?_ _ 0 [] _ (by simp [hyn]) ⟨[], rfl, .nil, fun _ h => nomatch h⟩
    · rintro k zs nw v I2 oI2 C oC Dd m2 h tk E' hk ⟨mk, rfl, dat, fr⟩ hP hC hx F N off ne
      obtain ⟨t2, rfl⟩ : ∃ t, v = .int (((toldN us i nn).getD k 0 : Nat) : Int) t := by
        obtain ⟨n, t, rfl, hn⟩ := ids.at k v (by simpa using hP)
        have : n = (toZ (toldN us i nn)).getD k 0 := by simp [List.getD, hn]
        exact ⟨t, by rw [this, toZ_getD]⟩
      dsimp only
      k_steps
      rw [take_getD _ (by rw [hzm]; exact hk), List.map_append]
      refine new_end (by k_asm) (by k_asm) (by assumption) dat (.list (.head _) ?_) fr off (.inr ⟨_, List.mem_append_right _ (.head _), rfl, _, rfl⟩)
      rw [toZ_getD, map_getD3 (by simpa [toldN] using hk), ← mod3_int]
      exact .cons (.int _ _) (.cons .none .nil)
    · rintro zs nw ⟨mk, rfl, dat, fr⟩ Z h6 tk6 F6 N6 off
      rw [List.take_of_length_le (by rw [hzm]; exact Nat.le_refl _)] at dat
      dsimp only
      refine kqd_ne N6 (.tail _ (List.mem_append_right _ (sR4 _ ml))) rfl rfl dl (fun p hp => .tail _ (List.mem_append_right _ (sR4 p hp))) (.head _) rfl rfl dat (fun p hp => .tail _ (List.mem_append_left _ hp)) (pairs_ok _) (pairs_ok _) (by ktr_units) ?_
      rw [dec_true (by rw [MF.like i hi5, hnn])]
      clear dat
      replace N6 := newsPick N6 (l' := (TD, LCg.lst ys) :: (L + 1 + 1, om1) :: (I, oI) :: R7) (fun p hp => .tail _ (List.mem_append_right _ hp))
      clear off fr F5 N5 g' mk zs Z
      (try simp only [Bool.not_true])
      repeat ((fail_if_success (with_reducible show wpAny _ _ (eval (Expr.ListComp _ _ _ _) _) _ _ _)); walk_at "m:step")
      refine LCt.ListComp_T (F₀ := F6) (by with_unfolding_all rfl) (by decide) (by rfl) (by decide) (by rfl) ?_
      repeat ((fail_if_success (with_reducible show LCt.CompSrcT _ _ _ _ _ _ _ _ _ _ _ _ _ _ _)); walk_at "m:step")
      rename IsRange _ _ _ _ _ _ _ _ => hrg
      refine LCt.CompSrcT.range (n := gl) (by rfl) (by k_asm) (by k_asm) hrg (small_one (by omega) (by omega) (by omega) (by omega)) (by rw [rangeSize_nat]; omega) (by exact Nat.le_trans hg2 (by decide)) ?_
      intro g'
      dsimp only
      refine comp_invT (fun k zs nw => nw = (TD, LCg.lst ys) :: (L + 1 + 1, om1) :: (I, oI) :: R7 ∧ IntsAre zs (toZ ((List.range k).filter (fun t => firstZ (fillI (toZ us) t) == i)))) ?_ ?_ gl 0 [] _ (Nat.zero_add _) ⟨rfl, .nil⟩
      · rintro k zs nw v I2 oI2 C oC Dd m2 h tk E' hk ⟨rfl, izs⟩ ⟨t2, rfl⟩ hC hx F N off ne
        rw [Int.zero_add] at *
        dsimp only
        repeat ((fail_if_success (with_reducible show wpAny _ _ (subscriptTail _ _ _ _) _ _ _)); walk_at "m:step")
        refine ksa_sub N (by k_mem) its (by omega) (by simpa [toZ] using hk) (by omega) ?_
        intro t5
        rw [Int.toNat_natCast, toZ_getD, show ((List.range gl).map fun k => firstZ (fillI (toZ us) k)).getD k 0 = firstZ (fillI (toZ us) k) by simp [List.getD, hk]]
        repeat ((fail_if_success (with_reducible show wpAny _ _ (compareOp _ _ _) _ _ _)); walk_at "m:step")
        repeat walk_at "m:step"
        · have hz : firstZ (fillI (toZ us) k) = i := by omega
          refine LCg.CompEnd.intro F N _ (fun p hp => hp) off trivial ⟨rfl, ?_⟩
          rw [flt_yes (p := fun t => firstZ (fillI (toZ us) t) == i) (by simpa using hz)]
          exact izs.append (.cons _ _ .nil)
        · have hz : ¬ firstZ (fillI (toZ us) k) = i := by omega
          refine LCg.CompEnd.intro F N _ (fun p hp => hp) off trivial ⟨rfl, ?_⟩
          rw [flt_no (p := fun t => firstZ (fillI (toZ us) t) == i) (by simpa using hz)]
          exact izs
      · rintro zs nw ⟨rfl, izs⟩ Z h7 tk7 F7 N7 off
        dsimp only
        refine kqd_ne N7 (.tail _ (.head _)) rfl rfl (ints_dat (R := []) ids) (List.forall_mem_nil _) (.head _) rfl rfl (ints_dat (R := []) izs) (List.forall_mem_nil _) (ints_ok _) (ints_ok _) (by ktr_units) ?_
        rw [dec_true (by rw [← MF.turn i hi5, hnn])]
        (try simp only [Bool.not_true])
        replace N7 := newsPick N7 (l' := (L + 1 + 1, om1) :: (I, oI) :: R7) (fun p hp => .tail _ (.tail _ hp))
        repeat ((fail_if_success (with_reducible show ∃ _, _)); walk_at "m:step")
        dsimp only
        exact ⟨_, _, _, (L + 1 + 1, om1) :: R7, rfl, F7, newsSwap N7, far_cons fI2 farR, _, _, _, rfl, dm1, rfl⟩
set_option maxHeartbeats 4000000 in
def S19 : {P : Prop // Flt.Hid P → S17.2.1} := ⟨_, fun hK => by
  intro w
  set_option tactic.hygienic false in intros
  have sR : ∀ q ∈ R7, q ∈ (L + 1 + 1, om) :: R7 := fun q hq => .tail _ hq
  have hyl : yo.length = 5 := by have := hus.length; simp only [toZ, List.length_map] at this; omega
  have hvl : vs.length = rowL us gl := ivs.length
  have hrb : rowL us gl ≤ 22 := by
    refine Nat.le_trans (rowN_len _ _ _) ?_
    simp only [toZ, List.length_map, List.length_range]; exact hg2
  repeat ((fail_if_success (with_reducible show wpAny _ _ (exec (Stmt.Assign _ (Expr.ListComp _ _ _ _) _) _) _ _ _)); walk_at "m:step")
  refine LCg.Assign_ListComp_U (F₀ := F) (by rfl) (by with_unfolding_all rfl) (by with_unfolding_all rfl) (by decide) (by rfl) (by decide) (by rfl) (by rfl) (by rfl) ?_
  repeat ((fail_if_success (with_reducible show wpAny _ _ (call (Value.builtin _) _) _ _ _)); walk_at "m:step")
  refine len_led N (sR _ mTH') (by omega) ?_
  rw [hvl]
  generalize hnn : rowL us gl = nn at *
  repeat ((fail_if_success (with_reducible show LCg.CompSrc _ _ _ _ _ _ _ _ _ _ _ _ _ _)); walk_at "m:step")
  rename IsRange _ _ _ _ _ _ _ _ => hrg
  refine LCg.CompSrc.range (n := nn + 1) (by rfl) (by k_asm) (by k_asm) hrg (small_one (by omega) (by omega) (by omega) (by omega)) (by rw [show (nn : Int) + 1 = ((nn + 1 : Nat) : Int) by omega, rangeSize_nat]; omega) (by exact Nat.le_trans (Nat.succ_le_succ hrb) (by decide)) ?_
  intro g'
  dsimp only
  refine comp_inv (fun k ys nw => nw = (L + 1 + 1, om) :: R7 ∧ IntsAre ys (toZ ((List.range k).map fun t => colN us 5 (6 * t)))) ?_ ?_ (nn + 1) 0 [] _ (Nat.zero_add _) ⟨rfl, .nil⟩
  · rintro k ys nw v I2 oI2 C oC Dd m2 h tk E' hk ⟨rfl, ids⟩ ⟨t2, rfl⟩ hC hx F N off ne
    rw [Int.zero_add] at *
    dsimp only
    repeat ((fail_if_success (with_reducible show wpAny _ _ (call _ _) _ _ _)); walk_at "m:step")
    refine Ctr.use (column_ctr w mean mg mb (us := us) (p := k) (by omega) (by omega) hub _ hus (.tail _ (.tail _ (.tail _ (sR _ mO'))))) K1 F KX N T rfl (by ktr_room) (by ktr_units) ?_
    rintro r4 h4 tk4 n4 F4 N4 ⟨⟨t4, rfl⟩, rfl⟩
    rw [hul]
    refine LCg.CompEnd.intro F4 N4 _ (fun p hp => hp) off trivial ⟨rfl, ?_⟩
    rw [toZ_snoc]
    exact ids.append (.cons _ _ .nil)
  · rintro ys nw ⟨rfl, ids⟩ EN h4 tk4 F4 N4 off
    have N5 : News h₀ L h4 ((EN, LCg.lst ys) :: (L + 1 + 1, om) :: R7) := N4
    replace F4 := (show Fr h₀ L h4 _ from F4)
    dsimp only at F4 ⊢
    clear off N4 hrg g'
    repeat (rename_i x; clear x)
    revert w mg mb fa cda sc c2 qk ek e2' mean L hpo h₀ gg gd gt go KX K1 T hend d5 h5 yo O h7 oo d7 us hus hul hub gl hg1 hg2 tkg TH ot d8 tk0 TW ow da hs vs c ivs H ls vt cw ivt K tk8 bs B oh db k6 k7 k2 ts refs its U h9 tk9 hb ou F' du R7 N' far7 mU mB m7 m6 mK' mTW' mO' mH' mTH' m5' m3' m4' D1' D2' D3' MF h' tk_1 h tk td om ov dm sR hyl nn hnn hvl hrb ys ids EN h4 tk4 N5 F4
    exact hK.out⟩
set_option maxHeartbeats 4000000 in
def S20 : {P : Prop // Flt.Hid P → S19.1} := ⟨_, fun hK => by
  intro w
  set_option tactic.hygienic false in intros
  have sR5 : ∀ q ∈ R7, q ∈ (EN, LCg.lst ys) :: (L + 1 + 1, om) :: R7 := fun q hq => .tail _ (.tail _ hq)
  have hyn : ys.length = nn + 1 := by have := ids.length; simpa [toZ] using this
  repeat ((fail_if_success (with_reducible show wpAny _ _ (subscriptTail _ _ _ _) _ _ _)); walk_at "m:step")
  have hsl : Heap.IsList h4 EN ys.toArray := PySem.IsL.isList (n := ys.length) (N5 (EN, LCg.lst ys) (.head _)).1
  refine' kmk_slice_lit F4 N5 hsl ?pa ?pb rfl ?_ ?pe ?pf ?pg
  case pa => kmk_part
  case pb => kmk_part
  case pe => with_unfolding_all rfl
  case pf => intro _; with_unfolding_all rfl
  case pg => simp only [List.size_toArray, hyn]; exact Nat.le_trans (Nat.succ_le_succ hrb) (by decide)
  intro D2 h5 F5 N6 l5
  have hms := kmk_upto_neg ids (y := -1) (by omega)
  rw [show (toZ ((List.range (nn + 1)).map fun t => colN us 5 (6 * t))).take ((toZ ((List.range (nn + 1)).map fun t => colN us 5 (6 * t))).length - (-(-1 : Int)).toNat) = toZ ((List.range nn).map fun t => colN us 5 (6 * t)) by simp [toZ, List.range_succ]] at hms
  generalize (slicePick ys.toArray none (some (-1)) none).toList = zs at N6 hms
  dsimp only
  repeat ((fail_if_success (with_reducible show wpAny _ _ (compareOp _ _ _) _ _ _)); walk_at "m:step")
  refine kqd_ne N6 (.tail _ (sR5 _ mTH')) rfl rfl (ints_dat (R := []) ivs) (List.forall_mem_nil _) (.head _) rfl rfl (ints_dat (R := []) hms) (List.forall_mem_nil _) (ints_ok _) (ints_ok _) (by ktr_units) ?_
  rw [dec_true (by rw [MF.row, hnn])]
  (try simp only [Bool.not_true])
  replace N6 := newsPick N6 (fun p hp => .tail _ hp)
  clear F4 N5 l5 hsl hms zs
  repeat ((fail_if_success (with_reducible show wpAny _ _ (subscriptTail _ _ _ _) _ _ _)); walk_at "m:step")
  obtain ⟨tE, hE⟩ : ∃ t, ys[nn]? = some (.int ((colN us 5 (6 * nn) : Nat) : Int) t) := ids.get nn _ (by simp [toZ])
  have hnx : gl ≤ colN us 5 (6 * nn) := by have := MF.next; rwa [hnn] at this
  refine item_any N6 (.head _) (by omega) (by omega) (j := nn) (by rw [hyn]; exact seq_last nn) hE ?_
  repeat ((fail_if_success (with_reducible show wpAny _ _ (eval (Expr.ListComp _ _ _ _) _) _ _ _)); walk_at "m:step")
  dsimp only
  refine LCt.ListComp_T (F₀ := F5) (by with_unfolding_all rfl) (by decide) (by rfl) (by decide) (by rfl) ?_
  repeat ((fail_if_success (with_reducible show LCt.CompSrcT _ _ _ _ _ _ _ _ _ _ _ _ _ _ _)); walk_at "m:step")
  rename IsRange _ _ _ _ _ _ _ _ => hrg
  refine LCt.CompSrcT.range (n := gl) (by rfl) (by k_asm) (by k_asm) hrg (small_one (by omega) (by omega) (by omega) (by omega)) (by rw [rangeSize_nat]; omega) (by exact Nat.le_trans hg2 (by decide)) ?_
  intro g'
  dsimp only
  refine comp_invT (fun k zs nw => nw = (EN, LCg.lst ys) :: (L + 1 + 1, om) :: R7 ∧ IntsAre zs (toZ ((List.range k).filter (fun t => firstZ (fillI (toZ us) t) == 5)))) ?_ ?_ gl 0 [] _ (Nat.zero_add _) ⟨rfl, .nil⟩
  · rintro k zs nw v I2 oI2 C oC Dd m2 h tk E' hk ⟨rfl, izs⟩ ⟨t2, rfl⟩ hC hx F N off ne
    rw [Int.zero_add] at *
    dsimp only
    repeat ((fail_if_success (with_reducible show wpAny _ _ (subscriptTail _ _ _ _) _ _ _)); walk_at "m:step")
    refine ksa_sub N (by k_mem) its (by omega) (by simpa [toZ] using hk) (by omega) ?_
    intro t5
    rw [Int.toNat_natCast, toZ_getD, show ((List.range gl).map fun k => firstZ (fillI (toZ us) k)).getD k 0 = firstZ (fillI (toZ us) k) by simp [List.getD, hk]]
    repeat walk_at "m:step"
    · have hz : firstZ (fillI (toZ us) k) = 5 := by omega
      refine LCg.CompEnd.intro F N _ (fun p hp => hp) off trivial ⟨rfl, ?_⟩
      rw [flt_yes (p := fun t => firstZ (fillI (toZ us) t) == 5) (by simpa using hz)]
      exact izs.append (.cons _ _ .nil)
    · have hz : ¬ firstZ (fillI (toZ us) k) = 5 := by omega
      refine LCg.CompEnd.intro F N _ (fun p hp => hp) off trivial ⟨rfl, ?_⟩
      rw [flt_no (p := fun t => firstZ (fillI (toZ us) t) == 5) (by simpa using hz)]
      exact izs
  · rintro zs nw ⟨rfl, izs⟩ Z h7 tk7 F7 N7 off
    dsimp only
    refine kqd_ne N7 (.tail _ (sR5 _ mTH')) rfl rfl (ints_dat (R := []) ivs) (List.forall_mem_nil _) (.head _) rfl rfl (ints_dat (R := []) izs) (List.forall_mem_nil _) (ints_ok _) (ints_ok _) (by ktr_units) ?_
    rw [dec_true (by rw [MF.rest])]
    (try simp only [Bool.not_true])
    replace N7 := newsPick N7 (l' := (L + 1 + 1, om) :: R7) (fun p hp => .tail _ (.tail _ hp))
    clear hrg off izs zs
    (try clear F5); (try clear N6); (try clear g')
    repeat ((fail_if_success (with_reducible show wpAny _ _ (eval (Expr.ListComp _ _ _ _) _) _ _ _)); walk_at "m:step")
    clear sR5 hE hyn
    repeat (rename_i x; clear x)
    revert w mg mb fa cda sc c2 qk ek e2' mean L hpo h₀ gg gd gt go KX K1 T hend d5 yo O oo d7 us hus hul hub gl hg1 hg2 tkg TH ot d8 tk0 TW ow da hs vs c ivs H ls vt cw ivt K tk8 bs B oh db k6 k7 k2 ts refs its U h9 tk9 hb ou F' du R7 N' far7 mU mB m7 m6 mK' mTW' mO' mH' mTH' m5' m3' m4' D1' D2' D3' MF h' tk_1 h tk td om ov dm sR hyl nn hnn hvl hrb ys ids EN h4 tk4 D2 h5 tE hnx Z h7 tk7 F7 N7
    exact hK.out⟩
set_option maxHeartbeats 4000000 in
theorem S21 : S20.1 := by
  intro w
  set_option tactic.hygienic false in intros
  have sR : ∀ q ∈ R7, q ∈ (L + 1 + 1, om) :: R7 := fun q hq => .tail _ hq
  have hvl' : vs.length = nn := hvl
  have ivr : IntsAre vs (toZ ((List.range nn).map fun t => colN us 5 (6 * t))) := by have := MF.row; rw [hnn] at this; rw [← this]; exact ivs
  refine LCg.ListComp_U (F₀ := F7) (by with_unfolding_all rfl) (by decide) (by rfl) (by decide) (by rfl) ?_
  repeat ((fail_if_success (with_reducible show LCg.CompSrc _ _ _ _ _ _ _ _ _ _ _ _ _ _)); walk_at "m:step")
  refine LCg.CompSrc.ledger (ax := TH) (its := vs.toArray) (k := c) (by rfl) F7 N7 (sR _ mTH') (by simp only [List.size_toArray, hvl']; exact Nat.le_trans hrb (by decide)) ?_
  intro g'
  dsimp only
  refine comp_inv (n := nn) (fun k zs nw => nw = (L + 1 + 1, om) :: R7 ∧ IntsAre zs (toZ ((List.range k).map fun t => colN us 5 (6 * t) % 3))) ?_ ?_ _ 0 [] _ (by simp [hvl']) ⟨rfl, .nil⟩
  · rintro k zs nw v I2 oI2 C oC Dd m2 h tk E' hk ⟨rfl, izs⟩ hP hC hx F N off ne
    obtain ⟨t2, rfl⟩ : ∃ t, v = .int ((colN us 5 (6 * k) : Nat) : Int) t := by
      obtain ⟨n, t, rfl, hn⟩ := ivr.at k v (by simpa using hP)
      have : (toZ ((List.range nn).map fun t => colN us 5 (6 * t)))[k]? = some ((colN us 5 (6 * k) : Nat) : Int) := by simp [toZ, hk]
      rw [this] at hn
      exact ⟨t, by rw [Option.some.inj hn]⟩
    dsimp only
    k_steps
    rw [toZ_snoc, mod3_int]
    exact LCg.CompEnd.intro F N _ (fun p hp => hp) off (.inr ⟨_, sR _ mTH', rfl, _, rfl⟩) ⟨rfl, izs.append (.cons _ _ .nil)⟩
  · rintro zs nw ⟨rfl, izs⟩ Z h8 tk8 F8 N8 off
    dsimp only
    refine kqd_eq N8 (.tail _ (sR _ mTW')) rfl rfl (ints_dat (R := []) ivt) (List.forall_mem_nil _) (.head _) rfl rfl (ints_dat (R := []) izs) (List.forall_mem_nil _) (ints_ok _) (ints_ok _) (by ktr_units) ?_
    rw [dec_true (by rw [MF.twin, hnn, List.map_map]; rfl)]
    replace N8 := newsPick N8 (l' := (L + 1 + 1, om) :: R7) (fun p hp => .tail _ hp)
    clear off izs zs
    repeat ((fail_if_success (with_reducible show wpAny _ _ (eval (Expr.ListComp _ _ _ _) _) _ _ _)); walk_at "m:step")
    refine LCg.ListComp_U (F₀ := F8) (by with_unfolding_all rfl) (by decide) (by rfl) (by decide) (by rfl) ?_
    repeat ((fail_if_success (with_reducible show wpAny _ _ (call _ _) _ _ _)); walk_at "m:step")
    refine Ctr.use (stones_ctr w mean mg mb (us := us) (R := gl) (by omega) (by omega) hub _ hus (sR _ mO')) K1 F8 KX N8 T rfl (by ktr_room) (by ktr_units) ?_
    rintro r9 h9 tk9 n9 F9 N9 ⟨S, ws, cs, rfl, rfl, iws, hS⟩
    rw [hul] at iws
    have hwl : ws.length = 5 := by have := iws.length; rw [this, ← MF.board]; exact fillI_len (by simp only [toZ, List.length_map]; exact hul) gl
    have hzl : (toZ (stN us 5 0 gl)).length = 5 := by rw [← iws.length]; exact hwl
    refine LCg.CompSrc.ledger (ax := S) (its := ws.toArray) (k := cs) (by rfl) F9 N9 (.head _) (by simp only [List.size_toArray, hwl]; decide) ?_
    intro g2
    dsimp only
    refine comp_inv (n := 5) (fun k zs nw => ∃ mk, nw = mk ++ ((S, listOf ws.toArray cs) :: (L + 1 + 1, om) :: R7) ∧ DatAll mk zs (((toZ (stN us 5 0 gl)).take k).map holeD) ∧ ∀ x ∈ mk, ∀ y ∈ ((S, listOf ws.toArray cs) :: (L + 1 + 1, om) :: R7), @LT.lt Nat _ y.1 x.1) ?_ ?_ _ 0 [] _ (by simp [hwl]) ⟨[], rfl, .nil, fun _ h => nomatch h⟩
    · rintro k zs nw v I2 oI2 C oC Dd m2 h tk E' hk ⟨mk, rfl, dat, fr⟩ hP hC hx F N off ne
      clear hend
      obtain ⟨t2, rfl⟩ : ∃ t, v = .int ((toZ (stN us 5 0 gl)).getD k 0) t := by
        obtain ⟨n, t, rfl, hn⟩ := iws.at k v (by simpa using hP)
        exact ⟨t, by simp [List.getD, hn]⟩
      dsimp only
      k_steps
      rw [take_getD _ (by rw [hzl]; exact hk), List.map_append]
      exact new_end (by k_asm) (by k_asm) (by assumption) dat (.list (.head _) (.cons (.int _ _) .nil)) fr off (.inr ⟨_, List.mem_append_right _ (.head _), rfl, _, rfl⟩)
    · rintro zs nw ⟨mk, rfl, dat, fr⟩ Z2 h10 tk10 F10 N10 off
      rw [List.take_of_length_le (by rw [hzl]; exact Nat.le_refl _)] at dat
      dsimp only
      refine kqd_eq N10 (.tail _ (List.mem_append_right _ (.tail _ (sR _ mB)))) rfl rfl D3' (fun p hp => .tail _ (List.mem_append_right _ (.tail _ (sR p hp)))) (.head _) rfl rfl dat (fun p hp => .tail _ (List.mem_append_left _ hp)) (holes_ok _) (holes_ok _) (by ktr_units) ?_
      rw [dec_true (by rw [MF.board])]
      exact hend _ _ _ F10
theorem main : Challenge.rw_pk0078_01.Holds := S10.2 ⟨S11.2 ⟨S12.2 ⟨S13.2 ⟨S14.2 ⟨S15.2 ⟨S16.2 ⟨S17.2.2 ⟨S18⟩ ⟨S19.2 ⟨S20.2 ⟨S21⟩⟩⟩⟩⟩⟩⟩⟩⟩⟩
end Mine
end
theorem PySem.Challenge.cw_pk0078_01_holds : PySem.Challenge.rw_pk0078_01.Holds :=
  Mine.main
